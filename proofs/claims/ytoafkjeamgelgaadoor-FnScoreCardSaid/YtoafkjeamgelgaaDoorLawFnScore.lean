/-
  THE LAW FnScore: for every input that reads as data the law returns true, and each argument reads afterwards as it read before. Conditions: none beyond the row's own.
-/
import Derived.Test.YtoafkjeamgelgaaDoorRows
import Derived.Test.YtoafkjeamgelgaaDoorUGA1
import Derived.Test.YtoafkjeamgelgaaDoorUPFnScore
import Derived.Test.YtoafkjeamgelgaaDoorTie
import Derived.Test.YtoafkjeamgelgaaDoorCards
import Derived.WalkKit
import Derived.LaidMore
import Derived.OpenShut
import Derived.Stop.Joined
import Derived.SevenTiedAt
import Derived.Lib.LaidU8T
import Derived.ProofKit
namespace Go.Proofs.YtoafkjeamgelgaaDoor.fnScore
open Go.ChangeShapes Go.WideShapes Go.ChangeAt Go.RowKit Go.Proofs.YtoafkjeamgelgaaDoorUF
theorem own : ownKnob Tryd.prog.godebug = none := by kernel_rfl
theorem laidOut : laidOutB Tryd.prog = true := by kernel_rfl
theorem spec_eq (H : Type) (ds gs : List (DataW H)) (h1 : ds.length = g4_A.length) (h2 : gs.length = Rows.fnScoreSpec.vars.length) : Rows.fnScoreSpec.fn H (ds ++ gs) = ⟨[.lit (.bool true)], ds, gs⟩ := by
  match ds, gs, h1, h2 with
  | [_, _], [], _, _ => rfl
theorem block_lt {w : World} {a : Addr} {v : Value} (h : w.cell? a = some v) : a.block < w.heap.size := by
  unfold World.cell? at h
  split at h
  · rename_i hb; exact (Array.getElem?_eq_some_iff.1 hb).1
  · cases h
abbrev laid : List (String × DataW Unit) := Rows.fnScoreRow.laid
noncomputable def W0 (os : Os) : World :=
  let w0 := World.doorLaid Tryd.prog 400 os
  let put (h : Array Obj) (g : Nat) (cs : Array Value) : Array Obj := h.modify g fun
    | .cells _ t frozen => .cells cs t frozen
    | o => o
  { w0 with heap := (put w0.heap 2 (Lib.firstTab.map fun z => Value.int .u8 z).toArray) }
set_option maxRecDepth 100000 in
theorem door_met (os : Os) (args : Array Value) : laidMetH Tryd.prog laid ((W0 os).forCall (fun _ _ => 0) ⟨#[], args, []⟩).memory :=
  laidMetH_of_parts3 (fuel := 8) (laidMet_of_run' 8 (by kernel_rfl) (by kernel_rfl)) (by kernel_rfl) (by kernel_rfl)
set_option maxRecDepth 100000 in
theorem lifted (os : Os) (started : os.Started) (H : Type) (enc : TypeId × Value → H) :
    ReturnsInHanded {} Tryd.checked os 4 .any (fun w args => (Rows.fnScoreSpec.pre enc Tryd.prog Tryd.f4 [] false w args ∧ laidMetH Tryd.prog laid w) ∧ sizedMet enc Tryd.prog Tryd.f4 (OpenSpec.ofChange Rows.fnScoreSpec) false w args)
      (Rows.fnScoreSpec.post enc Tryd.prog Tryd.f4 false true false false) := by
  refine returnsInHanded_of_change_and (C := Tryd.checked) (X := fun w _ => laidMetH Tryd.prog laid w) (fun _ _ _ hh h => h.of_heap hh) own started (by kernel_rfl) Tryd.func4
    (ChangeSpec.witness_shaped (enc := enc) (C := Tryd.checked) (os := os) (X := fun w _ => laidMetH Tryd.prog laid w) false (W0 os) #[.slice none 0 0, .slice none 0 0] 8 rfl (World.shaped_of_RefB (by kernel_rfl) (by kernel_rfl)) (by kernel_rfl) (by kernel_rfl) (by kernel_rfl) (door_met os _)) ?_
  intro W base args ds gs before hval hW _ _ hL _
  have hGW : NG ≤ W.heap.size ∧ G0 Tryd.prog W := by
    have hT : Lib.Utf8Tabs 2 3 W := by
      have hL2 := hL
      rw [MakeChecks.laidMetH_plain _ _ _ (by kernel_rfl)] at hL2
      exact utf8Tabs_of_readsT (U8Types.of260 Tryd.lays260) ⟨by kernel_rfl, by kernel_rfl, by kernel_rfl, by kernel_rfl, by kernel_rfl, by kernel_rfl, by kernel_rfl⟩ (Lib.laidMet.reads hL2 (.tail _ (.head _))) (Lib.laidMet.reads hL2 (.head _))
    have hN : 4 ≤ W.heap.size := block_lt ((hT.2 0 (by decide)).1)
    exact ⟨hN, hT⟩
  exact law_calls (s := Rows.fnScoreSpec) (ks := g4_A) (g := g4_f) (tb := 4) g4_fit laidOut (by kernel_rfl) (by kernel_rfl) Tryd.underlying4 (by kernel_rfl) (spec_eq H) FnScore_pure hval hW hGW
theorem over : Rows.fnScoreRow.holds Tryd.pinned (OpenSpec.ofChange Rows.fnScoreSpec) :=
  OpenClaim.holds_of_wide 4 Tryd.f4 rfl rfl rfl rfl rfl rfl rfl ⟨rfl, rfl, rfl, rfl, rfl⟩ rfl rfl rfl rfl rfl (by kernel_rfl) Tryd.func4 (by kernel_rfl)
    (of_decide_eq_true (by kernel_rfl)) (by unfold Func.isWrapper; first | (rw [if_pos (by decide +kernel)]; kernel_rfl) | (rw [if_neg (by decide +kernel)]; exact ⟨rfl, rfl⟩))
    (fun os started H enc _ => lifted os started H enc)
theorem proved : Rows.FnScoreCardSaid :=
  Claim7.holds_tied_plain_at .later [] [.data, .pinned] true (true, "1ac34e372a8266a465fc4c96f40ed3afe003989c50b71a51550bd85de01e7c36") false
    over (fun _ h => by cases h) (by kernel_rfl) (fun _ h => by cases h) fnScore_row_tie rfl ⟨rfl, rfl⟩ (by kernel_rfl) rfl
    (fun f fn hf hfn => by
      obtain rfl : f = 4 := Option.some.inj ((show Tryd.prog.funcNamed "given.example/pub-enjambment/laws.FnScore" = some 4 by kernel_rfl).symm.trans hf) |>.symm
      obtain rfl : fn = Tryd.f4 := (Option.some.inj (Tryd.func4.symm.trans hfn)).symm
      exact ⟨by kernel_rfl, fun j t ht => by
        have hm : t ∈ Tryd.f4.params.toList := by simpa using Array.mem_of_getElem? ht
        have hall : (Tryd.f4.params.toList.all fun u => !Tryd.prog.wantsStandIn u) = true := by kernel_rfl
        exact (show Tryd.prog.wantsStandIn t = false by simpa using List.all_eq_true.1 hall t hm)⟩)
    (by kernel_rfl)
#print axioms proved
end Go.Proofs.YtoafkjeamgelgaaDoor.fnScore
namespace Go.Proofs.YtoafkjeamgelgaaDoor
/-- The tied card, under a short name, for the claim. -/
theorem fnScore_holds : Rows.FnScoreCardSaid := fnScore.proved
end Go.Proofs.YtoafkjeamgelgaaDoor
