/-
  THE LAW FnPrettyPlain: for every input that reads as data the law returns true, and each argument reads afterwards as it read before. Conditions: none beyond the row's own.
-/
import Derived.Test.YtoafkjeamgelgaaDoorRows
import Derived.Test.YtoafkjeamgelgaaDoorHGA0
import Derived.Test.YtoafkjeamgelgaaDoorHPFnPrettyPlain
import Derived.Test.YtoafkjeamgelgaaDoorTie
import Derived.Test.YtoafkjeamgelgaaDoorCards
import Derived.WalkKit
import Derived.LaidMore
import Derived.OpenShut
import Derived.Stop.Joined
import Derived.SevenTiedAt
import Derived.Lib.LaidU8T
import Derived.ProofKit
namespace Go.Proofs.YtoafkjeamgelgaaDoor.fnPrettyPlain
open Go.ChangeShapes Go.WideShapes Go.ChangeAt Go.RowKit Go.Proofs.YtoafkjeamgelgaaDoorHF
theorem own : ownKnob Tryd.prog.godebug = none := by kernel_rfl
theorem laidOut : laidOutB Tryd.prog = true := by kernel_rfl
theorem spec_eq (H : Type) (ds gs : List (DataW H)) (h1 : ds.length = g8_A.length) (h2 : gs.length = Rows.fnPrettyPlainSpec.vars.length) : Rows.fnPrettyPlainSpec.fn H (ds ++ gs) = ⟨[.lit (.bool true)], ds, gs⟩ := by
  match ds, gs, h1, h2 with
  | [_], [], _, _ => rfl
theorem block_lt {w : World} {a : Addr} {v : Value} (h : w.cell? a = some v) : a.block < w.heap.size := by
  unfold World.cell? at h
  split at h
  · rename_i hb; exact (Array.getElem?_eq_some_iff.1 hb).1
  · cases h
abbrev laid : List (String × DataW Unit) := Rows.fnPrettyPlainRow.laid
noncomputable def W0 (os : Os) : World :=
  let w0 := World.doorLaid Tryd.prog 400 os
  let put (h : Array Obj) (g : Nat) (cs : Array Value) : Array Obj := h.modify g fun
    | .cells _ t frozen => .cells cs t frozen
    | o => o
  { w0 with heap := w0.heap }
set_option maxRecDepth 100000 in
theorem door_met (os : Os) (args : Array Value) : laidMetH Tryd.prog laid ((W0 os).forCall (fun _ _ => 0) ⟨#[], args, []⟩).memory :=
  laidMetH_of_parts3 (fuel := 8) (laidMet_of_run' 8 (by kernel_rfl) (by kernel_rfl)) (by kernel_rfl) (by kernel_rfl)
set_option maxRecDepth 100000 in
theorem lifted (os : Os) (started : os.Started) (H : Type) (enc : TypeId × Value → H) :
    ReturnsInHanded {} Tryd.checked os 8 .any (fun w args => (Rows.fnPrettyPlainSpec.pre enc Tryd.prog Tryd.f8 [] false w args ∧ laidMetH Tryd.prog laid w) ∧ sizedMet enc Tryd.prog Tryd.f8 (OpenSpec.ofChange Rows.fnPrettyPlainSpec) false w args)
      (Rows.fnPrettyPlainSpec.post enc Tryd.prog Tryd.f8 false true false false) := by
  refine returnsInHanded_of_change_and (C := Tryd.checked) (X := fun w _ => laidMetH Tryd.prog laid w) (fun _ _ _ hh h => h.of_heap hh) own started (by kernel_rfl) Tryd.func8
    (ChangeSpec.witness_shaped (enc := enc) (C := Tryd.checked) (os := os) (X := fun w _ => laidMetH Tryd.prog laid w) false (W0 os) #[.slice none 0 0] 8 rfl (World.shaped_of_RefB (by kernel_rfl) (by kernel_rfl)) (by kernel_rfl) (by kernel_rfl) (by kernel_rfl) (door_met os _)) ?_
  intro W base args ds gs before hval hW _ _ hL _
  have hGW : NG ≤ W.heap.size ∧ G0 Tryd.prog W := by
        exact ⟨Nat.zero_le _, trivial⟩
  exact GL (s := Rows.fnPrettyPlainSpec) (ks := g8_A) (g := WZ) (tb := 4) WK laidOut (by kernel_rfl) (by kernel_rfl) Tryd.underlying4 (by kernel_rfl) (spec_eq H) FnPrettyPlain_pure hval hW hGW
theorem fact1 : (Tryd.prog.inPlace 8) = Rows.fnPrettyPlainRow.inPlace := by kernel_rfl
theorem fact2 : (Tryd.prog.unfollowed 8) = Rows.fnPrettyPlainRow.unfollowed := by kernel_rfl
theorem fact3 : (Tryd.prog.recurses 8) = Rows.fnPrettyPlainRow.recurses := by kernel_rfl
theorem fact4 : (Tryd.prog.varsNamed 8) = Rows.fnPrettyPlainRow.named := by kernel_rfl
theorem fact5 : mapsRowed Tryd.prog = true := by kernel_rfl
theorem fact6 : Tryd.prog.stopsHeard = true := by kernel_rfl
theorem fact7 : Tryd.prog.mayEnter = true := by kernel_rfl
theorem fact8 : (Rows.fnPrettyPlainRow.lifted == Tryd.prog.liftsFinal) = true := by kernel_rfl
theorem fact9 : (Rows.fnPrettyPlainRow.plainKeys == Tryd.prog.plainKeys) = true := by kernel_rfl
theorem facts : joinedFacts Tryd.prog 8 Tryd.f8 Rows.fnPrettyPlainSpec Rows.fnPrettyPlainRow = true := by
  unfold joinedFacts
  rw [fact1, fact2, fact3, fact4, fact5, fact6, fact7, fact8, fact9, laidOut]
  kernel_rfl
theorem over : Rows.fnPrettyPlainRow.holds Tryd.pinned (OpenSpec.ofChange Rows.fnPrettyPlainSpec) :=
  OpenClaim.holds_of_wide 8 Tryd.f8 rfl rfl rfl rfl rfl rfl rfl ⟨rfl, rfl, rfl, rfl, rfl⟩ rfl rfl rfl rfl rfl (by kernel_rfl) Tryd.func8 facts
    (of_decide_eq_true (by kernel_rfl)) (by unfold Func.isWrapper; first | (rw [if_pos (by decide +kernel)]; kernel_rfl) | (rw [if_neg (by decide +kernel)]; exact ⟨rfl, rfl⟩))
    (fun os started H enc _ => lifted os started H enc)
theorem card1 : Rows.fnPrettyPlainRow.wfByText (OpenSpec.ofChange Rows.fnPrettyPlainSpec) = true := by kernel_rfl
theorem card2 : Tryd.pinned.checked.prog.mainIs = some (((true, "1ac34e372a8266a465fc4c96f40ed3afe003989c50b71a51550bd85de01e7c36") : Bool × String).1, ((true, "1ac34e372a8266a465fc4c96f40ed3afe003989c50b71a51550bd85de01e7c36") : Bool × String).2.toList) := by kernel_rfl
theorem card3 : false = Tryd.pinned.checked.prog.looks [] := by kernel_rfl
theorem card4 : false = Rows.fnPrettyPlainRow.goesBy Tryd.pinned.checked.prog := by kernel_rfl
theorem card5 : Tryd.prog.funcNamed "given.example/pub-enjambment/laws.FnPrettyPlain" = some 8 := by kernel_rfl
theorem card6 : (Tryd.f8.params.toList.all fun u => !Tryd.prog.wantsStandIn u) = true := by kernel_rfl
theorem proved : Rows.FnPrettyPlainCardSaid :=
  Claim7.holds_tied_plain_at .later [] [.sentinel] true (true, "1ac34e372a8266a465fc4c96f40ed3afe003989c50b71a51550bd85de01e7c36") false
    over (fun _ h => by cases h) card1 (fun _ h => by cases h) fnPrettyPlain_row_tie rfl ⟨rfl, rfl⟩ card2 rfl
    (fun f fn hf hfn => by
      obtain rfl : f = 8 := Option.some.inj (card5.symm.trans hf) |>.symm
      obtain rfl : fn = Tryd.f8 := (Option.some.inj (Tryd.func8.symm.trans hfn)).symm
      exact ⟨card3, fun j t ht => by
        have hm : t ∈ Tryd.f8.params.toList := by simpa using Array.mem_of_getElem? ht
        have hall := card6
        exact (show Tryd.prog.wantsStandIn t = false by simpa using List.all_eq_true.1 hall t hm)⟩)
    card4
#print axioms proved
end Go.Proofs.YtoafkjeamgelgaaDoor.fnPrettyPlain
namespace Go.Proofs.YtoafkjeamgelgaaDoor
/-- The tied card, under a short name, for the claim. -/
theorem fnPrettyPlain_holds : Rows.FnPrettyPlainCardSaid := fnPrettyPlain.proved
end Go.Proofs.YtoafkjeamgelgaaDoor
