/-
  THE LAW FnPatchNone: for every input that reads as data the law returns true, and each argument reads afterwards as it read before. Conditions: none beyond the row's own.
-/
import Derived.Test.YtopcfcpbcilfaaaGreatDoorRows
import Derived.Test.YtopcfcpbcilfaaaGreatDoorYGA0
import Derived.Test.YtopcfcpbcilfaaaGreatDoorYPFnPatchNone
import Derived.Test.YtopcfcpbcilfaaaGreatDoorTie
import Derived.Test.YtopcfcpbcilfaaaGreatDoorCards
import Derived.WalkKit
import Derived.LaidMore
import Derived.OpenShut
import Derived.Stop.Joined
import Derived.SevenTiedAt
import Derived.Lib.LaidU8T
import Derived.ProofKit
namespace Go.Proofs.YtopcfcpbcilfaaaGreatDoor.fnPatchNone
open Go.ChangeShapes Go.WideShapes Go.ChangeAt Go.RowKit Go.Proofs.YtopcfcpbcilfaaaGreatDoorYF
theorem own : ownKnob Tryz.prog.godebug = none := by kernel_rfl
theorem laidOut : laidOutB Tryz.prog = true := by kernel_rfl
theorem spec_eq (H : Type) (ds gs : List (DataW H)) (h1 : ds.length = g8_A.length) (h2 : gs.length = Rows.fnPatchNoneSpec.vars.length) : Rows.fnPatchNoneSpec.fn H (ds ++ gs) = ⟨[.lit (.bool true)], ds, gs⟩ := by
  match ds, gs, h1, h2 with
  | [_, _], [], _, _ => rfl
theorem block_lt {w : World} {a : Addr} {v : Value} (h : w.cell? a = some v) : a.block < w.heap.size := by
  unfold World.cell? at h
  split at h
  · rename_i hb; exact (Array.getElem?_eq_some_iff.1 hb).1
  · cases h
abbrev laid : List (String × DataW Unit) := Rows.fnPatchNoneRow.laid
noncomputable def W0 (os : Os) : World :=
  let w0 := World.doorLaid Tryz.prog 400 os
  let put (h : Array Obj) (g : Nat) (cs : Array Value) : Array Obj := h.modify g fun
    | .cells _ t frozen => .cells cs t frozen
    | o => o
  { w0 with heap := (put w0.heap 2 (Lib.firstTab.map fun z => Value.int .u8 z).toArray) }
set_option maxRecDepth 100000 in
theorem door_met (os : Os) (args : Array Value) : laidMetH Tryz.prog laid ((W0 os).forCall (fun _ _ => 0) ⟨#[], args, []⟩).memory :=
  laidMetH_of_parts3 (fuel := 8) (laidMet_of_run' 8 (by kernel_rfl) (by kernel_rfl)) (by kernel_rfl) (by kernel_rfl)
set_option maxRecDepth 100000 in
theorem lifted (os : Os) (started : os.Started) (H : Type) (enc : TypeId × Value → H) :
    ReturnsInHanded {} Tryz.checked os 8 .any (fun w args => (Rows.fnPatchNoneSpec.pre enc Tryz.prog Tryz.f8 [] false w args ∧ laidMetH Tryz.prog laid w) ∧ sizedMet enc Tryz.prog Tryz.f8 (OpenSpec.ofChange Rows.fnPatchNoneSpec) false w args)
      (Rows.fnPatchNoneSpec.post enc Tryz.prog Tryz.f8 false true false false) := by
  refine returnsInHanded_of_change_and (C := Tryz.checked) (X := fun w _ => laidMetH Tryz.prog laid w) (fun _ _ _ hh h => h.of_heap hh) own started (by kernel_rfl) Tryz.func8
    (ChangeSpec.witness_shaped (enc := enc) (C := Tryz.checked) (os := os) (X := fun w _ => laidMetH Tryz.prog laid w) false (W0 os) #[.agg #[.bool false, .int .i64 0, .int .i64 0, .float .f64 0, .float .f64 0, .int .i64 0, .int .i64 0], .string ⟨#[]⟩] 8 rfl (World.shaped_of_RefB (by kernel_rfl) (by kernel_rfl)) (by kernel_rfl) (by kernel_rfl) (by kernel_rfl) (door_met os _)) ?_
  intro W base args ds gs before hval hW _ _ hL _
  have hGW : NG ≤ W.heap.size ∧ G0 Tryz.prog W := by
        exact ⟨Nat.zero_le _, trivial⟩
  exact law_calls (s := Rows.fnPatchNoneSpec) (ks := g8_A) (g := g8_f) (tb := 4) g8_fit laidOut (by kernel_rfl) (by kernel_rfl) Tryz.underlying4 (by kernel_rfl) (spec_eq H) FnPatchNone_pure hval hW hGW
theorem fact1 : (Tryz.prog.inPlace 8) = Rows.fnPatchNoneRow.inPlace := by kernel_rfl
theorem fact2 : (Tryz.prog.unfollowed 8) = Rows.fnPatchNoneRow.unfollowed := by kernel_rfl
theorem fact3 : (Tryz.prog.recurses 8) = Rows.fnPatchNoneRow.recurses := by kernel_rfl
theorem fact4 : (Tryz.prog.varsNamed 8) = Rows.fnPatchNoneRow.named := by kernel_rfl
theorem fact5 : mapsRowed Tryz.prog = true := by kernel_rfl
theorem fact6 : Tryz.prog.stopsHeard = true := by kernel_rfl
theorem fact7 : Tryz.prog.mayEnter = true := by kernel_rfl
theorem fact8 : (Rows.fnPatchNoneRow.lifted == Tryz.prog.liftsFinal) = true := by kernel_rfl
theorem fact9 : (Rows.fnPatchNoneRow.plainKeys == Tryz.prog.plainKeys) = true := by kernel_rfl
theorem facts : joinedFacts Tryz.prog 8 Tryz.f8 Rows.fnPatchNoneSpec Rows.fnPatchNoneRow = true := by
  unfold joinedFacts
  rw [fact1, fact2, fact3, fact4, fact5, fact6, fact7, fact8, fact9, laidOut]
  kernel_rfl
theorem over : Rows.fnPatchNoneRow.holds Tryz.pinned (OpenSpec.ofChange Rows.fnPatchNoneSpec) :=
  OpenClaim.holds_of_wide 8 Tryz.f8 rfl rfl rfl rfl rfl rfl rfl ⟨rfl, rfl, rfl, rfl, rfl⟩ rfl rfl rfl rfl rfl (by kernel_rfl) Tryz.func8 facts
    (of_decide_eq_true (by kernel_rfl)) (by unfold Func.isWrapper; first | (rw [if_pos (by decide +kernel)]; kernel_rfl) | (rw [if_neg (by decide +kernel)]; exact ⟨rfl, rfl⟩))
    (fun os started H enc _ => lifted os started H enc)
theorem card1 : Rows.fnPatchNoneRow.wfByText (OpenSpec.ofChange Rows.fnPatchNoneSpec) = true := by kernel_rfl
theorem card2 : Tryz.pinned.checked.prog.mainIs = some (((true, "3e6fdb79558f0bbea157a460cc89950709b69a35cedffbe046c9757b21bb7309") : Bool × String).1, ((true, "3e6fdb79558f0bbea157a460cc89950709b69a35cedffbe046c9757b21bb7309") : Bool × String).2.toList) := by kernel_rfl
theorem card3 : true = Tryz.pinned.checked.prog.looks [] := by kernel_rfl
theorem card4 : false = Rows.fnPatchNoneRow.goesBy Tryz.pinned.checked.prog := by kernel_rfl
theorem card5 : Tryz.prog.funcNamed "given.example/pub-enjambment/laws.FnPatchNone" = some 8 := by kernel_rfl
theorem card6 : (Tryz.f8.params.toList.all fun u => !Tryz.prog.wantsStandIn u) = true := by kernel_rfl
theorem proved : Rows.FnPatchNoneCardSaid :=
  Claim7.holds_tied_plain_at .later [] [.data, .sentinel, .pinned] true (true, "3e6fdb79558f0bbea157a460cc89950709b69a35cedffbe046c9757b21bb7309") true
    over (fun _ h => by cases h) card1 (fun _ h => by cases h) fnPatchNone_row_tie rfl ⟨rfl, rfl⟩ card2 rfl
    (fun f fn hf hfn => by
      obtain rfl : f = 8 := Option.some.inj (card5.symm.trans hf) |>.symm
      obtain rfl : fn = Tryz.f8 := (Option.some.inj (Tryz.func8.symm.trans hfn)).symm
      exact ⟨card3, fun j t ht => by
        have hm : t ∈ Tryz.f8.params.toList := by simpa using Array.mem_of_getElem? ht
        have hall := card6
        exact (show Tryz.prog.wantsStandIn t = false by simpa using List.all_eq_true.1 hall t hm)⟩)
    card4
#print axioms proved
end Go.Proofs.YtopcfcpbcilfaaaGreatDoor.fnPatchNone
namespace Go.Proofs.YtopcfcpbcilfaaaGreatDoor
/-- The tied card, under a short name, for the claim. -/
theorem fnPatchNone_holds : Rows.FnPatchNoneCardSaid := fnPatchNone.proved
end Go.Proofs.YtopcfcpbcilfaaaGreatDoor
