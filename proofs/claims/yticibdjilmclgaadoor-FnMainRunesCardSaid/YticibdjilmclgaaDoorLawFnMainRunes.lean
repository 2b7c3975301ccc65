/-
  THE LAW FnMainRunes: for every input that reads as data the law returns true, and each argument reads afterwards as it read before. Conditions: none beyond the row's own.
-/
import Derived.Test.YticibdjilmclgaaDoorRows
import Derived.Test.YticibdjilmclgaaDoorZGA2
import Derived.Test.YticibdjilmclgaaDoorZPFnMainRunes
import Derived.Test.YticibdjilmclgaaDoorTie
import Derived.Test.YticibdjilmclgaaDoorCards
import Derived.WalkKit
import Derived.LaidMore
import Derived.OpenShut
import Derived.Stop.Joined
import Derived.SevenTiedAt
import Derived.Lib.LaidU8T
import Derived.Test.YticibdjilmclgaaDoorZFE
import Derived.ProofKit
namespace Go.Proofs.YticibdjilmclgaaDoor.fnMainRunes
open Go.ChangeShapes Go.WideShapes Go.ChangeAt Go.RowKit Go.Proofs.YticibdjilmclgaaDoorZF
theorem own : ownKnob Tryd.prog.godebug = none := by kernel_rfl
theorem laidOut : laidOutB Tryd.prog = true := by kernel_rfl
theorem spec_eq (H : Type) (ds gs : List (DataW H)) (h1 : ds.length = g6_A.length) (h2 : gs.length = Rows.fnMainRunesSpec.vars.length) : Rows.fnMainRunesSpec.fn H (ds ++ gs) = ⟨[.lit (.bool true)], ds, gs⟩ := by
  match ds, gs, h1, h2 with
  | [_, _, _], [], _, _ => rfl
theorem block_lt {w : World} {a : Addr} {v : Value} (h : w.cell? a = some v) : a.block < w.heap.size := by
  unfold World.cell? at h
  split at h
  · rename_i hb; exact (Array.getElem?_eq_some_iff.1 hb).1
  · cases h
abbrev laid : List (String × DataW Unit) := Rows.fnMainRunesRow.laid
noncomputable def W0 (os : Os) : World :=
  let w0 := World.holding Tryd.prog os ⟨#[], #[], []⟩
  let put (h : Array Obj) (g : Nat) (cs : Array Value) : Array Obj := h.modify g fun
    | .cells _ t frozen => .cells cs t frozen
    | o => o
  { w0 with heap := (put (put w0.heap 1 (Lib.firstTab.map fun z => Value.int .u8 z).toArray) 2 ((List.range 16).flatMap fun i => [Value.int .u8 (Lib.accLo i), Value.int .u8 (Lib.accHi i)]).toArray) }
set_option maxRecDepth 100000 in
theorem door_met (os : Os) (args : Array Value) : laidMetH Tryd.prog laid ((W0 os).forCall (fun _ _ => 0) ⟨#[], args, []⟩).memory :=
  laidMetH_of_parts3 (fuel := 8) (laidMet_of_run' 8 (by kernel_rfl) (by kernel_rfl)) (by kernel_rfl) (by kernel_rfl)
set_option maxRecDepth 100000 in
theorem lifted (os : Os) (started : os.Started) (H : Type) (enc : TypeId × Value → H) :
    ReturnsInHanded {} Tryd.checked os 6 .any (fun w args => (Rows.fnMainRunesSpec.pre enc Tryd.prog Tryd.f6 [] false w args ∧ laidMetH Tryd.prog laid w) ∧ sizedMet enc Tryd.prog Tryd.f6 (OpenSpec.ofChange Rows.fnMainRunesSpec) false w args)
      (Rows.fnMainRunesSpec.post enc Tryd.prog Tryd.f6 false true false false) := by
  refine returnsInHanded_of_change_and (C := Tryd.checked) (X := fun w _ => laidMetH Tryd.prog laid w) (fun _ _ _ hh h => h.of_heap hh) own started (by kernel_rfl) Tryd.func6
    (ChangeSpec.witness_shaped (enc := enc) (C := Tryd.checked) (os := os) (X := fun w _ => laidMetH Tryd.prog laid w) false (W0 os) #[.string ⟨#[]⟩, .string ⟨#[]⟩, .bool false] 8 rfl (World.shaped_of_RefB (by kernel_rfl) (by kernel_rfl)) (by kernel_rfl) (by kernel_rfl) (by kernel_rfl) (door_met os _)) ?_
  intro W base args ds gs before hval hW _ _ hL _
  have hGW : NG ≤ W.heap.size ∧ G0 Tryd.prog W := by
    have hT : Lib.Utf8Tabs 1 2 W := by
      have hL2 := hL
      rw [MakeChecks.laidMetH_plain _ _ _ (by kernel_rfl)] at hL2
      exact utf8Tabs_of_readsT (U8Types.of260 Tryd.lays260) ⟨by kernel_rfl, by kernel_rfl, by kernel_rfl, by kernel_rfl, by kernel_rfl, by kernel_rfl, by kernel_rfl⟩ (Lib.laidMet.reads hL2 (.tail _ (.head _))) (Lib.laidMet.reads hL2 (.head _))
    have hN : 3 ≤ W.heap.size := block_lt ((hT.2 0 (by decide)).1)
    exact ⟨hN, hT⟩
  exact bC6 (s := Rows.fnMainRunesSpec) (ks := g6_A) (g := eU3) (tb := 4) eT0 laidOut (by kernel_rfl) (by kernel_rfl) Tryd.underlying4 (by kernel_rfl) (spec_eq H) FnMainRunes_pure hval hW hGW
theorem fact1 : (Tryd.prog.inPlace 6) = Rows.fnMainRunesRow.inPlace := by kernel_rfl
theorem fact2 : (Tryd.prog.unfollowed 6) = Rows.fnMainRunesRow.unfollowed := by kernel_rfl
theorem fact3 : (Tryd.prog.recurses 6) = Rows.fnMainRunesRow.recurses := by kernel_rfl
theorem fact4 : (Tryd.prog.varsNamed 6) = Rows.fnMainRunesRow.named := by kernel_rfl
theorem fact5 : mapsRowed Tryd.prog = true := by kernel_rfl
theorem fact6 : Tryd.prog.stopsHeard = true := by kernel_rfl
theorem fact7 : Tryd.prog.mayEnter = true := by kernel_rfl
theorem fact8 : (Rows.fnMainRunesRow.lifted == Tryd.prog.liftsFinal) = true := by kernel_rfl
theorem fact9 : (Rows.fnMainRunesRow.plainKeys == Tryd.prog.plainKeys) = true := by kernel_rfl
theorem facts : joinedFacts Tryd.prog 6 Tryd.f6 Rows.fnMainRunesSpec Rows.fnMainRunesRow = true := by
  unfold joinedFacts
  rw [fact1, fact2, fact3, fact4, fact5, fact6, fact7, fact8, fact9, laidOut]
  kernel_rfl
theorem over : Rows.fnMainRunesRow.holds Tryd.pinned (OpenSpec.ofChange Rows.fnMainRunesSpec) :=
  OpenClaim.holds_of_wide 6 Tryd.f6 rfl rfl rfl rfl rfl rfl rfl ⟨rfl, rfl, rfl, rfl, rfl⟩ rfl rfl rfl rfl rfl (by kernel_rfl) Tryd.func6 facts
    (of_decide_eq_true (by kernel_rfl)) (by unfold Func.isWrapper; first | (rw [if_pos (by decide +kernel)]; kernel_rfl) | (rw [if_neg (by decide +kernel)]; exact ⟨rfl, rfl⟩))
    (fun os started H enc _ => lifted os started H enc)
theorem card1 : Rows.fnMainRunesRow.wfByText (OpenSpec.ofChange Rows.fnMainRunesSpec) = true := by kernel_rfl
theorem card2 : Tryd.pinned.checked.prog.mainIs = some (((true, "75dc6ca2bec3d153895af6b186b32084dc0338774975aa44d1653b41c12b5c00") : Bool × String).1, ((true, "75dc6ca2bec3d153895af6b186b32084dc0338774975aa44d1653b41c12b5c00") : Bool × String).2.toList) := by kernel_rfl
theorem card3 : false = Tryd.pinned.checked.prog.looks [] := by kernel_rfl
theorem card4 : false = Rows.fnMainRunesRow.goesBy Tryd.pinned.checked.prog := by kernel_rfl
theorem card5 : Tryd.prog.funcNamed "given.example/pub-enjambment/laws.FnMainRunes" = some 6 := by kernel_rfl
theorem card6 : (Tryd.f6.params.toList.all fun u => !Tryd.prog.wantsStandIn u) = true := by kernel_rfl
theorem proved : Rows.FnMainRunesCardSaid :=
  Claim7.holds_tied_plain_at .later [] [.data, .pinned] true (true, "75dc6ca2bec3d153895af6b186b32084dc0338774975aa44d1653b41c12b5c00") false
    over (fun _ h => by cases h) card1 (fun _ h => by cases h) fnMainRunes_row_tie rfl ⟨rfl, rfl⟩ card2 rfl
    (fun f fn hf hfn => by
      obtain rfl : f = 6 := Option.some.inj (card5.symm.trans hf) |>.symm
      obtain rfl : fn = Tryd.f6 := (Option.some.inj (Tryd.func6.symm.trans hfn)).symm
      exact ⟨card3, fun j t ht => by
        have hm : t ∈ Tryd.f6.params.toList := by simpa using Array.mem_of_getElem? ht
        have hall := card6
        exact (show Tryd.prog.wantsStandIn t = false by simpa using List.all_eq_true.1 hall t hm)⟩)
    card4
#print axioms proved
end Go.Proofs.YticibdjilmclgaaDoor.fnMainRunes
namespace Go.Proofs.YticibdjilmclgaaDoor
/-- The tied card, under a short name, for the claim. -/
theorem fnMainRunes_holds : Rows.FnMainRunesCardSaid := fnMainRunes.proved
end Go.Proofs.YticibdjilmclgaaDoor
