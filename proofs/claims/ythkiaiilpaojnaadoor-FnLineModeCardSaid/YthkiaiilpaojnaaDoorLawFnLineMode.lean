/-
  THE LAW FnLineMode: for every input that reads as data the law returns true, and each argument reads afterwards as it read before. Conditions: none beyond the row's own.
-/
import Derived.Test.YthkiaiilpaojnaaDoorRows
import Derived.Test.YthkiaiilpaojnaaDoorZGA2
import Derived.Test.YthkiaiilpaojnaaDoorZPFnLineMode
import Derived.Test.YthkiaiilpaojnaaDoorTie
import Derived.Test.YthkiaiilpaojnaaDoorCards
import Derived.WalkKit
import Derived.LaidMore
import Derived.OpenShut
import Derived.Stop.Joined
import Derived.SevenTiedAt
import Derived.Lib.LaidU8T
import Derived.Test.YthkiaiilpaojnaaDoorZFE
import Derived.ProofKit
namespace Go.Proofs.YthkiaiilpaojnaaDoor.fnLineMode
open Go.ChangeShapes Go.WideShapes Go.ChangeAt Go.RowKit Go.Proofs.YthkiaiilpaojnaaDoorZF
theorem own : ownKnob Tryd.prog.godebug = none := by kernel_rfl
theorem laidOut : laidOutB Tryd.prog = true := by kernel_rfl
theorem spec_eq (H : Type) (ds gs : List (DataW H)) (h1 : ds.length = g7_A.length) (h2 : gs.length = Rows.fnLineModeSpec.vars.length) : Rows.fnLineModeSpec.fn H (ds ++ gs) = ⟨[.lit (.bool true)], ds, gs⟩ := by
  match ds, gs, h1, h2 with
  | [_, _], [], _, _ => rfl
theorem block_lt {w : World} {a : Addr} {v : Value} (h : w.cell? a = some v) : a.block < w.heap.size := by
  unfold World.cell? at h
  split at h
  · rename_i hb; exact (Array.getElem?_eq_some_iff.1 hb).1
  · cases h
abbrev laid : List (String × DataW Unit) := Rows.fnLineModeRow.laid
noncomputable def W0 (os : Os) : World :=
  let w0 := World.holding Tryd.prog os ⟨#[], #[], []⟩
  let put (h : Array Obj) (g : Nat) (cs : Array Value) : Array Obj := h.modify g fun
    | .cells _ t frozen => .cells cs t frozen
    | o => o
  { w0 with heap := (put (put w0.heap 0 (Lib.firstTab.map fun z => Value.int .u8 z).toArray) 1 ((List.range 16).flatMap fun i => [Value.int .u8 (Lib.accLo i), Value.int .u8 (Lib.accHi i)]).toArray) }
set_option maxRecDepth 100000 in
theorem door_met (os : Os) (args : Array Value) : laidMetH Tryd.prog laid ((W0 os).forCall (fun _ _ => 0) ⟨#[], args, []⟩).memory :=
  laidMetH_of_parts3 (fuel := 8) (laidMet_of_run' 8 (by kernel_rfl) (by kernel_rfl)) (by kernel_rfl) (by kernel_rfl)
set_option maxRecDepth 100000 in
theorem lifted (os : Os) (started : os.Started) (H : Type) (enc : TypeId × Value → H) :
    ReturnsInHanded {} Tryd.checked os 7 .any (fun w args => (Rows.fnLineModeSpec.pre enc Tryd.prog Tryd.f7 [] false w args ∧ laidMetH Tryd.prog laid w) ∧ sizedMet enc Tryd.prog Tryd.f7 (OpenSpec.ofChange Rows.fnLineModeSpec) false w args)
      (Rows.fnLineModeSpec.post enc Tryd.prog Tryd.f7 false true false false) := by
  refine returnsInHanded_of_change_and (C := Tryd.checked) (X := fun w _ => laidMetH Tryd.prog laid w) (fun _ _ _ hh h => h.of_heap hh) own started (by kernel_rfl) Tryd.func7
    (ChangeSpec.witness_shaped (enc := enc) (C := Tryd.checked) (os := os) (X := fun w _ => laidMetH Tryd.prog laid w) false (W0 os) #[.string ⟨#[]⟩, .string ⟨#[]⟩] 8 rfl (World.shaped_of_RefB (by kernel_rfl) (by kernel_rfl)) (by kernel_rfl) (by kernel_rfl) (by kernel_rfl) (door_met os _)) ?_
  intro W base args ds gs before hval hW _ _ hL _
  have hGW : NG ≤ W.heap.size ∧ G0 Tryd.prog W := by
    have hT : Lib.Utf8Tabs 0 1 W := by
      have hL2 := hL
      rw [MakeChecks.laidMetH_plain _ _ _ (by kernel_rfl)] at hL2
      exact utf8Tabs_of_readsT (U8Types.of260 Tryd.lays260) ⟨by kernel_rfl, by kernel_rfl, by kernel_rfl, by kernel_rfl, by kernel_rfl, by kernel_rfl, by kernel_rfl⟩ (Lib.laidMet.reads hL2 (.tail _ (.head _))) (Lib.laidMet.reads hL2 (.head _))
    have hN : 2 ≤ W.heap.size := block_lt ((hT.2 0 (by decide)).1)
    exact ⟨hN, hT⟩
  exact bP2 (s := Rows.fnLineModeSpec) (ks := g7_A) (g := eW1) (tb := 4) eU9 laidOut (by kernel_rfl) (by kernel_rfl) Tryd.underlying4 (by kernel_rfl) (spec_eq H) FnLineMode_pure hval hW hGW
theorem fact1 : (Tryd.prog.inPlace 7) = Rows.fnLineModeRow.inPlace := by kernel_rfl
theorem fact2 : (Tryd.prog.unfollowed 7) = Rows.fnLineModeRow.unfollowed := by kernel_rfl
theorem fact3 : (Tryd.prog.recurses 7) = Rows.fnLineModeRow.recurses := by kernel_rfl
theorem fact4 : (Tryd.prog.varsNamed 7) = Rows.fnLineModeRow.named := by kernel_rfl
theorem fact5 : mapsRowed Tryd.prog = true := by kernel_rfl
theorem fact6 : Tryd.prog.stopsHeard = true := by kernel_rfl
theorem fact7 : Tryd.prog.mayEnter = true := by kernel_rfl
theorem fact8 : (Rows.fnLineModeRow.lifted == Tryd.prog.liftsFinal) = true := by kernel_rfl
theorem fact9 : (Rows.fnLineModeRow.plainKeys == Tryd.prog.plainKeys) = true := by kernel_rfl
theorem facts : joinedFacts Tryd.prog 7 Tryd.f7 Rows.fnLineModeSpec Rows.fnLineModeRow = true := by
  unfold joinedFacts
  rw [fact1, fact2, fact3, fact4, fact5, fact6, fact7, fact8, fact9, laidOut]
  kernel_rfl
theorem over : Rows.fnLineModeRow.holds Tryd.pinned (OpenSpec.ofChange Rows.fnLineModeSpec) :=
  OpenClaim.holds_of_wide 7 Tryd.f7 rfl rfl rfl rfl rfl rfl rfl ⟨rfl, rfl, rfl, rfl, rfl⟩ rfl rfl rfl rfl rfl (by kernel_rfl) Tryd.func7 facts
    (of_decide_eq_true (by kernel_rfl)) (by unfold Func.isWrapper; first | (rw [if_pos (by decide +kernel)]; kernel_rfl) | (rw [if_neg (by decide +kernel)]; exact ⟨rfl, rfl⟩))
    (fun os started H enc _ => lifted os started H enc)
theorem card1 : Rows.fnLineModeRow.wfByText (OpenSpec.ofChange Rows.fnLineModeSpec) = true := by kernel_rfl
theorem card2 : Tryd.pinned.checked.prog.mainIs = some (((true, "2c0629d4233df349e88966495e910cab284bede9f03caa6497b3b84ff4ab5fcd") : Bool × String).1, ((true, "2c0629d4233df349e88966495e910cab284bede9f03caa6497b3b84ff4ab5fcd") : Bool × String).2.toList) := by kernel_rfl
theorem card3 : true = Tryd.pinned.checked.prog.looks [] := by kernel_rfl
theorem card4 : false = Rows.fnLineModeRow.goesBy Tryd.pinned.checked.prog := by kernel_rfl
theorem card5 : Tryd.prog.funcNamed "given.example/pub-enjambment/laws.FnLineMode" = some 7 := by kernel_rfl
theorem card6 : (Tryd.f7.params.toList.all fun u => !Tryd.prog.wantsStandIn u) = true := by kernel_rfl
theorem proved : Rows.FnLineModeCardSaid :=
  Claim7.holds_tied_plain_at .later [] [.data, .pinned] true (true, "2c0629d4233df349e88966495e910cab284bede9f03caa6497b3b84ff4ab5fcd") true
    over (fun _ h => by cases h) card1 (fun _ h => by cases h) fnLineMode_row_tie rfl ⟨rfl, rfl⟩ card2 rfl
    (fun f fn hf hfn => by
      obtain rfl : f = 7 := Option.some.inj (card5.symm.trans hf) |>.symm
      obtain rfl : fn = Tryd.f7 := (Option.some.inj (Tryd.func7.symm.trans hfn)).symm
      exact ⟨card3, fun j t ht => by
        have hm : t ∈ Tryd.f7.params.toList := by simpa using Array.mem_of_getElem? ht
        have hall := card6
        exact (show Tryd.prog.wantsStandIn t = false by simpa using List.all_eq_true.1 hall t hm)⟩)
    card4
#print axioms proved
end Go.Proofs.YthkiaiilpaojnaaDoor.fnLineMode
namespace Go.Proofs.YthkiaiilpaojnaaDoor
/-- The tied card, under a short name, for the claim. -/
theorem fnLineMode_holds : Rows.FnLineModeCardSaid := fnLineMode.proved
end Go.Proofs.YthkiaiilpaojnaaDoor
