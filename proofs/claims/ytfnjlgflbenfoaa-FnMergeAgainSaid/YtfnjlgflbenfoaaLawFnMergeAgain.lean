/-
  THE LAW FnMergeAgain: for every input that reads as data the law returns true, and each argument reads afterwards as it read before. Conditions: none beyond the row's own.
-/
import Derived.Test.YtfnjlgflbenfoaaRows
import Derived.Test.YtfnjlgflbenfoaaGA3
import Derived.Test.YtfnjlgflbenfoaaPFnMergeAgain
import Derived.WalkKit
import Derived.ProofKit
namespace Go.Proofs.Ytfnjlgflbenfoaa.fnMergeAgain
open Go.ChangeShapes Go.WideShapes Go.ChangeAt Go.RowKit Go.Proofs.YtfnjlgflbenfoaaF
theorem own : ownKnob Try.prog.godebug = none := by kernel_rfl
theorem laidOut : laidOutB Try.prog = true := by kernel_rfl
theorem spec_eq (H : Type) (ds gs : List (DataW H)) (h1 : ds.length = g3_A.length) (h2 : gs.length = Rows.fnMergeAgainSpec.vars.length) : Rows.fnMergeAgainSpec.fn H (ds ++ gs) = ⟨[.lit (.bool true)], ds, gs⟩ := by
  match ds, gs, h1, h2 with
  | [_], [], _, _ => rfl
set_option maxRecDepth 100000 in
theorem lifted (os : Os) (started : os.Started) (H : Type) (enc : TypeId × Value → H) :
    ReturnsInHanded {} Try.checked os 3 .any (Rows.fnMergeAgainSpec.pre6 enc Try.prog Try.f3 Rows.fnMergeAgainRow.domain false) (Rows.fnMergeAgainSpec.post enc Try.prog Try.f3 false true false false) :=
  returnsInHanded_of_change_sized (C := Try.checked) own started (by kernel_rfl) Try.func3
    (ChangeSpec.witness6 (enc := enc) (C := Try.checked) false ⟨#[], #[.slice none 0 0], []⟩ 8 (by kernel_rfl) (by kernel_rfl) (by kernel_rfl) (by kernel_rfl))
    (fun W base args ds gs before hval hW _ _ _ => law_calls (s := Rows.fnMergeAgainSpec) (ks := g3_A) (g := g3_f) (tb := 4) g3_fit laidOut (by kernel_rfl) (by kernel_rfl) Try.underlying4 (by kernel_rfl) (spec_eq H) FnMergeAgain_pure hval hW)
theorem over : Rows.fnMergeAgainRow.holds Try.pinned (OpenSpec.ofChange Rows.fnMergeAgainSpec) :=
  OpenClaim.holds_of_wide 3 Try.f3 rfl rfl rfl rfl rfl rfl rfl ⟨rfl, rfl, rfl, rfl, rfl⟩ rfl rfl rfl rfl rfl (by kernel_rfl) Try.func3 (by kernel_rfl)
    (of_decide_eq_true (by kernel_rfl)) (by unfold Func.isWrapper; first | (rw [if_pos (by decide +kernel)]; kernel_rfl) | (rw [if_neg (by decide +kernel)]; exact ⟨rfl, rfl⟩))
    (fun os started H enc _ => lifted os started H enc)
theorem proved : Rows.FnMergeAgainSaid := over
#print axioms proved
end Go.Proofs.Ytfnjlgflbenfoaa.fnMergeAgain
namespace Go.Proofs.Ytfnjlgflbenfoaa
/-- The row, under a short name, for the claim. -/
theorem fnMergeAgain_holds : Rows.FnMergeAgainSaid := fnMergeAgain.proved
end Go.Proofs.Ytfnjlgflbenfoaa
