/-
  THE LAW FnMergeTexts: for every input that reads as data the law returns true, and each argument reads afterwards as it read before. Conditions: none beyond the row's own.
-/
import Derived.Test.YtfnjlgflbenfoaaRows
import Derived.Test.YtfnjlgflbenfoaaGA3
import Derived.Test.YtfnjlgflbenfoaaPFnMergeTexts
import Derived.WalkKit
import Derived.ProofKit
namespace Go.Proofs.Ytfnjlgflbenfoaa.fnMergeTexts
open Go.ChangeShapes Go.WideShapes Go.ChangeAt Go.RowKit Go.Proofs.YtfnjlgflbenfoaaF
theorem own : ownKnob Try.prog.godebug = none := by kernel_rfl
theorem laidOut : laidOutB Try.prog = true := by kernel_rfl
theorem spec_eq (H : Type) (ds gs : List (DataW H)) (h1 : ds.length = g7_A.length) (h2 : gs.length = Rows.fnMergeTextsSpec.vars.length) : Rows.fnMergeTextsSpec.fn H (ds ++ gs) = ⟨[.lit (.bool true)], ds, gs⟩ := by
  match ds, gs, h1, h2 with
  | [_], [], _, _ => rfl
set_option maxRecDepth 100000 in
theorem lifted (os : Os) (started : os.Started) (H : Type) (enc : TypeId × Value → H) :
    ReturnsInHanded {} Try.checked os 7 .any (Rows.fnMergeTextsSpec.pre6 enc Try.prog Try.f7 Rows.fnMergeTextsRow.domain false) (Rows.fnMergeTextsSpec.post enc Try.prog Try.f7 false true false false) :=
  returnsInHanded_of_change_sized (C := Try.checked) own started (by kernel_rfl) Try.func7
    (ChangeSpec.witness6 (enc := enc) (C := Try.checked) false ⟨#[], #[.slice none 0 0], []⟩ 8 (by kernel_rfl) (by kernel_rfl) (by kernel_rfl) (by kernel_rfl))
    (fun W base args ds gs before hval hW _ _ _ => law_calls (s := Rows.fnMergeTextsSpec) (ks := g7_A) (g := g7_f) (tb := 4) g7_fit laidOut (by kernel_rfl) (by kernel_rfl) Try.underlying4 (by kernel_rfl) (spec_eq H) FnMergeTexts_pure hval hW)
theorem over : Rows.fnMergeTextsRow.holds Try.pinned (OpenSpec.ofChange Rows.fnMergeTextsSpec) :=
  OpenClaim.holds_of_wide 7 Try.f7 rfl rfl rfl rfl rfl rfl rfl ⟨rfl, rfl, rfl, rfl, rfl⟩ rfl rfl rfl rfl rfl (by kernel_rfl) Try.func7 (by kernel_rfl)
    (of_decide_eq_true (by kernel_rfl)) (by unfold Func.isWrapper; first | (rw [if_pos (by decide +kernel)]; kernel_rfl) | (rw [if_neg (by decide +kernel)]; exact ⟨rfl, rfl⟩))
    (fun os started H enc _ => lifted os started H enc)
theorem proved : Rows.FnMergeTextsSaid := over
#print axioms proved
end Go.Proofs.Ytfnjlgflbenfoaa.fnMergeTexts
namespace Go.Proofs.Ytfnjlgflbenfoaa
/-- The row, under a short name, for the claim. -/
theorem fnMergeTexts_holds : Rows.FnMergeTextsSaid := fnMergeTexts.proved
end Go.Proofs.Ytfnjlgflbenfoaa
