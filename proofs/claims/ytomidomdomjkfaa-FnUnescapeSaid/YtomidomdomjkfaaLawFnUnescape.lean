/-
  THE LAW FnUnescape: for every input that reads as data the law returns true, and each argument reads afterwards as it read before. Conditions: none beyond the row's own.
-/
import Derived.Test.YtomidomdomjkfaaRows
import Derived.Test.YtomidomdomjkfaaGA0
import Derived.Test.YtomidomdomjkfaaPFnUnescape
import Derived.WalkKit
import Derived.ProofKit
namespace Go.Proofs.Ytomidomdomjkfaa.fnUnescape
open Go.ChangeShapes Go.WideShapes Go.ChangeAt Go.RowKit Go.Proofs.YtomidomdomjkfaaF
theorem own : ownKnob Try.prog.godebug = none := by kernel_rfl
theorem laidOut : laidOutB Try.prog = true := by kernel_rfl
theorem spec_eq (H : Type) (ds gs : List (DataW H)) (h1 : ds.length = g11_A.length) (h2 : gs.length = Rows.fnUnescapeSpec.vars.length) : Rows.fnUnescapeSpec.fn H (ds ++ gs) = ⟨[.lit (.bool true)], ds, gs⟩ := by
  match ds, gs, h1, h2 with
  | [_], [], _, _ => rfl
set_option maxRecDepth 100000 in
theorem lifted (os : Os) (started : os.Started) (H : Type) (enc : TypeId × Value → H) :
    ReturnsInHanded {} Try.checked os 11 .any (Rows.fnUnescapeSpec.pre6 enc Try.prog Try.f11 Rows.fnUnescapeRow.domain false) (Rows.fnUnescapeSpec.post enc Try.prog Try.f11 false true false false) :=
  returnsInHanded_of_change_sized (C := Try.checked) own started (by kernel_rfl) Try.func11
    (ChangeSpec.witness6 (enc := enc) (C := Try.checked) false ⟨#[], #[.string ⟨#[]⟩], []⟩ 8 (by kernel_rfl) (by kernel_rfl) (by kernel_rfl) (by kernel_rfl))
    (fun W base args ds gs before hval hW _ _ _ => law_calls (s := Rows.fnUnescapeSpec) (ks := g11_A) (g := g11_f) (tb := 4) g11_fit laidOut (by kernel_rfl) (by kernel_rfl) Try.underlying4 (by kernel_rfl) (spec_eq H) FnUnescape_pure hval hW)
theorem over : Rows.fnUnescapeRow.holds Try.pinned (OpenSpec.ofChange Rows.fnUnescapeSpec) :=
  OpenClaim.holds_of_wide 11 Try.f11 rfl rfl rfl rfl rfl rfl rfl ⟨rfl, rfl, rfl, rfl, rfl⟩ rfl rfl rfl rfl rfl (by kernel_rfl) Try.func11 (by kernel_rfl)
    (of_decide_eq_true (by kernel_rfl)) (by unfold Func.isWrapper; first | (rw [if_pos (by decide +kernel)]; kernel_rfl) | (rw [if_neg (by decide +kernel)]; exact ⟨rfl, rfl⟩))
    (fun os started H enc _ => lifted os started H enc)
theorem proved : Rows.FnUnescapeSaid := over
#print axioms proved
end Go.Proofs.Ytomidomdomjkfaa.fnUnescape
namespace Go.Proofs.Ytomidomdomjkfaa
/-- The row, under a short name, for the claim. -/
theorem fnUnescape_holds : Rows.FnUnescapeSaid := fnUnescape.proved
end Go.Proofs.Ytomidomdomjkfaa
