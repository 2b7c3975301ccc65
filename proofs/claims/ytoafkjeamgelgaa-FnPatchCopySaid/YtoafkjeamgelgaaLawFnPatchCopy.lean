/-
  THE LAW FnPatchCopy: for every input that reads as data the law returns true, and each argument reads afterwards as it read before. Conditions: none beyond the row's own.
-/
import Derived.Test.YtoafkjeamgelgaaRows
import Derived.Test.YtoafkjeamgelgaaYGA1
import Derived.Test.YtoafkjeamgelgaaYPFnPatchCopy
import Derived.WalkKit
import Derived.ProofKit
namespace Go.Proofs.Ytoafkjeamgelgaa.fnPatchCopy
open Go.ChangeShapes Go.WideShapes Go.ChangeAt Go.RowKit Go.Proofs.YtoafkjeamgelgaaYF
theorem own : ownKnob Try.prog.godebug = none := by kernel_rfl
theorem laidOut : laidOutB Try.prog = true := by kernel_rfl
theorem spec_eq (H : Type) (ds gs : List (DataW H)) (h1 : ds.length = g3_A.length) (h2 : gs.length = Rows.fnPatchCopySpec.vars.length) : Rows.fnPatchCopySpec.fn H (ds ++ gs) = ⟨[.lit (.bool true)], ds, gs⟩ := by
  match ds, gs, h1, h2 with
  | [_], [], _, _ => rfl
set_option maxRecDepth 100000 in
theorem lifted (os : Os) (started : os.Started) (H : Type) (enc : TypeId × Value → H) :
    ReturnsInHanded {} Try.checked os 3 .any (Rows.fnPatchCopySpec.pre6 enc Try.prog Try.f3 Rows.fnPatchCopyRow.domain false) (Rows.fnPatchCopySpec.post enc Try.prog Try.f3 false true false false) :=
  returnsInHanded_of_change_sized (C := Try.checked) own started (by kernel_rfl) Try.func3
    (ChangeSpec.witness6 (enc := enc) (C := Try.checked) false ⟨#[], #[.slice none 0 0], []⟩ 8 (by kernel_rfl) (by kernel_rfl) (by kernel_rfl) (by kernel_rfl))
    (fun W base args ds gs before hval hW _ _ _ => law_calls (s := Rows.fnPatchCopySpec) (ks := g3_A) (g := g3_f) (tb := 4) g3_fit laidOut (by kernel_rfl) (by kernel_rfl) Try.underlying4 (by kernel_rfl) (spec_eq H) FnPatchCopy_pure hval hW ⟨Nat.zero_le _, trivial⟩)
theorem fact1 : (Try.prog.inPlace 3) = Rows.fnPatchCopyRow.inPlace := by kernel_rfl
theorem fact2 : (Try.prog.unfollowed 3) = Rows.fnPatchCopyRow.unfollowed := by kernel_rfl
theorem fact3 : (Try.prog.recurses 3) = Rows.fnPatchCopyRow.recurses := by kernel_rfl
theorem fact4 : (Try.prog.varsNamed 3) = Rows.fnPatchCopyRow.named := by kernel_rfl
theorem fact5 : mapsRowed Try.prog = true := by kernel_rfl
theorem fact6 : Try.prog.stopsHeard = true := by kernel_rfl
theorem fact7 : Try.prog.mayEnter = true := by kernel_rfl
theorem fact8 : (Rows.fnPatchCopyRow.lifted == Try.prog.liftsFinal) = true := by kernel_rfl
theorem fact9 : (Rows.fnPatchCopyRow.plainKeys == Try.prog.plainKeys) = true := by kernel_rfl
theorem facts : joinedFacts Try.prog 3 Try.f3 Rows.fnPatchCopySpec Rows.fnPatchCopyRow = true := by
  unfold joinedFacts
  rw [fact1, fact2, fact3, fact4, fact5, fact6, fact7, fact8, fact9, laidOut]
  kernel_rfl
theorem over : Rows.fnPatchCopyRow.holds Try.pinned (OpenSpec.ofChange Rows.fnPatchCopySpec) :=
  OpenClaim.holds_of_wide 3 Try.f3 rfl rfl rfl rfl rfl rfl rfl ⟨rfl, rfl, rfl, rfl, rfl⟩ rfl rfl rfl rfl rfl (by kernel_rfl) Try.func3 facts
    (of_decide_eq_true (by kernel_rfl)) (by unfold Func.isWrapper; first | (rw [if_pos (by decide +kernel)]; kernel_rfl) | (rw [if_neg (by decide +kernel)]; exact ⟨rfl, rfl⟩))
    (fun os started H enc _ => lifted os started H enc)
theorem proved : Rows.FnPatchCopySaid := over
#print axioms proved
end Go.Proofs.Ytoafkjeamgelgaa.fnPatchCopy
namespace Go.Proofs.Ytoafkjeamgelgaa
/-- The row, under a short name, for the claim. -/
theorem fnPatchCopy_holds : Rows.FnPatchCopySaid := fnPatchCopy.proved
end Go.Proofs.Ytoafkjeamgelgaa
