/- Bytes. -/
import Derived.Test.YthkiaiilpaojnaaDoorUPB
import Derived.Test.YthkiaiilpaojnaaDoorUFB
namespace Go.Proofs.YthkiaiilpaojnaaDoorUF
open Go
set_option linter.unusedVariables false
def IsBytes (x : List Int) : Prop := ∀ b ∈ x, 0 ≤ b ∧ b < 256
theorem GoodK.bytes {e : TypeId} {x : List Int} (h : GoodK (.sl e (.int .u8)) x) : IsBytes x ∧ x.length ≤ maxLen := ⟨fun b hb => by
  have h : (Lit.int .u8 b).wf = true := h.2 b hb
  simp only [Lit.wf, Bool.and_eq_true, decide_eq_true_eq] at h
  have h1 : IntKind.u8.min = 0 := rfl
  have h2 : IntKind.u8.max = 255 := rfl
  omega, h.1⟩
end Go.Proofs.YthkiaiilpaojnaaDoorUF
