-- Written by this session's own program (wip/tools) out of the translation.
import Derived.Test.YtoafkjeamgelgaaPTx0
namespace Go.Proofs.Ytoafkjeamgelgaa.PT
open Go.RowKit Go.Proofs.YtoafkjeamgelgaaW.PrintWords Go.Proofs.YtoafkjeamgelgaaW.PrintLast Go.Proofs.YtoafkjeamgelgaaW.PrintMore
attribute [local go_sem] max2_int min2_int max_two min_two max_three min_three max_four min_four   -- for this text's walks alone
set_option linter.unusedVariables false
set_option linter.unusedSimpArgs false

/-! ### math_Min: function 53 -/
theorem math_Min.c1 (a b : Nat) (w : World) : (callFunc 69 #[.float .f64 a, .float .f64 b]).run Try.prog w = .ok (.value (.float .f64 (fMin a b))) w := by
  rw [run_callFunc_extern (fn := Try.f69) (e := Extern.MathDim.pick "math.archMin" true .lt) (by rfl) (by rfl) (by rfl) (by kernel_rfl) (by kernel_rfl)]
  rfl
attribute [local go_sem] math_Min.c1
def math_Min.f (a0 : Nat) (a1 : Nat) : Option Nat := some (fMin a0 a1)
theorem math_Min.calls (a0 a1 : Nat) (r : Nat) (w : World) (h : math_Min.f a0 a1 = some r) :
    Calls Try.prog 53 #[.float .f64 a0, .float .f64 a1] w fun e w' => e = .returned (.float .f64 r) ∧ w' = w := by
  obtain rfl := Option.some.inj h
  clear h
  go_enter Try.func53, Try.ntmps53
  go_wp2
  go_ret
  exact ⟨rfl, rfl⟩

end Go.Proofs.Ytoafkjeamgelgaa.PT
