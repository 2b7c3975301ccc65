-- Written by this session's own program (wip/tools) out of the translation.
import Derived.Test.YtomidomdomjkfaaPTx0
namespace Go.Proofs.Ytomidomdomjkfaa.PT
open Go.RowKit Go.Proofs.YtomidomdomjkfaaW.PrintWords Go.Proofs.YtomidomdomjkfaaW.PrintLast Go.Proofs.YtomidomdomjkfaaW.PrintMore
attribute [local go_sem] max2_int min2_int max_two min_two max_three min_three max_four min_four   -- for this text's walks alone
set_option linter.unusedVariables false
set_option linter.unusedSimpArgs false

/-! ### math_Abs: function 82 -/
theorem math_Abs.c1 (b : Nat) (w : World) : (callFunc 86 #[.float .f64 b]).run Try.prog w = .ok (.value (.int .u64 b)) w := by
  rw [run_callFunc_extern (fn := Try.f86) (e := Extern.MathFloatBits.float64bits) (by rfl) (by rfl) (by rfl) (by kernel_rfl) (by kernel_rfl)]
  rfl
theorem math_Abs.c2 (b : Int) (w : World) : (callFunc 85 #[.int .u64 b]).run Try.prog w = .ok (.value (.float .f64 b.toNat)) w := by
  rw [run_callFunc_extern (fn := Try.f85) (e := Extern.MathFloatBits.float64frombits) (by rfl) (by rfl) (by rfl) (by kernel_rfl) (by kernel_rfl)]
  rfl
attribute [local go_sem] math_Abs.c1 math_Abs.c2
def math_Abs.f (a0 : Nat) : Option Nat := if a0 < 18446744073709551616 then some (a0 % 9223372036854775808) else none
theorem math_Abs.calls (a0 : Nat) (r : Nat) (w : World) (h : math_Abs.f a0 = some r) :
    Calls Try.prog 82 #[.float .f64 a0] w fun e w' => e = .returned (.float .f64 r) ∧ w' = w := by
  unfold math_Abs.f at h
  split at h
  case isFalse => cases h
  rename_i hs
  obtain rfl := Option.some.inj h
  clear h
  have hb : (bits .andNot .u64 (a0 : Int) 9223372036854775808).toNat = a0 % 9223372036854775808 := by
    have := u64_andNot_nat a0 9223372036854775808 hs (by decide)
    rw [show ((9223372036854775808 : Nat) : Int) = 9223372036854775808 from rfl] at this
    rw [this, Int.toNat_natCast, show (18446744073709551615 - 9223372036854775808 : Nat) = 2 ^ 63 - 1 from rfl, Nat.and_two_pow_sub_one_eq_mod]
  go_enter Try.func82, Try.ntmps82
  go_wp2
  go_ret
  exact ⟨rfl, rfl⟩

end Go.Proofs.Ytomidomdomjkfaa.PT
