-- Written by this session's own program (wip/tools) out of the translation.
import Derived.Test.YtomidomdomjkfaaPTx0
namespace Go.Proofs.Ytomidomdomjkfaa.PT
open Go.RowKit Go.Proofs.YtomidomdomjkfaaW.PrintWords Go.Proofs.YtomidomdomjkfaaW.PrintLast Go.Proofs.YtomidomdomjkfaaW.PrintMore
attribute [local go_sem] max2_int min2_int max_two min_two max_three min_three max_four min_four   -- for this text's walks alone
set_option linter.unusedVariables false
set_option linter.unusedSimpArgs false

/-! ### impl_within: function 72 -/
def impl_within.f (a0 : Int) (a1 : Int) (a2 : Int) (a3 : Int) : Option (Int) := if a0 < a1 then (some a3) else (if a0 > a2 then (some a3) else (some a0))
set_option maxHeartbeats 8000000 in
set_option maxRecDepth 100000 in
theorem impl_within.calls (a0 : Int) (a1 : Int) (a2 : Int) (a3 : Int) (r : Int) (w : World) (h : impl_within.f a0 a1 a2 a3 = some r) :
    Calls Try.prog 72 #[.int .i64 a0, .int .i64 a1, .int .i64 a2, .int .i64 a3] w fun e w' => e = .returned (.int .i64 r) ∧ Drawn0 w w' := by
  have H : (if a0 < a1 then (some a3) else (if a0 > a2 then (some a3) else (some a0))) = some r := h
  clear h
  by_cases c5 : a0 < a1
  · rw [if_pos c5] at H
    have c5b0 : decide (a0 < a1) = true := decide_eq_true c5
    clear c5
    obtain rfl := Option.some.inj H
    go_enter Try.func72, Try.ntmps72
    go_wp2
    go_ret
    exact ⟨by first | rfl | (simp; done) | (simp [*]; done), by repeat (first | exact Drawn0.refl _ | apply Drawn0.step)⟩
  rw [if_neg c5] at H
  have c5b0 : decide (a0 < a1) = false := decide_eq_false c5
  clear c5
  by_cases c6 : a0 > a2
  · rw [if_pos c6] at H
    have c6b0 : decide (a2 < a0) = true := decide_eq_true c6
    clear c6
    obtain rfl := Option.some.inj H
    go_enter Try.func72, Try.ntmps72
    go_wp2
    go_ret
    exact ⟨by first | rfl | (simp; done) | (simp [*]; done), by repeat (first | exact Drawn0.refl _ | apply Drawn0.step)⟩
  rw [if_neg c6] at H
  have c6b0 : decide (a2 < a0) = false := decide_eq_false c6
  clear c6
  obtain rfl := Option.some.inj H
  go_enter Try.func72, Try.ntmps72
  go_wp2
  go_ret
  exact ⟨by first | rfl | (simp; done) | (simp [*]; done), by repeat (first | exact Drawn0.refl _ | apply Drawn0.step)⟩

end Go.Proofs.Ytomidomdomjkfaa.PT
