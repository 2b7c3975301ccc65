-- Written by this session's own program (wip/tools) out of the translation.
import Derived.Test.YtomidomdomjkfaaPTx0
namespace Go.Proofs.Ytomidomdomjkfaa.PT
open Go.RowKit Go.Proofs.YtomidomdomjkfaaW.PrintWords Go.Proofs.YtomidomdomjkfaaW.PrintLast Go.Proofs.YtomidomdomjkfaaW.PrintMore
attribute [local go_sem] max2_int min2_int max_two min_two max_three min_three max_four min_four   -- for this text's walks alone
set_option linter.unusedVariables false
set_option linter.unusedSimpArgs false

/-! ### impl_part: function 73 -/
def impl_part.f (a0 : Nat) : Option (Nat) := if (FloatKind.f64.format.order a0 (0 : Nat) == some .gt || FloatKind.f64.format.order a0 (0 : Nat) == some .eq) = true then (if (FloatKind.f64.format.order a0 (4607182418800017408 : Nat) == some .lt || FloatKind.f64.format.order a0 (4607182418800017408 : Nat) == some .eq) = true then (some a0) else (some (4602678819172646912 : Nat))) else (some (4602678819172646912 : Nat))
set_option maxHeartbeats 8000000 in
set_option maxRecDepth 100000 in
theorem impl_part.calls (a0 : Nat) (r : Nat) (w : World) (h : impl_part.f a0 = some r) :
    Calls Try.prog 73 #[.float .f64 a0] w fun e w' => e = .returned (.float .f64 r) ∧ Drawn0 w w' := by
  have H : (if (FloatKind.f64.format.order a0 (0 : Nat) == some .gt || FloatKind.f64.format.order a0 (0 : Nat) == some .eq) = true then (if (FloatKind.f64.format.order a0 (4607182418800017408 : Nat) == some .lt || FloatKind.f64.format.order a0 (4607182418800017408 : Nat) == some .eq) = true then (some a0) else (some (4602678819172646912 : Nat))) else (some (4602678819172646912 : Nat))) = some r := h
  clear h
  by_cases c2 : (FloatKind.f64.format.order a0 (0 : Nat) == some .gt || FloatKind.f64.format.order a0 (0 : Nat) == some .eq) = true
  rotate_left
  · rw [if_neg c2] at H
    have c2b0 : (FloatKind.f64.format.order a0 (0 : Nat) == some .gt || FloatKind.f64.format.order a0 (0 : Nat) == some .eq) = false := by simpa using c2
    (try (have c2b1 : decide (FloatKind.f64.format.order a0 (0 : Nat) = some .gt || FloatKind.f64.format.order a0 (0 : Nat) == some .eq) = false := by simpa using c2))
    (try (have c2b2 : (FloatKind.f64.format.order a0 (0 : Nat) == some .gt || FloatKind.f64.format.order a0 (0 : Nat) == some .eq) = false := by simpa using c2))
    (try (have c2b3 : ¬ (FloatKind.f64.format.order a0 (0 : Nat) = some .gt || FloatKind.f64.format.order a0 (0 : Nat) == some .eq) := by simpa using c2))
    clear c2
    obtain rfl := Option.some.inj H
    go_enter Try.func73, Try.ntmps73
    go_wp2
    go_ret
    exact ⟨by first | rfl | (simp; done) | (simp [*]; done), by repeat (first | exact Drawn0.refl _ | apply Drawn0.step)⟩
  rw [if_pos c2] at H
  have c2b0 : (FloatKind.f64.format.order a0 (0 : Nat) == some .gt || FloatKind.f64.format.order a0 (0 : Nat) == some .eq) = true := c2
  (try (have c2b1 : decide (FloatKind.f64.format.order a0 (0 : Nat) = some .gt || FloatKind.f64.format.order a0 (0 : Nat) == some .eq) = true := by simpa using c2))
  (try (have c2b2 : (FloatKind.f64.format.order a0 (0 : Nat) == some .gt || FloatKind.f64.format.order a0 (0 : Nat) == some .eq) = true := by simpa using c2))
  clear c2
  by_cases c3 : (FloatKind.f64.format.order a0 (4607182418800017408 : Nat) == some .lt || FloatKind.f64.format.order a0 (4607182418800017408 : Nat) == some .eq) = true
  · rw [if_pos c3] at H
    have c3b0 : (FloatKind.f64.format.order a0 (4607182418800017408 : Nat) == some .lt || FloatKind.f64.format.order a0 (4607182418800017408 : Nat) == some .eq) = true := c3
    (try (have c3b1 : decide (FloatKind.f64.format.order a0 (4607182418800017408 : Nat) = some .lt || FloatKind.f64.format.order a0 (4607182418800017408 : Nat) == some .eq) = true := by simpa using c3))
    (try (have c3b2 : (FloatKind.f64.format.order a0 (4607182418800017408 : Nat) == some .lt || FloatKind.f64.format.order a0 (4607182418800017408 : Nat) == some .eq) = true := by simpa using c3))
    clear c3
    obtain rfl := Option.some.inj H
    go_enter Try.func73, Try.ntmps73
    go_wp2
    go_ret
    exact ⟨by first | rfl | (simp; done) | (simp [*]; done), by repeat (first | exact Drawn0.refl _ | apply Drawn0.step)⟩
  rw [if_neg c3] at H
  have c3b0 : (FloatKind.f64.format.order a0 (4607182418800017408 : Nat) == some .lt || FloatKind.f64.format.order a0 (4607182418800017408 : Nat) == some .eq) = false := by simpa using c3
  (try (have c3b1 : decide (FloatKind.f64.format.order a0 (4607182418800017408 : Nat) = some .lt || FloatKind.f64.format.order a0 (4607182418800017408 : Nat) == some .eq) = false := by simpa using c3))
  (try (have c3b2 : (FloatKind.f64.format.order a0 (4607182418800017408 : Nat) == some .lt || FloatKind.f64.format.order a0 (4607182418800017408 : Nat) == some .eq) = false := by simpa using c3))
  (try (have c3b3 : ¬ (FloatKind.f64.format.order a0 (4607182418800017408 : Nat) = some .lt || FloatKind.f64.format.order a0 (4607182418800017408 : Nat) == some .eq) := by simpa using c3))
  clear c3
  obtain rfl := Option.some.inj H
  go_enter Try.func73, Try.ntmps73
  go_wp2
  go_ret
  exact ⟨by first | rfl | (simp; done) | (simp [*]; done), by repeat (first | exact Drawn0.refl _ | apply Drawn0.step)⟩

end Go.Proofs.Ytomidomdomjkfaa.PT
