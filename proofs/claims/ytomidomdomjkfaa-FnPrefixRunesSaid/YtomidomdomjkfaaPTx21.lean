-- Written by this session's own program (wip/tools) out of the translation.
import Derived.Test.YtomidomdomjkfaaPTx0
namespace Go.Proofs.Ytomidomdomjkfaa.PT
open Go.RowKit Go.Proofs.YtomidomdomjkfaaW.PrintWords Go.Proofs.YtomidomdomjkfaaW.PrintLast Go.Proofs.YtomidomdomjkfaaW.PrintMore
attribute [local go_sem] max2_int min2_int max_two min_two max_three min_three max_four min_four   -- for this text's walks alone
set_option linter.unusedVariables false
set_option linter.unusedSimpArgs false

/-! ### spec_Suffix: function 23 -/
def spec_Suffix.l0 : Nat → List Int → List Int → Int → Option (Int)
  | 0, _, _, _ => none
  | k + 1, x0, x1, x5 => if x5 < (x0.length : Int) then (if x5 < (x1.length : Int) then (if 0 ≤ (wrap64 ((wrap64 ((x0.length : Int) - 1)) - x5)) then (if (wrap64 ((wrap64 ((x0.length : Int) - 1)) - x5)) < (x0.length : Int) then (if 0 ≤ (wrap64 ((wrap64 ((x1.length : Int) - 1)) - x5)) then (if (wrap64 ((wrap64 ((x1.length : Int) - 1)) - x5)) < (x1.length : Int) then (if (rd x0 (wrap64 ((wrap64 ((x0.length : Int) - 1)) - x5))) = (rd x1 (wrap64 ((wrap64 ((x1.length : Int) - 1)) - x5))) then (spec_Suffix.l0 k x0 x1 (wrap64 (x5 + 1))) else (some x5)) else (none)) else (none)) else (none)) else (none)) else (some x5)) else (some x5)
def spec_Suffix.f (k : Nat) (l0 : List Int) (l1 : List Int) : Option (Int) := spec_Suffix.l0 k l0 l1 0
theorem spec_Suffix.mono_l : ∀ k, (∀ y0 y1 y2, LeO (spec_Suffix.l0 k y0 y1 y2) (spec_Suffix.l0 (k + 1) y0 y1 y2))
  | 0 => fun _ _ _ r h => by simp [spec_Suffix.l0] at h
  | k + 1 => by
    have ih0 := spec_Suffix.mono_l k
    · intro y0 y1 y2
      unfold spec_Suffix.l0
      repeat' first
      | (with_reducible exact ih0 _ _ _)
      | (with_reducible exact LeO.refl _)
      | (with_reducible exact LeO.none _)
      | (with_reducible refine LeO.ite ?_ ?_)
      | (with_reducible refine LeO.bind ?_ (fun _ => ?_))
      | exact ih0 _ _ _
      | exact LeO.none _
      | refine LeO.ite ?_ ?_
      | refine LeO.bind ?_ (fun _ => ?_)
theorem spec_Suffix.mono : ∀ a0 a1 k, LeO (spec_Suffix.f k a0 a1) (spec_Suffix.f (k + 1) a0 a1) := by
  intro a0 a1 k
  have ih0 := spec_Suffix.mono_l k
  unfold spec_Suffix.f
  repeat' first
      | (with_reducible exact ih0 _ _ _)
      | (with_reducible exact LeO.refl _)
      | (with_reducible exact LeO.none _)
      | (with_reducible refine LeO.ite ?_ ?_)
      | (with_reducible refine LeO.bind ?_ (fun _ => ?_))
      | exact ih0 _ _ _
      | exact LeO.none _
      | refine LeO.ite ?_ ?_
      | refine LeO.bind ?_ (fun _ => ?_)
set_option maxHeartbeats 8000000 in
set_option maxRecDepth 100000 in
theorem spec_Suffix.calls (k : Nat) (A0 : Option Addr) (c0 : Nat) (l0 : List Int) (A1 : Option Addr) (c1 : Nat) (l1 : List Int) (r : Int) (w : World) (hr0 : Kd.C (Kd.int .i32) w A0 l0.length l0) (hc0 : l0.length ≤ c0) (hr1 : Kd.C (Kd.int .i32) w A1 l1.length l1) (hc1 : l1.length ≤ c1) (h : spec_Suffix.f k l0 l1 = some r) :
    Calls Try.prog 23 #[.slice A0 l0.length c0, .slice A1 l1.length c1] w fun e w' => e = .returned (.int .i64 r) ∧ Drawn0 w w' := by
  have HR0 := Aside0.mk hr0
  have HC0 := Aside0.mk hc0
  clear hr0 hc0
  have HR1 := Aside0.mk hr1
  have HC1 := Aside0.mk hc1
  clear hr1 hc1
  have H : (spec_Suffix.l0 k l0 l1 0) = some r := h
  clear h
  have H' := Aside0.mk H
  clear H
  go_enter Try.func23, Try.ntmps23
  go_wp2
  repeat (go_quiet (fail); try go_wp2)
  go_loopg [5] k (fun kq v5 w' => ∃ (x5_1 : Int), v5 = .int .i64 x5_1 ∧ Aside0 (spec_Suffix.l0 kq l0 l1 x5_1 = some r) ∧ Aside0 (kq ≤ k) ∧ Drawn0 w w')
  case atStart => exact ⟨(0), (by first | rfl | (simp; done) | (simp [*]; done)), H', ⟨Nat.le_refl _⟩, by repeat (first | exact Drawn0.refl _ | apply Drawn0.step)⟩
  case round =>
    clear H'
    try clear c1
    try clear c2
    try clear p2
    obtain ⟨x5_1, rfl, HA, HK1, ⟨m1, rfl⟩⟩ := hrel
    cases gk with
    | zero => exact absurd HA.out (by simp [spec_Suffix.l0])
    | succ k1 =>
      have H := HA.out
      clear HA
      simp only [spec_Suffix.l0] at H
      by_cases c3 : x5_1 < (l0.length : Int)
      · rw [if_pos c3] at H
        have c3b0 : decide (x5_1 < (l0.length : Int)) = true := decide_eq_true c3
        clear c3
        by_cases c4 : x5_1 < (l1.length : Int)
        · rw [if_pos c4] at H
          have c4b0 : decide (x5_1 < (l1.length : Int)) = true := decide_eq_true c4
          clear c4
          obtain ⟨ji5, hji5⟩ : ∃ j_ : Int, (wrap64 ((wrap64 ((l0.length : Int) - 1)) - x5_1)) = j_ := ⟨_, rfl⟩
          replace H : (if 0 ≤ (ji5) then (if (ji5) < (l0.length : Int) then (if 0 ≤ (wrap64 ((wrap64 ((l1.length : Int) - 1)) - x5_1)) then (if (wrap64 ((wrap64 ((l1.length : Int) - 1)) - x5_1)) < (l1.length : Int) then (if (rd l0 (ji5)) = (rd l1 (wrap64 ((wrap64 ((l1.length : Int) - 1)) - x5_1))) then (spec_Suffix.l0 k1 l0 l1 (wrap64 (x5_1 + 1))) else (some x5_1)) else (none)) else (none)) else (none)) else (none)) = some r := by first | (rw [hji5] at H; exact H) | (simp only [hji5] at H ⊢; exact H)
          have hji5w : (IntKind.i64.wrap ((wrap64 ((l0.length : Int) - 1)) - x5_1)) = ji5 := (i64_w _).trans hji5
          by_cases c6 : 0 ≤ (ji5)
          · rw [if_pos c6] at H
            have c6b0 : decide (0 ≤ (ji5)) = true := decide_eq_true c6
            clear c6
            by_cases c7 : (ji5) < (l0.length : Int)
            · rw [if_pos c7] at H
              have c7b0 : decide ((ji5) < (l0.length : Int)) = true := decide_eq_true c7
              clear c7
              obtain ⟨ji8, hji8⟩ : ∃ j_ : Int, (wrap64 ((wrap64 ((l1.length : Int) - 1)) - x5_1)) = j_ := ⟨_, rfl⟩
              replace H : (if 0 ≤ (ji8) then (if (ji8) < (l1.length : Int) then (if (rd l0 (ji5)) = (rd l1 (ji8)) then (spec_Suffix.l0 k1 l0 l1 (wrap64 (x5_1 + 1))) else (some x5_1)) else (none)) else (none)) = some r := by first | (rw [hji8] at H; exact H) | (simp only [hji8] at H ⊢; exact H)
              have hji8w : (IntKind.i64.wrap ((wrap64 ((l1.length : Int) - 1)) - x5_1)) = ji8 := (i64_w _).trans hji8
              by_cases c9 : 0 ≤ (ji8)
              · rw [if_pos c9] at H
                have c9b0 : decide (0 ≤ (ji8)) = true := decide_eq_true c9
                clear c9
                by_cases c10 : (ji8) < (l1.length : Int)
                · rw [if_pos c10] at H
                  have c10b0 : decide ((ji8) < (l1.length : Int)) = true := decide_eq_true c10
                  clear c10
                  by_cases c11 : (rd l0 (ji5)) = (rd l1 (ji8))
                  · rw [if_pos c11] at H
                    have c11b0 : ((rd l0 (ji5)) == (rd l1 (ji8))) = true := beq_iff_eq.mpr c11
                    have c11b1 : ((rd l0 (ji5)) != (rd l1 (ji8))) = false := bne_eq_false_iff_eq.mpr c11
                    clear c11
                    have H' := Aside0.mk H
                    clear H
                    have p169 : 0 ≤ ((ji5) : Int) := of_decide_eq_true (by first | (with_reducible assumption) | assumption)
                    have q169 : (ji5) < (l0.length : Int) := of_decide_eq_true (by first | (with_reducible assumption) | assumption)
                    obtain ⟨ad169, e169, hx169_0⟩ := Kd.at_int HR0.out (ji5) p169 q169
                    cases e169
                    replace p169 := eq_true p169
                    replace q169 := eq_true q169
                    have p170 : 0 ≤ ((ji8) : Int) := of_decide_eq_true (by first | (with_reducible assumption) | assumption)
                    have q170 : (ji8) < (l1.length : Int) := of_decide_eq_true (by first | (with_reducible assumption) | assumption)
                    obtain ⟨ad170, e170, hx170_0⟩ := Kd.at_int HR1.out (ji8) p170 q170
                    cases e170
                    replace p170 := eq_true p170
                    replace q170 := eq_true q170
                    go_wp2
                    repeat (go_quiet (fail); try go_wp2)
                    go_roundg k1
                    case measure => have := HK1.out; omega
                    case rel => exact ⟨(wrap64 (x5_1 + 1)), (by first | rfl | (simp; done) | (simp [*]; done)), H', ⟨by have := HK1.out; omega⟩, by repeat (first | exact Drawn0.refl _ | apply Drawn0.step)⟩
                  · rw [if_neg c11] at H
                    have c11b0 : ((rd l0 (ji5)) == (rd l1 (ji8))) = false := beq_eq_false_iff_ne.mpr c11
                    have c11b1 : ((rd l0 (ji5)) != (rd l1 (ji8))) = true := bne_iff_ne.mpr c11
                    obtain rfl := Option.some.inj H
                    have p169 : 0 ≤ ((ji5) : Int) := of_decide_eq_true (by first | (with_reducible assumption) | assumption)
                    have q169 : (ji5) < (l0.length : Int) := of_decide_eq_true (by first | (with_reducible assumption) | assumption)
                    obtain ⟨ad169, e169, hx169_0⟩ := Kd.at_int HR0.out (ji5) p169 q169
                    cases e169
                    replace p169 := eq_true p169
                    replace q169 := eq_true q169
                    have p170 : 0 ≤ ((ji8) : Int) := of_decide_eq_true (by first | (with_reducible assumption) | assumption)
                    have q170 : (ji8) < (l1.length : Int) := of_decide_eq_true (by first | (with_reducible assumption) | assumption)
                    obtain ⟨ad170, e170, hx170_0⟩ := Kd.at_int HR1.out (ji8) p170 q170
                    cases e170
                    replace p170 := eq_true p170
                    replace q170 := eq_true q170
                    go_wp2
                    repeat (go_quiet (fail); try go_wp2)
                    go_ret
                    exact ⟨by first | rfl | (simp; done) | (simp only [← hji5, ← hji8] <;> (first | rfl | simp)) | (simp [*]; done), by repeat (first | exact Drawn0.refl _ | apply Drawn0.step)⟩
                · rw [if_neg c10] at H
                  exact absurd H (by simp)
              · rw [if_neg c9] at H
                exact absurd H (by simp)
            · rw [if_neg c7] at H
              exact absurd H (by simp)
          · rw [if_neg c6] at H
            exact absurd H (by simp)
        · rw [if_neg c4] at H
          have c4b0 : decide (x5_1 < (l1.length : Int)) = false := decide_eq_false c4
          clear c4
          obtain rfl := Option.some.inj H
          go_wp2
          repeat (go_quiet (fail); try go_wp2)
          go_ret
          exact ⟨by first | rfl | (simp; done) | (simp [*]; done), by repeat (first | exact Drawn0.refl _ | apply Drawn0.step)⟩
      · rw [if_neg c3] at H
        have c3b0 : decide (x5_1 < (l0.length : Int)) = false := decide_eq_false c3
        clear c3
        obtain rfl := Option.some.inj H
        go_wp2
        repeat (go_quiet (fail); try go_wp2)
        go_ret
        exact ⟨by first | rfl | (simp; done) | (simp [*]; done), by repeat (first | exact Drawn0.refl _ | apply Drawn0.step)⟩

end Go.Proofs.Ytomidomdomjkfaa.PT
