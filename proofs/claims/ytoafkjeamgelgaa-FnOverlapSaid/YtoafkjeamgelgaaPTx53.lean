-- Written by this session's own program (wip/tools) out of the translation.
import Derived.Test.YtoafkjeamgelgaaPTx0
namespace Go.Proofs.Ytoafkjeamgelgaa.PT
open Go.RowKit Go.Proofs.YtoafkjeamgelgaaW.PrintWords Go.Proofs.YtoafkjeamgelgaaW.PrintLast Go.Proofs.YtoafkjeamgelgaaW.PrintMore
attribute [local go_sem] max2_int min2_int max_two min_two max_three min_three max_four min_four   -- for this text's walks alone
set_option linter.unusedVariables false
set_option linter.unusedSimpArgs false

/-! ### spec_Overlap: function 19 -/
def spec_Overlap.l0 : Nat → ByteArray → ByteArray → Int → Option (Int)
  | 0, _, _, _ => none
  | k + 1, x0, x1, x5 => if x5 > 0 then (if 0 ≤ (wrap64 ((x0.size : Int) - x5)) then (if (wrap64 ((x0.size : Int) - x5)) ≤ (x0.size : Int) then (if 0 ≤ x5 then (if x5 ≤ (x1.size : Int) then (if (x0.extract ((wrap64 ((x0.size : Int) - x5)) : Int).toNat x0.size).toList = (x1.extract 0 (x5 : Int).toNat).toList then (some x5) else (spec_Overlap.l0 k x0 x1 (wrap64 (x5 - 1)))) else (none)) else (none)) else (none)) else (none)) else (some 0)
def spec_Overlap.f (k : Nat) (a0 : ByteArray) (a1 : ByteArray) : Option (Int) := spec_Overlap.l0 k a0 a1 (mn (a0.size : Int) (a1.size : Int))
theorem spec_Overlap.mono_l : ∀ k, (∀ y0 y1 y2, LeO (spec_Overlap.l0 k y0 y1 y2) (spec_Overlap.l0 (k + 1) y0 y1 y2))
  | 0 => fun _ _ _ r h => by simp [spec_Overlap.l0] at h
  | k + 1 => by
    have ih0 := spec_Overlap.mono_l k
    · intro y0 y1 y2
      unfold spec_Overlap.l0
      repeat' first
      | (with_reducible exact ih0 _ _ _)
      | (with_reducible exact LeO.refl _)
      | (with_reducible exact LeO.none _)
      | (with_reducible refine LeO.ite ?_ ?_)
      | (with_reducible refine LeO.bind ?_ (fun _ => ?_))
      | exact ih0 _ _ _
      | exact LeO.none _
      | refine LeO.ite ?_ ?_
      | refine LeO.bind ?_ (fun _ => ?_)
theorem spec_Overlap.mono : ∀ a0 a1 k, LeO (spec_Overlap.f k a0 a1) (spec_Overlap.f (k + 1) a0 a1) := by
  intro a0 a1 k
  have ih0 := spec_Overlap.mono_l k
  unfold spec_Overlap.f
  repeat' first
      | (with_reducible exact ih0 _ _ _)
      | (with_reducible exact LeO.refl _)
      | (with_reducible exact LeO.none _)
      | (with_reducible refine LeO.ite ?_ ?_)
      | (with_reducible refine LeO.bind ?_ (fun _ => ?_))
      | exact ih0 _ _ _
      | exact LeO.none _
      | refine LeO.ite ?_ ?_
      | refine LeO.bind ?_ (fun _ => ?_)
set_option maxHeartbeats 8000000 in
set_option maxRecDepth 100000 in
theorem spec_Overlap.calls (k : Nat) (a0 : ByteArray) (a1 : ByteArray) (r : Int) (w : World) (h : spec_Overlap.f k a0 a1 = some r) :
    Calls Try.prog 19 #[.string a0, .string a1] w fun e w' => e = .returned (.int .i64 r) ∧ Below w.heap.size w w' := by
  have HB := Aside0.mk (Below.refl w.heap.size w)
  have H : (spec_Overlap.l0 k a0 a1 (mn (a0.size : Int) (a1.size : Int))) = some r := h
  clear h
  obtain ⟨ji3, hji3⟩ : ∃ j_ : Int, (mn (a0.size : Int) (a1.size : Int)) = j_ := ⟨_, rfl⟩
  replace H : (spec_Overlap.l0 k a0 a1 ji3) = some r := by first | (rw [hji3] at H; exact H) | (simp only [hji3] at H ⊢; exact H)
  (try (have hji3l : 0 ≤ ji3 := by (rw [← hji3]; unfold mn; (repeat' split) <;> omega)))
  (try (have hji3m : 0 ≤ ji3 := by omega))
  have hji3_ : (if (a1.size : Int) < (a0.size : Int) then (a1.size : Int) else (a0.size : Int)) = ji3 := hji3
  have hji3n : (if a1.size < a0.size then (a1.size : Int) else (a0.size : Int)) = ji3 := by rw [← hji3_]; simp only [Int.ofNat_lt]
  have H' := Aside0.mk H
  clear H
  go_enter Try.func19, Try.ntmps19
  go_wp2
  repeat (go_quiet (fail); try go_wp2)
  go_loopg [5] k (fun kq v5 w' => ∃ (x5_1 : Int), v5 = .int .i64 x5_1 ∧ Aside0 (spec_Overlap.l0 kq a0 a1 x5_1 = some r) ∧ Aside0 (kq ≤ k) ∧ Aside0 (Below w.heap.size w w'))
  case atStart => exact ⟨(ji3), (by first | rfl | (simp; done) | (simp only [← hji3] <;> (first | rfl | simp)) | (simp [*]; done)), H', ⟨Nat.le_refl _⟩, ⟨by repeat (first | (with_reducible first | exact HB.out | apply below_alloc | apply pw_below_drewN | apply below_drew1) | exact HB.out)⟩⟩
  case round =>
    clear H'
    try clear c1
    try clear p2
    obtain ⟨x5_1, rfl, HA, HK1, HB⟩ := hrel
    rcases gk with _ | k1
    · exact absurd HA.out (by simp [spec_Overlap.l0])
    have H := HA.out
    clear HA
    simp only [spec_Overlap.l0] at H
    by_cases c4 : x5_1 > 0
    rotate_left
    · rw [if_neg c4] at H
      have c4b0 : decide (0 < x5_1) = false := decide_eq_false c4
      clear c4
      obtain rfl := Option.some.inj H
      go_wp2
      repeat (go_quiet (fail); try go_wp2)
      go_ret
      exact ⟨by first | rfl | (simp [errW_none, errW_some] <;> rfl) | (simp only [← hji3]; first | rfl | (simp [errW_none, errW_some] <;> rfl)) | (simp [*, errW_none, errW_some] <;> rfl), by repeat (first | (with_reducible first | exact HB.out | apply below_alloc | apply pw_below_drewN | apply below_drew1) | exact HB.out)⟩
    rw [if_pos c4] at H
    have c4b0 : decide (0 < x5_1) = true := decide_eq_true c4
    clear c4
    obtain ⟨ji5, hji5⟩ : ∃ j_ : Int, (wrap64 ((a0.size : Int) - x5_1)) = j_ := ⟨_, rfl⟩
    replace H : (if 0 ≤ (ji5) then (if (ji5) ≤ (a0.size : Int) then (if 0 ≤ x5_1 then (if x5_1 ≤ (a1.size : Int) then (if (a0.extract ((ji5) : Int).toNat a0.size).toList = (a1.extract 0 (x5_1 : Int).toNat).toList then (some x5_1) else (spec_Overlap.l0 k1 a0 a1 (wrap64 (x5_1 - 1)))) else (none)) else (none)) else (none)) else (none)) = some r := by first | (rw [hji5] at H; exact H) | (simp only [hji5] at H ⊢; exact H)
    have hji5w : (IntKind.i64.wrap ((a0.size : Int) - x5_1)) = ji5 := (i64_w _).trans hji5
    by_cases c6 : 0 ≤ (ji5)
    rotate_left
    · rw [if_neg c6] at H
      exact absurd H (by simp)
    rw [if_pos c6] at H
    have c6b0 := eq_true c6
    have c6b1 : decide (0 ≤ (ji5)) = true := decide_eq_true c6
    clear c6
    by_cases c7 : (ji5) ≤ (a0.size : Int)
    rotate_left
    · rw [if_neg c7] at H
      exact absurd H (by simp)
    rw [if_pos c7] at H
    have c7b0 := eq_true c7
    have c7b1 : decide ((ji5) ≤ (a0.size : Int)) = true := decide_eq_true c7
    clear c7
    by_cases c8 : 0 ≤ x5_1
    rotate_left
    · rw [if_neg c8] at H
      exact absurd H (by simp)
    rw [if_pos c8] at H
    have c8b0 := eq_true c8
    have c8b1 : decide (0 ≤ x5_1) = true := decide_eq_true c8
    clear c8
    by_cases c9 : x5_1 ≤ (a1.size : Int)
    rotate_left
    · rw [if_neg c9] at H
      exact absurd H (by simp)
    rw [if_pos c9] at H
    have c9b0 := eq_true c9
    have c9b1 : decide (x5_1 ≤ (a1.size : Int)) = true := decide_eq_true c9
    clear c9
    by_cases c10 : (a0.extract ((ji5) : Int).toNat a0.size).toList = (a1.extract 0 (x5_1 : Int).toNat).toList
    rotate_left
    · rw [if_neg c10] at H
      have c10b0 : ((a0.extract ((ji5) : Int).toNat a0.size).toList == (a1.extract 0 (x5_1 : Int).toNat).toList) = false := beq_eq_false_iff_ne.mpr c10
      have c10b1 : ((a0.extract ((ji5) : Int).toNat a0.size).toList != (a1.extract 0 (x5_1 : Int).toNat).toList) = true := bne_iff_ne.mpr c10
      have H' := Aside0.mk H
      clear H
      go_wp2
      repeat (go_quiet (fail); try go_wp2)
      go_roundg k1
      case measure => have := HK1.out; omega
      case rel => exact ⟨(wrap64 (x5_1 - 1)), (by first | rfl | (simp; done) | (simp [*]; done)), H', ⟨by have := HK1.out; omega⟩, ⟨by repeat (first | (with_reducible first | exact HB.out | apply below_alloc | apply pw_below_drewN | apply below_drew1) | exact HB.out)⟩⟩
    rw [if_pos c10] at H
    have c10b0 : ((a0.extract ((ji5) : Int).toNat a0.size).toList == (a1.extract 0 (x5_1 : Int).toNat).toList) = true := beq_iff_eq.mpr c10
    have c10b1 : ((a0.extract ((ji5) : Int).toNat a0.size).toList != (a1.extract 0 (x5_1 : Int).toNat).toList) = false := bne_eq_false_iff_eq.mpr c10
    clear c10
    obtain rfl := Option.some.inj H
    go_wp2
    repeat (go_quiet (fail); try go_wp2)
    go_ret
    exact ⟨by first | rfl | (simp [errW_none, errW_some] <;> rfl) | (simp only [← hji3, ← hji5]; first | rfl | (simp [errW_none, errW_some] <;> rfl)) | (simp [*, errW_none, errW_some] <;> rfl), by repeat (first | (with_reducible first | exact HB.out | apply below_alloc | apply pw_below_drewN | apply below_drew1) | exact HB.out)⟩

end Go.Proofs.Ytoafkjeamgelgaa.PT
