-- Written by this session's own program (wip/tools) out of the translation.
import Derived.Test.YtomidomdomjkfaaPTx0
namespace Go.Proofs.Ytomidomdomjkfaa.PT
open Go.RowKit Go.Proofs.YtomidomdomjkfaaW.PrintWords Go.Proofs.YtomidomdomjkfaaW.PrintLast Go.Proofs.YtomidomdomjkfaaW.PrintMore
attribute [local go_sem] max2_int min2_int max_two min_two max_three min_three max_four min_four   -- for this text's walks alone
set_option linter.unusedVariables false
set_option linter.unusedSimpArgs false

/-! ### spec_Score: function 31 -/
def spec_Score.j0 : Nat → Int → Int → Int → Bool → Int → Int → Nat → Nat → Int → Int → Option (Nat)
  | 0, _, _, _, _, _, _, _, _, _, _ => none
  | k + 1, x1, x4, x11, x338000, x338001, x338002, x338003, x338004, x338005, x338006 => (floatBits .quo .f64 (floatOfInt .f64 x1) (floatOfInt .f64 x4)).bind fun t338 => (if x338002 > 0 then ((floatBits .quo .f64 (floatOfInt .f64 x11) (floatOfInt .f64 x338002)).bind fun t339 => ((floatBits .add .f64 t338 t339).bind fun t340 => (some t340))) else (if x11 = 0 then (some t338) else (some (4607182418800017408 : Nat))))
def spec_Score.f (k : Nat) (a0_0 : Bool) (a0_1 : Int) (a0_2 : Int) (a0_3 : Nat) (a0_4 : Nat) (a0_5 : Int) (a0_6 : Int) (a1 : Int) (a2 : Int) (a3 : Int) (a4 : Int) : Option (Nat) := if (wrap64 (a3 - a2)) < 0 then (spec_Score.j0 k a1 a4 (wrap64 (-(wrap64 (a3 - a2)))) a0_0 a0_1 a0_2 a0_3 a0_4 a0_5 a0_6) else (spec_Score.j0 k a1 a4 (wrap64 (a3 - a2)) a0_0 a0_1 a0_2 a0_3 a0_4 a0_5 a0_6)
theorem spec_Score.mono_l : ∀ k, (∀ y0 y1 y2 y3 y4 y5 y6 y7 y8 y9, LeO (spec_Score.j0 k y0 y1 y2 y3 y4 y5 y6 y7 y8 y9) (spec_Score.j0 (k + 1) y0 y1 y2 y3 y4 y5 y6 y7 y8 y9))
  | 0 => fun _ _ _ _ _ _ _ _ _ _ r h => by simp [spec_Score.j0] at h
  | k + 1 => by
    have ih0 := spec_Score.mono_l k
    · intro y0 y1 y2 y3 y4 y5 y6 y7 y8 y9
      unfold spec_Score.j0
      repeat' first
      | (with_reducible exact ih0 _ _ _ _ _ _ _ _ _ _)
      | (with_reducible exact LeO.refl _)
      | (with_reducible exact LeO.none _)
      | (with_reducible refine LeO.ite ?_ ?_)
      | (with_reducible refine LeO.bind ?_ (fun _ => ?_))
      | exact ih0 _ _ _ _ _ _ _ _ _ _
      | exact LeO.none _
      | refine LeO.ite ?_ ?_
      | refine LeO.bind ?_ (fun _ => ?_)
theorem spec_Score.mono : ∀ a0 a1 a2 a3 a4 a5 a6 a7 a8 a9 a10 k, LeO (spec_Score.f k a0 a1 a2 a3 a4 a5 a6 a7 a8 a9 a10) (spec_Score.f (k + 1) a0 a1 a2 a3 a4 a5 a6 a7 a8 a9 a10) := by
  intro a0 a1 a2 a3 a4 a5 a6 a7 a8 a9 a10 k
  have ih0 := spec_Score.mono_l k
  unfold spec_Score.f
  repeat' first
      | (with_reducible exact ih0 _ _ _ _ _ _ _ _ _ _)
      | (with_reducible exact LeO.refl _)
      | (with_reducible exact LeO.none _)
      | (with_reducible refine LeO.ite ?_ ?_)
      | (with_reducible refine LeO.bind ?_ (fun _ => ?_))
      | exact ih0 _ _ _ _ _ _ _ _ _ _
      | exact LeO.none _
      | refine LeO.ite ?_ ?_
      | refine LeO.bind ?_ (fun _ => ?_)
set_option maxHeartbeats 8000000 in
set_option maxRecDepth 100000 in
theorem spec_Score.calls (k : Nat) (a0_0 : Bool) (a0_1 : Int) (a0_2 : Int) (a0_3 : Nat) (a0_4 : Nat) (a0_5 : Int) (a0_6 : Int) (a1 : Int) (a2 : Int) (a3 : Int) (a4 : Int) (r : Nat) (w : World) (h : spec_Score.f k a0_0 a0_1 a0_2 a0_3 a0_4 a0_5 a0_6 a1 a2 a3 a4 = some r) :
    Calls Try.prog 31 #[.agg #[.bool a0_0, .int .i64 a0_1, .int .i64 a0_2, .float .f64 a0_3, .float .f64 a0_4, .int .i64 a0_5, .int .i64 a0_6], .int .i64 a1, .int .i64 a2, .int .i64 a3, .int .i64 a4] w fun e w' => e = .returned (.float .f64 r) ∧ Below w.heap.size w w' := by
  have hu45 := Try.underlying45
  have HB := Aside0.mk (Below.refl w.heap.size w)
  have H : (if (wrap64 (a3 - a2)) < 0 then (spec_Score.j0 k a1 a4 (wrap64 (-(wrap64 (a3 - a2)))) a0_0 a0_1 a0_2 a0_3 a0_4 a0_5 a0_6) else (spec_Score.j0 k a1 a4 (wrap64 (a3 - a2)) a0_0 a0_1 a0_2 a0_3 a0_4 a0_5 a0_6)) = some r := h
  clear h
  have HC6 := Aside0.mk H
  clear H
  go_enter Try.func31, Try.ntmps31
  go_upto_if 17 with (first | ((with_reducible refine gate_dst (N := 5) rfl ?_); refine box_event ?hg (N := 5) ?hd (cs := #[.bool a0_0, .int .i64 a0_1, .int .i64 a0_2, .float .f64 a0_3, .float .f64 a0_4, .int .i64 a0_5, .int .i64 a0_6]) (t := 45) ?hr ?_; (case hd => rfl); (case hg => rfl); (case hr => first | (go_simp; done) | (go_simp; rfl)); intro gb337 hg w7 hbox hb; have n0_ := Aside0.mk (below_step (by repeat (first | (with_reducible first | exact HB.out | apply below_alloc | apply pw_below_drewN | apply below_drew1) | exact HB.out)) hb); have n1_ := Aside0.mk (hbox); have n2_ := Aside0.mk ((by rw [hg]; exact (below_size (by repeat (first | (with_reducible first | exact HB.out | apply below_alloc | apply pw_below_drewN | apply below_drew1) | exact HB.out))) : w.heap.size ≤ gb337)); have n3_ := Aside0.mk ((by rw [hg]; exact (below_size (by repeat (first | (with_reducible first | exact HB.out | apply below_alloc | apply pw_below_drewN | apply below_drew1) | exact HB.out))) : w.heap.size ≤ gb337)); clear HB; have HB := n0_; have BK337 := n1_; have GW337 := n2_; have GE337 := n3_; clear n0_ n1_ n2_ n3_; clear hb hbox hg))
  (try simp only [Act.put, List.setIfInBounds_toArray, List.set_cons_zero, List.set_cons_succ])
  go_cut [11] (fun v11 wc => ∃ (kq : Nat) (x11_5 : Int), v11 = .int .i64 x11_5 ∧ Aside0 (spec_Score.j0 kq a1 a4 x11_5 a0_0 a0_1 a0_2 a0_3 a0_4 a0_5 a0_6 = some r) ∧ Aside0 (kq ≤ k) ∧ Aside0 (wc.heap[gb337]? = some (.cells #[.bool a0_0, .int .i64 a0_1, .int .i64 a0_2, .float .f64 a0_3, .float .f64 a0_4, .int .i64 a0_5, .int .i64 a0_6] 45 (0, 0))) ∧ Aside0 (Below w.heap.size w wc))
  case first =>
    have H := HC6.out
    clear HC6
    by_cases c8 : (wrap64 (a3 - a2)) < 0
    rotate_left
    · rw [if_neg c8] at H
      have c8b0 : decide ((wrap64 (a3 - a2)) < 0) = false := decide_eq_false c8
      clear c8
      (first | rw [c8b0] | (simp only [i64_w, i32_w]; rw [c8b0]) | rw [c8b2] | rw [c8b1] | skip)
      have H' := Aside0.mk H
      clear H
      go_wp2
      go_meet
      case rel => exact ⟨_, (wrap64 (a3 - a2)), (by first | rfl | (simp; done) | (simp [*]; done)), H', ⟨by first | omega | exact Nat.le_refl _⟩, ⟨by (with_reducible repeat (first | refine blk_drewN ?_ _ | refine blk_drew ?_ | refine blk_alloc ?_ _)); exact BK337.out⟩, ⟨by repeat (first | (with_reducible first | exact HB.out | apply below_alloc | apply pw_below_drewN | apply below_drew1 | refine below_set ?_ GE337.out) | exact HB.out)⟩⟩
    rw [if_pos c8] at H
    have c8b0 : decide ((wrap64 (a3 - a2)) < 0) = true := decide_eq_true c8
    clear c8
    (first | rw [c8b0] | (simp only [i64_w, i32_w]; rw [c8b0]) | rw [c8b2] | rw [c8b1] | skip)
    have H' := Aside0.mk H
    clear H
    go_wp2
    go_meet
    case rel => exact ⟨_, (wrap64 (-(wrap64 (a3 - a2)))), (by first | rfl | (simp; done) | (simp [*]; done)), H', ⟨by first | omega | exact Nat.le_refl _⟩, ⟨by (with_reducible repeat (first | refine blk_drewN ?_ _ | refine blk_drew ?_ | refine blk_alloc ?_ _)); exact BK337.out⟩, ⟨by repeat (first | (with_reducible first | exact HB.out | apply below_alloc | apply pw_below_drewN | apply below_drew1 | refine below_set ?_ GE337.out) | exact HB.out)⟩⟩
  case rest =>
    clear HC6
    try clear p2
    try clear c3
    try clear p6
    try clear c8
    try clear c8b0
    try clear c8b1
    try clear c8b2
    obtain ⟨kq, x11_5, rfl, HA, HJ5, BK337, HB⟩ := hcut
    rcases kq with _ | kj5
    · exact absurd HA.out (by simp [spec_Score.j0])
    have H := HA.out
    clear HA
    simp only [spec_Score.j0] at H
    replace H := Option.bind_eq_some_iff.mp H
    obtain ⟨t338, A90, H⟩ := H
    replace H : (if a0_2 > 0 then ((floatBits .quo .f64 (floatOfInt .f64 x11_5) (floatOfInt .f64 a0_2)).bind fun t339 => ((floatBits .add .f64 t338 t339).bind fun t340 => (some t340))) else (if x11_5 = 0 then (some t338) else (some (4607182418800017408 : Nat)))) = some r := H
    have hfA9 := fun (W_ : World) => run_float_arith (P := Try.prog) W_ .quo 43 .f64 (floatOfInt .f64 a1) (floatOfInt .f64 a4) t338 A90
    have A9 := Aside0.mk A90
    clear A90
    by_cases c10 : a0_2 > 0
    · rw [if_pos c10] at H
      have c10b0 : decide (0 < a0_2) = true := decide_eq_true c10
      clear c10
      replace H := Option.bind_eq_some_iff.mp H
      obtain ⟨t339, A110, H⟩ := H
      replace H : ((floatBits .add .f64 t338 t339).bind fun t340 => (some t340)) = some r := H
      have hfA11 := fun (W_ : World) => run_float_arith (P := Try.prog) W_ .quo 43 .f64 (floatOfInt .f64 x11_5) (floatOfInt .f64 a0_2) t339 A110
      have A11 := Aside0.mk A110
      clear A110
      replace H := Option.bind_eq_some_iff.mp H
      obtain ⟨t340, A120, H⟩ := H
      replace H : (some t340) = some r := H
      have hfA12 := fun (W_ : World) => run_float_arith (P := Try.prog) W_ .add 43 .f64 t338 t339 t340 A120
      have A12 := Aside0.mk A120
      clear A120
      obtain rfl := Option.some.inj H
      have hcz13_0 : wc.cell? ⟨gb337, 0, none⟩ = some (.bool a0_0) := (blk_cell BK337.out 0).trans rfl
      have hcz13_1 : wc.cell? ⟨gb337, 1, none⟩ = some (.int .i64 a0_1) := (blk_cell BK337.out 1).trans rfl
      have hcz13_2 : wc.cell? ⟨gb337, 2, none⟩ = some (.int .i64 a0_2) := (blk_cell BK337.out 2).trans rfl
      have hcz13_3 : wc.cell? ⟨gb337, 3, none⟩ = some (.float .f64 a0_3) := (blk_cell BK337.out 3).trans rfl
      have hcz13_4 : wc.cell? ⟨gb337, 4, none⟩ = some (.float .f64 a0_4) := (blk_cell BK337.out 4).trans rfl
      have hcz13_5 : wc.cell? ⟨gb337, 5, none⟩ = some (.int .i64 a0_5) := (blk_cell BK337.out 5).trans rfl
      have hcz13_6 : wc.cell? ⟨gb337, 6, none⟩ = some (.int .i64 a0_6) := (blk_cell BK337.out 6).trans rfl
      have hfz13_0 := blk_frozen BK337.out 0
      have hfz13_1 := blk_frozen BK337.out 1
      have hfz13_2 := blk_frozen BK337.out 2
      have hfz13_3 := blk_frozen BK337.out 3
      have hfz13_4 := blk_frozen BK337.out 4
      have hfz13_5 := blk_frozen BK337.out 5
      have hfz13_6 := blk_frozen BK337.out 6
      go_wp2
      go_ret
      exact ⟨by first | rfl | (simp [errW_none, errW_some] <;> rfl) | (simp [*, errW_none, errW_some] <;> rfl), by repeat (first | (with_reducible first | exact HB.out | apply below_alloc | apply pw_below_drewN | apply below_drew1 | refine below_set ?_ GE337.out) | exact HB.out)⟩
    rw [if_neg c10] at H
    have c10b0 : decide (0 < a0_2) = false := decide_eq_false c10
    clear c10
    by_cases c14 : x11_5 = 0
    rotate_left
    · rw [if_neg c14] at H
      have c14b0 : (x11_5 == 0) = false := beq_eq_false_iff_ne.mpr c14
      have c14b1 : (x11_5 != 0) = true := bne_iff_ne.mpr c14
      obtain rfl := Option.some.inj H
      have hcz16_0 : wc.cell? ⟨gb337, 0, none⟩ = some (.bool a0_0) := (blk_cell BK337.out 0).trans rfl
      have hcz16_1 : wc.cell? ⟨gb337, 1, none⟩ = some (.int .i64 a0_1) := (blk_cell BK337.out 1).trans rfl
      have hcz16_2 : wc.cell? ⟨gb337, 2, none⟩ = some (.int .i64 a0_2) := (blk_cell BK337.out 2).trans rfl
      have hcz16_3 : wc.cell? ⟨gb337, 3, none⟩ = some (.float .f64 a0_3) := (blk_cell BK337.out 3).trans rfl
      have hcz16_4 : wc.cell? ⟨gb337, 4, none⟩ = some (.float .f64 a0_4) := (blk_cell BK337.out 4).trans rfl
      have hcz16_5 : wc.cell? ⟨gb337, 5, none⟩ = some (.int .i64 a0_5) := (blk_cell BK337.out 5).trans rfl
      have hcz16_6 : wc.cell? ⟨gb337, 6, none⟩ = some (.int .i64 a0_6) := (blk_cell BK337.out 6).trans rfl
      have hfz16_0 := blk_frozen BK337.out 0
      have hfz16_1 := blk_frozen BK337.out 1
      have hfz16_2 := blk_frozen BK337.out 2
      have hfz16_3 := blk_frozen BK337.out 3
      have hfz16_4 := blk_frozen BK337.out 4
      have hfz16_5 := blk_frozen BK337.out 5
      have hfz16_6 := blk_frozen BK337.out 6
      go_wp2
      go_ret
      exact ⟨by first | rfl | (simp [errW_none, errW_some] <;> rfl) | (simp [*, errW_none, errW_some] <;> rfl), by repeat (first | (with_reducible first | exact HB.out | apply below_alloc | apply pw_below_drewN | apply below_drew1 | refine below_set ?_ GE337.out) | exact HB.out)⟩
    rw [if_pos c14] at H
    have c14b0 : (x11_5 == 0) = true := beq_iff_eq.mpr c14
    have c14b1 : (x11_5 != 0) = false := bne_eq_false_iff_eq.mpr c14
    clear c14
    obtain rfl := Option.some.inj H
    have hcz15_0 : wc.cell? ⟨gb337, 0, none⟩ = some (.bool a0_0) := (blk_cell BK337.out 0).trans rfl
    have hcz15_1 : wc.cell? ⟨gb337, 1, none⟩ = some (.int .i64 a0_1) := (blk_cell BK337.out 1).trans rfl
    have hcz15_2 : wc.cell? ⟨gb337, 2, none⟩ = some (.int .i64 a0_2) := (blk_cell BK337.out 2).trans rfl
    have hcz15_3 : wc.cell? ⟨gb337, 3, none⟩ = some (.float .f64 a0_3) := (blk_cell BK337.out 3).trans rfl
    have hcz15_4 : wc.cell? ⟨gb337, 4, none⟩ = some (.float .f64 a0_4) := (blk_cell BK337.out 4).trans rfl
    have hcz15_5 : wc.cell? ⟨gb337, 5, none⟩ = some (.int .i64 a0_5) := (blk_cell BK337.out 5).trans rfl
    have hcz15_6 : wc.cell? ⟨gb337, 6, none⟩ = some (.int .i64 a0_6) := (blk_cell BK337.out 6).trans rfl
    have hfz15_0 := blk_frozen BK337.out 0
    have hfz15_1 := blk_frozen BK337.out 1
    have hfz15_2 := blk_frozen BK337.out 2
    have hfz15_3 := blk_frozen BK337.out 3
    have hfz15_4 := blk_frozen BK337.out 4
    have hfz15_5 := blk_frozen BK337.out 5
    have hfz15_6 := blk_frozen BK337.out 6
    go_wp2
    go_ret
    exact ⟨by first | rfl | (simp [errW_none, errW_some] <;> rfl) | (simp [*, errW_none, errW_some] <;> rfl), by repeat (first | (with_reducible first | exact HB.out | apply below_alloc | apply pw_below_drewN | apply below_drew1 | refine below_set ?_ GE337.out) | exact HB.out)⟩

end Go.Proofs.Ytomidomdomjkfaa.PT
