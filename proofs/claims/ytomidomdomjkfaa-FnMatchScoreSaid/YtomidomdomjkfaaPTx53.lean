-- Written by this session's own program (wip/tools) out of the translation.
import Derived.Test.YtomidomdomjkfaaPTx0
import Derived.Test.YtomidomdomjkfaaPTx42
import Derived.Test.YtomidomdomjkfaaPTx51
import Derived.Test.YtomidomdomjkfaaPTx52
namespace Go.Proofs.Ytomidomdomjkfaa.PT
open Go.RowKit Go.Proofs.YtomidomdomjkfaaW.PrintWords Go.Proofs.YtomidomdomjkfaaW.PrintLast Go.Proofs.YtomidomdomjkfaaW.PrintMore
attribute [local go_sem] max2_int min2_int max_two min_two max_three min_three max_four min_four   -- for this text's walks alone
set_option linter.unusedVariables false
set_option linter.unusedSimpArgs false

/-! ### laws_FnMatchScore: function 10 -/
def laws_FnMatchScore.j0 : Nat → Int → Int → Int → ByteArray → Bool → Bool → Int → Int → Nat → Nat → Int → Int → Option (Bool)
  | 0, _, _, _, _, _, _, _, _, _, _, _, _ => none
  | k + 1, x1, x2, x3, x4, x52, x342000, x342001, x342002, x342003, x342004, x342005, x342006 => if x52 = true then (some true) else ((impl_MatchScore.f x342000 x342001 x342002 x342003 x342004 x342005 x342006 x1 x2 x3 x4).bind fun t343 => ((spec_Score.f k x342000 x342001 x342002 x342003 x342004 x342005 x342006 x1 x2 x3 (x4.size : Int)).bind fun t344 => (some (FloatKind.f64.format.order t343 t344 == some .eq))))
def laws_FnMatchScore.f (k : Nat) (a0_0 : Bool) (a0_1 : Int) (a0_2 : Int) (a0_3 : Nat) (a0_4 : Nat) (a0_5 : Int) (a0_6 : Int) (a1 : Int) (a2 : Int) (a3 : Int) (a4 : ByteArray) : Option (Bool) := if (a4.size : Int) > 2147483647 then (some true) else ((spec_Usable.f a0_0 a0_1 a0_2 a0_3 a0_4 a0_5 a0_6).bind fun t342 => (if t342 = true then (if (a4.size : Int) < 1 then (laws_FnMatchScore.j0 k a1 a2 a3 a4 true a0_0 a0_1 a0_2 a0_3 a0_4 a0_5 a0_6) else (if (a4.size : Int) > 1000 then (laws_FnMatchScore.j0 k a1 a2 a3 a4 true a0_0 a0_1 a0_2 a0_3 a0_4 a0_5 a0_6) else (if a1 < 0 then (laws_FnMatchScore.j0 k a1 a2 a3 a4 true a0_0 a0_1 a0_2 a0_3 a0_4 a0_5 a0_6) else (if a1 > (a4.size : Int) then (laws_FnMatchScore.j0 k a1 a2 a3 a4 true a0_0 a0_1 a0_2 a0_3 a0_4 a0_5 a0_6) else (if a2 < 0 then (laws_FnMatchScore.j0 k a1 a2 a3 a4 true a0_0 a0_1 a0_2 a0_3 a0_4 a0_5 a0_6) else (if a3 < 0 then (laws_FnMatchScore.j0 k a1 a2 a3 a4 true a0_0 a0_1 a0_2 a0_3 a0_4 a0_5 a0_6) else (if a2 > 1073741824 then (laws_FnMatchScore.j0 k a1 a2 a3 a4 true a0_0 a0_1 a0_2 a0_3 a0_4 a0_5 a0_6) else (laws_FnMatchScore.j0 k a1 a2 a3 a4 (decide (a3 > 1073741824)) a0_0 a0_1 a0_2 a0_3 a0_4 a0_5 a0_6)))))))) else (laws_FnMatchScore.j0 k a1 a2 a3 a4 true a0_0 a0_1 a0_2 a0_3 a0_4 a0_5 a0_6)))
theorem laws_FnMatchScore.mono_l : ∀ k, (∀ y0 y1 y2 y3 y4 y5 y6 y7 y8 y9 y10 y11, LeO (laws_FnMatchScore.j0 k y0 y1 y2 y3 y4 y5 y6 y7 y8 y9 y10 y11) (laws_FnMatchScore.j0 (k + 1) y0 y1 y2 y3 y4 y5 y6 y7 y8 y9 y10 y11))
  | 0 => fun _ _ _ _ _ _ _ _ _ _ _ _ r h => by simp [laws_FnMatchScore.j0] at h
  | k + 1 => by
    have ih0 := laws_FnMatchScore.mono_l k
    · intro y0 y1 y2 y3 y4 y5 y6 y7 y8 y9 y10 y11
      unfold laws_FnMatchScore.j0
      repeat' first
      | (with_reducible exact ih0 _ _ _ _ _ _ _ _ _ _ _ _)
      | (with_reducible exact spec_Score.mono _ _ _ _ _ _ _ _ _ _ _ _)
      | (with_reducible exact LeO.refl _)
      | (with_reducible exact LeO.none _)
      | (with_reducible refine LeO.ite ?_ ?_)
      | (with_reducible refine LeO.bind ?_ (fun _ => ?_))
      | exact ih0 _ _ _ _ _ _ _ _ _ _ _ _
      | exact spec_Score.mono _ _ _ _ _ _ _ _ _ _ _ _
      | exact LeO.none _
      | refine LeO.ite ?_ ?_
      | refine LeO.bind ?_ (fun _ => ?_)
theorem laws_FnMatchScore.mono : ∀ a0 a1 a2 a3 a4 a5 a6 a7 a8 a9 a10 k, LeO (laws_FnMatchScore.f k a0 a1 a2 a3 a4 a5 a6 a7 a8 a9 a10) (laws_FnMatchScore.f (k + 1) a0 a1 a2 a3 a4 a5 a6 a7 a8 a9 a10) := by
  intro a0 a1 a2 a3 a4 a5 a6 a7 a8 a9 a10 k
  have ih0 := laws_FnMatchScore.mono_l k
  unfold laws_FnMatchScore.f
  repeat' first
      | (with_reducible exact ih0 _ _ _ _ _ _ _ _ _ _ _ _)
      | (with_reducible exact spec_Score.mono _ _ _ _ _ _ _ _ _ _ _ _)
      | (with_reducible exact LeO.refl _)
      | (with_reducible exact LeO.none _)
      | (with_reducible refine LeO.ite ?_ ?_)
      | (with_reducible refine LeO.bind ?_ (fun _ => ?_))
      | exact ih0 _ _ _ _ _ _ _ _ _ _ _ _
      | exact spec_Score.mono _ _ _ _ _ _ _ _ _ _ _ _
      | exact LeO.none _
      | refine LeO.ite ?_ ?_
      | refine LeO.bind ?_ (fun _ => ?_)
def laws_FnMatchScore.T5 : Bool × List (List Nat × List Nat) := (true, [([], []), ([], []), ([], []), ([], []), ([], []), ([0, 1, 2, 3, 4], [0, 1, 2, 3, 4]), ([], []), ([], []), ([], []), ([], []), ([], []), ([10], [10]), ([6, 7, 8, 9, 11, 5], [6, 7, 8, 9, 11]), ([5, 12], [5, 12]), ([13, 12, 0, 1, 2, 3, 4, 5, 6, 7, 8, 9, 10, 11, 12, 13], [13])])
def laws_FnMatchScore.B5 : List Nat := [0, 0, 0, 0, 0, 31, 0, 0, 0, 0, 0, 1024, 4095, 8191, 16383]
theorem laws_FnMatchScore.tab5 : rtab .any (opsOf Try.f10 5) = laws_FnMatchScore.T5 := by kernel_rfl
theorem laws_FnMatchScore.bits5 : waitsOk laws_FnMatchScore.T5.2 laws_FnMatchScore.B5 = true := by kernel_rfl
set_option maxHeartbeats 8000000 in
set_option maxRecDepth 100000 in
theorem laws_FnMatchScore.calls (k : Nat) (a0_0 : Bool) (a0_1 : Int) (a0_2 : Int) (a0_3 : Nat) (a0_4 : Nat) (a0_5 : Int) (a0_6 : Int) (a1 : Int) (a2 : Int) (a3 : Int) (a4 : ByteArray) (r : Bool) (w : World) (h : laws_FnMatchScore.f k a0_0 a0_1 a0_2 a0_3 a0_4 a0_5 a0_6 a1 a2 a3 a4 = some r) :
    Calls Try.prog 10 #[.agg #[.bool a0_0, .int .i64 a0_1, .int .i64 a0_2, .float .f64 a0_3, .float .f64 a0_4, .int .i64 a0_5, .int .i64 a0_6], .int .i64 a1, .int .i64 a2, .int .i64 a3, .string a4] w fun e w' => e = .returned (.bool r) ∧ Below w.heap.size w w' := by
  have hu45 := Try.underlying45
  have HB := Aside0.mk (Below.refl w.heap.size w)
  have H : (if (a4.size : Int) > 2147483647 then (some true) else ((spec_Usable.f a0_0 a0_1 a0_2 a0_3 a0_4 a0_5 a0_6).bind fun t342 => (if t342 = true then (if (a4.size : Int) < 1 then (laws_FnMatchScore.j0 k a1 a2 a3 a4 true a0_0 a0_1 a0_2 a0_3 a0_4 a0_5 a0_6) else (if (a4.size : Int) > 1000 then (laws_FnMatchScore.j0 k a1 a2 a3 a4 true a0_0 a0_1 a0_2 a0_3 a0_4 a0_5 a0_6) else (if a1 < 0 then (laws_FnMatchScore.j0 k a1 a2 a3 a4 true a0_0 a0_1 a0_2 a0_3 a0_4 a0_5 a0_6) else (if a1 > (a4.size : Int) then (laws_FnMatchScore.j0 k a1 a2 a3 a4 true a0_0 a0_1 a0_2 a0_3 a0_4 a0_5 a0_6) else (if a2 < 0 then (laws_FnMatchScore.j0 k a1 a2 a3 a4 true a0_0 a0_1 a0_2 a0_3 a0_4 a0_5 a0_6) else (if a3 < 0 then (laws_FnMatchScore.j0 k a1 a2 a3 a4 true a0_0 a0_1 a0_2 a0_3 a0_4 a0_5 a0_6) else (if a2 > 1073741824 then (laws_FnMatchScore.j0 k a1 a2 a3 a4 true a0_0 a0_1 a0_2 a0_3 a0_4 a0_5 a0_6) else (laws_FnMatchScore.j0 k a1 a2 a3 a4 (decide (a3 > 1073741824)) a0_0 a0_1 a0_2 a0_3 a0_4 a0_5 a0_6)))))))) else (laws_FnMatchScore.j0 k a1 a2 a3 a4 true a0_0 a0_1 a0_2 a0_3 a0_4 a0_5 a0_6)))) = some r := h
  clear h
  by_cases c6 : (a4.size : Int) > 2147483647
  · rw [if_pos c6] at H
    have c6b0 : decide (2147483647 < (a4.size : Int)) = true := decide_eq_true c6
    have c6b1 : decide (2147483647 < a4.size) = true := decide_eq_true (by omega)
    clear c6
    obtain rfl := Option.some.inj H
    go_enter Try.func10, Try.ntmps10
    go_wp2_with (first | ((with_reducible refine gate_dst (N := 5) rfl ?_); (try (refine gate_guard (by rfl) ?_; dsimp only)); refine box_event ?hg (N := 5) ?hd (cs := #[.bool a0_0, .int .i64 a0_1, .int .i64 a0_2, .float .f64 a0_3, .float .f64 a0_4, .int .i64 a0_5, .int .i64 a0_6]) (t := 45) ?hr ?_; (case hd => rfl); (case hg => rfl); (case hr => first | (go_simp; done) | (go_simp; rfl)); intro gb341 hg w7 hbox hb; have n0_ := Aside0.mk (below_step (by repeat (first | (with_reducible first | exact HB.out | apply below_alloc | apply pw_below_drewN | apply below_drew1) | exact HB.out)) hb); have n1_ := Aside0.mk (hbox); have n2_ := Aside0.mk ((by rw [hg]; exact (below_size (by repeat (first | (with_reducible first | exact HB.out | apply below_alloc | apply pw_below_drewN | apply below_drew1) | exact HB.out))) : w.heap.size ≤ gb341)); have n3_ := Aside0.mk ((by rw [hg]; exact (below_size (by repeat (first | (with_reducible first | exact HB.out | apply below_alloc | apply pw_below_drewN | apply below_drew1) | exact HB.out))) : w.heap.size ≤ gb341)); clear HB; have HB := n0_; have BK341 := n1_; have GW341 := n2_; have GE341 := n3_; clear n0_ n1_ n2_ n3_; clear hb hbox hg))
    go_ret
    exact ⟨by first | rfl | (simp [errW_none, errW_some] <;> rfl) | (simp [*, errW_none, errW_some] <;> rfl), by repeat (first | (with_reducible first | exact HB.out | apply below_alloc | apply pw_below_drewN | apply below_drew1 | refine below_set ?_ GE341.out) | exact HB.out)⟩
  rw [if_neg c6] at H
  have c6b0 : decide (2147483647 < (a4.size : Int)) = false := decide_eq_false c6
  have c6b1 : decide (2147483647 < a4.size) = false := decide_eq_false (by omega)
  clear c6
  have HC8 := Aside0.mk H
  clear H
  go_enter Try.func10, Try.ntmps10
  go_upto_region 3 with (first | ((with_reducible refine gate_dst (N := 5) rfl ?_); (try (refine gate_guard (by rfl) ?_; dsimp only)); refine box_event ?hg (N := 5) ?hd (cs := #[.bool a0_0, .int .i64 a0_1, .int .i64 a0_2, .float .f64 a0_3, .float .f64 a0_4, .int .i64 a0_5, .int .i64 a0_6]) (t := 45) ?hr ?_; (case hd => rfl); (case hg => rfl); (case hr => first | (go_simp; done) | (go_simp; rfl)); intro gb341 hg w9 hbox hb; have n0_ := Aside0.mk (below_step (by repeat (first | (with_reducible first | exact HB.out | apply below_alloc | apply pw_below_drewN | apply below_drew1) | exact HB.out)) hb); have n1_ := Aside0.mk (hbox); have n2_ := Aside0.mk ((by rw [hg]; exact (below_size (by repeat (first | (with_reducible first | exact HB.out | apply below_alloc | apply pw_below_drewN | apply below_drew1) | exact HB.out))) : w.heap.size ≤ gb341)); have n3_ := Aside0.mk ((by rw [hg]; exact (below_size (by repeat (first | (with_reducible first | exact HB.out | apply below_alloc | apply pw_below_drewN | apply below_drew1) | exact HB.out))) : w.heap.size ≤ gb341)); clear HB; have HB := n0_; have BK341 := n1_; have GW341 := n2_; have GE341 := n3_; clear n0_ n1_ n2_ n3_; clear hb hbox hg))
  (try simp only [Act.put, List.setIfInBounds_toArray, List.set_cons_zero, List.set_cons_succ])
  go_cut [52] (fun v52 wc => ∃ (kq : Nat) (x52_7 : Bool), v52 = .bool x52_7 ∧ Aside0 (laws_FnMatchScore.j0 kq a1 a2 a3 a4 x52_7 a0_0 a0_1 a0_2 a0_3 a0_4 a0_5 a0_6 = some r) ∧ Aside0 (kq ≤ k) ∧ Aside0 (wc.heap[gb341]? = some (.cells #[.bool a0_0, .int .i64 a0_1, .int .i64 a0_2, .float .f64 a0_3, .float .f64 a0_4, .int .i64 a0_5, .int .i64 a0_6] 45 (0, 0))) ∧ Aside0 (Below w.heap.size w wc))
  case first =>
    have H := HC8.out
    clear HC8
    replace H := Option.bind_eq_some_iff.mp H
    obtain ⟨t342, A100, H⟩ := H
    replace H : (if t342 = true then (if (a4.size : Int) < 1 then (laws_FnMatchScore.j0 k a1 a2 a3 a4 true a0_0 a0_1 a0_2 a0_3 a0_4 a0_5 a0_6) else (if (a4.size : Int) > 1000 then (laws_FnMatchScore.j0 k a1 a2 a3 a4 true a0_0 a0_1 a0_2 a0_3 a0_4 a0_5 a0_6) else (if a1 < 0 then (laws_FnMatchScore.j0 k a1 a2 a3 a4 true a0_0 a0_1 a0_2 a0_3 a0_4 a0_5 a0_6) else (if a1 > (a4.size : Int) then (laws_FnMatchScore.j0 k a1 a2 a3 a4 true a0_0 a0_1 a0_2 a0_3 a0_4 a0_5 a0_6) else (if a2 < 0 then (laws_FnMatchScore.j0 k a1 a2 a3 a4 true a0_0 a0_1 a0_2 a0_3 a0_4 a0_5 a0_6) else (if a3 < 0 then (laws_FnMatchScore.j0 k a1 a2 a3 a4 true a0_0 a0_1 a0_2 a0_3 a0_4 a0_5 a0_6) else (if a2 > 1073741824 then (laws_FnMatchScore.j0 k a1 a2 a3 a4 true a0_0 a0_1 a0_2 a0_3 a0_4 a0_5 a0_6) else (laws_FnMatchScore.j0 k a1 a2 a3 a4 (decide (a3 > 1073741824)) a0_0 a0_1 a0_2 a0_3 a0_4 a0_5 a0_6)))))))) else (laws_FnMatchScore.j0 k a1 a2 a3 a4 true a0_0 a0_1 a0_2 a0_3 a0_4 a0_5 a0_6)) = some r := H
    have A10 := Aside0.mk A100
    clear A100
    by_cases c11 : t342 = true
    rotate_left
    · replace c11 := Bool.eq_false_iff.mpr c11
      subst c11
      have H1 : (laws_FnMatchScore.j0 k a1 a2 a3 a4 true a0_0 a0_1 a0_2 a0_3 a0_4 a0_5 a0_6) = some r := by rw [if_neg (show ¬ (false = true) by decide)] at H; exact H
      clear H
      have H := H1
      clear H1
      have H' := Aside0.mk H
      clear H
      have hcz35_0 : w9.cell? ⟨gb341, 0, none⟩ = some (.bool a0_0) := (blk_cell BK341.out 0).trans rfl
      have hcz35_1 : w9.cell? ⟨gb341, 1, none⟩ = some (.int .i64 a0_1) := (blk_cell BK341.out 1).trans rfl
      have hcz35_2 : w9.cell? ⟨gb341, 2, none⟩ = some (.int .i64 a0_2) := (blk_cell BK341.out 2).trans rfl
      have hcz35_3 : w9.cell? ⟨gb341, 3, none⟩ = some (.float .f64 a0_3) := (blk_cell BK341.out 3).trans rfl
      have hcz35_4 : w9.cell? ⟨gb341, 4, none⟩ = some (.float .f64 a0_4) := (blk_cell BK341.out 4).trans rfl
      have hcz35_5 : w9.cell? ⟨gb341, 5, none⟩ = some (.int .i64 a0_5) := (blk_cell BK341.out 5).trans rfl
      have hcz35_6 : w9.cell? ⟨gb341, 6, none⟩ = some (.int .i64 a0_6) := (blk_cell BK341.out 6).trans rfl
      have hfz35_0 := blk_frozen BK341.out 0
      have hfz35_1 := blk_frozen BK341.out 1
      have hfz35_2 := blk_frozen BK341.out 2
      have hfz35_3 := blk_frozen BK341.out 3
      have hfz35_4 := blk_frozen BK341.out 4
      have hfz35_5 := blk_frozen BK341.out 5
      have hfz35_6 := blk_frozen BK341.out 6
      go_wp2_with (first | ((with_reducible refine gate_callee (f := 29) rfl ?_); refine goesL_ (some 15) rfl rfl Try.func29 (by kernel_rfl) rfl #[.agg #[.bool a0_0, .int .i64 a0_1, .int .i64 a0_2, .float .f64 a0_3, .float .f64 a0_4, .int .i64 a0_5, .int .i64 a0_6]] rfl (by (try simp only [List.map_toArray, List.map_cons, List.map_nil]); first | done | rfl | (simp only [List.length_drop, List.length_take]; rfl)) ?_; (with_reducible refine (spec_Usable.calls a0_0 a0_1 a0_2 a0_3 a0_4 a0_5 a0_6 false _ A10.out).mono ?_); rintro e w36 ⟨rfl, hb⟩; refine ⟨_, rfl, ?_⟩; have n0_ := Aside0.mk (blk_below (g := gb341) (o := .cells #[.bool a0_0, .int .i64 a0_1, .int .i64 a0_2, .float .f64 a0_3, .float .f64 a0_4, .int .i64 a0_5, .int .i64 a0_6] 45 (0, 0)) (by (with_reducible repeat (first | refine blk_drewN ?_ _ | refine blk_drew ?_ | refine blk_alloc ?_ _)); exact BK341.out) hb); have n1_ := Aside0.mk (below_step (by repeat (first | (with_reducible first | exact HB.out | apply below_alloc | apply pw_below_drewN | apply below_drew1 | refine below_set ?_ GE341.out) | exact HB.out)) hb); clear BK341; clear HB; have BK341 := n0_; have HB := n1_; clear n0_ n1_; (try clear hb); (try clear hb2); (try clear hk); (try clear hi)))
      go_meet
      case rel => exact ⟨_, (true), (by first | rfl | (simp; done) | (simp [*]; done)), H', ⟨by first | omega | exact Nat.le_refl _⟩, ⟨by (with_reducible repeat (first | refine blk_drewN ?_ _ | refine blk_drew ?_ | refine blk_alloc ?_ _)); exact BK341.out⟩, ⟨by repeat (first | (with_reducible first | exact HB.out | apply below_alloc | apply pw_below_drewN | apply below_drew1 | refine below_set ?_ GE341.out) | exact HB.out)⟩⟩
    subst c11
    have H1 : (if (a4.size : Int) < 1 then (laws_FnMatchScore.j0 k a1 a2 a3 a4 true a0_0 a0_1 a0_2 a0_3 a0_4 a0_5 a0_6) else (if (a4.size : Int) > 1000 then (laws_FnMatchScore.j0 k a1 a2 a3 a4 true a0_0 a0_1 a0_2 a0_3 a0_4 a0_5 a0_6) else (if a1 < 0 then (laws_FnMatchScore.j0 k a1 a2 a3 a4 true a0_0 a0_1 a0_2 a0_3 a0_4 a0_5 a0_6) else (if a1 > (a4.size : Int) then (laws_FnMatchScore.j0 k a1 a2 a3 a4 true a0_0 a0_1 a0_2 a0_3 a0_4 a0_5 a0_6) else (if a2 < 0 then (laws_FnMatchScore.j0 k a1 a2 a3 a4 true a0_0 a0_1 a0_2 a0_3 a0_4 a0_5 a0_6) else (if a3 < 0 then (laws_FnMatchScore.j0 k a1 a2 a3 a4 true a0_0 a0_1 a0_2 a0_3 a0_4 a0_5 a0_6) else (if a2 > 1073741824 then (laws_FnMatchScore.j0 k a1 a2 a3 a4 true a0_0 a0_1 a0_2 a0_3 a0_4 a0_5 a0_6) else (laws_FnMatchScore.j0 k a1 a2 a3 a4 (decide (a3 > 1073741824)) a0_0 a0_1 a0_2 a0_3 a0_4 a0_5 a0_6)))))))) = some r := by rw [if_pos rfl] at H; exact H
    clear H
    have H := H1
    clear H1
    by_cases c12 : (a4.size : Int) < 1
    · rw [if_pos c12] at H
      have c12b0 : decide ((a4.size : Int) < 1) = true := decide_eq_true c12
      have c12b1 : decide (a4.size < 1) = true := decide_eq_true (by omega)
      clear c12
      (first | rw [c12b0] | (simp only [i64_w, i32_w]; rw [c12b0]) | rw [c12b2] | rw [c12b1] | skip)
      have H' := Aside0.mk H
      clear H
      have hcz13_0 : w9.cell? ⟨gb341, 0, none⟩ = some (.bool a0_0) := (blk_cell BK341.out 0).trans rfl
      have hcz13_1 : w9.cell? ⟨gb341, 1, none⟩ = some (.int .i64 a0_1) := (blk_cell BK341.out 1).trans rfl
      have hcz13_2 : w9.cell? ⟨gb341, 2, none⟩ = some (.int .i64 a0_2) := (blk_cell BK341.out 2).trans rfl
      have hcz13_3 : w9.cell? ⟨gb341, 3, none⟩ = some (.float .f64 a0_3) := (blk_cell BK341.out 3).trans rfl
      have hcz13_4 : w9.cell? ⟨gb341, 4, none⟩ = some (.float .f64 a0_4) := (blk_cell BK341.out 4).trans rfl
      have hcz13_5 : w9.cell? ⟨gb341, 5, none⟩ = some (.int .i64 a0_5) := (blk_cell BK341.out 5).trans rfl
      have hcz13_6 : w9.cell? ⟨gb341, 6, none⟩ = some (.int .i64 a0_6) := (blk_cell BK341.out 6).trans rfl
      have hfz13_0 := blk_frozen BK341.out 0
      have hfz13_1 := blk_frozen BK341.out 1
      have hfz13_2 := blk_frozen BK341.out 2
      have hfz13_3 := blk_frozen BK341.out 3
      have hfz13_4 := blk_frozen BK341.out 4
      have hfz13_5 := blk_frozen BK341.out 5
      have hfz13_6 := blk_frozen BK341.out 6
      go_wp2_with (first | ((with_reducible refine gate_callee (f := 29) rfl ?_); refine goesL_ (some 15) rfl rfl Try.func29 (by kernel_rfl) rfl #[.agg #[.bool a0_0, .int .i64 a0_1, .int .i64 a0_2, .float .f64 a0_3, .float .f64 a0_4, .int .i64 a0_5, .int .i64 a0_6]] rfl (by (try simp only [List.map_toArray, List.map_cons, List.map_nil]); first | done | rfl | (simp only [List.length_drop, List.length_take]; rfl)) ?_; (with_reducible refine (spec_Usable.calls a0_0 a0_1 a0_2 a0_3 a0_4 a0_5 a0_6 true _ A10.out).mono ?_); rintro e w14 ⟨rfl, hb⟩; refine ⟨_, rfl, ?_⟩; have n0_ := Aside0.mk (blk_below (g := gb341) (o := .cells #[.bool a0_0, .int .i64 a0_1, .int .i64 a0_2, .float .f64 a0_3, .float .f64 a0_4, .int .i64 a0_5, .int .i64 a0_6] 45 (0, 0)) (by (with_reducible repeat (first | refine blk_drewN ?_ _ | refine blk_drew ?_ | refine blk_alloc ?_ _)); exact BK341.out) hb); have n1_ := Aside0.mk (below_step (by repeat (first | (with_reducible first | exact HB.out | apply below_alloc | apply pw_below_drewN | apply below_drew1 | refine below_set ?_ GE341.out) | exact HB.out)) hb); clear BK341; clear HB; have BK341 := n0_; have HB := n1_; clear n0_ n1_; (try clear hb); (try clear hb2); (try clear hk); (try clear hi)))
      go_meet
      case rel => exact ⟨_, (true), (by first | rfl | (simp; done) | (simp [*]; done)), H', ⟨by first | omega | exact Nat.le_refl _⟩, ⟨by (with_reducible repeat (first | refine blk_drewN ?_ _ | refine blk_drew ?_ | refine blk_alloc ?_ _)); exact BK341.out⟩, ⟨by repeat (first | (with_reducible first | exact HB.out | apply below_alloc | apply pw_below_drewN | apply below_drew1 | refine below_set ?_ GE341.out) | exact HB.out)⟩⟩
    rw [if_neg c12] at H
    have c12b0 : decide ((a4.size : Int) < 1) = false := decide_eq_false c12
    have c12b1 : decide (a4.size < 1) = false := decide_eq_false (by omega)
    clear c12
    (first | rw [c12b0] | (simp only [i64_w, i32_w]; rw [c12b0]) | rw [c12b2] | rw [c12b1] | skip)
    by_cases c15 : (a4.size : Int) > 1000
    · rw [if_pos c15] at H
      have c15b0 : decide (1000 < (a4.size : Int)) = true := decide_eq_true c15
      have c15b1 : decide (1000 < a4.size) = true := decide_eq_true (by omega)
      clear c15
      have H' := Aside0.mk H
      clear H
      have hcz16_0 : w9.cell? ⟨gb341, 0, none⟩ = some (.bool a0_0) := (blk_cell BK341.out 0).trans rfl
      have hcz16_1 : w9.cell? ⟨gb341, 1, none⟩ = some (.int .i64 a0_1) := (blk_cell BK341.out 1).trans rfl
      have hcz16_2 : w9.cell? ⟨gb341, 2, none⟩ = some (.int .i64 a0_2) := (blk_cell BK341.out 2).trans rfl
      have hcz16_3 : w9.cell? ⟨gb341, 3, none⟩ = some (.float .f64 a0_3) := (blk_cell BK341.out 3).trans rfl
      have hcz16_4 : w9.cell? ⟨gb341, 4, none⟩ = some (.float .f64 a0_4) := (blk_cell BK341.out 4).trans rfl
      have hcz16_5 : w9.cell? ⟨gb341, 5, none⟩ = some (.int .i64 a0_5) := (blk_cell BK341.out 5).trans rfl
      have hcz16_6 : w9.cell? ⟨gb341, 6, none⟩ = some (.int .i64 a0_6) := (blk_cell BK341.out 6).trans rfl
      have hfz16_0 := blk_frozen BK341.out 0
      have hfz16_1 := blk_frozen BK341.out 1
      have hfz16_2 := blk_frozen BK341.out 2
      have hfz16_3 := blk_frozen BK341.out 3
      have hfz16_4 := blk_frozen BK341.out 4
      have hfz16_5 := blk_frozen BK341.out 5
      have hfz16_6 := blk_frozen BK341.out 6
      go_wp2_with (first | ((with_reducible refine gate_callee (f := 29) rfl ?_); refine goesL_ (some 15) rfl rfl Try.func29 (by kernel_rfl) rfl #[.agg #[.bool a0_0, .int .i64 a0_1, .int .i64 a0_2, .float .f64 a0_3, .float .f64 a0_4, .int .i64 a0_5, .int .i64 a0_6]] rfl (by (try simp only [List.map_toArray, List.map_cons, List.map_nil]); first | done | rfl | (simp only [List.length_drop, List.length_take]; rfl)) ?_; (with_reducible refine (spec_Usable.calls a0_0 a0_1 a0_2 a0_3 a0_4 a0_5 a0_6 true _ A10.out).mono ?_); rintro e w17 ⟨rfl, hb⟩; refine ⟨_, rfl, ?_⟩; have n0_ := Aside0.mk (blk_below (g := gb341) (o := .cells #[.bool a0_0, .int .i64 a0_1, .int .i64 a0_2, .float .f64 a0_3, .float .f64 a0_4, .int .i64 a0_5, .int .i64 a0_6] 45 (0, 0)) (by (with_reducible repeat (first | refine blk_drewN ?_ _ | refine blk_drew ?_ | refine blk_alloc ?_ _)); exact BK341.out) hb); have n1_ := Aside0.mk (below_step (by repeat (first | (with_reducible first | exact HB.out | apply below_alloc | apply pw_below_drewN | apply below_drew1 | refine below_set ?_ GE341.out) | exact HB.out)) hb); clear BK341; clear HB; have BK341 := n0_; have HB := n1_; clear n0_ n1_; (try clear hb); (try clear hb2); (try clear hk); (try clear hi)))
      go_meet
      case rel => exact ⟨_, (true), (by first | rfl | (simp; done) | (simp [*]; done)), H', ⟨by first | omega | exact Nat.le_refl _⟩, ⟨by (with_reducible repeat (first | refine blk_drewN ?_ _ | refine blk_drew ?_ | refine blk_alloc ?_ _)); exact BK341.out⟩, ⟨by repeat (first | (with_reducible first | exact HB.out | apply below_alloc | apply pw_below_drewN | apply below_drew1 | refine below_set ?_ GE341.out) | exact HB.out)⟩⟩
    rw [if_neg c15] at H
    have c15b0 : decide (1000 < (a4.size : Int)) = false := decide_eq_false c15
    have c15b1 : decide (1000 < a4.size) = false := decide_eq_false (by omega)
    clear c15
    by_cases c18 : a1 < 0
    · rw [if_pos c18] at H
      have c18b0 : decide (a1 < 0) = true := decide_eq_true c18
      clear c18
      have H' := Aside0.mk H
      clear H
      have hcz19_0 : w9.cell? ⟨gb341, 0, none⟩ = some (.bool a0_0) := (blk_cell BK341.out 0).trans rfl
      have hcz19_1 : w9.cell? ⟨gb341, 1, none⟩ = some (.int .i64 a0_1) := (blk_cell BK341.out 1).trans rfl
      have hcz19_2 : w9.cell? ⟨gb341, 2, none⟩ = some (.int .i64 a0_2) := (blk_cell BK341.out 2).trans rfl
      have hcz19_3 : w9.cell? ⟨gb341, 3, none⟩ = some (.float .f64 a0_3) := (blk_cell BK341.out 3).trans rfl
      have hcz19_4 : w9.cell? ⟨gb341, 4, none⟩ = some (.float .f64 a0_4) := (blk_cell BK341.out 4).trans rfl
      have hcz19_5 : w9.cell? ⟨gb341, 5, none⟩ = some (.int .i64 a0_5) := (blk_cell BK341.out 5).trans rfl
      have hcz19_6 : w9.cell? ⟨gb341, 6, none⟩ = some (.int .i64 a0_6) := (blk_cell BK341.out 6).trans rfl
      have hfz19_0 := blk_frozen BK341.out 0
      have hfz19_1 := blk_frozen BK341.out 1
      have hfz19_2 := blk_frozen BK341.out 2
      have hfz19_3 := blk_frozen BK341.out 3
      have hfz19_4 := blk_frozen BK341.out 4
      have hfz19_5 := blk_frozen BK341.out 5
      have hfz19_6 := blk_frozen BK341.out 6
      go_wp2_with (first | ((with_reducible refine gate_callee (f := 29) rfl ?_); refine goesL_ (some 15) rfl rfl Try.func29 (by kernel_rfl) rfl #[.agg #[.bool a0_0, .int .i64 a0_1, .int .i64 a0_2, .float .f64 a0_3, .float .f64 a0_4, .int .i64 a0_5, .int .i64 a0_6]] rfl (by (try simp only [List.map_toArray, List.map_cons, List.map_nil]); first | done | rfl | (simp only [List.length_drop, List.length_take]; rfl)) ?_; (with_reducible refine (spec_Usable.calls a0_0 a0_1 a0_2 a0_3 a0_4 a0_5 a0_6 true _ A10.out).mono ?_); rintro e w20 ⟨rfl, hb⟩; refine ⟨_, rfl, ?_⟩; have n0_ := Aside0.mk (blk_below (g := gb341) (o := .cells #[.bool a0_0, .int .i64 a0_1, .int .i64 a0_2, .float .f64 a0_3, .float .f64 a0_4, .int .i64 a0_5, .int .i64 a0_6] 45 (0, 0)) (by (with_reducible repeat (first | refine blk_drewN ?_ _ | refine blk_drew ?_ | refine blk_alloc ?_ _)); exact BK341.out) hb); have n1_ := Aside0.mk (below_step (by repeat (first | (with_reducible first | exact HB.out | apply below_alloc | apply pw_below_drewN | apply below_drew1 | refine below_set ?_ GE341.out) | exact HB.out)) hb); clear BK341; clear HB; have BK341 := n0_; have HB := n1_; clear n0_ n1_; (try clear hb); (try clear hb2); (try clear hk); (try clear hi)))
      go_meet
      case rel => exact ⟨_, (true), (by first | rfl | (simp; done) | (simp [*]; done)), H', ⟨by first | omega | exact Nat.le_refl _⟩, ⟨by (with_reducible repeat (first | refine blk_drewN ?_ _ | refine blk_drew ?_ | refine blk_alloc ?_ _)); exact BK341.out⟩, ⟨by repeat (first | (with_reducible first | exact HB.out | apply below_alloc | apply pw_below_drewN | apply below_drew1 | refine below_set ?_ GE341.out) | exact HB.out)⟩⟩
    rw [if_neg c18] at H
    have c18b0 : decide (a1 < 0) = false := decide_eq_false c18
    clear c18
    by_cases c21 : a1 > (a4.size : Int)
    · rw [if_pos c21] at H
      have c21b0 : decide ((a4.size : Int) < a1) = true := decide_eq_true c21
      clear c21
      have H' := Aside0.mk H
      clear H
      have hcz22_0 : w9.cell? ⟨gb341, 0, none⟩ = some (.bool a0_0) := (blk_cell BK341.out 0).trans rfl
      have hcz22_1 : w9.cell? ⟨gb341, 1, none⟩ = some (.int .i64 a0_1) := (blk_cell BK341.out 1).trans rfl
      have hcz22_2 : w9.cell? ⟨gb341, 2, none⟩ = some (.int .i64 a0_2) := (blk_cell BK341.out 2).trans rfl
      have hcz22_3 : w9.cell? ⟨gb341, 3, none⟩ = some (.float .f64 a0_3) := (blk_cell BK341.out 3).trans rfl
      have hcz22_4 : w9.cell? ⟨gb341, 4, none⟩ = some (.float .f64 a0_4) := (blk_cell BK341.out 4).trans rfl
      have hcz22_5 : w9.cell? ⟨gb341, 5, none⟩ = some (.int .i64 a0_5) := (blk_cell BK341.out 5).trans rfl
      have hcz22_6 : w9.cell? ⟨gb341, 6, none⟩ = some (.int .i64 a0_6) := (blk_cell BK341.out 6).trans rfl
      have hfz22_0 := blk_frozen BK341.out 0
      have hfz22_1 := blk_frozen BK341.out 1
      have hfz22_2 := blk_frozen BK341.out 2
      have hfz22_3 := blk_frozen BK341.out 3
      have hfz22_4 := blk_frozen BK341.out 4
      have hfz22_5 := blk_frozen BK341.out 5
      have hfz22_6 := blk_frozen BK341.out 6
      go_wp2_with (first | ((with_reducible refine gate_callee (f := 29) rfl ?_); refine goesL_ (some 15) rfl rfl Try.func29 (by kernel_rfl) rfl #[.agg #[.bool a0_0, .int .i64 a0_1, .int .i64 a0_2, .float .f64 a0_3, .float .f64 a0_4, .int .i64 a0_5, .int .i64 a0_6]] rfl (by (try simp only [List.map_toArray, List.map_cons, List.map_nil]); first | done | rfl | (simp only [List.length_drop, List.length_take]; rfl)) ?_; (with_reducible refine (spec_Usable.calls a0_0 a0_1 a0_2 a0_3 a0_4 a0_5 a0_6 true _ A10.out).mono ?_); rintro e w23 ⟨rfl, hb⟩; refine ⟨_, rfl, ?_⟩; have n0_ := Aside0.mk (blk_below (g := gb341) (o := .cells #[.bool a0_0, .int .i64 a0_1, .int .i64 a0_2, .float .f64 a0_3, .float .f64 a0_4, .int .i64 a0_5, .int .i64 a0_6] 45 (0, 0)) (by (with_reducible repeat (first | refine blk_drewN ?_ _ | refine blk_drew ?_ | refine blk_alloc ?_ _)); exact BK341.out) hb); have n1_ := Aside0.mk (below_step (by repeat (first | (with_reducible first | exact HB.out | apply below_alloc | apply pw_below_drewN | apply below_drew1 | refine below_set ?_ GE341.out) | exact HB.out)) hb); clear BK341; clear HB; have BK341 := n0_; have HB := n1_; clear n0_ n1_; (try clear hb); (try clear hb2); (try clear hk); (try clear hi)))
      go_meet
      case rel => exact ⟨_, (true), (by first | rfl | (simp; done) | (simp [*]; done)), H', ⟨by first | omega | exact Nat.le_refl _⟩, ⟨by (with_reducible repeat (first | refine blk_drewN ?_ _ | refine blk_drew ?_ | refine blk_alloc ?_ _)); exact BK341.out⟩, ⟨by repeat (first | (with_reducible first | exact HB.out | apply below_alloc | apply pw_below_drewN | apply below_drew1 | refine below_set ?_ GE341.out) | exact HB.out)⟩⟩
    rw [if_neg c21] at H
    have c21b0 : decide ((a4.size : Int) < a1) = false := decide_eq_false c21
    clear c21
    by_cases c24 : a2 < 0
    · rw [if_pos c24] at H
      have c24b0 : decide (a2 < 0) = true := decide_eq_true c24
      clear c24
      have H' := Aside0.mk H
      clear H
      have hcz25_0 : w9.cell? ⟨gb341, 0, none⟩ = some (.bool a0_0) := (blk_cell BK341.out 0).trans rfl
      have hcz25_1 : w9.cell? ⟨gb341, 1, none⟩ = some (.int .i64 a0_1) := (blk_cell BK341.out 1).trans rfl
      have hcz25_2 : w9.cell? ⟨gb341, 2, none⟩ = some (.int .i64 a0_2) := (blk_cell BK341.out 2).trans rfl
      have hcz25_3 : w9.cell? ⟨gb341, 3, none⟩ = some (.float .f64 a0_3) := (blk_cell BK341.out 3).trans rfl
      have hcz25_4 : w9.cell? ⟨gb341, 4, none⟩ = some (.float .f64 a0_4) := (blk_cell BK341.out 4).trans rfl
      have hcz25_5 : w9.cell? ⟨gb341, 5, none⟩ = some (.int .i64 a0_5) := (blk_cell BK341.out 5).trans rfl
      have hcz25_6 : w9.cell? ⟨gb341, 6, none⟩ = some (.int .i64 a0_6) := (blk_cell BK341.out 6).trans rfl
      have hfz25_0 := blk_frozen BK341.out 0
      have hfz25_1 := blk_frozen BK341.out 1
      have hfz25_2 := blk_frozen BK341.out 2
      have hfz25_3 := blk_frozen BK341.out 3
      have hfz25_4 := blk_frozen BK341.out 4
      have hfz25_5 := blk_frozen BK341.out 5
      have hfz25_6 := blk_frozen BK341.out 6
      go_wp2_with (first | ((with_reducible refine gate_callee (f := 29) rfl ?_); refine goesL_ (some 15) rfl rfl Try.func29 (by kernel_rfl) rfl #[.agg #[.bool a0_0, .int .i64 a0_1, .int .i64 a0_2, .float .f64 a0_3, .float .f64 a0_4, .int .i64 a0_5, .int .i64 a0_6]] rfl (by (try simp only [List.map_toArray, List.map_cons, List.map_nil]); first | done | rfl | (simp only [List.length_drop, List.length_take]; rfl)) ?_; (with_reducible refine (spec_Usable.calls a0_0 a0_1 a0_2 a0_3 a0_4 a0_5 a0_6 true _ A10.out).mono ?_); rintro e w26 ⟨rfl, hb⟩; refine ⟨_, rfl, ?_⟩; have n0_ := Aside0.mk (blk_below (g := gb341) (o := .cells #[.bool a0_0, .int .i64 a0_1, .int .i64 a0_2, .float .f64 a0_3, .float .f64 a0_4, .int .i64 a0_5, .int .i64 a0_6] 45 (0, 0)) (by (with_reducible repeat (first | refine blk_drewN ?_ _ | refine blk_drew ?_ | refine blk_alloc ?_ _)); exact BK341.out) hb); have n1_ := Aside0.mk (below_step (by repeat (first | (with_reducible first | exact HB.out | apply below_alloc | apply pw_below_drewN | apply below_drew1 | refine below_set ?_ GE341.out) | exact HB.out)) hb); clear BK341; clear HB; have BK341 := n0_; have HB := n1_; clear n0_ n1_; (try clear hb); (try clear hb2); (try clear hk); (try clear hi)))
      go_meet
      case rel => exact ⟨_, (true), (by first | rfl | (simp; done) | (simp [*]; done)), H', ⟨by first | omega | exact Nat.le_refl _⟩, ⟨by (with_reducible repeat (first | refine blk_drewN ?_ _ | refine blk_drew ?_ | refine blk_alloc ?_ _)); exact BK341.out⟩, ⟨by repeat (first | (with_reducible first | exact HB.out | apply below_alloc | apply pw_below_drewN | apply below_drew1 | refine below_set ?_ GE341.out) | exact HB.out)⟩⟩
    rw [if_neg c24] at H
    have c24b0 : decide (a2 < 0) = false := decide_eq_false c24
    clear c24
    by_cases c27 : a3 < 0
    · rw [if_pos c27] at H
      have c27b0 : decide (a3 < 0) = true := decide_eq_true c27
      clear c27
      have H' := Aside0.mk H
      clear H
      have hcz28_0 : w9.cell? ⟨gb341, 0, none⟩ = some (.bool a0_0) := (blk_cell BK341.out 0).trans rfl
      have hcz28_1 : w9.cell? ⟨gb341, 1, none⟩ = some (.int .i64 a0_1) := (blk_cell BK341.out 1).trans rfl
      have hcz28_2 : w9.cell? ⟨gb341, 2, none⟩ = some (.int .i64 a0_2) := (blk_cell BK341.out 2).trans rfl
      have hcz28_3 : w9.cell? ⟨gb341, 3, none⟩ = some (.float .f64 a0_3) := (blk_cell BK341.out 3).trans rfl
      have hcz28_4 : w9.cell? ⟨gb341, 4, none⟩ = some (.float .f64 a0_4) := (blk_cell BK341.out 4).trans rfl
      have hcz28_5 : w9.cell? ⟨gb341, 5, none⟩ = some (.int .i64 a0_5) := (blk_cell BK341.out 5).trans rfl
      have hcz28_6 : w9.cell? ⟨gb341, 6, none⟩ = some (.int .i64 a0_6) := (blk_cell BK341.out 6).trans rfl
      have hfz28_0 := blk_frozen BK341.out 0
      have hfz28_1 := blk_frozen BK341.out 1
      have hfz28_2 := blk_frozen BK341.out 2
      have hfz28_3 := blk_frozen BK341.out 3
      have hfz28_4 := blk_frozen BK341.out 4
      have hfz28_5 := blk_frozen BK341.out 5
      have hfz28_6 := blk_frozen BK341.out 6
      go_wp2_with (first | ((with_reducible refine gate_callee (f := 29) rfl ?_); refine goesL_ (some 15) rfl rfl Try.func29 (by kernel_rfl) rfl #[.agg #[.bool a0_0, .int .i64 a0_1, .int .i64 a0_2, .float .f64 a0_3, .float .f64 a0_4, .int .i64 a0_5, .int .i64 a0_6]] rfl (by (try simp only [List.map_toArray, List.map_cons, List.map_nil]); first | done | rfl | (simp only [List.length_drop, List.length_take]; rfl)) ?_; (with_reducible refine (spec_Usable.calls a0_0 a0_1 a0_2 a0_3 a0_4 a0_5 a0_6 true _ A10.out).mono ?_); rintro e w29 ⟨rfl, hb⟩; refine ⟨_, rfl, ?_⟩; have n0_ := Aside0.mk (blk_below (g := gb341) (o := .cells #[.bool a0_0, .int .i64 a0_1, .int .i64 a0_2, .float .f64 a0_3, .float .f64 a0_4, .int .i64 a0_5, .int .i64 a0_6] 45 (0, 0)) (by (with_reducible repeat (first | refine blk_drewN ?_ _ | refine blk_drew ?_ | refine blk_alloc ?_ _)); exact BK341.out) hb); have n1_ := Aside0.mk (below_step (by repeat (first | (with_reducible first | exact HB.out | apply below_alloc | apply pw_below_drewN | apply below_drew1 | refine below_set ?_ GE341.out) | exact HB.out)) hb); clear BK341; clear HB; have BK341 := n0_; have HB := n1_; clear n0_ n1_; (try clear hb); (try clear hb2); (try clear hk); (try clear hi)))
      go_meet
      case rel => exact ⟨_, (true), (by first | rfl | (simp; done) | (simp [*]; done)), H', ⟨by first | omega | exact Nat.le_refl _⟩, ⟨by (with_reducible repeat (first | refine blk_drewN ?_ _ | refine blk_drew ?_ | refine blk_alloc ?_ _)); exact BK341.out⟩, ⟨by repeat (first | (with_reducible first | exact HB.out | apply below_alloc | apply pw_below_drewN | apply below_drew1 | refine below_set ?_ GE341.out) | exact HB.out)⟩⟩
    rw [if_neg c27] at H
    have c27b0 : decide (a3 < 0) = false := decide_eq_false c27
    clear c27
    by_cases c30 : a2 > 1073741824
    · rw [if_pos c30] at H
      have c30b0 : decide (1073741824 < a2) = true := decide_eq_true c30
      clear c30
      have H' := Aside0.mk H
      clear H
      have hcz31_0 : w9.cell? ⟨gb341, 0, none⟩ = some (.bool a0_0) := (blk_cell BK341.out 0).trans rfl
      have hcz31_1 : w9.cell? ⟨gb341, 1, none⟩ = some (.int .i64 a0_1) := (blk_cell BK341.out 1).trans rfl
      have hcz31_2 : w9.cell? ⟨gb341, 2, none⟩ = some (.int .i64 a0_2) := (blk_cell BK341.out 2).trans rfl
      have hcz31_3 : w9.cell? ⟨gb341, 3, none⟩ = some (.float .f64 a0_3) := (blk_cell BK341.out 3).trans rfl
      have hcz31_4 : w9.cell? ⟨gb341, 4, none⟩ = some (.float .f64 a0_4) := (blk_cell BK341.out 4).trans rfl
      have hcz31_5 : w9.cell? ⟨gb341, 5, none⟩ = some (.int .i64 a0_5) := (blk_cell BK341.out 5).trans rfl
      have hcz31_6 : w9.cell? ⟨gb341, 6, none⟩ = some (.int .i64 a0_6) := (blk_cell BK341.out 6).trans rfl
      have hfz31_0 := blk_frozen BK341.out 0
      have hfz31_1 := blk_frozen BK341.out 1
      have hfz31_2 := blk_frozen BK341.out 2
      have hfz31_3 := blk_frozen BK341.out 3
      have hfz31_4 := blk_frozen BK341.out 4
      have hfz31_5 := blk_frozen BK341.out 5
      have hfz31_6 := blk_frozen BK341.out 6
      go_wp2_with (first | ((with_reducible refine gate_callee (f := 29) rfl ?_); refine goesL_ (some 15) rfl rfl Try.func29 (by kernel_rfl) rfl #[.agg #[.bool a0_0, .int .i64 a0_1, .int .i64 a0_2, .float .f64 a0_3, .float .f64 a0_4, .int .i64 a0_5, .int .i64 a0_6]] rfl (by (try simp only [List.map_toArray, List.map_cons, List.map_nil]); first | done | rfl | (simp only [List.length_drop, List.length_take]; rfl)) ?_; (with_reducible refine (spec_Usable.calls a0_0 a0_1 a0_2 a0_3 a0_4 a0_5 a0_6 true _ A10.out).mono ?_); rintro e w32 ⟨rfl, hb⟩; refine ⟨_, rfl, ?_⟩; have n0_ := Aside0.mk (blk_below (g := gb341) (o := .cells #[.bool a0_0, .int .i64 a0_1, .int .i64 a0_2, .float .f64 a0_3, .float .f64 a0_4, .int .i64 a0_5, .int .i64 a0_6] 45 (0, 0)) (by (with_reducible repeat (first | refine blk_drewN ?_ _ | refine blk_drew ?_ | refine blk_alloc ?_ _)); exact BK341.out) hb); have n1_ := Aside0.mk (below_step (by repeat (first | (with_reducible first | exact HB.out | apply below_alloc | apply pw_below_drewN | apply below_drew1 | refine below_set ?_ GE341.out) | exact HB.out)) hb); clear BK341; clear HB; have BK341 := n0_; have HB := n1_; clear n0_ n1_; (try clear hb); (try clear hb2); (try clear hk); (try clear hi)))
      go_meet
      case rel => exact ⟨_, (true), (by first | rfl | (simp; done) | (simp [*]; done)), H', ⟨by first | omega | exact Nat.le_refl _⟩, ⟨by (with_reducible repeat (first | refine blk_drewN ?_ _ | refine blk_drew ?_ | refine blk_alloc ?_ _)); exact BK341.out⟩, ⟨by repeat (first | (with_reducible first | exact HB.out | apply below_alloc | apply pw_below_drewN | apply below_drew1 | refine below_set ?_ GE341.out) | exact HB.out)⟩⟩
    rw [if_neg c30] at H
    have c30b0 : decide (1073741824 < a2) = false := decide_eq_false c30
    clear c30
    have H' := Aside0.mk H
    clear H
    have hcz33_0 : w9.cell? ⟨gb341, 0, none⟩ = some (.bool a0_0) := (blk_cell BK341.out 0).trans rfl
    have hcz33_1 : w9.cell? ⟨gb341, 1, none⟩ = some (.int .i64 a0_1) := (blk_cell BK341.out 1).trans rfl
    have hcz33_2 : w9.cell? ⟨gb341, 2, none⟩ = some (.int .i64 a0_2) := (blk_cell BK341.out 2).trans rfl
    have hcz33_3 : w9.cell? ⟨gb341, 3, none⟩ = some (.float .f64 a0_3) := (blk_cell BK341.out 3).trans rfl
    have hcz33_4 : w9.cell? ⟨gb341, 4, none⟩ = some (.float .f64 a0_4) := (blk_cell BK341.out 4).trans rfl
    have hcz33_5 : w9.cell? ⟨gb341, 5, none⟩ = some (.int .i64 a0_5) := (blk_cell BK341.out 5).trans rfl
    have hcz33_6 : w9.cell? ⟨gb341, 6, none⟩ = some (.int .i64 a0_6) := (blk_cell BK341.out 6).trans rfl
    have hfz33_0 := blk_frozen BK341.out 0
    have hfz33_1 := blk_frozen BK341.out 1
    have hfz33_2 := blk_frozen BK341.out 2
    have hfz33_3 := blk_frozen BK341.out 3
    have hfz33_4 := blk_frozen BK341.out 4
    have hfz33_5 := blk_frozen BK341.out 5
    have hfz33_6 := blk_frozen BK341.out 6
    go_wp2_with (first | ((with_reducible refine gate_callee (f := 29) rfl ?_); refine goesL_ (some 15) rfl rfl Try.func29 (by kernel_rfl) rfl #[.agg #[.bool a0_0, .int .i64 a0_1, .int .i64 a0_2, .float .f64 a0_3, .float .f64 a0_4, .int .i64 a0_5, .int .i64 a0_6]] rfl (by (try simp only [List.map_toArray, List.map_cons, List.map_nil]); first | done | rfl | (simp only [List.length_drop, List.length_take]; rfl)) ?_; (with_reducible refine (spec_Usable.calls a0_0 a0_1 a0_2 a0_3 a0_4 a0_5 a0_6 true _ A10.out).mono ?_); rintro e w34 ⟨rfl, hb⟩; refine ⟨_, rfl, ?_⟩; have n0_ := Aside0.mk (blk_below (g := gb341) (o := .cells #[.bool a0_0, .int .i64 a0_1, .int .i64 a0_2, .float .f64 a0_3, .float .f64 a0_4, .int .i64 a0_5, .int .i64 a0_6] 45 (0, 0)) (by (with_reducible repeat (first | refine blk_drewN ?_ _ | refine blk_drew ?_ | refine blk_alloc ?_ _)); exact BK341.out) hb); have n1_ := Aside0.mk (below_step (by repeat (first | (with_reducible first | exact HB.out | apply below_alloc | apply pw_below_drewN | apply below_drew1 | refine below_set ?_ GE341.out) | exact HB.out)) hb); clear BK341; clear HB; have BK341 := n0_; have HB := n1_; clear n0_ n1_; (try clear hb); (try clear hb2); (try clear hk); (try clear hi)))
    go_meet
    case rel => exact ⟨_, (decide (a3 > 1073741824)), (by first | rfl | (simp; done) | (simp [*]; done)), H', ⟨by first | omega | exact Nat.le_refl _⟩, ⟨by (with_reducible repeat (first | refine blk_drewN ?_ _ | refine blk_drew ?_ | refine blk_alloc ?_ _)); exact BK341.out⟩, ⟨by repeat (first | (with_reducible first | exact HB.out | apply below_alloc | apply pw_below_drewN | apply below_drew1 | refine below_set ?_ GE341.out) | exact HB.out)⟩⟩
  case rest =>
    clear HC8
    try clear c1
    try clear c2
    try clear p2
    try clear c3
    try clear c6
    try clear c6b0
    try clear c6b1
    try clear c10
    try clear c11
    try clear c12
    try clear c12b0
    try clear c12b1
    try clear c12b2
    try clear c15
    try clear c15b0
    try clear c15b1
    try clear c18
    try clear c18b0
    try clear c21
    try clear c21b0
    try clear c24
    try clear c24b0
    try clear c27
    try clear c27b0
    try clear c29
    try clear c30
    try clear c30b0
    try clear hcz13_0
    try clear hcz13_1
    try clear hcz13_2
    try clear hcz13_3
    try clear hcz13_4
    try clear hcz13_5
    try clear hcz13_6
    try clear hcz16_0
    try clear hcz16_1
    try clear hcz16_2
    try clear hcz16_3
    try clear hcz16_4
    try clear hcz16_5
    try clear hcz16_6
    try clear hcz19_0
    try clear hcz19_1
    try clear hcz19_2
    try clear hcz19_3
    try clear hcz19_4
    try clear hcz19_5
    try clear hcz19_6
    try clear hcz22_0
    try clear hcz22_1
    try clear hcz22_2
    try clear hcz22_3
    try clear hcz22_4
    try clear hcz22_5
    try clear hcz22_6
    try clear hcz25_0
    try clear hcz25_1
    try clear hcz25_2
    try clear hcz25_3
    try clear hcz25_4
    try clear hcz25_5
    try clear hcz25_6
    try clear hcz28_0
    try clear hcz28_1
    try clear hcz28_2
    try clear hcz28_3
    try clear hcz28_4
    try clear hcz28_5
    try clear hcz28_6
    try clear hcz31_0
    try clear hcz31_1
    try clear hcz31_2
    try clear hcz31_3
    try clear hcz31_4
    try clear hcz31_5
    try clear hcz31_6
    try clear hcz33_0
    try clear hcz33_1
    try clear hcz33_2
    try clear hcz33_3
    try clear hcz33_4
    try clear hcz33_5
    try clear hcz33_6
    try clear hcz35_0
    try clear hcz35_1
    try clear hcz35_2
    try clear hcz35_3
    try clear hcz35_4
    try clear hcz35_5
    try clear hcz35_6
    try clear hfz13_0
    try clear hfz13_1
    try clear hfz13_2
    try clear hfz13_3
    try clear hfz13_4
    try clear hfz13_5
    try clear hfz13_6
    try clear hfz16_0
    try clear hfz16_1
    try clear hfz16_2
    try clear hfz16_3
    try clear hfz16_4
    try clear hfz16_5
    try clear hfz16_6
    try clear hfz19_0
    try clear hfz19_1
    try clear hfz19_2
    try clear hfz19_3
    try clear hfz19_4
    try clear hfz19_5
    try clear hfz19_6
    try clear hfz22_0
    try clear hfz22_1
    try clear hfz22_2
    try clear hfz22_3
    try clear hfz22_4
    try clear hfz22_5
    try clear hfz22_6
    try clear hfz25_0
    try clear hfz25_1
    try clear hfz25_2
    try clear hfz25_3
    try clear hfz25_4
    try clear hfz25_5
    try clear hfz25_6
    try clear hfz28_0
    try clear hfz28_1
    try clear hfz28_2
    try clear hfz28_3
    try clear hfz28_4
    try clear hfz28_5
    try clear hfz28_6
    try clear hfz31_0
    try clear hfz31_1
    try clear hfz31_2
    try clear hfz31_3
    try clear hfz31_4
    try clear hfz31_5
    try clear hfz31_6
    try clear hfz33_0
    try clear hfz33_1
    try clear hfz33_2
    try clear hfz33_3
    try clear hfz33_4
    try clear hfz33_5
    try clear hfz33_6
    try clear hfz35_0
    try clear hfz35_1
    try clear hfz35_2
    try clear hfz35_3
    try clear hfz35_4
    try clear hfz35_5
    try clear hfz35_6
    obtain ⟨kq, x52_7, rfl, HA, HJ7, BK341, HB⟩ := hcut
    rcases kq with _ | kj7
    · exact absurd HA.out (by simp [laws_FnMatchScore.j0])
    have H := HA.out
    clear HA
    simp only [laws_FnMatchScore.j0] at H
    by_cases c37 : x52_7 = true
    · subst c37
      have H1 : (some true) = some r := by rw [if_pos rfl] at H; exact H
      clear H
      have H := H1
      clear H1
      obtain rfl := Option.some.inj H
      go_wp2
      go_ret
      exact ⟨by first | rfl | (simp [errW_none, errW_some] <;> rfl) | (simp [*, errW_none, errW_some] <;> rfl), by repeat (first | (with_reducible first | exact HB.out | apply below_alloc | apply pw_below_drewN | apply below_drew1 | refine below_set ?_ GE341.out) | exact HB.out)⟩
    replace c37 := Bool.eq_false_iff.mpr c37
    subst c37
    have H1 : ((impl_MatchScore.f a0_0 a0_1 a0_2 a0_3 a0_4 a0_5 a0_6 a1 a2 a3 a4).bind fun t343 => ((spec_Score.f kj7 a0_0 a0_1 a0_2 a0_3 a0_4 a0_5 a0_6 a1 a2 a3 (a4.size : Int)).bind fun t344 => (some (FloatKind.f64.format.order t343 t344 == some .eq)))) = some r := by rw [if_neg (show ¬ (false = true) by decide)] at H; exact H
    clear H
    have H := H1
    clear H1
    replace H := Option.bind_eq_some_iff.mp H
    obtain ⟨t343, A380, H⟩ := H
    replace H : ((spec_Score.f kj7 a0_0 a0_1 a0_2 a0_3 a0_4 a0_5 a0_6 a1 a2 a3 (a4.size : Int)).bind fun t344 => (some (FloatKind.f64.format.order t343 t344 == some .eq))) = some r := H
    have A38 := Aside0.mk A380
    clear A380
    replace H := Option.bind_eq_some_iff.mp H
    obtain ⟨t344, A390, H⟩ := H
    replace H : (some (FloatKind.f64.format.order t343 t344 == some .eq)) = some r := H
    have A39 := Aside0.mk A390
    clear A390
    obtain rfl := Option.some.inj H
    try go_wp2
    have n0_ := Aside0.mk (blk_drew BK341.out)
    have n1_ := Aside0.mk (below_drew1 HB.out)
    clear BK341
    clear HB
    have BK341 := n0_
    have HB := n1_
    clear n0_ n1_
    refine start_ (n := 15) (S := fun w' => w'.cell? ⟨gb341, 0, none⟩ = some (.bool a0_0) ∧ w'.cell? ⟨gb341, 1, none⟩ = some (.int .i64 a0_1) ∧ w'.cell? ⟨gb341, 2, none⟩ = some (.int .i64 a0_2) ∧ w'.cell? ⟨gb341, 3, none⟩ = some (.float .f64 a0_3) ∧ w'.cell? ⟨gb341, 4, none⟩ = some (.float .f64 a0_4) ∧ w'.cell? ⟨gb341, 5, none⟩ = some (.int .i64 a0_5) ∧ w'.cell? ⟨gb341, 6, none⟩ = some (.int .i64 a0_6)) (ds := []) #[false, false, false, false, false, false, false, false, false, false, false, false, false, false, false] (by kernel_rfl) rfl rfl ⟨(blk_cell BK341.out 0).trans rfl, (blk_cell BK341.out 1).trans rfl, (blk_cell BK341.out 2).trans rfl, (blk_cell BK341.out 3).trans rfl, (blk_cell BK341.out 4).trans rfl, (blk_cell BK341.out 5).trans rfl, (blk_cell BK341.out 6).trans rfl⟩ (fun hHeld => ?_); refine with_tabW laws_FnMatchScore.tab5 laws_FnMatchScore.bits5 (fun HT_ HW_ => ?_)
    generalize wc.drew = w40 at BK341 HB hHeld ⊢
    refine pure_ (i := 1) (N := some 54) (v := ?_) (a' := ?_) #[false, true, false, false, false, false, false, false, false, false, false, false, false, false, false] rfl rfl (any_of HT_.out (by kernel_rfl)) (fun _ _ _ h => h) (Or.inl ⟨by rfl, ?_⟩) ?_ ?_
    rotate_left
    · intro w'
      go_simp
      with_reducible rfl
    rotate_left
    · simp only [Act.put, List.setIfInBounds_toArray, List.set_cons_zero, List.set_cons_succ, i64_w, i32_w]
      rfl
    refine pure_ (i := 2) (N := some 55) (v := ?_) (a' := ?_) #[false, true, true, false, false, false, false, false, false, false, false, false, false, false, false] rfl rfl (any_of HT_.out (by kernel_rfl)) (fun _ _ _ h => h) (Or.inl ⟨by rfl, ?_⟩) ?_ ?_
    rotate_left
    · intro w'
      go_simp
      with_reducible rfl
    rotate_left
    · simp only [Act.put, List.setIfInBounds_toArray, List.set_cons_zero, List.set_cons_succ, i64_w, i32_w]
      rfl
    refine pure_ (i := 3) (N := some 56) (v := ?_) (a' := ?_) #[false, true, true, true, false, false, false, false, false, false, false, false, false, false, false] rfl rfl (any_of HT_.out (by kernel_rfl)) (fun _ _ _ h => h) (Or.inl ⟨by rfl, ?_⟩) ?_ ?_
    rotate_left
    · intro w'
      go_simp
      with_reducible rfl
    rotate_left
    · simp only [Act.put, List.setIfInBounds_toArray, List.set_cons_zero, List.set_cons_succ, i64_w, i32_w]
      rfl
    refine pure_ (i := 4) (N := some 57) (v := ?_) (a' := ?_) #[false, true, true, true, true, false, false, false, false, false, false, false, false, false, false] rfl rfl (any_of HT_.out (by kernel_rfl)) (fun _ _ _ h => h) (Or.inl ⟨by rfl, ?_⟩) ?_ ?_
    rotate_left
    · intro w'
      go_simp
      with_reducible rfl
    rotate_left
    · simp only [Act.put, List.setIfInBounds_toArray, List.set_cons_zero, List.set_cons_succ, i64_w, i32_w]
      rfl
    refine pure_ (i := 7) (N := some 60) (v := ?_) (a' := ?_) #[false, true, true, true, true, false, false, true, false, false, false, false, false, false, false] rfl rfl (any_of HT_.out (by kernel_rfl)) (fun _ _ _ h => h) (Or.inl ⟨by rfl, ?_⟩) ?_ ?_
    rotate_left
    · intro w'
      go_simp
      with_reducible rfl
    rotate_left
    · simp only [Act.put, List.setIfInBounds_toArray, List.set_cons_zero, List.set_cons_succ, i64_w, i32_w]
      rfl
    refine pure_ (i := 8) (N := some 61) (v := ?_) (a' := ?_) #[false, true, true, true, true, false, false, true, true, false, false, false, false, false, false] rfl rfl (any_of HT_.out (by kernel_rfl)) (fun _ _ _ h => h) (Or.inl ⟨by rfl, ?_⟩) ?_ ?_
    rotate_left
    · intro w'
      go_simp
      with_reducible rfl
    rotate_left
    · simp only [Act.put, List.setIfInBounds_toArray, List.set_cons_zero, List.set_cons_succ, i64_w, i32_w]
      rfl
    refine pure_ (i := 9) (N := some 62) (v := ?_) (a' := ?_) #[false, true, true, true, true, false, false, true, true, true, false, false, false, false, false] rfl rfl (any_of HT_.out (by kernel_rfl)) (fun _ _ _ h => h) (Or.inl ⟨by rfl, ?_⟩) ?_ ?_
    rotate_left
    · intro w'
      go_simp
      with_reducible rfl
    rotate_left
    · simp only [Act.put, List.setIfInBounds_toArray, List.set_cons_zero, List.set_cons_succ, i64_w, i32_w]
      rfl
    refine pure_ (i := 10) (N := some 63) (v := ?_) (a' := ?_) #[false, true, true, true, true, false, false, true, true, true, true, false, false, false, false] rfl rfl (any_of HT_.out (by kernel_rfl)) (fun _ _ _ h => h) (Or.inl ⟨by rfl, ?_⟩) ?_ ?_
    rotate_left
    · intro w'
      go_simp
      with_reducible rfl
    rotate_left
    · simp only [Act.put, List.setIfInBounds_toArray, List.set_cons_zero, List.set_cons_succ, i64_w, i32_w]
      rfl
    refine pure_ (i := 11) (N := some 64) (v := ?_) (a' := ?_) #[false, true, true, true, true, false, false, true, true, true, true, true, false, false, false] rfl rfl (any_of HT_.out (by kernel_rfl)) (fun _ _ _ h => h) (Or.inl ⟨by rfl, ?_⟩) ?_ ?_
    rotate_left
    · intro w'
      go_simp
      with_reducible rfl
    rotate_left
    · simp only [Act.put, List.setIfInBounds_toArray, List.set_cons_zero, List.set_cons_succ, i64_w, i32_w]
      rfl
    refine take_ (i := 0) (N := some 53) (v := ?_) (a' := ?_) #[true, true, true, true, true, false, false, true, true, true, true, true, false, false, false] rfl rfl (take_ofW HT_.out HW_.out (by kernel_rfl)) (fun _ _ _ h => h) (Or.inl ⟨by rfl, ?_⟩) hHeld ?_ ?_
    rotate_left
    · rintro w' ⟨s0, s1, s2, s3, s4, s5, s6⟩
      go_simp
      with_reducible rfl
    rotate_left
    · simp only [Act.put, List.setIfInBounds_toArray, List.set_cons_zero, List.set_cons_succ, i64_w, i32_w]
      rfl
    refine take_ (i := 6) (N := some 59) (v := ?_) (a' := ?_) #[true, true, true, true, true, false, true, true, true, true, true, true, false, false, false] rfl rfl (take_ofW HT_.out HW_.out (by kernel_rfl)) (fun _ _ _ h => h) (Or.inl ⟨by rfl, ?_⟩) hHeld ?_ ?_
    rotate_left
    · rintro w' ⟨s0, s1, s2, s3, s4, s5, s6⟩
      go_simp
      with_reducible rfl
    rotate_left
    · simp only [Act.put, List.setIfInBounds_toArray, List.set_cons_zero, List.set_cons_succ, i64_w, i32_w]
      rfl
    refine one_ (i := 5) (N := some 58) #[true, true, true, true, true, true, true, true, true, true, true, true, false, false, false] rfl rfl (one_of HT_.out (by kernel_rfl)) (by decide) (fun K hK => ?_)
    refine goes_ Try.func30 (by kernel_rfl) rfl #[.agg #[.bool a0_0, .int .i64 a0_1, .int .i64 a0_2, .float .f64 a0_3, .float .f64 a0_4, .int .i64 a0_5, .int .i64 a0_6], .int .i64 a1, .int .i64 a2, .int .i64 a3, .string a4] (by rfl) rfl rfl (by (try simp only [List.map_toArray, List.map_cons, List.map_nil]); first | done | rfl | (simp only [List.length_drop, List.length_take]; rfl)) ?_
    with_reducible refine (impl_MatchScore.calls a0_0 a0_1 a0_2 a0_3 a0_4 a0_5 a0_6 a1 a2 a3 a4 t343 _ A38.out).mono ?_
    rintro e w41 ⟨rfl, hb⟩
    refine ⟨_, rfl, ?_⟩
    have n0_ := Aside0.mk (blk_below (g := gb341) (o := .cells #[.bool a0_0, .int .i64 a0_1, .int .i64 a0_2, .float .f64 a0_3, .float .f64 a0_4, .int .i64 a0_5, .int .i64 a0_6] 45 (0, 0)) (by (with_reducible repeat (first | refine blk_drewN ?_ _ | refine blk_drew ?_ | refine blk_alloc ?_ _)); exact BK341.out) hb)
    have n1_ := Aside0.mk (below_step (by repeat (first | (with_reducible first | exact HB.out | apply below_alloc | apply pw_below_drewN | apply below_drew1 | refine below_set ?_ GE341.out) | exact HB.out)) hb)
    clear BK341
    clear HB
    have BK341 := n0_
    have HB := n1_
    clear n0_ n1_
    (try clear hb)
    (try clear hb2)
    (try clear hk)
    (try clear hi)
    refine hK.out _ _ ⟨(blk_cell BK341.out 0).trans rfl, (blk_cell BK341.out 1).trans rfl, (blk_cell BK341.out 2).trans rfl, (blk_cell BK341.out 3).trans rfl, (blk_cell BK341.out 4).trans rfl, (blk_cell BK341.out 5).trans rfl, (blk_cell BK341.out 6).trans rfl⟩ (fun hHeld => ?_)
    clear hK K
    refine norm_ (a' := ?_) ?_ ?_
    rotate_left
    · show Act.put _ (some 58) _ = _
      simp only [Act.put, List.setIfInBounds_toArray, List.set_cons_zero, List.set_cons_succ, i64_w, i32_w]
      rfl
    refine one_ (i := 12) (N := some 65) #[true, true, true, true, true, true, true, true, true, true, true, true, true, false, false] rfl rfl (one_of HT_.out (by kernel_rfl)) (by decide) (fun K hK => ?_)
    refine goes_ Try.func31 (by kernel_rfl) rfl #[.agg #[.bool a0_0, .int .i64 a0_1, .int .i64 a0_2, .float .f64 a0_3, .float .f64 a0_4, .int .i64 a0_5, .int .i64 a0_6], .int .i64 a1, .int .i64 a2, .int .i64 a3, .int .i64 (a4.size : Int)] (by rfl) rfl rfl (by (try simp only [List.map_toArray, List.map_cons, List.map_nil]); first | done | rfl | (simp only [List.length_drop, List.length_take]; rfl)) ?_
    with_reducible refine (spec_Score.calls kj7 a0_0 a0_1 a0_2 a0_3 a0_4 a0_5 a0_6 a1 a2 a3 (a4.size : Int) t344 _ A39.out).mono ?_
    rintro e w42 ⟨rfl, hb⟩
    refine ⟨_, rfl, ?_⟩
    have n0_ := Aside0.mk (blk_below (g := gb341) (o := .cells #[.bool a0_0, .int .i64 a0_1, .int .i64 a0_2, .float .f64 a0_3, .float .f64 a0_4, .int .i64 a0_5, .int .i64 a0_6] 45 (0, 0)) (by (with_reducible repeat (first | refine blk_drewN ?_ _ | refine blk_drew ?_ | refine blk_alloc ?_ _)); exact BK341.out) hb)
    have n1_ := Aside0.mk (below_step (by repeat (first | (with_reducible first | exact HB.out | apply below_alloc | apply pw_below_drewN | apply below_drew1 | refine below_set ?_ GE341.out) | exact HB.out)) hb)
    clear BK341
    clear HB
    have BK341 := n0_
    have HB := n1_
    clear n0_ n1_
    (try clear hb)
    (try clear hb2)
    (try clear hk)
    (try clear hi)
    refine hK.out _ _ ⟨(blk_cell BK341.out 0).trans rfl, (blk_cell BK341.out 1).trans rfl, (blk_cell BK341.out 2).trans rfl, (blk_cell BK341.out 3).trans rfl, (blk_cell BK341.out 4).trans rfl, (blk_cell BK341.out 5).trans rfl, (blk_cell BK341.out 6).trans rfl⟩ (fun hHeld => ?_)
    clear hK K
    refine norm_ (a' := ?_) ?_ ?_
    rotate_left
    · show Act.put _ (some 65) _ = _
      simp only [Act.put, List.setIfInBounds_toArray, List.set_cons_zero, List.set_cons_succ, i64_w, i32_w]
      rfl
    refine pure_ (i := 13) (N := some 66) (v := ?_) (a' := ?_) #[true, true, true, true, true, true, true, true, true, true, true, true, true, true, false] rfl rfl (any_of HT_.out (by kernel_rfl)) (fun _ _ _ h => h) (Or.inl ⟨by rfl, ?_⟩) ?_ ?_
    rotate_left
    · intro w'
      go_simp
      with_reducible rfl
    rotate_left
    · simp only [Act.put, List.setIfInBounds_toArray, List.set_cons_zero, List.set_cons_succ, i64_w, i32_w]
      rfl
    refine pure_ (i := 14) (N := some 10) (v := ?_) (a' := ?_) #[true, true, true, true, true, true, true, true, true, true, true, true, true, true, true] rfl rfl (any_of HT_.out (by kernel_rfl)) (fun _ _ _ h => h) (Or.inl ⟨by rfl, ?_⟩) ?_ ?_
    rotate_left
    · intro w'
      go_simp
      with_reducible rfl
    rotate_left
    · simp only [Act.put, List.setIfInBounds_toArray, List.set_cons_zero, List.set_cons_succ, i64_w, i32_w]
      rfl
    refine done_ (done_of HT_.out (by kernel_rfl)) ?_
    try go_wp2
    go_ret
    exact ⟨by first | rfl | (simp [errW_none, errW_some] <;> rfl) | (simp [*, errW_none, errW_some] <;> rfl), by repeat (first | (with_reducible first | exact HB.out | apply below_alloc | apply pw_below_drewN | apply below_drew1 | refine below_set ?_ GE341.out) | exact HB.out)⟩

/-- THE ONE PURE STATEMENT of laws_FnMatchScore: yours. -/
def laws_FnMatchScore.Pure : Prop := ∀ (a0_0 : Bool) (a0_1 : Int) (a0_2 : Int) (a0_3 : Nat) (a0_4 : Nat) (a0_5 : Int) (a0_6 : Int) (a1 : Int) (a2 : Int) (a3 : Int) (a4 : ByteArray), (Lit.int .i64 a0_1).wf = true → (Lit.int .i64 a0_2).wf = true → (Lit.float .f64 a0_3).wf = true → (Lit.float .f64 a0_4).wf = true → (Lit.int .i64 a0_5).wf = true → (Lit.int .i64 a0_6).wf = true → (Lit.int .i64 a1).wf = true → (Lit.int .i64 a2).wf = true → (Lit.int .i64 a3).wf = true → a4.size ≤ 140737488351232 → ∃ k, laws_FnMatchScore.f k a0_0 a0_1 a0_2 a0_3 a0_4 a0_5 a0_6 a1 a2 a3 a4 = some true
theorem laws_FnMatchScore.walk (P : laws_FnMatchScore.Pure) (a0_0 : Bool) (a0_1 : Int) (a0_2 : Int) (a0_3 : Nat) (a0_4 : Nat) (a0_5 : Int) (a0_6 : Int) (a1 : Int) (a2 : Int) (a3 : Int) (a4 : ByteArray) (w : World) (w0_1 : (Lit.int .i64 a0_1).wf = true) (w0_2 : (Lit.int .i64 a0_2).wf = true) (w0_3 : (Lit.float .f64 a0_3).wf = true) (w0_4 : (Lit.float .f64 a0_4).wf = true) (w0_5 : (Lit.int .i64 a0_5).wf = true) (w0_6 : (Lit.int .i64 a0_6).wf = true) (w1 : (Lit.int .i64 a1).wf = true) (w2 : (Lit.int .i64 a2).wf = true) (w3 : (Lit.int .i64 a3).wf = true) (w4 : a4.size ≤ 140737488351232) :
    Calls Try.prog 10 #[.agg #[.bool a0_0, .int .i64 a0_1, .int .i64 a0_2, .float .f64 a0_3, .float .f64 a0_4, .int .i64 a0_5, .int .i64 a0_6], .int .i64 a1, .int .i64 a2, .int .i64 a3, .string a4] w fun e w' => e = .returned (.bool true) ∧ Below w.heap.size w w' := by
  obtain ⟨k, h⟩ := P a0_0 a0_1 a0_2 a0_3 a0_4 a0_5 a0_6 a1 a2 a3 a4 w0_1 w0_2 w0_3 w0_4 w0_5 w0_6 w1 w2 w3 w4
  refine (laws_FnMatchScore.calls k a0_0 a0_1 a0_2 a0_3 a0_4 a0_5 a0_6 a1 a2 a3 a4 true w h).mono ?_
  rintro e w' ⟨rfl, hd⟩
  exact ⟨rfl, hd⟩

end Go.Proofs.Ytomidomdomjkfaa.PT
