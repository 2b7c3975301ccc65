-- Written by this session's own program (wip/tools) out of the translation.
import Derived.Test.YtomidomdomjkfaaPTx0
namespace Go.Proofs.Ytomidomdomjkfaa.PT
open Go.RowKit Go.Proofs.YtomidomdomjkfaaW.PrintWords Go.Proofs.YtomidomdomjkfaaW.PrintLast Go.Proofs.YtomidomdomjkfaaW.PrintMore
attribute [local go_sem] max2_int min2_int max_two min_two max_three min_three max_four min_four   -- for this text's walks alone
set_option linter.unusedVariables false
set_option linter.unusedSimpArgs false

/-! ### spec_Index: function 38 -/
mutual
def spec_Index.l0 : Nat → Int → Int → Int → List (S57) → Int → Int → Option (Int)
  | 0, _, _, _, _, _, _ => none
  | k + 1, x1, x5, x6, x10, x11, x12 => if x12 < x11 then (if 0 ≤ x12 then (if x12 < (x10.length : Int) then (if ((rd_T57 x10 x12).f0) = 1 then (spec_Index.l0 k x1 x5 (wrap64 (x6 + (((rd_T57 x10 x12).f1).size : Int))) x10 x11 (wrap64 (x12 + 1))) else (if x1 < (wrap64 (x5 + (((rd_T57 x10 x12).f1).size : Int))) then (spec_Index.j1 k x1 x5 x6 (((rd_T57 x10 x12).f1).size : Int) x10 x11 x12 (((rd_T57 x10 x12).f0) == (-1)) ((rd_T57 x10 x12).f0) ((rd_T57 x10 x12).f1)) else (spec_Index.j1 k x1 x5 x6 (((rd_T57 x10 x12).f1).size : Int) x10 x11 x12 false ((rd_T57 x10 x12).f0) ((rd_T57 x10 x12).f1)))) else (none)) else (none)) else (some (wrap64 ((wrap64 (x6 + x1)) - x5)))
def spec_Index.j1 : Nat → Int → Int → Int → Int → List (S57) → Int → Int → Bool → Int → ByteArray → Option (Int)
  | 0, _, _, _, _, _, _, _, _, _, _ => none
  | k + 1, x1, x5, x6, x9, x10, x11, x12, x26, x393000, x393001 => if x26 = true then (some x6) else (if x1 < (wrap64 (x5 + x9)) then (some (wrap64 ((wrap64 (x6 + x1)) - x5))) else (if x393000 = 0 then (spec_Index.l0 k x1 (wrap64 (x5 + x9)) (wrap64 (x6 + x9)) x10 x11 (wrap64 (x12 + 1))) else (spec_Index.l0 k x1 (wrap64 (x5 + x9)) x6 x10 x11 (wrap64 (x12 + 1)))))
end
def spec_Index.f (k : Nat) (l0 : List (S57)) (a1 : Int) : Option (Int) := spec_Index.l0 k a1 0 0 l0 (l0.length : Int) 0
theorem spec_Index.mono_l : ∀ k, (∀ y0 y1 y2 y3 y4 y5, LeO (spec_Index.l0 k y0 y1 y2 y3 y4 y5) (spec_Index.l0 (k + 1) y0 y1 y2 y3 y4 y5)) ∧ (∀ y0 y1 y2 y3 y4 y5 y6 y7 y8 y9, LeO (spec_Index.j1 k y0 y1 y2 y3 y4 y5 y6 y7 y8 y9) (spec_Index.j1 (k + 1) y0 y1 y2 y3 y4 y5 y6 y7 y8 y9))
  | 0 => ⟨fun _ _ _ _ _ _ r h => by simp [spec_Index.l0] at h, fun _ _ _ _ _ _ _ _ _ _ r h => by simp [spec_Index.j1] at h⟩
  | k + 1 => by
    obtain ⟨ih0, ih1⟩ := spec_Index.mono_l k
    refine ⟨?_, ?_⟩
    · intro y0 y1 y2 y3 y4 y5
      unfold spec_Index.l0
      repeat' first
      | (with_reducible exact ih0 _ _ _ _ _ _)
      | (with_reducible exact ih1 _ _ _ _ _ _ _ _ _ _)
      | (with_reducible exact LeO.refl _)
      | (with_reducible exact LeO.none _)
      | (with_reducible refine LeO.ite ?_ ?_)
      | (with_reducible refine LeO.bind ?_ (fun _ => ?_))
      | exact ih0 _ _ _ _ _ _
      | exact ih1 _ _ _ _ _ _ _ _ _ _
      | exact LeO.none _
      | refine LeO.ite ?_ ?_
      | refine LeO.bind ?_ (fun _ => ?_)
    · intro y0 y1 y2 y3 y4 y5 y6 y7 y8 y9
      unfold spec_Index.j1
      repeat' first
      | (with_reducible exact ih0 _ _ _ _ _ _)
      | (with_reducible exact ih1 _ _ _ _ _ _ _ _ _ _)
      | (with_reducible exact LeO.refl _)
      | (with_reducible exact LeO.none _)
      | (with_reducible refine LeO.ite ?_ ?_)
      | (with_reducible refine LeO.bind ?_ (fun _ => ?_))
      | exact ih0 _ _ _ _ _ _
      | exact ih1 _ _ _ _ _ _ _ _ _ _
      | exact LeO.none _
      | refine LeO.ite ?_ ?_
      | refine LeO.bind ?_ (fun _ => ?_)
theorem spec_Index.mono : ∀ a0 a1 k, LeO (spec_Index.f k a0 a1) (spec_Index.f (k + 1) a0 a1) := by
  intro a0 a1 k
  obtain ⟨ih0, ih1⟩ := spec_Index.mono_l k
  unfold spec_Index.f
  repeat' first
      | (with_reducible exact ih0 _ _ _ _ _ _)
      | (with_reducible exact ih1 _ _ _ _ _ _ _ _ _ _)
      | (with_reducible exact LeO.refl _)
      | (with_reducible exact LeO.none _)
      | (with_reducible refine LeO.ite ?_ ?_)
      | (with_reducible refine LeO.bind ?_ (fun _ => ?_))
      | exact ih0 _ _ _ _ _ _
      | exact ih1 _ _ _ _ _ _ _ _ _ _
      | exact LeO.none _
      | refine LeO.ite ?_ ?_
      | refine LeO.bind ?_ (fun _ => ?_)
set_option maxHeartbeats 8000000 in
set_option maxRecDepth 100000 in
theorem spec_Index.calls (k : Nat) (A0 : Option Addr) (c0 : Nat) (l0 : List (S57)) (a1 : Int) (r : Int) (w : World) (hr0 : Kd.C k57 w A0 l0.length l0) (hc0 : l0.length ≤ c0) (h : spec_Index.f k l0 a1 = some r) :
    Calls Try.prog 38 #[.slice A0 l0.length c0, .int .i64 a1] w fun e w' => e = .returned (.int .i64 r) ∧ Below w.heap.size w w' := by
  have hu57 := Try.underlying57
  have HR0 := Aside0.mk hr0
  have HC0 := Aside0.mk hc0
  clear hr0 hc0
  have HB := Aside0.mk (Below.refl w.heap.size w)
  have H : (spec_Index.l0 k a1 0 0 l0 (l0.length : Int) 0) = some r := h
  clear h
  have H' := Aside0.mk H
  clear H
  go_enter Try.func38, Try.ntmps38
  go_wp2
  go_loopg [5, 6, 12] k (fun kq v5 v6 v12 w' => ∃ (x5_1 : Int) (x6_1 : Int) (x12_1 : Int), v5 = .int .i64 x5_1 ∧ v6 = .int .i64 x6_1 ∧ v12 = .int .i64 x12_1 ∧ Aside0 (spec_Index.l0 kq a1 x5_1 x6_1 l0 (l0.length : Int) x12_1 = some r) ∧ Aside0 (kq ≤ k) ∧ Aside0 (Below w.heap.size w w'))
  case atStart => exact ⟨(0), (0), (0), (by first | rfl | (simp; done) | (simp [*]; done)), (by first | rfl | (simp; done) | (simp [*]; done)), (by first | rfl | (simp; done) | (simp [*]; done)), H', ⟨Nat.le_refl _⟩, ⟨by repeat (first | (with_reducible first | exact HB.out | apply below_alloc | apply pw_below_drewN | apply below_drew1) | exact HB.out)⟩⟩
  case round =>
    clear H'
    try clear p2
    obtain ⟨x5_1, x6_1, x12_1, rfl, rfl, rfl, HA, HK1, HB⟩ := hrel
    cases gk with
    | zero => exact absurd HA.out (by simp [spec_Index.l0])
    | succ k1 =>
      have H := HA.out
      clear HA
      simp only [spec_Index.l0] at H
      by_cases c3 : x12_1 < (l0.length : Int)
      · rw [if_pos c3] at H
        have c3b0 : decide (x12_1 < (l0.length : Int)) = true := decide_eq_true c3
        clear c3
        by_cases c4 : 0 ≤ x12_1
        · rw [if_pos c4] at H
          have c4b0 : decide (0 ≤ x12_1) = true := decide_eq_true c4
          clear c4
          by_cases c5 : x12_1 < (l0.length : Int)
          · rw [if_pos c5] at H
            have c5b0 : decide (x12_1 < (l0.length : Int)) = true := decide_eq_true c5
            clear c5
            by_cases c6 : ((rd_T57 l0 x12_1).f0) = 1
            · rw [if_pos c6] at H
              have c6b0 : (((rd_T57 l0 x12_1).f0) == 1) = true := beq_iff_eq.mpr c6
              have c6b1 : (((rd_T57 l0 x12_1).f0) != 1) = false := bne_eq_false_iff_eq.mpr c6
              clear c6
              have H' := Aside0.mk H
              clear H
              have p391 : 0 ≤ (x12_1 : Int) := of_decide_eq_true (by first | (with_reducible assumption) | assumption)
              have q391 : x12_1 < (l0.length : Int) := of_decide_eq_true (by first | (with_reducible assumption) | assumption)
              obtain ⟨ad391, e391, hx391_0, hx391_1⟩ := at_T57 HR0.out x12_1 p391 q391
              cases e391
              replace hx391_0 := (HB.out.cell (World.block_lt_of_cell? w _ hx391_0)).trans hx391_0
              replace hx391_1 := (HB.out.cell (World.block_lt_of_cell? w _ hx391_1)).trans hx391_1
              replace p391 := eq_true p391
              replace q391 := eq_true q391
              go_wp2_with (first | ((with_reducible refine gate_dst (N := 8) rfl ?_); refine box_event ?hg (N := 8) ?hd (cs := #[.int .i64 0, .string (⟨#[]⟩ : ByteArray)]) (t := 57) ?hr ?_; (case hd => rfl); (case hg => rfl); (case hr => first | (go_simp; done) | (go_simp; rfl)); intro gb392 hg w7 hbox hb; have n0_ := Aside0.mk (below_step (by repeat (first | (with_reducible first | exact HB.out | apply below_alloc | apply pw_below_drewN | apply below_drew1) | exact HB.out)) hb); have n1_ := Aside0.mk (hbox); have n2_ := Aside0.mk ((by rw [hg]; exact (below_size (by repeat (first | (with_reducible first | exact HB.out | apply below_alloc | apply pw_below_drewN | apply below_drew1) | exact HB.out))) : w.heap.size ≤ gb392)); have n3_ := Aside0.mk ((by rw [hg]; exact (below_size (by repeat (first | (with_reducible first | exact HB.out | apply below_alloc | apply pw_below_drewN | apply below_drew1) | exact HB.out))) : w.heap.size ≤ gb392)); clear HB; have HB := n0_; have BK392 := n1_; have GW392 := n2_; have GE392 := n3_; clear n0_ n1_ n2_ n3_; clear hb hbox hg; have hcz8_0 : w7.cell? ⟨gb392, 0, none⟩ = some (.int .i64 0) := (blk_cell BK392.out 0).trans rfl; have hcz8_1 : w7.cell? ⟨gb392, 1, none⟩ = some (.string (⟨#[]⟩ : ByteArray)) := (blk_cell BK392.out 1).trans rfl; have hfz8_0 := blk_frozen BK392.out 0; have hfz8_1 := blk_frozen BK392.out 1))
              go_roundg k1
              case measure => have := HK1.out; omega
              case rel => exact ⟨(x5_1), (wrap64 (x6_1 + (((rd_T57 l0 x12_1).f1).size : Int))), (wrap64 (x12_1 + 1)), (by first | rfl | (simp; done) | (simp [*]; done)), (by first | rfl | (simp; done) | (simp [*]; done)), (by first | rfl | (simp; done) | (simp [*]; done)), H', ⟨by have := HK1.out; omega⟩, ⟨by repeat (first | (with_reducible first | exact HB.out | apply below_alloc | apply pw_below_drewN | apply below_drew1 | refine below_set ?_ GE392.out) | exact HB.out)⟩⟩
            · rw [if_neg c6] at H
              have c6b0 : (((rd_T57 l0 x12_1).f0) == 1) = false := beq_eq_false_iff_ne.mpr c6
              have c6b1 : (((rd_T57 l0 x12_1).f0) != 1) = true := bne_iff_ne.mpr c6
              have HC9 := Aside0.mk H
              clear H
              have p391 : 0 ≤ (x12_1 : Int) := of_decide_eq_true (by first | (with_reducible assumption) | assumption)
              have q391 : x12_1 < (l0.length : Int) := of_decide_eq_true (by first | (with_reducible assumption) | assumption)
              obtain ⟨ad391, e391, hx391_0, hx391_1⟩ := at_T57 HR0.out x12_1 p391 q391
              cases e391
              replace hx391_0 := (HB.out.cell (World.block_lt_of_cell? w _ hx391_0)).trans hx391_0
              replace hx391_1 := (HB.out.cell (World.block_lt_of_cell? w _ hx391_1)).trans hx391_1
              replace p391 := eq_true p391
              replace q391 := eq_true q391
              go_upto_region 8 with (first | ((with_reducible refine gate_dst (N := 8) rfl ?_); refine box_event ?hg (N := 8) ?hd (cs := #[.int .i64 0, .string (⟨#[]⟩ : ByteArray)]) (t := 57) ?hr ?_; (case hd => rfl); (case hg => rfl); (case hr => first | (go_simp; done) | (go_simp; rfl)); intro gb392 hg w10 hbox hb; have n0_ := Aside0.mk (below_step (by repeat (first | (with_reducible first | exact HB.out | apply below_alloc | apply pw_below_drewN | apply below_drew1) | exact HB.out)) hb); have n1_ := Aside0.mk (hbox); have n2_ := Aside0.mk ((by rw [hg]; exact (below_size (by repeat (first | (with_reducible first | exact HB.out | apply below_alloc | apply pw_below_drewN | apply below_drew1) | exact HB.out))) : w.heap.size ≤ gb392)); have n3_ := Aside0.mk ((by rw [hg]; exact (below_size (by repeat (first | (with_reducible first | exact HB.out | apply below_alloc | apply pw_below_drewN | apply below_drew1) | exact HB.out))) : w.heap.size ≤ gb392)); clear HB; have HB := n0_; have BK392 := n1_; have GW392 := n2_; have GE392 := n3_; clear n0_ n1_ n2_ n3_; clear hb hbox hg; have hcz11_0 : w10.cell? ⟨gb392, 0, none⟩ = some (.int .i64 0) := (blk_cell BK392.out 0).trans rfl; have hcz11_1 : w10.cell? ⟨gb392, 1, none⟩ = some (.string (⟨#[]⟩ : ByteArray)) := (blk_cell BK392.out 1).trans rfl; have hfz11_0 := blk_frozen BK392.out 0; have hfz11_1 := blk_frozen BK392.out 1))
              (try simp only [Act.put, List.setIfInBounds_toArray, List.set_cons_zero, List.set_cons_succ])
              go_cut [26] (fun v26 wc => ∃ (kq : Nat) (x26_8 : Bool), v26 = .bool x26_8 ∧ Aside0 (spec_Index.j1 kq a1 x5_1 x6_1 (((rd_T57 l0 x12_1).f1).size : Int) l0 (l0.length : Int) x12_1 x26_8 ((rd_T57 l0 x12_1).f0) ((rd_T57 l0 x12_1).f1) = some r) ∧ Aside0 (kq ≤ k1) ∧ Aside0 (wc.heap[gb392]? = some (.cells #[.int .i64 ((rd_T57 l0 x12_1).f0), .string ((rd_T57 l0 x12_1).f1)] 57 (0, 0))) ∧ Aside0 (Below w.heap.size w wc))
              case first =>
                have H := HC9.out
                clear HC9
                by_cases c12 : a1 < (wrap64 (x5_1 + (((rd_T57 l0 x12_1).f1).size : Int)))
                · rw [if_pos c12] at H
                  have c12b0 : decide (a1 < (wrap64 (x5_1 + (((rd_T57 l0 x12_1).f1).size : Int)))) = true := decide_eq_true c12
                  clear c12
                  (first | rw [c12b0] | (simp only [i64_w, i32_w]; rw [c12b0]) | rw [c12b2] | skip)
                  have H' := Aside0.mk H
                  clear H
                  have hcz13_0 : w10.cell? ⟨gb392, 0, none⟩ = some (.int .i64 0) := (blk_cell BK392.out 0).trans rfl
                  have hcz13_1 : w10.cell? ⟨gb392, 1, none⟩ = some (.string (⟨#[]⟩ : ByteArray)) := (blk_cell BK392.out 1).trans rfl
                  have hfz13_0 := blk_frozen BK392.out 0
                  have hfz13_1 := blk_frozen BK392.out 1
                  go_wp2
                  go_meet
                  case rel => exact ⟨_, ((((rd_T57 l0 x12_1).f0) == (-1))), (by first | rfl | (simp; done) | (simp [*]; done)), H', ⟨by have := HK1.out; first | omega | exact Nat.le_refl _⟩, ⟨by (with_reducible repeat (first | refine blk_drewN ?_ _ | refine blk_drew ?_ | refine blk_alloc ?_ _)); refine blk_put (cs := #[.int .i64 ((rd_T57 l0 x12_1).f0), .string (⟨#[]⟩ : ByteArray)]) ?_ 1 _ rfl; (with_reducible repeat (first | refine blk_drewN ?_ _ | refine blk_drew ?_ | refine blk_alloc ?_ _)); refine blk_put (cs := #[.int .i64 0, .string (⟨#[]⟩ : ByteArray)]) ?_ 0 _ rfl; (with_reducible repeat (first | refine blk_drewN ?_ _ | refine blk_drew ?_ | refine blk_alloc ?_ _)); exact BK392.out⟩, ⟨by repeat (first | (with_reducible first | exact HB.out | apply below_alloc | apply pw_below_drewN | apply below_drew1 | refine below_set ?_ GE392.out) | exact HB.out)⟩⟩
                · rw [if_neg c12] at H
                  have c12b0 : decide (a1 < (wrap64 (x5_1 + (((rd_T57 l0 x12_1).f1).size : Int)))) = false := decide_eq_false c12
                  clear c12
                  (first | rw [c12b0] | (simp only [i64_w, i32_w]; rw [c12b0]) | rw [c12b2] | skip)
                  have H' := Aside0.mk H
                  clear H
                  go_wp2
                  go_meet
                  case rel => exact ⟨_, (false), (by first | rfl | (simp; done) | (simp [*]; done)), H', ⟨by have := HK1.out; first | omega | exact Nat.le_refl _⟩, ⟨by (with_reducible repeat (first | refine blk_drewN ?_ _ | refine blk_drew ?_ | refine blk_alloc ?_ _)); refine blk_put (cs := #[.int .i64 ((rd_T57 l0 x12_1).f0), .string (⟨#[]⟩ : ByteArray)]) ?_ 1 _ rfl; (with_reducible repeat (first | refine blk_drewN ?_ _ | refine blk_drew ?_ | refine blk_alloc ?_ _)); refine blk_put (cs := #[.int .i64 0, .string (⟨#[]⟩ : ByteArray)]) ?_ 0 _ rfl; (with_reducible repeat (first | refine blk_drewN ?_ _ | refine blk_drew ?_ | refine blk_alloc ?_ _)); exact BK392.out⟩, ⟨by repeat (first | (with_reducible first | exact HB.out | apply below_alloc | apply pw_below_drewN | apply below_drew1 | refine below_set ?_ GE392.out) | exact HB.out)⟩⟩
              case rest =>
                clear HC9
                try clear c1
                try clear p2
                try clear c3
                try clear c3b0
                try clear p3
                try clear q3
                try clear hx3
                try clear c4
                try clear c4b0
                try clear c5
                try clear c5b0
                try clear c6
                try clear c6b0
                try clear c6b1
                try clear p6
                try clear c12
                try clear c12b0
                try clear c12b2
                try clear hcz11_0
                try clear hcz11_1
                try clear hcz13_0
                try clear hcz13_1
                try clear hcz8_0
                try clear hcz8_1
                try clear hfz11_0
                try clear hfz11_1
                try clear hfz13_0
                try clear hfz13_1
                try clear hfz8_0
                try clear hfz8_1
                try clear hx391_0
                try clear hx391_1
                try clear p2
                try clear p391
                try clear q391
                obtain ⟨kq, x26_8, rfl, HA, HJ8, BK392, HB⟩ := hcut
                cases kq with
                | zero => exact absurd HA.out (by simp [spec_Index.j1])
                | succ kj8 =>
                  have H := HA.out
                  clear HA
                  simp only [spec_Index.j1] at H
                  by_cases c14 : x26_8 = true
                  · subst c14
                    have H1 : (some x6_1) = some r := by rw [if_pos rfl] at H; exact H
                    clear H
                    have H := H1
                    clear H1
                    obtain rfl := Option.some.inj H
                    go_wp2
                    go_ret
                    exact ⟨by first | rfl | (simp [errW_none, errW_some] <;> rfl) | (simp [*, errW_none, errW_some] <;> rfl), by repeat (first | (with_reducible first | exact HB.out | apply below_alloc | apply pw_below_drewN | apply below_drew1 | refine below_set ?_ GE392.out) | exact HB.out)⟩
                  · replace c14 := Bool.eq_false_iff.mpr c14
                    subst c14
                    have H1 : (if a1 < (wrap64 (x5_1 + (((rd_T57 l0 x12_1).f1).size : Int))) then (some (wrap64 ((wrap64 (x6_1 + a1)) - x5_1))) else (if ((rd_T57 l0 x12_1).f0) = 0 then (spec_Index.l0 kj8 a1 (wrap64 (x5_1 + (((rd_T57 l0 x12_1).f1).size : Int))) (wrap64 (x6_1 + (((rd_T57 l0 x12_1).f1).size : Int))) l0 (l0.length : Int) (wrap64 (x12_1 + 1))) else (spec_Index.l0 kj8 a1 (wrap64 (x5_1 + (((rd_T57 l0 x12_1).f1).size : Int))) x6_1 l0 (l0.length : Int) (wrap64 (x12_1 + 1))))) = some r := by rw [if_neg (show ¬ (false = true) by decide)] at H; exact H
                    clear H
                    have H := H1
                    clear H1
                    by_cases c15 : a1 < (wrap64 (x5_1 + (((rd_T57 l0 x12_1).f1).size : Int)))
                    · rw [if_pos c15] at H
                      have c15b0 : decide (a1 < (wrap64 (x5_1 + (((rd_T57 l0 x12_1).f1).size : Int)))) = true := decide_eq_true c15
                      clear c15
                      obtain rfl := Option.some.inj H
                      go_wp2
                      go_ret
                      exact ⟨by first | rfl | (simp [errW_none, errW_some] <;> rfl) | (simp [*, errW_none, errW_some] <;> rfl), by repeat (first | (with_reducible first | exact HB.out | apply below_alloc | apply pw_below_drewN | apply below_drew1 | refine below_set ?_ GE392.out) | exact HB.out)⟩
                    · rw [if_neg c15] at H
                      have c15b0 : decide (a1 < (wrap64 (x5_1 + (((rd_T57 l0 x12_1).f1).size : Int)))) = false := decide_eq_false c15
                      clear c15
                      by_cases c16 : ((rd_T57 l0 x12_1).f0) = 0
                      · rw [if_pos c16] at H
                        have c16b0 : (((rd_T57 l0 x12_1).f0) == 0) = true := beq_iff_eq.mpr c16
                        have c16b1 : (((rd_T57 l0 x12_1).f0) != 0) = false := bne_eq_false_iff_eq.mpr c16
                        clear c16
                        have H' := Aside0.mk H
                        clear H
                        have hcz17_0 : wc.cell? ⟨gb392, 0, none⟩ = some (.int .i64 ((rd_T57 l0 x12_1).f0)) := (blk_cell BK392.out 0).trans rfl
                        have hcz17_1 : wc.cell? ⟨gb392, 1, none⟩ = some (.string ((rd_T57 l0 x12_1).f1)) := (blk_cell BK392.out 1).trans rfl
                        have hfz17_0 := blk_frozen BK392.out 0
                        have hfz17_1 := blk_frozen BK392.out 1
                        go_wp2
                        go_roundg kj8
                        case measure => have := HK1.out; have := HJ8.out; omega
                        case rel => exact ⟨(wrap64 (x5_1 + (((rd_T57 l0 x12_1).f1).size : Int))), (wrap64 (x6_1 + (((rd_T57 l0 x12_1).f1).size : Int))), (wrap64 (x12_1 + 1)), (by first | rfl | (simp; done) | (simp [*]; done)), (by first | rfl | (simp; done) | (simp [*]; done)), (by first | rfl | (simp; done) | (simp [*]; done)), H', ⟨by have := HK1.out; have := HJ8.out; omega⟩, ⟨by repeat (first | (with_reducible first | exact HB.out | apply below_alloc | apply pw_below_drewN | apply below_drew1 | refine below_set ?_ GE392.out) | exact HB.out)⟩⟩
                      · rw [if_neg c16] at H
                        have c16b0 : (((rd_T57 l0 x12_1).f0) == 0) = false := beq_eq_false_iff_ne.mpr c16
                        have c16b1 : (((rd_T57 l0 x12_1).f0) != 0) = true := bne_iff_ne.mpr c16
                        have H' := Aside0.mk H
                        clear H
                        have hcz18_0 : wc.cell? ⟨gb392, 0, none⟩ = some (.int .i64 ((rd_T57 l0 x12_1).f0)) := (blk_cell BK392.out 0).trans rfl
                        have hcz18_1 : wc.cell? ⟨gb392, 1, none⟩ = some (.string ((rd_T57 l0 x12_1).f1)) := (blk_cell BK392.out 1).trans rfl
                        have hfz18_0 := blk_frozen BK392.out 0
                        have hfz18_1 := blk_frozen BK392.out 1
                        go_wp2
                        go_roundg kj8
                        case measure => have := HK1.out; have := HJ8.out; omega
                        case rel => exact ⟨(wrap64 (x5_1 + (((rd_T57 l0 x12_1).f1).size : Int))), (x6_1), (wrap64 (x12_1 + 1)), (by first | rfl | (simp; done) | (simp [*]; done)), (by first | rfl | (simp; done) | (simp [*]; done)), (by first | rfl | (simp; done) | (simp [*]; done)), H', ⟨by have := HK1.out; have := HJ8.out; omega⟩, ⟨by repeat (first | (with_reducible first | exact HB.out | apply below_alloc | apply pw_below_drewN | apply below_drew1 | refine below_set ?_ GE392.out) | exact HB.out)⟩⟩
          · rw [if_neg c5] at H
            exact absurd H (by simp)
        · rw [if_neg c4] at H
          exact absurd H (by simp)
      · rw [if_neg c3] at H
        have c3b0 : decide (x12_1 < (l0.length : Int)) = false := decide_eq_false c3
        clear c3
        obtain rfl := Option.some.inj H
        go_wp2
        go_ret
        exact ⟨by first | rfl | (simp [errW_none, errW_some] <;> rfl) | (simp [*, errW_none, errW_some] <;> rfl), by repeat (first | (with_reducible first | exact HB.out | apply below_alloc | apply pw_below_drewN | apply below_drew1) | exact HB.out)⟩

end Go.Proofs.Ytomidomdomjkfaa.PT
