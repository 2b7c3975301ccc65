-- Written by this session's own program (wip/tools) out of the translation.
import Derived.Test.YtomidomdomjkfaaPTx0
import Derived.Test.YtomidomdomjkfaaPTx8
namespace Go.Proofs.Ytomidomdomjkfaa.PT
open Go.RowKit Go.Proofs.YtomidomdomjkfaaW.PrintWords Go.Proofs.YtomidomdomjkfaaW.PrintLast Go.Proofs.YtomidomdomjkfaaW.PrintMore
attribute [local go_sem] max2_int min2_int max_two min_two max_three min_three max_four min_four   -- for this text's walks alone
set_option linter.unusedVariables false
set_option linter.unusedSimpArgs false

/-! ### spec_Levenshtein: function 40 -/
def spec_Levenshtein.l0 : Nat → Int → Int → Int → List (S57) → Int → Int → Option (Int)
  | 0, _, _, _, _, _, _ => none
  | k + 1, x3, x4, x5, x9, x10, x11 => if x11 < x10 then (if 0 ≤ x11 then (if x11 < (x9.length : Int) then ((spec_Runes.f ((rd_T57 x9 x11).f1)).bind fun t431 => (if ((rd_T57 x9 x11).f0) = (-1) then (spec_Levenshtein.l0 k x3 (wrap64 (x4 + (t431.length : Int))) x5 x9 x10 (wrap64 (x11 + 1))) else (if ((rd_T57 x9 x11).f0) = 1 then (spec_Levenshtein.l0 k x3 x4 (wrap64 (x5 + (t431.length : Int))) x9 x10 (wrap64 (x11 + 1))) else (spec_Levenshtein.l0 k (wrap64 (x3 + (mx x4 x5))) 0 0 x9 x10 (wrap64 (x11 + 1)))))) else (none)) else (none)) else (some (wrap64 (x3 + (mx x4 x5))))
def spec_Levenshtein.f (k : Nat) (l0 : List (S57)) : Option (Int) := spec_Levenshtein.l0 k 0 0 0 l0 (l0.length : Int) 0
theorem spec_Levenshtein.mono_l : ∀ k, (∀ y0 y1 y2 y3 y4 y5, LeO (spec_Levenshtein.l0 k y0 y1 y2 y3 y4 y5) (spec_Levenshtein.l0 (k + 1) y0 y1 y2 y3 y4 y5))
  | 0 => fun _ _ _ _ _ _ r h => by simp [spec_Levenshtein.l0] at h
  | k + 1 => by
    have ih0 := spec_Levenshtein.mono_l k
    · intro y0 y1 y2 y3 y4 y5
      unfold spec_Levenshtein.l0
      repeat' first
      | (with_reducible exact ih0 _ _ _ _ _ _)
      | (with_reducible exact LeO.refl _)
      | (with_reducible exact LeO.none _)
      | (with_reducible refine LeO.ite ?_ ?_)
      | (with_reducible refine LeO.bind ?_ (fun _ => ?_))
      | exact ih0 _ _ _ _ _ _
      | exact LeO.none _
      | refine LeO.ite ?_ ?_
      | refine LeO.bind ?_ (fun _ => ?_)
theorem spec_Levenshtein.mono : ∀ a0 k, LeO (spec_Levenshtein.f k a0) (spec_Levenshtein.f (k + 1) a0) := by
  intro a0 k
  have ih0 := spec_Levenshtein.mono_l k
  unfold spec_Levenshtein.f
  repeat' first
      | (with_reducible exact ih0 _ _ _ _ _ _)
      | (with_reducible exact LeO.refl _)
      | (with_reducible exact LeO.none _)
      | (with_reducible refine LeO.ite ?_ ?_)
      | (with_reducible refine LeO.bind ?_ (fun _ => ?_))
      | exact ih0 _ _ _ _ _ _
      | exact LeO.none _
      | refine LeO.ite ?_ ?_
      | refine LeO.bind ?_ (fun _ => ?_)
set_option maxHeartbeats 8000000 in
set_option maxRecDepth 100000 in
theorem spec_Levenshtein.calls (k : Nat) (A0 : Option Addr) (c0 : Nat) (l0 : List (S57)) (r : Int) (w : World) (hr0 : Kd.C k57 w A0 l0.length l0) (hc0 : l0.length ≤ c0) (h : spec_Levenshtein.f k l0 = some r) :
    Calls Try.prog 40 #[.slice A0 l0.length c0] w fun e w' => e = .returned (.int .i64 r) ∧ Below w.heap.size w w' := by
  have hu57 := Try.underlying57
  have HR0 := Aside0.mk hr0
  have HC0 := Aside0.mk hc0
  clear hr0 hc0
  have HB := Aside0.mk (Below.refl w.heap.size w)
  have H : (spec_Levenshtein.l0 k 0 0 0 l0 (l0.length : Int) 0) = some r := h
  clear h
  have H' := Aside0.mk H
  clear H
  go_enter Try.func40, Try.ntmps40
  go_wp2
  go_loopg [3, 4, 5, 11] k (fun kq v3 v4 v5 v11 w' => ∃ (x3_1 : Int) (x4_1 : Int) (x5_1 : Int) (x11_1 : Int), v3 = .int .i64 x3_1 ∧ v4 = .int .i64 x4_1 ∧ v5 = .int .i64 x5_1 ∧ v11 = .int .i64 x11_1 ∧ Aside0 (spec_Levenshtein.l0 kq x3_1 x4_1 x5_1 l0 (l0.length : Int) x11_1 = some r) ∧ Aside0 (kq ≤ k) ∧ Aside0 (Below w.heap.size w w'))
  case atStart => exact ⟨(0), (0), (0), (0), (by first | rfl | (simp; done) | (simp [*]; done)), (by first | rfl | (simp; done) | (simp [*]; done)), (by first | rfl | (simp; done) | (simp [*]; done)), (by first | rfl | (simp; done) | (simp [*]; done)), H', ⟨Nat.le_refl _⟩, ⟨by repeat (first | (with_reducible first | exact HB.out | apply below_alloc | apply pw_below_drewN | apply below_drew1) | exact HB.out)⟩⟩
  case round =>
    clear H'
    obtain ⟨x3_1, x4_1, x5_1, x11_1, rfl, rfl, rfl, rfl, HA, HK1, HB⟩ := hrel
    cases gk with
    | zero => exact absurd HA.out (by simp [spec_Levenshtein.l0])
    | succ k1 =>
      have H := HA.out
      clear HA
      simp only [spec_Levenshtein.l0] at H
      by_cases c2 : x11_1 < (l0.length : Int)
      · rw [if_pos c2] at H
        have c2b0 : decide (x11_1 < (l0.length : Int)) = true := decide_eq_true c2
        clear c2
        by_cases c3 : 0 ≤ x11_1
        · rw [if_pos c3] at H
          have c3b0 : decide (0 ≤ x11_1) = true := decide_eq_true c3
          clear c3
          by_cases c4 : x11_1 < (l0.length : Int)
          · rw [if_pos c4] at H
            have c4b0 : decide (x11_1 < (l0.length : Int)) = true := decide_eq_true c4
            clear c4
            replace H := Option.bind_eq_some_iff.mp H
            obtain ⟨t431, A50, H⟩ := H
            replace H : (if ((rd_T57 l0 x11_1).f0) = (-1) then (spec_Levenshtein.l0 k1 x3_1 (wrap64 (x4_1 + (t431.length : Int))) x5_1 l0 (l0.length : Int) (wrap64 (x11_1 + 1))) else (if ((rd_T57 l0 x11_1).f0) = 1 then (spec_Levenshtein.l0 k1 x3_1 x4_1 (wrap64 (x5_1 + (t431.length : Int))) l0 (l0.length : Int) (wrap64 (x11_1 + 1))) else (spec_Levenshtein.l0 k1 (wrap64 (x3_1 + (mx x4_1 x5_1))) 0 0 l0 (l0.length : Int) (wrap64 (x11_1 + 1))))) = some r := H
            have A5 := Aside0.mk A50
            clear A50
            by_cases c6 : ((rd_T57 l0 x11_1).f0) = (-1)
            · rw [if_pos c6] at H
              have c6b0 : (((rd_T57 l0 x11_1).f0) == (-1)) = true := beq_iff_eq.mpr c6
              have c6b1 : (((rd_T57 l0 x11_1).f0) != (-1)) = false := bne_eq_false_iff_eq.mpr c6
              clear c6
              have H' := Aside0.mk H
              clear H
              have p429 : 0 ≤ (x11_1 : Int) := of_decide_eq_true (by first | (with_reducible assumption) | assumption)
              have q429 : x11_1 < (l0.length : Int) := of_decide_eq_true (by first | (with_reducible assumption) | assumption)
              obtain ⟨ad429, e429, hx429_0, hx429_1⟩ := at_T57 HR0.out x11_1 p429 q429
              cases e429
              replace hx429_0 := (HB.out.cell (World.block_lt_of_cell? w _ hx429_0)).trans hx429_0
              replace hx429_1 := (HB.out.cell (World.block_lt_of_cell? w _ hx429_1)).trans hx429_1
              replace p429 := eq_true p429
              replace q429 := eq_true q429
              go_wp2_with (first | ((with_reducible refine gate_dst (N := 7) rfl ?_); refine box_event ?hg (N := 7) ?hd (cs := #[.int .i64 0, .string (⟨#[]⟩ : ByteArray)]) (t := 57) ?hr ?_; (case hd => rfl); (case hg => rfl); (case hr => first | (go_simp; done) | (go_simp; rfl)); intro gb430 hg w7 hbox hb; have n0_ := Aside0.mk (below_step (by repeat (first | (with_reducible first | exact HB.out | apply below_alloc | apply pw_below_drewN | apply below_drew1) | exact HB.out)) hb); have n1_ := Aside0.mk (hbox); have n2_ := Aside0.mk ((by rw [hg]; exact (below_size (by repeat (first | (with_reducible first | exact HB.out | apply below_alloc | apply pw_below_drewN | apply below_drew1) | exact HB.out))) : w.heap.size ≤ gb430)); have n3_ := Aside0.mk ((by rw [hg]; exact (below_size (by repeat (first | (with_reducible first | exact HB.out | apply below_alloc | apply pw_below_drewN | apply below_drew1) | exact HB.out))) : w.heap.size ≤ gb430)); clear HB; have HB := n0_; have BK430 := n1_; have GW430 := n2_; have GE430 := n3_; clear n0_ n1_ n2_ n3_; clear hb hbox hg; have hcz8_0 : w7.cell? ⟨gb430, 0, none⟩ = some (.int .i64 0) := (blk_cell BK430.out 0).trans rfl; have hcz8_1 : w7.cell? ⟨gb430, 1, none⟩ = some (.string (⟨#[]⟩ : ByteArray)) := (blk_cell BK430.out 1).trans rfl; have hfz8_0 := blk_frozen BK430.out 0; have hfz8_1 := blk_frozen BK430.out 1) | ((with_reducible refine gate_callee (f := 20) rfl ?_); refine goesL_ (some 17) rfl rfl Try.func20 (by kernel_rfl) rfl #[.string ((rd_T57 l0 x11_1).f1)] rfl (by (try simp only [List.map_toArray, List.map_cons, List.map_nil]); first | done | rfl | (simp only [List.length_drop, List.length_take]; rfl)) ?_; (with_reducible refine (spec_Runes.calls ((rd_T57 l0 x11_1).f1) t431 _ A5.out).mono ?_); rintro e w9 ⟨v432, rfl, ho0, hb⟩; refine ⟨_, rfl, ?_⟩; have n0_ := Aside0.mk (Kd.R_lower ho0 (below_size (by repeat (first | (with_reducible first | exact HB.out | apply below_alloc | apply pw_below_drewN | apply below_drew1 | refine below_set ?_ GE430.out) | exact HB.out)))); have n1_ := Aside0.mk (blk_below (g := gb430) (o := .cells #[.int .i64 ((rd_T57 l0 x11_1).f0), .string ((rd_T57 l0 x11_1).f1)] 57 (0, 0)) (by (with_reducible repeat (first | refine blk_drewN ?_ _ | refine blk_drew ?_ | refine blk_alloc ?_ _)); refine blk_put (cs := #[.int .i64 ((rd_T57 l0 x11_1).f0), .string (⟨#[]⟩ : ByteArray)]) ?_ 1 _ rfl; (with_reducible repeat (first | refine blk_drewN ?_ _ | refine blk_drew ?_ | refine blk_alloc ?_ _)); refine blk_put (cs := #[.int .i64 0, .string (⟨#[]⟩ : ByteArray)]) ?_ 0 _ rfl; (with_reducible repeat (first | refine blk_drewN ?_ _ | refine blk_drew ?_ | refine blk_alloc ?_ _)); exact BK430.out) hb); have n2_ := Aside0.mk (below_step (by repeat (first | (with_reducible first | exact HB.out | apply below_alloc | apply pw_below_drewN | apply below_drew1 | refine below_set ?_ GE430.out) | exact HB.out)) hb); clear BK430; clear HB; have HO433 := n0_; have BK430 := n1_; have HB := n2_; clear n0_ n1_ n2_; (try clear hb); (try clear hb2); (try clear hk); (try clear hi); (try clear ho0); obtain ⟨Ao10, co10, eo10⟩ := Kd.R_slice HO433.out; subst eo10; have hcz11_0 : w9.cell? ⟨gb430, 0, none⟩ = some (.int .i64 ((rd_T57 l0 x11_1).f0)) := (blk_cell BK430.out 0).trans rfl; have hcz11_1 : w9.cell? ⟨gb430, 1, none⟩ = some (.string ((rd_T57 l0 x11_1).f1)) := (blk_cell BK430.out 1).trans rfl; have hfz11_0 := blk_frozen BK430.out 0; have hfz11_1 := blk_frozen BK430.out 1))
              go_roundg k1
              case measure => have := HK1.out; omega
              case rel => exact ⟨(x3_1), (wrap64 (x4_1 + (t431.length : Int))), (x5_1), (wrap64 (x11_1 + 1)), (by first | rfl | (simp; done) | (simp [*]; done)), (by first | rfl | (simp; done) | (simp [*]; done)), (by first | rfl | (simp; done) | (simp [*]; done)), (by first | rfl | (simp; done) | (simp [*]; done)), H', ⟨by have := HK1.out; omega⟩, ⟨by repeat (first | (with_reducible first | exact HB.out | apply below_alloc | apply pw_below_drewN | apply below_drew1 | refine below_set ?_ GE430.out) | exact HB.out)⟩⟩
            · rw [if_neg c6] at H
              have c6b0 : (((rd_T57 l0 x11_1).f0) == (-1)) = false := beq_eq_false_iff_ne.mpr c6
              have c6b1 : (((rd_T57 l0 x11_1).f0) != (-1)) = true := bne_iff_ne.mpr c6
              by_cases c12 : ((rd_T57 l0 x11_1).f0) = 1
              · rw [if_pos c12] at H
                have c12b0 : (((rd_T57 l0 x11_1).f0) == 1) = true := beq_iff_eq.mpr c12
                have c12b1 : (((rd_T57 l0 x11_1).f0) != 1) = false := bne_eq_false_iff_eq.mpr c12
                clear c12
                have H' := Aside0.mk H
                clear H
                have p429 : 0 ≤ (x11_1 : Int) := of_decide_eq_true (by first | (with_reducible assumption) | assumption)
                have q429 : x11_1 < (l0.length : Int) := of_decide_eq_true (by first | (with_reducible assumption) | assumption)
                obtain ⟨ad429, e429, hx429_0, hx429_1⟩ := at_T57 HR0.out x11_1 p429 q429
                cases e429
                replace hx429_0 := (HB.out.cell (World.block_lt_of_cell? w _ hx429_0)).trans hx429_0
                replace hx429_1 := (HB.out.cell (World.block_lt_of_cell? w _ hx429_1)).trans hx429_1
                replace p429 := eq_true p429
                replace q429 := eq_true q429
                go_wp2_with (first | ((with_reducible refine gate_dst (N := 7) rfl ?_); refine box_event ?hg (N := 7) ?hd (cs := #[.int .i64 0, .string (⟨#[]⟩ : ByteArray)]) (t := 57) ?hr ?_; (case hd => rfl); (case hg => rfl); (case hr => first | (go_simp; done) | (go_simp; rfl)); intro gb430 hg w13 hbox hb; have n0_ := Aside0.mk (below_step (by repeat (first | (with_reducible first | exact HB.out | apply below_alloc | apply pw_below_drewN | apply below_drew1) | exact HB.out)) hb); have n1_ := Aside0.mk (hbox); have n2_ := Aside0.mk ((by rw [hg]; exact (below_size (by repeat (first | (with_reducible first | exact HB.out | apply below_alloc | apply pw_below_drewN | apply below_drew1) | exact HB.out))) : w.heap.size ≤ gb430)); have n3_ := Aside0.mk ((by rw [hg]; exact (below_size (by repeat (first | (with_reducible first | exact HB.out | apply below_alloc | apply pw_below_drewN | apply below_drew1) | exact HB.out))) : w.heap.size ≤ gb430)); clear HB; have HB := n0_; have BK430 := n1_; have GW430 := n2_; have GE430 := n3_; clear n0_ n1_ n2_ n3_; clear hb hbox hg; have hcz14_0 : w13.cell? ⟨gb430, 0, none⟩ = some (.int .i64 0) := (blk_cell BK430.out 0).trans rfl; have hcz14_1 : w13.cell? ⟨gb430, 1, none⟩ = some (.string (⟨#[]⟩ : ByteArray)) := (blk_cell BK430.out 1).trans rfl; have hfz14_0 := blk_frozen BK430.out 0; have hfz14_1 := blk_frozen BK430.out 1) | ((with_reducible refine gate_callee (f := 20) rfl ?_); refine goesL_ (some 17) rfl rfl Try.func20 (by kernel_rfl) rfl #[.string ((rd_T57 l0 x11_1).f1)] rfl (by (try simp only [List.map_toArray, List.map_cons, List.map_nil]); first | done | rfl | (simp only [List.length_drop, List.length_take]; rfl)) ?_; (with_reducible refine (spec_Runes.calls ((rd_T57 l0 x11_1).f1) t431 _ A5.out).mono ?_); rintro e w15 ⟨v432, rfl, ho0, hb⟩; refine ⟨_, rfl, ?_⟩; have n0_ := Aside0.mk (Kd.R_lower ho0 (below_size (by repeat (first | (with_reducible first | exact HB.out | apply below_alloc | apply pw_below_drewN | apply below_drew1 | refine below_set ?_ GE430.out) | exact HB.out)))); have n1_ := Aside0.mk (blk_below (g := gb430) (o := .cells #[.int .i64 ((rd_T57 l0 x11_1).f0), .string ((rd_T57 l0 x11_1).f1)] 57 (0, 0)) (by (with_reducible repeat (first | refine blk_drewN ?_ _ | refine blk_drew ?_ | refine blk_alloc ?_ _)); refine blk_put (cs := #[.int .i64 ((rd_T57 l0 x11_1).f0), .string (⟨#[]⟩ : ByteArray)]) ?_ 1 _ rfl; (with_reducible repeat (first | refine blk_drewN ?_ _ | refine blk_drew ?_ | refine blk_alloc ?_ _)); refine blk_put (cs := #[.int .i64 0, .string (⟨#[]⟩ : ByteArray)]) ?_ 0 _ rfl; (with_reducible repeat (first | refine blk_drewN ?_ _ | refine blk_drew ?_ | refine blk_alloc ?_ _)); exact BK430.out) hb); have n2_ := Aside0.mk (below_step (by repeat (first | (with_reducible first | exact HB.out | apply below_alloc | apply pw_below_drewN | apply below_drew1 | refine below_set ?_ GE430.out) | exact HB.out)) hb); clear BK430; clear HB; have HO433 := n0_; have BK430 := n1_; have HB := n2_; clear n0_ n1_ n2_; (try clear hb); (try clear hb2); (try clear hk); (try clear hi); (try clear ho0); obtain ⟨Ao16, co16, eo16⟩ := Kd.R_slice HO433.out; subst eo16; have hcz17_0 : w15.cell? ⟨gb430, 0, none⟩ = some (.int .i64 ((rd_T57 l0 x11_1).f0)) := (blk_cell BK430.out 0).trans rfl; have hcz17_1 : w15.cell? ⟨gb430, 1, none⟩ = some (.string ((rd_T57 l0 x11_1).f1)) := (blk_cell BK430.out 1).trans rfl; have hfz17_0 := blk_frozen BK430.out 0; have hfz17_1 := blk_frozen BK430.out 1))
                go_roundg k1
                case measure => have := HK1.out; omega
                case rel => exact ⟨(x3_1), (x4_1), (wrap64 (x5_1 + (t431.length : Int))), (wrap64 (x11_1 + 1)), (by first | rfl | (simp; done) | (simp [*]; done)), (by first | rfl | (simp; done) | (simp [*]; done)), (by first | rfl | (simp; done) | (simp [*]; done)), (by first | rfl | (simp; done) | (simp [*]; done)), H', ⟨by have := HK1.out; omega⟩, ⟨by repeat (first | (with_reducible first | exact HB.out | apply below_alloc | apply pw_below_drewN | apply below_drew1 | refine below_set ?_ GE430.out) | exact HB.out)⟩⟩
              · rw [if_neg c12] at H
                have c12b0 : (((rd_T57 l0 x11_1).f0) == 1) = false := beq_eq_false_iff_ne.mpr c12
                have c12b1 : (((rd_T57 l0 x11_1).f0) != 1) = true := bne_iff_ne.mpr c12
                obtain ⟨ji18, hji18⟩ : ∃ j_ : Int, (mx x4_1 x5_1) = j_ := ⟨_, rfl⟩
                replace H : (spec_Levenshtein.l0 k1 (wrap64 (x3_1 + (ji18))) 0 0 l0 (l0.length : Int) (wrap64 (x11_1 + 1))) = some r := by first | (rw [hji18] at H; exact H) | (simp only [hji18] at H ⊢; exact H)
                (try rw [hji18] at A5)
                have hji18_ : (if x4_1 < x5_1 then x5_1 else x4_1) = ji18 := hji18
                have H' := Aside0.mk H
                clear H
                have p429 : 0 ≤ (x11_1 : Int) := of_decide_eq_true (by first | (with_reducible assumption) | assumption)
                have q429 : x11_1 < (l0.length : Int) := of_decide_eq_true (by first | (with_reducible assumption) | assumption)
                obtain ⟨ad429, e429, hx429_0, hx429_1⟩ := at_T57 HR0.out x11_1 p429 q429
                cases e429
                replace hx429_0 := (HB.out.cell (World.block_lt_of_cell? w _ hx429_0)).trans hx429_0
                replace hx429_1 := (HB.out.cell (World.block_lt_of_cell? w _ hx429_1)).trans hx429_1
                replace p429 := eq_true p429
                replace q429 := eq_true q429
                go_wp2_with (first | ((with_reducible refine gate_dst (N := 7) rfl ?_); refine box_event ?hg (N := 7) ?hd (cs := #[.int .i64 0, .string (⟨#[]⟩ : ByteArray)]) (t := 57) ?hr ?_; (case hd => rfl); (case hg => rfl); (case hr => first | (go_simp; done) | (go_simp; rfl)); intro gb430 hg w19 hbox hb; have n0_ := Aside0.mk (below_step (by repeat (first | (with_reducible first | exact HB.out | apply below_alloc | apply pw_below_drewN | apply below_drew1) | exact HB.out)) hb); have n1_ := Aside0.mk (hbox); have n2_ := Aside0.mk ((by rw [hg]; exact (below_size (by repeat (first | (with_reducible first | exact HB.out | apply below_alloc | apply pw_below_drewN | apply below_drew1) | exact HB.out))) : w.heap.size ≤ gb430)); have n3_ := Aside0.mk ((by rw [hg]; exact (below_size (by repeat (first | (with_reducible first | exact HB.out | apply below_alloc | apply pw_below_drewN | apply below_drew1) | exact HB.out))) : w.heap.size ≤ gb430)); clear HB; have HB := n0_; have BK430 := n1_; have GW430 := n2_; have GE430 := n3_; clear n0_ n1_ n2_ n3_; clear hb hbox hg; have hcz20_0 : w19.cell? ⟨gb430, 0, none⟩ = some (.int .i64 0) := (blk_cell BK430.out 0).trans rfl; have hcz20_1 : w19.cell? ⟨gb430, 1, none⟩ = some (.string (⟨#[]⟩ : ByteArray)) := (blk_cell BK430.out 1).trans rfl; have hfz20_0 := blk_frozen BK430.out 0; have hfz20_1 := blk_frozen BK430.out 1) | ((with_reducible refine gate_callee (f := 20) rfl ?_); refine goesL_ (some 17) rfl rfl Try.func20 (by kernel_rfl) rfl #[.string ((rd_T57 l0 x11_1).f1)] rfl (by (try simp only [List.map_toArray, List.map_cons, List.map_nil]); first | done | rfl | (simp only [List.length_drop, List.length_take]; rfl)) ?_; (with_reducible refine (spec_Runes.calls ((rd_T57 l0 x11_1).f1) t431 _ A5.out).mono ?_); rintro e w21 ⟨v432, rfl, ho0, hb⟩; refine ⟨_, rfl, ?_⟩; have n0_ := Aside0.mk (Kd.R_lower ho0 (below_size (by repeat (first | (with_reducible first | exact HB.out | apply below_alloc | apply pw_below_drewN | apply below_drew1 | refine below_set ?_ GE430.out) | exact HB.out)))); have n1_ := Aside0.mk (blk_below (g := gb430) (o := .cells #[.int .i64 ((rd_T57 l0 x11_1).f0), .string ((rd_T57 l0 x11_1).f1)] 57 (0, 0)) (by (with_reducible repeat (first | refine blk_drewN ?_ _ | refine blk_drew ?_ | refine blk_alloc ?_ _)); refine blk_put (cs := #[.int .i64 ((rd_T57 l0 x11_1).f0), .string (⟨#[]⟩ : ByteArray)]) ?_ 1 _ rfl; (with_reducible repeat (first | refine blk_drewN ?_ _ | refine blk_drew ?_ | refine blk_alloc ?_ _)); refine blk_put (cs := #[.int .i64 0, .string (⟨#[]⟩ : ByteArray)]) ?_ 0 _ rfl; (with_reducible repeat (first | refine blk_drewN ?_ _ | refine blk_drew ?_ | refine blk_alloc ?_ _)); exact BK430.out) hb); have n2_ := Aside0.mk (below_step (by repeat (first | (with_reducible first | exact HB.out | apply below_alloc | apply pw_below_drewN | apply below_drew1 | refine below_set ?_ GE430.out) | exact HB.out)) hb); clear BK430; clear HB; have HO433 := n0_; have BK430 := n1_; have HB := n2_; clear n0_ n1_ n2_; (try clear hb); (try clear hb2); (try clear hk); (try clear hi); (try clear ho0); obtain ⟨Ao22, co22, eo22⟩ := Kd.R_slice HO433.out; subst eo22; have hcz23_0 : w21.cell? ⟨gb430, 0, none⟩ = some (.int .i64 ((rd_T57 l0 x11_1).f0)) := (blk_cell BK430.out 0).trans rfl; have hcz23_1 : w21.cell? ⟨gb430, 1, none⟩ = some (.string ((rd_T57 l0 x11_1).f1)) := (blk_cell BK430.out 1).trans rfl; have hfz23_0 := blk_frozen BK430.out 0; have hfz23_1 := blk_frozen BK430.out 1))
                go_roundg k1
                case measure => have := HK1.out; omega
                case rel => exact ⟨(wrap64 (x3_1 + (ji18))), (0), (0), (wrap64 (x11_1 + 1)), (by first | rfl | (simp; done) | (simp only [← hji18] <;> (first | rfl | simp)) | (simp [*]; done)), (by first | rfl | (simp; done) | (simp [*]; done)), (by first | rfl | (simp; done) | (simp [*]; done)), (by first | rfl | (simp; done) | (simp [*]; done)), H', ⟨by have := HK1.out; omega⟩, ⟨by repeat (first | (with_reducible first | exact HB.out | apply below_alloc | apply pw_below_drewN | apply below_drew1 | refine below_set ?_ GE430.out) | exact HB.out)⟩⟩
          · rw [if_neg c4] at H
            exact absurd H (by simp)
        · rw [if_neg c3] at H
          exact absurd H (by simp)
      · rw [if_neg c2] at H
        have c2b0 : decide (x11_1 < (l0.length : Int)) = false := decide_eq_false c2
        clear c2
        obtain ⟨ji24, hji24⟩ : ∃ j_ : Int, (mx x4_1 x5_1) = j_ := ⟨_, rfl⟩
        replace H : (some (wrap64 (x3_1 + (ji24)))) = some r := by first | (rw [hji24] at H; exact H) | (simp only [hji24] at H ⊢; exact H)
        have hji24_ : (if x4_1 < x5_1 then x5_1 else x4_1) = ji24 := hji24
        obtain rfl := Option.some.inj H
        go_wp2
        go_ret
        exact ⟨by first | rfl | (simp [errW_none, errW_some] <;> rfl) | (simp only [← hji24]; first | rfl | (simp [errW_none, errW_some] <;> rfl)) | (simp [*, errW_none, errW_some] <;> rfl), by repeat (first | (with_reducible first | exact HB.out | apply below_alloc | apply pw_below_drewN | apply below_drew1) | exact HB.out)⟩

end Go.Proofs.Ytomidomdomjkfaa.PT
