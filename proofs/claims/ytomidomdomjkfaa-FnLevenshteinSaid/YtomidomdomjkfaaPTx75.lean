-- Written by this session's own program (wip/tools) out of the translation.
import Derived.Test.YtomidomdomjkfaaPTx0
import Derived.Test.YtomidomdomjkfaaPTx10
import Derived.Test.YtomidomdomjkfaaPTx73
import Derived.Test.YtomidomdomjkfaaPTx74
namespace Go.Proofs.Ytomidomdomjkfaa.PT
open Go.RowKit Go.Proofs.YtomidomdomjkfaaW.PrintWords Go.Proofs.YtomidomdomjkfaaW.PrintLast Go.Proofs.YtomidomdomjkfaaW.PrintMore
attribute [local go_sem] max2_int min2_int max_two min_two max_three min_three max_four min_four   -- for this text's walks alone
set_option linter.unusedVariables false
set_option linter.unusedSimpArgs false

/-! ### diffmatchpatch_DiffMatchPatch_DiffLevenshtein: function 62 -/
def diffmatchpatch_DiffMatchPatch_DiffLevenshtein.l0 : Nat → Int → Int → Int → List (S91) → Int → Int → Int → Int → Int → Nat → Int → Int → Nat → Option (Int × Int × Int × Int × Nat × Int × Int × Nat)
  | 0, _, _, _, _, _, _, _, _, _, _, _, _, _ => none
  | k + 1, x5, x6, x7, x10, x11, x12, x1000, x1001, x1002, x1003, x1004, x1005, x1006 => if x12 < x11 then (if 0 ≤ x12 then (if x12 < (x10.length : Int) then (if ((rd_T91 x10 x12).f0) = 1 then ((utf8_RuneCountInString.f ((rd_T91 x10 x12).f1)).bind fun t407 => (diffmatchpatch_DiffMatchPatch_DiffLevenshtein.l0 k x5 (wrap64 (x6 + t407)) x7 x10 x11 (wrap64 (x12 + 1)) x1000 x1001 x1002 x1003 x1004 x1005 x1006)) else (if ((rd_T91 x10 x12).f0) = (-1) then ((utf8_RuneCountInString.f ((rd_T91 x10 x12).f1)).bind fun t408 => (diffmatchpatch_DiffMatchPatch_DiffLevenshtein.l0 k x5 x6 (wrap64 (x7 + t408)) x10 x11 (wrap64 (x12 + 1)) x1000 x1001 x1002 x1003 x1004 x1005 x1006)) else (if ((rd_T91 x10 x12).f0) = 0 then ((diffmatchpatch_max.f x6 x7).bind fun t409 => (diffmatchpatch_DiffMatchPatch_DiffLevenshtein.l0 k (wrap64 (x5 + t409)) 0 0 x10 x11 (wrap64 (x12 + 1)) x1000 x1001 x1002 x1003 x1004 x1005 x1006)) else (diffmatchpatch_DiffMatchPatch_DiffLevenshtein.l0 k x5 x6 x7 x10 x11 (wrap64 (x12 + 1)) x1000 x1001 x1002 x1003 x1004 x1005 x1006)))) else (none)) else (none)) else ((diffmatchpatch_max.f x6 x7).bind fun t404 => (some (wrap64 (x5 + t404), x1000, x1001, x1002, x1003, x1004, x1005, x1006)))
def diffmatchpatch_DiffMatchPatch_DiffLevenshtein.f (k : Nat) (s0_0 : Int) (s0_1 : Int) (s0_2 : Int) (s0_3 : Nat) (s0_4 : Int) (s0_5 : Int) (s0_6 : Nat) (l1 : List (S91)) : Option (Int × Int × Int × Int × Nat × Int × Int × Nat) := diffmatchpatch_DiffMatchPatch_DiffLevenshtein.l0 k 0 0 0 l1 (l1.length : Int) 0 s0_0 s0_1 s0_2 s0_3 s0_4 s0_5 s0_6
theorem diffmatchpatch_DiffMatchPatch_DiffLevenshtein.mono_l : ∀ k, (∀ y0 y1 y2 y3 y4 y5 y6 y7 y8 y9 y10 y11 y12, LeO (diffmatchpatch_DiffMatchPatch_DiffLevenshtein.l0 k y0 y1 y2 y3 y4 y5 y6 y7 y8 y9 y10 y11 y12) (diffmatchpatch_DiffMatchPatch_DiffLevenshtein.l0 (k + 1) y0 y1 y2 y3 y4 y5 y6 y7 y8 y9 y10 y11 y12))
  | 0 => fun _ _ _ _ _ _ _ _ _ _ _ _ _ r h => by simp [diffmatchpatch_DiffMatchPatch_DiffLevenshtein.l0] at h
  | k + 1 => by
    have ih0 := diffmatchpatch_DiffMatchPatch_DiffLevenshtein.mono_l k
    · intro y0 y1 y2 y3 y4 y5 y6 y7 y8 y9 y10 y11 y12
      unfold diffmatchpatch_DiffMatchPatch_DiffLevenshtein.l0
      repeat' first
      | (with_reducible exact ih0 _ _ _ _ _ _ _ _ _ _ _ _ _)
      | (with_reducible exact LeO.refl _)
      | (with_reducible exact LeO.none _)
      | (with_reducible refine LeO.ite ?_ ?_)
      | (with_reducible refine LeO.bind ?_ (fun _ => ?_))
      | exact ih0 _ _ _ _ _ _ _ _ _ _ _ _ _
      | exact LeO.none _
      | refine LeO.ite ?_ ?_
      | refine LeO.bind ?_ (fun _ => ?_)
theorem diffmatchpatch_DiffMatchPatch_DiffLevenshtein.mono : ∀ a0 a1 a2 a3 a4 a5 a6 a7 k, LeO (diffmatchpatch_DiffMatchPatch_DiffLevenshtein.f k a0 a1 a2 a3 a4 a5 a6 a7) (diffmatchpatch_DiffMatchPatch_DiffLevenshtein.f (k + 1) a0 a1 a2 a3 a4 a5 a6 a7) := by
  intro a0 a1 a2 a3 a4 a5 a6 a7 k
  have ih0 := diffmatchpatch_DiffMatchPatch_DiffLevenshtein.mono_l k
  unfold diffmatchpatch_DiffMatchPatch_DiffLevenshtein.f
  repeat' first
      | (with_reducible exact ih0 _ _ _ _ _ _ _ _ _ _ _ _ _)
      | (with_reducible exact LeO.refl _)
      | (with_reducible exact LeO.none _)
      | (with_reducible refine LeO.ite ?_ ?_)
      | (with_reducible refine LeO.bind ?_ (fun _ => ?_))
      | exact ih0 _ _ _ _ _ _ _ _ _ _ _ _ _
      | exact LeO.none _
      | refine LeO.ite ?_ ?_
      | refine LeO.bind ?_ (fun _ => ?_)
set_option maxHeartbeats 8000000 in
set_option maxRecDepth 100000 in
theorem diffmatchpatch_DiffMatchPatch_DiffLevenshtein.calls (k : Nat) (g : Nat) (s0_0 : Int) (s0_1 : Int) (s0_2 : Int) (s0_3 : Nat) (s0_4 : Int) (s0_5 : Int) (s0_6 : Nat) (A1 : Option Addr) (c1 : Nat) (l1 : List (S91)) (r1 : Int) (r2 : Int) (r3 : Int) (r4 : Int) (r5 : Nat) (r6 : Int) (r7 : Int) (r8 : Nat) (w0 w : World) (hI : IsS80 w0 w g s0_0 s0_1 s0_2 s0_3 s0_4 s0_5 s0_6) (hB : Below w0.heap.size w0 w) (hr1 : ∀ W_, KeepBut w W_ g none → Kd.C k91 W_ A1 l1.length l1) (hc1 : l1.length ≤ c1) (h : diffmatchpatch_DiffMatchPatch_DiffLevenshtein.f k s0_0 s0_1 s0_2 s0_3 s0_4 s0_5 s0_6 l1 = some (r1, r2, r3, r4, r5, r6, r7, r8)) :
    Calls Try.prog 62 #[.pointer (some ⟨g, 0, none⟩), .slice A1 l1.length c1] w fun e w' => e = .returned (.int .i64 r1) ∧ IsS80 w0 w' g r2 r3 r4 r5 r6 r7 r8 ∧ Below w0.heap.size w0 w' ∧ KeepBut w w' g none := by
  have hu91 := Try.underlying91
  have HR1 := Aside0.mk hr1
  have HC1 := Aside0.mk hc1
  clear hr1 hc1
  have HI0 := Aside0.mk hI
  have HK := Aside0.mk (KeepBut.refl w g none)
  have HL := Aside0.mk hB.size
  clear hI
  have HW0 := Aside0.mk hB.size
  have HB := Aside0.mk hB
  clear hB
  have H : (diffmatchpatch_DiffMatchPatch_DiffLevenshtein.l0 k 0 0 0 l1 (l1.length : Int) 0 s0_0 s0_1 s0_2 s0_3 s0_4 s0_5 s0_6) = some (r1, r2, r3, r4, r5, r6, r7, r8) := h
  clear h
  have H' := Aside0.mk H
  clear H
  go_enter Try.func62, Try.ntmps62
  go_wp2
  go_loopg [5, 6, 7, 12] k (fun kq v5 v6 v7 v12 w' => ∃ (x5_1 : Int) (x6_1 : Int) (x7_1 : Int) (x12_1 : Int), v5 = .int .i64 x5_1 ∧ v6 = .int .i64 x6_1 ∧ v7 = .int .i64 x7_1 ∧ v12 = .int .i64 x12_1 ∧ Aside0 (diffmatchpatch_DiffMatchPatch_DiffLevenshtein.l0 kq x5_1 x6_1 x7_1 l1 (l1.length : Int) x12_1 s0_0 s0_1 s0_2 s0_3 s0_4 s0_5 s0_6 = some (r1, r2, r3, r4, r5, r6, r7, r8)) ∧ Aside0 (kq ≤ k) ∧ Aside0 (IsS80 w0 w' g s0_0 s0_1 s0_2 s0_3 s0_4 s0_5 s0_6) ∧ Aside0 (KeepBut w w' g none) ∧ Aside0 (Below w0.heap.size w0 w'))
  case atStart => exact ⟨(0), (0), (0), (0), (by first | rfl | (simp; done) | (simp [*]; done)), (by first | rfl | (simp; done) | (simp [*]; done)), (by first | rfl | (simp; done) | (simp [*]; done)), (by first | rfl | (simp; done) | (simp [*]; done)), H', ⟨Nat.le_refl _⟩, ⟨by repeat (first | (with_reducible first | exact HI0.out | apply IsS80.alloc | apply IsS80.drewN | apply IsS80.drew | apply IsS80.set_0 | apply IsS80.set_1 | apply IsS80.set_2 | apply IsS80.set_3 | apply IsS80.set_4 | apply IsS80.set_5 | apply IsS80.set_6) | exact HI0.out)⟩, ⟨by repeat (first | (with_reducible first | exact HK.out | apply KeepBut.set_ | apply keep_drewN | apply keep_drew | apply keep_alloc) | exact HK.out)⟩, ⟨by repeat (first | (with_reducible first | exact HB.out | apply below_alloc | apply pw_below_drewN | apply below_drew1 | refine below_set ?_ (IsS80.ge HI0.out)) | exact HB.out)⟩⟩
  case round =>
    clear H'
    try clear c1
    try clear p2
    obtain ⟨x5_1, x6_1, x7_1, x12_1, rfl, rfl, rfl, rfl, HA, HK1, HI0, HK, HB⟩ := hrel
    cases gk with
    | zero => exact absurd HA.out (by simp [diffmatchpatch_DiffMatchPatch_DiffLevenshtein.l0])
    | succ k1 =>
      have H := HA.out
      clear HA
      simp only [diffmatchpatch_DiffMatchPatch_DiffLevenshtein.l0] at H
      by_cases c3 : x12_1 < (l1.length : Int)
      · rw [if_pos c3] at H
        have c3b0 : decide (x12_1 < (l1.length : Int)) = true := decide_eq_true c3
        clear c3
        by_cases c4 : 0 ≤ x12_1
        · rw [if_pos c4] at H
          have c4b0 : decide (0 ≤ x12_1) = true := decide_eq_true c4
          clear c4
          by_cases c5 : x12_1 < (l1.length : Int)
          · rw [if_pos c5] at H
            have c5b0 : decide (x12_1 < (l1.length : Int)) = true := decide_eq_true c5
            clear c5
            by_cases c6 : ((rd_T91 l1 x12_1).f0) = 1
            · rw [if_pos c6] at H
              have c6b0 : (((rd_T91 l1 x12_1).f0) == 1) = true := beq_iff_eq.mpr c6
              have c6b1 : (((rd_T91 l1 x12_1).f0) != 1) = false := bne_eq_false_iff_eq.mpr c6
              clear c6
              replace H := Option.bind_eq_some_iff.mp H
              obtain ⟨t407, A70, H⟩ := H
              replace H : (diffmatchpatch_DiffMatchPatch_DiffLevenshtein.l0 k1 x5_1 (wrap64 (x6_1 + t407)) x7_1 l1 (l1.length : Int) (wrap64 (x12_1 + 1)) s0_0 s0_1 s0_2 s0_3 s0_4 s0_5 s0_6) = some (r1, r2, r3, r4, r5, r6, r7, r8) := H
              have A7 := Aside0.mk A70
              clear A70
              have H' := Aside0.mk H
              clear H
              have p405 : 0 ≤ (x12_1 : Int) := of_decide_eq_true (by first | (with_reducible assumption) | assumption)
              have q405 : x12_1 < (l1.length : Int) := of_decide_eq_true (by first | (with_reducible assumption) | assumption)
              obtain ⟨ad405, e405, hx405_0, hx405_1⟩ := at_T91 (Kd.C_foot_now HR1.out HK.out) x12_1 p405 q405
              cases e405
              replace p405 := eq_true p405
              replace q405 := eq_true q405
              go_wp2_with (first | ((with_reducible refine gate_dst (N := 9) rfl ?_); refine box_event ?hg (N := 9) ?hd (cs := #[.int .i8 0, .string (⟨#[]⟩ : ByteArray)]) (t := 91) ?hr ?_; (case hd => rfl); (case hg => rfl); (case hr => first | (go_simp; done) | (go_simp; rfl)); intro gb406 hg w8 hbox hb; have n0_ := Aside0.mk (IsS80.below (by repeat (first | (with_reducible first | exact HI0.out | apply IsS80.alloc | apply IsS80.drewN | apply IsS80.drew | apply IsS80.set_0 | apply IsS80.set_1 | apply IsS80.set_2 | apply IsS80.set_3 | apply IsS80.set_4 | apply IsS80.set_5 | apply IsS80.set_6) | exact HI0.out)) hb); have n1_ := Aside0.mk (KeepBut.trans (by repeat (first | (with_reducible first | exact HK.out | apply KeepBut.set_ | apply keep_drewN | apply keep_drew | apply keep_alloc) | exact HK.out)) (KeepBut.of_below hb g none) (.inl rfl)); have n2_ := Aside0.mk (below_step (by repeat (first | (with_reducible first | exact HB.out | apply below_alloc | apply pw_below_drewN | apply below_drew1 | refine below_set ?_ (IsS80.ge HI0.out)) | exact HB.out)) hb); have n3_ := Aside0.mk (hbox); have n4_ := Aside0.mk ((by rw [hg]; exact (keep_size (w := w) (g := g) (row := none) (by repeat (first | (with_reducible first | exact HK.out | apply KeepBut.set_ | apply keep_drewN | apply keep_drew | apply keep_alloc) | exact HK.out))) : w.heap.size ≤ gb406)); have n5_ := Aside0.mk ((Nat.le_trans HW0.out (by rw [hg]; exact (keep_size (w := w) (g := g) (row := none) (by repeat (first | (with_reducible first | exact HK.out | apply KeepBut.set_ | apply keep_drewN | apply keep_drew | apply keep_alloc) | exact HK.out))) : w.heap.size ≤ gb406) : w0.heap.size ≤ gb406)); have n6_ := Aside0.mk ((by rw [hg]; exact Nat.ne_of_lt (IsS80.lt (show IsS80 w0 _ g s0_0 s0_1 s0_2 s0_3 s0_4 s0_5 s0_6 from by repeat (first | (with_reducible first | exact HI0.out | apply IsS80.alloc | apply IsS80.drewN | apply IsS80.drew | apply IsS80.set_0 | apply IsS80.set_1 | apply IsS80.set_2 | apply IsS80.set_3 | apply IsS80.set_4 | apply IsS80.set_5 | apply IsS80.set_6) | exact HI0.out))) : g ≠ gb406)); have n7_ := Aside0.mk ((by rw [hg]; exact Nat.ne_of_gt (IsS80.lt (show IsS80 w0 _ g s0_0 s0_1 s0_2 s0_3 s0_4 s0_5 s0_6 from by repeat (first | (with_reducible first | exact HI0.out | apply IsS80.alloc | apply IsS80.drewN | apply IsS80.drew | apply IsS80.set_0 | apply IsS80.set_1 | apply IsS80.set_2 | apply IsS80.set_3 | apply IsS80.set_4 | apply IsS80.set_5 | apply IsS80.set_6) | exact HI0.out))) : gb406 ≠ g)); clear HI0; clear HK; clear HB; have HI0 := n0_; have HK := n1_; have HB := n2_; have BK406 := n3_; have GW406 := n4_; have GE406 := n5_; have NB0_406 := n6_; have NB406_0 := n7_; clear n0_ n1_ n2_ n3_ n4_ n5_ n6_ n7_; clear hb hbox hg; have hnb9 := NB406_0.out; have hnc9 := NB0_406.out; have hcz10_0 : w8.cell? ⟨gb406, 0, none⟩ = some (.int .i8 0) := (blk_cell BK406.out 0).trans rfl; have hcz10_1 : w8.cell? ⟨gb406, 1, none⟩ = some (.string (⟨#[]⟩ : ByteArray)) := (blk_cell BK406.out 1).trans rfl; have hfz10_0 := blk_frozen BK406.out 0; have hfz10_1 := blk_frozen BK406.out 1) | ((with_reducible refine gate_callee (f := 77) rfl ?_); refine goesL_ (some 23) rfl rfl Try.func77 (by kernel_rfl) rfl #[.string ((rd_T91 l1 x12_1).f1)] rfl (by (try simp only [List.map_toArray, List.map_cons, List.map_nil]); first | done | rfl | (simp only [List.length_drop, List.length_take]; rfl)) ?_; (with_reducible refine (utf8_RuneCountInString.calls ((rd_T91 l1 x12_1).f1) t407 _ A7.out).mono ?_); rintro e w11 ⟨rfl, hb⟩; refine ⟨_, rfl, ?_⟩; have n0_ := Aside0.mk (IsS80.below (show IsS80 w0 ((w8.setCell ⟨gb406, 0, none⟩ (.int .i8 ((rd_T91 l1 x12_1).f0))).setCell ⟨gb406, 1, none⟩ (.string ((rd_T91 l1 x12_1).f1))) g s0_0 s0_1 s0_2 s0_3 s0_4 s0_5 s0_6 from by repeat (first | (with_reducible first | exact HI0.out | apply IsS80.alloc | apply IsS80.drewN | apply IsS80.drew | apply IsS80.set_0 | apply IsS80.set_1 | apply IsS80.set_2 | apply IsS80.set_3 | apply IsS80.set_4 | apply IsS80.set_5 | apply IsS80.set_6 | refine IsS80.far ?_ NB0_406.out _) | exact HI0.out)) hb); have n1_ := Aside0.mk (blk_below (g := gb406) (o := .cells #[.int .i8 ((rd_T91 l1 x12_1).f0), .string ((rd_T91 l1 x12_1).f1)] 91 (0, 0)) (by (with_reducible repeat (first | refine blk_drewN ?_ _ | refine blk_drew ?_ | refine blk_alloc ?_ _)); refine blk_put (cs := #[.int .i8 ((rd_T91 l1 x12_1).f0), .string (⟨#[]⟩ : ByteArray)]) ?_ 1 _ rfl; (with_reducible repeat (first | refine blk_drewN ?_ _ | refine blk_drew ?_ | refine blk_alloc ?_ _)); refine blk_put (cs := #[.int .i8 0, .string (⟨#[]⟩ : ByteArray)]) ?_ 0 _ rfl; (with_reducible repeat (first | refine blk_drewN ?_ _ | refine blk_drew ?_ | refine blk_alloc ?_ _)); exact BK406.out) hb); have n2_ := Aside0.mk (KeepBut.trans (by repeat (first | (with_reducible first | exact HK.out | apply KeepBut.set_ | apply keep_drewN | apply keep_drew | apply keep_alloc | refine keep_far ?_ GW406.out _) | exact HK.out)) (KeepBut.of_below hb g none) (.inl rfl)); have n3_ := Aside0.mk (below_step (by repeat (first | (with_reducible first | exact HB.out | apply below_alloc | apply pw_below_drewN | apply below_drew1 | refine below_set ?_ (IsS80.ge HI0.out) | refine below_set ?_ GE406.out) | exact HB.out)) hb); clear HI0; clear BK406; clear HK; clear HB; have HI0 := n0_; have BK406 := n1_; have HK := n2_; have HB := n3_; clear n0_ n1_ n2_ n3_; (try clear hb); (try clear hb2); (try clear hk); (try clear hi)))
              go_roundg k1
              case measure => have := HK1.out; omega
              case rel => exact ⟨(x5_1), (wrap64 (x6_1 + t407)), (x7_1), (wrap64 (x12_1 + 1)), (by first | rfl | (simp; done) | (simp [*]; done)), (by first | rfl | (simp; done) | (simp [*]; done)), (by first | rfl | (simp; done) | (simp [*]; done)), (by first | rfl | (simp; done) | (simp [*]; done)), H', ⟨by have := HK1.out; omega⟩, ⟨by repeat (first | (with_reducible first | exact HI0.out | apply IsS80.alloc | apply IsS80.drewN | apply IsS80.drew | apply IsS80.set_0 | apply IsS80.set_1 | apply IsS80.set_2 | apply IsS80.set_3 | apply IsS80.set_4 | apply IsS80.set_5 | apply IsS80.set_6 | refine IsS80.far ?_ NB0_406.out _) | exact HI0.out)⟩, ⟨by repeat (first | (with_reducible first | exact HK.out | apply KeepBut.set_ | apply keep_drewN | apply keep_drew | apply keep_alloc | refine keep_far ?_ GW406.out _) | exact HK.out)⟩, ⟨by repeat (first | (with_reducible first | exact HB.out | apply below_alloc | apply pw_below_drewN | apply below_drew1 | refine below_set ?_ (IsS80.ge HI0.out) | refine below_set ?_ GE406.out) | exact HB.out)⟩⟩
            · rw [if_neg c6] at H
              have c6b0 : (((rd_T91 l1 x12_1).f0) == 1) = false := beq_eq_false_iff_ne.mpr c6
              have c6b1 : (((rd_T91 l1 x12_1).f0) != 1) = true := bne_iff_ne.mpr c6
              by_cases c12 : ((rd_T91 l1 x12_1).f0) = (-1)
              · rw [if_pos c12] at H
                have c12b0 : (((rd_T91 l1 x12_1).f0) == (-1)) = true := beq_iff_eq.mpr c12
                have c12b1 : (((rd_T91 l1 x12_1).f0) != (-1)) = false := bne_eq_false_iff_eq.mpr c12
                clear c12
                replace H := Option.bind_eq_some_iff.mp H
                obtain ⟨t408, A130, H⟩ := H
                replace H : (diffmatchpatch_DiffMatchPatch_DiffLevenshtein.l0 k1 x5_1 x6_1 (wrap64 (x7_1 + t408)) l1 (l1.length : Int) (wrap64 (x12_1 + 1)) s0_0 s0_1 s0_2 s0_3 s0_4 s0_5 s0_6) = some (r1, r2, r3, r4, r5, r6, r7, r8) := H
                have A13 := Aside0.mk A130
                clear A130
                have H' := Aside0.mk H
                clear H
                have p405 : 0 ≤ (x12_1 : Int) := of_decide_eq_true (by first | (with_reducible assumption) | assumption)
                have q405 : x12_1 < (l1.length : Int) := of_decide_eq_true (by first | (with_reducible assumption) | assumption)
                obtain ⟨ad405, e405, hx405_0, hx405_1⟩ := at_T91 (Kd.C_foot_now HR1.out HK.out) x12_1 p405 q405
                cases e405
                replace p405 := eq_true p405
                replace q405 := eq_true q405
                go_wp2_with (first | ((with_reducible refine gate_dst (N := 9) rfl ?_); refine box_event ?hg (N := 9) ?hd (cs := #[.int .i8 0, .string (⟨#[]⟩ : ByteArray)]) (t := 91) ?hr ?_; (case hd => rfl); (case hg => rfl); (case hr => first | (go_simp; done) | (go_simp; rfl)); intro gb406 hg w14 hbox hb; have n0_ := Aside0.mk (IsS80.below (by repeat (first | (with_reducible first | exact HI0.out | apply IsS80.alloc | apply IsS80.drewN | apply IsS80.drew | apply IsS80.set_0 | apply IsS80.set_1 | apply IsS80.set_2 | apply IsS80.set_3 | apply IsS80.set_4 | apply IsS80.set_5 | apply IsS80.set_6) | exact HI0.out)) hb); have n1_ := Aside0.mk (KeepBut.trans (by repeat (first | (with_reducible first | exact HK.out | apply KeepBut.set_ | apply keep_drewN | apply keep_drew | apply keep_alloc) | exact HK.out)) (KeepBut.of_below hb g none) (.inl rfl)); have n2_ := Aside0.mk (below_step (by repeat (first | (with_reducible first | exact HB.out | apply below_alloc | apply pw_below_drewN | apply below_drew1 | refine below_set ?_ (IsS80.ge HI0.out)) | exact HB.out)) hb); have n3_ := Aside0.mk (hbox); have n4_ := Aside0.mk ((by rw [hg]; exact (keep_size (w := w) (g := g) (row := none) (by repeat (first | (with_reducible first | exact HK.out | apply KeepBut.set_ | apply keep_drewN | apply keep_drew | apply keep_alloc) | exact HK.out))) : w.heap.size ≤ gb406)); have n5_ := Aside0.mk ((Nat.le_trans HW0.out (by rw [hg]; exact (keep_size (w := w) (g := g) (row := none) (by repeat (first | (with_reducible first | exact HK.out | apply KeepBut.set_ | apply keep_drewN | apply keep_drew | apply keep_alloc) | exact HK.out))) : w.heap.size ≤ gb406) : w0.heap.size ≤ gb406)); have n6_ := Aside0.mk ((by rw [hg]; exact Nat.ne_of_lt (IsS80.lt (show IsS80 w0 _ g s0_0 s0_1 s0_2 s0_3 s0_4 s0_5 s0_6 from by repeat (first | (with_reducible first | exact HI0.out | apply IsS80.alloc | apply IsS80.drewN | apply IsS80.drew | apply IsS80.set_0 | apply IsS80.set_1 | apply IsS80.set_2 | apply IsS80.set_3 | apply IsS80.set_4 | apply IsS80.set_5 | apply IsS80.set_6) | exact HI0.out))) : g ≠ gb406)); have n7_ := Aside0.mk ((by rw [hg]; exact Nat.ne_of_gt (IsS80.lt (show IsS80 w0 _ g s0_0 s0_1 s0_2 s0_3 s0_4 s0_5 s0_6 from by repeat (first | (with_reducible first | exact HI0.out | apply IsS80.alloc | apply IsS80.drewN | apply IsS80.drew | apply IsS80.set_0 | apply IsS80.set_1 | apply IsS80.set_2 | apply IsS80.set_3 | apply IsS80.set_4 | apply IsS80.set_5 | apply IsS80.set_6) | exact HI0.out))) : gb406 ≠ g)); clear HI0; clear HK; clear HB; have HI0 := n0_; have HK := n1_; have HB := n2_; have BK406 := n3_; have GW406 := n4_; have GE406 := n5_; have NB0_406 := n6_; have NB406_0 := n7_; clear n0_ n1_ n2_ n3_ n4_ n5_ n6_ n7_; clear hb hbox hg; have hnb15 := NB406_0.out; have hnc15 := NB0_406.out; have hcz16_0 : w14.cell? ⟨gb406, 0, none⟩ = some (.int .i8 0) := (blk_cell BK406.out 0).trans rfl; have hcz16_1 : w14.cell? ⟨gb406, 1, none⟩ = some (.string (⟨#[]⟩ : ByteArray)) := (blk_cell BK406.out 1).trans rfl; have hfz16_0 := blk_frozen BK406.out 0; have hfz16_1 := blk_frozen BK406.out 1) | ((with_reducible refine gate_callee (f := 77) rfl ?_); refine goesL_ (some 30) rfl rfl Try.func77 (by kernel_rfl) rfl #[.string ((rd_T91 l1 x12_1).f1)] rfl (by (try simp only [List.map_toArray, List.map_cons, List.map_nil]); first | done | rfl | (simp only [List.length_drop, List.length_take]; rfl)) ?_; (with_reducible refine (utf8_RuneCountInString.calls ((rd_T91 l1 x12_1).f1) t408 _ A13.out).mono ?_); rintro e w17 ⟨rfl, hb⟩; refine ⟨_, rfl, ?_⟩; have n0_ := Aside0.mk (IsS80.below (show IsS80 w0 ((w14.setCell ⟨gb406, 0, none⟩ (.int .i8 ((rd_T91 l1 x12_1).f0))).setCell ⟨gb406, 1, none⟩ (.string ((rd_T91 l1 x12_1).f1))) g s0_0 s0_1 s0_2 s0_3 s0_4 s0_5 s0_6 from by repeat (first | (with_reducible first | exact HI0.out | apply IsS80.alloc | apply IsS80.drewN | apply IsS80.drew | apply IsS80.set_0 | apply IsS80.set_1 | apply IsS80.set_2 | apply IsS80.set_3 | apply IsS80.set_4 | apply IsS80.set_5 | apply IsS80.set_6 | refine IsS80.far ?_ NB0_406.out _) | exact HI0.out)) hb); have n1_ := Aside0.mk (blk_below (g := gb406) (o := .cells #[.int .i8 ((rd_T91 l1 x12_1).f0), .string ((rd_T91 l1 x12_1).f1)] 91 (0, 0)) (by (with_reducible repeat (first | refine blk_drewN ?_ _ | refine blk_drew ?_ | refine blk_alloc ?_ _)); refine blk_put (cs := #[.int .i8 ((rd_T91 l1 x12_1).f0), .string (⟨#[]⟩ : ByteArray)]) ?_ 1 _ rfl; (with_reducible repeat (first | refine blk_drewN ?_ _ | refine blk_drew ?_ | refine blk_alloc ?_ _)); refine blk_put (cs := #[.int .i8 0, .string (⟨#[]⟩ : ByteArray)]) ?_ 0 _ rfl; (with_reducible repeat (first | refine blk_drewN ?_ _ | refine blk_drew ?_ | refine blk_alloc ?_ _)); exact BK406.out) hb); have n2_ := Aside0.mk (KeepBut.trans (by repeat (first | (with_reducible first | exact HK.out | apply KeepBut.set_ | apply keep_drewN | apply keep_drew | apply keep_alloc | refine keep_far ?_ GW406.out _) | exact HK.out)) (KeepBut.of_below hb g none) (.inl rfl)); have n3_ := Aside0.mk (below_step (by repeat (first | (with_reducible first | exact HB.out | apply below_alloc | apply pw_below_drewN | apply below_drew1 | refine below_set ?_ (IsS80.ge HI0.out) | refine below_set ?_ GE406.out) | exact HB.out)) hb); clear HI0; clear BK406; clear HK; clear HB; have HI0 := n0_; have BK406 := n1_; have HK := n2_; have HB := n3_; clear n0_ n1_ n2_ n3_; (try clear hb); (try clear hb2); (try clear hk); (try clear hi)))
                go_roundg k1
                case measure => have := HK1.out; omega
                case rel => exact ⟨(x5_1), (x6_1), (wrap64 (x7_1 + t408)), (wrap64 (x12_1 + 1)), (by first | rfl | (simp; done) | (simp [*]; done)), (by first | rfl | (simp; done) | (simp [*]; done)), (by first | rfl | (simp; done) | (simp [*]; done)), (by first | rfl | (simp; done) | (simp [*]; done)), H', ⟨by have := HK1.out; omega⟩, ⟨by repeat (first | (with_reducible first | exact HI0.out | apply IsS80.alloc | apply IsS80.drewN | apply IsS80.drew | apply IsS80.set_0 | apply IsS80.set_1 | apply IsS80.set_2 | apply IsS80.set_3 | apply IsS80.set_4 | apply IsS80.set_5 | apply IsS80.set_6 | refine IsS80.far ?_ NB0_406.out _) | exact HI0.out)⟩, ⟨by repeat (first | (with_reducible first | exact HK.out | apply KeepBut.set_ | apply keep_drewN | apply keep_drew | apply keep_alloc | refine keep_far ?_ GW406.out _) | exact HK.out)⟩, ⟨by repeat (first | (with_reducible first | exact HB.out | apply below_alloc | apply pw_below_drewN | apply below_drew1 | refine below_set ?_ (IsS80.ge HI0.out) | refine below_set ?_ GE406.out) | exact HB.out)⟩⟩
              · rw [if_neg c12] at H
                have c12b0 : (((rd_T91 l1 x12_1).f0) == (-1)) = false := beq_eq_false_iff_ne.mpr c12
                have c12b1 : (((rd_T91 l1 x12_1).f0) != (-1)) = true := bne_iff_ne.mpr c12
                by_cases c18 : ((rd_T91 l1 x12_1).f0) = 0
                · rw [if_pos c18] at H
                  have c18b0 : (((rd_T91 l1 x12_1).f0) == 0) = true := beq_iff_eq.mpr c18
                  have c18b1 : (((rd_T91 l1 x12_1).f0) != 0) = false := bne_eq_false_iff_eq.mpr c18
                  clear c18
                  replace H := Option.bind_eq_some_iff.mp H
                  obtain ⟨t409, A190, H⟩ := H
                  replace H : (diffmatchpatch_DiffMatchPatch_DiffLevenshtein.l0 k1 (wrap64 (x5_1 + t409)) 0 0 l1 (l1.length : Int) (wrap64 (x12_1 + 1)) s0_0 s0_1 s0_2 s0_3 s0_4 s0_5 s0_6) = some (r1, r2, r3, r4, r5, r6, r7, r8) := H
                  have A19 := Aside0.mk A190
                  clear A190
                  have H' := Aside0.mk H
                  clear H
                  have p405 : 0 ≤ (x12_1 : Int) := of_decide_eq_true (by first | (with_reducible assumption) | assumption)
                  have q405 : x12_1 < (l1.length : Int) := of_decide_eq_true (by first | (with_reducible assumption) | assumption)
                  obtain ⟨ad405, e405, hx405_0, hx405_1⟩ := at_T91 (Kd.C_foot_now HR1.out HK.out) x12_1 p405 q405
                  cases e405
                  replace p405 := eq_true p405
                  replace q405 := eq_true q405
                  go_wp2_with (first | ((with_reducible refine gate_dst (N := 9) rfl ?_); refine box_event ?hg (N := 9) ?hd (cs := #[.int .i8 0, .string (⟨#[]⟩ : ByteArray)]) (t := 91) ?hr ?_; (case hd => rfl); (case hg => rfl); (case hr => first | (go_simp; done) | (go_simp; rfl)); intro gb406 hg w20 hbox hb; have n0_ := Aside0.mk (IsS80.below (by repeat (first | (with_reducible first | exact HI0.out | apply IsS80.alloc | apply IsS80.drewN | apply IsS80.drew | apply IsS80.set_0 | apply IsS80.set_1 | apply IsS80.set_2 | apply IsS80.set_3 | apply IsS80.set_4 | apply IsS80.set_5 | apply IsS80.set_6) | exact HI0.out)) hb); have n1_ := Aside0.mk (KeepBut.trans (by repeat (first | (with_reducible first | exact HK.out | apply KeepBut.set_ | apply keep_drewN | apply keep_drew | apply keep_alloc) | exact HK.out)) (KeepBut.of_below hb g none) (.inl rfl)); have n2_ := Aside0.mk (below_step (by repeat (first | (with_reducible first | exact HB.out | apply below_alloc | apply pw_below_drewN | apply below_drew1 | refine below_set ?_ (IsS80.ge HI0.out)) | exact HB.out)) hb); have n3_ := Aside0.mk (hbox); have n4_ := Aside0.mk ((by rw [hg]; exact (keep_size (w := w) (g := g) (row := none) (by repeat (first | (with_reducible first | exact HK.out | apply KeepBut.set_ | apply keep_drewN | apply keep_drew | apply keep_alloc) | exact HK.out))) : w.heap.size ≤ gb406)); have n5_ := Aside0.mk ((Nat.le_trans HW0.out (by rw [hg]; exact (keep_size (w := w) (g := g) (row := none) (by repeat (first | (with_reducible first | exact HK.out | apply KeepBut.set_ | apply keep_drewN | apply keep_drew | apply keep_alloc) | exact HK.out))) : w.heap.size ≤ gb406) : w0.heap.size ≤ gb406)); have n6_ := Aside0.mk ((by rw [hg]; exact Nat.ne_of_lt (IsS80.lt (show IsS80 w0 _ g s0_0 s0_1 s0_2 s0_3 s0_4 s0_5 s0_6 from by repeat (first | (with_reducible first | exact HI0.out | apply IsS80.alloc | apply IsS80.drewN | apply IsS80.drew | apply IsS80.set_0 | apply IsS80.set_1 | apply IsS80.set_2 | apply IsS80.set_3 | apply IsS80.set_4 | apply IsS80.set_5 | apply IsS80.set_6) | exact HI0.out))) : g ≠ gb406)); have n7_ := Aside0.mk ((by rw [hg]; exact Nat.ne_of_gt (IsS80.lt (show IsS80 w0 _ g s0_0 s0_1 s0_2 s0_3 s0_4 s0_5 s0_6 from by repeat (first | (with_reducible first | exact HI0.out | apply IsS80.alloc | apply IsS80.drewN | apply IsS80.drew | apply IsS80.set_0 | apply IsS80.set_1 | apply IsS80.set_2 | apply IsS80.set_3 | apply IsS80.set_4 | apply IsS80.set_5 | apply IsS80.set_6) | exact HI0.out))) : gb406 ≠ g)); clear HI0; clear HK; clear HB; have HI0 := n0_; have HK := n1_; have HB := n2_; have BK406 := n3_; have GW406 := n4_; have GE406 := n5_; have NB0_406 := n6_; have NB406_0 := n7_; clear n0_ n1_ n2_ n3_ n4_ n5_ n6_ n7_; clear hb hbox hg; have hnb21 := NB406_0.out; have hnc21 := NB0_406.out; have hcz22_0 : w20.cell? ⟨gb406, 0, none⟩ = some (.int .i8 0) := (blk_cell BK406.out 0).trans rfl; have hcz22_1 : w20.cell? ⟨gb406, 1, none⟩ = some (.string (⟨#[]⟩ : ByteArray)) := (blk_cell BK406.out 1).trans rfl; have hfz22_0 := blk_frozen BK406.out 0; have hfz22_1 := blk_frozen BK406.out 1) | ((with_reducible refine gate_callee (f := 78) rfl ?_); refine goesL_ (some 37) rfl rfl Try.func78 (by kernel_rfl) rfl #[.int .i64 x6_1, .int .i64 x7_1] rfl (by (try simp only [List.map_toArray, List.map_cons, List.map_nil]); first | done | rfl | (simp only [List.length_drop, List.length_take]; rfl)) ?_; (with_reducible refine (diffmatchpatch_max.calls x6_1 x7_1 t409 _ A19.out).mono ?_); rintro e w' ⟨rfl, ⟨nd, rfl⟩⟩; refine ⟨_, rfl, ?_⟩))
                  go_roundg k1
                  case measure => have := HK1.out; omega
                  case rel => exact ⟨(wrap64 (x5_1 + t409)), (0), (0), (wrap64 (x12_1 + 1)), (by first | rfl | (simp; done) | (simp [*]; done)), (by first | rfl | (simp; done) | (simp [*]; done)), (by first | rfl | (simp; done) | (simp [*]; done)), (by first | rfl | (simp; done) | (simp [*]; done)), H', ⟨by have := HK1.out; omega⟩, ⟨by repeat (first | (with_reducible first | exact HI0.out | apply IsS80.alloc | apply IsS80.drewN | apply IsS80.drew | apply IsS80.set_0 | apply IsS80.set_1 | apply IsS80.set_2 | apply IsS80.set_3 | apply IsS80.set_4 | apply IsS80.set_5 | apply IsS80.set_6 | refine IsS80.far ?_ NB0_406.out _) | exact HI0.out)⟩, ⟨by repeat (first | (with_reducible first | exact HK.out | apply KeepBut.set_ | apply keep_drewN | apply keep_drew | apply keep_alloc | refine keep_far ?_ GW406.out _) | exact HK.out)⟩, ⟨by repeat (first | (with_reducible first | exact HB.out | apply below_alloc | apply pw_below_drewN | apply below_drew1 | refine below_set ?_ (IsS80.ge HI0.out) | refine below_set ?_ GE406.out) | exact HB.out)⟩⟩
                · rw [if_neg c18] at H
                  have c18b0 : (((rd_T91 l1 x12_1).f0) == 0) = false := beq_eq_false_iff_ne.mpr c18
                  have c18b1 : (((rd_T91 l1 x12_1).f0) != 0) = true := bne_iff_ne.mpr c18
                  have H' := Aside0.mk H
                  clear H
                  have p405 : 0 ≤ (x12_1 : Int) := of_decide_eq_true (by first | (with_reducible assumption) | assumption)
                  have q405 : x12_1 < (l1.length : Int) := of_decide_eq_true (by first | (with_reducible assumption) | assumption)
                  obtain ⟨ad405, e405, hx405_0, hx405_1⟩ := at_T91 (Kd.C_foot_now HR1.out HK.out) x12_1 p405 q405
                  cases e405
                  replace p405 := eq_true p405
                  replace q405 := eq_true q405
                  go_wp2_with (first | ((with_reducible refine gate_dst (N := 9) rfl ?_); refine box_event ?hg (N := 9) ?hd (cs := #[.int .i8 0, .string (⟨#[]⟩ : ByteArray)]) (t := 91) ?hr ?_; (case hd => rfl); (case hg => rfl); (case hr => first | (go_simp; done) | (go_simp; rfl)); intro gb406 hg w23 hbox hb; have n0_ := Aside0.mk (IsS80.below (by repeat (first | (with_reducible first | exact HI0.out | apply IsS80.alloc | apply IsS80.drewN | apply IsS80.drew | apply IsS80.set_0 | apply IsS80.set_1 | apply IsS80.set_2 | apply IsS80.set_3 | apply IsS80.set_4 | apply IsS80.set_5 | apply IsS80.set_6) | exact HI0.out)) hb); have n1_ := Aside0.mk (KeepBut.trans (by repeat (first | (with_reducible first | exact HK.out | apply KeepBut.set_ | apply keep_drewN | apply keep_drew | apply keep_alloc) | exact HK.out)) (KeepBut.of_below hb g none) (.inl rfl)); have n2_ := Aside0.mk (below_step (by repeat (first | (with_reducible first | exact HB.out | apply below_alloc | apply pw_below_drewN | apply below_drew1 | refine below_set ?_ (IsS80.ge HI0.out)) | exact HB.out)) hb); have n3_ := Aside0.mk (hbox); have n4_ := Aside0.mk ((by rw [hg]; exact (keep_size (w := w) (g := g) (row := none) (by repeat (first | (with_reducible first | exact HK.out | apply KeepBut.set_ | apply keep_drewN | apply keep_drew | apply keep_alloc) | exact HK.out))) : w.heap.size ≤ gb406)); have n5_ := Aside0.mk ((Nat.le_trans HW0.out (by rw [hg]; exact (keep_size (w := w) (g := g) (row := none) (by repeat (first | (with_reducible first | exact HK.out | apply KeepBut.set_ | apply keep_drewN | apply keep_drew | apply keep_alloc) | exact HK.out))) : w.heap.size ≤ gb406) : w0.heap.size ≤ gb406)); have n6_ := Aside0.mk ((by rw [hg]; exact Nat.ne_of_lt (IsS80.lt (show IsS80 w0 _ g s0_0 s0_1 s0_2 s0_3 s0_4 s0_5 s0_6 from by repeat (first | (with_reducible first | exact HI0.out | apply IsS80.alloc | apply IsS80.drewN | apply IsS80.drew | apply IsS80.set_0 | apply IsS80.set_1 | apply IsS80.set_2 | apply IsS80.set_3 | apply IsS80.set_4 | apply IsS80.set_5 | apply IsS80.set_6) | exact HI0.out))) : g ≠ gb406)); have n7_ := Aside0.mk ((by rw [hg]; exact Nat.ne_of_gt (IsS80.lt (show IsS80 w0 _ g s0_0 s0_1 s0_2 s0_3 s0_4 s0_5 s0_6 from by repeat (first | (with_reducible first | exact HI0.out | apply IsS80.alloc | apply IsS80.drewN | apply IsS80.drew | apply IsS80.set_0 | apply IsS80.set_1 | apply IsS80.set_2 | apply IsS80.set_3 | apply IsS80.set_4 | apply IsS80.set_5 | apply IsS80.set_6) | exact HI0.out))) : gb406 ≠ g)); clear HI0; clear HK; clear HB; have HI0 := n0_; have HK := n1_; have HB := n2_; have BK406 := n3_; have GW406 := n4_; have GE406 := n5_; have NB0_406 := n6_; have NB406_0 := n7_; clear n0_ n1_ n2_ n3_ n4_ n5_ n6_ n7_; clear hb hbox hg; have hnb24 := NB406_0.out; have hnc24 := NB0_406.out; have hcz25_0 : w23.cell? ⟨gb406, 0, none⟩ = some (.int .i8 0) := (blk_cell BK406.out 0).trans rfl; have hcz25_1 : w23.cell? ⟨gb406, 1, none⟩ = some (.string (⟨#[]⟩ : ByteArray)) := (blk_cell BK406.out 1).trans rfl; have hfz25_0 := blk_frozen BK406.out 0; have hfz25_1 := blk_frozen BK406.out 1))
                  go_roundg k1
                  case measure => have := HK1.out; omega
                  case rel => exact ⟨(x5_1), (x6_1), (x7_1), (wrap64 (x12_1 + 1)), (by first | rfl | (simp; done) | (simp [*]; done)), (by first | rfl | (simp; done) | (simp [*]; done)), (by first | rfl | (simp; done) | (simp [*]; done)), (by first | rfl | (simp; done) | (simp [*]; done)), H', ⟨by have := HK1.out; omega⟩, ⟨by repeat (first | (with_reducible first | exact HI0.out | apply IsS80.alloc | apply IsS80.drewN | apply IsS80.drew | apply IsS80.set_0 | apply IsS80.set_1 | apply IsS80.set_2 | apply IsS80.set_3 | apply IsS80.set_4 | apply IsS80.set_5 | apply IsS80.set_6 | refine IsS80.far ?_ NB0_406.out _) | exact HI0.out)⟩, ⟨by repeat (first | (with_reducible first | exact HK.out | apply KeepBut.set_ | apply keep_drewN | apply keep_drew | apply keep_alloc | refine keep_far ?_ GW406.out _) | exact HK.out)⟩, ⟨by repeat (first | (with_reducible first | exact HB.out | apply below_alloc | apply pw_below_drewN | apply below_drew1 | refine below_set ?_ (IsS80.ge HI0.out) | refine below_set ?_ GE406.out) | exact HB.out)⟩⟩
          · rw [if_neg c5] at H
            exact absurd H (by simp)
        · rw [if_neg c4] at H
          exact absurd H (by simp)
      · rw [if_neg c3] at H
        have c3b0 : decide (x12_1 < (l1.length : Int)) = false := decide_eq_false c3
        clear c3
        replace H := Option.bind_eq_some_iff.mp H
        obtain ⟨t404, A260, H⟩ := H
        replace H : (some (wrap64 (x5_1 + t404), s0_0, s0_1, s0_2, s0_3, s0_4, s0_5, s0_6)) = some (r1, r2, r3, r4, r5, r6, r7, r8) := H
        have A26 := Aside0.mk A260
        clear A260
        simp only [Option.some.injEq, Prod.mk.injEq] at H
        obtain ⟨rfl, rfl, rfl, rfl, rfl, rfl, rfl, rfl⟩ := H
        go_wp2_with (first | ((with_reducible refine gate_callee (f := 78) rfl ?_); refine goesL_ (some 43) rfl rfl Try.func78 (by kernel_rfl) rfl #[.int .i64 x6_1, .int .i64 x7_1] rfl (by (try simp only [List.map_toArray, List.map_cons, List.map_nil]); first | done | rfl | (simp only [List.length_drop, List.length_take]; rfl)) ?_; (with_reducible refine (diffmatchpatch_max.calls x6_1 x7_1 t404 _ A26.out).mono ?_); rintro e w' ⟨rfl, ⟨nd, rfl⟩⟩; refine ⟨_, rfl, ?_⟩))
        go_ret
        exact ⟨by first | rfl | (simp [errW_none, errW_some] <;> rfl) | (simp [*, errW_none, errW_some] <;> rfl), by repeat (first | (with_reducible first | exact HI0.out | apply IsS80.alloc | apply IsS80.drewN | apply IsS80.drew | apply IsS80.set_0 | apply IsS80.set_1 | apply IsS80.set_2 | apply IsS80.set_3 | apply IsS80.set_4 | apply IsS80.set_5 | apply IsS80.set_6) | exact HI0.out), by repeat (first | (with_reducible first | exact HB.out | apply below_alloc | apply pw_below_drewN | apply below_drew1 | refine below_set ?_ (IsS80.ge HI0.out)) | exact HB.out), by repeat (first | (with_reducible first | exact HK.out | apply KeepBut.set_ | apply keep_drewN | apply keep_drew | apply keep_alloc) | exact HK.out)⟩

end Go.Proofs.Ytomidomdomjkfaa.PT
