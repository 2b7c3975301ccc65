-- Written by this session's own program (wip/tools) out of the translation.
import Derived.Test.YtomidomdomjkfaaPTx0
import Derived.Test.YtomidomdomjkfaaPTx10
namespace Go.Proofs.Ytomidomdomjkfaa.PT
open Go.RowKit Go.Proofs.YtomidomdomjkfaaW.PrintWords Go.Proofs.YtomidomdomjkfaaW.PrintLast Go.Proofs.YtomidomdomjkfaaW.PrintMore
attribute [local go_sem] max2_int min2_int max_two min_two max_three min_three max_four min_four   -- for this text's walks alone
set_option linter.unusedVariables false
set_option linter.unusedSimpArgs false

/-! ### diffmatchpatch_DiffMatchPatch_DiffXIndex: function 60 -/
mutual
def diffmatchpatch_DiffMatchPatch_DiffXIndex.l0 : Nat → List (S91) → Int → Int → Int → Int → Int → Int → Int → Int → Int → Nat → Int → Int → Nat → Int → ByteArray → Option (Int × Int × Int × Int × Nat × Int × Int × Nat)
  | 0, _, _, _, _, _, _, _, _, _, _, _, _, _, _, _, _ => none
  | k + 1, x1, x2, x7, x8, x9, x10, x12, x1000, x1001, x1002, x1003, x1004, x1005, x1006, x364000, x364001 => if x12 < (x1.length : Int) then (if 0 ≤ x12 then (if ((rd_T91 x1 x12).f0) = 1 then (diffmatchpatch_DiffMatchPatch_DiffXIndex.j1 k x1 x2 x7 x8 x9 x10 x12 x1000 x1001 x1002 x1003 x1004 x1005 x1006 x364000 x364001 ((rd_T91 x1 x12).f0) ((rd_T91 x1 x12).f1)) else (diffmatchpatch_DiffMatchPatch_DiffXIndex.j1 k x1 x2 (wrap64 (x7 + (((rd_T91 x1 x12).f1).size : Int))) x8 x9 x10 x12 x1000 x1001 x1002 x1003 x1004 x1005 x1006 x364000 x364001 ((rd_T91 x1 x12).f0) ((rd_T91 x1 x12).f1))) else (none)) else (if x364000 = (-1) then (some (x10, x1000, x1001, x1002, x1003, x1004, x1005, x1006)) else (some (wrap64 (x10 + (wrap64 (x2 - x9))), x1000, x1001, x1002, x1003, x1004, x1005, x1006)))
def diffmatchpatch_DiffMatchPatch_DiffXIndex.j1 : Nat → List (S91) → Int → Int → Int → Int → Int → Int → Int → Int → Int → Nat → Int → Int → Nat → Int → ByteArray → Int → ByteArray → Option (Int × Int × Int × Int × Nat × Int × Int × Nat)
  | 0, _, _, _, _, _, _, _, _, _, _, _, _, _, _, _, _, _, _ => none
  | k + 1, x1, x2, x7, x8, x9, x10, x12, x1000, x1001, x1002, x1003, x1004, x1005, x1006, x364000, x364001, x366000, x366001 => if x366000 = (-1) then (if x7 > x2 then (some (x10, x1000, x1001, x1002, x1003, x1004, x1005, x1006)) else (diffmatchpatch_DiffMatchPatch_DiffXIndex.l0 k x1 x2 x7 x8 x7 x8 (wrap64 (x12 + 1)) x1000 x1001 x1002 x1003 x1004 x1005 x1006 x364000 x364001)) else (if x7 > x2 then (some (wrap64 (x10 + (wrap64 (x2 - x9))), x1000, x1001, x1002, x1003, x1004, x1005, x1006)) else (diffmatchpatch_DiffMatchPatch_DiffXIndex.l0 k x1 x2 x7 (wrap64 (x8 + (x366001.size : Int))) x7 (wrap64 (x8 + (x366001.size : Int))) (wrap64 (x12 + 1)) x1000 x1001 x1002 x1003 x1004 x1005 x1006 x364000 x364001))
end
def diffmatchpatch_DiffMatchPatch_DiffXIndex.f (k : Nat) (s0_0 : Int) (s0_1 : Int) (s0_2 : Int) (s0_3 : Nat) (s0_4 : Int) (s0_5 : Int) (s0_6 : Nat) (l1 : List (S91)) (a2 : Int) : Option (Int × Int × Int × Int × Nat × Int × Int × Nat) := diffmatchpatch_DiffMatchPatch_DiffXIndex.l0 k l1 a2 0 0 0 0 0 s0_0 s0_1 s0_2 s0_3 s0_4 s0_5 s0_6 0 (⟨#[]⟩ : ByteArray)
theorem diffmatchpatch_DiffMatchPatch_DiffXIndex.mono_l : ∀ k, (∀ y0 y1 y2 y3 y4 y5 y6 y7 y8 y9 y10 y11 y12 y13 y14 y15, LeO (diffmatchpatch_DiffMatchPatch_DiffXIndex.l0 k y0 y1 y2 y3 y4 y5 y6 y7 y8 y9 y10 y11 y12 y13 y14 y15) (diffmatchpatch_DiffMatchPatch_DiffXIndex.l0 (k + 1) y0 y1 y2 y3 y4 y5 y6 y7 y8 y9 y10 y11 y12 y13 y14 y15)) ∧ (∀ y0 y1 y2 y3 y4 y5 y6 y7 y8 y9 y10 y11 y12 y13 y14 y15 y16 y17, LeO (diffmatchpatch_DiffMatchPatch_DiffXIndex.j1 k y0 y1 y2 y3 y4 y5 y6 y7 y8 y9 y10 y11 y12 y13 y14 y15 y16 y17) (diffmatchpatch_DiffMatchPatch_DiffXIndex.j1 (k + 1) y0 y1 y2 y3 y4 y5 y6 y7 y8 y9 y10 y11 y12 y13 y14 y15 y16 y17))
  | 0 => ⟨fun _ _ _ _ _ _ _ _ _ _ _ _ _ _ _ _ r h => by simp [diffmatchpatch_DiffMatchPatch_DiffXIndex.l0] at h, fun _ _ _ _ _ _ _ _ _ _ _ _ _ _ _ _ _ _ r h => by simp [diffmatchpatch_DiffMatchPatch_DiffXIndex.j1] at h⟩
  | k + 1 => by
    obtain ⟨ih0, ih1⟩ := diffmatchpatch_DiffMatchPatch_DiffXIndex.mono_l k
    refine ⟨?_, ?_⟩
    · intro y0 y1 y2 y3 y4 y5 y6 y7 y8 y9 y10 y11 y12 y13 y14 y15
      unfold diffmatchpatch_DiffMatchPatch_DiffXIndex.l0
      repeat' first
      | (with_reducible exact ih0 _ _ _ _ _ _ _ _ _ _ _ _ _ _ _ _)
      | (with_reducible exact ih1 _ _ _ _ _ _ _ _ _ _ _ _ _ _ _ _ _ _)
      | (with_reducible exact LeO.refl _)
      | (with_reducible exact LeO.none _)
      | (with_reducible refine LeO.ite ?_ ?_)
      | (with_reducible refine LeO.bind ?_ (fun _ => ?_))
      | exact ih0 _ _ _ _ _ _ _ _ _ _ _ _ _ _ _ _
      | exact ih1 _ _ _ _ _ _ _ _ _ _ _ _ _ _ _ _ _ _
      | exact LeO.none _
      | refine LeO.ite ?_ ?_
      | refine LeO.bind ?_ (fun _ => ?_)
    · intro y0 y1 y2 y3 y4 y5 y6 y7 y8 y9 y10 y11 y12 y13 y14 y15 y16 y17
      unfold diffmatchpatch_DiffMatchPatch_DiffXIndex.j1
      repeat' first
      | (with_reducible exact ih0 _ _ _ _ _ _ _ _ _ _ _ _ _ _ _ _)
      | (with_reducible exact ih1 _ _ _ _ _ _ _ _ _ _ _ _ _ _ _ _ _ _)
      | (with_reducible exact LeO.refl _)
      | (with_reducible exact LeO.none _)
      | (with_reducible refine LeO.ite ?_ ?_)
      | (with_reducible refine LeO.bind ?_ (fun _ => ?_))
      | exact ih0 _ _ _ _ _ _ _ _ _ _ _ _ _ _ _ _
      | exact ih1 _ _ _ _ _ _ _ _ _ _ _ _ _ _ _ _ _ _
      | exact LeO.none _
      | refine LeO.ite ?_ ?_
      | refine LeO.bind ?_ (fun _ => ?_)
theorem diffmatchpatch_DiffMatchPatch_DiffXIndex.mono : ∀ a0 a1 a2 a3 a4 a5 a6 a7 a8 k, LeO (diffmatchpatch_DiffMatchPatch_DiffXIndex.f k a0 a1 a2 a3 a4 a5 a6 a7 a8) (diffmatchpatch_DiffMatchPatch_DiffXIndex.f (k + 1) a0 a1 a2 a3 a4 a5 a6 a7 a8) := by
  intro a0 a1 a2 a3 a4 a5 a6 a7 a8 k
  obtain ⟨ih0, ih1⟩ := diffmatchpatch_DiffMatchPatch_DiffXIndex.mono_l k
  unfold diffmatchpatch_DiffMatchPatch_DiffXIndex.f
  repeat' first
      | (with_reducible exact ih0 _ _ _ _ _ _ _ _ _ _ _ _ _ _ _ _)
      | (with_reducible exact ih1 _ _ _ _ _ _ _ _ _ _ _ _ _ _ _ _ _ _)
      | (with_reducible exact LeO.refl _)
      | (with_reducible exact LeO.none _)
      | (with_reducible refine LeO.ite ?_ ?_)
      | (with_reducible refine LeO.bind ?_ (fun _ => ?_))
      | exact ih0 _ _ _ _ _ _ _ _ _ _ _ _ _ _ _ _
      | exact ih1 _ _ _ _ _ _ _ _ _ _ _ _ _ _ _ _ _ _
      | exact LeO.none _
      | refine LeO.ite ?_ ?_
      | refine LeO.bind ?_ (fun _ => ?_)
set_option maxHeartbeats 8000000 in
set_option maxRecDepth 100000 in
theorem diffmatchpatch_DiffMatchPatch_DiffXIndex.calls (k : Nat) (g : Nat) (s0_0 : Int) (s0_1 : Int) (s0_2 : Int) (s0_3 : Nat) (s0_4 : Int) (s0_5 : Int) (s0_6 : Nat) (A1 : Option Addr) (c1 : Nat) (l1 : List (S91)) (a2 : Int) (r1 : Int) (r2 : Int) (r3 : Int) (r4 : Int) (r5 : Nat) (r6 : Int) (r7 : Int) (r8 : Nat) (w0 w : World) (hI : IsS80 w0 w g s0_0 s0_1 s0_2 s0_3 s0_4 s0_5 s0_6) (hB : Below w0.heap.size w0 w) (hr1 : ∀ W_, KeepBut w W_ g none → Kd.C k91 W_ A1 l1.length l1) (hc1 : l1.length ≤ c1) (h : diffmatchpatch_DiffMatchPatch_DiffXIndex.f k s0_0 s0_1 s0_2 s0_3 s0_4 s0_5 s0_6 l1 a2 = some (r1, r2, r3, r4, r5, r6, r7, r8)) :
    Calls Try.prog 60 #[.pointer (some ⟨g, 0, none⟩), .slice A1 l1.length c1, .int .i64 a2] w fun e w' => e = .returned (.int .i64 r1) ∧ IsS80 w0 w' g r2 r3 r4 r5 r6 r7 r8 ∧ Below w0.heap.size w0 w' ∧ KeepBut w w' g none := by
  have hu91 := Try.underlying91
  have HR1 := Aside0.mk hr1
  have HC1 := Aside0.mk hc1
  clear hr1 hc1
  have HI0 := Aside0.mk hI
  have HK := Aside0.mk (KeepBut.refl w g none)
  have HL := Aside0.mk hB.size
  clear hI
  have HW0 := Aside0.mk hB.size
  have HB := Aside0.mk hB
  clear hB
  have H : (diffmatchpatch_DiffMatchPatch_DiffXIndex.l0 k l1 a2 0 0 0 0 0 s0_0 s0_1 s0_2 s0_3 s0_4 s0_5 s0_6 0 (⟨#[]⟩ : ByteArray)) = some (r1, r2, r3, r4, r5, r6, r7, r8) := h
  clear h
  have H' := Aside0.mk H
  clear H
  go_enter Try.func60, Try.ntmps60
  go_wp2_with (first | ((with_reducible refine gate_dst (N := 11) rfl ?_); refine box_event ?hg (N := 11) ?hd (cs := #[.int .i8 0, .string (⟨#[]⟩ : ByteArray)]) (t := 91) ?hr ?_; (case hd => rfl); (case hg => rfl); (case hr => first | (go_simp; done) | (go_simp; rfl)); intro gb363 hg w4 hbox hb; have n0_ := Aside0.mk (IsS80.below (by repeat (first | (with_reducible first | exact HI0.out | apply IsS80.alloc | apply IsS80.drewN | apply IsS80.drew | apply IsS80.set_0 | apply IsS80.set_1 | apply IsS80.set_2 | apply IsS80.set_3 | apply IsS80.set_4 | apply IsS80.set_5 | apply IsS80.set_6) | exact HI0.out)) hb); have n1_ := Aside0.mk (KeepBut.trans (by repeat (first | (with_reducible first | exact HK.out | apply KeepBut.set_ | apply keep_drewN | apply keep_drew | apply keep_alloc) | exact HK.out)) (KeepBut.of_below hb g none) (.inl rfl)); have n2_ := Aside0.mk (below_step (by repeat (first | (with_reducible first | exact HB.out | apply below_alloc | apply pw_below_drewN | apply below_drew1 | refine below_set ?_ (IsS80.ge HI0.out)) | exact HB.out)) hb); have n3_ := Aside0.mk (hbox); have n4_ := Aside0.mk ((by rw [hg]; exact (keep_size (w := w) (g := g) (row := none) (by repeat (first | (with_reducible first | exact HK.out | apply KeepBut.set_ | apply keep_drewN | apply keep_drew | apply keep_alloc) | exact HK.out))) : w.heap.size ≤ gb363)); have n5_ := Aside0.mk ((Nat.le_trans HW0.out (by rw [hg]; exact (keep_size (w := w) (g := g) (row := none) (by repeat (first | (with_reducible first | exact HK.out | apply KeepBut.set_ | apply keep_drewN | apply keep_drew | apply keep_alloc) | exact HK.out))) : w.heap.size ≤ gb363) : w0.heap.size ≤ gb363)); have n6_ := Aside0.mk ((by rw [hg]; exact Nat.ne_of_lt (IsS80.lt (show IsS80 w0 _ g s0_0 s0_1 s0_2 s0_3 s0_4 s0_5 s0_6 from by repeat (first | (with_reducible first | exact HI0.out | apply IsS80.alloc | apply IsS80.drewN | apply IsS80.drew | apply IsS80.set_0 | apply IsS80.set_1 | apply IsS80.set_2 | apply IsS80.set_3 | apply IsS80.set_4 | apply IsS80.set_5 | apply IsS80.set_6) | exact HI0.out))) : g ≠ gb363)); have n7_ := Aside0.mk ((by rw [hg]; exact Nat.ne_of_gt (IsS80.lt (show IsS80 w0 _ g s0_0 s0_1 s0_2 s0_3 s0_4 s0_5 s0_6 from by repeat (first | (with_reducible first | exact HI0.out | apply IsS80.alloc | apply IsS80.drewN | apply IsS80.drew | apply IsS80.set_0 | apply IsS80.set_1 | apply IsS80.set_2 | apply IsS80.set_3 | apply IsS80.set_4 | apply IsS80.set_5 | apply IsS80.set_6) | exact HI0.out))) : gb363 ≠ g)); clear HI0; clear HK; clear HB; have HI0 := n0_; have HK := n1_; have HB := n2_; have BK363 := n3_; have GW363 := n4_; have GE363 := n5_; have NB0_363 := n6_; have NB363_0 := n7_; clear n0_ n1_ n2_ n3_ n4_ n5_ n6_ n7_; clear hb hbox hg; have hnb5 := NB363_0.out; have hnc5 := NB0_363.out; have hcz6_0 : w4.cell? ⟨gb363, 0, none⟩ = some (.int .i8 0) := (blk_cell BK363.out 0).trans rfl; have hcz6_1 : w4.cell? ⟨gb363, 1, none⟩ = some (.string (⟨#[]⟩ : ByteArray)) := (blk_cell BK363.out 1).trans rfl; have hfz6_0 := blk_frozen BK363.out 0; have hfz6_1 := blk_frozen BK363.out 1))
  go_loopg [7, 8, 9, 10, 12] k (fun kq v7 v8 v9 v10 v12 w' => ∃ (x7_1 : Int) (x8_1 : Int) (x9_1 : Int) (x10_1 : Int) (x12_1 : Int) (x364000_1 : Int) (x364001_1 : ByteArray), v7 = .int .i64 x7_1 ∧ v8 = .int .i64 x8_1 ∧ v9 = .int .i64 x9_1 ∧ v10 = .int .i64 x10_1 ∧ v12 = .int .i64 x12_1 ∧ Aside0 (diffmatchpatch_DiffMatchPatch_DiffXIndex.l0 kq l1 a2 x7_1 x8_1 x9_1 x10_1 x12_1 s0_0 s0_1 s0_2 s0_3 s0_4 s0_5 s0_6 x364000_1 x364001_1 = some (r1, r2, r3, r4, r5, r6, r7, r8)) ∧ Aside0 (kq ≤ k) ∧ Aside0 (w'.heap[gb363]? = some (.cells #[.int .i8 x364000_1, .string x364001_1] 91 (0, 0))) ∧ Aside0 (IsS80 w0 w' g s0_0 s0_1 s0_2 s0_3 s0_4 s0_5 s0_6) ∧ Aside0 (KeepBut w w' g none) ∧ Aside0 (Below w0.heap.size w0 w'))
  case atStart => exact ⟨(0), (0), (0), (0), (0), (0), ((⟨#[]⟩ : ByteArray)), (by first | rfl | (simp; done) | (simp [*]; done)), (by first | rfl | (simp; done) | (simp [*]; done)), (by first | rfl | (simp; done) | (simp [*]; done)), (by first | rfl | (simp; done) | (simp [*]; done)), (by first | rfl | (simp; done) | (simp [*]; done)), H', ⟨Nat.le_refl _⟩, ⟨by (with_reducible repeat (first | refine blk_drewN ?_ _ | refine blk_drew ?_ | refine blk_alloc ?_ _)); refine blk_put (cs := #[.int .i8 0, .string (⟨#[]⟩ : ByteArray)]) ?_ 1 _ rfl; (with_reducible repeat (first | refine blk_drewN ?_ _ | refine blk_drew ?_ | refine blk_alloc ?_ _)); refine blk_put (cs := #[.int .i8 0, .string (⟨#[]⟩ : ByteArray)]) ?_ 0 _ rfl; (with_reducible repeat (first | refine blk_drewN ?_ _ | refine blk_drew ?_ | refine blk_alloc ?_ _)); exact BK363.out⟩, ⟨by repeat (first | (with_reducible first | exact HI0.out | apply IsS80.alloc | apply IsS80.drewN | apply IsS80.drew | apply IsS80.set_0 | apply IsS80.set_1 | apply IsS80.set_2 | apply IsS80.set_3 | apply IsS80.set_4 | apply IsS80.set_5 | apply IsS80.set_6 | refine IsS80.far ?_ NB0_363.out _) | exact HI0.out)⟩, ⟨by repeat (first | (with_reducible first | exact HK.out | apply KeepBut.set_ | apply keep_drewN | apply keep_drew | apply keep_alloc | refine keep_far ?_ GW363.out _) | exact HK.out)⟩, ⟨by repeat (first | (with_reducible first | exact HB.out | apply below_alloc | apply pw_below_drewN | apply below_drew1 | refine below_set ?_ (IsS80.ge HI0.out) | refine below_set ?_ GE363.out) | exact HB.out)⟩⟩
  case round =>
    clear H'
    try clear c1
    try clear p2
    try clear c5
    try clear c6
    try clear hcz6_0
    try clear hcz6_1
    try clear hfz6_0
    try clear hfz6_1
    obtain ⟨x7_1, x8_1, x9_1, x10_1, x12_1, x364000_1, x364001_1, rfl, rfl, rfl, rfl, rfl, HA, HK1, BK363, HI0, HK, HB⟩ := hrel
    cases gk with
    | zero => exact absurd HA.out (by simp [diffmatchpatch_DiffMatchPatch_DiffXIndex.l0])
    | succ k1 =>
      have H := HA.out
      clear HA
      simp only [diffmatchpatch_DiffMatchPatch_DiffXIndex.l0] at H
      by_cases c7 : x12_1 < (l1.length : Int)
      · rw [if_pos c7] at H
        have c7b0 : decide (x12_1 < (l1.length : Int)) = true := decide_eq_true c7
        clear c7
        by_cases c8 : 0 ≤ x12_1
        · rw [if_pos c8] at H
          have c8b0 : decide (0 ≤ x12_1) = true := decide_eq_true c8
          clear c8
          have HC9 := Aside0.mk H
          clear H
          have p364 : 0 ≤ (x12_1 : Int) := of_decide_eq_true (by first | (with_reducible assumption) | assumption)
          have q364 : x12_1 < (l1.length : Int) := of_decide_eq_true (by first | (with_reducible assumption) | assumption)
          obtain ⟨ad364, e364, hx364_0, hx364_1⟩ := at_T91 (Kd.C_foot_now HR1.out HK.out) x12_1 p364 q364
          cases e364
          replace p364 := eq_true p364
          replace q364 := eq_true q364
          go_upto_if 27 with (first | ((with_reducible refine gate_dst (N := 13) rfl ?_); refine box_event ?hg (N := 13) ?hd (cs := #[.int .i8 0, .string (⟨#[]⟩ : ByteArray)]) (t := 91) ?hr ?_; (case hd => rfl); (case hg => rfl); (case hr => first | (go_simp; done) | (go_simp; rfl)); intro gb365 hg w10 hbox hb; have n0_ := Aside0.mk (blk_below (g := gb363) (o := .cells #[.int .i8 x364000_1, .string x364001_1] 91 (0, 0)) (by (with_reducible repeat (first | refine blk_drewN ?_ _ | refine blk_drew ?_ | refine blk_alloc ?_ _)); exact BK363.out) hb); have n1_ := Aside0.mk (IsS80.below (by repeat (first | (with_reducible first | exact HI0.out | apply IsS80.alloc | apply IsS80.drewN | apply IsS80.drew | apply IsS80.set_0 | apply IsS80.set_1 | apply IsS80.set_2 | apply IsS80.set_3 | apply IsS80.set_4 | apply IsS80.set_5 | apply IsS80.set_6 | refine IsS80.far ?_ NB0_363.out _) | exact HI0.out)) hb); have n2_ := Aside0.mk (KeepBut.trans (by repeat (first | (with_reducible first | exact HK.out | apply KeepBut.set_ | apply keep_drewN | apply keep_drew | apply keep_alloc | refine keep_far ?_ GW363.out _) | exact HK.out)) (KeepBut.of_below hb g none) (.inl rfl)); have n3_ := Aside0.mk (below_step (by repeat (first | (with_reducible first | exact HB.out | apply below_alloc | apply pw_below_drewN | apply below_drew1 | refine below_set ?_ (IsS80.ge HI0.out) | refine below_set ?_ GE363.out) | exact HB.out)) hb); have n4_ := Aside0.mk (hbox); have n5_ := Aside0.mk ((by rw [hg]; exact (keep_size (w := w) (g := g) (row := none) (by repeat (first | (with_reducible first | exact HK.out | apply KeepBut.set_ | apply keep_drewN | apply keep_drew | apply keep_alloc | refine keep_far ?_ GW363.out _) | exact HK.out))) : w.heap.size ≤ gb365)); have n6_ := Aside0.mk ((Nat.le_trans HW0.out (by rw [hg]; exact (keep_size (w := w) (g := g) (row := none) (by repeat (first | (with_reducible first | exact HK.out | apply KeepBut.set_ | apply keep_drewN | apply keep_drew | apply keep_alloc | refine keep_far ?_ GW363.out _) | exact HK.out))) : w.heap.size ≤ gb365) : w0.heap.size ≤ gb365)); have n7_ := Aside0.mk ((by rw [hg]; exact Nat.ne_of_lt (blk_lt (g := gb363) (o := .cells #[.int .i8 x364000_1, .string x364001_1] 91 (0, 0)) (by (with_reducible repeat (first | refine blk_drewN ?_ _ | refine blk_drew ?_ | refine blk_alloc ?_ _)); exact BK363.out)) : gb363 ≠ gb365)); have n8_ := Aside0.mk ((by rw [hg]; exact Nat.ne_of_gt (blk_lt (g := gb363) (o := .cells #[.int .i8 x364000_1, .string x364001_1] 91 (0, 0)) (by (with_reducible repeat (first | refine blk_drewN ?_ _ | refine blk_drew ?_ | refine blk_alloc ?_ _)); exact BK363.out)) : gb365 ≠ gb363)); have n9_ := Aside0.mk ((by rw [hg]; exact Nat.ne_of_lt (IsS80.lt (show IsS80 w0 _ g s0_0 s0_1 s0_2 s0_3 s0_4 s0_5 s0_6 from by repeat (first | (with_reducible first | exact HI0.out | apply IsS80.alloc | apply IsS80.drewN | apply IsS80.drew | apply IsS80.set_0 | apply IsS80.set_1 | apply IsS80.set_2 | apply IsS80.set_3 | apply IsS80.set_4 | apply IsS80.set_5 | apply IsS80.set_6 | refine IsS80.far ?_ NB0_363.out _) | exact HI0.out))) : g ≠ gb365)); have n10_ := Aside0.mk ((by rw [hg]; exact Nat.ne_of_gt (IsS80.lt (show IsS80 w0 _ g s0_0 s0_1 s0_2 s0_3 s0_4 s0_5 s0_6 from by repeat (first | (with_reducible first | exact HI0.out | apply IsS80.alloc | apply IsS80.drewN | apply IsS80.drew | apply IsS80.set_0 | apply IsS80.set_1 | apply IsS80.set_2 | apply IsS80.set_3 | apply IsS80.set_4 | apply IsS80.set_5 | apply IsS80.set_6 | refine IsS80.far ?_ NB0_363.out _) | exact HI0.out))) : gb365 ≠ g)); clear BK363; clear HI0; clear HK; clear HB; have BK363 := n0_; have HI0 := n1_; have HK := n2_; have HB := n3_; have BK365 := n4_; have GW365 := n5_; have GE365 := n6_; have NB363_365 := n7_; have NB365_363 := n8_; have NB0_365 := n9_; have NB365_0 := n10_; clear n0_ n1_ n2_ n3_ n4_ n5_ n6_ n7_ n8_ n9_ n10_; clear hb hbox hg; have hnb11 := NB365_363.out; have hnc11 := NB363_365.out; have hnb12 := NB365_0.out; have hnc12 := NB0_365.out; have hcz13_0 : w10.cell? ⟨gb365, 0, none⟩ = some (.int .i8 0) := (blk_cell BK365.out 0).trans rfl; have hcz13_1 : w10.cell? ⟨gb365, 1, none⟩ = some (.string (⟨#[]⟩ : ByteArray)) := (blk_cell BK365.out 1).trans rfl; have hfz13_0 := blk_frozen BK365.out 0; have hfz13_1 := blk_frozen BK365.out 1))
          (try simp only [Act.put, List.setIfInBounds_toArray, List.set_cons_zero, List.set_cons_succ])
          go_cut [7] (fun v7 wc => ∃ (kq : Nat) (x7_8 : Int), v7 = .int .i64 x7_8 ∧ Aside0 (diffmatchpatch_DiffMatchPatch_DiffXIndex.j1 kq l1 a2 x7_8 x8_1 x9_1 x10_1 x12_1 s0_0 s0_1 s0_2 s0_3 s0_4 s0_5 s0_6 x364000_1 x364001_1 ((rd_T91 l1 x12_1).f0) ((rd_T91 l1 x12_1).f1) = some (r1, r2, r3, r4, r5, r6, r7, r8)) ∧ Aside0 (kq ≤ k1) ∧ Aside0 (wc.heap[gb363]? = some (.cells #[.int .i8 x364000_1, .string x364001_1] 91 (0, 0))) ∧ Aside0 (wc.heap[gb365]? = some (.cells #[.int .i8 ((rd_T91 l1 x12_1).f0), .string ((rd_T91 l1 x12_1).f1)] 91 (0, 0))) ∧ Aside0 (IsS80 w0 wc g s0_0 s0_1 s0_2 s0_3 s0_4 s0_5 s0_6) ∧ Aside0 (KeepBut w wc g none) ∧ Aside0 (Below w0.heap.size w0 wc))
          case first =>
            have H := HC9.out
            clear HC9
            by_cases c14 : ((rd_T91 l1 x12_1).f0) = 1
            · rw [if_pos c14] at H
              have c14b0 : (((rd_T91 l1 x12_1).f0) == 1) = true := beq_iff_eq.mpr c14
              have c14b1 : (((rd_T91 l1 x12_1).f0) != 1) = false := bne_eq_false_iff_eq.mpr c14
              clear c14
              (first | rw [c14b0] | (simp only [i64_w, i32_w]; rw [c14b0]) | rw [c14b2] | skip)
              have H' := Aside0.mk H
              clear H
              go_wp2
              go_meet
              case rel => exact ⟨_, (x7_1), (by first | rfl | (simp; done) | (simp [*]; done)), H', ⟨by have := HK1.out; first | omega | exact Nat.le_refl _⟩, ⟨by (with_reducible repeat (first | refine blk_drewN ?_ _ | refine blk_drew ?_ | refine blk_alloc ?_ _)); refine blk_far ?_ NB363_365.out _; (with_reducible repeat (first | refine blk_drewN ?_ _ | refine blk_drew ?_ | refine blk_alloc ?_ _)); refine blk_far ?_ NB363_365.out _; (with_reducible repeat (first | refine blk_drewN ?_ _ | refine blk_drew ?_ | refine blk_alloc ?_ _)); exact BK363.out⟩, ⟨by (with_reducible repeat (first | refine blk_drewN ?_ _ | refine blk_drew ?_ | refine blk_alloc ?_ _)); refine blk_put (cs := #[.int .i8 ((rd_T91 l1 x12_1).f0), .string (⟨#[]⟩ : ByteArray)]) ?_ 1 _ rfl; (with_reducible repeat (first | refine blk_drewN ?_ _ | refine blk_drew ?_ | refine blk_alloc ?_ _)); refine blk_put (cs := #[.int .i8 0, .string (⟨#[]⟩ : ByteArray)]) ?_ 0 _ rfl; (with_reducible repeat (first | refine blk_drewN ?_ _ | refine blk_drew ?_ | refine blk_alloc ?_ _)); exact BK365.out⟩, ⟨by repeat (first | (with_reducible first | exact HI0.out | apply IsS80.alloc | apply IsS80.drewN | apply IsS80.drew | apply IsS80.set_0 | apply IsS80.set_1 | apply IsS80.set_2 | apply IsS80.set_3 | apply IsS80.set_4 | apply IsS80.set_5 | apply IsS80.set_6 | refine IsS80.far ?_ NB0_363.out _ | refine IsS80.far ?_ NB0_365.out _) | exact HI0.out)⟩, ⟨by repeat (first | (with_reducible first | exact HK.out | apply KeepBut.set_ | apply keep_drewN | apply keep_drew | apply keep_alloc | refine keep_far ?_ GW363.out _ | refine keep_far ?_ GW365.out _) | exact HK.out)⟩, ⟨by repeat (first | (with_reducible first | exact HB.out | apply below_alloc | apply pw_below_drewN | apply below_drew1 | refine below_set ?_ (IsS80.ge HI0.out) | refine below_set ?_ GE363.out | refine below_set ?_ GE365.out) | exact HB.out)⟩⟩
            · rw [if_neg c14] at H
              have c14b0 : (((rd_T91 l1 x12_1).f0) == 1) = false := beq_eq_false_iff_ne.mpr c14
              have c14b1 : (((rd_T91 l1 x12_1).f0) != 1) = true := bne_iff_ne.mpr c14
              (first | rw [c14b0] | (simp only [i64_w, i32_w]; rw [c14b0]) | rw [c14b2] | skip)
              have H' := Aside0.mk H
              clear H
              have hnb15 := NB365_363.out
              have hnc15 := NB363_365.out
              have hnb16 := NB365_0.out
              have hnc16 := NB0_365.out
              have hcz17_0 : w10.cell? ⟨gb365, 0, none⟩ = some (.int .i8 0) := (blk_cell BK365.out 0).trans rfl
              have hcz17_1 : w10.cell? ⟨gb365, 1, none⟩ = some (.string (⟨#[]⟩ : ByteArray)) := (blk_cell BK365.out 1).trans rfl
              have hfz17_0 := blk_frozen BK365.out 0
              have hfz17_1 := blk_frozen BK365.out 1
              go_wp2
              go_meet
              case rel => exact ⟨_, (wrap64 (x7_1 + (((rd_T91 l1 x12_1).f1).size : Int))), (by first | rfl | (simp; done) | (simp [*]; done)), H', ⟨by have := HK1.out; first | omega | exact Nat.le_refl _⟩, ⟨by (with_reducible repeat (first | refine blk_drewN ?_ _ | refine blk_drew ?_ | refine blk_alloc ?_ _)); refine blk_far ?_ NB363_365.out _; (with_reducible repeat (first | refine blk_drewN ?_ _ | refine blk_drew ?_ | refine blk_alloc ?_ _)); refine blk_far ?_ NB363_365.out _; (with_reducible repeat (first | refine blk_drewN ?_ _ | refine blk_drew ?_ | refine blk_alloc ?_ _)); exact BK363.out⟩, ⟨by (with_reducible repeat (first | refine blk_drewN ?_ _ | refine blk_drew ?_ | refine blk_alloc ?_ _)); refine blk_put (cs := #[.int .i8 ((rd_T91 l1 x12_1).f0), .string (⟨#[]⟩ : ByteArray)]) ?_ 1 _ rfl; (with_reducible repeat (first | refine blk_drewN ?_ _ | refine blk_drew ?_ | refine blk_alloc ?_ _)); refine blk_put (cs := #[.int .i8 0, .string (⟨#[]⟩ : ByteArray)]) ?_ 0 _ rfl; (with_reducible repeat (first | refine blk_drewN ?_ _ | refine blk_drew ?_ | refine blk_alloc ?_ _)); exact BK365.out⟩, ⟨by repeat (first | (with_reducible first | exact HI0.out | apply IsS80.alloc | apply IsS80.drewN | apply IsS80.drew | apply IsS80.set_0 | apply IsS80.set_1 | apply IsS80.set_2 | apply IsS80.set_3 | apply IsS80.set_4 | apply IsS80.set_5 | apply IsS80.set_6 | refine IsS80.far ?_ NB0_363.out _ | refine IsS80.far ?_ NB0_365.out _) | exact HI0.out)⟩, ⟨by repeat (first | (with_reducible first | exact HK.out | apply KeepBut.set_ | apply keep_drewN | apply keep_drew | apply keep_alloc | refine keep_far ?_ GW363.out _ | refine keep_far ?_ GW365.out _) | exact HK.out)⟩, ⟨by repeat (first | (with_reducible first | exact HB.out | apply below_alloc | apply pw_below_drewN | apply below_drew1 | refine below_set ?_ (IsS80.ge HI0.out) | refine below_set ?_ GE363.out | refine below_set ?_ GE365.out) | exact HB.out)⟩⟩
          case rest =>
            clear HC9
            try clear c1
            try clear p2
            try clear p3
            try clear q3
            try clear hx3
            try clear c5
            try clear c6
            try clear p6
            try clear c7
            try clear c7b0
            try clear c8
            try clear c8b0
            try clear c11
            try clear c12
            try clear c14
            try clear c14b0
            try clear c14b1
            try clear c14b2
            try clear c15
            try clear c16
            try clear hcz13_0
            try clear hcz13_1
            try clear hcz17_0
            try clear hcz17_1
            try clear hcz6_0
            try clear hcz6_1
            try clear hfz13_0
            try clear hfz13_1
            try clear hfz17_0
            try clear hfz17_1
            try clear hfz6_0
            try clear hfz6_1
            try clear hx364_0
            try clear hx364_1
            try clear p2
            try clear p364
            try clear q364
            obtain ⟨kq, x7_8, rfl, HA, HJ8, BK363, BK365, HI0, HK, HB⟩ := hcut
            cases kq with
            | zero => exact absurd HA.out (by simp [diffmatchpatch_DiffMatchPatch_DiffXIndex.j1])
            | succ kj8 =>
              have H := HA.out
              clear HA
              simp only [diffmatchpatch_DiffMatchPatch_DiffXIndex.j1] at H
              by_cases c18 : ((rd_T91 l1 x12_1).f0) = (-1)
              · rw [if_pos c18] at H
                have c18b0 : (((rd_T91 l1 x12_1).f0) == (-1)) = true := beq_iff_eq.mpr c18
                have c18b1 : (((rd_T91 l1 x12_1).f0) != (-1)) = false := bne_eq_false_iff_eq.mpr c18
                clear c18
                by_cases c19 : x7_8 > a2
                · rw [if_pos c19] at H
                  have c19b0 : decide (a2 < x7_8) = true := decide_eq_true c19
                  clear c19
                  simp only [Option.some.injEq, Prod.mk.injEq] at H
                  obtain ⟨rfl, rfl, rfl, rfl, rfl, rfl, rfl, rfl⟩ := H
                  have hnb20 := NB365_363.out
                  have hnc20 := NB363_365.out
                  have hnb21 := NB365_0.out
                  have hnc21 := NB0_365.out
                  have hcz22_0 : wc.cell? ⟨gb365, 0, none⟩ = some (.int .i8 ((rd_T91 l1 x12_1).f0)) := (blk_cell BK365.out 0).trans rfl
                  have hcz22_1 : wc.cell? ⟨gb365, 1, none⟩ = some (.string ((rd_T91 l1 x12_1).f1)) := (blk_cell BK365.out 1).trans rfl
                  have hfz22_0 := blk_frozen BK365.out 0
                  have hfz22_1 := blk_frozen BK365.out 1
                  have hnb23 := NB363_0.out
                  have hnc23 := NB0_363.out
                  have hcz24_0 : wc.cell? ⟨gb363, 0, none⟩ = some (.int .i8 x364000_1) := (blk_cell BK363.out 0).trans rfl
                  have hcz24_1 : wc.cell? ⟨gb363, 1, none⟩ = some (.string x364001_1) := (blk_cell BK363.out 1).trans rfl
                  have hfz24_0 := blk_frozen BK363.out 0
                  have hfz24_1 := blk_frozen BK363.out 1
                  go_wp2
                  go_ret
                  exact ⟨by first | rfl | (simp [errW_none, errW_some] <;> rfl) | (simp [*, errW_none, errW_some] <;> rfl), by repeat (first | (with_reducible first | exact HI0.out | apply IsS80.alloc | apply IsS80.drewN | apply IsS80.drew | apply IsS80.set_0 | apply IsS80.set_1 | apply IsS80.set_2 | apply IsS80.set_3 | apply IsS80.set_4 | apply IsS80.set_5 | apply IsS80.set_6 | refine IsS80.far ?_ NB0_363.out _ | refine IsS80.far ?_ NB0_365.out _) | exact HI0.out), by repeat (first | (with_reducible first | exact HB.out | apply below_alloc | apply pw_below_drewN | apply below_drew1 | refine below_set ?_ (IsS80.ge HI0.out) | refine below_set ?_ GE363.out | refine below_set ?_ GE365.out) | exact HB.out), by repeat (first | (with_reducible first | exact HK.out | apply KeepBut.set_ | apply keep_drewN | apply keep_drew | apply keep_alloc | refine keep_far ?_ GW363.out _ | refine keep_far ?_ GW365.out _) | exact HK.out)⟩
                · rw [if_neg c19] at H
                  have c19b0 : decide (a2 < x7_8) = false := decide_eq_false c19
                  clear c19
                  have H' := Aside0.mk H
                  clear H
                  have hnb25 := NB365_363.out
                  have hnc25 := NB363_365.out
                  have hnb26 := NB365_0.out
                  have hnc26 := NB0_365.out
                  have hcz27_0 : wc.cell? ⟨gb365, 0, none⟩ = some (.int .i8 ((rd_T91 l1 x12_1).f0)) := (blk_cell BK365.out 0).trans rfl
                  have hcz27_1 : wc.cell? ⟨gb365, 1, none⟩ = some (.string ((rd_T91 l1 x12_1).f1)) := (blk_cell BK365.out 1).trans rfl
                  have hfz27_0 := blk_frozen BK365.out 0
                  have hfz27_1 := blk_frozen BK365.out 1
                  go_wp2
                  go_roundg kj8
                  case measure => have := HK1.out; have := HJ8.out; omega
                  case rel => exact ⟨(x7_8), (x8_1), (x7_8), (x8_1), (wrap64 (x12_1 + 1)), (x364000_1), (x364001_1), (by first | rfl | (simp; done) | (simp [*]; done)), (by first | rfl | (simp; done) | (simp [*]; done)), (by first | rfl | (simp; done) | (simp [*]; done)), (by first | rfl | (simp; done) | (simp [*]; done)), (by first | rfl | (simp; done) | (simp [*]; done)), H', ⟨by have := HK1.out; have := HJ8.out; omega⟩, ⟨by (with_reducible repeat (first | refine blk_drewN ?_ _ | refine blk_drew ?_ | refine blk_alloc ?_ _)); exact BK363.out⟩, ⟨by repeat (first | (with_reducible first | exact HI0.out | apply IsS80.alloc | apply IsS80.drewN | apply IsS80.drew | apply IsS80.set_0 | apply IsS80.set_1 | apply IsS80.set_2 | apply IsS80.set_3 | apply IsS80.set_4 | apply IsS80.set_5 | apply IsS80.set_6 | refine IsS80.far ?_ NB0_363.out _ | refine IsS80.far ?_ NB0_365.out _) | exact HI0.out)⟩, ⟨by repeat (first | (with_reducible first | exact HK.out | apply KeepBut.set_ | apply keep_drewN | apply keep_drew | apply keep_alloc | refine keep_far ?_ GW363.out _ | refine keep_far ?_ GW365.out _) | exact HK.out)⟩, ⟨by repeat (first | (with_reducible first | exact HB.out | apply below_alloc | apply pw_below_drewN | apply below_drew1 | refine below_set ?_ (IsS80.ge HI0.out) | refine below_set ?_ GE363.out | refine below_set ?_ GE365.out) | exact HB.out)⟩⟩
              · rw [if_neg c18] at H
                have c18b0 : (((rd_T91 l1 x12_1).f0) == (-1)) = false := beq_eq_false_iff_ne.mpr c18
                have c18b1 : (((rd_T91 l1 x12_1).f0) != (-1)) = true := bne_iff_ne.mpr c18
                by_cases c28 : x7_8 > a2
                · rw [if_pos c28] at H
                  have c28b0 : decide (a2 < x7_8) = true := decide_eq_true c28
                  clear c28
                  simp only [Option.some.injEq, Prod.mk.injEq] at H
                  obtain ⟨rfl, rfl, rfl, rfl, rfl, rfl, rfl, rfl⟩ := H
                  have hnb29 := NB365_363.out
                  have hnc29 := NB363_365.out
                  have hnb30 := NB365_0.out
                  have hnc30 := NB0_365.out
                  have hcz31_0 : wc.cell? ⟨gb365, 0, none⟩ = some (.int .i8 ((rd_T91 l1 x12_1).f0)) := (blk_cell BK365.out 0).trans rfl
                  have hcz31_1 : wc.cell? ⟨gb365, 1, none⟩ = some (.string ((rd_T91 l1 x12_1).f1)) := (blk_cell BK365.out 1).trans rfl
                  have hfz31_0 := blk_frozen BK365.out 0
                  have hfz31_1 := blk_frozen BK365.out 1
                  have hnb32 := NB363_0.out
                  have hnc32 := NB0_363.out
                  have hcz33_0 : wc.cell? ⟨gb363, 0, none⟩ = some (.int .i8 x364000_1) := (blk_cell BK363.out 0).trans rfl
                  have hcz33_1 : wc.cell? ⟨gb363, 1, none⟩ = some (.string x364001_1) := (blk_cell BK363.out 1).trans rfl
                  have hfz33_0 := blk_frozen BK363.out 0
                  have hfz33_1 := blk_frozen BK363.out 1
                  go_wp2
                  go_ret
                  exact ⟨by first | rfl | (simp [errW_none, errW_some] <;> rfl) | (simp [*, errW_none, errW_some] <;> rfl), by repeat (first | (with_reducible first | exact HI0.out | apply IsS80.alloc | apply IsS80.drewN | apply IsS80.drew | apply IsS80.set_0 | apply IsS80.set_1 | apply IsS80.set_2 | apply IsS80.set_3 | apply IsS80.set_4 | apply IsS80.set_5 | apply IsS80.set_6 | refine IsS80.far ?_ NB0_363.out _ | refine IsS80.far ?_ NB0_365.out _) | exact HI0.out), by repeat (first | (with_reducible first | exact HB.out | apply below_alloc | apply pw_below_drewN | apply below_drew1 | refine below_set ?_ (IsS80.ge HI0.out) | refine below_set ?_ GE363.out | refine below_set ?_ GE365.out) | exact HB.out), by repeat (first | (with_reducible first | exact HK.out | apply KeepBut.set_ | apply keep_drewN | apply keep_drew | apply keep_alloc | refine keep_far ?_ GW363.out _ | refine keep_far ?_ GW365.out _) | exact HK.out)⟩
                · rw [if_neg c28] at H
                  have c28b0 : decide (a2 < x7_8) = false := decide_eq_false c28
                  clear c28
                  have H' := Aside0.mk H
                  clear H
                  have hnb34 := NB365_363.out
                  have hnc34 := NB363_365.out
                  have hnb35 := NB365_0.out
                  have hnc35 := NB0_365.out
                  have hcz36_0 : wc.cell? ⟨gb365, 0, none⟩ = some (.int .i8 ((rd_T91 l1 x12_1).f0)) := (blk_cell BK365.out 0).trans rfl
                  have hcz36_1 : wc.cell? ⟨gb365, 1, none⟩ = some (.string ((rd_T91 l1 x12_1).f1)) := (blk_cell BK365.out 1).trans rfl
                  have hfz36_0 := blk_frozen BK365.out 0
                  have hfz36_1 := blk_frozen BK365.out 1
                  go_wp2
                  go_roundg kj8
                  case measure => have := HK1.out; have := HJ8.out; omega
                  case rel => exact ⟨(x7_8), (wrap64 (x8_1 + (((rd_T91 l1 x12_1).f1).size : Int))), (x7_8), (wrap64 (x8_1 + (((rd_T91 l1 x12_1).f1).size : Int))), (wrap64 (x12_1 + 1)), (x364000_1), (x364001_1), (by first | rfl | (simp; done) | (simp [*]; done)), (by first | rfl | (simp; done) | (simp [*]; done)), (by first | rfl | (simp; done) | (simp [*]; done)), (by first | rfl | (simp; done) | (simp [*]; done)), (by first | rfl | (simp; done) | (simp [*]; done)), H', ⟨by have := HK1.out; have := HJ8.out; omega⟩, ⟨by (with_reducible repeat (first | refine blk_drewN ?_ _ | refine blk_drew ?_ | refine blk_alloc ?_ _)); exact BK363.out⟩, ⟨by repeat (first | (with_reducible first | exact HI0.out | apply IsS80.alloc | apply IsS80.drewN | apply IsS80.drew | apply IsS80.set_0 | apply IsS80.set_1 | apply IsS80.set_2 | apply IsS80.set_3 | apply IsS80.set_4 | apply IsS80.set_5 | apply IsS80.set_6 | refine IsS80.far ?_ NB0_363.out _ | refine IsS80.far ?_ NB0_365.out _) | exact HI0.out)⟩, ⟨by repeat (first | (with_reducible first | exact HK.out | apply KeepBut.set_ | apply keep_drewN | apply keep_drew | apply keep_alloc | refine keep_far ?_ GW363.out _ | refine keep_far ?_ GW365.out _) | exact HK.out)⟩, ⟨by repeat (first | (with_reducible first | exact HB.out | apply below_alloc | apply pw_below_drewN | apply below_drew1 | refine below_set ?_ (IsS80.ge HI0.out) | refine below_set ?_ GE363.out | refine below_set ?_ GE365.out) | exact HB.out)⟩⟩
        · rw [if_neg c8] at H
          exact absurd H (by simp)
      · rw [if_neg c7] at H
        have c7b0 : decide (x12_1 < (l1.length : Int)) = false := decide_eq_false c7
        clear c7
        by_cases c37 : x364000_1 = (-1)
        · rw [if_pos c37] at H
          have c37b0 : (x364000_1 == (-1)) = true := beq_iff_eq.mpr c37
          have c37b1 : (x364000_1 != (-1)) = false := bne_eq_false_iff_eq.mpr c37
          clear c37
          simp only [Option.some.injEq, Prod.mk.injEq] at H
          obtain ⟨rfl, rfl, rfl, rfl, rfl, rfl, rfl, rfl⟩ := H
          have hnb38 := NB363_0.out
          have hnc38 := NB0_363.out
          have hcz39_0 : wr.cell? ⟨gb363, 0, none⟩ = some (.int .i8 x364000_1) := (blk_cell BK363.out 0).trans rfl
          have hcz39_1 : wr.cell? ⟨gb363, 1, none⟩ = some (.string x364001_1) := (blk_cell BK363.out 1).trans rfl
          have hfz39_0 := blk_frozen BK363.out 0
          have hfz39_1 := blk_frozen BK363.out 1
          go_wp2
          go_ret
          exact ⟨by first | rfl | (simp [errW_none, errW_some] <;> rfl) | (simp [*, errW_none, errW_some] <;> rfl), by repeat (first | (with_reducible first | exact HI0.out | apply IsS80.alloc | apply IsS80.drewN | apply IsS80.drew | apply IsS80.set_0 | apply IsS80.set_1 | apply IsS80.set_2 | apply IsS80.set_3 | apply IsS80.set_4 | apply IsS80.set_5 | apply IsS80.set_6 | refine IsS80.far ?_ NB0_363.out _) | exact HI0.out), by repeat (first | (with_reducible first | exact HB.out | apply below_alloc | apply pw_below_drewN | apply below_drew1 | refine below_set ?_ (IsS80.ge HI0.out) | refine below_set ?_ GE363.out) | exact HB.out), by repeat (first | (with_reducible first | exact HK.out | apply KeepBut.set_ | apply keep_drewN | apply keep_drew | apply keep_alloc | refine keep_far ?_ GW363.out _) | exact HK.out)⟩
        · rw [if_neg c37] at H
          have c37b0 : (x364000_1 == (-1)) = false := beq_eq_false_iff_ne.mpr c37
          have c37b1 : (x364000_1 != (-1)) = true := bne_iff_ne.mpr c37
          simp only [Option.some.injEq, Prod.mk.injEq] at H
          obtain ⟨rfl, rfl, rfl, rfl, rfl, rfl, rfl, rfl⟩ := H
          have hnb40 := NB363_0.out
          have hnc40 := NB0_363.out
          have hcz41_0 : wr.cell? ⟨gb363, 0, none⟩ = some (.int .i8 x364000_1) := (blk_cell BK363.out 0).trans rfl
          have hcz41_1 : wr.cell? ⟨gb363, 1, none⟩ = some (.string x364001_1) := (blk_cell BK363.out 1).trans rfl
          have hfz41_0 := blk_frozen BK363.out 0
          have hfz41_1 := blk_frozen BK363.out 1
          go_wp2
          go_ret
          exact ⟨by first | rfl | (simp [errW_none, errW_some] <;> rfl) | (simp [*, errW_none, errW_some] <;> rfl), by repeat (first | (with_reducible first | exact HI0.out | apply IsS80.alloc | apply IsS80.drewN | apply IsS80.drew | apply IsS80.set_0 | apply IsS80.set_1 | apply IsS80.set_2 | apply IsS80.set_3 | apply IsS80.set_4 | apply IsS80.set_5 | apply IsS80.set_6 | refine IsS80.far ?_ NB0_363.out _) | exact HI0.out), by repeat (first | (with_reducible first | exact HB.out | apply below_alloc | apply pw_below_drewN | apply below_drew1 | refine below_set ?_ (IsS80.ge HI0.out) | refine below_set ?_ GE363.out) | exact HB.out), by repeat (first | (with_reducible first | exact HK.out | apply KeepBut.set_ | apply keep_drewN | apply keep_drew | apply keep_alloc | refine keep_far ?_ GW363.out _) | exact HK.out)⟩

end Go.Proofs.Ytomidomdomjkfaa.PT
