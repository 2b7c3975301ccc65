-- Written by this session's own program (wip/tools) out of the translation.
import Derived.Test.YtomidomdomjkfaaPTx0
import Derived.Test.YtomidomdomjkfaaPTx68
namespace Go.Proofs.Ytomidomdomjkfaa.PT
open Go.RowKit Go.Proofs.YtomidomdomjkfaaW.PrintWords Go.Proofs.YtomidomdomjkfaaW.PrintLast Go.Proofs.YtomidomdomjkfaaW.PrintMore
attribute [local go_sem] max2_int min2_int max_two min_two max_three min_three max_four min_four   -- for this text's walks alone
set_option linter.unusedVariables false
set_option linter.unusedSimpArgs false

/-! ### impl_made: function 61 -/
def impl_made.l0 : Nat → List (S91) → List (S57) → Int → Int → Option ((List (S91)))
  | 0, _, _, _, _ => none
  | k + 1, x3, x6, x7, x8 => if x8 < x7 then (if 0 ≤ x8 then (if x8 < (x6.length : Int) then ((impl_operation.f ((rd_T57 x6 x8).f0)).bind fun t368 => (if x3.length < 5864062014805 then (impl_made.l0 k (x3 ++ [(⟨t368, (rd_T57 x6 x8).f1⟩ : S91)]) x6 x7 (wrap64 (x8 + 1))) else (none))) else (none)) else (none)) else (some x3)
def impl_made.f (k : Nat) (l0 : List (S57)) : Option ((List (S91))) := impl_made.l0 k ([] : List (S91)) l0 (l0.length : Int) 0
theorem impl_made.mono_l : ∀ k, (∀ y0 y1 y2 y3, LeO (impl_made.l0 k y0 y1 y2 y3) (impl_made.l0 (k + 1) y0 y1 y2 y3))
  | 0 => fun _ _ _ _ r h => by simp [impl_made.l0] at h
  | k + 1 => by
    have ih0 := impl_made.mono_l k
    · intro y0 y1 y2 y3
      unfold impl_made.l0
      repeat' first
      | (with_reducible exact ih0 _ _ _ _)
      | (with_reducible exact LeO.refl _)
      | (with_reducible exact LeO.none _)
      | (with_reducible refine LeO.ite ?_ ?_)
      | (with_reducible refine LeO.bind ?_ (fun _ => ?_))
      | exact ih0 _ _ _ _
      | exact LeO.none _
      | refine LeO.ite ?_ ?_
      | refine LeO.bind ?_ (fun _ => ?_)
theorem impl_made.mono : ∀ a0 k, LeO (impl_made.f k a0) (impl_made.f (k + 1) a0) := by
  intro a0 k
  have ih0 := impl_made.mono_l k
  unfold impl_made.f
  repeat' first
      | (with_reducible exact ih0 _ _ _ _)
      | (with_reducible exact LeO.refl _)
      | (with_reducible exact LeO.none _)
      | (with_reducible refine LeO.ite ?_ ?_)
      | (with_reducible refine LeO.bind ?_ (fun _ => ?_))
      | exact ih0 _ _ _ _
      | exact LeO.none _
      | refine LeO.ite ?_ ?_
      | refine LeO.bind ?_ (fun _ => ?_)
def impl_made.T5 : Bool × List (List Nat × List Nat) := (true, [([], []), ([], []), ([1], [1]), ([2], [2]), ([], []), ([4], [4]), ([3, 5], [3, 5]), ([6], [6]), ([0, 7, 3], [0, 7]), ([8, 8, 0, 1, 2, 3, 4, 5, 6, 7, 8], [0, 8])])
def impl_made.B5 : List Nat := [0, 0, 2, 6, 0, 16, 62, 126, 255, 511]
theorem impl_made.tab5 : rtab .any (opsOf Try.f61 5) = impl_made.T5 := by kernel_rfl
theorem impl_made.bits5 : waitsOk impl_made.T5.2 impl_made.B5 = true := by kernel_rfl
set_option maxHeartbeats 8000000 in
set_option maxRecDepth 100000 in
theorem impl_made.calls (k : Nat) (A0 : Option Addr) (c0 : Nat) (l0 : List (S57)) (r : List (S91)) (w : World) (hr0 : Kd.C k57 w A0 l0.length l0) (hc0 : l0.length ≤ c0) (h : impl_made.f k l0 = some r) :
    Calls Try.prog 61 #[.slice A0 l0.length c0] w fun e w' => ∃ v0_ : Value, e = .returned (v0_) ∧ Kd.R k91 91 w' w.heap.size (fun _ => True) v0_ r ∧ Below w.heap.size w w' := by
  have hu57 := Try.underlying57
  have hu91 := Try.underlying91
  have HR0 := Aside0.mk hr0
  have HC0 := Aside0.mk hc0
  clear hr0 hc0
  have HB := Aside0.mk (Below.refl w.heap.size w)
  have H : (impl_made.l0 k ([] : List (S91)) l0 (l0.length : Int) 0) = some r := h
  clear h
  have H' := Aside0.mk H
  clear H
  go_enter Try.func61, Try.ntmps61
  go_wp2
  go_loopg [3, 8] k (fun kq v3 v8 w' => ∃ (x3_1 : List (S91)) (x8_1 : Int), v8 = .int .i64 x8_1 ∧ Aside0 (impl_made.l0 kq x3_1 l0 (l0.length : Int) x8_1 = some r) ∧ Aside0 (kq ≤ k) ∧ Aside0 (Kd.R k91 91 w' w.heap.size (fun _ => True) v3 x3_1) ∧ Aside0 (Below w.heap.size w w'))
  case atStart => exact ⟨(([] : List (S91))), (0), (by first | rfl | (simp; done) | (simp [*]; done)), H', ⟨Nat.le_refl _⟩, ⟨by first | exact Kd.R_nil _ _ _ _ _ | exact Kd.N_nil _ _ _ _ _ | exact Kd.V_nil _ _ _ _ _ | exact Kd.Q_nil _ _ _ _ _ | exact Kd.S_nil _ _ _ _ _⟩, ⟨by repeat (first | (with_reducible first | exact HB.out | apply below_alloc | apply pw_below_drewN | apply below_drew1) | exact HB.out)⟩⟩
  case round =>
    clear H'
    obtain ⟨x3_1, x8_1, rfl, HA, HK1, HO_3, HB⟩ := hrel
    cases gk with
    | zero => exact absurd HA.out (by simp [impl_made.l0])
    | succ k1 =>
      have H := HA.out
      clear HA
      simp only [impl_made.l0] at H
      by_cases c2 : x8_1 < (l0.length : Int)
      · rw [if_pos c2] at H
        have c2b0 : decide (x8_1 < (l0.length : Int)) = true := decide_eq_true c2
        clear c2
        by_cases c3 : 0 ≤ x8_1
        · rw [if_pos c3] at H
          have c3b0 : decide (0 ≤ x8_1) = true := decide_eq_true c3
          clear c3
          by_cases c4 : x8_1 < (l0.length : Int)
          · rw [if_pos c4] at H
            have c4b0 : decide (x8_1 < (l0.length : Int)) = true := decide_eq_true c4
            clear c4
            replace H := Option.bind_eq_some_iff.mp H
            obtain ⟨t368, A50, H⟩ := H
            replace H : (if x3_1.length < 5864062014805 then (impl_made.l0 k1 (x3_1 ++ [(⟨t368, (rd_T57 l0 x8_1).f1⟩ : S91)]) l0 (l0.length : Int) (wrap64 (x8_1 + 1))) else (none)) = some r := H
            have A5 := Aside0.mk A50
            clear A50
            by_cases c6 : x3_1.length < 5864062014805
            · rw [if_pos c6] at H
              have LMc6 := Aside0.mk c6
              clear c6
              obtain ⟨y369, hy369⟩ : ∃ y_ : List (S91), y_ = (x3_1 ++ [(⟨t368, (rd_T57 l0 x8_1).f1⟩ : S91)]) := ⟨_, rfl⟩
              replace H : (impl_made.l0 k1 y369 l0 (l0.length : Int) (wrap64 (x8_1 + 1))) = some r := by first | (rw [hy369]; with_reducible exact H) | (have H2_ := (Option.bind_some _ _).symm.trans H; rw [hy369]; with_reducible exact H2_) | (have H2_ := (Option.bind_some _ _).symm.trans H; with_reducible exact H2_) | with_reducible exact H | (rw [hy369]; exact H) | exact H
              have Ny369 := Aside0.mk hy369
              clear hy369
              have H' := Aside0.mk H
              clear H
              have p366 : 0 ≤ (x8_1 : Int) := of_decide_eq_true (by first | (with_reducible assumption) | assumption)
              have q366 : x8_1 < (l0.length : Int) := of_decide_eq_true (by first | (with_reducible assumption) | assumption)
              obtain ⟨ad366, e366, hx366_0, hx366_1⟩ := at_T57 HR0.out x8_1 p366 q366
              cases e366
              replace hx366_0 := (HB.out.cell (World.block_lt_of_cell? w _ hx366_0)).trans hx366_0
              replace hx366_1 := (HB.out.cell (World.block_lt_of_cell? w _ hx366_1)).trans hx366_1
              replace p366 := eq_true p366
              replace q366 := eq_true q366
              try go_wp2_with (first | ((with_reducible refine gate_dst (N := 5) rfl ?_); refine box_event ?hg (N := 5) ?hd (cs := #[.int .i64 0, .string (⟨#[]⟩ : ByteArray)]) (t := 57) ?hr ?_; (case hd => rfl); (case hg => rfl); (case hr => first | (go_simp; done) | (go_simp; rfl)); intro gb367 hg w7 hbox hb; have n0_ := Aside0.mk (Kd.R_below (by (with_reducible repeat (first | apply Kd.R_alloc | apply Kd.R_drewN | apply Kd.R_drew)); exact HO_3.out) hb); have n1_ := Aside0.mk (below_step (by repeat (first | (with_reducible first | exact HB.out | apply below_alloc | apply pw_below_drewN | apply below_drew1) | exact HB.out)) hb); have n2_ := Aside0.mk (hbox); have n3_ := Aside0.mk ((by rw [hg]; exact (below_size (by repeat (first | (with_reducible first | exact HB.out | apply below_alloc | apply pw_below_drewN | apply below_drew1) | exact HB.out))) : w.heap.size ≤ gb367)); have n4_ := Aside0.mk ((by rw [hg]; exact (below_size (by repeat (first | (with_reducible first | exact HB.out | apply below_alloc | apply pw_below_drewN | apply below_drew1) | exact HB.out))) : w.heap.size ≤ gb367)); clear HO_3; clear HB; have HO_3 := n0_; have HB := n1_; have BK367 := n2_; have GW367 := n3_; have GE367 := n4_; clear n0_ n1_ n2_ n3_ n4_; clear hb hbox hg; have hcz8_0 : w7.cell? ⟨gb367, 0, none⟩ = some (.int .i64 0) := (blk_cell BK367.out 0).trans rfl; have hcz8_1 : w7.cell? ⟨gb367, 1, none⟩ = some (.string (⟨#[]⟩ : ByteArray)) := (blk_cell BK367.out 1).trans rfl; have hfz8_0 := blk_frozen BK367.out 0; have hfz8_1 := blk_frozen BK367.out 1))
              have n0_ : Aside0 (Kd.R k91 91 ((w7.setCell ⟨gb367, 0, none⟩ (.int .i64 ((rd_T57 l0 x8_1).f0))).setCell ⟨gb367, 1, none⟩ (.string ((rd_T57 l0 x8_1).f1))) w.heap.size (fun _ => True) u3 x3_1) := ⟨by (with_reducible repeat (first | apply Kd.R_alloc | apply Kd.R_drewN | apply Kd.R_drew)); exact Kd.R_mono (Kd.R_far (p := ⟨gb367, 1, none⟩) (Kd.R_far (p := ⟨gb367, 0, none⟩) (Kd.R_types HO_3.out BK367.out (by decide)) (fun _ hk => hk.2) (.int .i64 ((rd_T57 l0 x8_1).f0))) (fun _ hk => hk.2) (.string ((rd_T57 l0 x8_1).f1))) (fun _ hk => trivial)⟩
              have n1_ : Aside0 (((w7.setCell ⟨gb367, 0, none⟩ (.int .i64 ((rd_T57 l0 x8_1).f0))).setCell ⟨gb367, 1, none⟩ (.string ((rd_T57 l0 x8_1).f1))).heap[gb367]? = some (.cells #[.int .i64 ((rd_T57 l0 x8_1).f0), .string ((rd_T57 l0 x8_1).f1)] 57 (0, 0))) := ⟨by (with_reducible repeat (first | refine blk_drewN ?_ _ | refine blk_drew ?_ | refine blk_alloc ?_ _)); refine blk_put (cs := #[.int .i64 ((rd_T57 l0 x8_1).f0), .string (⟨#[]⟩ : ByteArray)]) ?_ 1 _ rfl; (with_reducible repeat (first | refine blk_drewN ?_ _ | refine blk_drew ?_ | refine blk_alloc ?_ _)); refine blk_put (cs := #[.int .i64 0, .string (⟨#[]⟩ : ByteArray)]) ?_ 0 _ rfl; (with_reducible repeat (first | refine blk_drewN ?_ _ | refine blk_drew ?_ | refine blk_alloc ?_ _)); exact BK367.out⟩
              have n2_ : Aside0 (Below w.heap.size w ((w7.setCell ⟨gb367, 0, none⟩ (.int .i64 ((rd_T57 l0 x8_1).f0))).setCell ⟨gb367, 1, none⟩ (.string ((rd_T57 l0 x8_1).f1)))) := ⟨by repeat (first | (with_reducible first | exact HB.out | apply below_alloc | apply pw_below_drewN | apply below_drew1 | refine below_set ?_ GE367.out) | exact HB.out)⟩
              (try clear HO_3)
              (try clear BK367)
              (try clear HB)
              generalize ((w7.setCell ⟨gb367, 0, none⟩ (.int .i64 ((rd_T57 l0 x8_1).f0))).setCell ⟨gb367, 1, none⟩ (.string ((rd_T57 l0 x8_1).f1))) = w9 at n0_ n1_ n2_ ⊢
              have HO_3 := n0_
              have BK367 := n1_
              have HB := n2_
              clear n0_ n1_ n2_
              have n0_ := Aside0.mk (Kd.R_drew HO_3.out)
              have n1_ := Aside0.mk (blk_drew BK367.out)
              have n2_ := Aside0.mk (below_drew1 HB.out)
              clear HO_3
              clear BK367
              clear HB
              have HO_3 := n0_
              have BK367 := n1_
              have HB := n2_
              clear n0_ n1_ n2_
              refine start_ (n := 10) (S := fun w' => w'.cell? ⟨gb367, 0, none⟩ = some (.int .i64 ((rd_T57 l0 x8_1).f0)) ∧ w'.cell? ⟨gb367, 1, none⟩ = some (.string ((rd_T57 l0 x8_1).f1))) (ds := []) #[false, false, false, false, false, false, false, false, false, false] (by kernel_rfl) rfl rfl ⟨(blk_cell BK367.out 0).trans rfl, (blk_cell BK367.out 1).trans rfl⟩ (fun hHeld => ?_); refine with_tabW impl_made.tab5 impl_made.bits5 (fun HT_ HW_ => ?_)
              generalize w9.drew = w10 at HO_3 BK367 HB hHeld ⊢
              refine pure_ (i := 0) (N := some 12) (v := ?_) (a' := ?_) #[true, false, false, false, false, false, false, false, false, false] rfl rfl (any_of HT_.out (by kernel_rfl)) (fun _ _ _ h => h) (Or.inl ⟨by rfl, ?_⟩) ?_ ?_
              rotate_left
              · intro w'
                go_simp
                with_reducible rfl
              rotate_left
              · simp only [Act.put, List.setIfInBounds_toArray, List.set_cons_zero, List.set_cons_succ, i64_w, i32_w]
                rfl
              refine pure_ (i := 1) (N := some 13) (v := ?_) (a' := ?_) #[true, true, false, false, false, false, false, false, false, false] rfl rfl (any_of HT_.out (by kernel_rfl)) (fun _ _ _ h => h) (Or.inl ⟨by rfl, ?_⟩) ?_ ?_
              rotate_left
              · intro w'
                go_simp
                with_reducible rfl
              rotate_left
              · simp only [Act.put, List.setIfInBounds_toArray, List.set_cons_zero, List.set_cons_succ, i64_w, i32_w]
                rfl
              refine pure_ (i := 4) (N := some 16) (v := ?_) (a' := ?_) #[true, true, false, false, true, false, false, false, false, false] rfl rfl (any_of HT_.out (by kernel_rfl)) (fun _ _ _ h => h) (Or.inl ⟨by rfl, ?_⟩) ?_ ?_
              rotate_left
              · intro w'
                go_simp
                with_reducible rfl
              rotate_left
              · simp only [Act.put, List.setIfInBounds_toArray, List.set_cons_zero, List.set_cons_succ, i64_w, i32_w]
                rfl
              refine take_ (i := 2) (N := some 14) (v := ?_) (a' := ?_) #[true, true, true, false, true, false, false, false, false, false] rfl rfl (take_ofW HT_.out HW_.out (by kernel_rfl)) (fun _ _ _ h => h) (Or.inl ⟨by rfl, ?_⟩) hHeld ?_ ?_
              rotate_left
              · rintro w' ⟨s0, s1⟩
                go_simp
                with_reducible rfl
              rotate_left
              · simp only [Act.put, List.setIfInBounds_toArray, List.set_cons_zero, List.set_cons_succ, i64_w, i32_w]
                rfl
              refine take_ (i := 5) (N := some 17) (v := ?_) (a' := ?_) #[true, true, true, false, true, true, false, false, false, false] rfl rfl (take_ofW HT_.out HW_.out (by kernel_rfl)) (fun _ _ _ h => h) (Or.inl ⟨by rfl, ?_⟩) hHeld ?_ ?_
              rotate_left
              · rintro w' ⟨s0, s1⟩
                go_simp
                with_reducible rfl
              rotate_left
              · simp only [Act.put, List.setIfInBounds_toArray, List.set_cons_zero, List.set_cons_succ, i64_w, i32_w]
                rfl
              refine one_ (i := 3) (N := some 15) #[true, true, true, true, true, true, false, false, false, false] rfl rfl (one_of HT_.out (by kernel_rfl)) (by decide) (fun K hK => ?_)
              refine goes_ Try.func76 (by kernel_rfl) rfl #[.int .i64 ((rd_T57 l0 x8_1).f0)] (by rfl) rfl rfl (by (try simp only [List.map_toArray, List.map_cons, List.map_nil]); first | done | rfl | (simp only [List.length_drop, List.length_take]; rfl)) ?_
              with_reducible refine (impl_operation.calls ((rd_T57 l0 x8_1).f0) t368 _ A5.out).mono ?_
              rintro e w' ⟨rfl, ⟨nd, rfl⟩⟩
              refine ⟨_, rfl, ?_⟩
              refine hK.out _ _ ⟨(blk_cell BK367.out 0).trans rfl, (blk_cell BK367.out 1).trans rfl⟩ (fun hHeld => ?_)
              clear hK K
              refine norm_ (a' := ?_) ?_ ?_
              rotate_left
              · show Act.put _ (some 15) _ = _
                simp only [Act.put, List.setIfInBounds_toArray, List.set_cons_zero, List.set_cons_succ, i64_w, i32_w]
                rfl
              refine pure_ (i := 6) (N := some 18) (v := ?_) (a' := ?_) #[true, true, true, true, true, true, true, false, false, false] rfl rfl (any_of HT_.out (by kernel_rfl)) (fun _ _ _ h => h) (Or.inl ⟨by rfl, ?_⟩) ?_ ?_
              rotate_left
              · intro w'
                go_simp
                with_reducible rfl
              rotate_left
              · simp only [Act.put, List.setIfInBounds_toArray, List.set_cons_zero, List.set_cons_succ, i64_w, i32_w]
                rfl
              refine one_ (i := 7) (N := some 19) #[true, true, true, true, true, true, true, true, false, false] rfl rfl (one_of HT_.out (by kernel_rfl)) (by decide) (fun K hK => ?_)
              refine value_ (w1 := ?_) (v := ?_) (by rfl) rfl ?_ ?_
              rotate_left 2
              · go_simp
                constructor
                · rfl
                · rfl
              refine hK.out _ _ ⟨(blk_cell (blk_alloc BK367.out _) 0).trans rfl, (blk_cell (blk_alloc BK367.out _) 1).trans rfl⟩ (fun hHeld => ?_)
              clear hK K
              refine norm_ (a' := ?_) ?_ ?_
              rotate_left
              · show Act.put _ (some 19) _ = _
                simp only [Act.put, List.setIfInBounds_toArray, List.set_cons_zero, List.set_cons_succ, i64_w, i32_w]
                rfl
              refine one_ (i := 8) (N := some 20) #[true, true, true, true, true, true, true, true, true, false] rfl rfl (one_of HT_.out (by kernel_rfl)) (by decide) (fun K hK => ?_)
              refine Kd.R_append_step k91 (w0 := w) w.heap.size (by rfl) (.tmp 12) (.tmp 19) 74 91 (.agg #[(.int .i8 0), (.string ⟨#[]⟩)]) 24 rfl Try.underlying74 info91 rfl (by decide) (by omega) u3 x3_1 (⟨t368, (rd_T57 l0 x8_1).f1⟩ : S91) [.int .i8 t368, .string ((rd_T57 l0 x8_1).f1)] (fun _ => True) (fun _ => False) rfl rfl ?aP (fun _ hk => hk.elim) ?aF ?aO ?aB ?aS ?aL ?_
              (case aP => exact k91_mkM _ _ _ (⟨t368, (rd_T57 l0 x8_1).f1⟩ : S91))
              (case aB => exact (by repeat (first | (with_reducible first | exact HB.out | apply below_alloc | apply pw_below_drewN | apply below_drew1 | refine below_set ?_ GE367.out) | exact HB.out)))
              (case aF => exact (fun _ _ => trivial))
              (case aO => exact (by (with_reducible repeat (first | apply Kd.R_alloc | apply Kd.R_drewN | apply Kd.R_drew)); exact HO_3.out))
              (case aS => exact (below_size (by repeat (first | (with_reducible first | exact HB.out | apply below_alloc | apply pw_below_drewN | apply below_drew1 | refine below_set ?_ GE367.out) | exact HB.out))))
              (case aL => have := LMc6.out; omega)
              intro v370 w11 ho hb hg hat
              rw [← Ny369.out] at ho
              have n0_ := Aside0.mk (blk_grown (g := gb367) (o := .cells #[.int .i64 ((rd_T57 l0 x8_1).f0), .string ((rd_T57 l0 x8_1).f1)] 57 (0, 0)) (by (with_reducible repeat (first | refine blk_drewN ?_ _ | refine blk_drew ?_ | refine blk_alloc ?_ _)); exact BK367.out) hg (Kd.R_ne HO_3.out BK367.out (by decide)))
              have n1_ := Aside0.mk (hb)
              have n2_ := Aside0.mk (ho)
              clear BK367
              clear HB
              clear HO_3
              have BK367 := n0_
              have HB := n1_
              have HO371 := n2_
              clear n0_ n1_ n2_
              clear ho hb hg hat
              refine hK.out _ _ ⟨(blk_cell BK367.out 0).trans rfl, (blk_cell BK367.out 1).trans rfl⟩ (fun hHeld => ?_)
              clear hK K
              refine norm_ (a' := ?_) ?_ ?_
              rotate_left
              · show Act.put _ (some 20) _ = _
                simp only [Act.put, List.setIfInBounds_toArray, List.set_cons_zero, List.set_cons_succ, i64_w, i32_w]
                rfl
              refine pure_ (i := 9) (N := some 3) (v := ?_) (a' := ?_) #[true, true, true, true, true, true, true, true, true, true] rfl rfl (any_of HT_.out (by kernel_rfl)) (fun _ _ _ h => h) (Or.inl ⟨by rfl, ?_⟩) ?_ ?_
              rotate_left
              · intro w'
                go_simp
                with_reducible rfl
              rotate_left
              · simp only [Act.put, List.setIfInBounds_toArray, List.set_cons_zero, List.set_cons_succ, i64_w, i32_w]
                rfl
              refine done_ (done_of HT_.out (by kernel_rfl)) ?_
              try go_wp2
              go_roundg k1
              case measure => have := HK1.out; omega
              case rel => exact ⟨(y369), (wrap64 (x8_1 + 1)), (by first | rfl | (simp; done) | (simp [*]; done)), H', ⟨by have := HK1.out; omega⟩, ⟨by (with_reducible repeat (first | apply Kd.R_alloc | apply Kd.R_drewN | apply Kd.R_drew)); exact HO371.out⟩, ⟨by repeat (first | (with_reducible first | exact HB.out | apply below_alloc | apply pw_below_drewN | apply below_drew1 | refine below_set ?_ GE367.out) | exact HB.out)⟩⟩
            · rw [if_neg c6] at H
              exact absurd H (by simp)
          · rw [if_neg c4] at H
            exact absurd H (by simp)
        · rw [if_neg c3] at H
          exact absurd H (by simp)
      · rw [if_neg c2] at H
        have c2b0 : decide (x8_1 < (l0.length : Int)) = false := decide_eq_false c2
        clear c2
        obtain rfl := Option.some.inj H
        go_wp2
        go_ret
        exact ⟨_, by first | rfl | (simp [errW_none, errW_some] <;> rfl) | (simp [*, errW_none, errW_some] <;> rfl), by (with_reducible repeat (first | apply Kd.R_alloc | apply Kd.R_drewN | apply Kd.R_drew)); exact HO_3.out, by repeat (first | (with_reducible first | exact HB.out | apply below_alloc | apply pw_below_drewN | apply below_drew1) | exact HB.out)⟩

end Go.Proofs.Ytomidomdomjkfaa.PT
