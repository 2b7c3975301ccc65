-- Written by this session's own program (wip/tools) out of the translation.
import Derived.Test.YtomidomdomjkfaaPTx0
import Derived.Test.YtomidomdomjkfaaPTx9
namespace Go.Proofs.Ytomidomdomjkfaa.PT
open Go.RowKit Go.Proofs.YtomidomdomjkfaaW.PrintWords Go.Proofs.YtomidomdomjkfaaW.PrintLast Go.Proofs.YtomidomdomjkfaaW.PrintMore
attribute [local go_sem] max2_int min2_int max_two min_two max_three min_three max_four min_four   -- for this text's walks alone
set_option linter.unusedVariables false
set_option linter.unusedSimpArgs false

/-! ### spec_Parted: function 35 -/
mutual
def spec_Parted.l0 : Nat → List (S57) → Int → List (S57) → Int → Option ((List (S57)))
  | 0, _, _, _, _ => none
  | k + 1, x0, x1, x5, x6 => if x6 < (x0.length : Int) then (spec_Parted.j1 k x0 x1 x5 x6 (decide (x6 < x1))) else (spec_Parted.j1 k x0 x1 x5 x6 false)
def spec_Parted.j1 : Nat → List (S57) → Int → List (S57) → Int → Bool → Option ((List (S57)))
  | 0, _, _, _, _, _ => none
  | k + 1, x0, x1, x5, x6, x16 => if x16 = true then (if 0 ≤ x6 then (if x6 < (x0.length : Int) then (if (Int.tmod ((rd_T57 x0 x6).f0) 3) = 2 then ((spec_Clean.f ((rd_T57 x0 x6).f1) 30).bind fun t347 => (if x5.length < 5864062014805 then (spec_Parted.l0 k x0 x1 (x5 ++ [(⟨wrap64 (Int.tdiv (wrap64 (-(Int.tmod ((rd_T57 x0 x6).f0) 3))) 2), t347⟩ : S57)]) (wrap64 (x6 + 1))) else (none))) else (if (Int.tmod ((rd_T57 x0 x6).f0) 3) = (-2) then ((spec_Clean.f ((rd_T57 x0 x6).f1) 30).bind fun t352 => (if x5.length < 5864062014805 then (spec_Parted.l0 k x0 x1 (x5 ++ [(⟨wrap64 (Int.tdiv (wrap64 (-(Int.tmod ((rd_T57 x0 x6).f0) 3))) 2), t352⟩ : S57)]) (wrap64 (x6 + 1))) else (none))) else ((spec_Clean.f ((rd_T57 x0 x6).f1) 30).bind fun t357 => (if x5.length < 5864062014805 then (spec_Parted.l0 k x0 x1 (x5 ++ [(⟨Int.tmod ((rd_T57 x0 x6).f0) 3, t357⟩ : S57)]) (wrap64 (x6 + 1))) else (none))))) else (none)) else (none)) else (some x5)
end
def spec_Parted.f (k : Nat) (l0 : List (S57)) (a1 : Int) : Option ((List (S57))) := spec_Parted.l0 k l0 a1 ([] : List (S57)) 0
theorem spec_Parted.mono_l : ∀ k, (∀ y0 y1 y2 y3, LeO (spec_Parted.l0 k y0 y1 y2 y3) (spec_Parted.l0 (k + 1) y0 y1 y2 y3)) ∧ (∀ y0 y1 y2 y3 y4, LeO (spec_Parted.j1 k y0 y1 y2 y3 y4) (spec_Parted.j1 (k + 1) y0 y1 y2 y3 y4))
  | 0 => ⟨fun _ _ _ _ r h => by simp [spec_Parted.l0] at h, fun _ _ _ _ _ r h => by simp [spec_Parted.j1] at h⟩
  | k + 1 => by
    obtain ⟨ih0, ih1⟩ := spec_Parted.mono_l k
    refine ⟨?_, ?_⟩
    · intro y0 y1 y2 y3
      unfold spec_Parted.l0
      repeat' first
      | (with_reducible exact ih0 _ _ _ _)
      | (with_reducible exact ih1 _ _ _ _ _)
      | (with_reducible exact LeO.refl _)
      | (with_reducible exact LeO.none _)
      | (with_reducible refine LeO.ite ?_ ?_)
      | (with_reducible refine LeO.bind ?_ (fun _ => ?_))
      | exact ih0 _ _ _ _
      | exact ih1 _ _ _ _ _
      | exact LeO.none _
      | refine LeO.ite ?_ ?_
      | refine LeO.bind ?_ (fun _ => ?_)
    · intro y0 y1 y2 y3 y4
      unfold spec_Parted.j1
      repeat' first
      | (with_reducible exact ih0 _ _ _ _)
      | (with_reducible exact ih1 _ _ _ _ _)
      | (with_reducible exact LeO.refl _)
      | (with_reducible exact LeO.none _)
      | (with_reducible refine LeO.ite ?_ ?_)
      | (with_reducible refine LeO.bind ?_ (fun _ => ?_))
      | exact ih0 _ _ _ _
      | exact ih1 _ _ _ _ _
      | exact LeO.none _
      | refine LeO.ite ?_ ?_
      | refine LeO.bind ?_ (fun _ => ?_)
theorem spec_Parted.mono : ∀ a0 a1 k, LeO (spec_Parted.f k a0 a1) (spec_Parted.f (k + 1) a0 a1) := by
  intro a0 a1 k
  obtain ⟨ih0, ih1⟩ := spec_Parted.mono_l k
  unfold spec_Parted.f
  repeat' first
      | (with_reducible exact ih0 _ _ _ _)
      | (with_reducible exact ih1 _ _ _ _ _)
      | (with_reducible exact LeO.refl _)
      | (with_reducible exact LeO.none _)
      | (with_reducible refine LeO.ite ?_ ?_)
      | (with_reducible refine LeO.bind ?_ (fun _ => ?_))
      | exact ih0 _ _ _ _
      | exact ih1 _ _ _ _ _
      | exact LeO.none _
      | refine LeO.ite ?_ ?_
      | refine LeO.bind ?_ (fun _ => ?_)
set_option maxHeartbeats 8000000 in
set_option maxRecDepth 100000 in
theorem spec_Parted.calls (k : Nat) (A0 : Option Addr) (c0 : Nat) (l0 : List (S57)) (a1 : Int) (r : List (S57)) (w : World) (hr0 : Kd.C k57 w A0 l0.length l0) (hc0 : l0.length ≤ c0) (h : spec_Parted.f k l0 a1 = some r) :
    Calls Try.prog 35 #[.slice A0 l0.length c0, .int .i64 a1] w fun e w' => ∃ v0_ : Value, e = .returned (v0_) ∧ Kd.R k57 57 w' w.heap.size (fun _ => True) v0_ r ∧ Below w.heap.size w w' := by
  have hu57 := Try.underlying57
  have HR0 := Aside0.mk hr0
  have HC0 := Aside0.mk hc0
  clear hr0 hc0
  have HB := Aside0.mk (Below.refl w.heap.size w)
  have H : (spec_Parted.l0 k l0 a1 ([] : List (S57)) 0) = some r := h
  clear h
  have H' := Aside0.mk H
  clear H
  go_enter Try.func35, Try.ntmps35
  go_wp2
  go_loopg [5, 6] k (fun kq v5 v6 w' => ∃ (x5_1 : List (S57)) (x6_1 : Int), v6 = .int .i64 x6_1 ∧ Aside0 (spec_Parted.l0 kq l0 a1 x5_1 x6_1 = some r) ∧ Aside0 (kq ≤ k) ∧ Aside0 (Kd.R k57 57 w' w.heap.size (fun _ => True) v5 x5_1) ∧ Aside0 (Below w.heap.size w w'))
  case atStart => exact ⟨(([] : List (S57))), (0), (by first | rfl | (simp; done) | (simp [*]; done)), H', ⟨Nat.le_refl _⟩, ⟨by first | exact Kd.R_nil _ _ _ _ _ | exact Kd.N_nil _ _ _ _ _ | exact Kd.V_nil _ _ _ _ _ | exact Kd.Q_nil _ _ _ _ _ | exact Kd.S_nil _ _ _ _ _⟩, ⟨by repeat (first | (with_reducible first | exact HB.out | apply below_alloc | apply pw_below_drewN | apply below_drew1) | exact HB.out)⟩⟩
  case round =>
    clear H'
    try clear p2
    obtain ⟨x5_1, x6_1, rfl, HA, HK1, HO_5, HB⟩ := hrel
    cases gk with
    | zero => exact absurd HA.out (by simp [spec_Parted.l0])
    | succ k1 =>
      have H := HA.out
      clear HA
      simp only [spec_Parted.l0] at H
      have HC3 := Aside0.mk H
      clear H
      go_upto_region 3 with (fail)
      go_cut [16] (fun v16 wc => ∃ (kq : Nat) (x16_2 : Bool), v16 = .bool x16_2 ∧ Aside0 (spec_Parted.j1 kq l0 a1 x5_1 x6_1 x16_2 = some r) ∧ Aside0 (kq ≤ k1) ∧ Aside0 (Kd.R k57 57 wc w.heap.size (fun _ => True) u5 x5_1) ∧ Aside0 (Below w.heap.size w wc))
      case first =>
        have H := HC3.out
        clear HC3
        by_cases c4 : x6_1 < (l0.length : Int)
        · rw [if_pos c4] at H
          have c4b0 : decide (x6_1 < (l0.length : Int)) = true := decide_eq_true c4
          clear c4
          (first | rw [c4b0] | (simp only [i64_w, i32_w]; rw [c4b0]) | rw [c4b2] | skip)
          have H' := Aside0.mk H
          clear H
          go_wp2
          go_meet
          case rel => exact ⟨_, (decide (x6_1 < a1)), (by first | rfl | (simp; done) | (simp [*]; done)), H', ⟨by have := HK1.out; first | omega | exact Nat.le_refl _⟩, ⟨by (with_reducible repeat (first | apply Kd.R_alloc | apply Kd.R_drewN | apply Kd.R_drew)); exact HO_5.out⟩, ⟨by repeat (first | (with_reducible first | exact HB.out | apply below_alloc | apply pw_below_drewN | apply below_drew1) | exact HB.out)⟩⟩
        · rw [if_neg c4] at H
          have c4b0 : decide (x6_1 < (l0.length : Int)) = false := decide_eq_false c4
          clear c4
          (first | rw [c4b0] | (simp only [i64_w, i32_w]; rw [c4b0]) | rw [c4b2] | skip)
          have H' := Aside0.mk H
          clear H
          go_wp2
          go_meet
          case rel => exact ⟨_, (false), (by first | rfl | (simp; done) | (simp [*]; done)), H', ⟨by have := HK1.out; first | omega | exact Nat.le_refl _⟩, ⟨by (with_reducible repeat (first | apply Kd.R_alloc | apply Kd.R_drewN | apply Kd.R_drew)); exact HO_5.out⟩, ⟨by repeat (first | (with_reducible first | exact HB.out | apply below_alloc | apply pw_below_drewN | apply below_drew1) | exact HB.out)⟩⟩
      case rest =>
        clear HC3
        try clear p2
        try clear c3
        try clear c4
        try clear c4b0
        try clear c4b2
        try clear p2
        obtain ⟨kq, x16_2, rfl, HA, HJ2, HO_5, HB⟩ := hcut
        cases kq with
        | zero => exact absurd HA.out (by simp [spec_Parted.j1])
        | succ kj2 =>
          have H := HA.out
          clear HA
          simp only [spec_Parted.j1] at H
          by_cases c5 : x16_2 = true
          · subst c5
            have H1 : (if 0 ≤ x6_1 then (if x6_1 < (l0.length : Int) then (if (Int.tmod ((rd_T57 l0 x6_1).f0) 3) = 2 then ((spec_Clean.f ((rd_T57 l0 x6_1).f1) 30).bind fun t347 => (if x5_1.length < 5864062014805 then (spec_Parted.l0 kj2 l0 a1 (x5_1 ++ [(⟨wrap64 (Int.tdiv (wrap64 (-(Int.tmod ((rd_T57 l0 x6_1).f0) 3))) 2), t347⟩ : S57)]) (wrap64 (x6_1 + 1))) else (none))) else (if (Int.tmod ((rd_T57 l0 x6_1).f0) 3) = (-2) then ((spec_Clean.f ((rd_T57 l0 x6_1).f1) 30).bind fun t352 => (if x5_1.length < 5864062014805 then (spec_Parted.l0 kj2 l0 a1 (x5_1 ++ [(⟨wrap64 (Int.tdiv (wrap64 (-(Int.tmod ((rd_T57 l0 x6_1).f0) 3))) 2), t352⟩ : S57)]) (wrap64 (x6_1 + 1))) else (none))) else ((spec_Clean.f ((rd_T57 l0 x6_1).f1) 30).bind fun t357 => (if x5_1.length < 5864062014805 then (spec_Parted.l0 kj2 l0 a1 (x5_1 ++ [(⟨Int.tmod ((rd_T57 l0 x6_1).f0) 3, t357⟩ : S57)]) (wrap64 (x6_1 + 1))) else (none))))) else (none)) else (none)) = some r := by rw [if_pos rfl] at H; exact H
            clear H
            have H := H1
            clear H1
            by_cases c6 : 0 ≤ x6_1
            · rw [if_pos c6] at H
              have c6b0 : decide (0 ≤ x6_1) = true := decide_eq_true c6
              clear c6
              by_cases c7 : x6_1 < (l0.length : Int)
              · rw [if_pos c7] at H
                have c7b0 : decide (x6_1 < (l0.length : Int)) = true := decide_eq_true c7
                clear c7
                by_cases c8 : (Int.tmod ((rd_T57 l0 x6_1).f0) 3) = 2
                · rw [if_pos c8] at H
                  have c8b0 : ((Int.tmod ((rd_T57 l0 x6_1).f0) 3) == 2) = true := beq_iff_eq.mpr c8
                  have c8b1 : ((Int.tmod ((rd_T57 l0 x6_1).f0) 3) != 2) = false := bne_eq_false_iff_eq.mpr c8
                  clear c8
                  replace H := Option.bind_eq_some_iff.mp H
                  obtain ⟨t347, A90, H⟩ := H
                  replace H : (if x5_1.length < 5864062014805 then (spec_Parted.l0 kj2 l0 a1 (x5_1 ++ [(⟨wrap64 (Int.tdiv (wrap64 (-(Int.tmod ((rd_T57 l0 x6_1).f0) 3))) 2), t347⟩ : S57)]) (wrap64 (x6_1 + 1))) else (none)) = some r := H
                  have A9 := Aside0.mk A90
                  clear A90
                  by_cases c10 : x5_1.length < 5864062014805
                  · rw [if_pos c10] at H
                    have LMc10 := Aside0.mk c10
                    clear c10
                    obtain ⟨y348, hy348⟩ : ∃ y_ : List (S57), y_ = (x5_1 ++ [(⟨wrap64 (Int.tdiv (wrap64 (-(Int.tmod ((rd_T57 l0 x6_1).f0) 3))) 2), t347⟩ : S57)]) := ⟨_, rfl⟩
                    replace H : (spec_Parted.l0 kj2 l0 a1 y348 (wrap64 (x6_1 + 1))) = some r := by first | (rw [hy348]; with_reducible exact H) | (have H2_ := (Option.bind_some _ _).symm.trans H; rw [hy348]; with_reducible exact H2_) | (have H2_ := (Option.bind_some _ _).symm.trans H; with_reducible exact H2_) | with_reducible exact H | (rw [hy348]; exact H) | exact H
                    have Ny348 := Aside0.mk hy348
                    clear hy348
                    have H' := Aside0.mk H
                    clear H
                    have p345 : 0 ≤ (x6_1 : Int) := of_decide_eq_true (by first | (with_reducible assumption) | assumption)
                    have q345 : x6_1 < (l0.length : Int) := of_decide_eq_true (by first | (with_reducible assumption) | assumption)
                    obtain ⟨ad345, e345, hx345_0, hx345_1⟩ := at_T57 HR0.out x6_1 p345 q345
                    cases e345
                    replace hx345_0 := (HB.out.cell (World.block_lt_of_cell? w _ hx345_0)).trans hx345_0
                    replace hx345_1 := (HB.out.cell (World.block_lt_of_cell? w _ hx345_1)).trans hx345_1
                    replace p345 := eq_true p345
                    replace q345 := eq_true q345
                    have p346 : 0 ≤ (x6_1 : Int) := of_decide_eq_true (by first | (with_reducible assumption) | assumption)
                    have q346 : x6_1 < (l0.length : Int) := of_decide_eq_true (by first | (with_reducible assumption) | assumption)
                    obtain ⟨ad346, e346, hx346_0, hx346_1⟩ := at_T57 HR0.out x6_1 p346 q346
                    obtain rfl : ad345 = ad346 := (by injection e346)
                    replace hx346_0 := (HB.out.cell (World.block_lt_of_cell? w _ hx346_0)).trans hx346_0
                    replace hx346_1 := (HB.out.cell (World.block_lt_of_cell? w _ hx346_1)).trans hx346_1
                    replace p346 := eq_true p346
                    replace q346 := eq_true q346
                    go_wp2_with (first | ((with_reducible refine gate_callee (f := 17) rfl ?_); refine goesL_ (some 41) rfl rfl Try.func17 (by kernel_rfl) rfl #[.string ((rd_T57 l0 x6_1).f1), .int .i64 30] rfl (by (try simp only [List.map_toArray, List.map_cons, List.map_nil]); first | done | rfl | (simp only [List.length_drop, List.length_take]; rfl)) ?_; (with_reducible refine (spec_Clean.calls ((rd_T57 l0 x6_1).f1) 30 t347 _ A9.out).mono ?_); rintro e w11 ⟨rfl, hb⟩; refine ⟨_, rfl, ?_⟩; have n0_ := Aside0.mk (Kd.R_below (by (with_reducible repeat (first | apply Kd.R_alloc | apply Kd.R_drewN | apply Kd.R_drew)); exact HO_5.out) hb); have n1_ := Aside0.mk (below_step (by repeat (first | (with_reducible first | exact HB.out | apply below_alloc | apply pw_below_drewN | apply below_drew1) | exact HB.out)) hb); clear HO_5; clear HB; have HO_5 := n0_; have HB := n1_; clear n0_ n1_; (try clear hb); (try clear hb2); (try clear hk); (try clear hi)) | ((with_reducible refine gate_builtin (b := .append) (xs := #[.tmp 34, .tmp 43]) rfl ?_); at_builtin; refine Kd.R_append k57 (w0 := w) w.heap.size rfl (.tmp 34) (.tmp 43) 51 57 (.agg #[(.int .i64 0), (.string ⟨#[]⟩)]) 24 rfl Try.underlying51 info57 rfl (by decide) (by omega) u5 x5_1 (⟨wrap64 (Int.tdiv (wrap64 (-(Int.tmod ((rd_T57 l0 x6_1).f0) 3))) 2), t347⟩ : S57) [.int .i64 (wrap64 (Int.tdiv (wrap64 (-(Int.tmod ((rd_T57 l0 x6_1).f0) 3))) 2)), .string t347] (fun _ => True) (fun _ => False) rfl rfl ?aP (fun _ hk => hk.elim) ?aF ?aO ?aB ?aS ?aL ?_; (case aP => exact k57_mkM _ _ _ (⟨wrap64 (Int.tdiv (wrap64 (-(Int.tmod ((rd_T57 l0 x6_1).f0) 3))) 2), t347⟩ : S57)); (case aB => exact (by repeat (first | (with_reducible first | exact HB.out | apply below_alloc | apply pw_below_drewN | apply below_drew1) | exact HB.out))); (case aF => exact (fun _ _ => trivial)); (case aO => exact (by (with_reducible repeat (first | apply Kd.R_alloc | apply Kd.R_drewN | apply Kd.R_drew)); exact HO_5.out)); (case aS => exact (below_size (by repeat (first | (with_reducible first | exact HB.out | apply below_alloc | apply pw_below_drewN | apply below_drew1) | exact HB.out)))); (case aL => have := LMc10.out; omega); intro v349 w12 ho hb hg hat; rw [← Ny348.out] at ho; have n0_ := Aside0.mk (hb); have n1_ := Aside0.mk (ho); clear HB; clear HO_5; have HB := n0_; have HO350 := n1_; clear n0_ n1_; clear ho hb hg hat))
                    go_roundg kj2
                    case measure => have := HK1.out; have := HJ2.out; omega
                    case rel => exact ⟨(y348), (wrap64 (x6_1 + 1)), (by first | rfl | (simp; done) | (simp [*]; done)), H', ⟨by have := HK1.out; have := HJ2.out; omega⟩, ⟨by (with_reducible repeat (first | apply Kd.R_alloc | apply Kd.R_drewN | apply Kd.R_drew)); exact HO350.out⟩, ⟨by repeat (first | (with_reducible first | exact HB.out | apply below_alloc | apply pw_below_drewN | apply below_drew1) | exact HB.out)⟩⟩
                  · rw [if_neg c10] at H
                    exact absurd H (by simp)
                · rw [if_neg c8] at H
                  have c8b0 : ((Int.tmod ((rd_T57 l0 x6_1).f0) 3) == 2) = false := beq_eq_false_iff_ne.mpr c8
                  have c8b1 : ((Int.tmod ((rd_T57 l0 x6_1).f0) 3) != 2) = true := bne_iff_ne.mpr c8
                  by_cases c13 : (Int.tmod ((rd_T57 l0 x6_1).f0) 3) = (-2)
                  · rw [if_pos c13] at H
                    have c13b0 : ((Int.tmod ((rd_T57 l0 x6_1).f0) 3) == (-2)) = true := beq_iff_eq.mpr c13
                    have c13b1 : ((Int.tmod ((rd_T57 l0 x6_1).f0) 3) != (-2)) = false := bne_eq_false_iff_eq.mpr c13
                    clear c13
                    replace H := Option.bind_eq_some_iff.mp H
                    obtain ⟨t352, A140, H⟩ := H
                    replace H : (if x5_1.length < 5864062014805 then (spec_Parted.l0 kj2 l0 a1 (x5_1 ++ [(⟨wrap64 (Int.tdiv (wrap64 (-(Int.tmod ((rd_T57 l0 x6_1).f0) 3))) 2), t352⟩ : S57)]) (wrap64 (x6_1 + 1))) else (none)) = some r := H
                    have A14 := Aside0.mk A140
                    clear A140
                    by_cases c15 : x5_1.length < 5864062014805
                    · rw [if_pos c15] at H
                      have LMc15 := Aside0.mk c15
                      clear c15
                      obtain ⟨y353, hy353⟩ : ∃ y_ : List (S57), y_ = (x5_1 ++ [(⟨wrap64 (Int.tdiv (wrap64 (-(Int.tmod ((rd_T57 l0 x6_1).f0) 3))) 2), t352⟩ : S57)]) := ⟨_, rfl⟩
                      replace H : (spec_Parted.l0 kj2 l0 a1 y353 (wrap64 (x6_1 + 1))) = some r := by first | (rw [hy353]; with_reducible exact H) | (have H2_ := (Option.bind_some _ _).symm.trans H; rw [hy353]; with_reducible exact H2_) | (have H2_ := (Option.bind_some _ _).symm.trans H; with_reducible exact H2_) | with_reducible exact H | (rw [hy353]; exact H) | exact H
                      have Ny353 := Aside0.mk hy353
                      clear hy353
                      have H' := Aside0.mk H
                      clear H
                      have p345 : 0 ≤ (x6_1 : Int) := of_decide_eq_true (by first | (with_reducible assumption) | assumption)
                      have q345 : x6_1 < (l0.length : Int) := of_decide_eq_true (by first | (with_reducible assumption) | assumption)
                      obtain ⟨ad345, e345, hx345_0, hx345_1⟩ := at_T57 HR0.out x6_1 p345 q345
                      cases e345
                      replace hx345_0 := (HB.out.cell (World.block_lt_of_cell? w _ hx345_0)).trans hx345_0
                      replace hx345_1 := (HB.out.cell (World.block_lt_of_cell? w _ hx345_1)).trans hx345_1
                      replace p345 := eq_true p345
                      replace q345 := eq_true q345
                      have p351 : 0 ≤ (x6_1 : Int) := of_decide_eq_true (by first | (with_reducible assumption) | assumption)
                      have q351 : x6_1 < (l0.length : Int) := of_decide_eq_true (by first | (with_reducible assumption) | assumption)
                      obtain ⟨ad351, e351, hx351_0, hx351_1⟩ := at_T57 HR0.out x6_1 p351 q351
                      obtain rfl : ad345 = ad351 := (by injection e351)
                      replace hx351_0 := (HB.out.cell (World.block_lt_of_cell? w _ hx351_0)).trans hx351_0
                      replace hx351_1 := (HB.out.cell (World.block_lt_of_cell? w _ hx351_1)).trans hx351_1
                      replace p351 := eq_true p351
                      replace q351 := eq_true q351
                      go_wp2_with (first | ((with_reducible refine gate_callee (f := 17) rfl ?_); refine goesL_ (some 41) rfl rfl Try.func17 (by kernel_rfl) rfl #[.string ((rd_T57 l0 x6_1).f1), .int .i64 30] rfl (by (try simp only [List.map_toArray, List.map_cons, List.map_nil]); first | done | rfl | (simp only [List.length_drop, List.length_take]; rfl)) ?_; (with_reducible refine (spec_Clean.calls ((rd_T57 l0 x6_1).f1) 30 t352 _ A14.out).mono ?_); rintro e w16 ⟨rfl, hb⟩; refine ⟨_, rfl, ?_⟩; have n0_ := Aside0.mk (Kd.R_below (by (with_reducible repeat (first | apply Kd.R_alloc | apply Kd.R_drewN | apply Kd.R_drew)); exact HO_5.out) hb); have n1_ := Aside0.mk (below_step (by repeat (first | (with_reducible first | exact HB.out | apply below_alloc | apply pw_below_drewN | apply below_drew1) | exact HB.out)) hb); clear HO_5; clear HB; have HO_5 := n0_; have HB := n1_; clear n0_ n1_; (try clear hb); (try clear hb2); (try clear hk); (try clear hi)) | ((with_reducible refine gate_builtin (b := .append) (xs := #[.tmp 34, .tmp 43]) rfl ?_); at_builtin; refine Kd.R_append k57 (w0 := w) w.heap.size rfl (.tmp 34) (.tmp 43) 51 57 (.agg #[(.int .i64 0), (.string ⟨#[]⟩)]) 24 rfl Try.underlying51 info57 rfl (by decide) (by omega) u5 x5_1 (⟨wrap64 (Int.tdiv (wrap64 (-(Int.tmod ((rd_T57 l0 x6_1).f0) 3))) 2), t352⟩ : S57) [.int .i64 (wrap64 (Int.tdiv (wrap64 (-(Int.tmod ((rd_T57 l0 x6_1).f0) 3))) 2)), .string t352] (fun _ => True) (fun _ => False) rfl rfl ?aP (fun _ hk => hk.elim) ?aF ?aO ?aB ?aS ?aL ?_; (case aP => exact k57_mkM _ _ _ (⟨wrap64 (Int.tdiv (wrap64 (-(Int.tmod ((rd_T57 l0 x6_1).f0) 3))) 2), t352⟩ : S57)); (case aB => exact (by repeat (first | (with_reducible first | exact HB.out | apply below_alloc | apply pw_below_drewN | apply below_drew1) | exact HB.out))); (case aF => exact (fun _ _ => trivial)); (case aO => exact (by (with_reducible repeat (first | apply Kd.R_alloc | apply Kd.R_drewN | apply Kd.R_drew)); exact HO_5.out)); (case aS => exact (below_size (by repeat (first | (with_reducible first | exact HB.out | apply below_alloc | apply pw_below_drewN | apply below_drew1) | exact HB.out)))); (case aL => have := LMc15.out; omega); intro v354 w17 ho hb hg hat; rw [← Ny353.out] at ho; have n0_ := Aside0.mk (hb); have n1_ := Aside0.mk (ho); clear HB; clear HO_5; have HB := n0_; have HO355 := n1_; clear n0_ n1_; clear ho hb hg hat))
                      go_roundg kj2
                      case measure => have := HK1.out; have := HJ2.out; omega
                      case rel => exact ⟨(y353), (wrap64 (x6_1 + 1)), (by first | rfl | (simp; done) | (simp [*]; done)), H', ⟨by have := HK1.out; have := HJ2.out; omega⟩, ⟨by (with_reducible repeat (first | apply Kd.R_alloc | apply Kd.R_drewN | apply Kd.R_drew)); exact HO355.out⟩, ⟨by repeat (first | (with_reducible first | exact HB.out | apply below_alloc | apply pw_below_drewN | apply below_drew1) | exact HB.out)⟩⟩
                    · rw [if_neg c15] at H
                      exact absurd H (by simp)
                  · rw [if_neg c13] at H
                    have c13b0 : ((Int.tmod ((rd_T57 l0 x6_1).f0) 3) == (-2)) = false := beq_eq_false_iff_ne.mpr c13
                    have c13b1 : ((Int.tmod ((rd_T57 l0 x6_1).f0) 3) != (-2)) = true := bne_iff_ne.mpr c13
                    replace H := Option.bind_eq_some_iff.mp H
                    obtain ⟨t357, A180, H⟩ := H
                    replace H : (if x5_1.length < 5864062014805 then (spec_Parted.l0 kj2 l0 a1 (x5_1 ++ [(⟨Int.tmod ((rd_T57 l0 x6_1).f0) 3, t357⟩ : S57)]) (wrap64 (x6_1 + 1))) else (none)) = some r := H
                    have A18 := Aside0.mk A180
                    clear A180
                    by_cases c19 : x5_1.length < 5864062014805
                    · rw [if_pos c19] at H
                      have LMc19 := Aside0.mk c19
                      clear c19
                      obtain ⟨y358, hy358⟩ : ∃ y_ : List (S57), y_ = (x5_1 ++ [(⟨Int.tmod ((rd_T57 l0 x6_1).f0) 3, t357⟩ : S57)]) := ⟨_, rfl⟩
                      replace H : (spec_Parted.l0 kj2 l0 a1 y358 (wrap64 (x6_1 + 1))) = some r := by first | (rw [hy358]; with_reducible exact H) | (have H2_ := (Option.bind_some _ _).symm.trans H; rw [hy358]; with_reducible exact H2_) | (have H2_ := (Option.bind_some _ _).symm.trans H; with_reducible exact H2_) | with_reducible exact H | (rw [hy358]; exact H) | exact H
                      have Ny358 := Aside0.mk hy358
                      clear hy358
                      have H' := Aside0.mk H
                      clear H
                      have p345 : 0 ≤ (x6_1 : Int) := of_decide_eq_true (by first | (with_reducible assumption) | assumption)
                      have q345 : x6_1 < (l0.length : Int) := of_decide_eq_true (by first | (with_reducible assumption) | assumption)
                      obtain ⟨ad345, e345, hx345_0, hx345_1⟩ := at_T57 HR0.out x6_1 p345 q345
                      cases e345
                      replace hx345_0 := (HB.out.cell (World.block_lt_of_cell? w _ hx345_0)).trans hx345_0
                      replace hx345_1 := (HB.out.cell (World.block_lt_of_cell? w _ hx345_1)).trans hx345_1
                      replace p345 := eq_true p345
                      replace q345 := eq_true q345
                      have p356 : 0 ≤ (x6_1 : Int) := of_decide_eq_true (by first | (with_reducible assumption) | assumption)
                      have q356 : x6_1 < (l0.length : Int) := of_decide_eq_true (by first | (with_reducible assumption) | assumption)
                      obtain ⟨ad356, e356, hx356_0, hx356_1⟩ := at_T57 HR0.out x6_1 p356 q356
                      obtain rfl : ad345 = ad356 := (by injection e356)
                      replace hx356_0 := (HB.out.cell (World.block_lt_of_cell? w _ hx356_0)).trans hx356_0
                      replace hx356_1 := (HB.out.cell (World.block_lt_of_cell? w _ hx356_1)).trans hx356_1
                      replace p356 := eq_true p356
                      replace q356 := eq_true q356
                      go_wp2_with (first | ((with_reducible refine gate_callee (f := 17) rfl ?_); refine goesL_ (some 41) rfl rfl Try.func17 (by kernel_rfl) rfl #[.string ((rd_T57 l0 x6_1).f1), .int .i64 30] rfl (by (try simp only [List.map_toArray, List.map_cons, List.map_nil]); first | done | rfl | (simp only [List.length_drop, List.length_take]; rfl)) ?_; (with_reducible refine (spec_Clean.calls ((rd_T57 l0 x6_1).f1) 30 t357 _ A18.out).mono ?_); rintro e w20 ⟨rfl, hb⟩; refine ⟨_, rfl, ?_⟩; have n0_ := Aside0.mk (Kd.R_below (by (with_reducible repeat (first | apply Kd.R_alloc | apply Kd.R_drewN | apply Kd.R_drew)); exact HO_5.out) hb); have n1_ := Aside0.mk (below_step (by repeat (first | (with_reducible first | exact HB.out | apply below_alloc | apply pw_below_drewN | apply below_drew1) | exact HB.out)) hb); clear HO_5; clear HB; have HO_5 := n0_; have HB := n1_; clear n0_ n1_; (try clear hb); (try clear hb2); (try clear hk); (try clear hi)) | ((with_reducible refine gate_builtin (b := .append) (xs := #[.tmp 34, .tmp 43]) rfl ?_); at_builtin; refine Kd.R_append k57 (w0 := w) w.heap.size rfl (.tmp 34) (.tmp 43) 51 57 (.agg #[(.int .i64 0), (.string ⟨#[]⟩)]) 24 rfl Try.underlying51 info57 rfl (by decide) (by omega) u5 x5_1 (⟨Int.tmod ((rd_T57 l0 x6_1).f0) 3, t357⟩ : S57) [.int .i64 (Int.tmod ((rd_T57 l0 x6_1).f0) 3), .string t357] (fun _ => True) (fun _ => False) rfl rfl ?aP (fun _ hk => hk.elim) ?aF ?aO ?aB ?aS ?aL ?_; (case aP => exact k57_mkM _ _ _ (⟨Int.tmod ((rd_T57 l0 x6_1).f0) 3, t357⟩ : S57)); (case aB => exact (by repeat (first | (with_reducible first | exact HB.out | apply below_alloc | apply pw_below_drewN | apply below_drew1) | exact HB.out))); (case aF => exact (fun _ _ => trivial)); (case aO => exact (by (with_reducible repeat (first | apply Kd.R_alloc | apply Kd.R_drewN | apply Kd.R_drew)); exact HO_5.out)); (case aS => exact (below_size (by repeat (first | (with_reducible first | exact HB.out | apply below_alloc | apply pw_below_drewN | apply below_drew1) | exact HB.out)))); (case aL => have := LMc19.out; omega); intro v359 w21 ho hb hg hat; rw [← Ny358.out] at ho; have n0_ := Aside0.mk (hb); have n1_ := Aside0.mk (ho); clear HB; clear HO_5; have HB := n0_; have HO360 := n1_; clear n0_ n1_; clear ho hb hg hat))
                      go_roundg kj2
                      case measure => have := HK1.out; have := HJ2.out; omega
                      case rel => exact ⟨(y358), (wrap64 (x6_1 + 1)), (by first | rfl | (simp; done) | (simp [*]; done)), H', ⟨by have := HK1.out; have := HJ2.out; omega⟩, ⟨by (with_reducible repeat (first | apply Kd.R_alloc | apply Kd.R_drewN | apply Kd.R_drew)); exact HO360.out⟩, ⟨by repeat (first | (with_reducible first | exact HB.out | apply below_alloc | apply pw_below_drewN | apply below_drew1) | exact HB.out)⟩⟩
                    · rw [if_neg c19] at H
                      exact absurd H (by simp)
              · rw [if_neg c7] at H
                exact absurd H (by simp)
            · rw [if_neg c6] at H
              exact absurd H (by simp)
          · replace c5 := Bool.eq_false_iff.mpr c5
            subst c5
            have H1 : (some x5_1) = some r := by rw [if_neg (show ¬ (false = true) by decide)] at H; exact H
            clear H
            have H := H1
            clear H1
            obtain rfl := Option.some.inj H
            go_wp2
            go_ret
            exact ⟨_, by first | rfl | (simp [errW_none, errW_some] <;> rfl) | (simp [*, errW_none, errW_some] <;> rfl), by (with_reducible repeat (first | apply Kd.R_alloc | apply Kd.R_drewN | apply Kd.R_drew)); exact HO_5.out, by repeat (first | (with_reducible first | exact HB.out | apply below_alloc | apply pw_below_drewN | apply below_drew1) | exact HB.out)⟩

end Go.Proofs.Ytomidomdomjkfaa.PT
