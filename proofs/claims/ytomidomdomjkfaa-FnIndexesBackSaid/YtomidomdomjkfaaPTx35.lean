-- Written by this session's own program (wip/tools) out of the translation.
import Derived.Test.YtomidomdomjkfaaPTx0
namespace Go.Proofs.Ytomidomdomjkfaa.PT
open Go.RowKit Go.Proofs.YtomidomdomjkfaaW.PrintWords Go.Proofs.YtomidomdomjkfaaW.PrintLast Go.Proofs.YtomidomdomjkfaaW.PrintMore
attribute [local go_sem] max2_int min2_int max_two min_two max_three min_three max_four min_four   -- for this text's walks alone
set_option linter.unusedVariables false
set_option linter.unusedSimpArgs false

/-! ### diffmatchpatch_stringToIndex: function 70 -/
def diffmatchpatch_stringToIndex.l0 : Nat → List Int → List Int → Int → Int → Option (List Int)
  | 0, _, _, _, _ => none
  | k + 1, x4, x12, x13, x14 => if x14 < x13 then (if 0 ≤ x14 then (if x14 < (x12.length : Int) then (if (rd x12 x14) < 57344 then (if x14 < (x4.length : Int) then (diffmatchpatch_stringToIndex.l0 k (x4.set (x14 : Int).toNat ((rd x12 x14) % 4294967296)) x12 x13 (wrap64 (x14 + 1))) else (none)) else (if x14 < (x4.length : Int) then (diffmatchpatch_stringToIndex.l0 k (x4.set (x14 : Int).toNat ((((rd x12 x14) % 4294967296) - 2048) % 4294967296)) x12 x13 (wrap64 (x14 + 1))) else (none))) else (none)) else (none)) else (some x4)
def diffmatchpatch_stringToIndex.f (k : Nat) (a0 : ByteArray) : Option (List Int) := if a0.size ≤ 70368744177664 then ((some (runesOf a0 : List Int)).bind fun y255 => (if 0 ≤ (y255.length : Int) then (if ((y255.length : Int) : Int).toNat ≤ 70368744177664 then (diffmatchpatch_stringToIndex.l0 k (List.replicate ((y255.length : Int) : Int).toNat 0) y255 (y255.length : Int) 0) else (none)) else (none))) else (none)
theorem diffmatchpatch_stringToIndex.mono_l : ∀ k, (∀ y0 y1 y2 y3, LeO (diffmatchpatch_stringToIndex.l0 k y0 y1 y2 y3) (diffmatchpatch_stringToIndex.l0 (k + 1) y0 y1 y2 y3))
  | 0 => fun _ _ _ _ r h => by simp [diffmatchpatch_stringToIndex.l0] at h
  | k + 1 => by
    have ih0 := diffmatchpatch_stringToIndex.mono_l k
    · intro y0 y1 y2 y3
      unfold diffmatchpatch_stringToIndex.l0
      repeat' first
      | (with_reducible exact ih0 _ _ _ _)
      | (with_reducible exact LeO.refl _)
      | (with_reducible exact LeO.none _)
      | (with_reducible refine LeO.ite ?_ ?_)
      | (with_reducible refine LeO.bind ?_ (fun _ => ?_))
      | exact ih0 _ _ _ _
      | exact LeO.none _
      | refine LeO.ite ?_ ?_
      | refine LeO.bind ?_ (fun _ => ?_)
theorem diffmatchpatch_stringToIndex.mono : ∀ a0 k, LeO (diffmatchpatch_stringToIndex.f k a0) (diffmatchpatch_stringToIndex.f (k + 1) a0) := by
  intro a0 k
  have ih0 := diffmatchpatch_stringToIndex.mono_l k
  unfold diffmatchpatch_stringToIndex.f
  repeat' first
      | (with_reducible exact ih0 _ _ _ _)
      | (with_reducible exact LeO.refl _)
      | (with_reducible exact LeO.none _)
      | (with_reducible refine LeO.ite ?_ ?_)
      | (with_reducible refine LeO.bind ?_ (fun _ => ?_))
      | exact ih0 _ _ _ _
      | exact LeO.none _
      | refine LeO.ite ?_ ?_
      | refine LeO.bind ?_ (fun _ => ?_)
set_option maxHeartbeats 8000000 in
set_option maxRecDepth 100000 in
theorem diffmatchpatch_stringToIndex.calls (k : Nat) (a0 : ByteArray) (r : List Int) (w : World) (h : diffmatchpatch_stringToIndex.f k a0 = some r) :
    Calls Try.prog 70 #[.string a0] w fun e w' => ∃ v0_ : Value, e = .returned (v0_) ∧ Kd.R (Kd.int .u32) 84 w' w.heap.size (fun _ => True) v0_ r ∧ Below w.heap.size w w' := by
  have HB := Aside0.mk (Below.refl w.heap.size w)
  have H : (if a0.size ≤ 70368744177664 then ((some (runesOf a0 : List Int)).bind fun y255 => (if 0 ≤ (y255.length : Int) then (if ((y255.length : Int) : Int).toNat ≤ 70368744177664 then (diffmatchpatch_stringToIndex.l0 k (List.replicate ((y255.length : Int) : Int).toNat 0) y255 (y255.length : Int) 0) else (none)) else (none))) else (none)) = some r := h
  clear h
  by_cases c2 : a0.size ≤ 70368744177664
  · rw [if_pos c2] at H
    have c2b0 := eq_true c2
    have c2b1 : decide (a0.size ≤ 70368744177664) = true := decide_eq_true c2
    clear c2
    obtain ⟨y255, hy255⟩ : ∃ y_ : List Int, y_ = (runesOf a0) := ⟨_, rfl⟩
    replace H : (if 0 ≤ (y255.length : Int) then (if ((y255.length : Int) : Int).toNat ≤ 70368744177664 then (diffmatchpatch_stringToIndex.l0 k (List.replicate ((y255.length : Int) : Int).toNat 0) y255 (y255.length : Int) 0) else (none)) else (none)) = some r := by first | (rw [hy255]; with_reducible exact H) | (have H2_ := (Option.bind_some _ _).symm.trans H; rw [hy255]; with_reducible exact H2_) | (have H2_ := (Option.bind_some _ _).symm.trans H; with_reducible exact H2_) | with_reducible exact H | (rw [hy255]; exact H) | exact H
    have Ny255 := Aside0.mk hy255
    clear hy255
    by_cases c3 : 0 ≤ (y255.length : Int)
    · rw [if_pos c3] at H
      have c3b0 := eq_true c3
      have c3b1 : decide (0 ≤ (y255.length : Int)) = true := decide_eq_true c3
      clear c3
      by_cases c4 : ((y255.length : Int) : Int).toNat ≤ 70368744177664
      · rw [if_pos c4] at H
        have c4b0 := eq_true c4
        have c4b1 : decide (((y255.length : Int) : Int).toNat ≤ 70368744177664) = true := decide_eq_true c4
        clear c4
        obtain ⟨y258, hy258⟩ : ∃ y_ : List Int, y_ = (List.replicate ((y255.length : Int) : Int).toNat 0) := ⟨_, rfl⟩
        replace H : (diffmatchpatch_stringToIndex.l0 k y258 y255 (y255.length : Int) 0) = some r := by first | (rw [hy258]; with_reducible exact H) | (have H2_ := (Option.bind_some _ _).symm.trans H; rw [hy258]; with_reducible exact H2_) | (have H2_ := (Option.bind_some _ _).symm.trans H; with_reducible exact H2_) | with_reducible exact H | (rw [hy258]; exact H) | exact H
        have Ny258 := Aside0.mk hy258
        clear hy258
        have H' := Aside0.mk H
        clear H
        go_enter Try.func70, Try.ntmps70
        go_wp2_with (first | ((with_reducible refine gate_dst (N := 8) rfl ?_); refine Kd.R_conv _ 21 rfl (N := 8) rfl 9 30 _ rfl a0 rfl Try.underlying9 Try.underlying30 Try.underlying21 (ok := fun _ => True) trivial (of_decide_eq_true (by first | (with_reducible assumption) | assumption)) (Below.refl _ _) (Nat.le_refl _) ?_; intro v256 w5 ho6 hb hg_ hnew_; clear hg_ hnew_; (first | rw [← Ny255.out] at ho6 | (simp only [Int.reduceToNat] at ho6; rw [← Ny255.out] at ho6)); have n0_ := Aside0.mk (Kd.R_lower ho6 (below_size (by repeat (first | (with_reducible first | exact HB.out | apply below_alloc | apply pw_below_drewN | apply below_drew1) | exact HB.out)))); have n1_ := Aside0.mk (below_step (by repeat (first | (with_reducible first | exact HB.out | apply below_alloc | apply pw_below_drewN | apply below_drew1) | exact HB.out)) hb); clear HB; have HO257 := n0_; have HB := n1_; clear n0_ n1_; clear hb ho6; obtain ⟨Ao7, co7, eo7⟩ := Kd.R_slice HO257.out; subst eo7) | ((with_reducible refine gate_dst (N := 11) rfl ?_); refine Kd.R_make (Kd.int .u32) _ 84 rfl (N := 11) rfl 82 _ _ rfl (y255.length : Int) rfl rfl Try.underlying82 (.int .u32 0) 4 info84 rfl (by decide) (by omega) 0 (ok := fun _ => True) (okp := fun _ => True) rfl (fun _ hk => hk) trivial (of_decide_eq_true (by first | (with_reducible assumption) | assumption)) (Nat.le_trans (Nat.mul_le_mul_right _ (of_decide_eq_true (by first | (with_reducible assumption) | assumption) : (y255.length : Int).toNat ≤ 70368744177664)) (by omega)) (Below.refl _ _) (Nat.le_refl _) ?_; intro v259 w8 ho9 hb hg_ hnew_; clear hg_ hnew_; (first | rw [← Ny258.out] at ho9 | (simp only [Int.reduceToNat] at ho9; rw [← Ny258.out] at ho9)); have n0_ := Aside0.mk (Kd.R_below (by (with_reducible repeat (first | apply Kd.R_alloc | apply Kd.R_drewN | apply Kd.R_drew)); exact HO257.out) hb); have n1_ := Aside0.mk (Kd.R_lower ho9 (below_size (by repeat (first | (with_reducible first | exact HB.out | apply below_alloc | apply pw_below_drewN | apply below_drew1) | exact HB.out)))); have n2_ := Aside0.mk (below_step (by repeat (first | (with_reducible first | exact HB.out | apply below_alloc | apply pw_below_drewN | apply below_drew1) | exact HB.out)) hb); clear HO257; clear HB; have HO257 := n0_; have HO260 := n1_; have HB := n2_; clear n0_ n1_ n2_; clear hb ho9))
        go_loopg [14] k (fun kq v14 w' => ∃ (x4_1 : List Int) (x14_1 : Int), v14 = .int .i64 x14_1 ∧ Aside0 (diffmatchpatch_stringToIndex.l0 kq x4_1 y255 (y255.length : Int) x14_1 = some r) ∧ Aside0 (kq ≤ k) ∧ Aside0 (Kd.R (Kd.int .u32) 84 w' w.heap.size (fun _ => True) v259 x4_1) ∧ Aside0 (Kd.R (Kd.int .i32) 21 w' w.heap.size (fun _ => True) (.slice Ao7 y255.length co7) y255) ∧ Aside0 (Below w.heap.size w w'))
        case atStart => exact ⟨(y258), (0), (by first | rfl | (simp; done) | (simp [*]; done)), H', ⟨Nat.le_refl _⟩, ⟨by (with_reducible repeat (first | apply Kd.R_alloc | apply Kd.R_drewN | apply Kd.R_drew)); exact HO260.out⟩, ⟨by (with_reducible repeat (first | apply Kd.R_alloc | apply Kd.R_drewN | apply Kd.R_drew)); exact HO257.out⟩, ⟨by repeat (first | (with_reducible first | exact HB.out | apply below_alloc | apply pw_below_drewN | apply below_drew1) | exact HB.out)⟩⟩
        case round =>
          clear H'
          try clear c2
          try clear c2b0
          try clear c2b1
          try clear p2
          try clear c3
          try clear c3b0
          try clear c3b1
          try clear c4
          try clear c4b0
          try clear c4b1
          try clear c7
          obtain ⟨x4_1, x14_1, rfl, HA, HK1, HO_4, HO_12, HB⟩ := hrel
          cases gk with
          | zero => exact absurd HA.out (by simp [diffmatchpatch_stringToIndex.l0])
          | succ k1 =>
            have H := HA.out
            clear HA
            simp only [diffmatchpatch_stringToIndex.l0] at H
            by_cases c10 : x14_1 < (y255.length : Int)
            · rw [if_pos c10] at H
              have c10b0 : decide (x14_1 < (y255.length : Int)) = true := decide_eq_true c10
              clear c10
              by_cases c11 : 0 ≤ x14_1
              · rw [if_pos c11] at H
                have c11b0 : decide (0 ≤ x14_1) = true := decide_eq_true c11
                clear c11
                by_cases c12 : x14_1 < (y255.length : Int)
                · rw [if_pos c12] at H
                  have c12b0 : decide (x14_1 < (y255.length : Int)) = true := decide_eq_true c12
                  clear c12
                  by_cases c13 : (rd y255 x14_1) < 57344
                  · rw [if_pos c13] at H
                    have c13b0 : decide ((rd y255 x14_1) < 57344) = true := decide_eq_true c13
                    clear c13
                    by_cases c14 : x14_1 < (x4_1.length : Int)
                    · rw [if_pos c14] at H
                      have c14b0 : decide (x14_1 < (x4_1.length : Int)) = true := decide_eq_true c14
                      clear c14
                      obtain ⟨y262, hy262⟩ : ∃ y_ : List Int, y_ = (x4_1.set (x14_1 : Int).toNat ((rd y255 x14_1) % 4294967296)) := ⟨_, rfl⟩
                      replace H : (diffmatchpatch_stringToIndex.l0 k1 y262 y255 (y255.length : Int) (wrap64 (x14_1 + 1))) = some r := by first | (rw [hy262]; with_reducible exact H) | (have H2_ := (Option.bind_some _ _).symm.trans H; rw [hy262]; with_reducible exact H2_) | (have H2_ := (Option.bind_some _ _).symm.trans H; with_reducible exact H2_) | with_reducible exact H | (rw [hy262]; exact H) | exact H
                      have Ny262 := Aside0.mk hy262
                      clear hy262
                      have H' := Aside0.mk H
                      clear H
                      have p261 : 0 ≤ (x14_1 : Int) := of_decide_eq_true (by first | (with_reducible assumption) | assumption)
                      have q261 : x14_1 < (y255.length : Int) := of_decide_eq_true (by first | (with_reducible assumption) | assumption)
                      obtain ⟨ad261, e261, hx261_0⟩ := Kd.at_int (Kd.R_reads' HO_12.out).2.2 x14_1 p261 q261
                      cases e261
                      replace p261 := eq_true p261
                      replace q261 := eq_true q261
                      have p15 : 0 ≤ (x14_1 : Int) := of_decide_eq_true (by first | (with_reducible assumption) | assumption)
                      have q15 : (x14_1 : Int) < ((x4_1.length : Int) : Int) := of_decide_eq_true (by first | (with_reducible assumption) | assumption)
                      obtain ⟨go15, co15, eo15, gb15, gl15, cl15, HG15⟩ := Kd.R_form HO_4.out (by omega)
                      (first | cases eo15 | (injection eo15 with ea_ en_ ec_; (first | subst ea_ | (injection ea_ with ea_; subst ea_)); subst ec_; clear en_))
                      have GB15 := Aside0.mk gb15
                      have GG15 := Aside0.mk HG15
                      clear gb15 gl15 HG15
                      obtain ⟨hx15_0, hf15_0⟩ := Kd.R_celln 0 HO_4.out (x14_1 : Int) p15 q15
                      replace p15 := eq_true p15
                      replace q15 := eq_true q15
                      have HP16 := Kd.R_putg HO_4.out (x14_1 : Int) ((rd y255 x14_1) % 4294967296)
                      go_wp2_with (first | ((with_reducible refine gate_store (t := 84) (p := 25) rfl ?_); refine store_event (t := 84) (p := 25) (v := ?vo_w17) (w1 := (wr.setCell ⟨go15, (x14_1 : Int).toNat, none⟩ (.int .u32 ((rd y255 x14_1) % 4294967296)))) ?hg ?ho ?hn ?hr ?_; (case ho => rfl); (case hg => rfl); (case hn => rfl); (case hr => first | (go_simp; done) | (go_simp; rfl)); intro w17 hw; have hg : wr.grownBy w17 (some go15) := (by rw [hw]; exact HP16.2); have hp_ : Kd.R (Kd.int .u32) 84 w17 w.heap.size (fun _ => True) (.slice (some ⟨go15, 0, none⟩) x4_1.length co15) y262 := (by rw [hw, Ny262.out]; exact HP16.1); clear HP16; have n0_ := Aside0.mk (hp_); have n1_ := Aside0.mk (Kd.R_over' (v := (.slice (some ⟨go15, 0, none⟩) x4_1.length co15)) (by (with_reducible repeat (first | apply Kd.R_alloc | apply Kd.R_drewN | apply Kd.R_drew)); exact HO_12.out) (Kd.R_typed HO_4.out) (by decide) hg); have n2_ := Aside0.mk ((by rw [hw]; exact below_set (HB.out) GB15.out : Below w.heap.size w w17)); clear HO_4; clear HO_12; clear HB; have HO_4 := n0_; have HO_12 := n1_; have HB := n2_; clear n0_ n1_ n2_; clear hg hw hp_))
                      go_roundg k1
                      case measure => have := HK1.out; omega
                      case rel => exact ⟨(y262), (wrap64 (x14_1 + 1)), (by first | rfl | (simp; done) | (simp [*]; done)), H', ⟨by have := HK1.out; omega⟩, ⟨by (with_reducible repeat (first | apply Kd.R_alloc | apply Kd.R_drewN | apply Kd.R_drew)); exact HO_4.out⟩, ⟨by (with_reducible repeat (first | apply Kd.R_alloc | apply Kd.R_drewN | apply Kd.R_drew)); exact HO_12.out⟩, ⟨by repeat (first | (with_reducible first | exact HB.out | apply below_alloc | apply pw_below_drewN | apply below_drew1) | exact HB.out)⟩⟩
                    · rw [if_neg c14] at H
                      exact absurd H (by simp)
                  · rw [if_neg c13] at H
                    have c13b0 : decide ((rd y255 x14_1) < 57344) = false := decide_eq_false c13
                    clear c13
                    by_cases c18 : x14_1 < (x4_1.length : Int)
                    · rw [if_pos c18] at H
                      have c18b0 : decide (x14_1 < (x4_1.length : Int)) = true := decide_eq_true c18
                      clear c18
                      obtain ⟨y263, hy263⟩ : ∃ y_ : List Int, y_ = (x4_1.set (x14_1 : Int).toNat ((((rd y255 x14_1) % 4294967296) - 2048) % 4294967296)) := ⟨_, rfl⟩
                      replace H : (diffmatchpatch_stringToIndex.l0 k1 y263 y255 (y255.length : Int) (wrap64 (x14_1 + 1))) = some r := by first | (rw [hy263]; with_reducible exact H) | (have H2_ := (Option.bind_some _ _).symm.trans H; rw [hy263]; with_reducible exact H2_) | (have H2_ := (Option.bind_some _ _).symm.trans H; with_reducible exact H2_) | with_reducible exact H | (rw [hy263]; exact H) | exact H
                      have Ny263 := Aside0.mk hy263
                      clear hy263
                      have H' := Aside0.mk H
                      clear H
                      have p261 : 0 ≤ (x14_1 : Int) := of_decide_eq_true (by first | (with_reducible assumption) | assumption)
                      have q261 : x14_1 < (y255.length : Int) := of_decide_eq_true (by first | (with_reducible assumption) | assumption)
                      obtain ⟨ad261, e261, hx261_0⟩ := Kd.at_int (Kd.R_reads' HO_12.out).2.2 x14_1 p261 q261
                      cases e261
                      replace p261 := eq_true p261
                      replace q261 := eq_true q261
                      have p19 : 0 ≤ (x14_1 : Int) := of_decide_eq_true (by first | (with_reducible assumption) | assumption)
                      have q19 : (x14_1 : Int) < ((x4_1.length : Int) : Int) := of_decide_eq_true (by first | (with_reducible assumption) | assumption)
                      obtain ⟨go19, co19, eo19, gb19, gl19, cl19, HG19⟩ := Kd.R_form HO_4.out (by omega)
                      (first | cases eo19 | (injection eo19 with ea_ en_ ec_; (first | subst ea_ | (injection ea_ with ea_; subst ea_)); subst ec_; clear en_))
                      have GB19 := Aside0.mk gb19
                      have GG19 := Aside0.mk HG19
                      clear gb19 gl19 HG19
                      obtain ⟨hx19_0, hf19_0⟩ := Kd.R_celln 0 HO_4.out (x14_1 : Int) p19 q19
                      replace p19 := eq_true p19
                      replace q19 := eq_true q19
                      have HP20 := Kd.R_putg HO_4.out (x14_1 : Int) ((((rd y255 x14_1) % 4294967296) - 2048) % 4294967296)
                      go_wp2_with (first | ((with_reducible refine gate_store (t := 84) (p := 31) rfl ?_); refine store_event (t := 84) (p := 31) (v := ?vo_w21) (w1 := (wr.setCell ⟨go19, (x14_1 : Int).toNat, none⟩ (.int .u32 ((((rd y255 x14_1) % 4294967296) - 2048) % 4294967296)))) ?hg ?ho ?hn ?hr ?_; (case ho => rfl); (case hg => rfl); (case hn => rfl); (case hr => first | (go_simp; done) | (go_simp; rfl)); intro w21 hw; have hg : wr.grownBy w21 (some go19) := (by rw [hw]; exact HP20.2); have hp_ : Kd.R (Kd.int .u32) 84 w21 w.heap.size (fun _ => True) (.slice (some ⟨go19, 0, none⟩) x4_1.length co19) y263 := (by rw [hw, Ny263.out]; exact HP20.1); clear HP20; have n0_ := Aside0.mk (hp_); have n1_ := Aside0.mk (Kd.R_over' (v := (.slice (some ⟨go19, 0, none⟩) x4_1.length co19)) (by (with_reducible repeat (first | apply Kd.R_alloc | apply Kd.R_drewN | apply Kd.R_drew)); exact HO_12.out) (Kd.R_typed HO_4.out) (by decide) hg); have n2_ := Aside0.mk ((by rw [hw]; exact below_set (HB.out) GB19.out : Below w.heap.size w w21)); clear HO_4; clear HO_12; clear HB; have HO_4 := n0_; have HO_12 := n1_; have HB := n2_; clear n0_ n1_ n2_; clear hg hw hp_))
                      go_roundg k1
                      case measure => have := HK1.out; omega
                      case rel => exact ⟨(y263), (wrap64 (x14_1 + 1)), (by first | rfl | (simp; done) | (simp [*]; done)), H', ⟨by have := HK1.out; omega⟩, ⟨by (with_reducible repeat (first | apply Kd.R_alloc | apply Kd.R_drewN | apply Kd.R_drew)); exact HO_4.out⟩, ⟨by (with_reducible repeat (first | apply Kd.R_alloc | apply Kd.R_drewN | apply Kd.R_drew)); exact HO_12.out⟩, ⟨by repeat (first | (with_reducible first | exact HB.out | apply below_alloc | apply pw_below_drewN | apply below_drew1) | exact HB.out)⟩⟩
                    · rw [if_neg c18] at H
                      exact absurd H (by simp)
                · rw [if_neg c12] at H
                  exact absurd H (by simp)
              · rw [if_neg c11] at H
                exact absurd H (by simp)
            · rw [if_neg c10] at H
              have c10b0 : decide (x14_1 < (y255.length : Int)) = false := decide_eq_false c10
              clear c10
              obtain rfl := Option.some.inj H
              go_wp2
              go_ret
              exact ⟨_, by first | rfl | (simp [errW_none, errW_some] <;> rfl) | (simp [*, errW_none, errW_some] <;> rfl), by (with_reducible repeat (first | apply Kd.R_alloc | apply Kd.R_drewN | apply Kd.R_drew)); exact HO_4.out, by repeat (first | (with_reducible first | exact HB.out | apply below_alloc | apply pw_below_drewN | apply below_drew1) | exact HB.out)⟩
      · rw [if_neg c4] at H
        exact absurd H (by simp)
    · rw [if_neg c3] at H
      exact absurd H (by simp)
  · rw [if_neg c2] at H
    exact absurd H (by simp)

end Go.Proofs.Ytomidomdomjkfaa.PT
