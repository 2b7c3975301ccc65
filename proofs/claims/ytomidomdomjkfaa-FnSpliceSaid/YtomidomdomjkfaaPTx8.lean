-- Written by this session's own program (wip/tools) out of the translation.
import Derived.Test.YtomidomdomjkfaaPTx0
namespace Go.Proofs.Ytomidomdomjkfaa.PT
open Go.RowKit Go.Proofs.YtomidomdomjkfaaW.PrintWords Go.Proofs.YtomidomdomjkfaaW.PrintLast Go.Proofs.YtomidomdomjkfaaW.PrintMore
attribute [local go_sem] max2_int min2_int max_two min_two max_three min_three max_four min_four   -- for this text's walks alone
set_option linter.unusedVariables false
set_option linter.unusedSimpArgs false

/-! ### spec_Runes: function 20 -/
def spec_Runes.f (a0 : ByteArray) : Option (List Int) := if a0.size ≤ 70368744177664 then (some (runesOf a0)) else (none)
set_option maxHeartbeats 8000000 in
set_option maxRecDepth 100000 in
theorem spec_Runes.calls (a0 : ByteArray) (r : List Int) (w : World) (h : spec_Runes.f a0 = some r) :
    Calls Try.prog 20 #[.string a0] w fun e w' => ∃ v0_ : Value, e = .returned (v0_) ∧ Kd.R (Kd.int .i32) 21 w' w.heap.size (fun _ => True) v0_ r ∧ Below w.heap.size w w' := by
  have HB := Aside0.mk (Below.refl w.heap.size w)
  have H : (if a0.size ≤ 70368744177664 then (some (runesOf a0)) else (none)) = some r := h
  clear h
  by_cases c2 : a0.size ≤ 70368744177664
  · rw [if_pos c2] at H
    have c2b0 := eq_true c2
    have c2b1 : decide (a0.size ≤ 70368744177664) = true := decide_eq_true c2
    clear c2
    obtain ⟨y112, hy112⟩ : ∃ y_ : List Int, y_ = (runesOf a0) := ⟨_, rfl⟩
    replace H : (some y112) = some r := by first | (rw [hy112]; with_reducible exact H) | (have H2_ := (Option.bind_some _ _).symm.trans H; rw [hy112]; with_reducible exact H2_) | (have H2_ := (Option.bind_some _ _).symm.trans H; with_reducible exact H2_) | with_reducible exact H | (rw [hy112]; exact H) | exact H
    have Ny112 := Aside0.mk hy112
    clear hy112
    obtain rfl := Option.some.inj H
    go_enter Try.func20, Try.ntmps20
    go_wp2_with (first | ((with_reducible refine gate_dst (N := 4) rfl ?_); refine Kd.R_conv _ 21 rfl (N := 4) rfl 9 30 _ rfl a0 rfl Try.underlying9 Try.underlying30 Try.underlying21 (ok := fun _ => True) trivial (of_decide_eq_true (by first | (with_reducible assumption) | assumption)) (Below.refl _ _) (Nat.le_refl _) ?_; intro v113 w3 ho4 hb hg_ hnew_; clear hg_ hnew_; (first | rw [← Ny112.out] at ho4 | (simp only [Int.reduceToNat] at ho4; rw [← Ny112.out] at ho4)); have n0_ := Aside0.mk (Kd.R_lower ho4 (below_size (by repeat (first | (with_reducible first | exact HB.out | apply below_alloc | apply pw_below_drewN | apply below_drew1) | exact HB.out)))); have n1_ := Aside0.mk (below_step (by repeat (first | (with_reducible first | exact HB.out | apply below_alloc | apply pw_below_drewN | apply below_drew1) | exact HB.out)) hb); clear HB; have HO114 := n0_; have HB := n1_; clear n0_ n1_; clear hb ho4))
    go_ret
    exact ⟨_, by first | rfl | (simp [errW_none, errW_some] <;> rfl) | (simp [*, errW_none, errW_some] <;> rfl), by (with_reducible repeat (first | apply Kd.R_alloc | apply Kd.R_drewN | apply Kd.R_drew)); exact HO114.out, by repeat (first | (with_reducible first | exact HB.out | apply below_alloc | apply pw_below_drewN | apply below_drew1) | exact HB.out)⟩
  · rw [if_neg c2] at H
    exact absurd H (by simp)

end Go.Proofs.Ytomidomdomjkfaa.PT
