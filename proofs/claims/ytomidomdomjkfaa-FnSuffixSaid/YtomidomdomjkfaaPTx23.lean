-- Written by this session's own program (wip/tools) out of the translation.
import Derived.Test.YtomidomdomjkfaaPTx0
import Derived.Test.YtomidomdomjkfaaPTx10
import Derived.Test.YtomidomdomjkfaaPTx18
namespace Go.Proofs.Ytomidomdomjkfaa.PT
open Go.RowKit Go.Proofs.YtomidomdomjkfaaW.PrintWords Go.Proofs.YtomidomdomjkfaaW.PrintLast Go.Proofs.YtomidomdomjkfaaW.PrintMore
attribute [local go_sem] max2_int min2_int max_two min_two max_three min_three max_four min_four   -- for this text's walks alone
set_option linter.unusedVariables false
set_option linter.unusedSimpArgs false

/-! ### diffmatchpatch_DiffMatchPatch_DiffCommonSuffix: function 48 -/
def diffmatchpatch_DiffMatchPatch_DiffCommonSuffix.f (k : Nat) (s0_0 : Int) (s0_1 : Int) (s0_2 : Int) (s0_3 : Nat) (s0_4 : Int) (s0_5 : Int) (s0_6 : Nat) (a1 : ByteArray) (a2 : ByteArray) : Option (Int × Int × Int × Int × Nat × Int × Int × Nat) := if a1.size ≤ 70368744177664 then (if a2.size ≤ 70368744177664 then ((diffmatchpatch_commonSuffixLength.f k (runesOf a1) (runesOf a2)).bind fun t200 => (some (t200, s0_0, s0_1, s0_2, s0_3, s0_4, s0_5, s0_6))) else (none)) else (none)
theorem diffmatchpatch_DiffMatchPatch_DiffCommonSuffix.mono : ∀ a0 a1 a2 a3 a4 a5 a6 a7 a8 k, LeO (diffmatchpatch_DiffMatchPatch_DiffCommonSuffix.f k a0 a1 a2 a3 a4 a5 a6 a7 a8) (diffmatchpatch_DiffMatchPatch_DiffCommonSuffix.f (k + 1) a0 a1 a2 a3 a4 a5 a6 a7 a8) := by
  intro a0 a1 a2 a3 a4 a5 a6 a7 a8 k
  unfold diffmatchpatch_DiffMatchPatch_DiffCommonSuffix.f
  repeat' first
      | (with_reducible exact diffmatchpatch_commonSuffixLength.mono _ _ _)
      | (with_reducible exact LeO.refl _)
      | (with_reducible exact LeO.none _)
      | (with_reducible refine LeO.ite ?_ ?_)
      | (with_reducible refine LeO.bind ?_ (fun _ => ?_))
      | exact diffmatchpatch_commonSuffixLength.mono _ _ _
      | exact LeO.none _
      | refine LeO.ite ?_ ?_
      | refine LeO.bind ?_ (fun _ => ?_)
set_option maxHeartbeats 8000000 in
set_option maxRecDepth 100000 in
theorem diffmatchpatch_DiffMatchPatch_DiffCommonSuffix.calls (k : Nat) (g : Nat) (s0_0 : Int) (s0_1 : Int) (s0_2 : Int) (s0_3 : Nat) (s0_4 : Int) (s0_5 : Int) (s0_6 : Nat) (a1 : ByteArray) (a2 : ByteArray) (r1 : Int) (r2 : Int) (r3 : Int) (r4 : Int) (r5 : Nat) (r6 : Int) (r7 : Int) (r8 : Nat) (w0 w : World) (hI : IsS80 w0 w g s0_0 s0_1 s0_2 s0_3 s0_4 s0_5 s0_6) (hB : Below w0.heap.size w0 w) (h : diffmatchpatch_DiffMatchPatch_DiffCommonSuffix.f k s0_0 s0_1 s0_2 s0_3 s0_4 s0_5 s0_6 a1 a2 = some (r1, r2, r3, r4, r5, r6, r7, r8)) :
    Calls Try.prog 48 #[.pointer (some ⟨g, 0, none⟩), .string a1, .string a2] w fun e w' => e = .returned (.int .i64 r1) ∧ IsS80 w0 w' g r2 r3 r4 r5 r6 r7 r8 ∧ Below w0.heap.size w0 w' ∧ KeepBut w w' g none := by
  have HI0 := Aside0.mk hI
  have HK := Aside0.mk (KeepBut.refl w g none)
  have HL := Aside0.mk hB.size
  clear hI
  have HW0 := Aside0.mk hB.size
  have HB := Aside0.mk hB
  clear hB
  have H : (if a1.size ≤ 70368744177664 then (if a2.size ≤ 70368744177664 then ((diffmatchpatch_commonSuffixLength.f k (runesOf a1) (runesOf a2)).bind fun t200 => (some (t200, s0_0, s0_1, s0_2, s0_3, s0_4, s0_5, s0_6))) else (none)) else (none)) = some (r1, r2, r3, r4, r5, r6, r7, r8) := h
  clear h
  by_cases c4 : a1.size ≤ 70368744177664
  · rw [if_pos c4] at H
    have c4b0 := eq_true c4
    have c4b1 : decide (a1.size ≤ 70368744177664) = true := decide_eq_true c4
    clear c4
    obtain ⟨y194, hy194⟩ : ∃ y_ : List Int, y_ = (runesOf a1) := ⟨_, rfl⟩
    replace H : (if a2.size ≤ 70368744177664 then ((diffmatchpatch_commonSuffixLength.f k y194 (runesOf a2)).bind fun t200 => (some (t200, s0_0, s0_1, s0_2, s0_3, s0_4, s0_5, s0_6))) else (none)) = some (r1, r2, r3, r4, r5, r6, r7, r8) := by first | (rw [hy194]; with_reducible exact H) | (have H2_ := (Option.bind_some _ _).symm.trans H; rw [hy194]; with_reducible exact H2_) | (have H2_ := (Option.bind_some _ _).symm.trans H; with_reducible exact H2_) | with_reducible exact H | (rw [hy194]; exact H) | exact H
    have Ny194 := Aside0.mk hy194
    clear hy194
    by_cases c5 : a2.size ≤ 70368744177664
    · rw [if_pos c5] at H
      have c5b0 := eq_true c5
      have c5b1 : decide (a2.size ≤ 70368744177664) = true := decide_eq_true c5
      clear c5
      obtain ⟨y197, hy197⟩ : ∃ y_ : List Int, y_ = (runesOf a2) := ⟨_, rfl⟩
      replace H : ((diffmatchpatch_commonSuffixLength.f k y194 y197).bind fun t200 => (some (t200, s0_0, s0_1, s0_2, s0_3, s0_4, s0_5, s0_6))) = some (r1, r2, r3, r4, r5, r6, r7, r8) := by first | (rw [hy197]; with_reducible exact H) | (have H2_ := (Option.bind_some _ _).symm.trans H; rw [hy197]; with_reducible exact H2_) | (have H2_ := (Option.bind_some _ _).symm.trans H; with_reducible exact H2_) | with_reducible exact H | (rw [hy197]; exact H) | exact H
      have Ny197 := Aside0.mk hy197
      clear hy197
      replace H := Option.bind_eq_some_iff.mp H
      obtain ⟨t200, A60, H⟩ := H
      replace H : (some (t200, s0_0, s0_1, s0_2, s0_3, s0_4, s0_5, s0_6)) = some (r1, r2, r3, r4, r5, r6, r7, r8) := H
      have A6 := Aside0.mk A60
      clear A60
      simp only [Option.some.injEq, Prod.mk.injEq] at H
      obtain ⟨rfl, rfl, rfl, rfl, rfl, rfl, rfl, rfl⟩ := H
      go_enter Try.func48, Try.ntmps48
      go_wp2_with (first | ((with_reducible refine gate_dst (N := 8) rfl ?_); refine Kd.R_conv _ 21 rfl (N := 8) rfl 9 30 _ rfl a1 rfl Try.underlying9 Try.underlying30 Try.underlying21 (ok := fun _ => True) trivial (of_decide_eq_true (by first | (with_reducible assumption) | assumption)) (Below.refl _ _) (Nat.le_refl _) ?_; intro v195 w7 ho8 hb hg_ hnew_; clear hg_ hnew_; (first | rw [← Ny194.out] at ho8 | (simp only [Int.reduceToNat] at ho8; rw [← Ny194.out] at ho8)); have n0_ := Aside0.mk (Kd.R_lower ho8 (keep_size (w := w) (g := g) (row := none) (by repeat (first | (with_reducible first | exact HK.out | apply KeepBut.set_ | apply keep_drewN | apply keep_drew | apply keep_alloc) | exact HK.out)))); have n1_ := Aside0.mk (IsS80.below (by repeat (first | (with_reducible first | exact HI0.out | apply IsS80.alloc | apply IsS80.drewN | apply IsS80.drew | apply IsS80.set_0 | apply IsS80.set_1 | apply IsS80.set_2 | apply IsS80.set_3 | apply IsS80.set_4 | apply IsS80.set_5 | apply IsS80.set_6) | exact HI0.out)) hb); have n2_ := Aside0.mk (KeepBut.trans (by repeat (first | (with_reducible first | exact HK.out | apply KeepBut.set_ | apply keep_drewN | apply keep_drew | apply keep_alloc) | exact HK.out)) (KeepBut.of_below hb g none) (.inl rfl)); have n3_ := Aside0.mk (below_step (by repeat (first | (with_reducible first | exact HB.out | apply below_alloc | apply pw_below_drewN | apply below_drew1 | refine below_set ?_ (IsS80.ge HI0.out)) | exact HB.out)) hb); clear HI0; clear HK; clear HB; have HO196 := n0_; have HI0 := n1_; have HK := n2_; have HB := n3_; clear n0_ n1_ n2_ n3_; clear hb ho8) | ((with_reducible refine gate_dst (N := 10) rfl ?_); refine Kd.R_conv _ 21 rfl (N := 10) rfl 9 30 _ rfl a2 rfl Try.underlying9 Try.underlying30 Try.underlying21 (ok := fun _ => True) trivial (of_decide_eq_true (by first | (with_reducible assumption) | assumption)) (Below.refl _ _) (Nat.le_refl _) ?_; intro v198 w9 ho10 hb hg_ hnew_; clear hg_ hnew_; (first | rw [← Ny197.out] at ho10 | (simp only [Int.reduceToNat] at ho10; rw [← Ny197.out] at ho10)); have n0_ := Aside0.mk (Kd.R_elder' (by (with_reducible repeat (first | apply Kd.R_alloc | apply Kd.R_drewN | apply Kd.R_drew)); exact HO196.out) (Kd.R_base ho10) hb); have n1_ := Aside0.mk (Kd.R_lower (Kd.R_new' ho10 (Kd.R_lt (by (with_reducible repeat (first | apply Kd.R_alloc | apply Kd.R_drewN | apply Kd.R_drew)); exact HO196.out))) (keep_size (w := w) (g := g) (row := none) (by repeat (first | (with_reducible first | exact HK.out | apply KeepBut.set_ | apply keep_drewN | apply keep_drew | apply keep_alloc) | exact HK.out)))); have n2_ := Aside0.mk (IsS80.below (by repeat (first | (with_reducible first | exact HI0.out | apply IsS80.alloc | apply IsS80.drewN | apply IsS80.drew | apply IsS80.set_0 | apply IsS80.set_1 | apply IsS80.set_2 | apply IsS80.set_3 | apply IsS80.set_4 | apply IsS80.set_5 | apply IsS80.set_6) | exact HI0.out)) hb); have n3_ := Aside0.mk (KeepBut.trans (by repeat (first | (with_reducible first | exact HK.out | apply KeepBut.set_ | apply keep_drewN | apply keep_drew | apply keep_alloc) | exact HK.out)) (KeepBut.of_below hb g none) (.inl rfl)); have n4_ := Aside0.mk (below_step (by repeat (first | (with_reducible first | exact HB.out | apply below_alloc | apply pw_below_drewN | apply below_drew1 | refine below_set ?_ (IsS80.ge HI0.out)) | exact HB.out)) hb); clear HO196; clear HI0; clear HK; clear HB; have HO196 := n0_; have HO199 := n1_; have HI0 := n2_; have HK := n3_; have HB := n4_; clear n0_ n1_ n2_ n3_ n4_; clear hb ho10; obtain ⟨Ao11, co11, eo11⟩ := Kd.R_slice HO196.out; subst eo11; obtain ⟨Ao12, co12, eo12⟩ := Kd.R_slice HO199.out; subst eo12) | ((with_reducible refine gate_callee (f := 68) rfl ?_); refine goesL_ (some 11) rfl rfl Try.func68 (by kernel_rfl) rfl #[.slice Ao11 y194.length co11, .slice Ao12 y197.length co12] rfl (by (try simp only [List.map_toArray, List.map_cons, List.map_nil]); first | done | rfl | (simp only [List.length_drop, List.length_take]; rfl)) ?_; (with_reducible refine (diffmatchpatch_commonSuffixLength.calls k _ _ y194 _ _ y197 t200 _ ?side1 ?side2 ?side3 ?side4 A6.out).mono ?_); (case side1 => repeat (first | exact (Kd.R_reads' HO196.out).2.2 | (with_reducible refine Kd.C_alloc ?_ _) | (with_reducible refine Kd.C_drewN ?_ _) | (with_reducible refine Kd.C_drew ?_))); (case side2 => exact (Kd.R_reads' HO196.out).2.1); (case side3 => repeat (first | exact (Kd.R_reads' HO199.out).2.2 | (with_reducible refine Kd.C_alloc ?_ _) | (with_reducible refine Kd.C_drewN ?_ _) | (with_reducible refine Kd.C_drew ?_))); (case side4 => exact (Kd.R_reads' HO199.out).2.1); rintro e w' ⟨rfl, ⟨nd, rfl⟩⟩; refine ⟨_, rfl, ?_⟩))
      go_ret
      exact ⟨by first | rfl | (simp [errW_none, errW_some] <;> rfl) | (simp [*, errW_none, errW_some] <;> rfl), by repeat (first | (with_reducible first | exact HI0.out | apply IsS80.alloc | apply IsS80.drewN | apply IsS80.drew | apply IsS80.set_0 | apply IsS80.set_1 | apply IsS80.set_2 | apply IsS80.set_3 | apply IsS80.set_4 | apply IsS80.set_5 | apply IsS80.set_6) | exact HI0.out), by repeat (first | (with_reducible first | exact HB.out | apply below_alloc | apply pw_below_drewN | apply below_drew1 | refine below_set ?_ (IsS80.ge HI0.out)) | exact HB.out), by repeat (first | (with_reducible first | exact HK.out | apply KeepBut.set_ | apply keep_drewN | apply keep_drew | apply keep_alloc) | exact HK.out)⟩
    · rw [if_neg c5] at H
      exact absurd H (by simp)
  · rw [if_neg c4] at H
    exact absurd H (by simp)

end Go.Proofs.Ytomidomdomjkfaa.PT
