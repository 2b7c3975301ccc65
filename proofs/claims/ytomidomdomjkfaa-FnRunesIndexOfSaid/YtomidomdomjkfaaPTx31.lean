-- Written by this session's own program (wip/tools) out of the translation.
import Derived.Test.YtomidomdomjkfaaPTx0
import Derived.Test.YtomidomdomjkfaaPTx8
import Derived.Test.YtomidomdomjkfaaPTx9
import Derived.Test.YtomidomdomjkfaaPTx30
namespace Go.Proofs.Ytomidomdomjkfaa.PT
open Go.RowKit Go.Proofs.YtomidomdomjkfaaW.PrintWords Go.Proofs.YtomidomdomjkfaaW.PrintLast Go.Proofs.YtomidomdomjkfaaW.PrintMore
attribute [local go_sem] max2_int min2_int max_two min_two max_three min_three max_four min_four   -- for this text's walks alone
set_option linter.unusedVariables false
set_option linter.unusedSimpArgs false

/-! ### laws_FnRunesIndexOf: function 8 -/
mutual
def laws_FnRunesIndexOf.j0 : Nat → ByteArray → ByteArray → Int → Bool → Option (Bool)
  | 0, _, _, _, _ => none
  | k + 1, x0, x1, x2, x18 => if x18 = true then (some true) else ((spec_Clean.f x0 60).bind fun t239 => ((spec_Runes.f t239).bind fun t240 => ((spec_Clean.f x1 60).bind fun t243 => ((spec_Runes.f t243).bind fun t244 => (if (t244.length : Int) = 0 then (laws_FnRunesIndexOf.j1 k x2 t240 (([97] : List Int))) else (laws_FnRunesIndexOf.j1 k x2 t240 t244))))))
def laws_FnRunesIndexOf.j1 : Nat → Int → List Int → List Int → Option (Bool)
  | 0, _, _, _ => none
  | k + 1, x2, x7, x8 => if (IntKind.u64.wrap (wrap64 ((x7.length : Int) + 5))) = 0 then (none) else (laws_FnRunesIndexOf.l0 k (wrap64 ((wrap64 (Int.tmod (IntKind.u64.wrap (x2)) (IntKind.u64.wrap (wrap64 ((x7.length : Int) + 5))))) - 2)) x7 x8 (-1) (wrap64 ((x7.length : Int) - (x8.length : Int))))
def laws_FnRunesIndexOf.l0 : Nat → Int → List Int → List Int → Int → Int → Option (Bool)
  | 0, _, _, _, _, _ => none
  | k + 1, x2, x7, x8, x9, x10 => if x10 ≥ (mx x2 0) then (if 0 ≤ x10 then (if x10 ≤ (wrap64 (x10 + (x8.length : Int))) then (if (wrap64 (x10 + (x8.length : Int))) ≤ (x7.length : Int) then (if (runesBytes ((x7.take ((wrap64 (x10 + (x8.length : Int))) : Int).toNat).drop (x10 : Int).toNat)).toList = (runesBytes x8).toList then (laws_FnRunesIndexOf.l0 k x2 x7 x8 x10 (wrap64 (x10 - 1))) else (laws_FnRunesIndexOf.l0 k x2 x7 x8 x9 (wrap64 (x10 - 1)))) else (none)) else (none)) else (none)) else ((impl_RunesIndexOf.f k x7 x8 x2).bind fun t254 => (some (t254 == x9)))
end
def laws_FnRunesIndexOf.f (k : Nat) (a0 : ByteArray) (a1 : ByteArray) (a2 : Int) : Option (Bool) := if (a0.size : Int) > 2147483647 then (laws_FnRunesIndexOf.j0 k a0 a1 a2 true) else (laws_FnRunesIndexOf.j0 k a0 a1 a2 (decide ((a1.size : Int) > 2147483647)))
theorem laws_FnRunesIndexOf.mono_l : ∀ k, (∀ y0 y1 y2 y3, LeO (laws_FnRunesIndexOf.j0 k y0 y1 y2 y3) (laws_FnRunesIndexOf.j0 (k + 1) y0 y1 y2 y3)) ∧ (∀ y0 y1 y2, LeO (laws_FnRunesIndexOf.j1 k y0 y1 y2) (laws_FnRunesIndexOf.j1 (k + 1) y0 y1 y2)) ∧ (∀ y0 y1 y2 y3 y4, LeO (laws_FnRunesIndexOf.l0 k y0 y1 y2 y3 y4) (laws_FnRunesIndexOf.l0 (k + 1) y0 y1 y2 y3 y4))
  | 0 => ⟨fun _ _ _ _ r h => by simp [laws_FnRunesIndexOf.j0] at h, fun _ _ _ r h => by simp [laws_FnRunesIndexOf.j1] at h, fun _ _ _ _ _ r h => by simp [laws_FnRunesIndexOf.l0] at h⟩
  | k + 1 => by
    obtain ⟨ih0, ih1, ih2⟩ := laws_FnRunesIndexOf.mono_l k
    refine ⟨?_, ?_, ?_⟩
    · intro y0 y1 y2 y3
      unfold laws_FnRunesIndexOf.j0
      repeat' first
      | (with_reducible exact ih0 _ _ _ _)
      | (with_reducible exact ih1 _ _ _)
      | (with_reducible exact ih2 _ _ _ _ _)
      | (with_reducible exact impl_RunesIndexOf.mono _ _ _ _)
      | (with_reducible exact LeO.refl _)
      | (with_reducible exact LeO.none _)
      | (with_reducible refine LeO.ite ?_ ?_)
      | (with_reducible refine LeO.bind ?_ (fun _ => ?_))
      | exact ih0 _ _ _ _
      | exact ih1 _ _ _
      | exact ih2 _ _ _ _ _
      | exact impl_RunesIndexOf.mono _ _ _ _
      | exact LeO.none _
      | refine LeO.ite ?_ ?_
      | refine LeO.bind ?_ (fun _ => ?_)
    · intro y0 y1 y2
      unfold laws_FnRunesIndexOf.j1
      repeat' first
      | (with_reducible exact ih0 _ _ _ _)
      | (with_reducible exact ih1 _ _ _)
      | (with_reducible exact ih2 _ _ _ _ _)
      | (with_reducible exact impl_RunesIndexOf.mono _ _ _ _)
      | (with_reducible exact LeO.refl _)
      | (with_reducible exact LeO.none _)
      | (with_reducible refine LeO.ite ?_ ?_)
      | (with_reducible refine LeO.bind ?_ (fun _ => ?_))
      | exact ih0 _ _ _ _
      | exact ih1 _ _ _
      | exact ih2 _ _ _ _ _
      | exact impl_RunesIndexOf.mono _ _ _ _
      | exact LeO.none _
      | refine LeO.ite ?_ ?_
      | refine LeO.bind ?_ (fun _ => ?_)
    · intro y0 y1 y2 y3 y4
      unfold laws_FnRunesIndexOf.l0
      repeat' first
      | (with_reducible exact ih0 _ _ _ _)
      | (with_reducible exact ih1 _ _ _)
      | (with_reducible exact ih2 _ _ _ _ _)
      | (with_reducible exact impl_RunesIndexOf.mono _ _ _ _)
      | (with_reducible exact LeO.refl _)
      | (with_reducible exact LeO.none _)
      | (with_reducible refine LeO.ite ?_ ?_)
      | (with_reducible refine LeO.bind ?_ (fun _ => ?_))
      | exact ih0 _ _ _ _
      | exact ih1 _ _ _
      | exact ih2 _ _ _ _ _
      | exact impl_RunesIndexOf.mono _ _ _ _
      | exact LeO.none _
      | refine LeO.ite ?_ ?_
      | refine LeO.bind ?_ (fun _ => ?_)
theorem laws_FnRunesIndexOf.mono : ∀ a0 a1 a2 k, LeO (laws_FnRunesIndexOf.f k a0 a1 a2) (laws_FnRunesIndexOf.f (k + 1) a0 a1 a2) := by
  intro a0 a1 a2 k
  obtain ⟨ih0, ih1, ih2⟩ := laws_FnRunesIndexOf.mono_l k
  unfold laws_FnRunesIndexOf.f
  repeat' first
      | (with_reducible exact ih0 _ _ _ _)
      | (with_reducible exact ih1 _ _ _)
      | (with_reducible exact ih2 _ _ _ _ _)
      | (with_reducible exact impl_RunesIndexOf.mono _ _ _ _)
      | (with_reducible exact LeO.refl _)
      | (with_reducible exact LeO.none _)
      | (with_reducible refine LeO.ite ?_ ?_)
      | (with_reducible refine LeO.bind ?_ (fun _ => ?_))
      | exact ih0 _ _ _ _
      | exact ih1 _ _ _
      | exact ih2 _ _ _ _ _
      | exact impl_RunesIndexOf.mono _ _ _ _
      | exact LeO.none _
      | refine LeO.ite ?_ ?_
      | refine LeO.bind ?_ (fun _ => ?_)
set_option maxHeartbeats 8000000 in
set_option maxRecDepth 100000 in
theorem laws_FnRunesIndexOf.calls (k : Nat) (a0 : ByteArray) (a1 : ByteArray) (a2 : Int) (r : Bool) (w : World) (h : laws_FnRunesIndexOf.f k a0 a1 a2 = some r) :
    Calls Try.prog 8 #[.string a0, .string a1, .int .i64 a2] w fun e w' => e = .returned (.bool r) ∧ Below w.heap.size w w' := by
  have HB := Aside0.mk (Below.refl w.heap.size w)
  have H : (if (a0.size : Int) > 2147483647 then (laws_FnRunesIndexOf.j0 k a0 a1 a2 true) else (laws_FnRunesIndexOf.j0 k a0 a1 a2 (decide ((a1.size : Int) > 2147483647)))) = some r := h
  clear h
  have HC4 := Aside0.mk H
  clear H
  go_enter Try.func8, Try.ntmps8
  go_upto_region 1 with (fail)
  repeat (go_quiet (fail); go_upto_region 1 with (fail))
  go_cut [18] (fun v18 wc => ∃ (kq : Nat) (x18_3 : Bool), v18 = .bool x18_3 ∧ Aside0 (laws_FnRunesIndexOf.j0 kq a0 a1 a2 x18_3 = some r) ∧ Aside0 (kq ≤ k) ∧ Aside0 (Below w.heap.size w wc))
  case first =>
    have H := HC4.out
    clear HC4
    by_cases c5 : (a0.size : Int) > 2147483647
    · rw [if_pos c5] at H
      have c5b0 : decide (2147483647 < (a0.size : Int)) = true := decide_eq_true c5
      have c5b1 : decide (2147483647 < a0.size) = true := decide_eq_true (by omega)
      clear c5
      (first | rw [c5b0] | (simp only [i64_w, i32_w]; rw [c5b0]) | rw [c5b2] | skip)
      have H' := Aside0.mk H
      clear H
      go_wp2
      repeat (go_quiet (fail); try go_wp2)
      go_meet
      case rel => exact ⟨_, (true), (by first | rfl | (simp; done) | (simp [*]; done)), H', ⟨by first | omega | exact Nat.le_refl _⟩, ⟨by repeat (first | (with_reducible first | exact HB.out | apply below_alloc | apply pw_below_drewN | apply below_drew1) | exact HB.out)⟩⟩
    · rw [if_neg c5] at H
      have c5b0 : decide (2147483647 < (a0.size : Int)) = false := decide_eq_false c5
      have c5b1 : decide (2147483647 < a0.size) = false := decide_eq_false (by omega)
      clear c5
      (first | rw [c5b0] | (simp only [i64_w, i32_w]; rw [c5b0]) | rw [c5b2] | skip)
      have H' := Aside0.mk H
      clear H
      go_wp2
      repeat (go_quiet (fail); try go_wp2)
      go_meet
      case rel => exact ⟨_, (decide ((a1.size : Int) > 2147483647)), (by first | rfl | (simp; done) | (simp [*]; done)), H', ⟨by first | omega | exact Nat.le_refl _⟩, ⟨by repeat (first | (with_reducible first | exact HB.out | apply below_alloc | apply pw_below_drewN | apply below_drew1) | exact HB.out)⟩⟩
  case rest =>
    clear HC4
    try clear p2
    try clear c5
    try clear c5b0
    try clear c5b1
    try clear c5b2
    obtain ⟨kq, x18_3, rfl, HA, HJ3, HB⟩ := hcut
    cases kq with
    | zero => exact absurd HA.out (by simp [laws_FnRunesIndexOf.j0])
    | succ kj3 =>
      have H := HA.out
      clear HA
      simp only [laws_FnRunesIndexOf.j0] at H
      by_cases c6 : x18_3 = true
      · subst c6
        have H1 : (some true) = some r := by rw [if_pos rfl] at H; exact H
        clear H
        have H := H1
        clear H1
        obtain rfl := Option.some.inj H
        go_wp2
        repeat (go_quiet (fail); try go_wp2)
        go_ret
        exact ⟨by first | rfl | (simp [errW_none, errW_some] <;> rfl) | (simp [*, errW_none, errW_some] <;> rfl), by repeat (first | (with_reducible first | exact HB.out | apply below_alloc | apply pw_below_drewN | apply below_drew1) | exact HB.out)⟩
      · replace c6 := Bool.eq_false_iff.mpr c6
        subst c6
        have H1 : ((spec_Clean.f a0 60).bind fun t239 => ((spec_Runes.f t239).bind fun t240 => ((spec_Clean.f a1 60).bind fun t243 => ((spec_Runes.f t243).bind fun t244 => (if (t244.length : Int) = 0 then (laws_FnRunesIndexOf.j1 kj3 a2 t240 (([97] : List Int))) else (laws_FnRunesIndexOf.j1 kj3 a2 t240 t244)))))) = some r := by rw [if_neg (show ¬ (false = true) by decide)] at H; exact H
        clear H
        have H := H1
        clear H1
        replace H := Option.bind_eq_some_iff.mp H
        obtain ⟨t239, A70, H⟩ := H
        replace H : ((spec_Runes.f t239).bind fun t240 => ((spec_Clean.f a1 60).bind fun t243 => ((spec_Runes.f t243).bind fun t244 => (if (t244.length : Int) = 0 then (laws_FnRunesIndexOf.j1 kj3 a2 t240 (([97] : List Int))) else (laws_FnRunesIndexOf.j1 kj3 a2 t240 t244))))) = some r := H
        have A7 := Aside0.mk A70
        clear A70
        replace H := Option.bind_eq_some_iff.mp H
        obtain ⟨t240, A80, H⟩ := H
        replace H : ((spec_Clean.f a1 60).bind fun t243 => ((spec_Runes.f t243).bind fun t244 => (if (t244.length : Int) = 0 then (laws_FnRunesIndexOf.j1 kj3 a2 t240 (([97] : List Int))) else (laws_FnRunesIndexOf.j1 kj3 a2 t240 t244)))) = some r := H
        have A8 := Aside0.mk A80
        clear A80
        replace H := Option.bind_eq_some_iff.mp H
        obtain ⟨t243, A90, H⟩ := H
        replace H : ((spec_Runes.f t243).bind fun t244 => (if (t244.length : Int) = 0 then (laws_FnRunesIndexOf.j1 kj3 a2 t240 (([97] : List Int))) else (laws_FnRunesIndexOf.j1 kj3 a2 t240 t244))) = some r := H
        have A9 := Aside0.mk A90
        clear A90
        replace H := Option.bind_eq_some_iff.mp H
        obtain ⟨t244, A100, H⟩ := H
        replace H : (if (t244.length : Int) = 0 then (laws_FnRunesIndexOf.j1 kj3 a2 t240 (([97] : List Int))) else (laws_FnRunesIndexOf.j1 kj3 a2 t240 t244)) = some r := H
        have A10 := Aside0.mk A100
        clear A100
        have HC11 := Aside0.mk H
        clear H
        go_upto_if 27 with (first | (go_at_call 17; (with_reducible refine (spec_Clean.calls a0 60 t239 _ A7.out).mono ?_); rintro e w12 ⟨rfl, hb⟩; have n0_ := Aside0.mk (below_step (by repeat (first | (with_reducible first | exact HB.out | apply below_alloc | apply pw_below_drewN | apply below_drew1) | exact HB.out)) hb); clear HB; have HB := n0_; clear n0_; (try clear hb); (try clear hb2); (try clear hk); (try clear hi)) | (go_at_call 20; (with_reducible refine (spec_Runes.calls t239 t240 _ A8.out).mono ?_); rintro e w13 ⟨v241, rfl, ho0, hb⟩; have n0_ := Aside0.mk (Kd.R_lower ho0 (below_size (by repeat (first | (with_reducible first | exact HB.out | apply below_alloc | apply pw_below_drewN | apply below_drew1) | exact HB.out)))); have n1_ := Aside0.mk (below_step (by repeat (first | (with_reducible first | exact HB.out | apply below_alloc | apply pw_below_drewN | apply below_drew1) | exact HB.out)) hb); clear HB; have HO242 := n0_; have HB := n1_; clear n0_ n1_; (try clear hb); (try clear hb2); (try clear hk); (try clear hi); (try clear ho0)) | (go_at_call 17; (with_reducible refine (spec_Clean.calls a1 60 t243 _ A9.out).mono ?_); rintro e w14 ⟨rfl, hb⟩; have n0_ := Aside0.mk (Kd.R_below (by (with_reducible repeat (first | apply Kd.R_alloc | apply Kd.R_drewN | apply Kd.R_drew)); exact HO242.out) hb); have n1_ := Aside0.mk (below_step (by repeat (first | (with_reducible first | exact HB.out | apply below_alloc | apply pw_below_drewN | apply below_drew1) | exact HB.out)) hb); clear HO242; clear HB; have HO242 := n0_; have HB := n1_; clear n0_ n1_; (try clear hb); (try clear hb2); (try clear hk); (try clear hi)) | (go_at_call 20; (with_reducible refine (spec_Runes.calls t243 t244 _ A10.out).mono ?_); rintro e w15 ⟨v245, rfl, ho0, hb⟩; have n0_ := Aside0.mk (Kd.R_elder' (by (with_reducible repeat (first | apply Kd.R_alloc | apply Kd.R_drewN | apply Kd.R_drew)); exact HO242.out) (Kd.R_base ho0) hb); have n1_ := Aside0.mk (Kd.R_lower (Kd.R_new' ho0 (Kd.R_lt (by (with_reducible repeat (first | apply Kd.R_alloc | apply Kd.R_drewN | apply Kd.R_drew)); exact HO242.out))) (below_size (by repeat (first | (with_reducible first | exact HB.out | apply below_alloc | apply pw_below_drewN | apply below_drew1) | exact HB.out)))); have n2_ := Aside0.mk (below_step (by repeat (first | (with_reducible first | exact HB.out | apply below_alloc | apply pw_below_drewN | apply below_drew1) | exact HB.out)) hb); clear HO242; clear HB; have HO242 := n0_; have HO246 := n1_; have HB := n2_; clear n0_ n1_ n2_; (try clear hb); (try clear hb2); (try clear hk); (try clear hi); (try clear ho0); obtain ⟨Ao16, co16, eo16⟩ := Kd.R_slice HO246.out; subst eo16))
        repeat (go_quiet (first | (go_at_call 17; (with_reducible refine (spec_Clean.calls a0 60 t239 _ A7.out).mono ?_); rintro e w12 ⟨rfl, hb⟩; have n0_ := Aside0.mk (below_step (by repeat (first | (with_reducible first | exact HB.out | apply below_alloc | apply pw_below_drewN | apply below_drew1) | exact HB.out)) hb); clear HB; have HB := n0_; clear n0_; (try clear hb); (try clear hb2); (try clear hk); (try clear hi)) | (go_at_call 20; (with_reducible refine (spec_Runes.calls t239 t240 _ A8.out).mono ?_); rintro e w13 ⟨v241, rfl, ho0, hb⟩; have n0_ := Aside0.mk (Kd.R_lower ho0 (below_size (by repeat (first | (with_reducible first | exact HB.out | apply below_alloc | apply pw_below_drewN | apply below_drew1) | exact HB.out)))); have n1_ := Aside0.mk (below_step (by repeat (first | (with_reducible first | exact HB.out | apply below_alloc | apply pw_below_drewN | apply below_drew1) | exact HB.out)) hb); clear HB; have HO242 := n0_; have HB := n1_; clear n0_ n1_; (try clear hb); (try clear hb2); (try clear hk); (try clear hi); (try clear ho0)) | (go_at_call 17; (with_reducible refine (spec_Clean.calls a1 60 t243 _ A9.out).mono ?_); rintro e w14 ⟨rfl, hb⟩; have n0_ := Aside0.mk (Kd.R_below (by (with_reducible repeat (first | apply Kd.R_alloc | apply Kd.R_drewN | apply Kd.R_drew)); exact HO242.out) hb); have n1_ := Aside0.mk (below_step (by repeat (first | (with_reducible first | exact HB.out | apply below_alloc | apply pw_below_drewN | apply below_drew1) | exact HB.out)) hb); clear HO242; clear HB; have HO242 := n0_; have HB := n1_; clear n0_ n1_; (try clear hb); (try clear hb2); (try clear hk); (try clear hi)) | (go_at_call 20; (with_reducible refine (spec_Runes.calls t243 t244 _ A10.out).mono ?_); rintro e w15 ⟨v245, rfl, ho0, hb⟩; have n0_ := Aside0.mk (Kd.R_elder' (by (with_reducible repeat (first | apply Kd.R_alloc | apply Kd.R_drewN | apply Kd.R_drew)); exact HO242.out) (Kd.R_base ho0) hb); have n1_ := Aside0.mk (Kd.R_lower (Kd.R_new' ho0 (Kd.R_lt (by (with_reducible repeat (first | apply Kd.R_alloc | apply Kd.R_drewN | apply Kd.R_drew)); exact HO242.out))) (below_size (by repeat (first | (with_reducible first | exact HB.out | apply below_alloc | apply pw_below_drewN | apply below_drew1) | exact HB.out)))); have n2_ := Aside0.mk (below_step (by repeat (first | (with_reducible first | exact HB.out | apply below_alloc | apply pw_below_drewN | apply below_drew1) | exact HB.out)) hb); clear HO242; clear HB; have HO242 := n0_; have HO246 := n1_; have HB := n2_; clear n0_ n1_ n2_; (try clear hb); (try clear hb2); (try clear hk); (try clear hi); (try clear ho0); obtain ⟨Ao16, co16, eo16⟩ := Kd.R_slice HO246.out; subst eo16)); go_upto_if 27 with (first | (go_at_call 17; (with_reducible refine (spec_Clean.calls a0 60 t239 _ A7.out).mono ?_); rintro e w12 ⟨rfl, hb⟩; have n0_ := Aside0.mk (below_step (by repeat (first | (with_reducible first | exact HB.out | apply below_alloc | apply pw_below_drewN | apply below_drew1) | exact HB.out)) hb); clear HB; have HB := n0_; clear n0_; (try clear hb); (try clear hb2); (try clear hk); (try clear hi)) | (go_at_call 20; (with_reducible refine (spec_Runes.calls t239 t240 _ A8.out).mono ?_); rintro e w13 ⟨v241, rfl, ho0, hb⟩; have n0_ := Aside0.mk (Kd.R_lower ho0 (below_size (by repeat (first | (with_reducible first | exact HB.out | apply below_alloc | apply pw_below_drewN | apply below_drew1) | exact HB.out)))); have n1_ := Aside0.mk (below_step (by repeat (first | (with_reducible first | exact HB.out | apply below_alloc | apply pw_below_drewN | apply below_drew1) | exact HB.out)) hb); clear HB; have HO242 := n0_; have HB := n1_; clear n0_ n1_; (try clear hb); (try clear hb2); (try clear hk); (try clear hi); (try clear ho0)) | (go_at_call 17; (with_reducible refine (spec_Clean.calls a1 60 t243 _ A9.out).mono ?_); rintro e w14 ⟨rfl, hb⟩; have n0_ := Aside0.mk (Kd.R_below (by (with_reducible repeat (first | apply Kd.R_alloc | apply Kd.R_drewN | apply Kd.R_drew)); exact HO242.out) hb); have n1_ := Aside0.mk (below_step (by repeat (first | (with_reducible first | exact HB.out | apply below_alloc | apply pw_below_drewN | apply below_drew1) | exact HB.out)) hb); clear HO242; clear HB; have HO242 := n0_; have HB := n1_; clear n0_ n1_; (try clear hb); (try clear hb2); (try clear hk); (try clear hi)) | (go_at_call 20; (with_reducible refine (spec_Runes.calls t243 t244 _ A10.out).mono ?_); rintro e w15 ⟨v245, rfl, ho0, hb⟩; have n0_ := Aside0.mk (Kd.R_elder' (by (with_reducible repeat (first | apply Kd.R_alloc | apply Kd.R_drewN | apply Kd.R_drew)); exact HO242.out) (Kd.R_base ho0) hb); have n1_ := Aside0.mk (Kd.R_lower (Kd.R_new' ho0 (Kd.R_lt (by (with_reducible repeat (first | apply Kd.R_alloc | apply Kd.R_drewN | apply Kd.R_drew)); exact HO242.out))) (below_size (by repeat (first | (with_reducible first | exact HB.out | apply below_alloc | apply pw_below_drewN | apply below_drew1) | exact HB.out)))); have n2_ := Aside0.mk (below_step (by repeat (first | (with_reducible first | exact HB.out | apply below_alloc | apply pw_below_drewN | apply below_drew1) | exact HB.out)) hb); clear HO242; clear HB; have HO242 := n0_; have HO246 := n1_; have HB := n2_; clear n0_ n1_ n2_; (try clear hb); (try clear hb2); (try clear hk); (try clear hi); (try clear ho0); obtain ⟨Ao16, co16, eo16⟩ := Kd.R_slice HO246.out; subst eo16)))
        (try simp only [Act.put, List.setIfInBounds_toArray, List.set_cons_zero, List.set_cons_succ])
        go_cut [8] (fun v8 wc => ∃ (kq : Nat) (x8_10 : List Int), Aside0 (laws_FnRunesIndexOf.j1 kq a2 t240 x8_10 = some r) ∧ Aside0 (kq ≤ kj3) ∧ Aside0 (Kd.R (Kd.int .i32) 21 wc w.heap.size (fun k_ => some k_ ≠ (v8 : Value).ownBlock) v241 t240) ∧ Aside0 (Kd.R (Kd.int .i32) 21 wc w.heap.size (fun k_ => some k_ ≠ (v241 : Value).ownBlock) v8 x8_10) ∧ Aside0 (Below w.heap.size w wc))
        case first =>
          have H := HC11.out
          clear HC11
          by_cases c17 : (t244.length : Int) = 0
          · rw [if_pos c17] at H
            have c17b0 : ((t244.length : Int) == 0) = true := beq_iff_eq.mpr c17
            have c17b1 : ((t244.length : Int) != 0) = false := bne_eq_false_iff_eq.mpr c17
            clear c17
            (first | rw [c17b0] | (simp only [i64_w, i32_w]; rw [c17b0]) | rw [c17b2] | skip)
            obtain ⟨y247, hy247⟩ : ∃ y_ : List Int, y_ = (([97] : List Int)) := ⟨_, rfl⟩
            replace H : (laws_FnRunesIndexOf.j1 kj3 a2 t240 y247) = some r := by first | (rw [hy247]; with_reducible exact H) | (have H2_ := (Option.bind_some _ _).symm.trans H; rw [hy247]; with_reducible exact H2_) | (have H2_ := (Option.bind_some _ _).symm.trans H; with_reducible exact H2_) | with_reducible exact H | (rw [hy247]; exact H) | exact H
            have Ny247 := Aside0.mk hy247
            clear hy247
            have H' := Aside0.mk H
            clear H
            go_wp2_with (first | ((with_reducible refine gate_dst (N := 28) rfl ?_); (try (refine gate_guard (by rfl) ?_; dsimp only)); refine Kd.R_lit (Kd.int .i32) _ 21 ?hg (N := 28) ?hd (xs := ([97] : List Int)) (inner := [.int .i32 97]) (ok := fun _ => True) (okp := fun _ => True) ?hr ?hp (fun _ hk => hk) trivial (Below.refl _ _) (Nat.le_refl _) (by simp) ?_; (case hd => rfl); (case hg => rfl); (case hr => first | (go_simp; done) | (go_simp; rfl)); (case hp => exact (Reps.one (show Kd.M (Kd.int .i32) _ _ _ 97 [.int .i32 97] from rfl) (Reps.none _ _))); intro v248 w18 ho19 hb hg_ hnew_; clear hg_ hnew_; (first | rw [← Ny247.out] at ho19 | (simp only [Int.reduceToNat] at ho19; rw [← Ny247.out] at ho19)); have n0_ := Aside0.mk (Kd.R_elder' (by (with_reducible repeat (first | apply Kd.R_alloc | apply Kd.R_drewN | apply Kd.R_drew)); exact HO242.out) (Kd.R_base ho19) hb); have n1_ := Aside0.mk (Kd.R_elder' (by (with_reducible repeat (first | apply Kd.R_alloc | apply Kd.R_drewN | apply Kd.R_drew)); exact HO246.out) (Kd.R_base ho19) hb); have n2_ := Aside0.mk (Kd.R_lower (Kd.R_new' (Kd.R_new' ho19 (Kd.R_lt (by (with_reducible repeat (first | apply Kd.R_alloc | apply Kd.R_drewN | apply Kd.R_drew)); exact HO242.out))) (Kd.R_lt (by (with_reducible repeat (first | apply Kd.R_alloc | apply Kd.R_drewN | apply Kd.R_drew)); exact HO246.out))) (below_size (by repeat (first | (with_reducible first | exact HB.out | apply below_alloc | apply pw_below_drewN | apply below_drew1) | exact HB.out)))); have n3_ := Aside0.mk (below_step (by repeat (first | (with_reducible first | exact HB.out | apply below_alloc | apply pw_below_drewN | apply below_drew1) | exact HB.out)) hb); clear HO242; clear HO246; clear HB; have HO242 := n0_; have HO246 := n1_; have HO249 := n2_; have HB := n3_; clear n0_ n1_ n2_ n3_; clear hb ho19))
            repeat (go_quiet (first | ((with_reducible refine gate_dst (N := 28) rfl ?_); (try (refine gate_guard (by rfl) ?_; dsimp only)); refine Kd.R_lit (Kd.int .i32) _ 21 ?hg (N := 28) ?hd (xs := ([97] : List Int)) (inner := [.int .i32 97]) (ok := fun _ => True) (okp := fun _ => True) ?hr ?hp (fun _ hk => hk) trivial (Below.refl _ _) (Nat.le_refl _) (by simp) ?_; (case hd => rfl); (case hg => rfl); (case hr => first | (go_simp; done) | (go_simp; rfl)); (case hp => exact (Reps.one (show Kd.M (Kd.int .i32) _ _ _ 97 [.int .i32 97] from rfl) (Reps.none _ _))); intro v248 w18 ho19 hb hg_ hnew_; clear hg_ hnew_; (first | rw [← Ny247.out] at ho19 | (simp only [Int.reduceToNat] at ho19; rw [← Ny247.out] at ho19)); have n0_ := Aside0.mk (Kd.R_elder' (by (with_reducible repeat (first | apply Kd.R_alloc | apply Kd.R_drewN | apply Kd.R_drew)); exact HO242.out) (Kd.R_base ho19) hb); have n1_ := Aside0.mk (Kd.R_elder' (by (with_reducible repeat (first | apply Kd.R_alloc | apply Kd.R_drewN | apply Kd.R_drew)); exact HO246.out) (Kd.R_base ho19) hb); have n2_ := Aside0.mk (Kd.R_lower (Kd.R_new' (Kd.R_new' ho19 (Kd.R_lt (by (with_reducible repeat (first | apply Kd.R_alloc | apply Kd.R_drewN | apply Kd.R_drew)); exact HO242.out))) (Kd.R_lt (by (with_reducible repeat (first | apply Kd.R_alloc | apply Kd.R_drewN | apply Kd.R_drew)); exact HO246.out))) (below_size (by repeat (first | (with_reducible first | exact HB.out | apply below_alloc | apply pw_below_drewN | apply below_drew1) | exact HB.out)))); have n3_ := Aside0.mk (below_step (by repeat (first | (with_reducible first | exact HB.out | apply below_alloc | apply pw_below_drewN | apply below_drew1) | exact HB.out)) hb); clear HO242; clear HO246; clear HB; have HO242 := n0_; have HO246 := n1_; have HO249 := n2_; have HB := n3_; clear n0_ n1_ n2_ n3_; clear hb ho19)); try go_wp2_with (first | ((with_reducible refine gate_dst (N := 28) rfl ?_); (try (refine gate_guard (by rfl) ?_; dsimp only)); refine Kd.R_lit (Kd.int .i32) _ 21 ?hg (N := 28) ?hd (xs := ([97] : List Int)) (inner := [.int .i32 97]) (ok := fun _ => True) (okp := fun _ => True) ?hr ?hp (fun _ hk => hk) trivial (Below.refl _ _) (Nat.le_refl _) (by simp) ?_; (case hd => rfl); (case hg => rfl); (case hr => first | (go_simp; done) | (go_simp; rfl)); (case hp => exact (Reps.one (show Kd.M (Kd.int .i32) _ _ _ 97 [.int .i32 97] from rfl) (Reps.none _ _))); intro v248 w18 ho19 hb hg_ hnew_; clear hg_ hnew_; (first | rw [← Ny247.out] at ho19 | (simp only [Int.reduceToNat] at ho19; rw [← Ny247.out] at ho19)); have n0_ := Aside0.mk (Kd.R_elder' (by (with_reducible repeat (first | apply Kd.R_alloc | apply Kd.R_drewN | apply Kd.R_drew)); exact HO242.out) (Kd.R_base ho19) hb); have n1_ := Aside0.mk (Kd.R_elder' (by (with_reducible repeat (first | apply Kd.R_alloc | apply Kd.R_drewN | apply Kd.R_drew)); exact HO246.out) (Kd.R_base ho19) hb); have n2_ := Aside0.mk (Kd.R_lower (Kd.R_new' (Kd.R_new' ho19 (Kd.R_lt (by (with_reducible repeat (first | apply Kd.R_alloc | apply Kd.R_drewN | apply Kd.R_drew)); exact HO242.out))) (Kd.R_lt (by (with_reducible repeat (first | apply Kd.R_alloc | apply Kd.R_drewN | apply Kd.R_drew)); exact HO246.out))) (below_size (by repeat (first | (with_reducible first | exact HB.out | apply below_alloc | apply pw_below_drewN | apply below_drew1) | exact HB.out)))); have n3_ := Aside0.mk (below_step (by repeat (first | (with_reducible first | exact HB.out | apply below_alloc | apply pw_below_drewN | apply below_drew1) | exact HB.out)) hb); clear HO242; clear HO246; clear HB; have HO242 := n0_; have HO246 := n1_; have HO249 := n2_; have HB := n3_; clear n0_ n1_ n2_ n3_; clear hb ho19)))
            go_meet
            case rel => exact ⟨_, (y247), H', ⟨by have := HJ3.out; first | omega | exact Nat.le_refl _⟩, ⟨by (with_reducible repeat (first | apply Kd.R_alloc | apply Kd.R_drewN | apply Kd.R_drew)); exact Kd.R_mono HO242.out (fun _ hk => hk.2)⟩, ⟨by (with_reducible repeat (first | apply Kd.R_alloc | apply Kd.R_drewN | apply Kd.R_drew)); exact Kd.R_mono HO249.out (fun _ hk => hk.1.2)⟩, ⟨by repeat (first | (with_reducible first | exact HB.out | apply below_alloc | apply pw_below_drewN | apply below_drew1) | exact HB.out)⟩⟩
          · rw [if_neg c17] at H
            have c17b0 : ((t244.length : Int) == 0) = false := beq_eq_false_iff_ne.mpr c17
            have c17b1 : ((t244.length : Int) != 0) = true := bne_iff_ne.mpr c17
            have c17b2 : ¬ (t244 = []) := fun h_ => c17 (by rw [h_]; rfl)
            (first | rw [c17b0] | (simp only [i64_w, i32_w]; rw [c17b0]) | rw [c17b2] | skip)
            have H' := Aside0.mk H
            clear H
            go_wp2
            repeat (go_quiet (fail); try go_wp2)
            go_meet
            case rel => exact ⟨_, (t244), H', ⟨by have := HJ3.out; first | omega | exact Nat.le_refl _⟩, ⟨by (with_reducible repeat (first | apply Kd.R_alloc | apply Kd.R_drewN | apply Kd.R_drew)); exact Kd.R_mono HO242.out (fun _ hk => hk.2)⟩, ⟨by (with_reducible repeat (first | apply Kd.R_alloc | apply Kd.R_drewN | apply Kd.R_drew)); exact Kd.R_mono HO246.out (fun _ hk => hk.2)⟩, ⟨by repeat (first | (with_reducible first | exact HB.out | apply below_alloc | apply pw_below_drewN | apply below_drew1) | exact HB.out)⟩⟩
        case rest =>
          clear HC11
          try clear c1
          try clear p2
          try clear c5
          try clear c5b0
          try clear c5b1
          try clear c5b2
          try clear c6
          try clear c8
          try clear c17
          try clear c17b0
          try clear c17b1
          try clear c17b2
          try clear p2
          obtain ⟨kq, x8_10, HA, HJ10, HO_7, HO_8, HB⟩ := hcut
          cases kq with
          | zero => exact absurd HA.out (by simp [laws_FnRunesIndexOf.j1])
          | succ kj10 =>
            have H := HA.out
            clear HA
            simp only [laws_FnRunesIndexOf.j1] at H
            by_cases c20 : (IntKind.u64.wrap (wrap64 ((t240.length : Int) + 5))) = 0
            · rw [if_pos c20] at H
              exact absurd H (by simp)
            · rw [if_neg c20] at H
              have c20b0 : ((IntKind.u64.wrap (wrap64 ((t240.length : Int) + 5))) == 0) = false := beq_eq_false_iff_ne.mpr c20
              have c20b1 : ((IntKind.u64.wrap (wrap64 ((t240.length : Int) + 5))) != 0) = true := bne_iff_ne.mpr c20
              have H' := Aside0.mk H
              clear H
              obtain ⟨Ao21, co21, eo21⟩ := Kd.R_slice HO_7.out
              subst eo21
              obtain ⟨Ao22, co22, eo22⟩ := Kd.R_slice HO_8.out
              subst eo22
              go_wp2
              repeat (go_quiet (fail); try go_wp2)
              go_loopg [9, 10] kj10 (fun kq v9 v10 w' => ∃ (x9_3 : Int) (x10_3 : Int), v9 = .int .i64 x9_3 ∧ v10 = .int .i64 x10_3 ∧ Aside0 (laws_FnRunesIndexOf.l0 kq (wrap64 ((wrap64 (Int.tmod (IntKind.u64.wrap (a2)) (IntKind.u64.wrap (wrap64 ((t240.length : Int) + 5))))) - 2)) t240 x8_10 x9_3 x10_3 = some r) ∧ Aside0 (kq ≤ kj10) ∧ Aside0 (Kd.R (Kd.int .i32) 21 w' w.heap.size (fun k_ => some k_ ≠ ((.slice Ao22 x8_10.length co22) : Value).ownBlock) (.slice Ao21 t240.length co21) t240) ∧ Aside0 (Kd.R (Kd.int .i32) 21 w' w.heap.size (fun k_ => some k_ ≠ ((.slice Ao21 t240.length co21) : Value).ownBlock) (.slice Ao22 x8_10.length co22) x8_10) ∧ Aside0 (Below w.heap.size w w'))
              case atStart => exact ⟨((-1)), (wrap64 ((t240.length : Int) - (x8_10.length : Int))), (by first | rfl | (simp; done) | (simp [*]; done)), (by first | rfl | (simp; done) | (simp [*]; done)), H', ⟨Nat.le_refl _⟩, ⟨by (with_reducible repeat (first | apply Kd.R_alloc | apply Kd.R_drewN | apply Kd.R_drew)); exact HO_7.out⟩, ⟨by (with_reducible repeat (first | apply Kd.R_alloc | apply Kd.R_drewN | apply Kd.R_drew)); exact HO_8.out⟩, ⟨by repeat (first | (with_reducible first | exact HB.out | apply below_alloc | apply pw_below_drewN | apply below_drew1) | exact HB.out)⟩⟩
              case round =>
                clear H'
                try clear c1
                try clear c2
                try clear p2
                try clear c5
                try clear c5b0
                try clear c5b1
                try clear c5b2
                try clear c6
                try clear p6
                try clear c8
                try clear c17
                try clear c17b0
                try clear c17b1
                try clear c17b2
                try clear c20
                try clear c20b0
                try clear c20b1
                try clear p2
                obtain ⟨x9_3, x10_3, rfl, rfl, HA, HK3, HO_7, HO_8, HB⟩ := hrel
                cases gk with
                | zero => exact absurd HA.out (by simp [laws_FnRunesIndexOf.l0])
                | succ k3 =>
                  have H := HA.out
                  clear HA
                  simp only [laws_FnRunesIndexOf.l0] at H
                  obtain ⟨ji23, hji23⟩ : ∃ j_ : Int, (mx (wrap64 ((wrap64 (Int.tmod (IntKind.u64.wrap (a2)) (IntKind.u64.wrap (wrap64 ((t240.length : Int) + 5))))) - 2)) 0) = j_ := ⟨_, rfl⟩
                  replace H : (if x10_3 ≥ (ji23) then (if 0 ≤ x10_3 then (if x10_3 ≤ (wrap64 (x10_3 + (x8_10.length : Int))) then (if (wrap64 (x10_3 + (x8_10.length : Int))) ≤ (t240.length : Int) then (if (runesBytes ((t240.take ((wrap64 (x10_3 + (x8_10.length : Int))) : Int).toNat).drop (x10_3 : Int).toNat)).toList = (runesBytes x8_10).toList then (laws_FnRunesIndexOf.l0 k3 (wrap64 ((wrap64 (Int.tmod (IntKind.u64.wrap (a2)) (IntKind.u64.wrap (wrap64 ((t240.length : Int) + 5))))) - 2)) t240 x8_10 x10_3 (wrap64 (x10_3 - 1))) else (laws_FnRunesIndexOf.l0 k3 (wrap64 ((wrap64 (Int.tmod (IntKind.u64.wrap (a2)) (IntKind.u64.wrap (wrap64 ((t240.length : Int) + 5))))) - 2)) t240 x8_10 x9_3 (wrap64 (x10_3 - 1)))) else (none)) else (none)) else (none)) else ((impl_RunesIndexOf.f k3 t240 x8_10 (wrap64 ((wrap64 (Int.tmod (IntKind.u64.wrap (a2)) (IntKind.u64.wrap (wrap64 ((t240.length : Int) + 5))))) - 2))).bind fun t254 => (some (t254 == x9_3)))) = some r := by first | (rw [hji23] at H; exact H) | (simp only [hji23] at H ⊢; exact H)
                  have hji23_ : (if (wrap64 ((wrap64 (Int.tmod (IntKind.u64.wrap (a2)) (IntKind.u64.wrap (wrap64 ((t240.length : Int) + 5))))) - 2)) < 0 then 0 else (wrap64 ((wrap64 (Int.tmod (IntKind.u64.wrap (a2)) (IntKind.u64.wrap (wrap64 ((t240.length : Int) + 5))))) - 2))) = ji23 := hji23
                  by_cases c24 : x10_3 ≥ (ji23)
                  · rw [if_pos c24] at H
                    have c24b0 : decide ((ji23) ≤ x10_3) = true := decide_eq_true c24
                    clear c24
                    by_cases c25 : 0 ≤ x10_3
                    · rw [if_pos c25] at H
                      have c25b0 := eq_true c25
                      have c25b1 : decide (0 ≤ x10_3) = true := decide_eq_true c25
                      clear c25
                      by_cases c26 : x10_3 ≤ (wrap64 (x10_3 + (x8_10.length : Int)))
                      · rw [if_pos c26] at H
                        have c26b0 := eq_true c26
                        have c26b1 : decide (x10_3 ≤ (wrap64 (x10_3 + (x8_10.length : Int)))) = true := decide_eq_true c26
                        by_cases c27 : (wrap64 (x10_3 + (x8_10.length : Int))) ≤ (t240.length : Int)
                        · rw [if_pos c27] at H
                          have c27b0 := eq_true c27
                          have c27b1 : decide ((wrap64 (x10_3 + (x8_10.length : Int))) ≤ (t240.length : Int)) = true := decide_eq_true c27
                          obtain ⟨y250, hy250⟩ : ∃ y_ : List Int, y_ = ((t240.take ((wrap64 (x10_3 + (x8_10.length : Int))) : Int).toNat).drop (x10_3 : Int).toNat) := ⟨_, rfl⟩
                          replace H : (if (runesBytes y250).toList = (runesBytes x8_10).toList then (laws_FnRunesIndexOf.l0 k3 (wrap64 ((wrap64 (Int.tmod (IntKind.u64.wrap (a2)) (IntKind.u64.wrap (wrap64 ((t240.length : Int) + 5))))) - 2)) t240 x8_10 x10_3 (wrap64 (x10_3 - 1))) else (laws_FnRunesIndexOf.l0 k3 (wrap64 ((wrap64 (Int.tmod (IntKind.u64.wrap (a2)) (IntKind.u64.wrap (wrap64 ((t240.length : Int) + 5))))) - 2)) t240 x8_10 x9_3 (wrap64 (x10_3 - 1)))) = some r := by first | (rw [hy250]; with_reducible exact H) | (have H2_ := (Option.bind_some _ _).symm.trans H; rw [hy250]; with_reducible exact H2_) | (have H2_ := (Option.bind_some _ _).symm.trans H; with_reducible exact H2_) | with_reducible exact H | (rw [hy250]; exact H) | exact H
                          have Ny250 := Aside0.mk hy250
                          clear hy250
                          by_cases c28 : (runesBytes y250).toList = (runesBytes x8_10).toList
                          · rw [if_pos c28] at H
                            have c28b0 : ((runesBytes y250).toList == (runesBytes x8_10).toList) = true := beq_iff_eq.mpr c28
                            have c28b1 : ((runesBytes y250).toList != (runesBytes x8_10).toList) = false := bne_eq_false_iff_eq.mpr c28
                            clear c28
                            have H' := Aside0.mk H
                            clear H
                            have q29 : ((wrap64 (x10_3 + (x8_10.length : Int))) : Int) ≤ ((t240.length : Int) : Int) := of_decide_eq_true (by first | (with_reducible assumption) | assumption)
                            obtain ⟨i029, hi029, _, hsz29, _⟩ := info_parts info21
                            have hroom29 : t240.length ≤ co21 := (Kd.R_reads' HO_7.out).2.1
                            have hC29 : Kd.C (Kd.int .i32) _ Ao21 t240.length t240 := (Kd.R_reads' HO_7.out).2.2
                            have ql29 : (x10_3 : Int) ≤ ((wrap64 (x10_3 + (x8_10.length : Int))) : Int) := of_decide_eq_true (by first | (with_reducible assumption) | assumption)
                            have q029 : (0 : Int) ≤ (x10_3 : Int) := of_decide_eq_true (by first | (with_reducible assumption) | assumption)
                            have hcut29 := cut_mid (P := Try.prog) 30 21 .i64 .i64 Try.underlying30 hi029 1 hsz29 Ao21 t240.length co21 x10_3 (wrap64 (x10_3 + (x8_10.length : Int))) q029 ql29 q29 hroom29
                            have hr29 := Kd.C_mid (lo := (x10_3 : Int).toNat) (hi := ((wrap64 (x10_3 + (x8_10.length : Int))) : Int).toNat) (c := co21) hC29 (by omega) (by omega) hroom29
                            obtain ⟨A29, hA29⟩ : ∃ A1, A1 = (if co21 = (x10_3 : Int).toNat then Ao21 else (Ao21 : Option Addr).map (·.add ((x10_3 : Int).toNat * 1))) := ⟨_, rfl⟩
                            obtain ⟨c29, hc29⟩ : ∃ c1, c1 = co21 - (x10_3 : Int).toNat := ⟨_, rfl⟩
                            have hy29 : y250.length = ((wrap64 (x10_3 + (x8_10.length : Int))) : Int).toNat - (x10_3 : Int).toNat := (by rw [Ny250.out, List.length_drop, List.length_take] <;> omega)
                            rw [show ((t240).take ((wrap64 (x10_3 + (x8_10.length : Int))) : Int).toNat).drop (x10_3 : Int).toNat = y250 from Ny250.out.symm] at hr29
                            replace hr29 : Kd.C (Kd.int .i32) _ A29 y250.length y250 := (by rw [hA29]; exact hr29)
                            rw [← hy29, ← hA29, ← hc29] at hcut29
                            have HR253 := Aside0.mk hr29
                            have HC253 := Aside0.mk (show y250.length ≤ c29 from by rw [hy29, hc29]; exact Nat.sub_le_sub_right (Nat.le_trans (by omega) hroom29) _)
                            clear hr29 hC29 hroom29 hi029 hsz29 hc29
                            have KY29 := Aside0.mk hy29
                            have KA29 := Aside0.mk hA29
                            clear hy29 hA29
                            have KL29 := Aside0.mk (show ((wrap64 (x10_3 + (x8_10.length : Int))) : Int).toNat ≤ t240.length from by omega)
                            have KM29 := Aside0.mk (show (x10_3 : Int).toNat ≤ ((wrap64 (x10_3 + (x8_10.length : Int))) : Int).toNat from by omega)
                            replace q29 := eq_true q29
                            have hcv30 := Kd.C_string32 (P := Try.prog) (A := A29) (c := c29) Try.underlying30 Try.underlying21 Try.underlying9 (by repeat (first | (with_reducible exact HR253.out) | (with_reducible refine Kd.C_alloc ?_ _) | (with_reducible refine Kd.C_drewN ?_ _) | (with_reducible refine Kd.C_drew ?_) | exact HR253.out))
                            have hcn31 := fun (n_ : Nat) => Kd.C_string32 (P := Try.prog) (A := A29) (c := c29) Try.underlying30 Try.underlying21 Try.underlying9 (Kd.C_drewN (by repeat (first | (with_reducible exact HR253.out) | (with_reducible refine Kd.C_alloc ?_ _) | (with_reducible refine Kd.C_drewN ?_ _) | (with_reducible refine Kd.C_drew ?_) | exact HR253.out)) n_)
                            have hcn32 := fun (n_ : Nat) => own_string32 (P := Try.prog) Try.underlying30 Try.underlying21 Try.underlying9 (Kd.own_of_R (Kd.R_drewN HO_8.out n_))
                            have hcv33 := own_string32 (P := Try.prog) Try.underlying30 Try.underlying21 Try.underlying9 (Kd.own_of_R HO_8.out)
                            go_wp2
                            repeat (go_quiet (fail); try go_wp2)
                            go_roundg k3
                            case measure => have := HJ3.out; have := HJ10.out; have := HK3.out; omega
                            case rel => exact ⟨(x10_3), (wrap64 (x10_3 - 1)), (by first | rfl | (simp; done) | (simp [*]; done)), (by first | rfl | (simp; done) | (simp [*]; done)), H', ⟨by have := HJ3.out; have := HJ10.out; have := HK3.out; omega⟩, ⟨by (with_reducible repeat (first | apply Kd.R_alloc | apply Kd.R_drewN | apply Kd.R_drew)); exact HO_7.out⟩, ⟨by (with_reducible repeat (first | apply Kd.R_alloc | apply Kd.R_drewN | apply Kd.R_drew)); exact HO_8.out⟩, ⟨by repeat (first | (with_reducible first | exact HB.out | apply below_alloc | apply pw_below_drewN | apply below_drew1) | exact HB.out)⟩⟩
                          · rw [if_neg c28] at H
                            have c28b0 : ((runesBytes y250).toList == (runesBytes x8_10).toList) = false := beq_eq_false_iff_ne.mpr c28
                            have c28b1 : ((runesBytes y250).toList != (runesBytes x8_10).toList) = true := bne_iff_ne.mpr c28
                            have H' := Aside0.mk H
                            clear H
                            have q34 : ((wrap64 (x10_3 + (x8_10.length : Int))) : Int) ≤ ((t240.length : Int) : Int) := of_decide_eq_true (by first | (with_reducible assumption) | assumption)
                            obtain ⟨i034, hi034, _, hsz34, _⟩ := info_parts info21
                            have hroom34 : t240.length ≤ co21 := (Kd.R_reads' HO_7.out).2.1
                            have hC34 : Kd.C (Kd.int .i32) _ Ao21 t240.length t240 := (Kd.R_reads' HO_7.out).2.2
                            have ql34 : (x10_3 : Int) ≤ ((wrap64 (x10_3 + (x8_10.length : Int))) : Int) := of_decide_eq_true (by first | (with_reducible assumption) | assumption)
                            have q034 : (0 : Int) ≤ (x10_3 : Int) := of_decide_eq_true (by first | (with_reducible assumption) | assumption)
                            have hcut34 := cut_mid (P := Try.prog) 30 21 .i64 .i64 Try.underlying30 hi034 1 hsz34 Ao21 t240.length co21 x10_3 (wrap64 (x10_3 + (x8_10.length : Int))) q034 ql34 q34 hroom34
                            have hr34 := Kd.C_mid (lo := (x10_3 : Int).toNat) (hi := ((wrap64 (x10_3 + (x8_10.length : Int))) : Int).toNat) (c := co21) hC34 (by omega) (by omega) hroom34
                            obtain ⟨A34, hA34⟩ : ∃ A1, A1 = (if co21 = (x10_3 : Int).toNat then Ao21 else (Ao21 : Option Addr).map (·.add ((x10_3 : Int).toNat * 1))) := ⟨_, rfl⟩
                            obtain ⟨c34, hc34⟩ : ∃ c1, c1 = co21 - (x10_3 : Int).toNat := ⟨_, rfl⟩
                            have hy34 : y250.length = ((wrap64 (x10_3 + (x8_10.length : Int))) : Int).toNat - (x10_3 : Int).toNat := (by rw [Ny250.out, List.length_drop, List.length_take] <;> omega)
                            rw [show ((t240).take ((wrap64 (x10_3 + (x8_10.length : Int))) : Int).toNat).drop (x10_3 : Int).toNat = y250 from Ny250.out.symm] at hr34
                            replace hr34 : Kd.C (Kd.int .i32) _ A34 y250.length y250 := (by rw [hA34]; exact hr34)
                            rw [← hy34, ← hA34, ← hc34] at hcut34
                            have HR253 := Aside0.mk hr34
                            have HC253 := Aside0.mk (show y250.length ≤ c34 from by rw [hy34, hc34]; exact Nat.sub_le_sub_right (Nat.le_trans (by omega) hroom34) _)
                            clear hr34 hC34 hroom34 hi034 hsz34 hc34
                            have KY34 := Aside0.mk hy34
                            have KA34 := Aside0.mk hA34
                            clear hy34 hA34
                            have KL34 := Aside0.mk (show ((wrap64 (x10_3 + (x8_10.length : Int))) : Int).toNat ≤ t240.length from by omega)
                            have KM34 := Aside0.mk (show (x10_3 : Int).toNat ≤ ((wrap64 (x10_3 + (x8_10.length : Int))) : Int).toNat from by omega)
                            replace q34 := eq_true q34
                            have hcv35 := Kd.C_string32 (P := Try.prog) (A := A34) (c := c34) Try.underlying30 Try.underlying21 Try.underlying9 (by repeat (first | (with_reducible exact HR253.out) | (with_reducible refine Kd.C_alloc ?_ _) | (with_reducible refine Kd.C_drewN ?_ _) | (with_reducible refine Kd.C_drew ?_) | exact HR253.out))
                            have hcn36 := fun (n_ : Nat) => Kd.C_string32 (P := Try.prog) (A := A34) (c := c34) Try.underlying30 Try.underlying21 Try.underlying9 (Kd.C_drewN (by repeat (first | (with_reducible exact HR253.out) | (with_reducible refine Kd.C_alloc ?_ _) | (with_reducible refine Kd.C_drewN ?_ _) | (with_reducible refine Kd.C_drew ?_) | exact HR253.out)) n_)
                            have hcn37 := fun (n_ : Nat) => own_string32 (P := Try.prog) Try.underlying30 Try.underlying21 Try.underlying9 (Kd.own_of_R (Kd.R_drewN HO_8.out n_))
                            have hcv38 := own_string32 (P := Try.prog) Try.underlying30 Try.underlying21 Try.underlying9 (Kd.own_of_R HO_8.out)
                            go_wp2
                            repeat (go_quiet (fail); try go_wp2)
                            go_roundg k3
                            case measure => have := HJ3.out; have := HJ10.out; have := HK3.out; omega
                            case rel => exact ⟨(x9_3), (wrap64 (x10_3 - 1)), (by first | rfl | (simp; done) | (simp [*]; done)), (by first | rfl | (simp; done) | (simp [*]; done)), H', ⟨by have := HJ3.out; have := HJ10.out; have := HK3.out; omega⟩, ⟨by (with_reducible repeat (first | apply Kd.R_alloc | apply Kd.R_drewN | apply Kd.R_drew)); exact HO_7.out⟩, ⟨by (with_reducible repeat (first | apply Kd.R_alloc | apply Kd.R_drewN | apply Kd.R_drew)); exact HO_8.out⟩, ⟨by repeat (first | (with_reducible first | exact HB.out | apply below_alloc | apply pw_below_drewN | apply below_drew1) | exact HB.out)⟩⟩
                        · rw [if_neg c27] at H
                          exact absurd H (by simp)
                      · rw [if_neg c26] at H
                        exact absurd H (by simp)
                    · rw [if_neg c25] at H
                      exact absurd H (by simp)
                  · rw [if_neg c24] at H
                    have c24b0 : decide ((ji23) ≤ x10_3) = false := decide_eq_false c24
                    clear c24
                    replace H := Option.bind_eq_some_iff.mp H
                    obtain ⟨t254, A390, H⟩ := H
                    replace H : (some (t254 == x9_3)) = some r := H
                    have A39 := Aside0.mk A390
                    clear A390
                    obtain rfl := Option.some.inj H
                    go_wp2_with (first | (go_at_call 26; (with_reducible refine (impl_RunesIndexOf.calls k3 _ _ t240 _ _ x8_10 (wrap64 ((wrap64 (Int.tmod (IntKind.u64.wrap (a2)) (IntKind.u64.wrap (wrap64 ((t240.length : Int) + 5))))) - 2)) t254 _ ?side1 ?side2 ?side3 ?side4 A39.out).mono ?_); (case side1 => repeat (first | exact (Kd.R_reads' HO_7.out).2.2 | (with_reducible refine Kd.C_alloc ?_ _) | (with_reducible refine Kd.C_drewN ?_ _) | (with_reducible refine Kd.C_drew ?_))); (case side2 => exact (Kd.R_reads' HO_7.out).2.1); (case side3 => repeat (first | exact (Kd.R_reads' HO_8.out).2.2 | (with_reducible refine Kd.C_alloc ?_ _) | (with_reducible refine Kd.C_drewN ?_ _) | (with_reducible refine Kd.C_drew ?_))); (case side4 => exact (Kd.R_reads' HO_8.out).2.1); rintro e w' ⟨rfl, ⟨nd, rfl⟩⟩; (try first | exact ⟨rfl, _, World.drewN_drewN _ _ _⟩ | exact ⟨rfl, _, Eq.trans (World.drewN_drewN _ _ _) (congrArg (World.drewN _) (Nat.add_assoc _ _ _))⟩)))
                    repeat (go_quiet (first | (go_at_call 26; (with_reducible refine (impl_RunesIndexOf.calls k3 _ _ t240 _ _ x8_10 (wrap64 ((wrap64 (Int.tmod (IntKind.u64.wrap (a2)) (IntKind.u64.wrap (wrap64 ((t240.length : Int) + 5))))) - 2)) t254 _ ?side1 ?side2 ?side3 ?side4 A39.out).mono ?_); (case side1 => repeat (first | exact (Kd.R_reads' HO_7.out).2.2 | (with_reducible refine Kd.C_alloc ?_ _) | (with_reducible refine Kd.C_drewN ?_ _) | (with_reducible refine Kd.C_drew ?_))); (case side2 => exact (Kd.R_reads' HO_7.out).2.1); (case side3 => repeat (first | exact (Kd.R_reads' HO_8.out).2.2 | (with_reducible refine Kd.C_alloc ?_ _) | (with_reducible refine Kd.C_drewN ?_ _) | (with_reducible refine Kd.C_drew ?_))); (case side4 => exact (Kd.R_reads' HO_8.out).2.1); rintro e w' ⟨rfl, ⟨nd, rfl⟩⟩; (try first | exact ⟨rfl, _, World.drewN_drewN _ _ _⟩ | exact ⟨rfl, _, Eq.trans (World.drewN_drewN _ _ _) (congrArg (World.drewN _) (Nat.add_assoc _ _ _))⟩))); try go_wp2_with (first | (go_at_call 26; (with_reducible refine (impl_RunesIndexOf.calls k3 _ _ t240 _ _ x8_10 (wrap64 ((wrap64 (Int.tmod (IntKind.u64.wrap (a2)) (IntKind.u64.wrap (wrap64 ((t240.length : Int) + 5))))) - 2)) t254 _ ?side1 ?side2 ?side3 ?side4 A39.out).mono ?_); (case side1 => repeat (first | exact (Kd.R_reads' HO_7.out).2.2 | (with_reducible refine Kd.C_alloc ?_ _) | (with_reducible refine Kd.C_drewN ?_ _) | (with_reducible refine Kd.C_drew ?_))); (case side2 => exact (Kd.R_reads' HO_7.out).2.1); (case side3 => repeat (first | exact (Kd.R_reads' HO_8.out).2.2 | (with_reducible refine Kd.C_alloc ?_ _) | (with_reducible refine Kd.C_drewN ?_ _) | (with_reducible refine Kd.C_drew ?_))); (case side4 => exact (Kd.R_reads' HO_8.out).2.1); rintro e w' ⟨rfl, ⟨nd, rfl⟩⟩; (try first | exact ⟨rfl, _, World.drewN_drewN _ _ _⟩ | exact ⟨rfl, _, Eq.trans (World.drewN_drewN _ _ _) (congrArg (World.drewN _) (Nat.add_assoc _ _ _))⟩))))
                    go_ret
                    exact ⟨by first | rfl | (simp [errW_none, errW_some] <;> rfl) | (simp only [← hji23]; first | rfl | (simp [errW_none, errW_some] <;> rfl)) | (simp [*, errW_none, errW_some] <;> rfl), by repeat (first | (with_reducible first | exact HB.out | apply below_alloc | apply pw_below_drewN | apply below_drew1) | exact HB.out)⟩

/-- THE ONE PURE STATEMENT of laws_FnRunesIndexOf: yours. -/
def laws_FnRunesIndexOf.Pure : Prop := ∀ (a0 : ByteArray) (a1 : ByteArray) (a2 : Int), a0.size ≤ 140737488351232 → a1.size ≤ 140737488351232 → (Lit.int .i64 a2).wf = true → ∃ k, laws_FnRunesIndexOf.f k a0 a1 a2 = some true
theorem laws_FnRunesIndexOf.walk (P : laws_FnRunesIndexOf.Pure) (a0 : ByteArray) (a1 : ByteArray) (a2 : Int) (w : World) (w0 : a0.size ≤ 140737488351232) (w1 : a1.size ≤ 140737488351232) (w2 : (Lit.int .i64 a2).wf = true) :
    Calls Try.prog 8 #[.string a0, .string a1, .int .i64 a2] w fun e w' => e = .returned (.bool true) ∧ Below w.heap.size w w' := by
  obtain ⟨k, h⟩ := P a0 a1 a2 w0 w1 w2
  refine (laws_FnRunesIndexOf.calls k a0 a1 a2 true w h).mono ?_
  rintro e w' ⟨rfl, hd⟩
  exact ⟨rfl, hd⟩

end Go.Proofs.Ytomidomdomjkfaa.PT
