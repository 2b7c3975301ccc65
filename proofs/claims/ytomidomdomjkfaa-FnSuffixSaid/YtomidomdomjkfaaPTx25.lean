-- Written by this session's own program (wip/tools) out of the translation.
import Derived.Test.YtomidomdomjkfaaPTx0
import Derived.Test.YtomidomdomjkfaaPTx8
import Derived.Test.YtomidomdomjkfaaPTx9
import Derived.Test.YtomidomdomjkfaaPTx21
import Derived.Test.YtomidomdomjkfaaPTx24
namespace Go.Proofs.Ytomidomdomjkfaa.PT
open Go.RowKit Go.Proofs.YtomidomdomjkfaaW.PrintWords Go.Proofs.YtomidomdomjkfaaW.PrintLast Go.Proofs.YtomidomdomjkfaaW.PrintMore
attribute [local go_sem] max2_int min2_int max_two min_two max_three min_three max_four min_four   -- for this text's walks alone
set_option linter.unusedVariables false
set_option linter.unusedSimpArgs false

/-! ### laws_FnSuffix: function 6 -/
def laws_FnSuffix.j0 : Nat → ByteArray → ByteArray → ByteArray → Bool → Option (Bool)
  | 0, _, _, _, _ => none
  | k + 1, x0, x1, x2, x19 => if x19 = true then (some true) else ((spec_Clean.f x0 200).bind fun t217 => ((spec_Clean.f x2 100).bind fun t218 => (if t217.size + t218.size ≤ 9223372036854775807 then ((spec_Clean.f x1 200).bind fun t219 => ((spec_Clean.f x2 100).bind fun t220 => (if t219.size + t220.size ≤ 9223372036854775807 then ((impl_CommonSuffix.f k (t217 ++ t218) (t219 ++ t220)).bind fun t221 => ((spec_Runes.f (t217 ++ t218)).bind fun t222 => ((spec_Runes.f (t219 ++ t220)).bind fun t225 => ((spec_Suffix.f k t222 t225).bind fun t228 => (if t221 = t228 then ((impl_CommonSuffix.f k (⟨#[121, 120]⟩ : ByteArray) (⟨#[122, 120]⟩ : ByteArray)).bind fun t229 => (some (t229 == 1))) else (some false)))))) else (none)))) else (none))))
def laws_FnSuffix.f (k : Nat) (a0 : ByteArray) (a1 : ByteArray) (a2 : ByteArray) : Option (Bool) := if (a0.size : Int) > 2147483647 then (laws_FnSuffix.j0 k a0 a1 a2 true) else (if (a1.size : Int) > 2147483647 then (laws_FnSuffix.j0 k a0 a1 a2 true) else (laws_FnSuffix.j0 k a0 a1 a2 (decide ((a2.size : Int) > 2147483647))))
theorem laws_FnSuffix.mono_l : ∀ k, (∀ y0 y1 y2 y3, LeO (laws_FnSuffix.j0 k y0 y1 y2 y3) (laws_FnSuffix.j0 (k + 1) y0 y1 y2 y3))
  | 0 => fun _ _ _ _ r h => by simp [laws_FnSuffix.j0] at h
  | k + 1 => by
    have ih0 := laws_FnSuffix.mono_l k
    · intro y0 y1 y2 y3
      unfold laws_FnSuffix.j0
      repeat' first
      | (with_reducible exact ih0 _ _ _ _)
      | (with_reducible exact impl_CommonSuffix.mono _ _ _)
      | (with_reducible exact spec_Suffix.mono _ _ _)
      | (with_reducible exact LeO.refl _)
      | (with_reducible exact LeO.none _)
      | (with_reducible refine LeO.ite ?_ ?_)
      | (with_reducible refine LeO.bind ?_ (fun _ => ?_))
      | exact ih0 _ _ _ _
      | exact impl_CommonSuffix.mono _ _ _
      | exact spec_Suffix.mono _ _ _
      | exact LeO.none _
      | refine LeO.ite ?_ ?_
      | refine LeO.bind ?_ (fun _ => ?_)
theorem laws_FnSuffix.mono : ∀ a0 a1 a2 k, LeO (laws_FnSuffix.f k a0 a1 a2) (laws_FnSuffix.f (k + 1) a0 a1 a2) := by
  intro a0 a1 a2 k
  have ih0 := laws_FnSuffix.mono_l k
  unfold laws_FnSuffix.f
  repeat' first
      | (with_reducible exact ih0 _ _ _ _)
      | (with_reducible exact impl_CommonSuffix.mono _ _ _)
      | (with_reducible exact spec_Suffix.mono _ _ _)
      | (with_reducible exact LeO.refl _)
      | (with_reducible exact LeO.none _)
      | (with_reducible refine LeO.ite ?_ ?_)
      | (with_reducible refine LeO.bind ?_ (fun _ => ?_))
      | exact ih0 _ _ _ _
      | exact impl_CommonSuffix.mono _ _ _
      | exact spec_Suffix.mono _ _ _
      | exact LeO.none _
      | refine LeO.ite ?_ ?_
      | refine LeO.bind ?_ (fun _ => ?_)
set_option maxHeartbeats 8000000 in
set_option maxRecDepth 100000 in
theorem laws_FnSuffix.calls (k : Nat) (a0 : ByteArray) (a1 : ByteArray) (a2 : ByteArray) (r : Bool) (w : World) (h : laws_FnSuffix.f k a0 a1 a2 = some r) :
    Calls Try.prog 6 #[.string a0, .string a1, .string a2] w fun e w' => e = .returned (.bool r) ∧ Below w.heap.size w w' := by
  have HB := Aside0.mk (Below.refl w.heap.size w)
  have H : (if (a0.size : Int) > 2147483647 then (laws_FnSuffix.j0 k a0 a1 a2 true) else (if (a1.size : Int) > 2147483647 then (laws_FnSuffix.j0 k a0 a1 a2 true) else (laws_FnSuffix.j0 k a0 a1 a2 (decide ((a2.size : Int) > 2147483647))))) = some r := h
  clear h
  have HC4 := Aside0.mk H
  clear H
  go_enter Try.func6, Try.ntmps6
  go_upto_region 1 with (fail)
  go_cut [19] (fun v19 wc => ∃ (kq : Nat) (x19_3 : Bool), v19 = .bool x19_3 ∧ Aside0 (laws_FnSuffix.j0 kq a0 a1 a2 x19_3 = some r) ∧ Aside0 (kq ≤ k) ∧ Aside0 (Below w.heap.size w wc))
  case first =>
    have H := HC4.out
    clear HC4
    by_cases c5 : (a0.size : Int) > 2147483647
    · rw [if_pos c5] at H
      have c5b0 : decide (2147483647 < (a0.size : Int)) = true := decide_eq_true c5
      have c5b1 : decide (2147483647 < a0.size) = true := decide_eq_true (by omega)
      clear c5
      (first | rw [c5b0] | (simp only [i64_w, i32_w]; rw [c5b0]) | rw [c5b2] | skip)
      have H' := Aside0.mk H
      clear H
      go_wp2
      go_meet
      case rel => exact ⟨_, (true), (by first | rfl | (simp; done) | (simp [*]; done)), H', ⟨by first | omega | exact Nat.le_refl _⟩, ⟨by repeat (first | (with_reducible first | exact HB.out | apply below_alloc | apply pw_below_drewN | apply below_drew1) | exact HB.out)⟩⟩
    · rw [if_neg c5] at H
      have c5b0 : decide (2147483647 < (a0.size : Int)) = false := decide_eq_false c5
      have c5b1 : decide (2147483647 < a0.size) = false := decide_eq_false (by omega)
      clear c5
      (first | rw [c5b0] | (simp only [i64_w, i32_w]; rw [c5b0]) | rw [c5b2] | skip)
      by_cases c6 : (a1.size : Int) > 2147483647
      · rw [if_pos c6] at H
        have c6b0 : decide (2147483647 < (a1.size : Int)) = true := decide_eq_true c6
        have c6b1 : decide (2147483647 < a1.size) = true := decide_eq_true (by omega)
        clear c6
        have H' := Aside0.mk H
        clear H
        go_wp2
        go_meet
        case rel => exact ⟨_, (true), (by first | rfl | (simp; done) | (simp [*]; done)), H', ⟨by first | omega | exact Nat.le_refl _⟩, ⟨by repeat (first | (with_reducible first | exact HB.out | apply below_alloc | apply pw_below_drewN | apply below_drew1) | exact HB.out)⟩⟩
      · rw [if_neg c6] at H
        have c6b0 : decide (2147483647 < (a1.size : Int)) = false := decide_eq_false c6
        have c6b1 : decide (2147483647 < a1.size) = false := decide_eq_false (by omega)
        clear c6
        have H' := Aside0.mk H
        clear H
        go_wp2
        go_meet
        case rel => exact ⟨_, (decide ((a2.size : Int) > 2147483647)), (by first | rfl | (simp; done) | (simp [*]; done)), H', ⟨by first | omega | exact Nat.le_refl _⟩, ⟨by repeat (first | (with_reducible first | exact HB.out | apply below_alloc | apply pw_below_drewN | apply below_drew1) | exact HB.out)⟩⟩
  case rest =>
    clear HC4
    try clear p2
    try clear c5
    try clear c5b0
    try clear c5b1
    try clear c5b2
    try clear c6
    try clear c6b0
    try clear c6b1
    obtain ⟨kq, x19_3, rfl, HA, HJ3, HB⟩ := hcut
    cases kq with
    | zero => exact absurd HA.out (by simp [laws_FnSuffix.j0])
    | succ kj3 =>
      have H := HA.out
      clear HA
      simp only [laws_FnSuffix.j0] at H
      by_cases c7 : x19_3 = true
      · subst c7
        have H1 : (some true) = some r := by rw [if_pos rfl] at H; exact H
        clear H
        have H := H1
        clear H1
        obtain rfl := Option.some.inj H
        go_wp2
        go_ret
        exact ⟨by first | rfl | (simp [errW_none, errW_some] <;> rfl) | (simp [*, errW_none, errW_some] <;> rfl), by repeat (first | (with_reducible first | exact HB.out | apply below_alloc | apply pw_below_drewN | apply below_drew1) | exact HB.out)⟩
      · replace c7 := Bool.eq_false_iff.mpr c7
        subst c7
        have H1 : ((spec_Clean.f a0 200).bind fun t217 => ((spec_Clean.f a2 100).bind fun t218 => (if t217.size + t218.size ≤ 9223372036854775807 then ((spec_Clean.f a1 200).bind fun t219 => ((spec_Clean.f a2 100).bind fun t220 => (if t219.size + t220.size ≤ 9223372036854775807 then ((impl_CommonSuffix.f kj3 (t217 ++ t218) (t219 ++ t220)).bind fun t221 => ((spec_Runes.f (t217 ++ t218)).bind fun t222 => ((spec_Runes.f (t219 ++ t220)).bind fun t225 => ((spec_Suffix.f kj3 t222 t225).bind fun t228 => (if t221 = t228 then ((impl_CommonSuffix.f kj3 (⟨#[121, 120]⟩ : ByteArray) (⟨#[122, 120]⟩ : ByteArray)).bind fun t229 => (some (t229 == 1))) else (some false)))))) else (none)))) else (none)))) = some r := by rw [if_neg (show ¬ (false = true) by decide)] at H; exact H
        clear H
        have H := H1
        clear H1
        replace H := Option.bind_eq_some_iff.mp H
        obtain ⟨t217, A80, H⟩ := H
        replace H : ((spec_Clean.f a2 100).bind fun t218 => (if t217.size + t218.size ≤ 9223372036854775807 then ((spec_Clean.f a1 200).bind fun t219 => ((spec_Clean.f a2 100).bind fun t220 => (if t219.size + t220.size ≤ 9223372036854775807 then ((impl_CommonSuffix.f kj3 (t217 ++ t218) (t219 ++ t220)).bind fun t221 => ((spec_Runes.f (t217 ++ t218)).bind fun t222 => ((spec_Runes.f (t219 ++ t220)).bind fun t225 => ((spec_Suffix.f kj3 t222 t225).bind fun t228 => (if t221 = t228 then ((impl_CommonSuffix.f kj3 (⟨#[121, 120]⟩ : ByteArray) (⟨#[122, 120]⟩ : ByteArray)).bind fun t229 => (some (t229 == 1))) else (some false)))))) else (none)))) else (none))) = some r := H
        have A8 := Aside0.mk A80
        clear A80
        replace H := Option.bind_eq_some_iff.mp H
        obtain ⟨t218, A90, H⟩ := H
        replace H : (if t217.size + t218.size ≤ 9223372036854775807 then ((spec_Clean.f a1 200).bind fun t219 => ((spec_Clean.f a2 100).bind fun t220 => (if t219.size + t220.size ≤ 9223372036854775807 then ((impl_CommonSuffix.f kj3 (t217 ++ t218) (t219 ++ t220)).bind fun t221 => ((spec_Runes.f (t217 ++ t218)).bind fun t222 => ((spec_Runes.f (t219 ++ t220)).bind fun t225 => ((spec_Suffix.f kj3 t222 t225).bind fun t228 => (if t221 = t228 then ((impl_CommonSuffix.f kj3 (⟨#[121, 120]⟩ : ByteArray) (⟨#[122, 120]⟩ : ByteArray)).bind fun t229 => (some (t229 == 1))) else (some false)))))) else (none)))) else (none)) = some r := H
        have A9 := Aside0.mk A90
        clear A90
        by_cases c10 : t217.size + t218.size ≤ 9223372036854775807
        · rw [if_pos c10] at H
          have c10b0 := eq_true c10
          have c10b1 : decide (t217.size + t218.size ≤ 9223372036854775807) = true := decide_eq_true c10
          try have c10b2 : (9223372036854775807 < t217.size + t218.size) = False := eq_false (Nat.not_lt.2 c10)
          replace H := Option.bind_eq_some_iff.mp H
          obtain ⟨t219, A110, H⟩ := H
          replace H : ((spec_Clean.f a2 100).bind fun t220 => (if t219.size + t220.size ≤ 9223372036854775807 then ((impl_CommonSuffix.f kj3 (t217 ++ t218) (t219 ++ t220)).bind fun t221 => ((spec_Runes.f (t217 ++ t218)).bind fun t222 => ((spec_Runes.f (t219 ++ t220)).bind fun t225 => ((spec_Suffix.f kj3 t222 t225).bind fun t228 => (if t221 = t228 then ((impl_CommonSuffix.f kj3 (⟨#[121, 120]⟩ : ByteArray) (⟨#[122, 120]⟩ : ByteArray)).bind fun t229 => (some (t229 == 1))) else (some false)))))) else (none))) = some r := H
          have A11 := Aside0.mk A110
          clear A110
          replace H := Option.bind_eq_some_iff.mp H
          obtain ⟨t220, A120, H⟩ := H
          replace H : (if t219.size + t220.size ≤ 9223372036854775807 then ((impl_CommonSuffix.f kj3 (t217 ++ t218) (t219 ++ t220)).bind fun t221 => ((spec_Runes.f (t217 ++ t218)).bind fun t222 => ((spec_Runes.f (t219 ++ t220)).bind fun t225 => ((spec_Suffix.f kj3 t222 t225).bind fun t228 => (if t221 = t228 then ((impl_CommonSuffix.f kj3 (⟨#[121, 120]⟩ : ByteArray) (⟨#[122, 120]⟩ : ByteArray)).bind fun t229 => (some (t229 == 1))) else (some false)))))) else (none)) = some r := H
          have A12 := Aside0.mk A120
          clear A120
          by_cases c13 : t219.size + t220.size ≤ 9223372036854775807
          · rw [if_pos c13] at H
            have c13b0 := eq_true c13
            have c13b1 : decide (t219.size + t220.size ≤ 9223372036854775807) = true := decide_eq_true c13
            try have c13b2 : (9223372036854775807 < t219.size + t220.size) = False := eq_false (Nat.not_lt.2 c13)
            replace H := Option.bind_eq_some_iff.mp H
            obtain ⟨t221, A140, H⟩ := H
            replace H : ((spec_Runes.f (t217 ++ t218)).bind fun t222 => ((spec_Runes.f (t219 ++ t220)).bind fun t225 => ((spec_Suffix.f kj3 t222 t225).bind fun t228 => (if t221 = t228 then ((impl_CommonSuffix.f kj3 (⟨#[121, 120]⟩ : ByteArray) (⟨#[122, 120]⟩ : ByteArray)).bind fun t229 => (some (t229 == 1))) else (some false))))) = some r := H
            have A14 := Aside0.mk A140
            clear A140
            replace H := Option.bind_eq_some_iff.mp H
            obtain ⟨t222, A150, H⟩ := H
            replace H : ((spec_Runes.f (t219 ++ t220)).bind fun t225 => ((spec_Suffix.f kj3 t222 t225).bind fun t228 => (if t221 = t228 then ((impl_CommonSuffix.f kj3 (⟨#[121, 120]⟩ : ByteArray) (⟨#[122, 120]⟩ : ByteArray)).bind fun t229 => (some (t229 == 1))) else (some false)))) = some r := H
            have A15 := Aside0.mk A150
            clear A150
            replace H := Option.bind_eq_some_iff.mp H
            obtain ⟨t225, A160, H⟩ := H
            replace H : ((spec_Suffix.f kj3 t222 t225).bind fun t228 => (if t221 = t228 then ((impl_CommonSuffix.f kj3 (⟨#[121, 120]⟩ : ByteArray) (⟨#[122, 120]⟩ : ByteArray)).bind fun t229 => (some (t229 == 1))) else (some false))) = some r := H
            have A16 := Aside0.mk A160
            clear A160
            replace H := Option.bind_eq_some_iff.mp H
            obtain ⟨t228, A170, H⟩ := H
            replace H : (if t221 = t228 then ((impl_CommonSuffix.f kj3 (⟨#[121, 120]⟩ : ByteArray) (⟨#[122, 120]⟩ : ByteArray)).bind fun t229 => (some (t229 == 1))) else (some false)) = some r := H
            have A17 := Aside0.mk A170
            clear A170
            by_cases c18 : t221 = t228
            · rw [if_pos c18] at H
              have c18b0 : (t221 == t228) = true := beq_iff_eq.mpr c18
              have c18b1 : (t221 != t228) = false := bne_eq_false_iff_eq.mpr c18
              clear c18
              replace H := Option.bind_eq_some_iff.mp H
              obtain ⟨t229, A190, H⟩ := H
              replace H : (some (t229 == 1)) = some r := H
              have A19 := Aside0.mk A190
              clear A190
              obtain rfl := Option.some.inj H
              go_wp2_with (first | ((with_reducible refine gate_callee (f := 17) rfl ?_); refine goesL_ (some 21) rfl rfl Try.func17 (by kernel_rfl) rfl #[.string a0, .int .i64 200] rfl (by (try simp only [List.map_toArray, List.map_cons, List.map_nil]); first | done | rfl | (simp only [List.length_drop, List.length_take]; rfl)) ?_; (with_reducible refine (spec_Clean.calls a0 200 t217 _ A8.out).mono ?_); rintro e w20 ⟨rfl, hb⟩; refine ⟨_, rfl, ?_⟩; have n0_ := Aside0.mk (below_step (by repeat (first | (with_reducible first | exact HB.out | apply below_alloc | apply pw_below_drewN | apply below_drew1) | exact HB.out)) hb); clear HB; have HB := n0_; clear n0_; (try clear hb); (try clear hb2); (try clear hk); (try clear hi)) | ((with_reducible refine gate_callee (f := 17) rfl ?_); refine goesL_ (some 23) rfl rfl Try.func17 (by kernel_rfl) rfl #[.string a2, .int .i64 100] rfl (by (try simp only [List.map_toArray, List.map_cons, List.map_nil]); first | done | rfl | (simp only [List.length_drop, List.length_take]; rfl)) ?_; (with_reducible refine (spec_Clean.calls a2 100 t218 _ A9.out).mono ?_); rintro e w21 ⟨rfl, hb⟩; refine ⟨_, rfl, ?_⟩; have n0_ := Aside0.mk (below_step (by repeat (first | (with_reducible first | exact HB.out | apply below_alloc | apply pw_below_drewN | apply below_drew1) | exact HB.out)) hb); clear HB; have HB := n0_; clear n0_; (try clear hb); (try clear hb2); (try clear hk); (try clear hi)) | ((with_reducible refine gate_callee (f := 17) rfl ?_); refine goesL_ (some 26) rfl rfl Try.func17 (by kernel_rfl) rfl #[.string a1, .int .i64 200] rfl (by (try simp only [List.map_toArray, List.map_cons, List.map_nil]); first | done | rfl | (simp only [List.length_drop, List.length_take]; rfl)) ?_; (with_reducible refine (spec_Clean.calls a1 200 t219 _ A11.out).mono ?_); rintro e w22 ⟨rfl, hb⟩; refine ⟨_, rfl, ?_⟩; have n0_ := Aside0.mk (below_step (by repeat (first | (with_reducible first | exact HB.out | apply below_alloc | apply pw_below_drewN | apply below_drew1) | exact HB.out)) hb); clear HB; have HB := n0_; clear n0_; (try clear hb); (try clear hb2); (try clear hk); (try clear hi)) | ((with_reducible refine gate_callee (f := 17) rfl ?_); refine goesL_ (some 28) rfl rfl Try.func17 (by kernel_rfl) rfl #[.string a2, .int .i64 100] rfl (by (try simp only [List.map_toArray, List.map_cons, List.map_nil]); first | done | rfl | (simp only [List.length_drop, List.length_take]; rfl)) ?_; (with_reducible refine (spec_Clean.calls a2 100 t220 _ A12.out).mono ?_); rintro e w23 ⟨rfl, hb⟩; refine ⟨_, rfl, ?_⟩; have n0_ := Aside0.mk (below_step (by repeat (first | (with_reducible first | exact HB.out | apply below_alloc | apply pw_below_drewN | apply below_drew1) | exact HB.out)) hb); clear HB; have HB := n0_; clear n0_; (try clear hb); (try clear hb2); (try clear hk); (try clear hi)) | ((with_reducible refine gate_callee (f := 24) rfl ?_); refine goesL_ (some 32) rfl rfl Try.func24 (by kernel_rfl) rfl #[.string (t217 ++ t218), .string (t219 ++ t220)] rfl (by (try simp only [List.map_toArray, List.map_cons, List.map_nil]); first | done | rfl | (simp only [List.length_drop, List.length_take]; rfl)) ?_; (with_reducible refine (impl_CommonSuffix.calls kj3 (t217 ++ t218) (t219 ++ t220) t221 _ A14.out).mono ?_); rintro e w24 ⟨rfl, hb⟩; refine ⟨_, rfl, ?_⟩; have n0_ := Aside0.mk (below_step (by repeat (first | (with_reducible first | exact HB.out | apply below_alloc | apply pw_below_drewN | apply below_drew1) | exact HB.out)) hb); clear HB; have HB := n0_; clear n0_; (try clear hb); (try clear hb2); (try clear hk); (try clear hi)) | ((with_reducible refine gate_callee (f := 20) rfl ?_); refine goesL_ (some 34) rfl rfl Try.func20 (by kernel_rfl) rfl #[.string (t217 ++ t218)] rfl (by (try simp only [List.map_toArray, List.map_cons, List.map_nil]); first | done | rfl | (simp only [List.length_drop, List.length_take]; rfl)) ?_; (with_reducible refine (spec_Runes.calls (t217 ++ t218) t222 _ A15.out).mono ?_); rintro e w25 ⟨v223, rfl, ho0, hb⟩; refine ⟨_, rfl, ?_⟩; have n0_ := Aside0.mk (Kd.R_lower ho0 (below_size (by repeat (first | (with_reducible first | exact HB.out | apply below_alloc | apply pw_below_drewN | apply below_drew1) | exact HB.out)))); have n1_ := Aside0.mk (below_step (by repeat (first | (with_reducible first | exact HB.out | apply below_alloc | apply pw_below_drewN | apply below_drew1) | exact HB.out)) hb); clear HB; have HO224 := n0_; have HB := n1_; clear n0_ n1_; (try clear hb); (try clear hb2); (try clear hk); (try clear hi); (try clear ho0)) | ((with_reducible refine gate_callee (f := 20) rfl ?_); refine goesL_ (some 36) rfl rfl Try.func20 (by kernel_rfl) rfl #[.string (t219 ++ t220)] rfl (by (try simp only [List.map_toArray, List.map_cons, List.map_nil]); first | done | rfl | (simp only [List.length_drop, List.length_take]; rfl)) ?_; (with_reducible refine (spec_Runes.calls (t219 ++ t220) t225 _ A16.out).mono ?_); rintro e w26 ⟨v226, rfl, ho0, hb⟩; refine ⟨_, rfl, ?_⟩; have n0_ := Aside0.mk (Kd.R_elder' (by (with_reducible repeat (first | apply Kd.R_alloc | apply Kd.R_drewN | apply Kd.R_drew)); exact HO224.out) (Kd.R_base ho0) hb); have n1_ := Aside0.mk (Kd.R_lower (Kd.R_new' ho0 (Kd.R_lt (by (with_reducible repeat (first | apply Kd.R_alloc | apply Kd.R_drewN | apply Kd.R_drew)); exact HO224.out))) (below_size (by repeat (first | (with_reducible first | exact HB.out | apply below_alloc | apply pw_below_drewN | apply below_drew1) | exact HB.out)))); have n2_ := Aside0.mk (below_step (by repeat (first | (with_reducible first | exact HB.out | apply below_alloc | apply pw_below_drewN | apply below_drew1) | exact HB.out)) hb); clear HO224; clear HB; have HO224 := n0_; have HO227 := n1_; have HB := n2_; clear n0_ n1_ n2_; (try clear hb); (try clear hb2); (try clear hk); (try clear hi); (try clear ho0); obtain ⟨Ao27, co27, eo27⟩ := Kd.R_slice HO224.out; subst eo27; obtain ⟨Ao28, co28, eo28⟩ := Kd.R_slice HO227.out; subst eo28) | ((with_reducible refine gate_callee (f := 23) rfl ?_); refine goesL_ (some 37) rfl rfl Try.func23 (by kernel_rfl) rfl #[.slice Ao27 t222.length co27, .slice Ao28 t225.length co28] rfl (by (try simp only [List.map_toArray, List.map_cons, List.map_nil]); first | done | rfl | (simp only [List.length_drop, List.length_take]; rfl)) ?_; (with_reducible refine (spec_Suffix.calls kj3 _ _ t222 _ _ t225 t228 _ ?side1 ?side2 ?side3 ?side4 A17.out).mono ?_); (case side1 => repeat (first | exact (Kd.R_reads' HO224.out).2.2 | (with_reducible refine Kd.C_alloc ?_ _) | (with_reducible refine Kd.C_drewN ?_ _) | (with_reducible refine Kd.C_drew ?_))); (case side2 => exact (Kd.R_reads' HO224.out).2.1); (case side3 => repeat (first | exact (Kd.R_reads' HO227.out).2.2 | (with_reducible refine Kd.C_alloc ?_ _) | (with_reducible refine Kd.C_drewN ?_ _) | (with_reducible refine Kd.C_drew ?_))); (case side4 => exact (Kd.R_reads' HO227.out).2.1); rintro e w' ⟨rfl, ⟨nd, rfl⟩⟩; refine ⟨_, rfl, ?_⟩) | (go_at_call 24; (with_reducible refine (impl_CommonSuffix.calls kj3 (⟨#[121, 120]⟩ : ByteArray) (⟨#[122, 120]⟩ : ByteArray) t229 _ A19.out).mono ?_); rintro e w29 ⟨rfl, hb⟩; have n0_ := Aside0.mk (Kd.R_below (by (with_reducible repeat (first | apply Kd.R_alloc | apply Kd.R_drewN | apply Kd.R_drew)); exact HO224.out) hb); have n1_ := Aside0.mk (Kd.R_below (by (with_reducible repeat (first | apply Kd.R_alloc | apply Kd.R_drewN | apply Kd.R_drew)); exact HO227.out) hb); have n2_ := Aside0.mk (below_step (by repeat (first | (with_reducible first | exact HB.out | apply below_alloc | apply pw_below_drewN | apply below_drew1) | exact HB.out)) hb); clear HO224; clear HO227; clear HB; have HO224 := n0_; have HO227 := n1_; have HB := n2_; clear n0_ n1_ n2_; (try clear hb); (try clear hb2); (try clear hk); (try clear hi)))
              go_ret
              exact ⟨by first | rfl | (simp [errW_none, errW_some] <;> rfl) | (simp [*, errW_none, errW_some] <;> rfl), by repeat (first | (with_reducible first | exact HB.out | apply below_alloc | apply pw_below_drewN | apply below_drew1) | exact HB.out)⟩
            · rw [if_neg c18] at H
              have c18b0 : (t221 == t228) = false := beq_eq_false_iff_ne.mpr c18
              have c18b1 : (t221 != t228) = true := bne_iff_ne.mpr c18
              obtain rfl := Option.some.inj H
              go_wp2_with (first | ((with_reducible refine gate_callee (f := 17) rfl ?_); refine goesL_ (some 21) rfl rfl Try.func17 (by kernel_rfl) rfl #[.string a0, .int .i64 200] rfl (by (try simp only [List.map_toArray, List.map_cons, List.map_nil]); first | done | rfl | (simp only [List.length_drop, List.length_take]; rfl)) ?_; (with_reducible refine (spec_Clean.calls a0 200 t217 _ A8.out).mono ?_); rintro e w30 ⟨rfl, hb⟩; refine ⟨_, rfl, ?_⟩; have n0_ := Aside0.mk (below_step (by repeat (first | (with_reducible first | exact HB.out | apply below_alloc | apply pw_below_drewN | apply below_drew1) | exact HB.out)) hb); clear HB; have HB := n0_; clear n0_; (try clear hb); (try clear hb2); (try clear hk); (try clear hi)) | ((with_reducible refine gate_callee (f := 17) rfl ?_); refine goesL_ (some 23) rfl rfl Try.func17 (by kernel_rfl) rfl #[.string a2, .int .i64 100] rfl (by (try simp only [List.map_toArray, List.map_cons, List.map_nil]); first | done | rfl | (simp only [List.length_drop, List.length_take]; rfl)) ?_; (with_reducible refine (spec_Clean.calls a2 100 t218 _ A9.out).mono ?_); rintro e w31 ⟨rfl, hb⟩; refine ⟨_, rfl, ?_⟩; have n0_ := Aside0.mk (below_step (by repeat (first | (with_reducible first | exact HB.out | apply below_alloc | apply pw_below_drewN | apply below_drew1) | exact HB.out)) hb); clear HB; have HB := n0_; clear n0_; (try clear hb); (try clear hb2); (try clear hk); (try clear hi)) | ((with_reducible refine gate_callee (f := 17) rfl ?_); refine goesL_ (some 26) rfl rfl Try.func17 (by kernel_rfl) rfl #[.string a1, .int .i64 200] rfl (by (try simp only [List.map_toArray, List.map_cons, List.map_nil]); first | done | rfl | (simp only [List.length_drop, List.length_take]; rfl)) ?_; (with_reducible refine (spec_Clean.calls a1 200 t219 _ A11.out).mono ?_); rintro e w32 ⟨rfl, hb⟩; refine ⟨_, rfl, ?_⟩; have n0_ := Aside0.mk (below_step (by repeat (first | (with_reducible first | exact HB.out | apply below_alloc | apply pw_below_drewN | apply below_drew1) | exact HB.out)) hb); clear HB; have HB := n0_; clear n0_; (try clear hb); (try clear hb2); (try clear hk); (try clear hi)) | ((with_reducible refine gate_callee (f := 17) rfl ?_); refine goesL_ (some 28) rfl rfl Try.func17 (by kernel_rfl) rfl #[.string a2, .int .i64 100] rfl (by (try simp only [List.map_toArray, List.map_cons, List.map_nil]); first | done | rfl | (simp only [List.length_drop, List.length_take]; rfl)) ?_; (with_reducible refine (spec_Clean.calls a2 100 t220 _ A12.out).mono ?_); rintro e w33 ⟨rfl, hb⟩; refine ⟨_, rfl, ?_⟩; have n0_ := Aside0.mk (below_step (by repeat (first | (with_reducible first | exact HB.out | apply below_alloc | apply pw_below_drewN | apply below_drew1) | exact HB.out)) hb); clear HB; have HB := n0_; clear n0_; (try clear hb); (try clear hb2); (try clear hk); (try clear hi)) | ((with_reducible refine gate_callee (f := 24) rfl ?_); refine goesL_ (some 32) rfl rfl Try.func24 (by kernel_rfl) rfl #[.string (t217 ++ t218), .string (t219 ++ t220)] rfl (by (try simp only [List.map_toArray, List.map_cons, List.map_nil]); first | done | rfl | (simp only [List.length_drop, List.length_take]; rfl)) ?_; (with_reducible refine (impl_CommonSuffix.calls kj3 (t217 ++ t218) (t219 ++ t220) t221 _ A14.out).mono ?_); rintro e w34 ⟨rfl, hb⟩; refine ⟨_, rfl, ?_⟩; have n0_ := Aside0.mk (below_step (by repeat (first | (with_reducible first | exact HB.out | apply below_alloc | apply pw_below_drewN | apply below_drew1) | exact HB.out)) hb); clear HB; have HB := n0_; clear n0_; (try clear hb); (try clear hb2); (try clear hk); (try clear hi)) | ((with_reducible refine gate_callee (f := 20) rfl ?_); refine goesL_ (some 34) rfl rfl Try.func20 (by kernel_rfl) rfl #[.string (t217 ++ t218)] rfl (by (try simp only [List.map_toArray, List.map_cons, List.map_nil]); first | done | rfl | (simp only [List.length_drop, List.length_take]; rfl)) ?_; (with_reducible refine (spec_Runes.calls (t217 ++ t218) t222 _ A15.out).mono ?_); rintro e w35 ⟨v223, rfl, ho0, hb⟩; refine ⟨_, rfl, ?_⟩; have n0_ := Aside0.mk (Kd.R_lower ho0 (below_size (by repeat (first | (with_reducible first | exact HB.out | apply below_alloc | apply pw_below_drewN | apply below_drew1) | exact HB.out)))); have n1_ := Aside0.mk (below_step (by repeat (first | (with_reducible first | exact HB.out | apply below_alloc | apply pw_below_drewN | apply below_drew1) | exact HB.out)) hb); clear HB; have HO224 := n0_; have HB := n1_; clear n0_ n1_; (try clear hb); (try clear hb2); (try clear hk); (try clear hi); (try clear ho0)) | ((with_reducible refine gate_callee (f := 20) rfl ?_); refine goesL_ (some 36) rfl rfl Try.func20 (by kernel_rfl) rfl #[.string (t219 ++ t220)] rfl (by (try simp only [List.map_toArray, List.map_cons, List.map_nil]); first | done | rfl | (simp only [List.length_drop, List.length_take]; rfl)) ?_; (with_reducible refine (spec_Runes.calls (t219 ++ t220) t225 _ A16.out).mono ?_); rintro e w36 ⟨v226, rfl, ho0, hb⟩; refine ⟨_, rfl, ?_⟩; have n0_ := Aside0.mk (Kd.R_elder' (by (with_reducible repeat (first | apply Kd.R_alloc | apply Kd.R_drewN | apply Kd.R_drew)); exact HO224.out) (Kd.R_base ho0) hb); have n1_ := Aside0.mk (Kd.R_lower (Kd.R_new' ho0 (Kd.R_lt (by (with_reducible repeat (first | apply Kd.R_alloc | apply Kd.R_drewN | apply Kd.R_drew)); exact HO224.out))) (below_size (by repeat (first | (with_reducible first | exact HB.out | apply below_alloc | apply pw_below_drewN | apply below_drew1) | exact HB.out)))); have n2_ := Aside0.mk (below_step (by repeat (first | (with_reducible first | exact HB.out | apply below_alloc | apply pw_below_drewN | apply below_drew1) | exact HB.out)) hb); clear HO224; clear HB; have HO224 := n0_; have HO227 := n1_; have HB := n2_; clear n0_ n1_ n2_; (try clear hb); (try clear hb2); (try clear hk); (try clear hi); (try clear ho0); obtain ⟨Ao37, co37, eo37⟩ := Kd.R_slice HO224.out; subst eo37; obtain ⟨Ao38, co38, eo38⟩ := Kd.R_slice HO227.out; subst eo38) | ((with_reducible refine gate_callee (f := 23) rfl ?_); refine goesL_ (some 37) rfl rfl Try.func23 (by kernel_rfl) rfl #[.slice Ao37 t222.length co37, .slice Ao38 t225.length co38] rfl (by (try simp only [List.map_toArray, List.map_cons, List.map_nil]); first | done | rfl | (simp only [List.length_drop, List.length_take]; rfl)) ?_; (with_reducible refine (spec_Suffix.calls kj3 _ _ t222 _ _ t225 t228 _ ?side1 ?side2 ?side3 ?side4 A17.out).mono ?_); (case side1 => repeat (first | exact (Kd.R_reads' HO224.out).2.2 | (with_reducible refine Kd.C_alloc ?_ _) | (with_reducible refine Kd.C_drewN ?_ _) | (with_reducible refine Kd.C_drew ?_))); (case side2 => exact (Kd.R_reads' HO224.out).2.1); (case side3 => repeat (first | exact (Kd.R_reads' HO227.out).2.2 | (with_reducible refine Kd.C_alloc ?_ _) | (with_reducible refine Kd.C_drewN ?_ _) | (with_reducible refine Kd.C_drew ?_))); (case side4 => exact (Kd.R_reads' HO227.out).2.1); rintro e w' ⟨rfl, ⟨nd, rfl⟩⟩; refine ⟨_, rfl, ?_⟩))
              go_ret
              exact ⟨by first | rfl | (simp [errW_none, errW_some] <;> rfl) | (simp [*, errW_none, errW_some] <;> rfl), by repeat (first | (with_reducible first | exact HB.out | apply below_alloc | apply pw_below_drewN | apply below_drew1) | exact HB.out)⟩
          · rw [if_neg c13] at H
            exact absurd H (by simp)
        · rw [if_neg c10] at H
          exact absurd H (by simp)

/-- THE ONE PURE STATEMENT of laws_FnSuffix: yours. -/
def laws_FnSuffix.Pure : Prop := ∀ (a0 : ByteArray) (a1 : ByteArray) (a2 : ByteArray), a0.size ≤ 140737488351232 → a1.size ≤ 140737488351232 → a2.size ≤ 140737488351232 → ∃ k, laws_FnSuffix.f k a0 a1 a2 = some true
theorem laws_FnSuffix.walk (P : laws_FnSuffix.Pure) (a0 : ByteArray) (a1 : ByteArray) (a2 : ByteArray) (w : World) (w0 : a0.size ≤ 140737488351232) (w1 : a1.size ≤ 140737488351232) (w2 : a2.size ≤ 140737488351232) :
    Calls Try.prog 6 #[.string a0, .string a1, .string a2] w fun e w' => e = .returned (.bool true) ∧ Below w.heap.size w w' := by
  obtain ⟨k, h⟩ := P a0 a1 a2 w0 w1 w2
  refine (laws_FnSuffix.calls k a0 a1 a2 true w h).mono ?_
  rintro e w' ⟨rfl, hd⟩
  exact ⟨rfl, hd⟩

end Go.Proofs.Ytomidomdomjkfaa.PT
