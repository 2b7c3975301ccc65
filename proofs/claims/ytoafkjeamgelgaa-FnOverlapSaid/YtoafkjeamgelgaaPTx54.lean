-- Written by this session's own program (wip/tools) out of the translation.
import Derived.Test.YtoafkjeamgelgaaPTx0
import Derived.Test.YtoafkjeamgelgaaPTx38
import Derived.Test.YtoafkjeamgelgaaPTx52
import Derived.Test.YtoafkjeamgelgaaPTx53
namespace Go.Proofs.Ytoafkjeamgelgaa.PT
open Go.RowKit Go.Proofs.YtoafkjeamgelgaaW.PrintWords Go.Proofs.YtoafkjeamgelgaaW.PrintLast Go.Proofs.YtoafkjeamgelgaaW.PrintMore
attribute [local go_sem] max2_int min2_int max_two min_two max_three min_three max_four min_four   -- for this text's walks alone
set_option linter.unusedVariables false
set_option linter.unusedSimpArgs false

/-! ### laws_FnOverlap: function 5 -/
def laws_FnOverlap.j0 : Nat → List Int → List Int → List Int → Bool → Option (Bool)
  | 0, _, _, _, _ => none
  | k + 1, x0, x1, x2, x21 => if x21 = true then (some true) else ((laws_dfAscii.f k x0 40).bind fun t373 => ((laws_dfAscii.f k x1 40).bind fun t374 => (if t373.size + t374.size ≤ 9223372036854775807 then ((laws_dfAscii.f k x1 40).bind fun t375 => ((laws_dfAscii.f k x2 40).bind fun t376 => (if t375.size + t376.size ≤ 9223372036854775807 then ((impl_CommonOverlap.f k (t373 ++ t374) (t375 ++ t376)).bind fun t377 => ((spec_Overlap.f k (t373 ++ t374) (t375 ++ t376)).bind fun t378 => (if t377 = t378 then ((impl_CommonOverlap.f k (⟨#[97, 98]⟩ : ByteArray) (⟨#[98, 99]⟩ : ByteArray)).bind fun t379 => (some (t379 == 1))) else (some false)))) else (none)))) else (none))))
def laws_FnOverlap.f (k : Nat) (l0 : List Int) (l1 : List Int) (l2 : List Int) : Option (Bool) := if (l0.length : Int) > 2147483647 then (laws_FnOverlap.j0 k l0 l1 l2 true) else (if (l1.length : Int) > 2147483647 then (laws_FnOverlap.j0 k l0 l1 l2 true) else (laws_FnOverlap.j0 k l0 l1 l2 (decide ((l2.length : Int) > 2147483647))))
theorem laws_FnOverlap.mono_l : ∀ k, (∀ y0 y1 y2 y3, LeO (laws_FnOverlap.j0 k y0 y1 y2 y3) (laws_FnOverlap.j0 (k + 1) y0 y1 y2 y3))
  | 0 => fun _ _ _ _ r h => by simp [laws_FnOverlap.j0] at h
  | k + 1 => by
    have ih0 := laws_FnOverlap.mono_l k
    · intro y0 y1 y2 y3
      unfold laws_FnOverlap.j0
      repeat' first
      | (with_reducible exact ih0 _ _ _ _)
      | (with_reducible exact impl_CommonOverlap.mono _ _ _)
      | (with_reducible exact laws_dfAscii.mono _ _ _)
      | (with_reducible exact spec_Overlap.mono _ _ _)
      | (with_reducible exact LeO.refl _)
      | (with_reducible exact LeO.none _)
      | (with_reducible refine LeO.ite ?_ ?_)
      | (with_reducible refine LeO.bind ?_ (fun _ => ?_))
      | exact ih0 _ _ _ _
      | exact impl_CommonOverlap.mono _ _ _
      | exact laws_dfAscii.mono _ _ _
      | exact spec_Overlap.mono _ _ _
      | exact LeO.none _
      | refine LeO.ite ?_ ?_
      | refine LeO.bind ?_ (fun _ => ?_)
theorem laws_FnOverlap.mono : ∀ a0 a1 a2 k, LeO (laws_FnOverlap.f k a0 a1 a2) (laws_FnOverlap.f (k + 1) a0 a1 a2) := by
  intro a0 a1 a2 k
  have ih0 := laws_FnOverlap.mono_l k
  unfold laws_FnOverlap.f
  repeat' first
      | (with_reducible exact ih0 _ _ _ _)
      | (with_reducible exact impl_CommonOverlap.mono _ _ _)
      | (with_reducible exact laws_dfAscii.mono _ _ _)
      | (with_reducible exact spec_Overlap.mono _ _ _)
      | (with_reducible exact LeO.refl _)
      | (with_reducible exact LeO.none _)
      | (with_reducible refine LeO.ite ?_ ?_)
      | (with_reducible refine LeO.bind ?_ (fun _ => ?_))
      | exact ih0 _ _ _ _
      | exact impl_CommonOverlap.mono _ _ _
      | exact laws_dfAscii.mono _ _ _
      | exact spec_Overlap.mono _ _ _
      | exact LeO.none _
      | refine LeO.ite ?_ ?_
      | refine LeO.bind ?_ (fun _ => ?_)
set_option maxHeartbeats 8000000 in
set_option maxRecDepth 100000 in
theorem laws_FnOverlap.calls (k : Nat) (A0 : Option Addr) (c0 : Nat) (l0 : List Int) (A1 : Option Addr) (c1 : Nat) (l1 : List Int) (A2 : Option Addr) (c2 : Nat) (l2 : List Int) (r : Bool) (w : World) (hr0 : Kd.C (Kd.int .u8) w A0 l0.length l0) (hc0 : l0.length ≤ c0) (hr1 : Kd.C (Kd.int .u8) w A1 l1.length l1) (hc1 : l1.length ≤ c1) (hr2 : Kd.C (Kd.int .u8) w A2 l2.length l2) (hc2 : l2.length ≤ c2) (h : laws_FnOverlap.f k l0 l1 l2 = some r) :
    Calls Try.prog 5 #[.slice A0 l0.length c0, .slice A1 l1.length c1, .slice A2 l2.length c2] w fun e w' => e = .returned (.bool r) ∧ Below w.heap.size w w' := by
  have HR0 := Aside0.mk hr0
  have HC0 := Aside0.mk hc0
  clear hr0 hc0
  have HR1 := Aside0.mk hr1
  have HC1 := Aside0.mk hc1
  clear hr1 hc1
  have HR2 := Aside0.mk hr2
  have HC2 := Aside0.mk hc2
  clear hr2 hc2
  have HB := Aside0.mk (Below.refl w.heap.size w)
  have H : (if (l0.length : Int) > 2147483647 then (laws_FnOverlap.j0 k l0 l1 l2 true) else (if (l1.length : Int) > 2147483647 then (laws_FnOverlap.j0 k l0 l1 l2 true) else (laws_FnOverlap.j0 k l0 l1 l2 (decide ((l2.length : Int) > 2147483647))))) = some r := h
  clear h
  have HC4 := Aside0.mk H
  clear H
  go_enter Try.func5, Try.ntmps5
  go_upto_region 1 with (fail)
  go_cut [21] (fun v21 wc => ∃ (kq : Nat) (x21_3 : Bool), v21 = .bool x21_3 ∧ Aside0 (laws_FnOverlap.j0 kq l0 l1 l2 x21_3 = some r) ∧ Aside0 (kq ≤ k) ∧ Aside0 (Below w.heap.size w wc))
  case first =>
    have H := HC4.out
    clear HC4
    by_cases c5 : (l0.length : Int) > 2147483647
    · rw [if_pos c5] at H
      have c5b0 : decide (2147483647 < (l0.length : Int)) = true := decide_eq_true c5
      have c5b1 : decide (2147483647 < l0.length) = true := decide_eq_true (by omega)
      clear c5
      (first | rw [c5b0] | (simp only [i64_w, i32_w]; rw [c5b0]) | rw [c5b2] | rw [c5b1] | skip)
      have H' := Aside0.mk H
      clear H
      go_wp2
      go_meet
      case rel => exact ⟨_, (true), (by first | rfl | (simp; done) | (simp [*]; done)), H', ⟨by first | omega | exact Nat.le_refl _⟩, ⟨by repeat (first | (with_reducible first | exact HB.out | apply below_alloc | apply pw_below_drewN | apply below_drew1) | exact HB.out)⟩⟩
    rw [if_neg c5] at H
    have c5b0 : decide (2147483647 < (l0.length : Int)) = false := decide_eq_false c5
    have c5b1 : decide (2147483647 < l0.length) = false := decide_eq_false (by omega)
    clear c5
    (first | rw [c5b0] | (simp only [i64_w, i32_w]; rw [c5b0]) | rw [c5b2] | rw [c5b1] | skip)
    by_cases c6 : (l1.length : Int) > 2147483647
    · rw [if_pos c6] at H
      have c6b0 : decide (2147483647 < (l1.length : Int)) = true := decide_eq_true c6
      have c6b1 : decide (2147483647 < l1.length) = true := decide_eq_true (by omega)
      clear c6
      have H' := Aside0.mk H
      clear H
      go_wp2
      go_meet
      case rel => exact ⟨_, (true), (by first | rfl | (simp; done) | (simp [*]; done)), H', ⟨by first | omega | exact Nat.le_refl _⟩, ⟨by repeat (first | (with_reducible first | exact HB.out | apply below_alloc | apply pw_below_drewN | apply below_drew1) | exact HB.out)⟩⟩
    rw [if_neg c6] at H
    have c6b0 : decide (2147483647 < (l1.length : Int)) = false := decide_eq_false c6
    have c6b1 : decide (2147483647 < l1.length) = false := decide_eq_false (by omega)
    clear c6
    have H' := Aside0.mk H
    clear H
    go_wp2
    go_meet
    case rel => exact ⟨_, (decide ((l2.length : Int) > 2147483647)), (by first | rfl | (simp; done) | (simp [*]; done)), H', ⟨by first | omega | exact Nat.le_refl _⟩, ⟨by repeat (first | (with_reducible first | exact HB.out | apply below_alloc | apply pw_below_drewN | apply below_drew1) | exact HB.out)⟩⟩
  case rest =>
    clear HC4
    try clear c1
    try clear c2
    try clear p2
    try clear c5
    try clear c5b0
    try clear c5b1
    try clear c5b2
    try clear c6
    try clear c6b0
    try clear c6b1
    obtain ⟨kq, x21_3, rfl, HA, HJ3, HB⟩ := hcut
    rcases kq with _ | kj3
    · exact absurd HA.out (by simp [laws_FnOverlap.j0])
    have H := HA.out
    clear HA
    simp only [laws_FnOverlap.j0] at H
    by_cases c7 : x21_3 = true
    · subst c7
      have H1 : (some true) = some r := by rw [if_pos rfl] at H; exact H
      clear H
      have H := H1
      clear H1
      obtain rfl := Option.some.inj H
      go_wp2
      go_ret
      exact ⟨by first | rfl | (simp [errW_none, errW_some] <;> rfl) | (simp [*, errW_none, errW_some] <;> rfl), by repeat (first | (with_reducible first | exact HB.out | apply below_alloc | apply pw_below_drewN | apply below_drew1) | exact HB.out)⟩
    replace c7 := Bool.eq_false_iff.mpr c7
    subst c7
    have H1 : ((laws_dfAscii.f kj3 l0 40).bind fun t373 => ((laws_dfAscii.f kj3 l1 40).bind fun t374 => (if t373.size + t374.size ≤ 9223372036854775807 then ((laws_dfAscii.f kj3 l1 40).bind fun t375 => ((laws_dfAscii.f kj3 l2 40).bind fun t376 => (if t375.size + t376.size ≤ 9223372036854775807 then ((impl_CommonOverlap.f kj3 (t373 ++ t374) (t375 ++ t376)).bind fun t377 => ((spec_Overlap.f kj3 (t373 ++ t374) (t375 ++ t376)).bind fun t378 => (if t377 = t378 then ((impl_CommonOverlap.f kj3 (⟨#[97, 98]⟩ : ByteArray) (⟨#[98, 99]⟩ : ByteArray)).bind fun t379 => (some (t379 == 1))) else (some false)))) else (none)))) else (none)))) = some r := by rw [if_neg (show ¬ (false = true) by decide)] at H; exact H
    clear H
    have H := H1
    clear H1
    replace H := Option.bind_eq_some_iff.mp H
    obtain ⟨t373, A80, H⟩ := H
    replace H : ((laws_dfAscii.f kj3 l1 40).bind fun t374 => (if t373.size + t374.size ≤ 9223372036854775807 then ((laws_dfAscii.f kj3 l1 40).bind fun t375 => ((laws_dfAscii.f kj3 l2 40).bind fun t376 => (if t375.size + t376.size ≤ 9223372036854775807 then ((impl_CommonOverlap.f kj3 (t373 ++ t374) (t375 ++ t376)).bind fun t377 => ((spec_Overlap.f kj3 (t373 ++ t374) (t375 ++ t376)).bind fun t378 => (if t377 = t378 then ((impl_CommonOverlap.f kj3 (⟨#[97, 98]⟩ : ByteArray) (⟨#[98, 99]⟩ : ByteArray)).bind fun t379 => (some (t379 == 1))) else (some false)))) else (none)))) else (none))) = some r := H
    have A8 := Aside0.mk A80
    clear A80
    replace H := Option.bind_eq_some_iff.mp H
    obtain ⟨t374, A90, H⟩ := H
    replace H : (if t373.size + t374.size ≤ 9223372036854775807 then ((laws_dfAscii.f kj3 l1 40).bind fun t375 => ((laws_dfAscii.f kj3 l2 40).bind fun t376 => (if t375.size + t376.size ≤ 9223372036854775807 then ((impl_CommonOverlap.f kj3 (t373 ++ t374) (t375 ++ t376)).bind fun t377 => ((spec_Overlap.f kj3 (t373 ++ t374) (t375 ++ t376)).bind fun t378 => (if t377 = t378 then ((impl_CommonOverlap.f kj3 (⟨#[97, 98]⟩ : ByteArray) (⟨#[98, 99]⟩ : ByteArray)).bind fun t379 => (some (t379 == 1))) else (some false)))) else (none)))) else (none)) = some r := H
    have A9 := Aside0.mk A90
    clear A90
    by_cases c10 : t373.size + t374.size ≤ 9223372036854775807
    rotate_left
    · rw [if_neg c10] at H
      exact absurd H (by simp)
    rw [if_pos c10] at H
    have c10b0 := eq_true c10
    have c10b1 : decide (t373.size + t374.size ≤ 9223372036854775807) = true := decide_eq_true c10
    try have c10b2 : (9223372036854775807 < t373.size + t374.size) = False := eq_false (Nat.not_lt.2 c10)
    replace H := Option.bind_eq_some_iff.mp H
    obtain ⟨t375, A110, H⟩ := H
    replace H : ((laws_dfAscii.f kj3 l2 40).bind fun t376 => (if t375.size + t376.size ≤ 9223372036854775807 then ((impl_CommonOverlap.f kj3 (t373 ++ t374) (t375 ++ t376)).bind fun t377 => ((spec_Overlap.f kj3 (t373 ++ t374) (t375 ++ t376)).bind fun t378 => (if t377 = t378 then ((impl_CommonOverlap.f kj3 (⟨#[97, 98]⟩ : ByteArray) (⟨#[98, 99]⟩ : ByteArray)).bind fun t379 => (some (t379 == 1))) else (some false)))) else (none))) = some r := H
    have A11 := Aside0.mk A110
    clear A110
    replace H := Option.bind_eq_some_iff.mp H
    obtain ⟨t376, A120, H⟩ := H
    replace H : (if t375.size + t376.size ≤ 9223372036854775807 then ((impl_CommonOverlap.f kj3 (t373 ++ t374) (t375 ++ t376)).bind fun t377 => ((spec_Overlap.f kj3 (t373 ++ t374) (t375 ++ t376)).bind fun t378 => (if t377 = t378 then ((impl_CommonOverlap.f kj3 (⟨#[97, 98]⟩ : ByteArray) (⟨#[98, 99]⟩ : ByteArray)).bind fun t379 => (some (t379 == 1))) else (some false)))) else (none)) = some r := H
    have A12 := Aside0.mk A120
    clear A120
    by_cases c13 : t375.size + t376.size ≤ 9223372036854775807
    rotate_left
    · rw [if_neg c13] at H
      exact absurd H (by simp)
    rw [if_pos c13] at H
    have c13b0 := eq_true c13
    have c13b1 : decide (t375.size + t376.size ≤ 9223372036854775807) = true := decide_eq_true c13
    try have c13b2 : (9223372036854775807 < t375.size + t376.size) = False := eq_false (Nat.not_lt.2 c13)
    replace H := Option.bind_eq_some_iff.mp H
    obtain ⟨t377, A140, H⟩ := H
    replace H : ((spec_Overlap.f kj3 (t373 ++ t374) (t375 ++ t376)).bind fun t378 => (if t377 = t378 then ((impl_CommonOverlap.f kj3 (⟨#[97, 98]⟩ : ByteArray) (⟨#[98, 99]⟩ : ByteArray)).bind fun t379 => (some (t379 == 1))) else (some false))) = some r := H
    have A14 := Aside0.mk A140
    clear A140
    replace H := Option.bind_eq_some_iff.mp H
    obtain ⟨t378, A150, H⟩ := H
    replace H : (if t377 = t378 then ((impl_CommonOverlap.f kj3 (⟨#[97, 98]⟩ : ByteArray) (⟨#[98, 99]⟩ : ByteArray)).bind fun t379 => (some (t379 == 1))) else (some false)) = some r := H
    have A15 := Aside0.mk A150
    clear A150
    by_cases c16 : t377 = t378
    rotate_left
    · rw [if_neg c16] at H
      have c16b0 : (t377 == t378) = false := beq_eq_false_iff_ne.mpr c16
      have c16b1 : (t377 != t378) = true := bne_iff_ne.mpr c16
      obtain rfl := Option.some.inj H
      go_wp2_with (first | ((with_reducible refine gate_callee (f := 17) rfl ?_); refine goesL_ (some 23) rfl rfl Try.func17 (by kernel_rfl) rfl #[.slice A0 l0.length c0, .int .i64 40] rfl (by (try simp only [List.map_toArray, List.map_cons, List.map_nil]); first | done | rfl | (simp only [List.length_drop, List.length_take]; rfl)) ?_; (with_reducible refine (laws_dfAscii.calls kj3 _ _ l0 40 t373 _ ?side1 ?side2 A8.out).mono ?_); (case side1 => repeat (first | exact (Kd.C_below HR0.out HB.out) | (with_reducible refine Kd.C_alloc ?_ _) | (with_reducible refine Kd.C_drewN ?_ _) | (with_reducible refine Kd.C_drew ?_))); (case side2 => exact HC0.out); rintro e w25 ⟨rfl, hb⟩; refine ⟨_, rfl, ?_⟩; have n0_ := Aside0.mk (below_step (by repeat (first | (with_reducible first | exact HB.out | apply below_alloc | apply pw_below_drewN | apply below_drew1) | exact HB.out)) hb); clear HB; have HB := n0_; clear n0_; (try clear hb); (try clear hb2); (try clear hk); (try clear hi)) | ((with_reducible refine gate_callee (f := 17) rfl ?_); refine goesL_ (some 25) rfl rfl Try.func17 (by kernel_rfl) rfl #[.slice A1 l1.length c1, .int .i64 40] rfl (by (try simp only [List.map_toArray, List.map_cons, List.map_nil]); first | done | rfl | (simp only [List.length_drop, List.length_take]; rfl)) ?_; (with_reducible refine (laws_dfAscii.calls kj3 _ _ l1 40 t374 _ ?side1 ?side2 A9.out).mono ?_); (case side1 => repeat (first | exact (Kd.C_below HR1.out HB.out) | (with_reducible refine Kd.C_alloc ?_ _) | (with_reducible refine Kd.C_drewN ?_ _) | (with_reducible refine Kd.C_drew ?_))); (case side2 => exact HC1.out); rintro e w26 ⟨rfl, hb⟩; refine ⟨_, rfl, ?_⟩; have n0_ := Aside0.mk (below_step (by repeat (first | (with_reducible first | exact HB.out | apply below_alloc | apply pw_below_drewN | apply below_drew1) | exact HB.out)) hb); clear HB; have HB := n0_; clear n0_; (try clear hb); (try clear hb2); (try clear hk); (try clear hi)) | ((with_reducible refine gate_callee (f := 17) rfl ?_); refine goesL_ (some 28) rfl rfl Try.func17 (by kernel_rfl) rfl #[.slice A1 l1.length c1, .int .i64 40] rfl (by (try simp only [List.map_toArray, List.map_cons, List.map_nil]); first | done | rfl | (simp only [List.length_drop, List.length_take]; rfl)) ?_; (with_reducible refine (laws_dfAscii.calls kj3 _ _ l1 40 t375 _ ?side1 ?side2 A11.out).mono ?_); (case side1 => repeat (first | exact (Kd.C_below HR1.out HB.out) | (with_reducible refine Kd.C_alloc ?_ _) | (with_reducible refine Kd.C_drewN ?_ _) | (with_reducible refine Kd.C_drew ?_))); (case side2 => exact HC1.out); rintro e w27 ⟨rfl, hb⟩; refine ⟨_, rfl, ?_⟩; have n0_ := Aside0.mk (below_step (by repeat (first | (with_reducible first | exact HB.out | apply below_alloc | apply pw_below_drewN | apply below_drew1) | exact HB.out)) hb); clear HB; have HB := n0_; clear n0_; (try clear hb); (try clear hb2); (try clear hk); (try clear hi)) | ((with_reducible refine gate_callee (f := 17) rfl ?_); refine goesL_ (some 30) rfl rfl Try.func17 (by kernel_rfl) rfl #[.slice A2 l2.length c2, .int .i64 40] rfl (by (try simp only [List.map_toArray, List.map_cons, List.map_nil]); first | done | rfl | (simp only [List.length_drop, List.length_take]; rfl)) ?_; (with_reducible refine (laws_dfAscii.calls kj3 _ _ l2 40 t376 _ ?side1 ?side2 A12.out).mono ?_); (case side1 => repeat (first | exact (Kd.C_below HR2.out HB.out) | (with_reducible refine Kd.C_alloc ?_ _) | (with_reducible refine Kd.C_drewN ?_ _) | (with_reducible refine Kd.C_drew ?_))); (case side2 => exact HC2.out); rintro e w28 ⟨rfl, hb⟩; refine ⟨_, rfl, ?_⟩; have n0_ := Aside0.mk (below_step (by repeat (first | (with_reducible first | exact HB.out | apply below_alloc | apply pw_below_drewN | apply below_drew1) | exact HB.out)) hb); clear HB; have HB := n0_; clear n0_; (try clear hb); (try clear hb2); (try clear hk); (try clear hi)) | ((with_reducible refine gate_callee (f := 18) rfl ?_); refine goesL_ (some 34) rfl rfl Try.func18 (by kernel_rfl) rfl #[.string (t373 ++ t374), .string (t375 ++ t376)] rfl (by (try simp only [List.map_toArray, List.map_cons, List.map_nil]); first | done | rfl | (simp only [List.length_drop, List.length_take]; rfl)) ?_; (with_reducible refine (impl_CommonOverlap.calls kj3 (t373 ++ t374) (t375 ++ t376) t377 _ A14.out).mono ?_); rintro e w29 ⟨rfl, hb⟩; refine ⟨_, rfl, ?_⟩; have n0_ := Aside0.mk (below_step (by repeat (first | (with_reducible first | exact HB.out | apply below_alloc | apply pw_below_drewN | apply below_drew1) | exact HB.out)) hb); clear HB; have HB := n0_; clear n0_; (try clear hb); (try clear hb2); (try clear hk); (try clear hi)) | ((with_reducible refine gate_callee (f := 19) rfl ?_); refine goesL_ (some 37) rfl rfl Try.func19 (by kernel_rfl) rfl #[.string (t373 ++ t374), .string (t375 ++ t376)] rfl (by (try simp only [List.map_toArray, List.map_cons, List.map_nil]); first | done | rfl | (simp only [List.length_drop, List.length_take]; rfl)) ?_; (with_reducible refine (spec_Overlap.calls kj3 (t373 ++ t374) (t375 ++ t376) t378 _ A15.out).mono ?_); rintro e w30 ⟨rfl, hb⟩; refine ⟨_, rfl, ?_⟩; have n0_ := Aside0.mk (below_step (by repeat (first | (with_reducible first | exact HB.out | apply below_alloc | apply pw_below_drewN | apply below_drew1) | exact HB.out)) hb); clear HB; have HB := n0_; clear n0_; (try clear hb); (try clear hb2); (try clear hk); (try clear hi)))
      go_ret
      exact ⟨by first | rfl | (simp [errW_none, errW_some] <;> rfl) | (simp [*, errW_none, errW_some] <;> rfl), by repeat (first | (with_reducible first | exact HB.out | apply below_alloc | apply pw_below_drewN | apply below_drew1) | exact HB.out)⟩
    rw [if_pos c16] at H
    have c16b0 : (t377 == t378) = true := beq_iff_eq.mpr c16
    have c16b1 : (t377 != t378) = false := bne_eq_false_iff_eq.mpr c16
    clear c16
    replace H := Option.bind_eq_some_iff.mp H
    obtain ⟨t379, A170, H⟩ := H
    replace H : (some (t379 == 1)) = some r := H
    have A17 := Aside0.mk A170
    clear A170
    obtain rfl := Option.some.inj H
    go_wp2_with (first | ((with_reducible refine gate_callee (f := 17) rfl ?_); refine goesL_ (some 23) rfl rfl Try.func17 (by kernel_rfl) rfl #[.slice A0 l0.length c0, .int .i64 40] rfl (by (try simp only [List.map_toArray, List.map_cons, List.map_nil]); first | done | rfl | (simp only [List.length_drop, List.length_take]; rfl)) ?_; (with_reducible refine (laws_dfAscii.calls kj3 _ _ l0 40 t373 _ ?side1 ?side2 A8.out).mono ?_); (case side1 => repeat (first | exact (Kd.C_below HR0.out HB.out) | (with_reducible refine Kd.C_alloc ?_ _) | (with_reducible refine Kd.C_drewN ?_ _) | (with_reducible refine Kd.C_drew ?_))); (case side2 => exact HC0.out); rintro e w18 ⟨rfl, hb⟩; refine ⟨_, rfl, ?_⟩; have n0_ := Aside0.mk (below_step (by repeat (first | (with_reducible first | exact HB.out | apply below_alloc | apply pw_below_drewN | apply below_drew1) | exact HB.out)) hb); clear HB; have HB := n0_; clear n0_; (try clear hb); (try clear hb2); (try clear hk); (try clear hi)) | ((with_reducible refine gate_callee (f := 17) rfl ?_); refine goesL_ (some 25) rfl rfl Try.func17 (by kernel_rfl) rfl #[.slice A1 l1.length c1, .int .i64 40] rfl (by (try simp only [List.map_toArray, List.map_cons, List.map_nil]); first | done | rfl | (simp only [List.length_drop, List.length_take]; rfl)) ?_; (with_reducible refine (laws_dfAscii.calls kj3 _ _ l1 40 t374 _ ?side1 ?side2 A9.out).mono ?_); (case side1 => repeat (first | exact (Kd.C_below HR1.out HB.out) | (with_reducible refine Kd.C_alloc ?_ _) | (with_reducible refine Kd.C_drewN ?_ _) | (with_reducible refine Kd.C_drew ?_))); (case side2 => exact HC1.out); rintro e w19 ⟨rfl, hb⟩; refine ⟨_, rfl, ?_⟩; have n0_ := Aside0.mk (below_step (by repeat (first | (with_reducible first | exact HB.out | apply below_alloc | apply pw_below_drewN | apply below_drew1) | exact HB.out)) hb); clear HB; have HB := n0_; clear n0_; (try clear hb); (try clear hb2); (try clear hk); (try clear hi)) | ((with_reducible refine gate_callee (f := 17) rfl ?_); refine goesL_ (some 28) rfl rfl Try.func17 (by kernel_rfl) rfl #[.slice A1 l1.length c1, .int .i64 40] rfl (by (try simp only [List.map_toArray, List.map_cons, List.map_nil]); first | done | rfl | (simp only [List.length_drop, List.length_take]; rfl)) ?_; (with_reducible refine (laws_dfAscii.calls kj3 _ _ l1 40 t375 _ ?side1 ?side2 A11.out).mono ?_); (case side1 => repeat (first | exact (Kd.C_below HR1.out HB.out) | (with_reducible refine Kd.C_alloc ?_ _) | (with_reducible refine Kd.C_drewN ?_ _) | (with_reducible refine Kd.C_drew ?_))); (case side2 => exact HC1.out); rintro e w20 ⟨rfl, hb⟩; refine ⟨_, rfl, ?_⟩; have n0_ := Aside0.mk (below_step (by repeat (first | (with_reducible first | exact HB.out | apply below_alloc | apply pw_below_drewN | apply below_drew1) | exact HB.out)) hb); clear HB; have HB := n0_; clear n0_; (try clear hb); (try clear hb2); (try clear hk); (try clear hi)) | ((with_reducible refine gate_callee (f := 17) rfl ?_); refine goesL_ (some 30) rfl rfl Try.func17 (by kernel_rfl) rfl #[.slice A2 l2.length c2, .int .i64 40] rfl (by (try simp only [List.map_toArray, List.map_cons, List.map_nil]); first | done | rfl | (simp only [List.length_drop, List.length_take]; rfl)) ?_; (with_reducible refine (laws_dfAscii.calls kj3 _ _ l2 40 t376 _ ?side1 ?side2 A12.out).mono ?_); (case side1 => repeat (first | exact (Kd.C_below HR2.out HB.out) | (with_reducible refine Kd.C_alloc ?_ _) | (with_reducible refine Kd.C_drewN ?_ _) | (with_reducible refine Kd.C_drew ?_))); (case side2 => exact HC2.out); rintro e w21 ⟨rfl, hb⟩; refine ⟨_, rfl, ?_⟩; have n0_ := Aside0.mk (below_step (by repeat (first | (with_reducible first | exact HB.out | apply below_alloc | apply pw_below_drewN | apply below_drew1) | exact HB.out)) hb); clear HB; have HB := n0_; clear n0_; (try clear hb); (try clear hb2); (try clear hk); (try clear hi)) | ((with_reducible refine gate_callee (f := 18) rfl ?_); refine goesL_ (some 34) rfl rfl Try.func18 (by kernel_rfl) rfl #[.string (t373 ++ t374), .string (t375 ++ t376)] rfl (by (try simp only [List.map_toArray, List.map_cons, List.map_nil]); first | done | rfl | (simp only [List.length_drop, List.length_take]; rfl)) ?_; (with_reducible refine (impl_CommonOverlap.calls kj3 (t373 ++ t374) (t375 ++ t376) t377 _ A14.out).mono ?_); rintro e w22 ⟨rfl, hb⟩; refine ⟨_, rfl, ?_⟩; have n0_ := Aside0.mk (below_step (by repeat (first | (with_reducible first | exact HB.out | apply below_alloc | apply pw_below_drewN | apply below_drew1) | exact HB.out)) hb); clear HB; have HB := n0_; clear n0_; (try clear hb); (try clear hb2); (try clear hk); (try clear hi)) | ((with_reducible refine gate_callee (f := 19) rfl ?_); refine goesL_ (some 37) rfl rfl Try.func19 (by kernel_rfl) rfl #[.string (t373 ++ t374), .string (t375 ++ t376)] rfl (by (try simp only [List.map_toArray, List.map_cons, List.map_nil]); first | done | rfl | (simp only [List.length_drop, List.length_take]; rfl)) ?_; (with_reducible refine (spec_Overlap.calls kj3 (t373 ++ t374) (t375 ++ t376) t378 _ A15.out).mono ?_); rintro e w23 ⟨rfl, hb⟩; refine ⟨_, rfl, ?_⟩; have n0_ := Aside0.mk (below_step (by repeat (first | (with_reducible first | exact HB.out | apply below_alloc | apply pw_below_drewN | apply below_drew1) | exact HB.out)) hb); clear HB; have HB := n0_; clear n0_; (try clear hb); (try clear hb2); (try clear hk); (try clear hi)) | (go_at_call 18; (with_reducible refine (impl_CommonOverlap.calls kj3 (⟨#[97, 98]⟩ : ByteArray) (⟨#[98, 99]⟩ : ByteArray) t379 _ A17.out).mono ?_); rintro e w24 ⟨rfl, hb⟩; have n0_ := Aside0.mk (below_step (by repeat (first | (with_reducible first | exact HB.out | apply below_alloc | apply pw_below_drewN | apply below_drew1) | exact HB.out)) hb); clear HB; have HB := n0_; clear n0_; (try clear hb); (try clear hb2); (try clear hk); (try clear hi)))
    go_ret
    exact ⟨by first | rfl | (simp [errW_none, errW_some] <;> rfl) | (simp [*, errW_none, errW_some] <;> rfl), by repeat (first | (with_reducible first | exact HB.out | apply below_alloc | apply pw_below_drewN | apply below_drew1) | exact HB.out)⟩

/-- THE ONE PURE STATEMENT of laws_FnOverlap: yours. -/
def laws_FnOverlap.Pure : Prop := ∀ (l0 : List Int) (l1 : List Int) (l2 : List Int), l0.length ≤ maxLen → l0.length * 1 ≤ 140737488351232 → (∀ x ∈ l0, (Lit.int .u8 x).wf = true) → l1.length ≤ maxLen → l1.length * 1 ≤ 140737488351232 → (∀ x ∈ l1, (Lit.int .u8 x).wf = true) → l2.length ≤ maxLen → l2.length * 1 ≤ 140737488351232 → (∀ x ∈ l2, (Lit.int .u8 x).wf = true) → ∃ k, laws_FnOverlap.f k l0 l1 l2 = some true
theorem laws_FnOverlap.walk (P : laws_FnOverlap.Pure) (a0 : Option Addr) (len0 cap0 : Nat) (z0 : List Int) (a1 : Option Addr) (len1 cap1 : Nat) (z1 : List Int) (a2 : Option Addr) (len2 cap2 : Nat) (z2 : List Int) (w : World) (w0 : (a0 = none ∧ len0 = 0 ∧ cap0 = 0 ∧ z0 = []) ∨ ∃ x, a0 = some x ∧ len0 ≤ cap0 ∧ cap0 ≤ maxLen ∧ z0.length = cap0 ∧ (∀ i, i < z0.length → w.cell? (x.add i) = some (.int .u8 (z0.getD i 0))) ∧ ∀ n ∈ z0, (Lit.int .u8 n).wf = true) (y0 : len0 * 1 ≤ 140737488351232) (w1 : (a1 = none ∧ len1 = 0 ∧ cap1 = 0 ∧ z1 = []) ∨ ∃ x, a1 = some x ∧ len1 ≤ cap1 ∧ cap1 ≤ maxLen ∧ z1.length = cap1 ∧ (∀ i, i < z1.length → w.cell? (x.add i) = some (.int .u8 (z1.getD i 0))) ∧ ∀ n ∈ z1, (Lit.int .u8 n).wf = true) (y1 : len1 * 1 ≤ 140737488351232) (w2 : (a2 = none ∧ len2 = 0 ∧ cap2 = 0 ∧ z2 = []) ∨ ∃ x, a2 = some x ∧ len2 ≤ cap2 ∧ cap2 ≤ maxLen ∧ z2.length = cap2 ∧ (∀ i, i < z2.length → w.cell? (x.add i) = some (.int .u8 (z2.getD i 0))) ∧ ∀ n ∈ z2, (Lit.int .u8 n).wf = true) (y2 : len2 * 1 ≤ 140737488351232) :
    Calls Try.prog 5 #[.slice a0 len0 cap0, .slice a1 len1 cap1, .slice a2 len2 cap2] w fun e w' => e = .returned (.bool true) ∧ Below w.heap.size w w' := by
  obtain ⟨l0, rfl, hr0, hm0, hw0, hc0⟩ := ReadsInt.ofRowC w0
  obtain ⟨l1, rfl, hr1, hm1, hw1, hc1⟩ := ReadsInt.ofRowC w1
  obtain ⟨l2, rfl, hr2, hm2, hw2, hc2⟩ := ReadsInt.ofRowC w2
  obtain ⟨k, h⟩ := P l0 l1 l2 hm0 y0 hw0 hm1 y1 hw1 hm2 y2 hw2
  refine (laws_FnOverlap.calls k _ _ l0 _ _ l1 _ _ l2 true w (Kd.C_of_reads (d := (0 : Int)) (h1 := fun _ => rfl) hr0) hc0 (Kd.C_of_reads (d := (0 : Int)) (h1 := fun _ => rfl) hr1) hc1 (Kd.C_of_reads (d := (0 : Int)) (h1 := fun _ => rfl) hr2) hc2 h).mono ?_
  rintro e w' ⟨rfl, hd⟩
  exact ⟨rfl, hd⟩

end Go.Proofs.Ytoafkjeamgelgaa.PT
