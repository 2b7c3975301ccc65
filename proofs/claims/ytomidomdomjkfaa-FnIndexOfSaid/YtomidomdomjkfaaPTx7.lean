-- Written by this session's own program (wip/tools) out of the translation.
import Derived.Test.YtomidomdomjkfaaPTx0
import Derived.Test.YtomidomdomjkfaaPTx2
import Derived.Test.YtomidomdomjkfaaPTx6
namespace Go.Proofs.Ytomidomdomjkfaa.PT
open Go.RowKit Go.Proofs.YtomidomdomjkfaaW.PrintWords Go.Proofs.YtomidomdomjkfaaW.PrintLast Go.Proofs.YtomidomdomjkfaaW.PrintMore
attribute [local go_sem] max2_int min2_int max_two min_two max_three min_three max_four min_four   -- for this text's walks alone
set_option linter.unusedVariables false
set_option linter.unusedSimpArgs false

/-! ### laws_FnIndexOf: function 3 -/
mutual
def laws_FnIndexOf.j0 : Nat → List Int → List Int → Int → Bool → Option (Bool)
  | 0, _, _, _, _ => none
  | k + 1, x0, x1, x2, x18 => if x18 = true then (some true) else ((laws_dfAscii.f k x0 60).bind fun t109 => ((laws_dfAscii.f k x1 60).bind fun t110 => (if t110.toList = ([] : List UInt8) then (laws_FnIndexOf.j1 k x2 t109 (⟨#[97]⟩ : ByteArray)) else (laws_FnIndexOf.j1 k x2 t109 t110))))
def laws_FnIndexOf.j1 : Nat → Int → ByteArray → ByteArray → Option (Bool)
  | 0, _, _, _ => none
  | k + 1, x2, x7, x8 => if (IntKind.u64.wrap (wrap64 ((x7.size : Int) + 5))) = 0 then (none) else (laws_FnIndexOf.l0 k (wrap64 ((wrap64 (Int.tmod (IntKind.u64.wrap (x2)) (IntKind.u64.wrap (wrap64 ((x7.size : Int) + 5))))) - 2)) x7 x8 (-1) (wrap64 ((x7.size : Int) - (x8.size : Int))))
def laws_FnIndexOf.l0 : Nat → Int → ByteArray → ByteArray → Int → Int → Option (Bool)
  | 0, _, _, _, _, _ => none
  | k + 1, x2, x7, x8, x9, x10 => if x10 ≥ (mx x2 0) then (if 0 ≤ x10 then (if x10 ≤ (wrap64 (x10 + (x8.size : Int))) then (if (wrap64 (x10 + (x8.size : Int))) ≤ (x7.size : Int) then (if (x7.extract (x10 : Int).toNat ((wrap64 (x10 + (x8.size : Int))) : Int).toNat).toList = x8.toList then (laws_FnIndexOf.l0 k x2 x7 x8 x10 (wrap64 (x10 - 1))) else (laws_FnIndexOf.l0 k x2 x7 x8 x9 (wrap64 (x10 - 1)))) else (none)) else (none)) else (none)) else ((impl_IndexOf.f k x7 x8 x2).bind fun t111 => (some (t111 == x9)))
end
def laws_FnIndexOf.f (k : Nat) (l0 : List Int) (l1 : List Int) (a2 : Int) : Option (Bool) := if (l0.length : Int) > 2147483647 then (laws_FnIndexOf.j0 k l0 l1 a2 true) else (laws_FnIndexOf.j0 k l0 l1 a2 (decide ((l1.length : Int) > 2147483647)))
theorem laws_FnIndexOf.mono_l : ∀ k, (∀ y0 y1 y2 y3, LeO (laws_FnIndexOf.j0 k y0 y1 y2 y3) (laws_FnIndexOf.j0 (k + 1) y0 y1 y2 y3)) ∧ (∀ y0 y1 y2, LeO (laws_FnIndexOf.j1 k y0 y1 y2) (laws_FnIndexOf.j1 (k + 1) y0 y1 y2)) ∧ (∀ y0 y1 y2 y3 y4, LeO (laws_FnIndexOf.l0 k y0 y1 y2 y3 y4) (laws_FnIndexOf.l0 (k + 1) y0 y1 y2 y3 y4))
  | 0 => ⟨fun _ _ _ _ r h => by simp [laws_FnIndexOf.j0] at h, fun _ _ _ r h => by simp [laws_FnIndexOf.j1] at h, fun _ _ _ _ _ r h => by simp [laws_FnIndexOf.l0] at h⟩
  | k + 1 => by
    obtain ⟨ih0, ih1, ih2⟩ := laws_FnIndexOf.mono_l k
    refine ⟨?_, ?_, ?_⟩
    · intro y0 y1 y2 y3
      unfold laws_FnIndexOf.j0
      repeat' first
      | (with_reducible exact ih0 _ _ _ _)
      | (with_reducible exact ih1 _ _ _)
      | (with_reducible exact ih2 _ _ _ _ _)
      | (with_reducible exact impl_IndexOf.mono _ _ _ _)
      | (with_reducible exact laws_dfAscii.mono _ _ _)
      | (with_reducible exact LeO.refl _)
      | (with_reducible exact LeO.none _)
      | (with_reducible refine LeO.ite ?_ ?_)
      | (with_reducible refine LeO.bind ?_ (fun _ => ?_))
      | exact ih0 _ _ _ _
      | exact ih1 _ _ _
      | exact ih2 _ _ _ _ _
      | exact impl_IndexOf.mono _ _ _ _
      | exact laws_dfAscii.mono _ _ _
      | exact LeO.none _
      | refine LeO.ite ?_ ?_
      | refine LeO.bind ?_ (fun _ => ?_)
    · intro y0 y1 y2
      unfold laws_FnIndexOf.j1
      repeat' first
      | (with_reducible exact ih0 _ _ _ _)
      | (with_reducible exact ih1 _ _ _)
      | (with_reducible exact ih2 _ _ _ _ _)
      | (with_reducible exact impl_IndexOf.mono _ _ _ _)
      | (with_reducible exact laws_dfAscii.mono _ _ _)
      | (with_reducible exact LeO.refl _)
      | (with_reducible exact LeO.none _)
      | (with_reducible refine LeO.ite ?_ ?_)
      | (with_reducible refine LeO.bind ?_ (fun _ => ?_))
      | exact ih0 _ _ _ _
      | exact ih1 _ _ _
      | exact ih2 _ _ _ _ _
      | exact impl_IndexOf.mono _ _ _ _
      | exact laws_dfAscii.mono _ _ _
      | exact LeO.none _
      | refine LeO.ite ?_ ?_
      | refine LeO.bind ?_ (fun _ => ?_)
    · intro y0 y1 y2 y3 y4
      unfold laws_FnIndexOf.l0
      repeat' first
      | (with_reducible exact ih0 _ _ _ _)
      | (with_reducible exact ih1 _ _ _)
      | (with_reducible exact ih2 _ _ _ _ _)
      | (with_reducible exact impl_IndexOf.mono _ _ _ _)
      | (with_reducible exact laws_dfAscii.mono _ _ _)
      | (with_reducible exact LeO.refl _)
      | (with_reducible exact LeO.none _)
      | (with_reducible refine LeO.ite ?_ ?_)
      | (with_reducible refine LeO.bind ?_ (fun _ => ?_))
      | exact ih0 _ _ _ _
      | exact ih1 _ _ _
      | exact ih2 _ _ _ _ _
      | exact impl_IndexOf.mono _ _ _ _
      | exact laws_dfAscii.mono _ _ _
      | exact LeO.none _
      | refine LeO.ite ?_ ?_
      | refine LeO.bind ?_ (fun _ => ?_)
theorem laws_FnIndexOf.mono : ∀ a0 a1 a2 k, LeO (laws_FnIndexOf.f k a0 a1 a2) (laws_FnIndexOf.f (k + 1) a0 a1 a2) := by
  intro a0 a1 a2 k
  obtain ⟨ih0, ih1, ih2⟩ := laws_FnIndexOf.mono_l k
  unfold laws_FnIndexOf.f
  repeat' first
      | (with_reducible exact ih0 _ _ _ _)
      | (with_reducible exact ih1 _ _ _)
      | (with_reducible exact ih2 _ _ _ _ _)
      | (with_reducible exact impl_IndexOf.mono _ _ _ _)
      | (with_reducible exact laws_dfAscii.mono _ _ _)
      | (with_reducible exact LeO.refl _)
      | (with_reducible exact LeO.none _)
      | (with_reducible refine LeO.ite ?_ ?_)
      | (with_reducible refine LeO.bind ?_ (fun _ => ?_))
      | exact ih0 _ _ _ _
      | exact ih1 _ _ _
      | exact ih2 _ _ _ _ _
      | exact impl_IndexOf.mono _ _ _ _
      | exact laws_dfAscii.mono _ _ _
      | exact LeO.none _
      | refine LeO.ite ?_ ?_
      | refine LeO.bind ?_ (fun _ => ?_)
set_option maxHeartbeats 8000000 in
set_option maxRecDepth 100000 in
theorem laws_FnIndexOf.calls (k : Nat) (A0 : Option Addr) (c0 : Nat) (l0 : List Int) (A1 : Option Addr) (c1 : Nat) (l1 : List Int) (a2 : Int) (r : Bool) (w : World) (hr0 : Kd.C (Kd.int .u8) w A0 l0.length l0) (hc0 : l0.length ≤ c0) (hr1 : Kd.C (Kd.int .u8) w A1 l1.length l1) (hc1 : l1.length ≤ c1) (h : laws_FnIndexOf.f k l0 l1 a2 = some r) :
    Calls Try.prog 3 #[.slice A0 l0.length c0, .slice A1 l1.length c1, .int .i64 a2] w fun e w' => e = .returned (.bool r) ∧ Below w.heap.size w w' := by
  have HR0 := Aside0.mk hr0
  have HC0 := Aside0.mk hc0
  clear hr0 hc0
  have HR1 := Aside0.mk hr1
  have HC1 := Aside0.mk hc1
  clear hr1 hc1
  have HB := Aside0.mk (Below.refl w.heap.size w)
  have H : (if (l0.length : Int) > 2147483647 then (laws_FnIndexOf.j0 k l0 l1 a2 true) else (laws_FnIndexOf.j0 k l0 l1 a2 (decide ((l1.length : Int) > 2147483647)))) = some r := h
  clear h
  have HC4 := Aside0.mk H
  clear H
  go_enter Try.func3, Try.ntmps3
  go_upto_region 1 with (fail)
  go_cut [18] (fun v18 wc => ∃ (kq : Nat) (x18_3 : Bool), v18 = .bool x18_3 ∧ Aside0 (laws_FnIndexOf.j0 kq l0 l1 a2 x18_3 = some r) ∧ Aside0 (kq ≤ k) ∧ Aside0 (Below w.heap.size w wc))
  case first =>
    have H := HC4.out
    clear HC4
    by_cases c5 : (l0.length : Int) > 2147483647
    · rw [if_pos c5] at H
      have c5b0 : decide (2147483647 < (l0.length : Int)) = true := decide_eq_true c5
      have c5b1 : decide (2147483647 < l0.length) = true := decide_eq_true (by omega)
      clear c5
      (first | rw [c5b0] | (simp only [i64_w, i32_w]; rw [c5b0]) | rw [c5b2] | skip)
      have H' := Aside0.mk H
      clear H
      go_wp2
      go_meet
      case rel => exact ⟨_, (true), (by first | rfl | (simp; done) | (simp [*]; done)), H', ⟨by first | omega | exact Nat.le_refl _⟩, ⟨by repeat (first | (with_reducible first | exact HB.out | apply below_alloc | apply pw_below_drewN | apply below_drew1) | exact HB.out)⟩⟩
    · rw [if_neg c5] at H
      have c5b0 : decide (2147483647 < (l0.length : Int)) = false := decide_eq_false c5
      have c5b1 : decide (2147483647 < l0.length) = false := decide_eq_false (by omega)
      clear c5
      (first | rw [c5b0] | (simp only [i64_w, i32_w]; rw [c5b0]) | rw [c5b2] | skip)
      have H' := Aside0.mk H
      clear H
      go_wp2
      go_meet
      case rel => exact ⟨_, (decide ((l1.length : Int) > 2147483647)), (by first | rfl | (simp; done) | (simp [*]; done)), H', ⟨by first | omega | exact Nat.le_refl _⟩, ⟨by repeat (first | (with_reducible first | exact HB.out | apply below_alloc | apply pw_below_drewN | apply below_drew1) | exact HB.out)⟩⟩
  case rest =>
    clear HC4
    try clear c1
    try clear p2
    try clear c3
    try clear c5
    try clear c5b0
    try clear c5b1
    try clear c5b2
    obtain ⟨kq, x18_3, rfl, HA, HJ3, HB⟩ := hcut
    cases kq with
    | zero => exact absurd HA.out (by simp [laws_FnIndexOf.j0])
    | succ kj3 =>
      have H := HA.out
      clear HA
      simp only [laws_FnIndexOf.j0] at H
      by_cases c6 : x18_3 = true
      · subst c6
        have H1 : (some true) = some r := by rw [if_pos rfl] at H; exact H
        clear H
        have H := H1
        clear H1
        obtain rfl := Option.some.inj H
        go_wp2
        go_ret
        exact ⟨by first | rfl | (simp [errW_none, errW_some] <;> rfl) | (simp [*, errW_none, errW_some] <;> rfl), by repeat (first | (with_reducible first | exact HB.out | apply below_alloc | apply pw_below_drewN | apply below_drew1) | exact HB.out)⟩
      · replace c6 := Bool.eq_false_iff.mpr c6
        subst c6
        have H1 : ((laws_dfAscii.f kj3 l0 60).bind fun t109 => ((laws_dfAscii.f kj3 l1 60).bind fun t110 => (if t110.toList = ([] : List UInt8) then (laws_FnIndexOf.j1 kj3 a2 t109 (⟨#[97]⟩ : ByteArray)) else (laws_FnIndexOf.j1 kj3 a2 t109 t110)))) = some r := by rw [if_neg (show ¬ (false = true) by decide)] at H; exact H
        clear H
        have H := H1
        clear H1
        replace H := Option.bind_eq_some_iff.mp H
        obtain ⟨t109, A70, H⟩ := H
        replace H : ((laws_dfAscii.f kj3 l1 60).bind fun t110 => (if t110.toList = ([] : List UInt8) then (laws_FnIndexOf.j1 kj3 a2 t109 (⟨#[97]⟩ : ByteArray)) else (laws_FnIndexOf.j1 kj3 a2 t109 t110))) = some r := H
        have A7 := Aside0.mk A70
        clear A70
        replace H := Option.bind_eq_some_iff.mp H
        obtain ⟨t110, A80, H⟩ := H
        replace H : (if t110.toList = ([] : List UInt8) then (laws_FnIndexOf.j1 kj3 a2 t109 (⟨#[97]⟩ : ByteArray)) else (laws_FnIndexOf.j1 kj3 a2 t109 t110)) = some r := H
        have A8 := Aside0.mk A80
        clear A80
        have HC9 := Aside0.mk H
        clear H
        go_upto_if 24 with (first | ((with_reducible refine gate_callee (f := 15) rfl ?_); refine goesL_ (some 20) rfl rfl Try.func15 (by kernel_rfl) rfl #[.slice A0 l0.length c0, .int .i64 60] rfl (by (try simp only [List.map_toArray, List.map_cons, List.map_nil]); first | done | rfl | (simp only [List.length_drop, List.length_take]; rfl)) ?_; (with_reducible refine (laws_dfAscii.calls kj3 _ _ l0 60 t109 _ ?side1 ?side2 A7.out).mono ?_); (case side1 => repeat (first | exact (Kd.C_below HR0.out HB.out) | (with_reducible refine Kd.C_alloc ?_ _) | (with_reducible refine Kd.C_drewN ?_ _) | (with_reducible refine Kd.C_drew ?_))); (case side2 => exact HC0.out); rintro e w10 ⟨rfl, hb⟩; refine ⟨_, rfl, ?_⟩; have n0_ := Aside0.mk (below_step (by repeat (first | (with_reducible first | exact HB.out | apply below_alloc | apply pw_below_drewN | apply below_drew1) | exact HB.out)) hb); clear HB; have HB := n0_; clear n0_; (try clear hb); (try clear hb2); (try clear hk); (try clear hi)) | ((with_reducible refine gate_callee (f := 15) rfl ?_); refine goesL_ (some 22) rfl rfl Try.func15 (by kernel_rfl) rfl #[.slice A1 l1.length c1, .int .i64 60] rfl (by (try simp only [List.map_toArray, List.map_cons, List.map_nil]); first | done | rfl | (simp only [List.length_drop, List.length_take]; rfl)) ?_; (with_reducible refine (laws_dfAscii.calls kj3 _ _ l1 60 t110 _ ?side1 ?side2 A8.out).mono ?_); (case side1 => repeat (first | exact (Kd.C_below HR1.out HB.out) | (with_reducible refine Kd.C_alloc ?_ _) | (with_reducible refine Kd.C_drewN ?_ _) | (with_reducible refine Kd.C_drew ?_))); (case side2 => exact HC1.out); rintro e w11 ⟨rfl, hb⟩; refine ⟨_, rfl, ?_⟩; have n0_ := Aside0.mk (below_step (by repeat (first | (with_reducible first | exact HB.out | apply below_alloc | apply pw_below_drewN | apply below_drew1) | exact HB.out)) hb); clear HB; have HB := n0_; clear n0_; (try clear hb); (try clear hb2); (try clear hk); (try clear hi)))
        (try simp only [Act.put, List.setIfInBounds_toArray, List.set_cons_zero, List.set_cons_succ])
        go_cut [8] (fun v8 wc => ∃ (kq : Nat) (x8_8 : ByteArray), v8 = .string x8_8 ∧ Aside0 (laws_FnIndexOf.j1 kq a2 t109 x8_8 = some r) ∧ Aside0 (kq ≤ kj3) ∧ Aside0 (Below w.heap.size w wc))
        case first =>
          have H := HC9.out
          clear HC9
          by_cases c12 : t110.toList = ([] : List UInt8)
          · rw [if_pos c12] at H
            have c12b0 : (t110.toList == ([] : List UInt8)) = true := beq_iff_eq.mpr c12
            have c12b1 : (t110.toList != ([] : List UInt8)) = false := bne_eq_false_iff_eq.mpr c12
            (try (have c12b2 : t110.toList.isEmpty = true := by simpa using c12))
            clear c12
            (first | rw [c12b0] | (simp only [i64_w, i32_w]; rw [c12b0]) | rw [c12b2] | skip)
            have H' := Aside0.mk H
            clear H
            go_wp2
            go_meet
            case rel => exact ⟨_, ((⟨#[97]⟩ : ByteArray)), (by first | rfl | (simp; done) | (simp [*]; done)), H', ⟨by have := HJ3.out; first | omega | exact Nat.le_refl _⟩, ⟨by repeat (first | (with_reducible first | exact HB.out | apply below_alloc | apply pw_below_drewN | apply below_drew1) | exact HB.out)⟩⟩
          · rw [if_neg c12] at H
            have c12b0 : (t110.toList == ([] : List UInt8)) = false := beq_eq_false_iff_ne.mpr c12
            have c12b1 : (t110.toList != ([] : List UInt8)) = true := bne_iff_ne.mpr c12
            (try (have c12b2 : t110.toList.isEmpty = false := by simpa using c12))
            (first | rw [c12b0] | (simp only [i64_w, i32_w]; rw [c12b0]) | rw [c12b2] | skip)
            have H' := Aside0.mk H
            clear H
            go_wp2
            go_meet
            case rel => exact ⟨_, (t110), (by first | rfl | (simp; done) | (simp [*]; done)), H', ⟨by have := HJ3.out; first | omega | exact Nat.le_refl _⟩, ⟨by repeat (first | (with_reducible first | exact HB.out | apply below_alloc | apply pw_below_drewN | apply below_drew1) | exact HB.out)⟩⟩
        case rest =>
          clear HC9
          try clear c1
          try clear p2
          try clear c3
          try clear c5
          try clear c5b0
          try clear c5b1
          try clear c5b2
          try clear c6
          try clear c12
          try clear c12b0
          try clear c12b1
          try clear c12b2
          try clear p2
          obtain ⟨kq, x8_8, rfl, HA, HJ8, HB⟩ := hcut
          cases kq with
          | zero => exact absurd HA.out (by simp [laws_FnIndexOf.j1])
          | succ kj8 =>
            have H := HA.out
            clear HA
            simp only [laws_FnIndexOf.j1] at H
            by_cases c13 : (IntKind.u64.wrap (wrap64 ((t109.size : Int) + 5))) = 0
            · rw [if_pos c13] at H
              exact absurd H (by simp)
            · rw [if_neg c13] at H
              have c13b0 : ((IntKind.u64.wrap (wrap64 ((t109.size : Int) + 5))) == 0) = false := beq_eq_false_iff_ne.mpr c13
              have c13b1 : ((IntKind.u64.wrap (wrap64 ((t109.size : Int) + 5))) != 0) = true := bne_iff_ne.mpr c13
              have H' := Aside0.mk H
              clear H
              go_wp2
              go_loopg [9, 10] kj8 (fun kq v9 v10 w' => ∃ (x9_3 : Int) (x10_3 : Int), v9 = .int .i64 x9_3 ∧ v10 = .int .i64 x10_3 ∧ Aside0 (laws_FnIndexOf.l0 kq (wrap64 ((wrap64 (Int.tmod (IntKind.u64.wrap (a2)) (IntKind.u64.wrap (wrap64 ((t109.size : Int) + 5))))) - 2)) t109 x8_8 x9_3 x10_3 = some r) ∧ Aside0 (kq ≤ kj8) ∧ Aside0 (Below w.heap.size w w'))
              case atStart => exact ⟨((-1)), (wrap64 ((t109.size : Int) - (x8_8.size : Int))), (by first | rfl | (simp; done) | (simp [*]; done)), (by first | rfl | (simp; done) | (simp [*]; done)), H', ⟨Nat.le_refl _⟩, ⟨by repeat (first | (with_reducible first | exact HB.out | apply below_alloc | apply pw_below_drewN | apply below_drew1) | exact HB.out)⟩⟩
              case round =>
                clear H'
                try clear c1
                try clear p2
                try clear c3
                try clear c5
                try clear c5b0
                try clear c5b1
                try clear c5b2
                try clear c6
                try clear p6
                try clear c12
                try clear c12b0
                try clear c12b1
                try clear c12b2
                try clear c13
                try clear c13b0
                try clear c13b1
                try clear p2
                obtain ⟨x9_3, x10_3, rfl, rfl, HA, HK3, HB⟩ := hrel
                cases gk with
                | zero => exact absurd HA.out (by simp [laws_FnIndexOf.l0])
                | succ k3 =>
                  have H := HA.out
                  clear HA
                  simp only [laws_FnIndexOf.l0] at H
                  obtain ⟨ji14, hji14⟩ : ∃ j_ : Int, (mx (wrap64 ((wrap64 (Int.tmod (IntKind.u64.wrap (a2)) (IntKind.u64.wrap (wrap64 ((t109.size : Int) + 5))))) - 2)) 0) = j_ := ⟨_, rfl⟩
                  replace H : (if x10_3 ≥ (ji14) then (if 0 ≤ x10_3 then (if x10_3 ≤ (wrap64 (x10_3 + (x8_8.size : Int))) then (if (wrap64 (x10_3 + (x8_8.size : Int))) ≤ (t109.size : Int) then (if (t109.extract (x10_3 : Int).toNat ((wrap64 (x10_3 + (x8_8.size : Int))) : Int).toNat).toList = x8_8.toList then (laws_FnIndexOf.l0 k3 (wrap64 ((wrap64 (Int.tmod (IntKind.u64.wrap (a2)) (IntKind.u64.wrap (wrap64 ((t109.size : Int) + 5))))) - 2)) t109 x8_8 x10_3 (wrap64 (x10_3 - 1))) else (laws_FnIndexOf.l0 k3 (wrap64 ((wrap64 (Int.tmod (IntKind.u64.wrap (a2)) (IntKind.u64.wrap (wrap64 ((t109.size : Int) + 5))))) - 2)) t109 x8_8 x9_3 (wrap64 (x10_3 - 1)))) else (none)) else (none)) else (none)) else ((impl_IndexOf.f k3 t109 x8_8 (wrap64 ((wrap64 (Int.tmod (IntKind.u64.wrap (a2)) (IntKind.u64.wrap (wrap64 ((t109.size : Int) + 5))))) - 2))).bind fun t111 => (some (t111 == x9_3)))) = some r := by first | (rw [hji14] at H; exact H) | (simp only [hji14] at H ⊢; exact H)
                  have hji14_ : (if (wrap64 ((wrap64 (Int.tmod (IntKind.u64.wrap (a2)) (IntKind.u64.wrap (wrap64 ((t109.size : Int) + 5))))) - 2)) < 0 then 0 else (wrap64 ((wrap64 (Int.tmod (IntKind.u64.wrap (a2)) (IntKind.u64.wrap (wrap64 ((t109.size : Int) + 5))))) - 2))) = ji14 := hji14
                  by_cases c15 : x10_3 ≥ (ji14)
                  · rw [if_pos c15] at H
                    have c15b0 : decide ((ji14) ≤ x10_3) = true := decide_eq_true c15
                    clear c15
                    by_cases c16 : 0 ≤ x10_3
                    · rw [if_pos c16] at H
                      have c16b0 := eq_true c16
                      have c16b1 : decide (0 ≤ x10_3) = true := decide_eq_true c16
                      clear c16
                      by_cases c17 : x10_3 ≤ (wrap64 (x10_3 + (x8_8.size : Int)))
                      · rw [if_pos c17] at H
                        have c17b0 := eq_true c17
                        have c17b1 : decide (x10_3 ≤ (wrap64 (x10_3 + (x8_8.size : Int)))) = true := decide_eq_true c17
                        by_cases c18 : (wrap64 (x10_3 + (x8_8.size : Int))) ≤ (t109.size : Int)
                        · rw [if_pos c18] at H
                          have c18b0 := eq_true c18
                          have c18b1 : decide ((wrap64 (x10_3 + (x8_8.size : Int))) ≤ (t109.size : Int)) = true := decide_eq_true c18
                          by_cases c19 : (t109.extract (x10_3 : Int).toNat ((wrap64 (x10_3 + (x8_8.size : Int))) : Int).toNat).toList = x8_8.toList
                          · rw [if_pos c19] at H
                            have c19b0 : ((t109.extract (x10_3 : Int).toNat ((wrap64 (x10_3 + (x8_8.size : Int))) : Int).toNat).toList == x8_8.toList) = true := beq_iff_eq.mpr c19
                            have c19b1 : ((t109.extract (x10_3 : Int).toNat ((wrap64 (x10_3 + (x8_8.size : Int))) : Int).toNat).toList != x8_8.toList) = false := bne_eq_false_iff_eq.mpr c19
                            clear c19
                            have H' := Aside0.mk H
                            clear H
                            go_wp2
                            go_roundg k3
                            case measure => have := HJ3.out; have := HJ8.out; have := HK3.out; omega
                            case rel => exact ⟨(x10_3), (wrap64 (x10_3 - 1)), (by first | rfl | (simp; done) | (simp [*]; done)), (by first | rfl | (simp; done) | (simp [*]; done)), H', ⟨by have := HJ3.out; have := HJ8.out; have := HK3.out; omega⟩, ⟨by repeat (first | (with_reducible first | exact HB.out | apply below_alloc | apply pw_below_drewN | apply below_drew1) | exact HB.out)⟩⟩
                          · rw [if_neg c19] at H
                            have c19b0 : ((t109.extract (x10_3 : Int).toNat ((wrap64 (x10_3 + (x8_8.size : Int))) : Int).toNat).toList == x8_8.toList) = false := beq_eq_false_iff_ne.mpr c19
                            have c19b1 : ((t109.extract (x10_3 : Int).toNat ((wrap64 (x10_3 + (x8_8.size : Int))) : Int).toNat).toList != x8_8.toList) = true := bne_iff_ne.mpr c19
                            have H' := Aside0.mk H
                            clear H
                            go_wp2
                            go_roundg k3
                            case measure => have := HJ3.out; have := HJ8.out; have := HK3.out; omega
                            case rel => exact ⟨(x9_3), (wrap64 (x10_3 - 1)), (by first | rfl | (simp; done) | (simp [*]; done)), (by first | rfl | (simp; done) | (simp [*]; done)), H', ⟨by have := HJ3.out; have := HJ8.out; have := HK3.out; omega⟩, ⟨by repeat (first | (with_reducible first | exact HB.out | apply below_alloc | apply pw_below_drewN | apply below_drew1) | exact HB.out)⟩⟩
                        · rw [if_neg c18] at H
                          exact absurd H (by simp)
                      · rw [if_neg c17] at H
                        exact absurd H (by simp)
                    · rw [if_neg c16] at H
                      exact absurd H (by simp)
                  · rw [if_neg c15] at H
                    have c15b0 : decide ((ji14) ≤ x10_3) = false := decide_eq_false c15
                    clear c15
                    replace H := Option.bind_eq_some_iff.mp H
                    obtain ⟨t111, A200, H⟩ := H
                    replace H : (some (t111 == x9_3)) = some r := H
                    have A20 := Aside0.mk A200
                    clear A200
                    obtain rfl := Option.some.inj H
                    go_wp2_with (first | ((with_reducible refine gate_callee (f := 16) rfl ?_); refine goesL_ (some 58) rfl rfl Try.func16 (by kernel_rfl) rfl #[.string t109, .string x8_8, .int .i64 (wrap64 ((wrap64 (Int.tmod (IntKind.u64.wrap (a2)) (IntKind.u64.wrap (wrap64 ((t109.size : Int) + 5))))) - 2))] rfl (by (try simp only [List.map_toArray, List.map_cons, List.map_nil]); first | done | rfl | (simp only [List.length_drop, List.length_take]; rfl)) ?_; (with_reducible refine (impl_IndexOf.calls k3 t109 x8_8 (wrap64 ((wrap64 (Int.tmod (IntKind.u64.wrap (a2)) (IntKind.u64.wrap (wrap64 ((t109.size : Int) + 5))))) - 2)) t111 _ A20.out).mono ?_); rintro e w' ⟨rfl, ⟨nd, rfl⟩⟩; refine ⟨_, rfl, ?_⟩))
                    go_ret
                    exact ⟨by first | rfl | (simp [errW_none, errW_some] <;> rfl) | (simp only [← hji14]; first | rfl | (simp [errW_none, errW_some] <;> rfl)) | (simp [*, errW_none, errW_some] <;> rfl), by repeat (first | (with_reducible first | exact HB.out | apply below_alloc | apply pw_below_drewN | apply below_drew1) | exact HB.out)⟩

/-- THE ONE PURE STATEMENT of laws_FnIndexOf: yours. -/
def laws_FnIndexOf.Pure : Prop := ∀ (l0 : List Int) (l1 : List Int) (a2 : Int), l0.length ≤ maxLen → l0.length * 1 ≤ 140737488351232 → (∀ x ∈ l0, (Lit.int .u8 x).wf = true) → l1.length ≤ maxLen → l1.length * 1 ≤ 140737488351232 → (∀ x ∈ l1, (Lit.int .u8 x).wf = true) → (Lit.int .i64 a2).wf = true → ∃ k, laws_FnIndexOf.f k l0 l1 a2 = some true
theorem laws_FnIndexOf.walk (P : laws_FnIndexOf.Pure) (a0 : Option Addr) (len0 cap0 : Nat) (z0 : List Int) (a1 : Option Addr) (len1 cap1 : Nat) (z1 : List Int) (a2 : Int) (w : World) (w0 : (a0 = none ∧ len0 = 0 ∧ cap0 = 0 ∧ z0 = []) ∨ ∃ x, a0 = some x ∧ len0 ≤ cap0 ∧ cap0 ≤ maxLen ∧ z0.length = cap0 ∧ (∀ i, i < z0.length → w.cell? (x.add i) = some (.int .u8 (z0.getD i 0))) ∧ ∀ n ∈ z0, (Lit.int .u8 n).wf = true) (y0 : len0 * 1 ≤ 140737488351232) (w1 : (a1 = none ∧ len1 = 0 ∧ cap1 = 0 ∧ z1 = []) ∨ ∃ x, a1 = some x ∧ len1 ≤ cap1 ∧ cap1 ≤ maxLen ∧ z1.length = cap1 ∧ (∀ i, i < z1.length → w.cell? (x.add i) = some (.int .u8 (z1.getD i 0))) ∧ ∀ n ∈ z1, (Lit.int .u8 n).wf = true) (y1 : len1 * 1 ≤ 140737488351232) (w2 : (Lit.int .i64 a2).wf = true) :
    Calls Try.prog 3 #[.slice a0 len0 cap0, .slice a1 len1 cap1, .int .i64 a2] w fun e w' => e = .returned (.bool true) ∧ Below w.heap.size w w' := by
  obtain ⟨l0, rfl, hr0, hm0, hw0, hc0⟩ := ReadsInt.ofRowC w0
  obtain ⟨l1, rfl, hr1, hm1, hw1, hc1⟩ := ReadsInt.ofRowC w1
  obtain ⟨k, h⟩ := P l0 l1 a2 hm0 y0 hw0 hm1 y1 hw1 w2
  refine (laws_FnIndexOf.calls k _ _ l0 _ _ l1 a2 true w (Kd.C_of_reads (d := (0 : Int)) (h1 := fun _ => rfl) hr0) hc0 (Kd.C_of_reads (d := (0 : Int)) (h1 := fun _ => rfl) hr1) hc1 h).mono ?_
  rintro e w' ⟨rfl, hd⟩
  exact ⟨rfl, hd⟩

end Go.Proofs.Ytomidomdomjkfaa.PT
