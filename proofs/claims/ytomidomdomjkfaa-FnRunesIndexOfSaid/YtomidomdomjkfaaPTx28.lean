-- Written by this session's own program (wip/tools) out of the translation.
import Derived.Test.YtomidomdomjkfaaPTx0
import Derived.Test.YtomidomdomjkfaaPTx27
namespace Go.Proofs.Ytomidomdomjkfaa.PT
open Go.RowKit Go.Proofs.YtomidomdomjkfaaW.PrintWords Go.Proofs.YtomidomdomjkfaaW.PrintLast Go.Proofs.YtomidomdomjkfaaW.PrintMore
attribute [local go_sem] max2_int min2_int max_two min_two max_three min_three max_four min_four   -- for this text's walks alone
set_option linter.unusedVariables false
set_option linter.unusedSimpArgs false

/-! ### diffmatchpatch_runesIndexOf: function 69 -/
def diffmatchpatch_runesIndexOf.f (k : Nat) (l0 : List Int) (l1 : List Int) (a2 : Int) : Option (Int) := if a2 > (wrap64 ((l0.length : Int) - 1)) then (some (-1)) else (if a2 ≤ 0 then ((diffmatchpatch_runesIndex.f k l0 l1).bind fun t234 => (some t234)) else (if 0 ≤ a2 then (if a2 ≤ (l0.length : Int) then ((diffmatchpatch_runesIndex.f k (l0.drop (a2 : Int).toNat) l1).bind fun t236 => (if t236 = (-1) then (some (-1)) else (some (wrap64 (t236 + a2))))) else (none)) else (none)))
theorem diffmatchpatch_runesIndexOf.mono : ∀ a0 a1 a2 k, LeO (diffmatchpatch_runesIndexOf.f k a0 a1 a2) (diffmatchpatch_runesIndexOf.f (k + 1) a0 a1 a2) := by
  intro a0 a1 a2 k
  unfold diffmatchpatch_runesIndexOf.f
  repeat' first
      | (with_reducible exact diffmatchpatch_runesIndex.mono _ _ _)
      | (with_reducible exact LeO.refl _)
      | (with_reducible exact LeO.none _)
      | (with_reducible refine LeO.ite ?_ ?_)
      | (with_reducible refine LeO.bind ?_ (fun _ => ?_))
      | exact diffmatchpatch_runesIndex.mono _ _ _
      | exact LeO.none _
      | refine LeO.ite ?_ ?_
      | refine LeO.bind ?_ (fun _ => ?_)
set_option maxHeartbeats 8000000 in
set_option maxRecDepth 100000 in
theorem diffmatchpatch_runesIndexOf.calls (k : Nat) (A0 : Option Addr) (c0 : Nat) (l0 : List Int) (A1 : Option Addr) (c1 : Nat) (l1 : List Int) (a2 : Int) (r : Int) (w : World) (hr0 : Kd.C (Kd.int .i32) w A0 l0.length l0) (hc0 : l0.length ≤ c0) (hr1 : Kd.C (Kd.int .i32) w A1 l1.length l1) (hc1 : l1.length ≤ c1) (h : diffmatchpatch_runesIndexOf.f k l0 l1 a2 = some r) :
    Calls Try.prog 69 #[.slice A0 l0.length c0, .slice A1 l1.length c1, .int .i64 a2] w fun e w' => e = .returned (.int .i64 r) ∧ Drawn0 w w' := by
  have HR0 := Aside0.mk hr0
  have HC0 := Aside0.mk hc0
  clear hr0 hc0
  have HR1 := Aside0.mk hr1
  have HC1 := Aside0.mk hc1
  clear hr1 hc1
  have H : (if a2 > (wrap64 ((l0.length : Int) - 1)) then (some (-1)) else (if a2 ≤ 0 then ((diffmatchpatch_runesIndex.f k l0 l1).bind fun t234 => (some t234)) else (if 0 ≤ a2 then (if a2 ≤ (l0.length : Int) then ((diffmatchpatch_runesIndex.f k (l0.drop (a2 : Int).toNat) l1).bind fun t236 => (if t236 = (-1) then (some (-1)) else (some (wrap64 (t236 + a2))))) else (none)) else (none)))) = some r := h
  clear h
  by_cases c4 : a2 > (wrap64 ((l0.length : Int) - 1))
  · rw [if_pos c4] at H
    have c4b0 : decide ((wrap64 ((l0.length : Int) - 1)) < a2) = true := decide_eq_true c4
    clear c4
    obtain rfl := Option.some.inj H
    go_enter Try.func69, Try.ntmps69
    go_wp2
    go_ret
    exact ⟨by first | rfl | (simp; done) | (simp [*]; done), by repeat (first | exact Drawn0.refl _ | apply Drawn0.step)⟩
  · rw [if_neg c4] at H
    have c4b0 : decide ((wrap64 ((l0.length : Int) - 1)) < a2) = false := decide_eq_false c4
    clear c4
    by_cases c5 : a2 ≤ 0
    · rw [if_pos c5] at H
      have c5b0 : decide (a2 ≤ 0) = true := decide_eq_true c5
      clear c5
      replace H := Option.bind_eq_some_iff.mp H
      obtain ⟨t234, A60, H⟩ := H
      replace H : (some t234) = some r := H
      have A6 := Aside0.mk A60
      clear A60
      obtain rfl := Option.some.inj H
      go_enter Try.func69, Try.ntmps69
      go_wp2_with (first | ((with_reducible refine gate_callee (f := 81) rfl ?_); refine goesL_ (some 17) rfl rfl Try.func81 (by kernel_rfl) rfl #[.slice A0 l0.length c0, .slice A1 l1.length c1] rfl (by (try simp only [List.map_toArray, List.map_cons, List.map_nil]); first | done | rfl | (simp only [List.length_drop, List.length_take]; rfl)) ?_; (with_reducible refine (diffmatchpatch_runesIndex.calls k _ _ l0 _ _ l1 t234 _ ?side1 ?side2 ?side3 ?side4 A6.out).mono ?_); (case side1 => repeat (first | exact HR0.out | (with_reducible refine Kd.C_alloc ?_ _) | (with_reducible refine Kd.C_drewN ?_ _) | (with_reducible refine Kd.C_drew ?_))); (case side2 => exact HC0.out); (case side3 => repeat (first | exact HR1.out | (with_reducible refine Kd.C_alloc ?_ _) | (with_reducible refine Kd.C_drewN ?_ _) | (with_reducible refine Kd.C_drew ?_))); (case side4 => exact HC1.out); rintro e w' ⟨rfl, ⟨nd, rfl⟩⟩; refine ⟨_, rfl, ?_⟩))
      go_ret
      exact ⟨by first | rfl | (simp; done) | (simp [*]; done), by repeat (first | exact Drawn0.refl _ | apply Drawn0.step)⟩
    · rw [if_neg c5] at H
      have c5b0 : decide (a2 ≤ 0) = false := decide_eq_false c5
      clear c5
      by_cases c7 : 0 ≤ a2
      · rw [if_pos c7] at H
        have c7b0 := eq_true c7
        have c7b1 : decide (0 ≤ a2) = true := decide_eq_true c7
        clear c7
        by_cases c8 : a2 ≤ (l0.length : Int)
        · rw [if_pos c8] at H
          have c8b0 := eq_true c8
          have c8b1 : decide (a2 ≤ (l0.length : Int)) = true := decide_eq_true c8
          clear c8
          replace H := Option.bind_eq_some_iff.mp H
          obtain ⟨t236, A90, H⟩ := H
          replace H : (if t236 = (-1) then (some (-1)) else (some (wrap64 (t236 + a2)))) = some r := H
          have A9 := Aside0.mk A90
          clear A90
          by_cases c10 : t236 = (-1)
          · rw [if_pos c10] at H
            have c10b0 : (t236 == (-1)) = true := beq_iff_eq.mpr c10
            have c10b1 : (t236 != (-1)) = false := bne_eq_false_iff_eq.mpr c10
            clear c10
            obtain rfl := Option.some.inj H
            obtain ⟨i011, hi011, _, hsz11, _⟩ := info_parts info21
            obtain ⟨A11, hcut11, hA11, hC11⟩ := print_drop_of (P := Try.prog) (Value.int .i32) 0 30 21 .i64 Try.underlying30 hi011 hsz11 A0 c0 l0 a2 (of_decide_eq_true (by first | (with_reducible assumption) | assumption)) (of_decide_eq_true (by first | (with_reducible assumption) | assumption)) HC0.out
            have HR235 := Aside0.mk (Kd.C_of_reads (h1 := fun _ => rfl) (hA11 _ (Kd.reads_of_C HR0.out)))
            have HC235 := Aside0.mk hC11
            clear hA11 hC11 hi011 hsz11
            go_enter Try.func69, Try.ntmps69
            go_wp2_with (first | ((with_reducible refine gate_callee (f := 81) rfl ?_); refine goesL_ (some 22) rfl rfl Try.func81 (by kernel_rfl) rfl #[.slice A11 (l0.drop (a2 : Int).toNat).length (c0 - a2.toNat), .slice A1 l1.length c1] rfl (by (try simp only [List.map_toArray, List.map_cons, List.map_nil]); first | done | (rw [show (l0.drop (a2 : Int).toNat).length = (l0.length - a2.toNat) from List.length_drop] <;> rfl) | rfl | (simp only [List.length_drop, List.length_take]; rfl)) ?_; (with_reducible refine (diffmatchpatch_runesIndex.calls k _ _ (l0.drop (a2 : Int).toNat) _ _ l1 t236 _ ?side1 ?side2 ?side3 ?side4 A9.out).mono ?_); (case side1 => repeat (first | exact HR235.out | (with_reducible refine Kd.C_alloc ?_ _) | (with_reducible refine Kd.C_drewN ?_ _) | (with_reducible refine Kd.C_drew ?_))); (case side2 => exact HC235.out); (case side3 => repeat (first | exact HR1.out | (with_reducible refine Kd.C_alloc ?_ _) | (with_reducible refine Kd.C_drewN ?_ _) | (with_reducible refine Kd.C_drew ?_))); (case side4 => exact HC1.out); rintro e w' ⟨rfl, ⟨nd, rfl⟩⟩; refine ⟨_, rfl, ?_⟩))
            go_ret
            exact ⟨by first | rfl | (simp; done) | (simp [*]; done), by repeat (first | exact Drawn0.refl _ | apply Drawn0.step)⟩
          · rw [if_neg c10] at H
            have c10b0 : (t236 == (-1)) = false := beq_eq_false_iff_ne.mpr c10
            have c10b1 : (t236 != (-1)) = true := bne_iff_ne.mpr c10
            obtain rfl := Option.some.inj H
            obtain ⟨i012, hi012, _, hsz12, _⟩ := info_parts info21
            obtain ⟨A12, hcut12, hA12, hC12⟩ := print_drop_of (P := Try.prog) (Value.int .i32) 0 30 21 .i64 Try.underlying30 hi012 hsz12 A0 c0 l0 a2 (of_decide_eq_true (by first | (with_reducible assumption) | assumption)) (of_decide_eq_true (by first | (with_reducible assumption) | assumption)) HC0.out
            have HR235 := Aside0.mk (Kd.C_of_reads (h1 := fun _ => rfl) (hA12 _ (Kd.reads_of_C HR0.out)))
            have HC235 := Aside0.mk hC12
            clear hA12 hC12 hi012 hsz12
            go_enter Try.func69, Try.ntmps69
            go_wp2_with (first | ((with_reducible refine gate_callee (f := 81) rfl ?_); refine goesL_ (some 22) rfl rfl Try.func81 (by kernel_rfl) rfl #[.slice A12 (l0.drop (a2 : Int).toNat).length (c0 - a2.toNat), .slice A1 l1.length c1] rfl (by (try simp only [List.map_toArray, List.map_cons, List.map_nil]); first | done | (rw [show (l0.drop (a2 : Int).toNat).length = (l0.length - a2.toNat) from List.length_drop] <;> rfl) | rfl | (simp only [List.length_drop, List.length_take]; rfl)) ?_; (with_reducible refine (diffmatchpatch_runesIndex.calls k _ _ (l0.drop (a2 : Int).toNat) _ _ l1 t236 _ ?side1 ?side2 ?side3 ?side4 A9.out).mono ?_); (case side1 => repeat (first | exact HR235.out | (with_reducible refine Kd.C_alloc ?_ _) | (with_reducible refine Kd.C_drewN ?_ _) | (with_reducible refine Kd.C_drew ?_))); (case side2 => exact HC235.out); (case side3 => repeat (first | exact HR1.out | (with_reducible refine Kd.C_alloc ?_ _) | (with_reducible refine Kd.C_drewN ?_ _) | (with_reducible refine Kd.C_drew ?_))); (case side4 => exact HC1.out); rintro e w' ⟨rfl, ⟨nd, rfl⟩⟩; refine ⟨_, rfl, ?_⟩))
            go_ret
            exact ⟨by first | rfl | (simp; done) | (simp [*]; done), by repeat (first | exact Drawn0.refl _ | apply Drawn0.step)⟩
        · rw [if_neg c8] at H
          exact absurd H (by simp)
      · rw [if_neg c7] at H
        exact absurd H (by simp)

end Go.Proofs.Ytomidomdomjkfaa.PT
