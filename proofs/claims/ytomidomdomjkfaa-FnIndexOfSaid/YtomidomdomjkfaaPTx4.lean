-- Written by this session's own program (wip/tools) out of the translation.
import Derived.Test.YtomidomdomjkfaaPTx0
import Derived.Test.YtomidomdomjkfaaPTx3
namespace Go.Proofs.Ytomidomdomjkfaa.PT
open Go.RowKit Go.Proofs.YtomidomdomjkfaaW.PrintWords Go.Proofs.YtomidomdomjkfaaW.PrintLast Go.Proofs.YtomidomdomjkfaaW.PrintMore
attribute [local go_sem] max2_int min2_int max_two min_two max_three min_three max_four min_four   -- for this text's walks alone
set_option linter.unusedVariables false
set_option linter.unusedSimpArgs false

/-! ### diffmatchpatch_indexOf: function 66 -/
def diffmatchpatch_indexOf.f (k : Nat) (a0 : ByteArray) (a1 : ByteArray) (a2 : Int) : Option (Int) := if a2 > (wrap64 ((a0.size : Int) - 1)) then (some (-1)) else (if a2 ≤ 0 then ((diffmatchpatch_zzIndex.f k a0 a1).bind fun t105 => (some t105)) else (if 0 ≤ a2 then (if a2 ≤ (a0.size : Int) then ((diffmatchpatch_zzIndex.f k (a0.extract (a2 : Int).toNat a0.size) a1).bind fun t106 => (if t106 = (-1) then (some (-1)) else (some (wrap64 (t106 + a2))))) else (none)) else (none)))
theorem diffmatchpatch_indexOf.mono : ∀ a0 a1 a2 k, LeO (diffmatchpatch_indexOf.f k a0 a1 a2) (diffmatchpatch_indexOf.f (k + 1) a0 a1 a2) := by
  intro a0 a1 a2 k
  unfold diffmatchpatch_indexOf.f
  repeat' first
      | (with_reducible exact diffmatchpatch_zzIndex.mono _ _ _)
      | (with_reducible exact LeO.refl _)
      | (with_reducible exact LeO.none _)
      | (with_reducible refine LeO.ite ?_ ?_)
      | (with_reducible refine LeO.bind ?_ (fun _ => ?_))
      | exact diffmatchpatch_zzIndex.mono _ _ _
      | exact LeO.none _
      | refine LeO.ite ?_ ?_
      | refine LeO.bind ?_ (fun _ => ?_)
set_option maxHeartbeats 8000000 in
set_option maxRecDepth 100000 in
theorem diffmatchpatch_indexOf.calls (k : Nat) (a0 : ByteArray) (a1 : ByteArray) (a2 : Int) (r : Int) (w : World) (h : diffmatchpatch_indexOf.f k a0 a1 a2 = some r) :
    Calls Try.prog 66 #[.string a0, .string a1, .int .i64 a2] w fun e w' => e = .returned (.int .i64 r) ∧ Drawn0 w w' := by
  have H : (if a2 > (wrap64 ((a0.size : Int) - 1)) then (some (-1)) else (if a2 ≤ 0 then ((diffmatchpatch_zzIndex.f k a0 a1).bind fun t105 => (some t105)) else (if 0 ≤ a2 then (if a2 ≤ (a0.size : Int) then ((diffmatchpatch_zzIndex.f k (a0.extract (a2 : Int).toNat a0.size) a1).bind fun t106 => (if t106 = (-1) then (some (-1)) else (some (wrap64 (t106 + a2))))) else (none)) else (none)))) = some r := h
  clear h
  by_cases c4 : a2 > (wrap64 ((a0.size : Int) - 1))
  · rw [if_pos c4] at H
    have c4b0 : decide ((wrap64 ((a0.size : Int) - 1)) < a2) = true := decide_eq_true c4
    clear c4
    obtain rfl := Option.some.inj H
    go_enter Try.func66, Try.ntmps66
    go_wp2
    go_ret
    exact ⟨by first | rfl | (simp; done) | (simp [*]; done), by repeat (first | exact Drawn0.refl _ | apply Drawn0.step)⟩
  · rw [if_neg c4] at H
    have c4b0 : decide ((wrap64 ((a0.size : Int) - 1)) < a2) = false := decide_eq_false c4
    clear c4
    by_cases c5 : a2 ≤ 0
    · rw [if_pos c5] at H
      have c5b0 : decide (a2 ≤ 0) = true := decide_eq_true c5
      clear c5
      replace H := Option.bind_eq_some_iff.mp H
      obtain ⟨t105, A60, H⟩ := H
      replace H : (some t105) = some r := H
      have A6 := Aside0.mk A60
      clear A60
      obtain rfl := Option.some.inj H
      go_enter Try.func66, Try.ntmps66
      go_wp2_with (first | ((with_reducible refine gate_callee (f := 80) rfl ?_); refine goesL_ (some 17) rfl rfl Try.func80 (by kernel_rfl) rfl #[.string a0, .string a1] rfl (by (try simp only [List.map_toArray, List.map_cons, List.map_nil]); first | done | rfl | (simp only [List.length_drop, List.length_take]; rfl)) ?_; (with_reducible refine (diffmatchpatch_zzIndex.calls k a0 a1 t105 _ A6.out).mono ?_); rintro e w' ⟨rfl, ⟨nd, rfl⟩⟩; refine ⟨_, rfl, ?_⟩))
      go_ret
      exact ⟨by first | rfl | (simp; done) | (simp [*]; done), by repeat (first | exact Drawn0.refl _ | apply Drawn0.step)⟩
    · rw [if_neg c5] at H
      have c5b0 : decide (a2 ≤ 0) = false := decide_eq_false c5
      clear c5
      by_cases c7 : 0 ≤ a2
      · rw [if_pos c7] at H
        have c7b0 := eq_true c7
        have c7b1 : decide (0 ≤ a2) = true := decide_eq_true c7
        clear c7
        by_cases c8 : a2 ≤ (a0.size : Int)
        · rw [if_pos c8] at H
          have c8b0 := eq_true c8
          have c8b1 : decide (a2 ≤ (a0.size : Int)) = true := decide_eq_true c8
          clear c8
          replace H := Option.bind_eq_some_iff.mp H
          obtain ⟨t106, A90, H⟩ := H
          replace H : (if t106 = (-1) then (some (-1)) else (some (wrap64 (t106 + a2)))) = some r := H
          have A9 := Aside0.mk A90
          clear A90
          by_cases c10 : t106 = (-1)
          · rw [if_pos c10] at H
            have c10b0 : (t106 == (-1)) = true := beq_iff_eq.mpr c10
            have c10b1 : (t106 != (-1)) = false := bne_eq_false_iff_eq.mpr c10
            clear c10
            obtain rfl := Option.some.inj H
            go_enter Try.func66, Try.ntmps66
            go_wp2_with (first | ((with_reducible refine gate_callee (f := 80) rfl ?_); refine goesL_ (some 22) rfl rfl Try.func80 (by kernel_rfl) rfl #[.string (a0.extract (a2 : Int).toNat a0.size), .string a1] rfl (by (try simp only [List.map_toArray, List.map_cons, List.map_nil]); first | done | rfl | (simp only [List.length_drop, List.length_take]; rfl)) ?_; (with_reducible refine (diffmatchpatch_zzIndex.calls k (a0.extract (a2 : Int).toNat a0.size) a1 t106 _ A9.out).mono ?_); rintro e w' ⟨rfl, ⟨nd, rfl⟩⟩; refine ⟨_, rfl, ?_⟩))
            go_ret
            exact ⟨by first | rfl | (simp; done) | (simp [*]; done), by repeat (first | exact Drawn0.refl _ | apply Drawn0.step)⟩
          · rw [if_neg c10] at H
            have c10b0 : (t106 == (-1)) = false := beq_eq_false_iff_ne.mpr c10
            have c10b1 : (t106 != (-1)) = true := bne_iff_ne.mpr c10
            obtain rfl := Option.some.inj H
            go_enter Try.func66, Try.ntmps66
            go_wp2_with (first | ((with_reducible refine gate_callee (f := 80) rfl ?_); refine goesL_ (some 22) rfl rfl Try.func80 (by kernel_rfl) rfl #[.string (a0.extract (a2 : Int).toNat a0.size), .string a1] rfl (by (try simp only [List.map_toArray, List.map_cons, List.map_nil]); first | done | rfl | (simp only [List.length_drop, List.length_take]; rfl)) ?_; (with_reducible refine (diffmatchpatch_zzIndex.calls k (a0.extract (a2 : Int).toNat a0.size) a1 t106 _ A9.out).mono ?_); rintro e w' ⟨rfl, ⟨nd, rfl⟩⟩; refine ⟨_, rfl, ?_⟩))
            go_ret
            exact ⟨by first | rfl | (simp; done) | (simp [*]; done), by repeat (first | exact Drawn0.refl _ | apply Drawn0.step)⟩
        · rw [if_neg c8] at H
          exact absurd H (by simp)
      · rw [if_neg c7] at H
        exact absurd H (by simp)

end Go.Proofs.Ytomidomdomjkfaa.PT
