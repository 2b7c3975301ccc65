-- Written by this session's own program (wip/tools) out of the translation.
import Derived.Test.YtomidomdomjkfaaPTx0
import Derived.Test.YtomidomdomjkfaaPTx8
namespace Go.Proofs.Ytomidomdomjkfaa.PT
open Go.RowKit Go.Proofs.YtomidomdomjkfaaW.PrintWords Go.Proofs.YtomidomdomjkfaaW.PrintLast Go.Proofs.YtomidomdomjkfaaW.PrintMore
attribute [local go_sem] max2_int min2_int max_two min_two max_three min_three max_four min_four   -- for this text's walks alone
set_option linter.unusedVariables false
set_option linter.unusedSimpArgs false

/-! ### spec_Clean: function 17 -/
def spec_Clean.f (a0 : ByteArray) (a1 : Int) : Option (ByteArray) := (spec_Runes.f a0).bind fun t115 => (if 0 ≤ (mn (t115.length : Int) a1) then (if (mn (t115.length : Int) a1) ≤ (t115.length : Int) then (some (runesBytes (t115.take ((mn (t115.length : Int) a1) : Int).toNat))) else (none)) else (none))
set_option maxHeartbeats 8000000 in
set_option maxRecDepth 100000 in
theorem spec_Clean.calls (a0 : ByteArray) (a1 : Int) (r : ByteArray) (w : World) (h : spec_Clean.f a0 a1 = some r) :
    Calls Try.prog 17 #[.string a0, .int .i64 a1] w fun e w' => e = .returned (.string r) ∧ Below w.heap.size w w' := by
  have HB := Aside0.mk (Below.refl w.heap.size w)
  have H : ((spec_Runes.f a0).bind fun t115 => (if 0 ≤ (mn (t115.length : Int) a1) then (if (mn (t115.length : Int) a1) ≤ (t115.length : Int) then (some (runesBytes (t115.take ((mn (t115.length : Int) a1) : Int).toNat))) else (none)) else (none))) = some r := h
  clear h
  replace H := Option.bind_eq_some_iff.mp H
  obtain ⟨t115, A30, H⟩ := H
  replace H : (if 0 ≤ (mn (t115.length : Int) a1) then (if (mn (t115.length : Int) a1) ≤ (t115.length : Int) then (some (runesBytes (t115.take ((mn (t115.length : Int) a1) : Int).toNat))) else (none)) else (none)) = some r := H
  have A3 := Aside0.mk A30
  clear A30
  obtain ⟨ji4, hji4⟩ : ∃ j_ : Int, (mn (t115.length : Int) a1) = j_ := ⟨_, rfl⟩
  replace H : (if 0 ≤ (ji4) then (if (ji4) ≤ (t115.length : Int) then (some (runesBytes (t115.take ((ji4) : Int).toNat))) else (none)) else (none)) = some r := by first | (rw [hji4] at H; exact H) | (simp only [hji4] at H ⊢; exact H)
  (try rw [hji4] at A3)
  have hji4_ : (if a1 < (t115.length : Int) then a1 else (t115.length : Int)) = ji4 := hji4
  by_cases c5 : 0 ≤ (ji4)
  · rw [if_pos c5] at H
    have c5b0 := eq_true c5
    have c5b1 : decide (0 ≤ (ji4)) = true := decide_eq_true c5
    clear c5
    by_cases c6 : (ji4) ≤ (t115.length : Int)
    · rw [if_pos c6] at H
      have c6b0 := eq_true c6
      have c6b1 : decide ((ji4) ≤ (t115.length : Int)) = true := decide_eq_true c6
      clear c6
      obtain ⟨y118, hy118⟩ : ∃ y_ : List Int, y_ = (t115.take ((ji4) : Int).toNat) := ⟨_, rfl⟩
      replace H : (some (runesBytes y118)) = some r := by first | (rw [hy118]; with_reducible exact H) | (have H2_ := (Option.bind_some _ _).symm.trans H; rw [hy118]; with_reducible exact H2_) | (have H2_ := (Option.bind_some _ _).symm.trans H; with_reducible exact H2_) | with_reducible exact H | (rw [hy118]; exact H) | exact H
      have Ny118 := Aside0.mk hy118
      clear hy118
      obtain rfl := Option.some.inj H
      go_enter Try.func17, Try.ntmps17
      go_wp2_with (first | ((with_reducible refine gate_callee (f := 20) rfl ?_); refine goesL_ (some 7) rfl rfl Try.func20 (by kernel_rfl) rfl #[.string a0] rfl (by (try simp only [List.map_toArray, List.map_cons, List.map_nil]); first | done | rfl | (simp only [List.length_drop, List.length_take]; rfl)) ?_; (with_reducible refine (spec_Runes.calls a0 t115 _ A3.out).mono ?_); rintro e w7 ⟨v116, rfl, ho0, hb⟩; refine ⟨_, rfl, ?_⟩; have n0_ := Aside0.mk (Kd.R_lower ho0 (below_size (by repeat (first | (with_reducible first | exact HB.out | apply below_alloc | apply pw_below_drewN | apply below_drew1) | exact HB.out)))); have n1_ := Aside0.mk (below_step (by repeat (first | (with_reducible first | exact HB.out | apply below_alloc | apply pw_below_drewN | apply below_drew1) | exact HB.out)) hb); clear HB; have HO117 := n0_; have HB := n1_; clear n0_ n1_; (try clear hb); (try clear hb2); (try clear hk); (try clear hi); (try clear ho0); obtain ⟨Ao8, co8, eo8⟩ := Kd.R_slice HO117.out; subst eo8; have q9 : ((ji4) : Int) ≤ ((t115.length : Int) : Int) := of_decide_eq_true (by first | (with_reducible assumption) | assumption); obtain ⟨i09, hi09, _, hsz9, _⟩ := info_parts info21; have hroom9 : t115.length ≤ co8 := (Kd.R_reads' HO117.out).2.1; have hC9 : Kd.C (Kd.int .i32) _ Ao8 t115.length t115 := (Kd.R_reads' HO117.out).2.2; have hcut9 := cut_to (P := Try.prog) 30 21 .i64 Try.underlying30 hi09 Ao8 t115.length co8 (ji4) (of_decide_eq_true (by first | (with_reducible assumption) | assumption)) q9 hroom9; have hr9 := Kd.C_take (m := ((ji4) : Int).toNat) hC9 (by omega); have hy9 : y118.length = ((ji4) : Int).toNat := (by rw [Ny118.out, List.length_take]; omega); rw [← Ny118.out] at hr9; rw [← hy9] at hcut9; have HR121 := Aside0.mk hr9; have HC121 := Aside0.mk (show y118.length ≤ co8 from by omega); clear hr9 hC9 hroom9 hi09 hsz9; have KY9 := Aside0.mk hy9; clear hy9; have KL9 := Aside0.mk (show ((ji4) : Int).toNat ≤ t115.length from by omega); replace q9 := eq_true q9; have hcv10 := Kd.C_string32 (P := Try.prog) (A := Ao8) (c := co8) Try.underlying30 Try.underlying21 Try.underlying9 (by repeat (first | (with_reducible exact HR121.out) | (with_reducible refine Kd.C_alloc ?_ _) | (with_reducible refine Kd.C_drewN ?_ _) | (with_reducible refine Kd.C_drew ?_) | exact HR121.out))))
      go_ret
      exact ⟨by first | rfl | (simp [errW_none, errW_some] <;> rfl) | (simp only [← hji4]; first | rfl | (simp [errW_none, errW_some] <;> rfl)) | (simp [*, errW_none, errW_some] <;> rfl), by repeat (first | (with_reducible first | exact HB.out | apply below_alloc | apply pw_below_drewN | apply below_drew1) | exact HB.out)⟩
    · rw [if_neg c6] at H
      exact absurd H (by simp)
  · rw [if_neg c5] at H
    exact absurd H (by simp)

end Go.Proofs.Ytomidomdomjkfaa.PT
