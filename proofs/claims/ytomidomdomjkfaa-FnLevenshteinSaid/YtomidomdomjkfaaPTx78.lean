-- Written by this session's own program (wip/tools) out of the translation.
import Derived.Test.YtomidomdomjkfaaPTx0
import Derived.Test.YtomidomdomjkfaaPTx64
import Derived.Test.YtomidomdomjkfaaPTx65
import Derived.Test.YtomidomdomjkfaaPTx76
import Derived.Test.YtomidomdomjkfaaPTx77
namespace Go.Proofs.Ytomidomdomjkfaa.PT
open Go.RowKit Go.Proofs.YtomidomdomjkfaaW.PrintWords Go.Proofs.YtomidomdomjkfaaW.PrintLast Go.Proofs.YtomidomdomjkfaaW.PrintMore
attribute [local go_sem] max2_int min2_int max_two min_two max_three min_three max_four min_four   -- for this text's walks alone
set_option linter.unusedVariables false
set_option linter.unusedSimpArgs false

/-! ### laws_FnLevenshtein: function 13 -/
def laws_FnLevenshtein.f (k : Nat) (l0 : List (S57)) : Option (Bool) := (laws_zzFits1.f k l0).bind fun t434 => (if t434 = true then ((spec_Parted.f k l0 20).bind fun t435 => ((impl_Levenshtein.f k t435).bind fun t438 => ((spec_Levenshtein.f k t435).bind fun t439 => (if t438 = t439 then ((impl_Levenshtein.f k (([(⟨1, (⟨#[97, 98]⟩ : ByteArray)⟩ : S57)] : List (S57)))).bind fun t443 => (some (t443 == 2))) else (some false))))) else (some true))
theorem laws_FnLevenshtein.mono : ∀ a0 k, LeO (laws_FnLevenshtein.f k a0) (laws_FnLevenshtein.f (k + 1) a0) := by
  intro a0 k
  unfold laws_FnLevenshtein.f
  repeat' first
      | (with_reducible exact impl_Levenshtein.mono _ _)
      | (with_reducible exact laws_zzFits1.mono _ _)
      | (with_reducible exact spec_Levenshtein.mono _ _)
      | (with_reducible exact spec_Parted.mono _ _ _)
      | (with_reducible exact LeO.refl _)
      | (with_reducible exact LeO.none _)
      | (with_reducible refine LeO.ite ?_ ?_)
      | (with_reducible refine LeO.bind ?_ (fun _ => ?_))
      | exact impl_Levenshtein.mono _ _
      | exact laws_zzFits1.mono _ _
      | exact spec_Levenshtein.mono _ _
      | exact spec_Parted.mono _ _ _
      | exact LeO.none _
      | refine LeO.ite ?_ ?_
      | refine LeO.bind ?_ (fun _ => ?_)
set_option maxHeartbeats 8000000 in
set_option maxRecDepth 100000 in
theorem laws_FnLevenshtein.calls (k : Nat) (A0 : Option Addr) (c0 : Nat) (l0 : List (S57)) (r : Bool) (w : World) (hr0 : Kd.C k57 w A0 l0.length l0) (hc0 : l0.length ≤ c0) (h : laws_FnLevenshtein.f k l0 = some r) :
    Calls Try.prog 13 #[.slice A0 l0.length c0] w fun e w' => e = .returned (.bool r) ∧ Below w.heap.size w w' := by
  have hu57 := Try.underlying57
  have HR0 := Aside0.mk hr0
  have HC0 := Aside0.mk hc0
  clear hr0 hc0
  have HB := Aside0.mk (Below.refl w.heap.size w)
  have H : ((laws_zzFits1.f k l0).bind fun t434 => (if t434 = true then ((spec_Parted.f k l0 20).bind fun t435 => ((impl_Levenshtein.f k t435).bind fun t438 => ((spec_Levenshtein.f k t435).bind fun t439 => (if t438 = t439 then ((impl_Levenshtein.f k (([(⟨1, (⟨#[97, 98]⟩ : ByteArray)⟩ : S57)] : List (S57)))).bind fun t443 => (some (t443 == 2))) else (some false))))) else (some true))) = some r := h
  clear h
  replace H := Option.bind_eq_some_iff.mp H
  obtain ⟨t434, A20, H⟩ := H
  replace H : (if t434 = true then ((spec_Parted.f k l0 20).bind fun t435 => ((impl_Levenshtein.f k t435).bind fun t438 => ((spec_Levenshtein.f k t435).bind fun t439 => (if t438 = t439 then ((impl_Levenshtein.f k (([(⟨1, (⟨#[97, 98]⟩ : ByteArray)⟩ : S57)] : List (S57)))).bind fun t443 => (some (t443 == 2))) else (some false))))) else (some true)) = some r := H
  have A2 := Aside0.mk A20
  clear A20
  by_cases c3 : t434 = true
  · subst c3
    have H1 : ((spec_Parted.f k l0 20).bind fun t435 => ((impl_Levenshtein.f k t435).bind fun t438 => ((spec_Levenshtein.f k t435).bind fun t439 => (if t438 = t439 then ((impl_Levenshtein.f k (([(⟨1, (⟨#[97, 98]⟩ : ByteArray)⟩ : S57)] : List (S57)))).bind fun t443 => (some (t443 == 2))) else (some false))))) = some r := by rw [if_pos rfl] at H; exact H
    clear H
    have H := H1
    clear H1
    replace H := Option.bind_eq_some_iff.mp H
    obtain ⟨t435, A40, H⟩ := H
    replace H : ((impl_Levenshtein.f k t435).bind fun t438 => ((spec_Levenshtein.f k t435).bind fun t439 => (if t438 = t439 then ((impl_Levenshtein.f k (([(⟨1, (⟨#[97, 98]⟩ : ByteArray)⟩ : S57)] : List (S57)))).bind fun t443 => (some (t443 == 2))) else (some false)))) = some r := H
    have A4 := Aside0.mk A40
    clear A40
    replace H := Option.bind_eq_some_iff.mp H
    obtain ⟨t438, A50, H⟩ := H
    replace H : ((spec_Levenshtein.f k t435).bind fun t439 => (if t438 = t439 then ((impl_Levenshtein.f k (([(⟨1, (⟨#[97, 98]⟩ : ByteArray)⟩ : S57)] : List (S57)))).bind fun t443 => (some (t443 == 2))) else (some false))) = some r := H
    have A5 := Aside0.mk A50
    clear A50
    replace H := Option.bind_eq_some_iff.mp H
    obtain ⟨t439, A60, H⟩ := H
    replace H : (if t438 = t439 then ((impl_Levenshtein.f k (([(⟨1, (⟨#[97, 98]⟩ : ByteArray)⟩ : S57)] : List (S57)))).bind fun t443 => (some (t443 == 2))) else (some false)) = some r := H
    have A6 := Aside0.mk A60
    clear A60
    by_cases c7 : t438 = t439
    · rw [if_pos c7] at H
      have c7b0 : (t438 == t439) = true := beq_iff_eq.mpr c7
      have c7b1 : (t438 != t439) = false := bne_eq_false_iff_eq.mpr c7
      clear c7
      obtain ⟨y440, hy440⟩ : ∃ y_ : List (S57), y_ = (([(⟨1, (⟨#[97, 98]⟩ : ByteArray)⟩ : S57)] : List (S57))) := ⟨_, rfl⟩
      replace H : ((impl_Levenshtein.f k y440).bind fun t443 => (some (t443 == 2))) = some r := by first | (rw [hy440]; with_reducible exact H) | (have H2_ := (Option.bind_some _ _).symm.trans H; rw [hy440]; with_reducible exact H2_) | (have H2_ := (Option.bind_some _ _).symm.trans H; with_reducible exact H2_) | with_reducible exact H | (rw [hy440]; exact H) | exact H
      have Ny440 := Aside0.mk hy440
      clear hy440
      replace H := Option.bind_eq_some_iff.mp H
      obtain ⟨t443, A80, H⟩ := H
      replace H : (some (t443 == 2)) = some r := H
      have A8 := Aside0.mk A80
      clear A80
      obtain rfl := Option.some.inj H
      go_enter Try.func13, Try.ntmps13
      go_wp2_with (first | ((with_reducible refine gate_callee (f := 34) rfl ?_); refine goesL_ (some 4) rfl rfl Try.func34 (by kernel_rfl) rfl #[.slice A0 l0.length c0] rfl (by (try simp only [List.map_toArray, List.map_cons, List.map_nil]); first | done | rfl | (simp only [List.length_drop, List.length_take]; rfl)) ?_; (with_reducible refine (laws_zzFits1.calls k _ _ l0 true _ ?side1 ?side2 A2.out).mono ?_); (case side1 => repeat (first | exact HR0.out | (with_reducible refine Kd.C_alloc ?_ _) | (with_reducible refine Kd.C_drewN ?_ _) | (with_reducible refine Kd.C_drew ?_))); (case side2 => exact HC0.out); rintro e w9 ⟨rfl, hb⟩; refine ⟨_, rfl, ?_⟩; have n0_ := Aside0.mk (below_step (by repeat (first | (with_reducible first | exact HB.out | apply below_alloc | apply pw_below_drewN | apply below_drew1) | exact HB.out)) hb); clear HB; have HB := n0_; clear n0_; (try clear hb); (try clear hb2); (try clear hk); (try clear hi)) | ((with_reducible refine gate_callee (f := 35) rfl ?_); refine goesL_ (some 7) rfl rfl Try.func35 (by kernel_rfl) rfl #[.slice A0 l0.length c0, .int .i64 20] rfl (by (try simp only [List.map_toArray, List.map_cons, List.map_nil]); first | done | rfl | (simp only [List.length_drop, List.length_take]; rfl)) ?_; (with_reducible refine (spec_Parted.calls k _ _ l0 20 t435 _ ?side1 ?side2 A4.out).mono ?_); (case side1 => repeat (first | exact (Kd.C_below HR0.out HB.out) | (with_reducible refine Kd.C_alloc ?_ _) | (with_reducible refine Kd.C_drewN ?_ _) | (with_reducible refine Kd.C_drew ?_))); (case side2 => exact HC0.out); rintro e w10 ⟨v436, rfl, ho0, hb⟩; refine ⟨_, rfl, ?_⟩; have n0_ := Aside0.mk (Kd.R_lower ho0 (below_size (by repeat (first | (with_reducible first | exact HB.out | apply below_alloc | apply pw_below_drewN | apply below_drew1) | exact HB.out)))); have n1_ := Aside0.mk (below_step (by repeat (first | (with_reducible first | exact HB.out | apply below_alloc | apply pw_below_drewN | apply below_drew1) | exact HB.out)) hb); clear HB; have HO437 := n0_; have HB := n1_; clear n0_ n1_; (try clear hb); (try clear hb2); (try clear hk); (try clear hi); (try clear ho0); obtain ⟨Ao11, co11, eo11⟩ := Kd.R_slice HO437.out; subst eo11) | ((with_reducible refine gate_callee (f := 39) rfl ?_); refine goesL_ (some 9) rfl rfl Try.func39 (by kernel_rfl) rfl #[.slice Ao11 t435.length co11] rfl (by (try simp only [List.map_toArray, List.map_cons, List.map_nil]); first | done | rfl | (simp only [List.length_drop, List.length_take]; rfl)) ?_; (with_reducible refine (impl_Levenshtein.calls k _ _ t435 t438 _ ?side1 ?side2 A5.out).mono ?_); (case side1 => repeat (first | exact (Kd.R_reads' HO437.out).2.2 | (with_reducible refine Kd.C_alloc ?_ _) | (with_reducible refine Kd.C_drewN ?_ _) | (with_reducible refine Kd.C_drew ?_))); (case side2 => exact (Kd.R_reads' HO437.out).2.1); rintro e w12 ⟨rfl, hb⟩; refine ⟨_, rfl, ?_⟩; have n0_ := Aside0.mk (Kd.R_below (by (with_reducible repeat (first | apply Kd.R_alloc | apply Kd.R_drewN | apply Kd.R_drew)); exact HO437.out) hb); have n1_ := Aside0.mk (below_step (by repeat (first | (with_reducible first | exact HB.out | apply below_alloc | apply pw_below_drewN | apply below_drew1) | exact HB.out)) hb); clear HO437; clear HB; have HO437 := n0_; have HB := n1_; clear n0_ n1_; (try clear hb); (try clear hb2); (try clear hk); (try clear hi)) | ((with_reducible refine gate_callee (f := 40) rfl ?_); refine goesL_ (some 11) rfl rfl Try.func40 (by kernel_rfl) rfl #[.slice Ao11 t435.length co11] rfl (by (try simp only [List.map_toArray, List.map_cons, List.map_nil]); first | done | rfl | (simp only [List.length_drop, List.length_take]; rfl)) ?_; (with_reducible refine (spec_Levenshtein.calls k _ _ t435 t439 _ ?side1 ?side2 A6.out).mono ?_); (case side1 => repeat (first | exact (Kd.R_reads' HO437.out).2.2 | (with_reducible refine Kd.C_alloc ?_ _) | (with_reducible refine Kd.C_drewN ?_ _) | (with_reducible refine Kd.C_drew ?_))); (case side2 => exact (Kd.R_reads' HO437.out).2.1); rintro e w13 ⟨rfl, hb⟩; refine ⟨_, rfl, ?_⟩; have n0_ := Aside0.mk (Kd.R_below (by (with_reducible repeat (first | apply Kd.R_alloc | apply Kd.R_drewN | apply Kd.R_drew)); exact HO437.out) hb); have n1_ := Aside0.mk (below_step (by repeat (first | (with_reducible first | exact HB.out | apply below_alloc | apply pw_below_drewN | apply below_drew1) | exact HB.out)) hb); clear HO437; clear HB; have HO437 := n0_; have HB := n1_; clear n0_ n1_; (try clear hb); (try clear hb2); (try clear hk); (try clear hi)) | ((with_reducible refine gate_dst (N := 15) rfl ?_); (try (refine gate_guard (by rfl) ?_; dsimp only)); refine Kd.R_lit k57 _ 57 ?hg (N := 15) ?hd (xs := ([(⟨1, (⟨#[97, 98]⟩ : ByteArray)⟩ : S57)] : List (S57))) (inner := [.int .i64 1, .string (⟨#[97, 98]⟩ : ByteArray)]) (ok := fun _ => True) (okp := fun _ => True) ?hr ?hp (fun _ hk => hk) trivial (Below.refl _ _) (Nat.le_refl _) (by simp) ?_; (case hd => rfl); (case hg => rfl); (case hr => first | (go_simp; done) | (go_simp; rfl)); (case hp => exact (Reps.c2 (show Kd.M k57 _ _ _ (⟨1, (⟨#[97, 98]⟩ : ByteArray)⟩ : S57) [.int .i64 1, .string (⟨#[97, 98]⟩ : ByteArray)] from (k57_mkM _ _ _ (⟨1, (⟨#[97, 98]⟩ : ByteArray)⟩ : S57) )) (Reps.none _ _))); intro v441 w14 ho15 hb hg_ hnew_; clear hg_ hnew_; (first | rw [← Ny440.out] at ho15 | (simp only [Int.reduceToNat] at ho15; rw [← Ny440.out] at ho15)); have n0_ := Aside0.mk (Kd.R_elder' (by (with_reducible repeat (first | apply Kd.R_alloc | apply Kd.R_drewN | apply Kd.R_drew)); exact HO437.out) (Kd.R_base ho15) hb); have n1_ := Aside0.mk (Kd.R_lower (Kd.R_new' ho15 (Kd.R_lt (by (with_reducible repeat (first | apply Kd.R_alloc | apply Kd.R_drewN | apply Kd.R_drew)); exact HO437.out))) (below_size (by repeat (first | (with_reducible first | exact HB.out | apply below_alloc | apply pw_below_drewN | apply below_drew1) | exact HB.out)))); have n2_ := Aside0.mk (below_step (by repeat (first | (with_reducible first | exact HB.out | apply below_alloc | apply pw_below_drewN | apply below_drew1) | exact HB.out)) hb); clear HO437; clear HB; have HO437 := n0_; have HO442 := n1_; have HB := n2_; clear n0_ n1_ n2_; clear hb ho15; obtain ⟨Ao16, co16, eo16⟩ := Kd.R_slice HO442.out; subst eo16) | (go_at_call 39; (with_reducible refine (impl_Levenshtein.calls k _ _ y440 t443 _ ?side1 ?side2 A8.out).mono ?_); (case side1 => repeat (first | exact (Kd.R_reads' HO442.out).2.2 | (with_reducible refine Kd.C_alloc ?_ _) | (with_reducible refine Kd.C_drewN ?_ _) | (with_reducible refine Kd.C_drew ?_))); (case side2 => exact (Kd.R_reads' HO442.out).2.1); rintro e w17 ⟨rfl, hb⟩; have n0_ := Aside0.mk (Kd.R_below (by (with_reducible repeat (first | apply Kd.R_alloc | apply Kd.R_drewN | apply Kd.R_drew)); exact HO437.out) hb); have n1_ := Aside0.mk (Kd.R_below (by (with_reducible repeat (first | apply Kd.R_alloc | apply Kd.R_drewN | apply Kd.R_drew)); exact HO442.out) hb); have n2_ := Aside0.mk (below_step (by repeat (first | (with_reducible first | exact HB.out | apply below_alloc | apply pw_below_drewN | apply below_drew1) | exact HB.out)) hb); clear HO437; clear HO442; clear HB; have HO437 := n0_; have HO442 := n1_; have HB := n2_; clear n0_ n1_ n2_; (try clear hb); (try clear hb2); (try clear hk); (try clear hi)))
      go_ret
      exact ⟨by first | rfl | (simp [errW_none, errW_some] <;> rfl) | (simp [*, errW_none, errW_some] <;> rfl), by repeat (first | (with_reducible first | exact HB.out | apply below_alloc | apply pw_below_drewN | apply below_drew1) | exact HB.out)⟩
    · rw [if_neg c7] at H
      have c7b0 : (t438 == t439) = false := beq_eq_false_iff_ne.mpr c7
      have c7b1 : (t438 != t439) = true := bne_iff_ne.mpr c7
      obtain rfl := Option.some.inj H
      go_enter Try.func13, Try.ntmps13
      go_wp2_with (first | ((with_reducible refine gate_callee (f := 34) rfl ?_); refine goesL_ (some 4) rfl rfl Try.func34 (by kernel_rfl) rfl #[.slice A0 l0.length c0] rfl (by (try simp only [List.map_toArray, List.map_cons, List.map_nil]); first | done | rfl | (simp only [List.length_drop, List.length_take]; rfl)) ?_; (with_reducible refine (laws_zzFits1.calls k _ _ l0 true _ ?side1 ?side2 A2.out).mono ?_); (case side1 => repeat (first | exact HR0.out | (with_reducible refine Kd.C_alloc ?_ _) | (with_reducible refine Kd.C_drewN ?_ _) | (with_reducible refine Kd.C_drew ?_))); (case side2 => exact HC0.out); rintro e w18 ⟨rfl, hb⟩; refine ⟨_, rfl, ?_⟩; have n0_ := Aside0.mk (below_step (by repeat (first | (with_reducible first | exact HB.out | apply below_alloc | apply pw_below_drewN | apply below_drew1) | exact HB.out)) hb); clear HB; have HB := n0_; clear n0_; (try clear hb); (try clear hb2); (try clear hk); (try clear hi)) | ((with_reducible refine gate_callee (f := 35) rfl ?_); refine goesL_ (some 7) rfl rfl Try.func35 (by kernel_rfl) rfl #[.slice A0 l0.length c0, .int .i64 20] rfl (by (try simp only [List.map_toArray, List.map_cons, List.map_nil]); first | done | rfl | (simp only [List.length_drop, List.length_take]; rfl)) ?_; (with_reducible refine (spec_Parted.calls k _ _ l0 20 t435 _ ?side1 ?side2 A4.out).mono ?_); (case side1 => repeat (first | exact (Kd.C_below HR0.out HB.out) | (with_reducible refine Kd.C_alloc ?_ _) | (with_reducible refine Kd.C_drewN ?_ _) | (with_reducible refine Kd.C_drew ?_))); (case side2 => exact HC0.out); rintro e w19 ⟨v436, rfl, ho0, hb⟩; refine ⟨_, rfl, ?_⟩; have n0_ := Aside0.mk (Kd.R_lower ho0 (below_size (by repeat (first | (with_reducible first | exact HB.out | apply below_alloc | apply pw_below_drewN | apply below_drew1) | exact HB.out)))); have n1_ := Aside0.mk (below_step (by repeat (first | (with_reducible first | exact HB.out | apply below_alloc | apply pw_below_drewN | apply below_drew1) | exact HB.out)) hb); clear HB; have HO437 := n0_; have HB := n1_; clear n0_ n1_; (try clear hb); (try clear hb2); (try clear hk); (try clear hi); (try clear ho0); obtain ⟨Ao20, co20, eo20⟩ := Kd.R_slice HO437.out; subst eo20) | ((with_reducible refine gate_callee (f := 39) rfl ?_); refine goesL_ (some 9) rfl rfl Try.func39 (by kernel_rfl) rfl #[.slice Ao20 t435.length co20] rfl (by (try simp only [List.map_toArray, List.map_cons, List.map_nil]); first | done | rfl | (simp only [List.length_drop, List.length_take]; rfl)) ?_; (with_reducible refine (impl_Levenshtein.calls k _ _ t435 t438 _ ?side1 ?side2 A5.out).mono ?_); (case side1 => repeat (first | exact (Kd.R_reads' HO437.out).2.2 | (with_reducible refine Kd.C_alloc ?_ _) | (with_reducible refine Kd.C_drewN ?_ _) | (with_reducible refine Kd.C_drew ?_))); (case side2 => exact (Kd.R_reads' HO437.out).2.1); rintro e w21 ⟨rfl, hb⟩; refine ⟨_, rfl, ?_⟩; have n0_ := Aside0.mk (Kd.R_below (by (with_reducible repeat (first | apply Kd.R_alloc | apply Kd.R_drewN | apply Kd.R_drew)); exact HO437.out) hb); have n1_ := Aside0.mk (below_step (by repeat (first | (with_reducible first | exact HB.out | apply below_alloc | apply pw_below_drewN | apply below_drew1) | exact HB.out)) hb); clear HO437; clear HB; have HO437 := n0_; have HB := n1_; clear n0_ n1_; (try clear hb); (try clear hb2); (try clear hk); (try clear hi)) | ((with_reducible refine gate_callee (f := 40) rfl ?_); refine goesL_ (some 11) rfl rfl Try.func40 (by kernel_rfl) rfl #[.slice Ao20 t435.length co20] rfl (by (try simp only [List.map_toArray, List.map_cons, List.map_nil]); first | done | rfl | (simp only [List.length_drop, List.length_take]; rfl)) ?_; (with_reducible refine (spec_Levenshtein.calls k _ _ t435 t439 _ ?side1 ?side2 A6.out).mono ?_); (case side1 => repeat (first | exact (Kd.R_reads' HO437.out).2.2 | (with_reducible refine Kd.C_alloc ?_ _) | (with_reducible refine Kd.C_drewN ?_ _) | (with_reducible refine Kd.C_drew ?_))); (case side2 => exact (Kd.R_reads' HO437.out).2.1); rintro e w22 ⟨rfl, hb⟩; refine ⟨_, rfl, ?_⟩; have n0_ := Aside0.mk (Kd.R_below (by (with_reducible repeat (first | apply Kd.R_alloc | apply Kd.R_drewN | apply Kd.R_drew)); exact HO437.out) hb); have n1_ := Aside0.mk (below_step (by repeat (first | (with_reducible first | exact HB.out | apply below_alloc | apply pw_below_drewN | apply below_drew1) | exact HB.out)) hb); clear HO437; clear HB; have HO437 := n0_; have HB := n1_; clear n0_ n1_; (try clear hb); (try clear hb2); (try clear hk); (try clear hi)))
      go_ret
      exact ⟨by first | rfl | (simp [errW_none, errW_some] <;> rfl) | (simp [*, errW_none, errW_some] <;> rfl), by repeat (first | (with_reducible first | exact HB.out | apply below_alloc | apply pw_below_drewN | apply below_drew1) | exact HB.out)⟩
  · replace c3 := Bool.eq_false_iff.mpr c3
    subst c3
    have H1 : (some true) = some r := by rw [if_neg (show ¬ (false = true) by decide)] at H; exact H
    clear H
    have H := H1
    clear H1
    obtain rfl := Option.some.inj H
    go_enter Try.func13, Try.ntmps13
    go_wp2_with (first | ((with_reducible refine gate_callee (f := 34) rfl ?_); refine goesL_ (some 4) rfl rfl Try.func34 (by kernel_rfl) rfl #[.slice A0 l0.length c0] rfl (by (try simp only [List.map_toArray, List.map_cons, List.map_nil]); first | done | rfl | (simp only [List.length_drop, List.length_take]; rfl)) ?_; (with_reducible refine (laws_zzFits1.calls k _ _ l0 false _ ?side1 ?side2 A2.out).mono ?_); (case side1 => repeat (first | exact HR0.out | (with_reducible refine Kd.C_alloc ?_ _) | (with_reducible refine Kd.C_drewN ?_ _) | (with_reducible refine Kd.C_drew ?_))); (case side2 => exact HC0.out); rintro e w23 ⟨rfl, hb⟩; refine ⟨_, rfl, ?_⟩; have n0_ := Aside0.mk (below_step (by repeat (first | (with_reducible first | exact HB.out | apply below_alloc | apply pw_below_drewN | apply below_drew1) | exact HB.out)) hb); clear HB; have HB := n0_; clear n0_; (try clear hb); (try clear hb2); (try clear hk); (try clear hi)))
    go_ret
    exact ⟨by first | rfl | (simp [errW_none, errW_some] <;> rfl) | (simp [*, errW_none, errW_some] <;> rfl), by repeat (first | (with_reducible first | exact HB.out | apply below_alloc | apply pw_below_drewN | apply below_drew1) | exact HB.out)⟩

/-- THE ONE PURE STATEMENT of laws_FnLevenshtein: yours. -/
def laws_FnLevenshtein.Pure : Prop := ∀ (l0 : List (S57)), l0.length ≤ maxLen → (∀ y_ ∈ l0, ((Lit.int .i64 y_.f0).wf = true ∧ y_.f1.size ≤ maxLen)) → ∃ k, laws_FnLevenshtein.f k l0 = some true
theorem laws_FnLevenshtein.walk (P : laws_FnLevenshtein.Pure) (a0 : Option Addr) (len0 cap0 : Nat) (z0 : List (S57)) (w : World) (w0 : z0.length = len0 ∧ len0 ≤ cap0 ∧ len0 ≤ maxLen ∧ Kd.C k57 w a0 len0 z0 ∧ ∀ y_ ∈ z0, ((Lit.int .i64 y_.f0).wf = true ∧ y_.f1.size ≤ maxLen)) :
    Calls Try.prog 13 #[.slice a0 len0 cap0] w fun e w' => e = .returned (.bool true) ∧ Below w.heap.size w w' := by
  obtain ⟨rfl, hc0, hm0, hr0, hw0⟩ := w0
  obtain ⟨k, h⟩ := P z0 hm0 hw0
  refine (laws_FnLevenshtein.calls k _ _ z0 true w hr0 hc0 h).mono ?_
  rintro e w' ⟨rfl, hd⟩
  exact ⟨rfl, hd⟩

end Go.Proofs.Ytomidomdomjkfaa.PT
