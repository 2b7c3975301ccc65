-- Written by this session's own program (wip/tools) out of the translation.
import Derived.Test.YtomidomdomjkfaaPTx0
import Derived.Test.YtomidomdomjkfaaPTx64
import Derived.Test.YtomidomdomjkfaaPTx65
import Derived.Test.YtomidomdomjkfaaPTx66
import Derived.Test.YtomidomdomjkfaaPTx70
import Derived.Test.YtomidomdomjkfaaPTx71
namespace Go.Proofs.Ytomidomdomjkfaa.PT
open Go.RowKit Go.Proofs.YtomidomdomjkfaaW.PrintWords Go.Proofs.YtomidomdomjkfaaW.PrintLast Go.Proofs.YtomidomdomjkfaaW.PrintMore
attribute [local go_sem] max2_int min2_int max_two min_two max_three min_three max_four min_four   -- for this text's walks alone
set_option linter.unusedVariables false
set_option linter.unusedSimpArgs false

/-! ### laws_FnIndex: function 12 -/
def laws_FnIndex.f (k : Nat) (l0 : List (S57)) (a1 : Int) : Option (Bool) := (laws_zzFits1.f k l0).bind fun t393 => (if t393 = true then ((spec_Parted.f k l0 20).bind fun t394 => ((spec_Source.f k t394).bind fun t397 => (if (IntKind.u64.wrap (wrap64 ((t397.size : Int) + 10))) = 0 then (none) else ((impl_XIndex.f k t394 (wrap64 (Int.tmod (IntKind.u64.wrap (a1)) (IntKind.u64.wrap (wrap64 ((t397.size : Int) + 10)))))).bind fun t398 => ((spec_Index.f k t394 (wrap64 (Int.tmod (IntKind.u64.wrap (a1)) (IntKind.u64.wrap (wrap64 ((t397.size : Int) + 10)))))).bind fun t399 => (if t398 = t399 then ((impl_XIndex.f k (([(⟨1, (⟨#[97, 98]⟩ : ByteArray)⟩ : S57)] : List (S57))) 0).bind fun t403 => (some (t403 == 2))) else (some false))))))) else (some true))
theorem laws_FnIndex.mono : ∀ a0 a1 k, LeO (laws_FnIndex.f k a0 a1) (laws_FnIndex.f (k + 1) a0 a1) := by
  intro a0 a1 k
  unfold laws_FnIndex.f
  repeat' first
      | (with_reducible exact impl_XIndex.mono _ _ _)
      | (with_reducible exact laws_zzFits1.mono _ _)
      | (with_reducible exact spec_Index.mono _ _ _)
      | (with_reducible exact spec_Parted.mono _ _ _)
      | (with_reducible exact spec_Source.mono _ _)
      | (with_reducible exact LeO.refl _)
      | (with_reducible exact LeO.none _)
      | (with_reducible refine LeO.ite ?_ ?_)
      | (with_reducible refine LeO.bind ?_ (fun _ => ?_))
      | exact impl_XIndex.mono _ _ _
      | exact laws_zzFits1.mono _ _
      | exact spec_Index.mono _ _ _
      | exact spec_Parted.mono _ _ _
      | exact spec_Source.mono _ _
      | exact LeO.none _
      | refine LeO.ite ?_ ?_
      | refine LeO.bind ?_ (fun _ => ?_)
set_option maxHeartbeats 8000000 in
set_option maxRecDepth 100000 in
theorem laws_FnIndex.calls (k : Nat) (A0 : Option Addr) (c0 : Nat) (l0 : List (S57)) (a1 : Int) (r : Bool) (w : World) (hr0 : Kd.C k57 w A0 l0.length l0) (hc0 : l0.length ≤ c0) (h : laws_FnIndex.f k l0 a1 = some r) :
    Calls Try.prog 12 #[.slice A0 l0.length c0, .int .i64 a1] w fun e w' => e = .returned (.bool r) ∧ Below w.heap.size w w' := by
  have hu57 := Try.underlying57
  have HR0 := Aside0.mk hr0
  have HC0 := Aside0.mk hc0
  clear hr0 hc0
  have HB := Aside0.mk (Below.refl w.heap.size w)
  have H : ((laws_zzFits1.f k l0).bind fun t393 => (if t393 = true then ((spec_Parted.f k l0 20).bind fun t394 => ((spec_Source.f k t394).bind fun t397 => (if (IntKind.u64.wrap (wrap64 ((t397.size : Int) + 10))) = 0 then (none) else ((impl_XIndex.f k t394 (wrap64 (Int.tmod (IntKind.u64.wrap (a1)) (IntKind.u64.wrap (wrap64 ((t397.size : Int) + 10)))))).bind fun t398 => ((spec_Index.f k t394 (wrap64 (Int.tmod (IntKind.u64.wrap (a1)) (IntKind.u64.wrap (wrap64 ((t397.size : Int) + 10)))))).bind fun t399 => (if t398 = t399 then ((impl_XIndex.f k (([(⟨1, (⟨#[97, 98]⟩ : ByteArray)⟩ : S57)] : List (S57))) 0).bind fun t403 => (some (t403 == 2))) else (some false))))))) else (some true))) = some r := h
  clear h
  replace H := Option.bind_eq_some_iff.mp H
  obtain ⟨t393, A30, H⟩ := H
  replace H : (if t393 = true then ((spec_Parted.f k l0 20).bind fun t394 => ((spec_Source.f k t394).bind fun t397 => (if (IntKind.u64.wrap (wrap64 ((t397.size : Int) + 10))) = 0 then (none) else ((impl_XIndex.f k t394 (wrap64 (Int.tmod (IntKind.u64.wrap (a1)) (IntKind.u64.wrap (wrap64 ((t397.size : Int) + 10)))))).bind fun t398 => ((spec_Index.f k t394 (wrap64 (Int.tmod (IntKind.u64.wrap (a1)) (IntKind.u64.wrap (wrap64 ((t397.size : Int) + 10)))))).bind fun t399 => (if t398 = t399 then ((impl_XIndex.f k (([(⟨1, (⟨#[97, 98]⟩ : ByteArray)⟩ : S57)] : List (S57))) 0).bind fun t403 => (some (t403 == 2))) else (some false))))))) else (some true)) = some r := H
  have A3 := Aside0.mk A30
  clear A30
  by_cases c4 : t393 = true
  · subst c4
    have H1 : ((spec_Parted.f k l0 20).bind fun t394 => ((spec_Source.f k t394).bind fun t397 => (if (IntKind.u64.wrap (wrap64 ((t397.size : Int) + 10))) = 0 then (none) else ((impl_XIndex.f k t394 (wrap64 (Int.tmod (IntKind.u64.wrap (a1)) (IntKind.u64.wrap (wrap64 ((t397.size : Int) + 10)))))).bind fun t398 => ((spec_Index.f k t394 (wrap64 (Int.tmod (IntKind.u64.wrap (a1)) (IntKind.u64.wrap (wrap64 ((t397.size : Int) + 10)))))).bind fun t399 => (if t398 = t399 then ((impl_XIndex.f k (([(⟨1, (⟨#[97, 98]⟩ : ByteArray)⟩ : S57)] : List (S57))) 0).bind fun t403 => (some (t403 == 2))) else (some false))))))) = some r := by rw [if_pos rfl] at H; exact H
    clear H
    have H := H1
    clear H1
    replace H := Option.bind_eq_some_iff.mp H
    obtain ⟨t394, A50, H⟩ := H
    replace H : ((spec_Source.f k t394).bind fun t397 => (if (IntKind.u64.wrap (wrap64 ((t397.size : Int) + 10))) = 0 then (none) else ((impl_XIndex.f k t394 (wrap64 (Int.tmod (IntKind.u64.wrap (a1)) (IntKind.u64.wrap (wrap64 ((t397.size : Int) + 10)))))).bind fun t398 => ((spec_Index.f k t394 (wrap64 (Int.tmod (IntKind.u64.wrap (a1)) (IntKind.u64.wrap (wrap64 ((t397.size : Int) + 10)))))).bind fun t399 => (if t398 = t399 then ((impl_XIndex.f k (([(⟨1, (⟨#[97, 98]⟩ : ByteArray)⟩ : S57)] : List (S57))) 0).bind fun t403 => (some (t403 == 2))) else (some false)))))) = some r := H
    have A5 := Aside0.mk A50
    clear A50
    replace H := Option.bind_eq_some_iff.mp H
    obtain ⟨t397, A60, H⟩ := H
    replace H : (if (IntKind.u64.wrap (wrap64 ((t397.size : Int) + 10))) = 0 then (none) else ((impl_XIndex.f k t394 (wrap64 (Int.tmod (IntKind.u64.wrap (a1)) (IntKind.u64.wrap (wrap64 ((t397.size : Int) + 10)))))).bind fun t398 => ((spec_Index.f k t394 (wrap64 (Int.tmod (IntKind.u64.wrap (a1)) (IntKind.u64.wrap (wrap64 ((t397.size : Int) + 10)))))).bind fun t399 => (if t398 = t399 then ((impl_XIndex.f k (([(⟨1, (⟨#[97, 98]⟩ : ByteArray)⟩ : S57)] : List (S57))) 0).bind fun t403 => (some (t403 == 2))) else (some false))))) = some r := H
    have A6 := Aside0.mk A60
    clear A60
    by_cases c7 : (IntKind.u64.wrap (wrap64 ((t397.size : Int) + 10))) = 0
    · rw [if_pos c7] at H
      exact absurd H (by simp)
    · rw [if_neg c7] at H
      have c7b0 : ((IntKind.u64.wrap (wrap64 ((t397.size : Int) + 10))) == 0) = false := beq_eq_false_iff_ne.mpr c7
      have c7b1 : ((IntKind.u64.wrap (wrap64 ((t397.size : Int) + 10))) != 0) = true := bne_iff_ne.mpr c7
      replace H := Option.bind_eq_some_iff.mp H
      obtain ⟨t398, A80, H⟩ := H
      replace H : ((spec_Index.f k t394 (wrap64 (Int.tmod (IntKind.u64.wrap (a1)) (IntKind.u64.wrap (wrap64 ((t397.size : Int) + 10)))))).bind fun t399 => (if t398 = t399 then ((impl_XIndex.f k (([(⟨1, (⟨#[97, 98]⟩ : ByteArray)⟩ : S57)] : List (S57))) 0).bind fun t403 => (some (t403 == 2))) else (some false))) = some r := H
      have A8 := Aside0.mk A80
      clear A80
      replace H := Option.bind_eq_some_iff.mp H
      obtain ⟨t399, A90, H⟩ := H
      replace H : (if t398 = t399 then ((impl_XIndex.f k (([(⟨1, (⟨#[97, 98]⟩ : ByteArray)⟩ : S57)] : List (S57))) 0).bind fun t403 => (some (t403 == 2))) else (some false)) = some r := H
      have A9 := Aside0.mk A90
      clear A90
      by_cases c10 : t398 = t399
      · rw [if_pos c10] at H
        have c10b0 : (t398 == t399) = true := beq_iff_eq.mpr c10
        have c10b1 : (t398 != t399) = false := bne_eq_false_iff_eq.mpr c10
        clear c10
        obtain ⟨y400, hy400⟩ : ∃ y_ : List (S57), y_ = (([(⟨1, (⟨#[97, 98]⟩ : ByteArray)⟩ : S57)] : List (S57))) := ⟨_, rfl⟩
        replace H : ((impl_XIndex.f k y400 0).bind fun t403 => (some (t403 == 2))) = some r := by first | (rw [hy400]; with_reducible exact H) | (have H2_ := (Option.bind_some _ _).symm.trans H; rw [hy400]; with_reducible exact H2_) | (have H2_ := (Option.bind_some _ _).symm.trans H; with_reducible exact H2_) | with_reducible exact H | (rw [hy400]; exact H) | exact H
        have Ny400 := Aside0.mk hy400
        clear hy400
        replace H := Option.bind_eq_some_iff.mp H
        obtain ⟨t403, A110, H⟩ := H
        replace H : (some (t403 == 2)) = some r := H
        have A11 := Aside0.mk A110
        clear A110
        obtain rfl := Option.some.inj H
        go_enter Try.func12, Try.ntmps12
        go_wp2_with (first | ((with_reducible refine gate_callee (f := 34) rfl ?_); refine goesL_ (some 6) rfl rfl Try.func34 (by kernel_rfl) rfl #[.slice A0 l0.length c0] rfl (by (try simp only [List.map_toArray, List.map_cons, List.map_nil]); first | done | rfl | (simp only [List.length_drop, List.length_take]; rfl)) ?_; (with_reducible refine (laws_zzFits1.calls k _ _ l0 true _ ?side1 ?side2 A3.out).mono ?_); (case side1 => repeat (first | exact HR0.out | (with_reducible refine Kd.C_alloc ?_ _) | (with_reducible refine Kd.C_drewN ?_ _) | (with_reducible refine Kd.C_drew ?_))); (case side2 => exact HC0.out); rintro e w12 ⟨rfl, hb⟩; refine ⟨_, rfl, ?_⟩; have n0_ := Aside0.mk (below_step (by repeat (first | (with_reducible first | exact HB.out | apply below_alloc | apply pw_below_drewN | apply below_drew1) | exact HB.out)) hb); clear HB; have HB := n0_; clear n0_; (try clear hb); (try clear hb2); (try clear hk); (try clear hi)) | ((with_reducible refine gate_callee (f := 35) rfl ?_); refine goesL_ (some 9) rfl rfl Try.func35 (by kernel_rfl) rfl #[.slice A0 l0.length c0, .int .i64 20] rfl (by (try simp only [List.map_toArray, List.map_cons, List.map_nil]); first | done | rfl | (simp only [List.length_drop, List.length_take]; rfl)) ?_; (with_reducible refine (spec_Parted.calls k _ _ l0 20 t394 _ ?side1 ?side2 A5.out).mono ?_); (case side1 => repeat (first | exact (Kd.C_below HR0.out HB.out) | (with_reducible refine Kd.C_alloc ?_ _) | (with_reducible refine Kd.C_drewN ?_ _) | (with_reducible refine Kd.C_drew ?_))); (case side2 => exact HC0.out); rintro e w13 ⟨v395, rfl, ho0, hb⟩; refine ⟨_, rfl, ?_⟩; have n0_ := Aside0.mk (Kd.R_lower ho0 (below_size (by repeat (first | (with_reducible first | exact HB.out | apply below_alloc | apply pw_below_drewN | apply below_drew1) | exact HB.out)))); have n1_ := Aside0.mk (below_step (by repeat (first | (with_reducible first | exact HB.out | apply below_alloc | apply pw_below_drewN | apply below_drew1) | exact HB.out)) hb); clear HB; have HO396 := n0_; have HB := n1_; clear n0_ n1_; (try clear hb); (try clear hb2); (try clear hk); (try clear hi); (try clear ho0); obtain ⟨Ao14, co14, eo14⟩ := Kd.R_slice HO396.out; subst eo14) | ((with_reducible refine gate_callee (f := 36) rfl ?_); refine goesL_ (some 13) rfl rfl Try.func36 (by kernel_rfl) rfl #[.slice Ao14 t394.length co14] rfl (by (try simp only [List.map_toArray, List.map_cons, List.map_nil]); first | done | rfl | (simp only [List.length_drop, List.length_take]; rfl)) ?_; (with_reducible refine (spec_Source.calls k _ _ t394 t397 _ ?side1 ?side2 A6.out).mono ?_); (case side1 => repeat (first | exact (Kd.R_reads' HO396.out).2.2 | (with_reducible refine Kd.C_alloc ?_ _) | (with_reducible refine Kd.C_drewN ?_ _) | (with_reducible refine Kd.C_drew ?_))); (case side2 => exact (Kd.R_reads' HO396.out).2.1); rintro e w15 ⟨rfl, hb⟩; refine ⟨_, rfl, ?_⟩; have n0_ := Aside0.mk (Kd.R_below (by (with_reducible repeat (first | apply Kd.R_alloc | apply Kd.R_drewN | apply Kd.R_drew)); exact HO396.out) hb); have n1_ := Aside0.mk (below_step (by repeat (first | (with_reducible first | exact HB.out | apply below_alloc | apply pw_below_drewN | apply below_drew1) | exact HB.out)) hb); clear HO396; clear HB; have HO396 := n0_; have HB := n1_; clear n0_ n1_; (try clear hb); (try clear hb2); (try clear hk); (try clear hi)) | ((with_reducible refine gate_callee (f := 37) rfl ?_); refine goesL_ (some 21) rfl rfl Try.func37 (by kernel_rfl) rfl #[.slice Ao14 t394.length co14, .int .i64 (wrap64 (Int.tmod (IntKind.u64.wrap (a1)) (IntKind.u64.wrap (wrap64 ((t397.size : Int) + 10)))))] rfl (by (try simp only [List.map_toArray, List.map_cons, List.map_nil]); first | done | rfl | (simp only [List.length_drop, List.length_take]; rfl)) ?_; (with_reducible refine (impl_XIndex.calls k _ _ t394 (wrap64 (Int.tmod (IntKind.u64.wrap (a1)) (IntKind.u64.wrap (wrap64 ((t397.size : Int) + 10))))) t398 _ ?side1 ?side2 A8.out).mono ?_); (case side1 => repeat (first | exact (Kd.R_reads' HO396.out).2.2 | (with_reducible refine Kd.C_alloc ?_ _) | (with_reducible refine Kd.C_drewN ?_ _) | (with_reducible refine Kd.C_drew ?_))); (case side2 => exact (Kd.R_reads' HO396.out).2.1); rintro e w16 ⟨rfl, hb⟩; refine ⟨_, rfl, ?_⟩; have n0_ := Aside0.mk (Kd.R_below (by (with_reducible repeat (first | apply Kd.R_alloc | apply Kd.R_drewN | apply Kd.R_drew)); exact HO396.out) hb); have n1_ := Aside0.mk (below_step (by repeat (first | (with_reducible first | exact HB.out | apply below_alloc | apply pw_below_drewN | apply below_drew1) | exact HB.out)) hb); clear HO396; clear HB; have HO396 := n0_; have HB := n1_; clear n0_ n1_; (try clear hb); (try clear hb2); (try clear hk); (try clear hi)) | ((with_reducible refine gate_callee (f := 38) rfl ?_); refine goesL_ (some 24) rfl rfl Try.func38 (by kernel_rfl) rfl #[.slice Ao14 t394.length co14, .int .i64 (wrap64 (Int.tmod (IntKind.u64.wrap (a1)) (IntKind.u64.wrap (wrap64 ((t397.size : Int) + 10)))))] rfl (by (try simp only [List.map_toArray, List.map_cons, List.map_nil]); first | done | rfl | (simp only [List.length_drop, List.length_take]; rfl)) ?_; (with_reducible refine (spec_Index.calls k _ _ t394 (wrap64 (Int.tmod (IntKind.u64.wrap (a1)) (IntKind.u64.wrap (wrap64 ((t397.size : Int) + 10))))) t399 _ ?side1 ?side2 A9.out).mono ?_); (case side1 => repeat (first | exact (Kd.R_reads' HO396.out).2.2 | (with_reducible refine Kd.C_alloc ?_ _) | (with_reducible refine Kd.C_drewN ?_ _) | (with_reducible refine Kd.C_drew ?_))); (case side2 => exact (Kd.R_reads' HO396.out).2.1); rintro e w17 ⟨rfl, hb⟩; refine ⟨_, rfl, ?_⟩; have n0_ := Aside0.mk (Kd.R_below (by (with_reducible repeat (first | apply Kd.R_alloc | apply Kd.R_drewN | apply Kd.R_drew)); exact HO396.out) hb); have n1_ := Aside0.mk (below_step (by repeat (first | (with_reducible first | exact HB.out | apply below_alloc | apply pw_below_drewN | apply below_drew1) | exact HB.out)) hb); clear HO396; clear HB; have HO396 := n0_; have HB := n1_; clear n0_ n1_; (try clear hb); (try clear hb2); (try clear hk); (try clear hi)) | ((with_reducible refine gate_dst (N := 28) rfl ?_); (try (refine gate_guard (by rfl) ?_; dsimp only)); refine Kd.R_lit k57 _ 57 ?hg (N := 28) ?hd (xs := ([(⟨1, (⟨#[97, 98]⟩ : ByteArray)⟩ : S57)] : List (S57))) (inner := [.int .i64 1, .string (⟨#[97, 98]⟩ : ByteArray)]) (ok := fun _ => True) (okp := fun _ => True) ?hr ?hp (fun _ hk => hk) trivial (Below.refl _ _) (Nat.le_refl _) (by simp) ?_; (case hd => rfl); (case hg => rfl); (case hr => first | (go_simp; done) | (go_simp; rfl)); (case hp => exact (Reps.c2 (show Kd.M k57 _ _ _ (⟨1, (⟨#[97, 98]⟩ : ByteArray)⟩ : S57) [.int .i64 1, .string (⟨#[97, 98]⟩ : ByteArray)] from (k57_mkM _ _ _ (⟨1, (⟨#[97, 98]⟩ : ByteArray)⟩ : S57) )) (Reps.none _ _))); intro v401 w18 ho19 hb hg_ hnew_; clear hg_ hnew_; (first | rw [← Ny400.out] at ho19 | (simp only [Int.reduceToNat] at ho19; rw [← Ny400.out] at ho19)); have n0_ := Aside0.mk (Kd.R_elder' (by (with_reducible repeat (first | apply Kd.R_alloc | apply Kd.R_drewN | apply Kd.R_drew)); exact HO396.out) (Kd.R_base ho19) hb); have n1_ := Aside0.mk (Kd.R_lower (Kd.R_new' ho19 (Kd.R_lt (by (with_reducible repeat (first | apply Kd.R_alloc | apply Kd.R_drewN | apply Kd.R_drew)); exact HO396.out))) (below_size (by repeat (first | (with_reducible first | exact HB.out | apply below_alloc | apply pw_below_drewN | apply below_drew1) | exact HB.out)))); have n2_ := Aside0.mk (below_step (by repeat (first | (with_reducible first | exact HB.out | apply below_alloc | apply pw_below_drewN | apply below_drew1) | exact HB.out)) hb); clear HO396; clear HB; have HO396 := n0_; have HO402 := n1_; have HB := n2_; clear n0_ n1_ n2_; clear hb ho19; obtain ⟨Ao20, co20, eo20⟩ := Kd.R_slice HO402.out; subst eo20) | (go_at_call 37; (with_reducible refine (impl_XIndex.calls k _ _ y400 0 t403 _ ?side1 ?side2 A11.out).mono ?_); (case side1 => repeat (first | exact (Kd.R_reads' HO402.out).2.2 | (with_reducible refine Kd.C_alloc ?_ _) | (with_reducible refine Kd.C_drewN ?_ _) | (with_reducible refine Kd.C_drew ?_))); (case side2 => exact (Kd.R_reads' HO402.out).2.1); rintro e w21 ⟨rfl, hb⟩; have n0_ := Aside0.mk (Kd.R_below (by (with_reducible repeat (first | apply Kd.R_alloc | apply Kd.R_drewN | apply Kd.R_drew)); exact HO396.out) hb); have n1_ := Aside0.mk (Kd.R_below (by (with_reducible repeat (first | apply Kd.R_alloc | apply Kd.R_drewN | apply Kd.R_drew)); exact HO402.out) hb); have n2_ := Aside0.mk (below_step (by repeat (first | (with_reducible first | exact HB.out | apply below_alloc | apply pw_below_drewN | apply below_drew1) | exact HB.out)) hb); clear HO396; clear HO402; clear HB; have HO396 := n0_; have HO402 := n1_; have HB := n2_; clear n0_ n1_ n2_; (try clear hb); (try clear hb2); (try clear hk); (try clear hi)))
        go_ret
        exact ⟨by first | rfl | (simp [errW_none, errW_some] <;> rfl) | (simp [*, errW_none, errW_some] <;> rfl), by repeat (first | (with_reducible first | exact HB.out | apply below_alloc | apply pw_below_drewN | apply below_drew1) | exact HB.out)⟩
      · rw [if_neg c10] at H
        have c10b0 : (t398 == t399) = false := beq_eq_false_iff_ne.mpr c10
        have c10b1 : (t398 != t399) = true := bne_iff_ne.mpr c10
        obtain rfl := Option.some.inj H
        go_enter Try.func12, Try.ntmps12
        go_wp2_with (first | ((with_reducible refine gate_callee (f := 34) rfl ?_); refine goesL_ (some 6) rfl rfl Try.func34 (by kernel_rfl) rfl #[.slice A0 l0.length c0] rfl (by (try simp only [List.map_toArray, List.map_cons, List.map_nil]); first | done | rfl | (simp only [List.length_drop, List.length_take]; rfl)) ?_; (with_reducible refine (laws_zzFits1.calls k _ _ l0 true _ ?side1 ?side2 A3.out).mono ?_); (case side1 => repeat (first | exact HR0.out | (with_reducible refine Kd.C_alloc ?_ _) | (with_reducible refine Kd.C_drewN ?_ _) | (with_reducible refine Kd.C_drew ?_))); (case side2 => exact HC0.out); rintro e w22 ⟨rfl, hb⟩; refine ⟨_, rfl, ?_⟩; have n0_ := Aside0.mk (below_step (by repeat (first | (with_reducible first | exact HB.out | apply below_alloc | apply pw_below_drewN | apply below_drew1) | exact HB.out)) hb); clear HB; have HB := n0_; clear n0_; (try clear hb); (try clear hb2); (try clear hk); (try clear hi)) | ((with_reducible refine gate_callee (f := 35) rfl ?_); refine goesL_ (some 9) rfl rfl Try.func35 (by kernel_rfl) rfl #[.slice A0 l0.length c0, .int .i64 20] rfl (by (try simp only [List.map_toArray, List.map_cons, List.map_nil]); first | done | rfl | (simp only [List.length_drop, List.length_take]; rfl)) ?_; (with_reducible refine (spec_Parted.calls k _ _ l0 20 t394 _ ?side1 ?side2 A5.out).mono ?_); (case side1 => repeat (first | exact (Kd.C_below HR0.out HB.out) | (with_reducible refine Kd.C_alloc ?_ _) | (with_reducible refine Kd.C_drewN ?_ _) | (with_reducible refine Kd.C_drew ?_))); (case side2 => exact HC0.out); rintro e w23 ⟨v395, rfl, ho0, hb⟩; refine ⟨_, rfl, ?_⟩; have n0_ := Aside0.mk (Kd.R_lower ho0 (below_size (by repeat (first | (with_reducible first | exact HB.out | apply below_alloc | apply pw_below_drewN | apply below_drew1) | exact HB.out)))); have n1_ := Aside0.mk (below_step (by repeat (first | (with_reducible first | exact HB.out | apply below_alloc | apply pw_below_drewN | apply below_drew1) | exact HB.out)) hb); clear HB; have HO396 := n0_; have HB := n1_; clear n0_ n1_; (try clear hb); (try clear hb2); (try clear hk); (try clear hi); (try clear ho0); obtain ⟨Ao24, co24, eo24⟩ := Kd.R_slice HO396.out; subst eo24) | ((with_reducible refine gate_callee (f := 36) rfl ?_); refine goesL_ (some 13) rfl rfl Try.func36 (by kernel_rfl) rfl #[.slice Ao24 t394.length co24] rfl (by (try simp only [List.map_toArray, List.map_cons, List.map_nil]); first | done | rfl | (simp only [List.length_drop, List.length_take]; rfl)) ?_; (with_reducible refine (spec_Source.calls k _ _ t394 t397 _ ?side1 ?side2 A6.out).mono ?_); (case side1 => repeat (first | exact (Kd.R_reads' HO396.out).2.2 | (with_reducible refine Kd.C_alloc ?_ _) | (with_reducible refine Kd.C_drewN ?_ _) | (with_reducible refine Kd.C_drew ?_))); (case side2 => exact (Kd.R_reads' HO396.out).2.1); rintro e w25 ⟨rfl, hb⟩; refine ⟨_, rfl, ?_⟩; have n0_ := Aside0.mk (Kd.R_below (by (with_reducible repeat (first | apply Kd.R_alloc | apply Kd.R_drewN | apply Kd.R_drew)); exact HO396.out) hb); have n1_ := Aside0.mk (below_step (by repeat (first | (with_reducible first | exact HB.out | apply below_alloc | apply pw_below_drewN | apply below_drew1) | exact HB.out)) hb); clear HO396; clear HB; have HO396 := n0_; have HB := n1_; clear n0_ n1_; (try clear hb); (try clear hb2); (try clear hk); (try clear hi)) | ((with_reducible refine gate_callee (f := 37) rfl ?_); refine goesL_ (some 21) rfl rfl Try.func37 (by kernel_rfl) rfl #[.slice Ao24 t394.length co24, .int .i64 (wrap64 (Int.tmod (IntKind.u64.wrap (a1)) (IntKind.u64.wrap (wrap64 ((t397.size : Int) + 10)))))] rfl (by (try simp only [List.map_toArray, List.map_cons, List.map_nil]); first | done | rfl | (simp only [List.length_drop, List.length_take]; rfl)) ?_; (with_reducible refine (impl_XIndex.calls k _ _ t394 (wrap64 (Int.tmod (IntKind.u64.wrap (a1)) (IntKind.u64.wrap (wrap64 ((t397.size : Int) + 10))))) t398 _ ?side1 ?side2 A8.out).mono ?_); (case side1 => repeat (first | exact (Kd.R_reads' HO396.out).2.2 | (with_reducible refine Kd.C_alloc ?_ _) | (with_reducible refine Kd.C_drewN ?_ _) | (with_reducible refine Kd.C_drew ?_))); (case side2 => exact (Kd.R_reads' HO396.out).2.1); rintro e w26 ⟨rfl, hb⟩; refine ⟨_, rfl, ?_⟩; have n0_ := Aside0.mk (Kd.R_below (by (with_reducible repeat (first | apply Kd.R_alloc | apply Kd.R_drewN | apply Kd.R_drew)); exact HO396.out) hb); have n1_ := Aside0.mk (below_step (by repeat (first | (with_reducible first | exact HB.out | apply below_alloc | apply pw_below_drewN | apply below_drew1) | exact HB.out)) hb); clear HO396; clear HB; have HO396 := n0_; have HB := n1_; clear n0_ n1_; (try clear hb); (try clear hb2); (try clear hk); (try clear hi)) | ((with_reducible refine gate_callee (f := 38) rfl ?_); refine goesL_ (some 24) rfl rfl Try.func38 (by kernel_rfl) rfl #[.slice Ao24 t394.length co24, .int .i64 (wrap64 (Int.tmod (IntKind.u64.wrap (a1)) (IntKind.u64.wrap (wrap64 ((t397.size : Int) + 10)))))] rfl (by (try simp only [List.map_toArray, List.map_cons, List.map_nil]); first | done | rfl | (simp only [List.length_drop, List.length_take]; rfl)) ?_; (with_reducible refine (spec_Index.calls k _ _ t394 (wrap64 (Int.tmod (IntKind.u64.wrap (a1)) (IntKind.u64.wrap (wrap64 ((t397.size : Int) + 10))))) t399 _ ?side1 ?side2 A9.out).mono ?_); (case side1 => repeat (first | exact (Kd.R_reads' HO396.out).2.2 | (with_reducible refine Kd.C_alloc ?_ _) | (with_reducible refine Kd.C_drewN ?_ _) | (with_reducible refine Kd.C_drew ?_))); (case side2 => exact (Kd.R_reads' HO396.out).2.1); rintro e w27 ⟨rfl, hb⟩; refine ⟨_, rfl, ?_⟩; have n0_ := Aside0.mk (Kd.R_below (by (with_reducible repeat (first | apply Kd.R_alloc | apply Kd.R_drewN | apply Kd.R_drew)); exact HO396.out) hb); have n1_ := Aside0.mk (below_step (by repeat (first | (with_reducible first | exact HB.out | apply below_alloc | apply pw_below_drewN | apply below_drew1) | exact HB.out)) hb); clear HO396; clear HB; have HO396 := n0_; have HB := n1_; clear n0_ n1_; (try clear hb); (try clear hb2); (try clear hk); (try clear hi)))
        go_ret
        exact ⟨by first | rfl | (simp [errW_none, errW_some] <;> rfl) | (simp [*, errW_none, errW_some] <;> rfl), by repeat (first | (with_reducible first | exact HB.out | apply below_alloc | apply pw_below_drewN | apply below_drew1) | exact HB.out)⟩
  · replace c4 := Bool.eq_false_iff.mpr c4
    subst c4
    have H1 : (some true) = some r := by rw [if_neg (show ¬ (false = true) by decide)] at H; exact H
    clear H
    have H := H1
    clear H1
    obtain rfl := Option.some.inj H
    go_enter Try.func12, Try.ntmps12
    go_wp2_with (first | ((with_reducible refine gate_callee (f := 34) rfl ?_); refine goesL_ (some 6) rfl rfl Try.func34 (by kernel_rfl) rfl #[.slice A0 l0.length c0] rfl (by (try simp only [List.map_toArray, List.map_cons, List.map_nil]); first | done | rfl | (simp only [List.length_drop, List.length_take]; rfl)) ?_; (with_reducible refine (laws_zzFits1.calls k _ _ l0 false _ ?side1 ?side2 A3.out).mono ?_); (case side1 => repeat (first | exact HR0.out | (with_reducible refine Kd.C_alloc ?_ _) | (with_reducible refine Kd.C_drewN ?_ _) | (with_reducible refine Kd.C_drew ?_))); (case side2 => exact HC0.out); rintro e w28 ⟨rfl, hb⟩; refine ⟨_, rfl, ?_⟩; have n0_ := Aside0.mk (below_step (by repeat (first | (with_reducible first | exact HB.out | apply below_alloc | apply pw_below_drewN | apply below_drew1) | exact HB.out)) hb); clear HB; have HB := n0_; clear n0_; (try clear hb); (try clear hb2); (try clear hk); (try clear hi)))
    go_ret
    exact ⟨by first | rfl | (simp [errW_none, errW_some] <;> rfl) | (simp [*, errW_none, errW_some] <;> rfl), by repeat (first | (with_reducible first | exact HB.out | apply below_alloc | apply pw_below_drewN | apply below_drew1) | exact HB.out)⟩

/-- THE ONE PURE STATEMENT of laws_FnIndex: yours. -/
def laws_FnIndex.Pure : Prop := ∀ (l0 : List (S57)) (a1 : Int), l0.length ≤ maxLen → (∀ y_ ∈ l0, ((Lit.int .i64 y_.f0).wf = true ∧ y_.f1.size ≤ maxLen)) → (Lit.int .i64 a1).wf = true → ∃ k, laws_FnIndex.f k l0 a1 = some true
theorem laws_FnIndex.walk (P : laws_FnIndex.Pure) (a0 : Option Addr) (len0 cap0 : Nat) (z0 : List (S57)) (a1 : Int) (w : World) (w0 : z0.length = len0 ∧ len0 ≤ cap0 ∧ len0 ≤ maxLen ∧ Kd.C k57 w a0 len0 z0 ∧ ∀ y_ ∈ z0, ((Lit.int .i64 y_.f0).wf = true ∧ y_.f1.size ≤ maxLen)) (w1 : (Lit.int .i64 a1).wf = true) :
    Calls Try.prog 12 #[.slice a0 len0 cap0, .int .i64 a1] w fun e w' => e = .returned (.bool true) ∧ Below w.heap.size w w' := by
  obtain ⟨rfl, hc0, hm0, hr0, hw0⟩ := w0
  obtain ⟨k, h⟩ := P z0 a1 hm0 hw0 w1
  refine (laws_FnIndex.calls k _ _ z0 a1 true w hr0 hc0 h).mono ?_
  rintro e w' ⟨rfl, hd⟩
  exact ⟨rfl, hd⟩

end Go.Proofs.Ytomidomdomjkfaa.PT
