-- Written by this session's own program (wip/tools) out of the translation.
import Derived.Test.YtomidomdomjkfaaPTx0
import Derived.Test.YtomidomdomjkfaaPTx64
import Derived.Test.YtomidomdomjkfaaPTx65
import Derived.Test.YtomidomdomjkfaaPTx82
import Derived.Test.YtomidomdomjkfaaPTx83
namespace Go.Proofs.Ytomidomdomjkfaa.PT
open Go.RowKit Go.Proofs.YtomidomdomjkfaaW.PrintWords Go.Proofs.YtomidomdomjkfaaW.PrintLast Go.Proofs.YtomidomdomjkfaaW.PrintMore
attribute [local go_sem] max2_int min2_int max_two min_two max_three min_three max_four min_four   -- for this text's walks alone
set_option linter.unusedVariables false
set_option linter.unusedSimpArgs false

/-! ### laws_FnSplice: function 14 -/
def laws_FnSplice.j0 : Nat → List (S57) → Int → Int → List (S57) → Bool → Option (Bool)
  | 0, _, _, _, _, _ => none
  | k + 1, x0, x1, x2, x3, x23 => if x23 = true then (some true) else ((spec_Parted.f k x0 12).bind fun t470 => ((spec_Parted.f k x3 6).bind fun t473 => (if (IntKind.u64.wrap (wrap64 ((t470.length : Int) + 1))) = 0 then (none) else (if (IntKind.u64.wrap (wrap64 ((wrap64 ((t470.length : Int) - (wrap64 (Int.tmod (IntKind.u64.wrap (x1)) (IntKind.u64.wrap (wrap64 ((t470.length : Int) + 1))))))) + 1))) = 0 then (none) else (if 0 ≤ (wrap64 (Int.tmod (IntKind.u64.wrap (x1)) (IntKind.u64.wrap (wrap64 ((t470.length : Int) + 1))))) then (if (wrap64 (Int.tmod (IntKind.u64.wrap (x1)) (IntKind.u64.wrap (wrap64 ((t470.length : Int) + 1))))) ≤ (t470.length : Int) then ((some (t470.take ((wrap64 (Int.tmod (IntKind.u64.wrap (x1)) (IntKind.u64.wrap (wrap64 ((t470.length : Int) + 1))))) : Int).toNat : List (S57))).bind fun y476 => (if ([] : List (S57)).length + y476.length < 5864062014805 then ((some (([] : List (S57)) ++ y476 : List (S57))).bind fun y480 => (if y480.length + t473.length < 5864062014805 then ((some (y480 ++ t473 : List (S57))).bind fun y483 => (if 0 ≤ (wrap64 ((wrap64 (Int.tmod (IntKind.u64.wrap (x1)) (IntKind.u64.wrap (wrap64 ((t470.length : Int) + 1))))) + (wrap64 (Int.tmod (IntKind.u64.wrap (x2)) (IntKind.u64.wrap (wrap64 ((wrap64 ((t470.length : Int) - (wrap64 (Int.tmod (IntKind.u64.wrap (x1)) (IntKind.u64.wrap (wrap64 ((t470.length : Int) + 1))))))) + 1))))))) then (if (wrap64 ((wrap64 (Int.tmod (IntKind.u64.wrap (x1)) (IntKind.u64.wrap (wrap64 ((t470.length : Int) + 1))))) + (wrap64 (Int.tmod (IntKind.u64.wrap (x2)) (IntKind.u64.wrap (wrap64 ((wrap64 ((t470.length : Int) - (wrap64 (Int.tmod (IntKind.u64.wrap (x1)) (IntKind.u64.wrap (wrap64 ((t470.length : Int) + 1))))))) + 1))))))) ≤ (t470.length : Int) then ((some (t470.drop ((wrap64 ((wrap64 (Int.tmod (IntKind.u64.wrap (x1)) (IntKind.u64.wrap (wrap64 ((t470.length : Int) + 1))))) + (wrap64 (Int.tmod (IntKind.u64.wrap (x2)) (IntKind.u64.wrap (wrap64 ((wrap64 ((t470.length : Int) - (wrap64 (Int.tmod (IntKind.u64.wrap (x1)) (IntKind.u64.wrap (wrap64 ((t470.length : Int) + 1))))))) + 1))))))) : Int).toNat : List (S57))).bind fun y486 => (if y483.length + y486.length < 5864062014805 then ((impl_Splice.f k t470 (wrap64 (Int.tmod (IntKind.u64.wrap (x1)) (IntKind.u64.wrap (wrap64 ((t470.length : Int) + 1))))) (wrap64 (Int.tmod (IntKind.u64.wrap (x2)) (IntKind.u64.wrap (wrap64 ((wrap64 ((t470.length : Int) - (wrap64 (Int.tmod (IntKind.u64.wrap (x1)) (IntKind.u64.wrap (wrap64 ((t470.length : Int) + 1))))))) + 1))))) t473).bind fun bt493 => ((impl_Splice.f k ([] : List (S57)) 0 0 (([(⟨1, (⟨#[97]⟩ : ByteArray)⟩ : S57)] : List (S57)))).bind fun bt500 => (if bt493.2 = 0 then ((spec_SameParts.f k bt493.1 (y483 ++ y486)).bind fun t504 => (if t504 = true then (some ((bt500.1.length : Int) == 1)) else (some false))) else (some false)))) else (none))) else (none)) else (none))) else (none))) else (none))) else (none)) else (none))))))
def laws_FnSplice.f (k : Nat) (l0 : List (S57)) (a1 : Int) (a2 : Int) (l3 : List (S57)) : Option (Bool) := (laws_zzFits1.f k l0).bind fun t468 => (if t468 = true then ((laws_zzFits1.f k l3).bind fun t469 => (laws_FnSplice.j0 k l0 a1 a2 l3 (!t469))) else (laws_FnSplice.j0 k l0 a1 a2 l3 true))
theorem laws_FnSplice.mono_l : ∀ k, (∀ y0 y1 y2 y3 y4, LeO (laws_FnSplice.j0 k y0 y1 y2 y3 y4) (laws_FnSplice.j0 (k + 1) y0 y1 y2 y3 y4))
  | 0 => fun _ _ _ _ _ r h => by simp [laws_FnSplice.j0] at h
  | k + 1 => by
    have ih0 := laws_FnSplice.mono_l k
    · intro y0 y1 y2 y3 y4
      unfold laws_FnSplice.j0
      repeat' first
      | (with_reducible exact ih0 _ _ _ _ _)
      | (with_reducible exact impl_Splice.mono _ _ _ _ _)
      | (with_reducible exact laws_zzFits1.mono _ _)
      | (with_reducible exact spec_Parted.mono _ _ _)
      | (with_reducible exact spec_SameParts.mono _ _ _)
      | (with_reducible exact LeO.refl _)
      | (with_reducible exact LeO.none _)
      | (with_reducible refine LeO.ite ?_ ?_)
      | (with_reducible refine LeO.bind ?_ (fun _ => ?_))
      | exact ih0 _ _ _ _ _
      | exact impl_Splice.mono _ _ _ _ _
      | exact laws_zzFits1.mono _ _
      | exact spec_Parted.mono _ _ _
      | exact spec_SameParts.mono _ _ _
      | exact LeO.none _
      | refine LeO.ite ?_ ?_
      | refine LeO.bind ?_ (fun _ => ?_)
theorem laws_FnSplice.mono : ∀ a0 a1 a2 a3 k, LeO (laws_FnSplice.f k a0 a1 a2 a3) (laws_FnSplice.f (k + 1) a0 a1 a2 a3) := by
  intro a0 a1 a2 a3 k
  have ih0 := laws_FnSplice.mono_l k
  unfold laws_FnSplice.f
  repeat' first
      | (with_reducible exact ih0 _ _ _ _ _)
      | (with_reducible exact impl_Splice.mono _ _ _ _ _)
      | (with_reducible exact laws_zzFits1.mono _ _)
      | (with_reducible exact spec_Parted.mono _ _ _)
      | (with_reducible exact spec_SameParts.mono _ _ _)
      | (with_reducible exact LeO.refl _)
      | (with_reducible exact LeO.none _)
      | (with_reducible refine LeO.ite ?_ ?_)
      | (with_reducible refine LeO.bind ?_ (fun _ => ?_))
      | exact ih0 _ _ _ _ _
      | exact impl_Splice.mono _ _ _ _ _
      | exact laws_zzFits1.mono _ _
      | exact spec_Parted.mono _ _ _
      | exact spec_SameParts.mono _ _ _
      | exact LeO.none _
      | refine LeO.ite ?_ ?_
      | refine LeO.bind ?_ (fun _ => ?_)
def laws_FnSplice.T7 : Bool × List (List Nat × List Nat) := (true, [([], []), ([], []), ([], []), ([1, 2], [1, 2]), ([0, 3], [0, 3]), ([], []), ([4, 5, 4], [4, 5]), ([], []), ([], []), ([], []), ([8, 9], [8, 9]), ([7, 10], [7, 10]), ([6, 11, 6], [6, 11]), ([12, 12, 0, 1, 2, 3, 4, 5, 6, 7, 8, 9, 10, 11, 12], [0, 12])])
def laws_FnSplice.B7 : List Nat := [0, 0, 0, 6, 15, 0, 63, 0, 0, 0, 768, 1920, 4095, 8191]
theorem laws_FnSplice.tab7 : rtab .any (opsOf Try.f14 7) = laws_FnSplice.T7 := by kernel_rfl
theorem laws_FnSplice.bits7 : waitsOk laws_FnSplice.T7.2 laws_FnSplice.B7 = true := by kernel_rfl
set_option maxHeartbeats 8000000 in
set_option maxRecDepth 100000 in
theorem laws_FnSplice.calls (k : Nat) (A0 : Option Addr) (c0 : Nat) (l0 : List (S57)) (a1 : Int) (a2 : Int) (A3 : Option Addr) (c3 : Nat) (l3 : List (S57)) (r : Bool) (w : World) (hr0 : Kd.C k57 w A0 l0.length l0) (hc0 : l0.length ≤ c0) (hr3 : Kd.C k57 w A3 l3.length l3) (hc3 : l3.length ≤ c3) (h : laws_FnSplice.f k l0 a1 a2 l3 = some r) :
    Calls Try.prog 14 #[.slice A0 l0.length c0, .int .i64 a1, .int .i64 a2, .slice A3 l3.length c3] w fun e w' => e = .returned (.bool r) ∧ Below w.heap.size w w' := by
  have hu57 := Try.underlying57
  have HR0 := Aside0.mk hr0
  have HC0 := Aside0.mk hc0
  clear hr0 hc0
  have HR3 := Aside0.mk hr3
  have HC3 := Aside0.mk hc3
  clear hr3 hc3
  have HB := Aside0.mk (Below.refl w.heap.size w)
  have H : ((laws_zzFits1.f k l0).bind fun t468 => (if t468 = true then ((laws_zzFits1.f k l3).bind fun t469 => (laws_FnSplice.j0 k l0 a1 a2 l3 (!t469))) else (laws_FnSplice.j0 k l0 a1 a2 l3 true))) = some r := h
  clear h
  have HC5 := Aside0.mk H
  clear H
  go_enter Try.func14, Try.ntmps14
  go_upto_region 1 with (fail)
  go_cut [23] (fun v23 wc => ∃ (kq : Nat) (x23_4 : Bool), v23 = .bool x23_4 ∧ Aside0 (laws_FnSplice.j0 kq l0 a1 a2 l3 x23_4 = some r) ∧ Aside0 (kq ≤ k) ∧ Aside0 (Below w.heap.size w wc))
  case first =>
    have H := HC5.out
    clear HC5
    replace H := Option.bind_eq_some_iff.mp H
    obtain ⟨t468, A60, H⟩ := H
    replace H : (if t468 = true then ((laws_zzFits1.f k l3).bind fun t469 => (laws_FnSplice.j0 k l0 a1 a2 l3 (!t469))) else (laws_FnSplice.j0 k l0 a1 a2 l3 true)) = some r := H
    have A6 := Aside0.mk A60
    clear A60
    by_cases c7 : t468 = true
    · subst c7
      have H1 : ((laws_zzFits1.f k l3).bind fun t469 => (laws_FnSplice.j0 k l0 a1 a2 l3 (!t469))) = some r := by rw [if_pos rfl] at H; exact H
      clear H
      have H := H1
      clear H1
      replace H := Option.bind_eq_some_iff.mp H
      obtain ⟨t469, A80, H⟩ := H
      replace H : (laws_FnSplice.j0 k l0 a1 a2 l3 (!t469)) = some r := H
      have A8 := Aside0.mk A80
      clear A80
      have H' := Aside0.mk H
      clear H
      go_wp2_with (first | ((with_reducible refine gate_callee (f := 34) rfl ?_); refine goesL_ (some 17) rfl rfl Try.func34 (by kernel_rfl) rfl #[.slice A0 l0.length c0] rfl (by (try simp only [List.map_toArray, List.map_cons, List.map_nil]); first | done | rfl | (simp only [List.length_drop, List.length_take]; rfl)) ?_; (with_reducible refine (laws_zzFits1.calls k _ _ l0 true _ ?side1 ?side2 A6.out).mono ?_); (case side1 => repeat (first | exact (Kd.C_below HR0.out HB.out) | (with_reducible refine Kd.C_alloc ?_ _) | (with_reducible refine Kd.C_drewN ?_ _) | (with_reducible refine Kd.C_drew ?_))); (case side2 => exact HC0.out); rintro e w9 ⟨rfl, hb⟩; refine ⟨_, rfl, ?_⟩; have n0_ := Aside0.mk (below_step (by repeat (first | (with_reducible first | exact HB.out | apply below_alloc | apply pw_below_drewN | apply below_drew1) | exact HB.out)) hb); clear HB; have HB := n0_; clear n0_; (try clear hb); (try clear hb2); (try clear hk); (try clear hi)) | (go_at_call 34; (with_reducible refine (laws_zzFits1.calls k _ _ l3 t469 _ ?side1 ?side2 A8.out).mono ?_); (case side1 => repeat (first | exact (Kd.C_below HR3.out HB.out) | (with_reducible refine Kd.C_alloc ?_ _) | (with_reducible refine Kd.C_drewN ?_ _) | (with_reducible refine Kd.C_drew ?_))); (case side2 => exact HC3.out); rintro e w10 ⟨rfl, hb⟩; have n0_ := Aside0.mk (below_step (by repeat (first | (with_reducible first | exact HB.out | apply below_alloc | apply pw_below_drewN | apply below_drew1) | exact HB.out)) hb); clear HB; have HB := n0_; clear n0_; (try clear hb); (try clear hb2); (try clear hk); (try clear hi)))
      go_meet
      case rel => exact ⟨_, (!t469), (by first | rfl | (simp; done) | (simp [*]; done)), H', ⟨by first | omega | exact Nat.le_refl _⟩, ⟨by repeat (first | (with_reducible first | exact HB.out | apply below_alloc | apply pw_below_drewN | apply below_drew1) | exact HB.out)⟩⟩
    · replace c7 := Bool.eq_false_iff.mpr c7
      subst c7
      have H1 : (laws_FnSplice.j0 k l0 a1 a2 l3 true) = some r := by rw [if_neg (show ¬ (false = true) by decide)] at H; exact H
      clear H
      have H := H1
      clear H1
      have H' := Aside0.mk H
      clear H
      go_wp2_with (first | ((with_reducible refine gate_callee (f := 34) rfl ?_); refine goesL_ (some 17) rfl rfl Try.func34 (by kernel_rfl) rfl #[.slice A0 l0.length c0] rfl (by (try simp only [List.map_toArray, List.map_cons, List.map_nil]); first | done | rfl | (simp only [List.length_drop, List.length_take]; rfl)) ?_; (with_reducible refine (laws_zzFits1.calls k _ _ l0 false _ ?side1 ?side2 A6.out).mono ?_); (case side1 => repeat (first | exact (Kd.C_below HR0.out HB.out) | (with_reducible refine Kd.C_alloc ?_ _) | (with_reducible refine Kd.C_drewN ?_ _) | (with_reducible refine Kd.C_drew ?_))); (case side2 => exact HC0.out); rintro e w11 ⟨rfl, hb⟩; refine ⟨_, rfl, ?_⟩; have n0_ := Aside0.mk (below_step (by repeat (first | (with_reducible first | exact HB.out | apply below_alloc | apply pw_below_drewN | apply below_drew1) | exact HB.out)) hb); clear HB; have HB := n0_; clear n0_; (try clear hb); (try clear hb2); (try clear hk); (try clear hi)))
      go_meet
      case rel => exact ⟨_, (true), (by first | rfl | (simp; done) | (simp [*]; done)), H', ⟨by first | omega | exact Nat.le_refl _⟩, ⟨by repeat (first | (with_reducible first | exact HB.out | apply below_alloc | apply pw_below_drewN | apply below_drew1) | exact HB.out)⟩⟩
  case rest =>
    clear HC5
    try clear c1
    try clear p2
    try clear c3
    try clear c7
    obtain ⟨kq, x23_4, rfl, HA, HJ4, HB⟩ := hcut
    cases kq with
    | zero => exact absurd HA.out (by simp [laws_FnSplice.j0])
    | succ kj4 =>
      have H := HA.out
      clear HA
      simp only [laws_FnSplice.j0] at H
      by_cases c12 : x23_4 = true
      · subst c12
        have H1 : (some true) = some r := by rw [if_pos rfl] at H; exact H
        clear H
        have H := H1
        clear H1
        obtain rfl := Option.some.inj H
        go_wp2
        go_ret
        exact ⟨by first | rfl | (simp [errW_none, errW_some] <;> rfl) | (simp [*, errW_none, errW_some] <;> rfl), by repeat (first | (with_reducible first | exact HB.out | apply below_alloc | apply pw_below_drewN | apply below_drew1) | exact HB.out)⟩
      · replace c12 := Bool.eq_false_iff.mpr c12
        subst c12
        have H1 : ((spec_Parted.f kj4 l0 12).bind fun t470 => ((spec_Parted.f kj4 l3 6).bind fun t473 => (if (IntKind.u64.wrap (wrap64 ((t470.length : Int) + 1))) = 0 then (none) else (if (IntKind.u64.wrap (wrap64 ((wrap64 ((t470.length : Int) - (wrap64 (Int.tmod (IntKind.u64.wrap (a1)) (IntKind.u64.wrap (wrap64 ((t470.length : Int) + 1))))))) + 1))) = 0 then (none) else (if 0 ≤ (wrap64 (Int.tmod (IntKind.u64.wrap (a1)) (IntKind.u64.wrap (wrap64 ((t470.length : Int) + 1))))) then (if (wrap64 (Int.tmod (IntKind.u64.wrap (a1)) (IntKind.u64.wrap (wrap64 ((t470.length : Int) + 1))))) ≤ (t470.length : Int) then ((some (t470.take ((wrap64 (Int.tmod (IntKind.u64.wrap (a1)) (IntKind.u64.wrap (wrap64 ((t470.length : Int) + 1))))) : Int).toNat : List (S57))).bind fun y476 => (if ([] : List (S57)).length + y476.length < 5864062014805 then ((some (([] : List (S57)) ++ y476 : List (S57))).bind fun y480 => (if y480.length + t473.length < 5864062014805 then ((some (y480 ++ t473 : List (S57))).bind fun y483 => (if 0 ≤ (wrap64 ((wrap64 (Int.tmod (IntKind.u64.wrap (a1)) (IntKind.u64.wrap (wrap64 ((t470.length : Int) + 1))))) + (wrap64 (Int.tmod (IntKind.u64.wrap (a2)) (IntKind.u64.wrap (wrap64 ((wrap64 ((t470.length : Int) - (wrap64 (Int.tmod (IntKind.u64.wrap (a1)) (IntKind.u64.wrap (wrap64 ((t470.length : Int) + 1))))))) + 1))))))) then (if (wrap64 ((wrap64 (Int.tmod (IntKind.u64.wrap (a1)) (IntKind.u64.wrap (wrap64 ((t470.length : Int) + 1))))) + (wrap64 (Int.tmod (IntKind.u64.wrap (a2)) (IntKind.u64.wrap (wrap64 ((wrap64 ((t470.length : Int) - (wrap64 (Int.tmod (IntKind.u64.wrap (a1)) (IntKind.u64.wrap (wrap64 ((t470.length : Int) + 1))))))) + 1))))))) ≤ (t470.length : Int) then ((some (t470.drop ((wrap64 ((wrap64 (Int.tmod (IntKind.u64.wrap (a1)) (IntKind.u64.wrap (wrap64 ((t470.length : Int) + 1))))) + (wrap64 (Int.tmod (IntKind.u64.wrap (a2)) (IntKind.u64.wrap (wrap64 ((wrap64 ((t470.length : Int) - (wrap64 (Int.tmod (IntKind.u64.wrap (a1)) (IntKind.u64.wrap (wrap64 ((t470.length : Int) + 1))))))) + 1))))))) : Int).toNat : List (S57))).bind fun y486 => (if y483.length + y486.length < 5864062014805 then ((impl_Splice.f kj4 t470 (wrap64 (Int.tmod (IntKind.u64.wrap (a1)) (IntKind.u64.wrap (wrap64 ((t470.length : Int) + 1))))) (wrap64 (Int.tmod (IntKind.u64.wrap (a2)) (IntKind.u64.wrap (wrap64 ((wrap64 ((t470.length : Int) - (wrap64 (Int.tmod (IntKind.u64.wrap (a1)) (IntKind.u64.wrap (wrap64 ((t470.length : Int) + 1))))))) + 1))))) t473).bind fun bt493 => ((impl_Splice.f kj4 ([] : List (S57)) 0 0 (([(⟨1, (⟨#[97]⟩ : ByteArray)⟩ : S57)] : List (S57)))).bind fun bt500 => (if bt493.2 = 0 then ((spec_SameParts.f kj4 bt493.1 (y483 ++ y486)).bind fun t504 => (if t504 = true then (some ((bt500.1.length : Int) == 1)) else (some false))) else (some false)))) else (none))) else (none)) else (none))) else (none))) else (none))) else (none)) else (none)))))) = some r := by rw [if_neg (show ¬ (false = true) by decide)] at H; exact H
        clear H
        have H := H1
        clear H1
        replace H := Option.bind_eq_some_iff.mp H
        obtain ⟨t470, A130, H⟩ := H
        replace H : ((spec_Parted.f kj4 l3 6).bind fun t473 => (if (IntKind.u64.wrap (wrap64 ((t470.length : Int) + 1))) = 0 then (none) else (if (IntKind.u64.wrap (wrap64 ((wrap64 ((t470.length : Int) - (wrap64 (Int.tmod (IntKind.u64.wrap (a1)) (IntKind.u64.wrap (wrap64 ((t470.length : Int) + 1))))))) + 1))) = 0 then (none) else (if 0 ≤ (wrap64 (Int.tmod (IntKind.u64.wrap (a1)) (IntKind.u64.wrap (wrap64 ((t470.length : Int) + 1))))) then (if (wrap64 (Int.tmod (IntKind.u64.wrap (a1)) (IntKind.u64.wrap (wrap64 ((t470.length : Int) + 1))))) ≤ (t470.length : Int) then ((some (t470.take ((wrap64 (Int.tmod (IntKind.u64.wrap (a1)) (IntKind.u64.wrap (wrap64 ((t470.length : Int) + 1))))) : Int).toNat : List (S57))).bind fun y476 => (if ([] : List (S57)).length + y476.length < 5864062014805 then ((some (([] : List (S57)) ++ y476 : List (S57))).bind fun y480 => (if y480.length + t473.length < 5864062014805 then ((some (y480 ++ t473 : List (S57))).bind fun y483 => (if 0 ≤ (wrap64 ((wrap64 (Int.tmod (IntKind.u64.wrap (a1)) (IntKind.u64.wrap (wrap64 ((t470.length : Int) + 1))))) + (wrap64 (Int.tmod (IntKind.u64.wrap (a2)) (IntKind.u64.wrap (wrap64 ((wrap64 ((t470.length : Int) - (wrap64 (Int.tmod (IntKind.u64.wrap (a1)) (IntKind.u64.wrap (wrap64 ((t470.length : Int) + 1))))))) + 1))))))) then (if (wrap64 ((wrap64 (Int.tmod (IntKind.u64.wrap (a1)) (IntKind.u64.wrap (wrap64 ((t470.length : Int) + 1))))) + (wrap64 (Int.tmod (IntKind.u64.wrap (a2)) (IntKind.u64.wrap (wrap64 ((wrap64 ((t470.length : Int) - (wrap64 (Int.tmod (IntKind.u64.wrap (a1)) (IntKind.u64.wrap (wrap64 ((t470.length : Int) + 1))))))) + 1))))))) ≤ (t470.length : Int) then ((some (t470.drop ((wrap64 ((wrap64 (Int.tmod (IntKind.u64.wrap (a1)) (IntKind.u64.wrap (wrap64 ((t470.length : Int) + 1))))) + (wrap64 (Int.tmod (IntKind.u64.wrap (a2)) (IntKind.u64.wrap (wrap64 ((wrap64 ((t470.length : Int) - (wrap64 (Int.tmod (IntKind.u64.wrap (a1)) (IntKind.u64.wrap (wrap64 ((t470.length : Int) + 1))))))) + 1))))))) : Int).toNat : List (S57))).bind fun y486 => (if y483.length + y486.length < 5864062014805 then ((impl_Splice.f kj4 t470 (wrap64 (Int.tmod (IntKind.u64.wrap (a1)) (IntKind.u64.wrap (wrap64 ((t470.length : Int) + 1))))) (wrap64 (Int.tmod (IntKind.u64.wrap (a2)) (IntKind.u64.wrap (wrap64 ((wrap64 ((t470.length : Int) - (wrap64 (Int.tmod (IntKind.u64.wrap (a1)) (IntKind.u64.wrap (wrap64 ((t470.length : Int) + 1))))))) + 1))))) t473).bind fun bt493 => ((impl_Splice.f kj4 ([] : List (S57)) 0 0 (([(⟨1, (⟨#[97]⟩ : ByteArray)⟩ : S57)] : List (S57)))).bind fun bt500 => (if bt493.2 = 0 then ((spec_SameParts.f kj4 bt493.1 (y483 ++ y486)).bind fun t504 => (if t504 = true then (some ((bt500.1.length : Int) == 1)) else (some false))) else (some false)))) else (none))) else (none)) else (none))) else (none))) else (none))) else (none)) else (none))))) = some r := H
        have A13 := Aside0.mk A130
        clear A130
        replace H := Option.bind_eq_some_iff.mp H
        obtain ⟨t473, A140, H⟩ := H
        replace H : (if (IntKind.u64.wrap (wrap64 ((t470.length : Int) + 1))) = 0 then (none) else (if (IntKind.u64.wrap (wrap64 ((wrap64 ((t470.length : Int) - (wrap64 (Int.tmod (IntKind.u64.wrap (a1)) (IntKind.u64.wrap (wrap64 ((t470.length : Int) + 1))))))) + 1))) = 0 then (none) else (if 0 ≤ (wrap64 (Int.tmod (IntKind.u64.wrap (a1)) (IntKind.u64.wrap (wrap64 ((t470.length : Int) + 1))))) then (if (wrap64 (Int.tmod (IntKind.u64.wrap (a1)) (IntKind.u64.wrap (wrap64 ((t470.length : Int) + 1))))) ≤ (t470.length : Int) then ((some (t470.take ((wrap64 (Int.tmod (IntKind.u64.wrap (a1)) (IntKind.u64.wrap (wrap64 ((t470.length : Int) + 1))))) : Int).toNat : List (S57))).bind fun y476 => (if ([] : List (S57)).length + y476.length < 5864062014805 then ((some (([] : List (S57)) ++ y476 : List (S57))).bind fun y480 => (if y480.length + t473.length < 5864062014805 then ((some (y480 ++ t473 : List (S57))).bind fun y483 => (if 0 ≤ (wrap64 ((wrap64 (Int.tmod (IntKind.u64.wrap (a1)) (IntKind.u64.wrap (wrap64 ((t470.length : Int) + 1))))) + (wrap64 (Int.tmod (IntKind.u64.wrap (a2)) (IntKind.u64.wrap (wrap64 ((wrap64 ((t470.length : Int) - (wrap64 (Int.tmod (IntKind.u64.wrap (a1)) (IntKind.u64.wrap (wrap64 ((t470.length : Int) + 1))))))) + 1))))))) then (if (wrap64 ((wrap64 (Int.tmod (IntKind.u64.wrap (a1)) (IntKind.u64.wrap (wrap64 ((t470.length : Int) + 1))))) + (wrap64 (Int.tmod (IntKind.u64.wrap (a2)) (IntKind.u64.wrap (wrap64 ((wrap64 ((t470.length : Int) - (wrap64 (Int.tmod (IntKind.u64.wrap (a1)) (IntKind.u64.wrap (wrap64 ((t470.length : Int) + 1))))))) + 1))))))) ≤ (t470.length : Int) then ((some (t470.drop ((wrap64 ((wrap64 (Int.tmod (IntKind.u64.wrap (a1)) (IntKind.u64.wrap (wrap64 ((t470.length : Int) + 1))))) + (wrap64 (Int.tmod (IntKind.u64.wrap (a2)) (IntKind.u64.wrap (wrap64 ((wrap64 ((t470.length : Int) - (wrap64 (Int.tmod (IntKind.u64.wrap (a1)) (IntKind.u64.wrap (wrap64 ((t470.length : Int) + 1))))))) + 1))))))) : Int).toNat : List (S57))).bind fun y486 => (if y483.length + y486.length < 5864062014805 then ((impl_Splice.f kj4 t470 (wrap64 (Int.tmod (IntKind.u64.wrap (a1)) (IntKind.u64.wrap (wrap64 ((t470.length : Int) + 1))))) (wrap64 (Int.tmod (IntKind.u64.wrap (a2)) (IntKind.u64.wrap (wrap64 ((wrap64 ((t470.length : Int) - (wrap64 (Int.tmod (IntKind.u64.wrap (a1)) (IntKind.u64.wrap (wrap64 ((t470.length : Int) + 1))))))) + 1))))) t473).bind fun bt493 => ((impl_Splice.f kj4 ([] : List (S57)) 0 0 (([(⟨1, (⟨#[97]⟩ : ByteArray)⟩ : S57)] : List (S57)))).bind fun bt500 => (if bt493.2 = 0 then ((spec_SameParts.f kj4 bt493.1 (y483 ++ y486)).bind fun t504 => (if t504 = true then (some ((bt500.1.length : Int) == 1)) else (some false))) else (some false)))) else (none))) else (none)) else (none))) else (none))) else (none))) else (none)) else (none)))) = some r := H
        have A14 := Aside0.mk A140
        clear A140
        by_cases c15 : (IntKind.u64.wrap (wrap64 ((t470.length : Int) + 1))) = 0
        · rw [if_pos c15] at H
          exact absurd H (by simp)
        · rw [if_neg c15] at H
          have c15b0 : ((IntKind.u64.wrap (wrap64 ((t470.length : Int) + 1))) == 0) = false := beq_eq_false_iff_ne.mpr c15
          have c15b1 : ((IntKind.u64.wrap (wrap64 ((t470.length : Int) + 1))) != 0) = true := bne_iff_ne.mpr c15
          by_cases c16 : (IntKind.u64.wrap (wrap64 ((wrap64 ((t470.length : Int) - (wrap64 (Int.tmod (IntKind.u64.wrap (a1)) (IntKind.u64.wrap (wrap64 ((t470.length : Int) + 1))))))) + 1))) = 0
          · rw [if_pos c16] at H
            exact absurd H (by simp)
          · rw [if_neg c16] at H
            have c16b0 : ((IntKind.u64.wrap (wrap64 ((wrap64 ((t470.length : Int) - (wrap64 (Int.tmod (IntKind.u64.wrap (a1)) (IntKind.u64.wrap (wrap64 ((t470.length : Int) + 1))))))) + 1))) == 0) = false := beq_eq_false_iff_ne.mpr c16
            have c16b1 : ((IntKind.u64.wrap (wrap64 ((wrap64 ((t470.length : Int) - (wrap64 (Int.tmod (IntKind.u64.wrap (a1)) (IntKind.u64.wrap (wrap64 ((t470.length : Int) + 1))))))) + 1))) != 0) = true := bne_iff_ne.mpr c16
            obtain ⟨ji17, hji17⟩ : ∃ j_ : Int, (wrap64 (Int.tmod (IntKind.u64.wrap (a1)) (IntKind.u64.wrap (wrap64 ((t470.length : Int) + 1))))) = j_ := ⟨_, rfl⟩
            replace H : (if 0 ≤ (ji17) then (if (ji17) ≤ (t470.length : Int) then ((some (t470.take ((ji17) : Int).toNat : List (S57))).bind fun y476 => (if ([] : List (S57)).length + y476.length < 5864062014805 then ((some (([] : List (S57)) ++ y476 : List (S57))).bind fun y480 => (if y480.length + t473.length < 5864062014805 then ((some (y480 ++ t473 : List (S57))).bind fun y483 => (if 0 ≤ (wrap64 ((ji17) + (wrap64 (Int.tmod (IntKind.u64.wrap (a2)) (IntKind.u64.wrap (wrap64 ((wrap64 ((t470.length : Int) - (ji17))) + 1))))))) then (if (wrap64 ((ji17) + (wrap64 (Int.tmod (IntKind.u64.wrap (a2)) (IntKind.u64.wrap (wrap64 ((wrap64 ((t470.length : Int) - (ji17))) + 1))))))) ≤ (t470.length : Int) then ((some (t470.drop ((wrap64 ((ji17) + (wrap64 (Int.tmod (IntKind.u64.wrap (a2)) (IntKind.u64.wrap (wrap64 ((wrap64 ((t470.length : Int) - (ji17))) + 1))))))) : Int).toNat : List (S57))).bind fun y486 => (if y483.length + y486.length < 5864062014805 then ((impl_Splice.f kj4 t470 (ji17) (wrap64 (Int.tmod (IntKind.u64.wrap (a2)) (IntKind.u64.wrap (wrap64 ((wrap64 ((t470.length : Int) - (ji17))) + 1))))) t473).bind fun bt493 => ((impl_Splice.f kj4 ([] : List (S57)) 0 0 (([(⟨1, (⟨#[97]⟩ : ByteArray)⟩ : S57)] : List (S57)))).bind fun bt500 => (if bt493.2 = 0 then ((spec_SameParts.f kj4 bt493.1 (y483 ++ y486)).bind fun t504 => (if t504 = true then (some ((bt500.1.length : Int) == 1)) else (some false))) else (some false)))) else (none))) else (none)) else (none))) else (none))) else (none))) else (none)) else (none)) = some r := by first | (rw [hji17] at H; exact H) | (simp only [hji17] at H ⊢; exact H)
            (try rw [hji17] at c16b0)
            (try rw [hji17] at c16)
            (try rw [hji17] at c16b1)
            (try rw [hji17] at A13)
            (try rw [hji17] at A14)
            have hji17w : (IntKind.i64.wrap (Int.tmod (IntKind.u64.wrap (a1)) (IntKind.u64.wrap (wrap64 ((t470.length : Int) + 1))))) = ji17 := (i64_w _).trans hji17
            by_cases c18 : 0 ≤ (ji17)
            · rw [if_pos c18] at H
              have c18b0 := eq_true c18
              have c18b1 : decide (0 ≤ (ji17)) = true := decide_eq_true c18
              clear c18
              by_cases c19 : (ji17) ≤ (t470.length : Int)
              · rw [if_pos c19] at H
                have c19b0 := eq_true c19
                have c19b1 : decide ((ji17) ≤ (t470.length : Int)) = true := decide_eq_true c19
                clear c19
                obtain ⟨y476, hy476⟩ : ∃ y_ : List (S57), y_ = (t470.take ((ji17) : Int).toNat) := ⟨_, rfl⟩
                replace H : (if ([] : List (S57)).length + y476.length < 5864062014805 then ((some (([] : List (S57)) ++ y476 : List (S57))).bind fun y480 => (if y480.length + t473.length < 5864062014805 then ((some (y480 ++ t473 : List (S57))).bind fun y483 => (if 0 ≤ (wrap64 ((ji17) + (wrap64 (Int.tmod (IntKind.u64.wrap (a2)) (IntKind.u64.wrap (wrap64 ((wrap64 ((t470.length : Int) - (ji17))) + 1))))))) then (if (wrap64 ((ji17) + (wrap64 (Int.tmod (IntKind.u64.wrap (a2)) (IntKind.u64.wrap (wrap64 ((wrap64 ((t470.length : Int) - (ji17))) + 1))))))) ≤ (t470.length : Int) then ((some (t470.drop ((wrap64 ((ji17) + (wrap64 (Int.tmod (IntKind.u64.wrap (a2)) (IntKind.u64.wrap (wrap64 ((wrap64 ((t470.length : Int) - (ji17))) + 1))))))) : Int).toNat : List (S57))).bind fun y486 => (if y483.length + y486.length < 5864062014805 then ((impl_Splice.f kj4 t470 (ji17) (wrap64 (Int.tmod (IntKind.u64.wrap (a2)) (IntKind.u64.wrap (wrap64 ((wrap64 ((t470.length : Int) - (ji17))) + 1))))) t473).bind fun bt493 => ((impl_Splice.f kj4 ([] : List (S57)) 0 0 (([(⟨1, (⟨#[97]⟩ : ByteArray)⟩ : S57)] : List (S57)))).bind fun bt500 => (if bt493.2 = 0 then ((spec_SameParts.f kj4 bt493.1 (y483 ++ y486)).bind fun t504 => (if t504 = true then (some ((bt500.1.length : Int) == 1)) else (some false))) else (some false)))) else (none))) else (none)) else (none))) else (none))) else (none)) = some r := by first | (rw [hy476]; with_reducible exact H) | (have H2_ := (Option.bind_some _ _).symm.trans H; rw [hy476]; with_reducible exact H2_) | (have H2_ := (Option.bind_some _ _).symm.trans H; with_reducible exact H2_) | with_reducible exact H | (rw [hy476]; exact H) | exact H
                have Ny476 := Aside0.mk hy476
                clear hy476
                by_cases c20 : ([] : List (S57)).length + y476.length < 5864062014805
                · rw [if_pos c20] at H
                  have LMc20 := Aside0.mk c20
                  clear c20
                  obtain ⟨y480, hy480⟩ : ∃ y_ : List (S57), y_ = (([] : List (S57)) ++ y476) := ⟨_, rfl⟩
                  replace H : (if y480.length + t473.length < 5864062014805 then ((some (y480 ++ t473 : List (S57))).bind fun y483 => (if 0 ≤ (wrap64 ((ji17) + (wrap64 (Int.tmod (IntKind.u64.wrap (a2)) (IntKind.u64.wrap (wrap64 ((wrap64 ((t470.length : Int) - (ji17))) + 1))))))) then (if (wrap64 ((ji17) + (wrap64 (Int.tmod (IntKind.u64.wrap (a2)) (IntKind.u64.wrap (wrap64 ((wrap64 ((t470.length : Int) - (ji17))) + 1))))))) ≤ (t470.length : Int) then ((some (t470.drop ((wrap64 ((ji17) + (wrap64 (Int.tmod (IntKind.u64.wrap (a2)) (IntKind.u64.wrap (wrap64 ((wrap64 ((t470.length : Int) - (ji17))) + 1))))))) : Int).toNat : List (S57))).bind fun y486 => (if y483.length + y486.length < 5864062014805 then ((impl_Splice.f kj4 t470 (ji17) (wrap64 (Int.tmod (IntKind.u64.wrap (a2)) (IntKind.u64.wrap (wrap64 ((wrap64 ((t470.length : Int) - (ji17))) + 1))))) t473).bind fun bt493 => ((impl_Splice.f kj4 ([] : List (S57)) 0 0 (([(⟨1, (⟨#[97]⟩ : ByteArray)⟩ : S57)] : List (S57)))).bind fun bt500 => (if bt493.2 = 0 then ((spec_SameParts.f kj4 bt493.1 (y483 ++ y486)).bind fun t504 => (if t504 = true then (some ((bt500.1.length : Int) == 1)) else (some false))) else (some false)))) else (none))) else (none)) else (none))) else (none)) = some r := by first | (rw [hy480]; with_reducible exact H) | (have H2_ := (Option.bind_some _ _).symm.trans H; rw [hy480]; with_reducible exact H2_) | (have H2_ := (Option.bind_some _ _).symm.trans H; with_reducible exact H2_) | with_reducible exact H | (rw [hy480]; exact H) | exact H
                  have Ny480 := Aside0.mk hy480
                  clear hy480
                  by_cases c21 : y480.length + t473.length < 5864062014805
                  · rw [if_pos c21] at H
                    have LMc21 := Aside0.mk c21
                    clear c21
                    obtain ⟨y483, hy483⟩ : ∃ y_ : List (S57), y_ = (y480 ++ t473) := ⟨_, rfl⟩
                    replace H : (if 0 ≤ (wrap64 ((ji17) + (wrap64 (Int.tmod (IntKind.u64.wrap (a2)) (IntKind.u64.wrap (wrap64 ((wrap64 ((t470.length : Int) - (ji17))) + 1))))))) then (if (wrap64 ((ji17) + (wrap64 (Int.tmod (IntKind.u64.wrap (a2)) (IntKind.u64.wrap (wrap64 ((wrap64 ((t470.length : Int) - (ji17))) + 1))))))) ≤ (t470.length : Int) then ((some (t470.drop ((wrap64 ((ji17) + (wrap64 (Int.tmod (IntKind.u64.wrap (a2)) (IntKind.u64.wrap (wrap64 ((wrap64 ((t470.length : Int) - (ji17))) + 1))))))) : Int).toNat : List (S57))).bind fun y486 => (if y483.length + y486.length < 5864062014805 then ((impl_Splice.f kj4 t470 (ji17) (wrap64 (Int.tmod (IntKind.u64.wrap (a2)) (IntKind.u64.wrap (wrap64 ((wrap64 ((t470.length : Int) - (ji17))) + 1))))) t473).bind fun bt493 => ((impl_Splice.f kj4 ([] : List (S57)) 0 0 (([(⟨1, (⟨#[97]⟩ : ByteArray)⟩ : S57)] : List (S57)))).bind fun bt500 => (if bt493.2 = 0 then ((spec_SameParts.f kj4 bt493.1 (y483 ++ y486)).bind fun t504 => (if t504 = true then (some ((bt500.1.length : Int) == 1)) else (some false))) else (some false)))) else (none))) else (none)) else (none)) = some r := by first | (rw [hy483]; with_reducible exact H) | (have H2_ := (Option.bind_some _ _).symm.trans H; rw [hy483]; with_reducible exact H2_) | (have H2_ := (Option.bind_some _ _).symm.trans H; with_reducible exact H2_) | with_reducible exact H | (rw [hy483]; exact H) | exact H
                    have Ny483 := Aside0.mk hy483
                    clear hy483
                    obtain ⟨ji22, hji22⟩ : ∃ j_ : Int, (wrap64 ((ji17) + (wrap64 (Int.tmod (IntKind.u64.wrap (a2)) (IntKind.u64.wrap (wrap64 ((wrap64 ((t470.length : Int) - (ji17))) + 1))))))) = j_ := ⟨_, rfl⟩
                    replace H : (if 0 ≤ (ji22) then (if (ji22) ≤ (t470.length : Int) then ((some (t470.drop ((ji22) : Int).toNat : List (S57))).bind fun y486 => (if y483.length + y486.length < 5864062014805 then ((impl_Splice.f kj4 t470 (ji17) (wrap64 (Int.tmod (IntKind.u64.wrap (a2)) (IntKind.u64.wrap (wrap64 ((wrap64 ((t470.length : Int) - (ji17))) + 1))))) t473).bind fun bt493 => ((impl_Splice.f kj4 ([] : List (S57)) 0 0 (([(⟨1, (⟨#[97]⟩ : ByteArray)⟩ : S57)] : List (S57)))).bind fun bt500 => (if bt493.2 = 0 then ((spec_SameParts.f kj4 bt493.1 (y483 ++ y486)).bind fun t504 => (if t504 = true then (some ((bt500.1.length : Int) == 1)) else (some false))) else (some false)))) else (none))) else (none)) else (none)) = some r := by first | (rw [hji22] at H; exact H) | (simp only [hji22] at H ⊢; exact H)
                    (try rw [hji22] at A13)
                    (try rw [hji22] at A14)
                    have hji22w : (IntKind.i64.wrap ((ji17) + (wrap64 (Int.tmod (IntKind.u64.wrap (a2)) (IntKind.u64.wrap (wrap64 ((wrap64 ((t470.length : Int) - (ji17))) + 1))))))) = ji22 := (i64_w _).trans hji22
                    by_cases c23 : 0 ≤ (ji22)
                    · rw [if_pos c23] at H
                      have c23b0 := eq_true c23
                      have c23b1 : decide (0 ≤ (ji22)) = true := decide_eq_true c23
                      clear c23
                      by_cases c24 : (ji22) ≤ (t470.length : Int)
                      · rw [if_pos c24] at H
                        have c24b0 := eq_true c24
                        have c24b1 : decide ((ji22) ≤ (t470.length : Int)) = true := decide_eq_true c24
                        clear c24
                        obtain ⟨y486, hy486⟩ : ∃ y_ : List (S57), y_ = (t470.drop ((ji22) : Int).toNat) := ⟨_, rfl⟩
                        replace H : (if y483.length + y486.length < 5864062014805 then ((impl_Splice.f kj4 t470 (ji17) (wrap64 (Int.tmod (IntKind.u64.wrap (a2)) (IntKind.u64.wrap (wrap64 ((wrap64 ((t470.length : Int) - (ji17))) + 1))))) t473).bind fun bt493 => ((impl_Splice.f kj4 ([] : List (S57)) 0 0 (([(⟨1, (⟨#[97]⟩ : ByteArray)⟩ : S57)] : List (S57)))).bind fun bt500 => (if bt493.2 = 0 then ((spec_SameParts.f kj4 bt493.1 (y483 ++ y486)).bind fun t504 => (if t504 = true then (some ((bt500.1.length : Int) == 1)) else (some false))) else (some false)))) else (none)) = some r := by first | (rw [hy486]; with_reducible exact H) | (have H2_ := (Option.bind_some _ _).symm.trans H; rw [hy486]; with_reducible exact H2_) | (have H2_ := (Option.bind_some _ _).symm.trans H; with_reducible exact H2_) | with_reducible exact H | (rw [hy486]; exact H) | exact H
                        have Ny486 := Aside0.mk hy486
                        clear hy486
                        by_cases c25 : y483.length + y486.length < 5864062014805
                        · rw [if_pos c25] at H
                          have LMc25 := Aside0.mk c25
                          clear c25
                          obtain ⟨y490, hy490⟩ : ∃ y_ : List (S57), y_ = (y483 ++ y486) := ⟨_, rfl⟩
                          replace H : ((impl_Splice.f kj4 t470 (ji17) (wrap64 (Int.tmod (IntKind.u64.wrap (a2)) (IntKind.u64.wrap (wrap64 ((wrap64 ((t470.length : Int) - (ji17))) + 1))))) t473).bind fun bt493 => ((impl_Splice.f kj4 ([] : List (S57)) 0 0 (([(⟨1, (⟨#[97]⟩ : ByteArray)⟩ : S57)] : List (S57)))).bind fun bt500 => (if bt493.2 = 0 then ((spec_SameParts.f kj4 bt493.1 y490).bind fun t504 => (if t504 = true then (some ((bt500.1.length : Int) == 1)) else (some false))) else (some false)))) = some r := by first | (rw [hy490]; with_reducible exact H) | (have H2_ := (Option.bind_some _ _).symm.trans H; rw [hy490]; with_reducible exact H2_) | (have H2_ := (Option.bind_some _ _).symm.trans H; with_reducible exact H2_) | with_reducible exact H | (rw [hy490]; exact H) | exact H
                          have Ny490 := Aside0.mk hy490
                          clear hy490
                          replace H := Option.bind_eq_some_iff.mp H
                          obtain ⟨⟨t493, t494⟩, A260, H⟩ := H
                          replace H : ((impl_Splice.f kj4 ([] : List (S57)) 0 0 (([(⟨1, (⟨#[97]⟩ : ByteArray)⟩ : S57)] : List (S57)))).bind fun bt500 => (if t494 = 0 then ((spec_SameParts.f kj4 t493 y490).bind fun t504 => (if t504 = true then (some ((bt500.1.length : Int) == 1)) else (some false))) else (some false))) = some r := H
                          have A26 := Aside0.mk A260
                          clear A260
                          obtain ⟨y497, hy497⟩ : ∃ y_ : List (S57), y_ = (([(⟨1, (⟨#[97]⟩ : ByteArray)⟩ : S57)] : List (S57))) := ⟨_, rfl⟩
                          replace H : ((impl_Splice.f kj4 ([] : List (S57)) 0 0 y497).bind fun bt500 => (if t494 = 0 then ((spec_SameParts.f kj4 t493 y490).bind fun t504 => (if t504 = true then (some ((bt500.1.length : Int) == 1)) else (some false))) else (some false))) = some r := by first | (rw [hy497]; with_reducible exact H) | (have H2_ := (Option.bind_some _ _).symm.trans H; rw [hy497]; with_reducible exact H2_) | (have H2_ := (Option.bind_some _ _).symm.trans H; with_reducible exact H2_) | with_reducible exact H | (rw [hy497]; exact H) | exact H
                          have Ny497 := Aside0.mk hy497
                          clear hy497
                          replace H := Option.bind_eq_some_iff.mp H
                          obtain ⟨⟨t500, t501⟩, A270, H⟩ := H
                          replace H : (if t494 = 0 then ((spec_SameParts.f kj4 t493 y490).bind fun t504 => (if t504 = true then (some ((t500.length : Int) == 1)) else (some false))) else (some false)) = some r := H
                          have A27 := Aside0.mk A270
                          clear A270
                          by_cases c28 : t494 = 0
                          · rw [if_pos c28] at H
                            have c28b0 : (t494 == 0) = true := beq_iff_eq.mpr c28
                            have c28b1 : (t494 != 0) = false := bne_eq_false_iff_eq.mpr c28
                            clear c28
                            replace H := Option.bind_eq_some_iff.mp H
                            obtain ⟨t504, A290, H⟩ := H
                            replace H : (if t504 = true then (some ((t500.length : Int) == 1)) else (some false)) = some r := H
                            have A29 := Aside0.mk A290
                            clear A290
                            by_cases c30 : t504 = true
                            · subst c30
                              have H1 : (some ((t500.length : Int) == 1)) = some r := by rw [if_pos rfl] at H; exact H
                              clear H
                              have H := H1
                              clear H1
                              obtain rfl := Option.some.inj H
                              try go_wp2_with (first | ((with_reducible refine gate_callee (f := 35) rfl ?_); refine goesL_ (some 25) rfl rfl Try.func35 (by kernel_rfl) rfl #[.slice A0 l0.length c0, .int .i64 12] rfl (by (try simp only [List.map_toArray, List.map_cons, List.map_nil]); first | done | rfl | (simp only [List.length_drop, List.length_take]; rfl)) ?_; (with_reducible refine (spec_Parted.calls kj4 _ _ l0 12 t470 _ ?side1 ?side2 A13.out).mono ?_); (case side1 => repeat (first | exact (Kd.C_below HR0.out HB.out) | (with_reducible refine Kd.C_alloc ?_ _) | (with_reducible refine Kd.C_drewN ?_ _) | (with_reducible refine Kd.C_drew ?_))); (case side2 => exact HC0.out); rintro e w31 ⟨v471, rfl, ho0, hb⟩; refine ⟨_, rfl, ?_⟩; have n0_ := Aside0.mk (Kd.R_lower ho0 (below_size (by repeat (first | (with_reducible first | exact HB.out | apply below_alloc | apply pw_below_drewN | apply below_drew1) | exact HB.out)))); have n1_ := Aside0.mk (below_step (by repeat (first | (with_reducible first | exact HB.out | apply below_alloc | apply pw_below_drewN | apply below_drew1) | exact HB.out)) hb); clear HB; have HO472 := n0_; have HB := n1_; clear n0_ n1_; (try clear hb); (try clear hb2); (try clear hk); (try clear hi); (try clear ho0)) | ((with_reducible refine gate_callee (f := 35) rfl ?_); refine goesL_ (some 27) rfl rfl Try.func35 (by kernel_rfl) rfl #[.slice A3 l3.length c3, .int .i64 6] rfl (by (try simp only [List.map_toArray, List.map_cons, List.map_nil]); first | done | rfl | (simp only [List.length_drop, List.length_take]; rfl)) ?_; (with_reducible refine (spec_Parted.calls kj4 _ _ l3 6 t473 _ ?side1 ?side2 A14.out).mono ?_); (case side1 => repeat (first | exact (Kd.C_below HR3.out HB.out) | (with_reducible refine Kd.C_alloc ?_ _) | (with_reducible refine Kd.C_drewN ?_ _) | (with_reducible refine Kd.C_drew ?_))); (case side2 => exact HC3.out); rintro e w32 ⟨v474, rfl, ho0, hb⟩; refine ⟨_, rfl, ?_⟩; have n0_ := Aside0.mk (Kd.R_elder' (by (with_reducible repeat (first | apply Kd.R_alloc | apply Kd.R_drewN | apply Kd.R_drew)); exact HO472.out) (Kd.R_base ho0) hb); have n1_ := Aside0.mk (Kd.R_lower (Kd.R_new' ho0 (Kd.R_lt (by (with_reducible repeat (first | apply Kd.R_alloc | apply Kd.R_drewN | apply Kd.R_drew)); exact HO472.out))) (below_size (by repeat (first | (with_reducible first | exact HB.out | apply below_alloc | apply pw_below_drewN | apply below_drew1) | exact HB.out)))); have n2_ := Aside0.mk (below_step (by repeat (first | (with_reducible first | exact HB.out | apply below_alloc | apply pw_below_drewN | apply below_drew1) | exact HB.out)) hb); clear HO472; clear HB; have HO472 := n0_; have HO475 := n1_; have HB := n2_; clear n0_ n1_ n2_; (try clear hb); (try clear hb2); (try clear hk); (try clear hi); (try clear ho0); obtain ⟨Ao33, co33, eo33⟩ := Kd.R_slice HO472.out; subst eo33))
                              have n0_ := Aside0.mk (Kd.R_drew HO472.out)
                              have n1_ := Aside0.mk (Kd.R_drew HO475.out)
                              have n2_ := Aside0.mk (below_drew1 HB.out)
                              clear HO472
                              clear HO475
                              clear HB
                              have HO472 := n0_
                              have HO475 := n1_
                              have HB := n2_
                              clear n0_ n1_ n2_
                              have q35 : ((ji17) : Int) ≤ ((t470.length : Int) : Int) := of_decide_eq_true (by first | (with_reducible assumption) | assumption)
                              obtain ⟨i035, hi035, _, hsz35, _⟩ := info_parts info57
                              have hroom35 : t470.length ≤ co33 := (Kd.R_reads' HO472.out).2.1
                              have hC35 : Kd.C k57 _ Ao33 t470.length t470 := (Kd.R_reads' HO472.out).2.2
                              have hcut35 := cut_to (P := Try.prog) 51 57 .i64 Try.underlying51 hi035 Ao33 t470.length co33 (ji17) (of_decide_eq_true (by first | (with_reducible assumption) | assumption)) q35 hroom35
                              have hr35 := Kd.C_take (m := ((ji17) : Int).toNat) hC35 (by omega)
                              have hy35 : y476.length = ((ji17) : Int).toNat := (by rw [Ny476.out, List.length_take]; omega)
                              rw [← Ny476.out] at hr35
                              rw [← hy35] at hcut35
                              have HR479 := Aside0.mk hr35
                              have HC479 := Aside0.mk (show y476.length ≤ co33 from by omega)
                              clear hr35 hC35 hroom35 hi035 hsz35
                              have KY35 := Aside0.mk hy35
                              clear hy35
                              have KL35 := Aside0.mk (show ((ji17) : Int).toNat ≤ t470.length from by omega)
                              replace q35 := eq_true q35
                              have q36 : ((ji22) : Int) ≤ ((t470.length : Int) : Int) := of_decide_eq_true (by first | (with_reducible assumption) | assumption)
                              obtain ⟨i036, hi036, _, hsz36, _⟩ := info_parts info57
                              have hroom36 : t470.length ≤ co33 := (Kd.R_reads' HO472.out).2.1
                              have hC36 : Kd.C k57 _ Ao33 t470.length t470 := (Kd.R_reads' HO472.out).2.2
                              have q036 : (0 : Int) ≤ ((ji22) : Int) := of_decide_eq_true (by first | (with_reducible assumption) | assumption)
                              have hcut36 := cut_from (P := Try.prog) 51 57 .i64 Try.underlying51 hi036 2 hsz36 Ao33 t470.length co33 (ji22) q036 q36
                              have hr36 := Kd.C_drop (m := ((ji22) : Int).toNat) (c := co33) hC36 (by omega) hroom36
                              obtain ⟨A36, hA36⟩ : ∃ A1, A1 = (if co33 = ((ji22) : Int).toNat then Ao33 else (Ao33 : Option Addr).map (·.add (((ji22) : Int).toNat * 2))) := ⟨_, rfl⟩
                              obtain ⟨c36, hc36⟩ : ∃ c1, c1 = co33 - ((ji22) : Int).toNat := ⟨_, rfl⟩
                              have hy36 : y486.length = t470.length - ((ji22) : Int).toNat := (by rw [Ny486.out, List.length_drop] <;> omega)
                              rw [show (t470).drop ((ji22) : Int).toNat = y486 from Ny486.out.symm] at hr36
                              replace hr36 : Kd.C k57 _ A36 y486.length y486 := (by rw [hA36]; exact hr36)
                              rw [← hy36, ← hA36, ← hc36] at hcut36
                              have HR489 := Aside0.mk hr36
                              have HC489 := Aside0.mk (show y486.length ≤ c36 from by rw [hy36, hc36]; exact Nat.sub_le_sub_right hroom36 _)
                              clear hr36 hC36 hroom36 hi036 hsz36 hc36
                              have KY36 := Aside0.mk hy36
                              have KA36 := Aside0.mk hA36
                              clear hy36 hA36
                              have KL36 := Aside0.mk (show ((ji22) : Int).toNat ≤ t470.length from by omega)
                              replace q36 := eq_true q36
                              refine start_ (n := 14) (S := fun w' => True) (ds := []) #[false, false, false, false, false, false, false, false, false, false, false, false, false, false] (by kernel_rfl) rfl rfl trivial (fun hHeld => ?_); refine with_tabW laws_FnSplice.tab7 laws_FnSplice.bits7 (fun HT_ HW_ => ?_)
                              generalize w32.drew = w34 at HO472 HO475 HB HR479 HR489 hHeld ⊢
                              refine pure_ (i := 0) (N := some 46) (v := ?_) (a' := ?_) #[true, false, false, false, false, false, false, false, false, false, false, false, false, false] rfl rfl (any_of HT_.out (by kernel_rfl)) (fun _ _ _ h => h) (Or.inl ⟨by rfl, ?_⟩) ?_ ?_
                              rotate_left
                              · intro w'
                                go_simp
                                with_reducible rfl
                              rotate_left
                              · simp only [Act.put, List.setIfInBounds_toArray, List.set_cons_zero, List.set_cons_succ, i64_w, i32_w]
                                rfl
                              refine pure_ (i := 1) (N := some 47) (v := ?_) (a' := ?_) #[true, true, false, false, false, false, false, false, false, false, false, false, false, false] rfl rfl (any_of HT_.out (by kernel_rfl)) (fun _ _ _ h => h) (Or.inl ⟨by rfl, ?_⟩) ?_ ?_
                              rotate_left
                              · intro w'
                                go_simp
                                with_reducible rfl
                              rotate_left
                              · simp only [Act.put, List.setIfInBounds_toArray, List.set_cons_zero, List.set_cons_succ, i64_w, i32_w]
                                rfl
                              refine pure_ (i := 2) (N := some 48) (v := ?_) (a' := ?_) #[true, true, true, false, false, false, false, false, false, false, false, false, false, false] rfl rfl (any_of HT_.out (by kernel_rfl)) (fun _ _ _ h => h) (Or.inl ⟨by rfl, ?_⟩) ?_ ?_
                              rotate_left
                              · intro w'
                                go_simp
                                with_reducible rfl
                              rotate_left
                              · simp only [Act.put, List.setIfInBounds_toArray, List.set_cons_zero, List.set_cons_succ, i64_w, i32_w]
                                rfl
                              refine pure_ (i := 3) (N := some 49) (v := ?_) (a' := ?_) #[true, true, true, true, false, false, false, false, false, false, false, false, false, false] rfl rfl (any_of HT_.out (by kernel_rfl)) (fun _ _ _ h => h) (Or.inl ⟨by rfl, ?_⟩) ?_ ?_
                              rotate_left
                              · intro w'
                                go_simp
                                with_reducible rfl
                              rotate_left
                              · simp only [Act.put, List.setIfInBounds_toArray, List.set_cons_zero, List.set_cons_succ, i64_w, i32_w]
                                rfl
                              refine pure_ (i := 5) (N := some 51) (v := ?_) (a' := ?_) #[true, true, true, true, false, true, false, false, false, false, false, false, false, false] rfl rfl (any_of HT_.out (by kernel_rfl)) (fun _ _ _ h => h) (Or.inl ⟨by rfl, ?_⟩) ?_ ?_
                              rotate_left
                              · intro w'
                                go_simp
                                with_reducible rfl
                              rotate_left
                              · simp only [Act.put, List.setIfInBounds_toArray, List.set_cons_zero, List.set_cons_succ, i64_w, i32_w]
                                rfl
                              refine pure_ (i := 7) (N := some 53) (v := ?_) (a' := ?_) #[true, true, true, true, false, true, false, true, false, false, false, false, false, false] rfl rfl (any_of HT_.out (by kernel_rfl)) (fun _ _ _ h => h) (Or.inl ⟨by rfl, ?_⟩) ?_ ?_
                              rotate_left
                              · intro w'
                                go_simp
                                with_reducible rfl
                              rotate_left
                              · simp only [Act.put, List.setIfInBounds_toArray, List.set_cons_zero, List.set_cons_succ, i64_w, i32_w]
                                rfl
                              refine pure_ (i := 8) (N := some 54) (v := ?_) (a' := ?_) #[true, true, true, true, false, true, false, true, true, false, false, false, false, false] rfl rfl (any_of HT_.out (by kernel_rfl)) (fun _ _ _ h => h) (Or.inl ⟨by rfl, ?_⟩) ?_ ?_
                              rotate_left
                              · intro w'
                                go_simp
                                with_reducible rfl
                              rotate_left
                              · simp only [Act.put, List.setIfInBounds_toArray, List.set_cons_zero, List.set_cons_succ, i64_w, i32_w]
                                rfl
                              refine pure_ (i := 9) (N := some 55) (v := ?_) (a' := ?_) #[true, true, true, true, false, true, false, true, true, true, false, false, false, false] rfl rfl (any_of HT_.out (by kernel_rfl)) (fun _ _ _ h => h) (Or.inl ⟨by rfl, ?_⟩) ?_ ?_
                              rotate_left
                              · intro w'
                                go_simp
                                with_reducible rfl
                              rotate_left
                              · simp only [Act.put, List.setIfInBounds_toArray, List.set_cons_zero, List.set_cons_succ, i64_w, i32_w]
                                rfl
                              refine pure_ (i := 10) (N := some 56) (v := ?_) (a' := ?_) #[true, true, true, true, false, true, false, true, true, true, true, false, false, false] rfl rfl (any_of HT_.out (by kernel_rfl)) (fun _ _ _ h => h) (Or.inl ⟨by rfl, ?_⟩) ?_ ?_
                              rotate_left
                              · intro w'
                                go_simp
                                with_reducible rfl
                              rotate_left
                              · simp only [Act.put, List.setIfInBounds_toArray, List.set_cons_zero, List.set_cons_succ, i64_w, i32_w]
                                rfl
                              refine pure_ (i := 11) (N := some 57) (v := ?_) (a' := ?_) #[true, true, true, true, false, true, false, true, true, true, true, true, false, false] rfl rfl (any_of HT_.out (by kernel_rfl)) (fun _ _ _ h => h) (Or.inl ⟨by rfl, ?_⟩) ?_ ?_
                              rotate_left
                              · intro w'
                                go_simp
                                with_reducible rfl
                              rotate_left
                              · simp only [Act.put, List.setIfInBounds_toArray, List.set_cons_zero, List.set_cons_succ, i64_w, i32_w]
                                rfl
                              refine one_ (i := 4) (N := some 50) #[true, true, true, true, true, true, false, true, true, true, true, true, false, false] rfl rfl (one_of HT_.out (by kernel_rfl)) (by decide) (fun K hK => ?_)
                              refine Kd.R_append_rows_step k57 (w0 := w) w.heap.size (by rfl) (.tmp 46) (.tmp 49) 51 57 (.agg #[(.int .i64 0), (.string ⟨#[]⟩)]) 24 rfl Try.underlying51 info57 rfl (by decide) (by omega) (.slice none 0 0) ([] : List (S57)) y476 _ _ _ (fun k_ => some k_ ≠ (.slice Ao33 t470.length co33 : Value).ownBlock ∧ some k_ ≠ (v474 : Value).ownBlock) (fun _ => False) rfl rfl ?aO ?aR (fun _ _ h => h) (fun _ h => h.elim) ?aF ?aB ?aS ?aL ?_
                              (case aR => repeat (first | exact (by repeat (first | (with_reducible exact HR479.out) | (with_reducible refine Kd.C_alloc ?_ _) | (with_reducible refine Kd.C_drewN ?_ _) | (with_reducible refine Kd.C_drew ?_) | exact HR479.out)) | (with_reducible refine Kd.C_alloc ?_ _) | (with_reducible refine Kd.C_drewN ?_ _) | (with_reducible refine Kd.C_drew ?_)))
                              (case aB => exact (by repeat (first | (with_reducible first | exact HB.out | apply below_alloc | apply pw_below_drewN | apply below_drew1) | exact HB.out)))
                              (case aF => exact (fun k_ hk => ⟨Kd.fresh' (Kd.R_lt (by (with_reducible repeat (first | apply Kd.R_alloc | apply Kd.R_drewN | apply Kd.R_drew)); exact HO472.out)) k_ hk, Kd.fresh' (Kd.R_lt (by (with_reducible repeat (first | apply Kd.R_alloc | apply Kd.R_drewN | apply Kd.R_drew)); exact HO475.out)) k_ hk⟩))
                              (case aO => exact ((Kd.R_nil _ _ _ _ (fun k_ => some k_ ≠ (.slice Ao33 t470.length co33 : Value).ownBlock ∧ some k_ ≠ (v474 : Value).ownBlock))))
                              (case aS => exact (below_size (by repeat (first | (with_reducible first | exact HB.out | apply below_alloc | apply pw_below_drewN | apply below_drew1) | exact HB.out))))
                              (case aL => have := LMc20.out; omega)
                              intro v481 w37 ho hb hg hat
                              rw [← Ny480.out] at ho
                              have n0_ := Aside0.mk (Kd.R_after (Kd.R_apart_nil (by (with_reducible repeat (first | apply Kd.R_alloc | apply Kd.R_drewN | apply Kd.R_drew)); exact HO472.out)) hg hat)
                              have n1_ := Aside0.mk (Kd.R_after (Kd.R_apart_nil (by (with_reducible repeat (first | apply Kd.R_alloc | apply Kd.R_drewN | apply Kd.R_drew)); exact HO475.out)) hg hat)
                              have n2_ := Aside0.mk (hb)
                              have n3_ := Aside0.mk ((show Kd.C k57 w37 Ao33 y476.length y476 from by rw [Ny476.out]; exact Kd.C_take (m := ((ji17) : Int).toNat) ((Kd.R_reads' (Kd.R_after (Kd.R_apart_nil (by (with_reducible repeat (first | apply Kd.R_alloc | apply Kd.R_drewN | apply Kd.R_drew)); exact HO472.out)) hg hat)).2.2) KL35.out))
                              have n4_ := Aside0.mk ((show Kd.C k57 w37 A36 y486.length y486 from by rw [Ny486.out, KA36.out]; exact Kd.C_drop (m := ((ji22) : Int).toNat) (c := co33) ((Kd.R_reads' (Kd.R_after (Kd.R_apart_nil (by (with_reducible repeat (first | apply Kd.R_alloc | apply Kd.R_drewN | apply Kd.R_drew)); exact HO472.out)) hg hat)).2.2) KL36.out ((Kd.R_reads' (Kd.R_after (Kd.R_apart_nil (by (with_reducible repeat (first | apply Kd.R_alloc | apply Kd.R_drewN | apply Kd.R_drew)); exact HO472.out)) hg hat)).2.1)))
                              have n5_ := Aside0.mk (ho)
                              clear HO472
                              clear HO475
                              clear HB
                              clear HR479
                              clear HR489
                              have HO472 := n0_
                              have HO475 := n1_
                              have HB := n2_
                              have HR479 := n3_
                              have HR489 := n4_
                              have HO482 := n5_
                              clear n0_ n1_ n2_ n3_ n4_ n5_
                              clear ho hb hg hat
                              obtain ⟨Ao39, co39, eo39⟩ := Kd.R_slice HO475.out
                              (first | subst eo39 | (injection eo39 with f1_ f2_ f3_; have f4_ := f1_.symm; have f5_ := f3_.symm; clear f1_ f2_ f3_; subst f4_; subst f5_))
                              refine hK.out _ _ trivial (fun hHeld => ?_)
                              clear hK K
                              refine norm_ (a' := ?_) ?_ ?_
                              rotate_left
                              · show Act.put _ (some 50) _ = _
                                simp only [Act.put, List.setIfInBounds_toArray, List.set_cons_zero, List.set_cons_succ, i64_w, i32_w]
                                rfl
                              refine one_ (i := 6) (N := some 52) #[true, true, true, true, true, true, true, true, true, true, true, true, false, false] rfl rfl (one_of HT_.out (by kernel_rfl)) (by decide) (fun K hK => ?_)
                              refine Kd.R_append_rows_step k57 (w0 := w) w.heap.size (by rfl) (.tmp 50) (.tmp 51) 51 57 (.agg #[(.int .i64 0), (.string ⟨#[]⟩)]) 24 rfl Try.underlying51 info57 rfl (by decide) (by omega) v481 y480 t473 _ _ _ (fun k_ => some k_ ≠ (.slice Ao33 t470.length co33 : Value).ownBlock ∧ some k_ ≠ (.slice Ao39 t473.length co39 : Value).ownBlock) (fun _ => False) rfl rfl ?aO ?aR (fun _ _ h => h) (fun _ h => h.elim) ?aF ?aB ?aS ?aL ?_
                              (case aR => repeat (first | exact (Kd.R_reads' HO475.out).2.2 | (with_reducible refine Kd.C_alloc ?_ _) | (with_reducible refine Kd.C_drewN ?_ _) | (with_reducible refine Kd.C_drew ?_)))
                              (case aB => exact (by repeat (first | (with_reducible first | exact HB.out | apply below_alloc | apply pw_below_drewN | apply below_drew1) | exact HB.out)))
                              (case aF => exact (fun k_ hk => ⟨Kd.fresh' (Kd.R_lt (by (with_reducible repeat (first | apply Kd.R_alloc | apply Kd.R_drewN | apply Kd.R_drew)); exact HO472.out)) k_ hk, Kd.fresh' (Kd.R_lt (by (with_reducible repeat (first | apply Kd.R_alloc | apply Kd.R_drewN | apply Kd.R_drew)); exact HO475.out)) k_ hk⟩))
                              (case aO => exact (by (with_reducible repeat (first | apply Kd.R_alloc | apply Kd.R_drewN | apply Kd.R_drew)); exact HO482.out))
                              (case aS => exact (below_size (by repeat (first | (with_reducible first | exact HB.out | apply below_alloc | apply pw_below_drewN | apply below_drew1) | exact HB.out))))
                              (case aL => have := LMc21.out; omega)
                              intro v484 w38 ho hb hg hat
                              rw [← Ny483.out] at ho
                              have n0_ := Aside0.mk (Kd.R_after (ok := (fun k_ => some k_ ≠ (.slice Ao39 t473.length co39 : Value).ownBlock)) (by (with_reducible repeat (first | apply Kd.R_alloc | apply Kd.R_drewN | apply Kd.R_drew)); exact Kd.R_mono HO472.out (fun _ hk => ⟨hk.1.2, hk.2⟩)) hg hat)
                              have n1_ := Aside0.mk (Kd.R_after (ok := (fun k_ => some k_ ≠ (.slice Ao33 t470.length co33 : Value).ownBlock)) (by (with_reducible repeat (first | apply Kd.R_alloc | apply Kd.R_drewN | apply Kd.R_drew)); exact Kd.R_mono HO475.out (fun _ hk => ⟨hk.1.2, hk.2⟩)) hg hat)
                              have n2_ := Aside0.mk (hb)
                              have n3_ := Aside0.mk ((show Kd.C k57 w38 Ao33 y476.length y476 from by rw [Ny476.out]; exact Kd.C_take (m := ((ji17) : Int).toNat) ((Kd.R_reads' (Kd.R_after (ok := (fun k_ => some k_ ≠ (.slice Ao39 t473.length co39 : Value).ownBlock)) (by (with_reducible repeat (first | apply Kd.R_alloc | apply Kd.R_drewN | apply Kd.R_drew)); exact Kd.R_mono HO472.out (fun _ hk => ⟨hk.1.2, hk.2⟩)) hg hat)).2.2) KL35.out))
                              have n4_ := Aside0.mk ((show Kd.C k57 w38 A36 y486.length y486 from by rw [Ny486.out, KA36.out]; exact Kd.C_drop (m := ((ji22) : Int).toNat) (c := co33) ((Kd.R_reads' (Kd.R_after (ok := (fun k_ => some k_ ≠ (.slice Ao39 t473.length co39 : Value).ownBlock)) (by (with_reducible repeat (first | apply Kd.R_alloc | apply Kd.R_drewN | apply Kd.R_drew)); exact Kd.R_mono HO472.out (fun _ hk => ⟨hk.1.2, hk.2⟩)) hg hat)).2.2) KL36.out ((Kd.R_reads' (Kd.R_after (ok := (fun k_ => some k_ ≠ (.slice Ao39 t473.length co39 : Value).ownBlock)) (by (with_reducible repeat (first | apply Kd.R_alloc | apply Kd.R_drewN | apply Kd.R_drew)); exact Kd.R_mono HO472.out (fun _ hk => ⟨hk.1.2, hk.2⟩)) hg hat)).2.1)))
                              have n5_ := Aside0.mk (ho)
                              clear HO472
                              clear HO475
                              clear HB
                              clear HR479
                              clear HR489
                              clear HO482
                              have HO472 := n0_
                              have HO475 := n1_
                              have HB := n2_
                              have HR479 := n3_
                              have HR489 := n4_
                              have HO485 := n5_
                              clear n0_ n1_ n2_ n3_ n4_ n5_
                              clear ho hb hg hat
                              refine hK.out _ _ trivial (fun hHeld => ?_)
                              clear hK K
                              refine norm_ (a' := ?_) ?_ ?_
                              rotate_left
                              · show Act.put _ (some 52) _ = _
                                simp only [Act.put, List.setIfInBounds_toArray, List.set_cons_zero, List.set_cons_succ, i64_w, i32_w]
                                rfl
                              refine one_ (i := 12) (N := some 58) #[true, true, true, true, true, true, true, true, true, true, true, true, true, false] rfl rfl (one_of HT_.out (by kernel_rfl)) (by decide) (fun K hK => ?_)
                              refine Kd.R_append_rows_step k57 (w0 := w) w.heap.size (by rfl) (.tmp 52) (.tmp 57) 51 57 (.agg #[(.int .i64 0), (.string ⟨#[]⟩)]) 24 rfl Try.underlying51 info57 rfl (by decide) (by omega) v484 y483 y486 _ _ _ (fun k_ => some k_ ≠ (.slice Ao33 t470.length co33 : Value).ownBlock ∧ some k_ ≠ (.slice Ao39 t473.length co39 : Value).ownBlock) (fun _ => False) rfl rfl ?aO ?aR (fun _ _ h => h) (fun _ h => h.elim) ?aF ?aB ?aS ?aL ?_
                              (case aR => repeat (first | exact (by repeat (first | (with_reducible exact HR489.out) | (with_reducible refine Kd.C_alloc ?_ _) | (with_reducible refine Kd.C_drewN ?_ _) | (with_reducible refine Kd.C_drew ?_) | exact HR489.out)) | (with_reducible refine Kd.C_alloc ?_ _) | (with_reducible refine Kd.C_drewN ?_ _) | (with_reducible refine Kd.C_drew ?_)))
                              (case aB => exact (by repeat (first | (with_reducible first | exact HB.out | apply below_alloc | apply pw_below_drewN | apply below_drew1) | exact HB.out)))
                              (case aF => exact (fun k_ hk => ⟨Kd.fresh' (Kd.R_lt (by (with_reducible repeat (first | apply Kd.R_alloc | apply Kd.R_drewN | apply Kd.R_drew)); exact HO472.out)) k_ hk, Kd.fresh' (Kd.R_lt (by (with_reducible repeat (first | apply Kd.R_alloc | apply Kd.R_drewN | apply Kd.R_drew)); exact HO475.out)) k_ hk⟩))
                              (case aO => exact (by (with_reducible repeat (first | apply Kd.R_alloc | apply Kd.R_drewN | apply Kd.R_drew)); exact HO485.out))
                              (case aS => exact (below_size (by repeat (first | (with_reducible first | exact HB.out | apply below_alloc | apply pw_below_drewN | apply below_drew1) | exact HB.out))))
                              (case aL => have := LMc25.out; omega)
                              intro v491 w40 ho hb hg hat
                              rw [← Ny490.out] at ho
                              have n0_ := Aside0.mk (Kd.R_after (ok := (fun k_ => some k_ ≠ (.slice Ao39 t473.length co39 : Value).ownBlock)) (by (with_reducible repeat (first | apply Kd.R_alloc | apply Kd.R_drewN | apply Kd.R_drew)); exact HO472.out) hg hat)
                              have n1_ := Aside0.mk (Kd.R_after (ok := (fun k_ => some k_ ≠ (.slice Ao33 t470.length co33 : Value).ownBlock)) (by (with_reducible repeat (first | apply Kd.R_alloc | apply Kd.R_drewN | apply Kd.R_drew)); exact HO475.out) hg hat)
                              have n2_ := Aside0.mk (hb)
                              have n3_ := Aside0.mk ((show Kd.C k57 w40 Ao33 y476.length y476 from by rw [Ny476.out]; exact Kd.C_take (m := ((ji17) : Int).toNat) ((Kd.R_reads' (Kd.R_after (ok := (fun k_ => some k_ ≠ (.slice Ao39 t473.length co39 : Value).ownBlock)) (by (with_reducible repeat (first | apply Kd.R_alloc | apply Kd.R_drewN | apply Kd.R_drew)); exact HO472.out) hg hat)).2.2) KL35.out))
                              have n4_ := Aside0.mk ((show Kd.C k57 w40 A36 y486.length y486 from by rw [Ny486.out, KA36.out]; exact Kd.C_drop (m := ((ji22) : Int).toNat) (c := co33) ((Kd.R_reads' (Kd.R_after (ok := (fun k_ => some k_ ≠ (.slice Ao39 t473.length co39 : Value).ownBlock)) (by (with_reducible repeat (first | apply Kd.R_alloc | apply Kd.R_drewN | apply Kd.R_drew)); exact HO472.out) hg hat)).2.2) KL36.out ((Kd.R_reads' (Kd.R_after (ok := (fun k_ => some k_ ≠ (.slice Ao39 t473.length co39 : Value).ownBlock)) (by (with_reducible repeat (first | apply Kd.R_alloc | apply Kd.R_drewN | apply Kd.R_drew)); exact HO472.out) hg hat)).2.1)))
                              have n5_ := Aside0.mk (ho)
                              clear HO472
                              clear HO475
                              clear HB
                              clear HR479
                              clear HR489
                              clear HO485
                              have HO472 := n0_
                              have HO475 := n1_
                              have HB := n2_
                              have HR479 := n3_
                              have HR489 := n4_
                              have HO492 := n5_
                              clear n0_ n1_ n2_ n3_ n4_ n5_
                              clear ho hb hg hat
                              refine hK.out _ _ trivial (fun hHeld => ?_)
                              clear hK K
                              refine norm_ (a' := ?_) ?_ ?_
                              rotate_left
                              · show Act.put _ (some 58) _ = _
                                simp only [Act.put, List.setIfInBounds_toArray, List.set_cons_zero, List.set_cons_succ, i64_w, i32_w]
                                rfl
                              refine pure_ (i := 13) (N := some 11) (v := ?_) (a' := ?_) #[true, true, true, true, true, true, true, true, true, true, true, true, true, true] rfl rfl (any_of HT_.out (by kernel_rfl)) (fun _ _ _ h => h) (Or.inl ⟨by rfl, ?_⟩) ?_ ?_
                              rotate_left
                              · intro w'
                                go_simp
                                with_reducible rfl
                              rotate_left
                              · simp only [Act.put, List.setIfInBounds_toArray, List.set_cons_zero, List.set_cons_succ, i64_w, i32_w]
                                rfl
                              refine done_ (done_of HT_.out (by kernel_rfl)) ?_
                              try go_wp2_with (first | ((with_reducible refine gate_callee (f := 41) rfl ?_); refine goesL_ (some 64) rfl rfl Try.func41 (by kernel_rfl) rfl #[.slice Ao33 t470.length co33, .int .i64 ji17, .int .i64 (wrap64 (Int.tmod (IntKind.u64.wrap (a2)) (IntKind.u64.wrap (wrap64 ((wrap64 ((t470.length : Int) - (ji17))) + 1))))), .slice Ao39 t473.length co39] rfl (by (try simp only [List.map_toArray, List.map_cons, List.map_nil]); first | done | (simp only [hji17]; rfl) | rfl | (simp only [List.length_drop, List.length_take]; rfl)) ?_; (with_reducible refine (impl_Splice.calls kj4 _ _ t470 ji17 (wrap64 (Int.tmod (IntKind.u64.wrap (a2)) (IntKind.u64.wrap (wrap64 ((wrap64 ((t470.length : Int) - (ji17))) + 1))))) _ _ t473 t493 t494 _ ?side1 ?side2 ?side3 ?side4 A26.out).mono ?_); (case side1 => repeat (first | exact (Kd.R_reads' HO472.out).2.2 | (with_reducible refine Kd.C_alloc ?_ _) | (with_reducible refine Kd.C_drewN ?_ _) | (with_reducible refine Kd.C_drew ?_))); (case side2 => exact (Kd.R_reads' HO472.out).2.1); (case side3 => repeat (first | exact (Kd.R_reads' HO475.out).2.2 | (with_reducible refine Kd.C_alloc ?_ _) | (with_reducible refine Kd.C_drewN ?_ _) | (with_reducible refine Kd.C_drew ?_))); (case side4 => exact (Kd.R_reads' HO475.out).2.1); rintro e w41 ⟨v495, rfl, ho0, hb⟩; refine ⟨_, rfl, ?_⟩; have n0_ := Aside0.mk (Kd.R_elder' (by (with_reducible repeat (first | apply Kd.R_alloc | apply Kd.R_drewN | apply Kd.R_drew)); exact HO472.out) (Kd.R_base ho0) hb); have n1_ := Aside0.mk (Kd.R_elder' (by (with_reducible repeat (first | apply Kd.R_alloc | apply Kd.R_drewN | apply Kd.R_drew)); exact HO475.out) (Kd.R_base ho0) hb); have n2_ := Aside0.mk (Kd.R_elder' (by (with_reducible repeat (first | apply Kd.R_alloc | apply Kd.R_drewN | apply Kd.R_drew)); exact HO492.out) (Kd.R_base ho0) hb); have n3_ := Aside0.mk (Kd.R_lower (Kd.R_new' (Kd.R_new' (Kd.R_new' ho0 (Kd.R_lt (by (with_reducible repeat (first | apply Kd.R_alloc | apply Kd.R_drewN | apply Kd.R_drew)); exact HO472.out))) (Kd.R_lt (by (with_reducible repeat (first | apply Kd.R_alloc | apply Kd.R_drewN | apply Kd.R_drew)); exact HO475.out))) (Kd.R_lt (by (with_reducible repeat (first | apply Kd.R_alloc | apply Kd.R_drewN | apply Kd.R_drew)); exact HO492.out))) (below_size (by repeat (first | (with_reducible first | exact HB.out | apply below_alloc | apply pw_below_drewN | apply below_drew1) | exact HB.out)))); have n4_ := Aside0.mk (Kd.C_below (by repeat (first | (with_reducible exact HR479.out) | (with_reducible refine Kd.C_alloc ?_ _) | (with_reducible refine Kd.C_drewN ?_ _) | (with_reducible refine Kd.C_drew ?_) | exact HR479.out)) hb); have n5_ := Aside0.mk (Kd.C_below (by repeat (first | (with_reducible exact HR489.out) | (with_reducible refine Kd.C_alloc ?_ _) | (with_reducible refine Kd.C_drewN ?_ _) | (with_reducible refine Kd.C_drew ?_) | exact HR489.out)) hb); have n6_ := Aside0.mk (below_step (by repeat (first | (with_reducible first | exact HB.out | apply below_alloc | apply pw_below_drewN | apply below_drew1) | exact HB.out)) hb); clear HO472; clear HO475; clear HO492; clear HR479; clear HR489; clear HB; have HO472 := n0_; have HO475 := n1_; have HO492 := n2_; have HO496 := n3_; have HR479 := n4_; have HR489 := n5_; have HB := n6_; clear n0_ n1_ n2_ n3_ n4_ n5_ n6_; (try clear hb); (try clear hb2); (try clear hk); (try clear hi); (try clear ho0)) | ((with_reducible refine gate_dst (N := 69) rfl ?_); (try (refine gate_guard (by rfl) ?_; dsimp only)); refine Kd.R_lit k57 _ 57 ?hg (N := 69) ?hd (xs := ([(⟨1, (⟨#[97]⟩ : ByteArray)⟩ : S57)] : List (S57))) (inner := [.int .i64 1, .string (⟨#[97]⟩ : ByteArray)]) (ok := fun _ => True) (okp := fun _ => True) ?hr ?hp (fun _ hk => hk) trivial (Below.refl _ _) (Nat.le_refl _) (by simp) ?_; (case hd => rfl); (case hg => rfl); (case hr => first | (go_simp; done) | (go_simp; rfl)); (case hp => exact (Reps.c2 (show Kd.M k57 _ _ _ (⟨1, (⟨#[97]⟩ : ByteArray)⟩ : S57) [.int .i64 1, .string (⟨#[97]⟩ : ByteArray)] from (k57_mkM _ _ _ (⟨1, (⟨#[97]⟩ : ByteArray)⟩ : S57) )) (Reps.none _ _))); intro v498 w42 ho43 hb hg_ hnew_; clear hg_ hnew_; (first | rw [← Ny497.out] at ho43 | (simp only [Int.reduceToNat] at ho43; rw [← Ny497.out] at ho43)); have n0_ := Aside0.mk (Kd.R_elder' (by (with_reducible repeat (first | apply Kd.R_alloc | apply Kd.R_drewN | apply Kd.R_drew)); exact HO472.out) (Kd.R_base ho43) hb); have n1_ := Aside0.mk (Kd.R_elder' (by (with_reducible repeat (first | apply Kd.R_alloc | apply Kd.R_drewN | apply Kd.R_drew)); exact HO475.out) (Kd.R_base ho43) hb); have n2_ := Aside0.mk (Kd.R_elder' (by (with_reducible repeat (first | apply Kd.R_alloc | apply Kd.R_drewN | apply Kd.R_drew)); exact HO492.out) (Kd.R_base ho43) hb); have n3_ := Aside0.mk (Kd.R_elder' (by (with_reducible repeat (first | apply Kd.R_alloc | apply Kd.R_drewN | apply Kd.R_drew)); exact HO496.out) (Kd.R_base ho43) hb); have n4_ := Aside0.mk (Kd.R_lower (Kd.R_new' (Kd.R_new' (Kd.R_new' (Kd.R_new' ho43 (Kd.R_lt (by (with_reducible repeat (first | apply Kd.R_alloc | apply Kd.R_drewN | apply Kd.R_drew)); exact HO472.out))) (Kd.R_lt (by (with_reducible repeat (first | apply Kd.R_alloc | apply Kd.R_drewN | apply Kd.R_drew)); exact HO475.out))) (Kd.R_lt (by (with_reducible repeat (first | apply Kd.R_alloc | apply Kd.R_drewN | apply Kd.R_drew)); exact HO492.out))) (Kd.R_lt (by (with_reducible repeat (first | apply Kd.R_alloc | apply Kd.R_drewN | apply Kd.R_drew)); exact HO496.out))) (below_size (by repeat (first | (with_reducible first | exact HB.out | apply below_alloc | apply pw_below_drewN | apply below_drew1) | exact HB.out)))); have n5_ := Aside0.mk (Kd.C_below (by repeat (first | (with_reducible exact HR479.out) | (with_reducible refine Kd.C_alloc ?_ _) | (with_reducible refine Kd.C_drewN ?_ _) | (with_reducible refine Kd.C_drew ?_) | exact HR479.out)) hb); have n6_ := Aside0.mk (Kd.C_below (by repeat (first | (with_reducible exact HR489.out) | (with_reducible refine Kd.C_alloc ?_ _) | (with_reducible refine Kd.C_drewN ?_ _) | (with_reducible refine Kd.C_drew ?_) | exact HR489.out)) hb); have n7_ := Aside0.mk (below_step (by repeat (first | (with_reducible first | exact HB.out | apply below_alloc | apply pw_below_drewN | apply below_drew1) | exact HB.out)) hb); clear HO472; clear HO475; clear HO492; clear HO496; clear HR479; clear HR489; clear HB; have HO472 := n0_; have HO475 := n1_; have HO492 := n2_; have HO496 := n3_; have HO499 := n4_; have HR479 := n5_; have HR489 := n6_; have HB := n7_; clear n0_ n1_ n2_ n3_ n4_ n5_ n6_ n7_; clear hb ho43; obtain ⟨Ao44, co44, eo44⟩ := Kd.R_slice HO499.out; subst eo44) | ((with_reducible refine gate_callee (f := 41) rfl ?_); refine goesL_ (some 70) rfl rfl Try.func41 (by kernel_rfl) rfl #[.slice none 0 0, .int .i64 0, .int .i64 0, .slice Ao44 y497.length co44] rfl (by (try simp only [List.map_toArray, List.map_cons, List.map_nil]); first | done | rfl | (simp only [List.length_drop, List.length_take]; rfl)) ?_; (refine (impl_Splice.calls kj4 _ _ ([] : List (S57)) 0 0 _ _ y497 t500 t501 _ ?side1 ?side2 ?side3 ?side4 A27.out).mono ?_); (case side1 => exact Kd.C_nil _ _); (case side2 => exact Nat.le_refl _); (case side3 => repeat (first | exact (Kd.R_reads' HO499.out).2.2 | (with_reducible refine Kd.C_alloc ?_ _) | (with_reducible refine Kd.C_drewN ?_ _) | (with_reducible refine Kd.C_drew ?_))); (case side4 => exact (Kd.R_reads' HO499.out).2.1); rintro e w45 ⟨v502, rfl, ho0, hb⟩; refine ⟨_, rfl, ?_⟩; have n0_ := Aside0.mk (Kd.R_elder' (by (with_reducible repeat (first | apply Kd.R_alloc | apply Kd.R_drewN | apply Kd.R_drew)); exact HO472.out) (Kd.R_base ho0) hb); have n1_ := Aside0.mk (Kd.R_elder' (by (with_reducible repeat (first | apply Kd.R_alloc | apply Kd.R_drewN | apply Kd.R_drew)); exact HO475.out) (Kd.R_base ho0) hb); have n2_ := Aside0.mk (Kd.R_elder' (by (with_reducible repeat (first | apply Kd.R_alloc | apply Kd.R_drewN | apply Kd.R_drew)); exact HO492.out) (Kd.R_base ho0) hb); have n3_ := Aside0.mk (Kd.R_elder' (by (with_reducible repeat (first | apply Kd.R_alloc | apply Kd.R_drewN | apply Kd.R_drew)); exact HO496.out) (Kd.R_base ho0) hb); have n4_ := Aside0.mk (Kd.R_elder' (by (with_reducible repeat (first | apply Kd.R_alloc | apply Kd.R_drewN | apply Kd.R_drew)); exact HO499.out) (Kd.R_base ho0) hb); have n5_ := Aside0.mk (Kd.R_lower (Kd.R_new' (Kd.R_new' (Kd.R_new' (Kd.R_new' (Kd.R_new' ho0 (Kd.R_lt (by (with_reducible repeat (first | apply Kd.R_alloc | apply Kd.R_drewN | apply Kd.R_drew)); exact HO472.out))) (Kd.R_lt (by (with_reducible repeat (first | apply Kd.R_alloc | apply Kd.R_drewN | apply Kd.R_drew)); exact HO475.out))) (Kd.R_lt (by (with_reducible repeat (first | apply Kd.R_alloc | apply Kd.R_drewN | apply Kd.R_drew)); exact HO492.out))) (Kd.R_lt (by (with_reducible repeat (first | apply Kd.R_alloc | apply Kd.R_drewN | apply Kd.R_drew)); exact HO496.out))) (Kd.R_lt (by (with_reducible repeat (first | apply Kd.R_alloc | apply Kd.R_drewN | apply Kd.R_drew)); exact HO499.out))) (below_size (by repeat (first | (with_reducible first | exact HB.out | apply below_alloc | apply pw_below_drewN | apply below_drew1) | exact HB.out)))); have n6_ := Aside0.mk (Kd.C_below (by repeat (first | (with_reducible exact HR479.out) | (with_reducible refine Kd.C_alloc ?_ _) | (with_reducible refine Kd.C_drewN ?_ _) | (with_reducible refine Kd.C_drew ?_) | exact HR479.out)) hb); have n7_ := Aside0.mk (Kd.C_below (by repeat (first | (with_reducible exact HR489.out) | (with_reducible refine Kd.C_alloc ?_ _) | (with_reducible refine Kd.C_drewN ?_ _) | (with_reducible refine Kd.C_drew ?_) | exact HR489.out)) hb); have n8_ := Aside0.mk (below_step (by repeat (first | (with_reducible first | exact HB.out | apply below_alloc | apply pw_below_drewN | apply below_drew1) | exact HB.out)) hb); clear HO472; clear HO475; clear HO492; clear HO496; clear HO499; clear HR479; clear HR489; clear HB; have HO472 := n0_; have HO475 := n1_; have HO492 := n2_; have HO496 := n3_; have HO499 := n4_; have HO503 := n5_; have HR479 := n6_; have HR489 := n7_; have HB := n8_; clear n0_ n1_ n2_ n3_ n4_ n5_ n6_ n7_ n8_; (try clear hb); (try clear hb2); (try clear hk); (try clear hi); (try clear ho0); obtain ⟨Ao46, co46, eo46⟩ := Kd.R_slice HO496.out; subst eo46; obtain ⟨Ao47, co47, eo47⟩ := Kd.R_slice HO492.out; subst eo47) | (go_at_call 42; (with_reducible refine (spec_SameParts.calls kj4 _ _ t493 _ _ y490 true _ ?side1 ?side2 ?side3 ?side4 A29.out).mono ?_); (case side1 => repeat (first | exact (Kd.R_reads' HO496.out).2.2 | (with_reducible refine Kd.C_alloc ?_ _) | (with_reducible refine Kd.C_drewN ?_ _) | (with_reducible refine Kd.C_drew ?_))); (case side2 => exact (Kd.R_reads' HO496.out).2.1); (case side3 => repeat (first | exact (Kd.R_reads' HO492.out).2.2 | (with_reducible refine Kd.C_alloc ?_ _) | (with_reducible refine Kd.C_drewN ?_ _) | (with_reducible refine Kd.C_drew ?_))); (case side4 => exact (Kd.R_reads' HO492.out).2.1); rintro e w' ⟨rfl, ⟨nd, rfl⟩⟩; obtain ⟨Ao48, co48, eo48⟩ := Kd.R_slice HO503.out; subst eo48))
                              go_ret
                              exact ⟨by first | rfl | (simp [errW_none, errW_some] <;> rfl) | (simp only [← hji17, ← hji22]; first | rfl | (simp [errW_none, errW_some] <;> rfl)) | (simp [*, errW_none, errW_some] <;> rfl), by repeat (first | (with_reducible first | exact HB.out | apply below_alloc | apply pw_below_drewN | apply below_drew1) | exact HB.out)⟩
                            · replace c30 := Bool.eq_false_iff.mpr c30
                              subst c30
                              have H1 : (some false) = some r := by rw [if_neg (show ¬ (false = true) by decide)] at H; exact H
                              clear H
                              have H := H1
                              clear H1
                              obtain rfl := Option.some.inj H
                              try go_wp2_with (first | ((with_reducible refine gate_callee (f := 35) rfl ?_); refine goesL_ (some 25) rfl rfl Try.func35 (by kernel_rfl) rfl #[.slice A0 l0.length c0, .int .i64 12] rfl (by (try simp only [List.map_toArray, List.map_cons, List.map_nil]); first | done | rfl | (simp only [List.length_drop, List.length_take]; rfl)) ?_; (with_reducible refine (spec_Parted.calls kj4 _ _ l0 12 t470 _ ?side1 ?side2 A13.out).mono ?_); (case side1 => repeat (first | exact (Kd.C_below HR0.out HB.out) | (with_reducible refine Kd.C_alloc ?_ _) | (with_reducible refine Kd.C_drewN ?_ _) | (with_reducible refine Kd.C_drew ?_))); (case side2 => exact HC0.out); rintro e w49 ⟨v471, rfl, ho0, hb⟩; refine ⟨_, rfl, ?_⟩; have n0_ := Aside0.mk (Kd.R_lower ho0 (below_size (by repeat (first | (with_reducible first | exact HB.out | apply below_alloc | apply pw_below_drewN | apply below_drew1) | exact HB.out)))); have n1_ := Aside0.mk (below_step (by repeat (first | (with_reducible first | exact HB.out | apply below_alloc | apply pw_below_drewN | apply below_drew1) | exact HB.out)) hb); clear HB; have HO472 := n0_; have HB := n1_; clear n0_ n1_; (try clear hb); (try clear hb2); (try clear hk); (try clear hi); (try clear ho0)) | ((with_reducible refine gate_callee (f := 35) rfl ?_); refine goesL_ (some 27) rfl rfl Try.func35 (by kernel_rfl) rfl #[.slice A3 l3.length c3, .int .i64 6] rfl (by (try simp only [List.map_toArray, List.map_cons, List.map_nil]); first | done | rfl | (simp only [List.length_drop, List.length_take]; rfl)) ?_; (with_reducible refine (spec_Parted.calls kj4 _ _ l3 6 t473 _ ?side1 ?side2 A14.out).mono ?_); (case side1 => repeat (first | exact (Kd.C_below HR3.out HB.out) | (with_reducible refine Kd.C_alloc ?_ _) | (with_reducible refine Kd.C_drewN ?_ _) | (with_reducible refine Kd.C_drew ?_))); (case side2 => exact HC3.out); rintro e w50 ⟨v474, rfl, ho0, hb⟩; refine ⟨_, rfl, ?_⟩; have n0_ := Aside0.mk (Kd.R_elder' (by (with_reducible repeat (first | apply Kd.R_alloc | apply Kd.R_drewN | apply Kd.R_drew)); exact HO472.out) (Kd.R_base ho0) hb); have n1_ := Aside0.mk (Kd.R_lower (Kd.R_new' ho0 (Kd.R_lt (by (with_reducible repeat (first | apply Kd.R_alloc | apply Kd.R_drewN | apply Kd.R_drew)); exact HO472.out))) (below_size (by repeat (first | (with_reducible first | exact HB.out | apply below_alloc | apply pw_below_drewN | apply below_drew1) | exact HB.out)))); have n2_ := Aside0.mk (below_step (by repeat (first | (with_reducible first | exact HB.out | apply below_alloc | apply pw_below_drewN | apply below_drew1) | exact HB.out)) hb); clear HO472; clear HB; have HO472 := n0_; have HO475 := n1_; have HB := n2_; clear n0_ n1_ n2_; (try clear hb); (try clear hb2); (try clear hk); (try clear hi); (try clear ho0); obtain ⟨Ao51, co51, eo51⟩ := Kd.R_slice HO472.out; subst eo51))
                              have n0_ := Aside0.mk (Kd.R_drew HO472.out)
                              have n1_ := Aside0.mk (Kd.R_drew HO475.out)
                              have n2_ := Aside0.mk (below_drew1 HB.out)
                              clear HO472
                              clear HO475
                              clear HB
                              have HO472 := n0_
                              have HO475 := n1_
                              have HB := n2_
                              clear n0_ n1_ n2_
                              have q53 : ((ji17) : Int) ≤ ((t470.length : Int) : Int) := of_decide_eq_true (by first | (with_reducible assumption) | assumption)
                              obtain ⟨i053, hi053, _, hsz53, _⟩ := info_parts info57
                              have hroom53 : t470.length ≤ co51 := (Kd.R_reads' HO472.out).2.1
                              have hC53 : Kd.C k57 _ Ao51 t470.length t470 := (Kd.R_reads' HO472.out).2.2
                              have hcut53 := cut_to (P := Try.prog) 51 57 .i64 Try.underlying51 hi053 Ao51 t470.length co51 (ji17) (of_decide_eq_true (by first | (with_reducible assumption) | assumption)) q53 hroom53
                              have hr53 := Kd.C_take (m := ((ji17) : Int).toNat) hC53 (by omega)
                              have hy53 : y476.length = ((ji17) : Int).toNat := (by rw [Ny476.out, List.length_take]; omega)
                              rw [← Ny476.out] at hr53
                              rw [← hy53] at hcut53
                              have HR479 := Aside0.mk hr53
                              have HC479 := Aside0.mk (show y476.length ≤ co51 from by omega)
                              clear hr53 hC53 hroom53 hi053 hsz53
                              have KY53 := Aside0.mk hy53
                              clear hy53
                              have KL53 := Aside0.mk (show ((ji17) : Int).toNat ≤ t470.length from by omega)
                              replace q53 := eq_true q53
                              have q54 : ((ji22) : Int) ≤ ((t470.length : Int) : Int) := of_decide_eq_true (by first | (with_reducible assumption) | assumption)
                              obtain ⟨i054, hi054, _, hsz54, _⟩ := info_parts info57
                              have hroom54 : t470.length ≤ co51 := (Kd.R_reads' HO472.out).2.1
                              have hC54 : Kd.C k57 _ Ao51 t470.length t470 := (Kd.R_reads' HO472.out).2.2
                              have q054 : (0 : Int) ≤ ((ji22) : Int) := of_decide_eq_true (by first | (with_reducible assumption) | assumption)
                              have hcut54 := cut_from (P := Try.prog) 51 57 .i64 Try.underlying51 hi054 2 hsz54 Ao51 t470.length co51 (ji22) q054 q54
                              have hr54 := Kd.C_drop (m := ((ji22) : Int).toNat) (c := co51) hC54 (by omega) hroom54
                              obtain ⟨A54, hA54⟩ : ∃ A1, A1 = (if co51 = ((ji22) : Int).toNat then Ao51 else (Ao51 : Option Addr).map (·.add (((ji22) : Int).toNat * 2))) := ⟨_, rfl⟩
                              obtain ⟨c54, hc54⟩ : ∃ c1, c1 = co51 - ((ji22) : Int).toNat := ⟨_, rfl⟩
                              have hy54 : y486.length = t470.length - ((ji22) : Int).toNat := (by rw [Ny486.out, List.length_drop] <;> omega)
                              rw [show (t470).drop ((ji22) : Int).toNat = y486 from Ny486.out.symm] at hr54
                              replace hr54 : Kd.C k57 _ A54 y486.length y486 := (by rw [hA54]; exact hr54)
                              rw [← hy54, ← hA54, ← hc54] at hcut54
                              have HR489 := Aside0.mk hr54
                              have HC489 := Aside0.mk (show y486.length ≤ c54 from by rw [hy54, hc54]; exact Nat.sub_le_sub_right hroom54 _)
                              clear hr54 hC54 hroom54 hi054 hsz54 hc54
                              have KY54 := Aside0.mk hy54
                              have KA54 := Aside0.mk hA54
                              clear hy54 hA54
                              have KL54 := Aside0.mk (show ((ji22) : Int).toNat ≤ t470.length from by omega)
                              replace q54 := eq_true q54
                              refine start_ (n := 14) (S := fun w' => True) (ds := []) #[false, false, false, false, false, false, false, false, false, false, false, false, false, false] (by kernel_rfl) rfl rfl trivial (fun hHeld => ?_); refine with_tabW laws_FnSplice.tab7 laws_FnSplice.bits7 (fun HT_ HW_ => ?_)
                              generalize w50.drew = w52 at HO472 HO475 HB HR479 HR489 hHeld ⊢
                              refine pure_ (i := 0) (N := some 46) (v := ?_) (a' := ?_) #[true, false, false, false, false, false, false, false, false, false, false, false, false, false] rfl rfl (any_of HT_.out (by kernel_rfl)) (fun _ _ _ h => h) (Or.inl ⟨by rfl, ?_⟩) ?_ ?_
                              rotate_left
                              · intro w'
                                go_simp
                                with_reducible rfl
                              rotate_left
                              · simp only [Act.put, List.setIfInBounds_toArray, List.set_cons_zero, List.set_cons_succ, i64_w, i32_w]
                                rfl
                              refine pure_ (i := 1) (N := some 47) (v := ?_) (a' := ?_) #[true, true, false, false, false, false, false, false, false, false, false, false, false, false] rfl rfl (any_of HT_.out (by kernel_rfl)) (fun _ _ _ h => h) (Or.inl ⟨by rfl, ?_⟩) ?_ ?_
                              rotate_left
                              · intro w'
                                go_simp
                                with_reducible rfl
                              rotate_left
                              · simp only [Act.put, List.setIfInBounds_toArray, List.set_cons_zero, List.set_cons_succ, i64_w, i32_w]
                                rfl
                              refine pure_ (i := 2) (N := some 48) (v := ?_) (a' := ?_) #[true, true, true, false, false, false, false, false, false, false, false, false, false, false] rfl rfl (any_of HT_.out (by kernel_rfl)) (fun _ _ _ h => h) (Or.inl ⟨by rfl, ?_⟩) ?_ ?_
                              rotate_left
                              · intro w'
                                go_simp
                                with_reducible rfl
                              rotate_left
                              · simp only [Act.put, List.setIfInBounds_toArray, List.set_cons_zero, List.set_cons_succ, i64_w, i32_w]
                                rfl
                              refine pure_ (i := 3) (N := some 49) (v := ?_) (a' := ?_) #[true, true, true, true, false, false, false, false, false, false, false, false, false, false] rfl rfl (any_of HT_.out (by kernel_rfl)) (fun _ _ _ h => h) (Or.inl ⟨by rfl, ?_⟩) ?_ ?_
                              rotate_left
                              · intro w'
                                go_simp
                                with_reducible rfl
                              rotate_left
                              · simp only [Act.put, List.setIfInBounds_toArray, List.set_cons_zero, List.set_cons_succ, i64_w, i32_w]
                                rfl
                              refine pure_ (i := 5) (N := some 51) (v := ?_) (a' := ?_) #[true, true, true, true, false, true, false, false, false, false, false, false, false, false] rfl rfl (any_of HT_.out (by kernel_rfl)) (fun _ _ _ h => h) (Or.inl ⟨by rfl, ?_⟩) ?_ ?_
                              rotate_left
                              · intro w'
                                go_simp
                                with_reducible rfl
                              rotate_left
                              · simp only [Act.put, List.setIfInBounds_toArray, List.set_cons_zero, List.set_cons_succ, i64_w, i32_w]
                                rfl
                              refine pure_ (i := 7) (N := some 53) (v := ?_) (a' := ?_) #[true, true, true, true, false, true, false, true, false, false, false, false, false, false] rfl rfl (any_of HT_.out (by kernel_rfl)) (fun _ _ _ h => h) (Or.inl ⟨by rfl, ?_⟩) ?_ ?_
                              rotate_left
                              · intro w'
                                go_simp
                                with_reducible rfl
                              rotate_left
                              · simp only [Act.put, List.setIfInBounds_toArray, List.set_cons_zero, List.set_cons_succ, i64_w, i32_w]
                                rfl
                              refine pure_ (i := 8) (N := some 54) (v := ?_) (a' := ?_) #[true, true, true, true, false, true, false, true, true, false, false, false, false, false] rfl rfl (any_of HT_.out (by kernel_rfl)) (fun _ _ _ h => h) (Or.inl ⟨by rfl, ?_⟩) ?_ ?_
                              rotate_left
                              · intro w'
                                go_simp
                                with_reducible rfl
                              rotate_left
                              · simp only [Act.put, List.setIfInBounds_toArray, List.set_cons_zero, List.set_cons_succ, i64_w, i32_w]
                                rfl
                              refine pure_ (i := 9) (N := some 55) (v := ?_) (a' := ?_) #[true, true, true, true, false, true, false, true, true, true, false, false, false, false] rfl rfl (any_of HT_.out (by kernel_rfl)) (fun _ _ _ h => h) (Or.inl ⟨by rfl, ?_⟩) ?_ ?_
                              rotate_left
                              · intro w'
                                go_simp
                                with_reducible rfl
                              rotate_left
                              · simp only [Act.put, List.setIfInBounds_toArray, List.set_cons_zero, List.set_cons_succ, i64_w, i32_w]
                                rfl
                              refine pure_ (i := 10) (N := some 56) (v := ?_) (a' := ?_) #[true, true, true, true, false, true, false, true, true, true, true, false, false, false] rfl rfl (any_of HT_.out (by kernel_rfl)) (fun _ _ _ h => h) (Or.inl ⟨by rfl, ?_⟩) ?_ ?_
                              rotate_left
                              · intro w'
                                go_simp
                                with_reducible rfl
                              rotate_left
                              · simp only [Act.put, List.setIfInBounds_toArray, List.set_cons_zero, List.set_cons_succ, i64_w, i32_w]
                                rfl
                              refine pure_ (i := 11) (N := some 57) (v := ?_) (a' := ?_) #[true, true, true, true, false, true, false, true, true, true, true, true, false, false] rfl rfl (any_of HT_.out (by kernel_rfl)) (fun _ _ _ h => h) (Or.inl ⟨by rfl, ?_⟩) ?_ ?_
                              rotate_left
                              · intro w'
                                go_simp
                                with_reducible rfl
                              rotate_left
                              · simp only [Act.put, List.setIfInBounds_toArray, List.set_cons_zero, List.set_cons_succ, i64_w, i32_w]
                                rfl
                              refine one_ (i := 4) (N := some 50) #[true, true, true, true, true, true, false, true, true, true, true, true, false, false] rfl rfl (one_of HT_.out (by kernel_rfl)) (by decide) (fun K hK => ?_)
                              refine Kd.R_append_rows_step k57 (w0 := w) w.heap.size (by rfl) (.tmp 46) (.tmp 49) 51 57 (.agg #[(.int .i64 0), (.string ⟨#[]⟩)]) 24 rfl Try.underlying51 info57 rfl (by decide) (by omega) (.slice none 0 0) ([] : List (S57)) y476 _ _ _ (fun k_ => some k_ ≠ (.slice Ao51 t470.length co51 : Value).ownBlock ∧ some k_ ≠ (v474 : Value).ownBlock) (fun _ => False) rfl rfl ?aO ?aR (fun _ _ h => h) (fun _ h => h.elim) ?aF ?aB ?aS ?aL ?_
                              (case aR => repeat (first | exact (by repeat (first | (with_reducible exact HR479.out) | (with_reducible refine Kd.C_alloc ?_ _) | (with_reducible refine Kd.C_drewN ?_ _) | (with_reducible refine Kd.C_drew ?_) | exact HR479.out)) | (with_reducible refine Kd.C_alloc ?_ _) | (with_reducible refine Kd.C_drewN ?_ _) | (with_reducible refine Kd.C_drew ?_)))
                              (case aB => exact (by repeat (first | (with_reducible first | exact HB.out | apply below_alloc | apply pw_below_drewN | apply below_drew1) | exact HB.out)))
                              (case aF => exact (fun k_ hk => ⟨Kd.fresh' (Kd.R_lt (by (with_reducible repeat (first | apply Kd.R_alloc | apply Kd.R_drewN | apply Kd.R_drew)); exact HO472.out)) k_ hk, Kd.fresh' (Kd.R_lt (by (with_reducible repeat (first | apply Kd.R_alloc | apply Kd.R_drewN | apply Kd.R_drew)); exact HO475.out)) k_ hk⟩))
                              (case aO => exact ((Kd.R_nil _ _ _ _ (fun k_ => some k_ ≠ (.slice Ao51 t470.length co51 : Value).ownBlock ∧ some k_ ≠ (v474 : Value).ownBlock))))
                              (case aS => exact (below_size (by repeat (first | (with_reducible first | exact HB.out | apply below_alloc | apply pw_below_drewN | apply below_drew1) | exact HB.out))))
                              (case aL => have := LMc20.out; omega)
                              intro v481 w55 ho hb hg hat
                              rw [← Ny480.out] at ho
                              have n0_ := Aside0.mk (Kd.R_after (Kd.R_apart_nil (by (with_reducible repeat (first | apply Kd.R_alloc | apply Kd.R_drewN | apply Kd.R_drew)); exact HO472.out)) hg hat)
                              have n1_ := Aside0.mk (Kd.R_after (Kd.R_apart_nil (by (with_reducible repeat (first | apply Kd.R_alloc | apply Kd.R_drewN | apply Kd.R_drew)); exact HO475.out)) hg hat)
                              have n2_ := Aside0.mk (hb)
                              have n3_ := Aside0.mk ((show Kd.C k57 w55 Ao51 y476.length y476 from by rw [Ny476.out]; exact Kd.C_take (m := ((ji17) : Int).toNat) ((Kd.R_reads' (Kd.R_after (Kd.R_apart_nil (by (with_reducible repeat (first | apply Kd.R_alloc | apply Kd.R_drewN | apply Kd.R_drew)); exact HO472.out)) hg hat)).2.2) KL53.out))
                              have n4_ := Aside0.mk ((show Kd.C k57 w55 A54 y486.length y486 from by rw [Ny486.out, KA54.out]; exact Kd.C_drop (m := ((ji22) : Int).toNat) (c := co51) ((Kd.R_reads' (Kd.R_after (Kd.R_apart_nil (by (with_reducible repeat (first | apply Kd.R_alloc | apply Kd.R_drewN | apply Kd.R_drew)); exact HO472.out)) hg hat)).2.2) KL54.out ((Kd.R_reads' (Kd.R_after (Kd.R_apart_nil (by (with_reducible repeat (first | apply Kd.R_alloc | apply Kd.R_drewN | apply Kd.R_drew)); exact HO472.out)) hg hat)).2.1)))
                              have n5_ := Aside0.mk (ho)
                              clear HO472
                              clear HO475
                              clear HB
                              clear HR479
                              clear HR489
                              have HO472 := n0_
                              have HO475 := n1_
                              have HB := n2_
                              have HR479 := n3_
                              have HR489 := n4_
                              have HO482 := n5_
                              clear n0_ n1_ n2_ n3_ n4_ n5_
                              clear ho hb hg hat
                              obtain ⟨Ao57, co57, eo57⟩ := Kd.R_slice HO475.out
                              (first | subst eo57 | (injection eo57 with f1_ f2_ f3_; have f4_ := f1_.symm; have f5_ := f3_.symm; clear f1_ f2_ f3_; subst f4_; subst f5_))
                              refine hK.out _ _ trivial (fun hHeld => ?_)
                              clear hK K
                              refine norm_ (a' := ?_) ?_ ?_
                              rotate_left
                              · show Act.put _ (some 50) _ = _
                                simp only [Act.put, List.setIfInBounds_toArray, List.set_cons_zero, List.set_cons_succ, i64_w, i32_w]
                                rfl
                              refine one_ (i := 6) (N := some 52) #[true, true, true, true, true, true, true, true, true, true, true, true, false, false] rfl rfl (one_of HT_.out (by kernel_rfl)) (by decide) (fun K hK => ?_)
                              refine Kd.R_append_rows_step k57 (w0 := w) w.heap.size (by rfl) (.tmp 50) (.tmp 51) 51 57 (.agg #[(.int .i64 0), (.string ⟨#[]⟩)]) 24 rfl Try.underlying51 info57 rfl (by decide) (by omega) v481 y480 t473 _ _ _ (fun k_ => some k_ ≠ (.slice Ao51 t470.length co51 : Value).ownBlock ∧ some k_ ≠ (.slice Ao57 t473.length co57 : Value).ownBlock) (fun _ => False) rfl rfl ?aO ?aR (fun _ _ h => h) (fun _ h => h.elim) ?aF ?aB ?aS ?aL ?_
                              (case aR => repeat (first | exact (Kd.R_reads' HO475.out).2.2 | (with_reducible refine Kd.C_alloc ?_ _) | (with_reducible refine Kd.C_drewN ?_ _) | (with_reducible refine Kd.C_drew ?_)))
                              (case aB => exact (by repeat (first | (with_reducible first | exact HB.out | apply below_alloc | apply pw_below_drewN | apply below_drew1) | exact HB.out)))
                              (case aF => exact (fun k_ hk => ⟨Kd.fresh' (Kd.R_lt (by (with_reducible repeat (first | apply Kd.R_alloc | apply Kd.R_drewN | apply Kd.R_drew)); exact HO472.out)) k_ hk, Kd.fresh' (Kd.R_lt (by (with_reducible repeat (first | apply Kd.R_alloc | apply Kd.R_drewN | apply Kd.R_drew)); exact HO475.out)) k_ hk⟩))
                              (case aO => exact (by (with_reducible repeat (first | apply Kd.R_alloc | apply Kd.R_drewN | apply Kd.R_drew)); exact HO482.out))
                              (case aS => exact (below_size (by repeat (first | (with_reducible first | exact HB.out | apply below_alloc | apply pw_below_drewN | apply below_drew1) | exact HB.out))))
                              (case aL => have := LMc21.out; omega)
                              intro v484 w56 ho hb hg hat
                              rw [← Ny483.out] at ho
                              have n0_ := Aside0.mk (Kd.R_after (ok := (fun k_ => some k_ ≠ (.slice Ao57 t473.length co57 : Value).ownBlock)) (by (with_reducible repeat (first | apply Kd.R_alloc | apply Kd.R_drewN | apply Kd.R_drew)); exact Kd.R_mono HO472.out (fun _ hk => ⟨hk.1.2, hk.2⟩)) hg hat)
                              have n1_ := Aside0.mk (Kd.R_after (ok := (fun k_ => some k_ ≠ (.slice Ao51 t470.length co51 : Value).ownBlock)) (by (with_reducible repeat (first | apply Kd.R_alloc | apply Kd.R_drewN | apply Kd.R_drew)); exact Kd.R_mono HO475.out (fun _ hk => ⟨hk.1.2, hk.2⟩)) hg hat)
                              have n2_ := Aside0.mk (hb)
                              have n3_ := Aside0.mk ((show Kd.C k57 w56 Ao51 y476.length y476 from by rw [Ny476.out]; exact Kd.C_take (m := ((ji17) : Int).toNat) ((Kd.R_reads' (Kd.R_after (ok := (fun k_ => some k_ ≠ (.slice Ao57 t473.length co57 : Value).ownBlock)) (by (with_reducible repeat (first | apply Kd.R_alloc | apply Kd.R_drewN | apply Kd.R_drew)); exact Kd.R_mono HO472.out (fun _ hk => ⟨hk.1.2, hk.2⟩)) hg hat)).2.2) KL53.out))
                              have n4_ := Aside0.mk ((show Kd.C k57 w56 A54 y486.length y486 from by rw [Ny486.out, KA54.out]; exact Kd.C_drop (m := ((ji22) : Int).toNat) (c := co51) ((Kd.R_reads' (Kd.R_after (ok := (fun k_ => some k_ ≠ (.slice Ao57 t473.length co57 : Value).ownBlock)) (by (with_reducible repeat (first | apply Kd.R_alloc | apply Kd.R_drewN | apply Kd.R_drew)); exact Kd.R_mono HO472.out (fun _ hk => ⟨hk.1.2, hk.2⟩)) hg hat)).2.2) KL54.out ((Kd.R_reads' (Kd.R_after (ok := (fun k_ => some k_ ≠ (.slice Ao57 t473.length co57 : Value).ownBlock)) (by (with_reducible repeat (first | apply Kd.R_alloc | apply Kd.R_drewN | apply Kd.R_drew)); exact Kd.R_mono HO472.out (fun _ hk => ⟨hk.1.2, hk.2⟩)) hg hat)).2.1)))
                              have n5_ := Aside0.mk (ho)
                              clear HO472
                              clear HO475
                              clear HB
                              clear HR479
                              clear HR489
                              clear HO482
                              have HO472 := n0_
                              have HO475 := n1_
                              have HB := n2_
                              have HR479 := n3_
                              have HR489 := n4_
                              have HO485 := n5_
                              clear n0_ n1_ n2_ n3_ n4_ n5_
                              clear ho hb hg hat
                              refine hK.out _ _ trivial (fun hHeld => ?_)
                              clear hK K
                              refine norm_ (a' := ?_) ?_ ?_
                              rotate_left
                              · show Act.put _ (some 52) _ = _
                                simp only [Act.put, List.setIfInBounds_toArray, List.set_cons_zero, List.set_cons_succ, i64_w, i32_w]
                                rfl
                              refine one_ (i := 12) (N := some 58) #[true, true, true, true, true, true, true, true, true, true, true, true, true, false] rfl rfl (one_of HT_.out (by kernel_rfl)) (by decide) (fun K hK => ?_)
                              refine Kd.R_append_rows_step k57 (w0 := w) w.heap.size (by rfl) (.tmp 52) (.tmp 57) 51 57 (.agg #[(.int .i64 0), (.string ⟨#[]⟩)]) 24 rfl Try.underlying51 info57 rfl (by decide) (by omega) v484 y483 y486 _ _ _ (fun k_ => some k_ ≠ (.slice Ao51 t470.length co51 : Value).ownBlock ∧ some k_ ≠ (.slice Ao57 t473.length co57 : Value).ownBlock) (fun _ => False) rfl rfl ?aO ?aR (fun _ _ h => h) (fun _ h => h.elim) ?aF ?aB ?aS ?aL ?_
                              (case aR => repeat (first | exact (by repeat (first | (with_reducible exact HR489.out) | (with_reducible refine Kd.C_alloc ?_ _) | (with_reducible refine Kd.C_drewN ?_ _) | (with_reducible refine Kd.C_drew ?_) | exact HR489.out)) | (with_reducible refine Kd.C_alloc ?_ _) | (with_reducible refine Kd.C_drewN ?_ _) | (with_reducible refine Kd.C_drew ?_)))
                              (case aB => exact (by repeat (first | (with_reducible first | exact HB.out | apply below_alloc | apply pw_below_drewN | apply below_drew1) | exact HB.out)))
                              (case aF => exact (fun k_ hk => ⟨Kd.fresh' (Kd.R_lt (by (with_reducible repeat (first | apply Kd.R_alloc | apply Kd.R_drewN | apply Kd.R_drew)); exact HO472.out)) k_ hk, Kd.fresh' (Kd.R_lt (by (with_reducible repeat (first | apply Kd.R_alloc | apply Kd.R_drewN | apply Kd.R_drew)); exact HO475.out)) k_ hk⟩))
                              (case aO => exact (by (with_reducible repeat (first | apply Kd.R_alloc | apply Kd.R_drewN | apply Kd.R_drew)); exact HO485.out))
                              (case aS => exact (below_size (by repeat (first | (with_reducible first | exact HB.out | apply below_alloc | apply pw_below_drewN | apply below_drew1) | exact HB.out))))
                              (case aL => have := LMc25.out; omega)
                              intro v491 w58 ho hb hg hat
                              rw [← Ny490.out] at ho
                              have n0_ := Aside0.mk (Kd.R_after (ok := (fun k_ => some k_ ≠ (.slice Ao57 t473.length co57 : Value).ownBlock)) (by (with_reducible repeat (first | apply Kd.R_alloc | apply Kd.R_drewN | apply Kd.R_drew)); exact HO472.out) hg hat)
                              have n1_ := Aside0.mk (Kd.R_after (ok := (fun k_ => some k_ ≠ (.slice Ao51 t470.length co51 : Value).ownBlock)) (by (with_reducible repeat (first | apply Kd.R_alloc | apply Kd.R_drewN | apply Kd.R_drew)); exact HO475.out) hg hat)
                              have n2_ := Aside0.mk (hb)
                              have n3_ := Aside0.mk ((show Kd.C k57 w58 Ao51 y476.length y476 from by rw [Ny476.out]; exact Kd.C_take (m := ((ji17) : Int).toNat) ((Kd.R_reads' (Kd.R_after (ok := (fun k_ => some k_ ≠ (.slice Ao57 t473.length co57 : Value).ownBlock)) (by (with_reducible repeat (first | apply Kd.R_alloc | apply Kd.R_drewN | apply Kd.R_drew)); exact HO472.out) hg hat)).2.2) KL53.out))
                              have n4_ := Aside0.mk ((show Kd.C k57 w58 A54 y486.length y486 from by rw [Ny486.out, KA54.out]; exact Kd.C_drop (m := ((ji22) : Int).toNat) (c := co51) ((Kd.R_reads' (Kd.R_after (ok := (fun k_ => some k_ ≠ (.slice Ao57 t473.length co57 : Value).ownBlock)) (by (with_reducible repeat (first | apply Kd.R_alloc | apply Kd.R_drewN | apply Kd.R_drew)); exact HO472.out) hg hat)).2.2) KL54.out ((Kd.R_reads' (Kd.R_after (ok := (fun k_ => some k_ ≠ (.slice Ao57 t473.length co57 : Value).ownBlock)) (by (with_reducible repeat (first | apply Kd.R_alloc | apply Kd.R_drewN | apply Kd.R_drew)); exact HO472.out) hg hat)).2.1)))
                              have n5_ := Aside0.mk (ho)
                              clear HO472
                              clear HO475
                              clear HB
                              clear HR479
                              clear HR489
                              clear HO485
                              have HO472 := n0_
                              have HO475 := n1_
                              have HB := n2_
                              have HR479 := n3_
                              have HR489 := n4_
                              have HO492 := n5_
                              clear n0_ n1_ n2_ n3_ n4_ n5_
                              clear ho hb hg hat
                              refine hK.out _ _ trivial (fun hHeld => ?_)
                              clear hK K
                              refine norm_ (a' := ?_) ?_ ?_
                              rotate_left
                              · show Act.put _ (some 58) _ = _
                                simp only [Act.put, List.setIfInBounds_toArray, List.set_cons_zero, List.set_cons_succ, i64_w, i32_w]
                                rfl
                              refine pure_ (i := 13) (N := some 11) (v := ?_) (a' := ?_) #[true, true, true, true, true, true, true, true, true, true, true, true, true, true] rfl rfl (any_of HT_.out (by kernel_rfl)) (fun _ _ _ h => h) (Or.inl ⟨by rfl, ?_⟩) ?_ ?_
                              rotate_left
                              · intro w'
                                go_simp
                                with_reducible rfl
                              rotate_left
                              · simp only [Act.put, List.setIfInBounds_toArray, List.set_cons_zero, List.set_cons_succ, i64_w, i32_w]
                                rfl
                              refine done_ (done_of HT_.out (by kernel_rfl)) ?_
                              try go_wp2_with (first | ((with_reducible refine gate_callee (f := 41) rfl ?_); refine goesL_ (some 64) rfl rfl Try.func41 (by kernel_rfl) rfl #[.slice Ao51 t470.length co51, .int .i64 ji17, .int .i64 (wrap64 (Int.tmod (IntKind.u64.wrap (a2)) (IntKind.u64.wrap (wrap64 ((wrap64 ((t470.length : Int) - (ji17))) + 1))))), .slice Ao57 t473.length co57] rfl (by (try simp only [List.map_toArray, List.map_cons, List.map_nil]); first | done | (simp only [hji17]; rfl) | rfl | (simp only [List.length_drop, List.length_take]; rfl)) ?_; (with_reducible refine (impl_Splice.calls kj4 _ _ t470 ji17 (wrap64 (Int.tmod (IntKind.u64.wrap (a2)) (IntKind.u64.wrap (wrap64 ((wrap64 ((t470.length : Int) - (ji17))) + 1))))) _ _ t473 t493 t494 _ ?side1 ?side2 ?side3 ?side4 A26.out).mono ?_); (case side1 => repeat (first | exact (Kd.R_reads' HO472.out).2.2 | (with_reducible refine Kd.C_alloc ?_ _) | (with_reducible refine Kd.C_drewN ?_ _) | (with_reducible refine Kd.C_drew ?_))); (case side2 => exact (Kd.R_reads' HO472.out).2.1); (case side3 => repeat (first | exact (Kd.R_reads' HO475.out).2.2 | (with_reducible refine Kd.C_alloc ?_ _) | (with_reducible refine Kd.C_drewN ?_ _) | (with_reducible refine Kd.C_drew ?_))); (case side4 => exact (Kd.R_reads' HO475.out).2.1); rintro e w59 ⟨v495, rfl, ho0, hb⟩; refine ⟨_, rfl, ?_⟩; have n0_ := Aside0.mk (Kd.R_elder' (by (with_reducible repeat (first | apply Kd.R_alloc | apply Kd.R_drewN | apply Kd.R_drew)); exact HO472.out) (Kd.R_base ho0) hb); have n1_ := Aside0.mk (Kd.R_elder' (by (with_reducible repeat (first | apply Kd.R_alloc | apply Kd.R_drewN | apply Kd.R_drew)); exact HO475.out) (Kd.R_base ho0) hb); have n2_ := Aside0.mk (Kd.R_elder' (by (with_reducible repeat (first | apply Kd.R_alloc | apply Kd.R_drewN | apply Kd.R_drew)); exact HO492.out) (Kd.R_base ho0) hb); have n3_ := Aside0.mk (Kd.R_lower (Kd.R_new' (Kd.R_new' (Kd.R_new' ho0 (Kd.R_lt (by (with_reducible repeat (first | apply Kd.R_alloc | apply Kd.R_drewN | apply Kd.R_drew)); exact HO472.out))) (Kd.R_lt (by (with_reducible repeat (first | apply Kd.R_alloc | apply Kd.R_drewN | apply Kd.R_drew)); exact HO475.out))) (Kd.R_lt (by (with_reducible repeat (first | apply Kd.R_alloc | apply Kd.R_drewN | apply Kd.R_drew)); exact HO492.out))) (below_size (by repeat (first | (with_reducible first | exact HB.out | apply below_alloc | apply pw_below_drewN | apply below_drew1) | exact HB.out)))); have n4_ := Aside0.mk (Kd.C_below (by repeat (first | (with_reducible exact HR479.out) | (with_reducible refine Kd.C_alloc ?_ _) | (with_reducible refine Kd.C_drewN ?_ _) | (with_reducible refine Kd.C_drew ?_) | exact HR479.out)) hb); have n5_ := Aside0.mk (Kd.C_below (by repeat (first | (with_reducible exact HR489.out) | (with_reducible refine Kd.C_alloc ?_ _) | (with_reducible refine Kd.C_drewN ?_ _) | (with_reducible refine Kd.C_drew ?_) | exact HR489.out)) hb); have n6_ := Aside0.mk (below_step (by repeat (first | (with_reducible first | exact HB.out | apply below_alloc | apply pw_below_drewN | apply below_drew1) | exact HB.out)) hb); clear HO472; clear HO475; clear HO492; clear HR479; clear HR489; clear HB; have HO472 := n0_; have HO475 := n1_; have HO492 := n2_; have HO496 := n3_; have HR479 := n4_; have HR489 := n5_; have HB := n6_; clear n0_ n1_ n2_ n3_ n4_ n5_ n6_; (try clear hb); (try clear hb2); (try clear hk); (try clear hi); (try clear ho0)) | ((with_reducible refine gate_dst (N := 69) rfl ?_); (try (refine gate_guard (by rfl) ?_; dsimp only)); refine Kd.R_lit k57 _ 57 ?hg (N := 69) ?hd (xs := ([(⟨1, (⟨#[97]⟩ : ByteArray)⟩ : S57)] : List (S57))) (inner := [.int .i64 1, .string (⟨#[97]⟩ : ByteArray)]) (ok := fun _ => True) (okp := fun _ => True) ?hr ?hp (fun _ hk => hk) trivial (Below.refl _ _) (Nat.le_refl _) (by simp) ?_; (case hd => rfl); (case hg => rfl); (case hr => first | (go_simp; done) | (go_simp; rfl)); (case hp => exact (Reps.c2 (show Kd.M k57 _ _ _ (⟨1, (⟨#[97]⟩ : ByteArray)⟩ : S57) [.int .i64 1, .string (⟨#[97]⟩ : ByteArray)] from (k57_mkM _ _ _ (⟨1, (⟨#[97]⟩ : ByteArray)⟩ : S57) )) (Reps.none _ _))); intro v498 w60 ho61 hb hg_ hnew_; clear hg_ hnew_; (first | rw [← Ny497.out] at ho61 | (simp only [Int.reduceToNat] at ho61; rw [← Ny497.out] at ho61)); have n0_ := Aside0.mk (Kd.R_elder' (by (with_reducible repeat (first | apply Kd.R_alloc | apply Kd.R_drewN | apply Kd.R_drew)); exact HO472.out) (Kd.R_base ho61) hb); have n1_ := Aside0.mk (Kd.R_elder' (by (with_reducible repeat (first | apply Kd.R_alloc | apply Kd.R_drewN | apply Kd.R_drew)); exact HO475.out) (Kd.R_base ho61) hb); have n2_ := Aside0.mk (Kd.R_elder' (by (with_reducible repeat (first | apply Kd.R_alloc | apply Kd.R_drewN | apply Kd.R_drew)); exact HO492.out) (Kd.R_base ho61) hb); have n3_ := Aside0.mk (Kd.R_elder' (by (with_reducible repeat (first | apply Kd.R_alloc | apply Kd.R_drewN | apply Kd.R_drew)); exact HO496.out) (Kd.R_base ho61) hb); have n4_ := Aside0.mk (Kd.R_lower (Kd.R_new' (Kd.R_new' (Kd.R_new' (Kd.R_new' ho61 (Kd.R_lt (by (with_reducible repeat (first | apply Kd.R_alloc | apply Kd.R_drewN | apply Kd.R_drew)); exact HO472.out))) (Kd.R_lt (by (with_reducible repeat (first | apply Kd.R_alloc | apply Kd.R_drewN | apply Kd.R_drew)); exact HO475.out))) (Kd.R_lt (by (with_reducible repeat (first | apply Kd.R_alloc | apply Kd.R_drewN | apply Kd.R_drew)); exact HO492.out))) (Kd.R_lt (by (with_reducible repeat (first | apply Kd.R_alloc | apply Kd.R_drewN | apply Kd.R_drew)); exact HO496.out))) (below_size (by repeat (first | (with_reducible first | exact HB.out | apply below_alloc | apply pw_below_drewN | apply below_drew1) | exact HB.out)))); have n5_ := Aside0.mk (Kd.C_below (by repeat (first | (with_reducible exact HR479.out) | (with_reducible refine Kd.C_alloc ?_ _) | (with_reducible refine Kd.C_drewN ?_ _) | (with_reducible refine Kd.C_drew ?_) | exact HR479.out)) hb); have n6_ := Aside0.mk (Kd.C_below (by repeat (first | (with_reducible exact HR489.out) | (with_reducible refine Kd.C_alloc ?_ _) | (with_reducible refine Kd.C_drewN ?_ _) | (with_reducible refine Kd.C_drew ?_) | exact HR489.out)) hb); have n7_ := Aside0.mk (below_step (by repeat (first | (with_reducible first | exact HB.out | apply below_alloc | apply pw_below_drewN | apply below_drew1) | exact HB.out)) hb); clear HO472; clear HO475; clear HO492; clear HO496; clear HR479; clear HR489; clear HB; have HO472 := n0_; have HO475 := n1_; have HO492 := n2_; have HO496 := n3_; have HO499 := n4_; have HR479 := n5_; have HR489 := n6_; have HB := n7_; clear n0_ n1_ n2_ n3_ n4_ n5_ n6_ n7_; clear hb ho61; obtain ⟨Ao62, co62, eo62⟩ := Kd.R_slice HO499.out; subst eo62) | ((with_reducible refine gate_callee (f := 41) rfl ?_); refine goesL_ (some 70) rfl rfl Try.func41 (by kernel_rfl) rfl #[.slice none 0 0, .int .i64 0, .int .i64 0, .slice Ao62 y497.length co62] rfl (by (try simp only [List.map_toArray, List.map_cons, List.map_nil]); first | done | rfl | (simp only [List.length_drop, List.length_take]; rfl)) ?_; (refine (impl_Splice.calls kj4 _ _ ([] : List (S57)) 0 0 _ _ y497 t500 t501 _ ?side1 ?side2 ?side3 ?side4 A27.out).mono ?_); (case side1 => exact Kd.C_nil _ _); (case side2 => exact Nat.le_refl _); (case side3 => repeat (first | exact (Kd.R_reads' HO499.out).2.2 | (with_reducible refine Kd.C_alloc ?_ _) | (with_reducible refine Kd.C_drewN ?_ _) | (with_reducible refine Kd.C_drew ?_))); (case side4 => exact (Kd.R_reads' HO499.out).2.1); rintro e w63 ⟨v502, rfl, ho0, hb⟩; refine ⟨_, rfl, ?_⟩; have n0_ := Aside0.mk (Kd.R_elder' (by (with_reducible repeat (first | apply Kd.R_alloc | apply Kd.R_drewN | apply Kd.R_drew)); exact HO472.out) (Kd.R_base ho0) hb); have n1_ := Aside0.mk (Kd.R_elder' (by (with_reducible repeat (first | apply Kd.R_alloc | apply Kd.R_drewN | apply Kd.R_drew)); exact HO475.out) (Kd.R_base ho0) hb); have n2_ := Aside0.mk (Kd.R_elder' (by (with_reducible repeat (first | apply Kd.R_alloc | apply Kd.R_drewN | apply Kd.R_drew)); exact HO492.out) (Kd.R_base ho0) hb); have n3_ := Aside0.mk (Kd.R_elder' (by (with_reducible repeat (first | apply Kd.R_alloc | apply Kd.R_drewN | apply Kd.R_drew)); exact HO496.out) (Kd.R_base ho0) hb); have n4_ := Aside0.mk (Kd.R_elder' (by (with_reducible repeat (first | apply Kd.R_alloc | apply Kd.R_drewN | apply Kd.R_drew)); exact HO499.out) (Kd.R_base ho0) hb); have n5_ := Aside0.mk (Kd.R_lower (Kd.R_new' (Kd.R_new' (Kd.R_new' (Kd.R_new' (Kd.R_new' ho0 (Kd.R_lt (by (with_reducible repeat (first | apply Kd.R_alloc | apply Kd.R_drewN | apply Kd.R_drew)); exact HO472.out))) (Kd.R_lt (by (with_reducible repeat (first | apply Kd.R_alloc | apply Kd.R_drewN | apply Kd.R_drew)); exact HO475.out))) (Kd.R_lt (by (with_reducible repeat (first | apply Kd.R_alloc | apply Kd.R_drewN | apply Kd.R_drew)); exact HO492.out))) (Kd.R_lt (by (with_reducible repeat (first | apply Kd.R_alloc | apply Kd.R_drewN | apply Kd.R_drew)); exact HO496.out))) (Kd.R_lt (by (with_reducible repeat (first | apply Kd.R_alloc | apply Kd.R_drewN | apply Kd.R_drew)); exact HO499.out))) (below_size (by repeat (first | (with_reducible first | exact HB.out | apply below_alloc | apply pw_below_drewN | apply below_drew1) | exact HB.out)))); have n6_ := Aside0.mk (Kd.C_below (by repeat (first | (with_reducible exact HR479.out) | (with_reducible refine Kd.C_alloc ?_ _) | (with_reducible refine Kd.C_drewN ?_ _) | (with_reducible refine Kd.C_drew ?_) | exact HR479.out)) hb); have n7_ := Aside0.mk (Kd.C_below (by repeat (first | (with_reducible exact HR489.out) | (with_reducible refine Kd.C_alloc ?_ _) | (with_reducible refine Kd.C_drewN ?_ _) | (with_reducible refine Kd.C_drew ?_) | exact HR489.out)) hb); have n8_ := Aside0.mk (below_step (by repeat (first | (with_reducible first | exact HB.out | apply below_alloc | apply pw_below_drewN | apply below_drew1) | exact HB.out)) hb); clear HO472; clear HO475; clear HO492; clear HO496; clear HO499; clear HR479; clear HR489; clear HB; have HO472 := n0_; have HO475 := n1_; have HO492 := n2_; have HO496 := n3_; have HO499 := n4_; have HO503 := n5_; have HR479 := n6_; have HR489 := n7_; have HB := n8_; clear n0_ n1_ n2_ n3_ n4_ n5_ n6_ n7_ n8_; (try clear hb); (try clear hb2); (try clear hk); (try clear hi); (try clear ho0); obtain ⟨Ao64, co64, eo64⟩ := Kd.R_slice HO496.out; subst eo64; obtain ⟨Ao65, co65, eo65⟩ := Kd.R_slice HO492.out; subst eo65) | (go_at_call 42; (with_reducible refine (spec_SameParts.calls kj4 _ _ t493 _ _ y490 false _ ?side1 ?side2 ?side3 ?side4 A29.out).mono ?_); (case side1 => repeat (first | exact (Kd.R_reads' HO496.out).2.2 | (with_reducible refine Kd.C_alloc ?_ _) | (with_reducible refine Kd.C_drewN ?_ _) | (with_reducible refine Kd.C_drew ?_))); (case side2 => exact (Kd.R_reads' HO496.out).2.1); (case side3 => repeat (first | exact (Kd.R_reads' HO492.out).2.2 | (with_reducible refine Kd.C_alloc ?_ _) | (with_reducible refine Kd.C_drewN ?_ _) | (with_reducible refine Kd.C_drew ?_))); (case side4 => exact (Kd.R_reads' HO492.out).2.1); rintro e w' ⟨rfl, ⟨nd, rfl⟩⟩))
                              go_ret
                              exact ⟨by first | rfl | (simp [errW_none, errW_some] <;> rfl) | (simp only [← hji17, ← hji22]; first | rfl | (simp [errW_none, errW_some] <;> rfl)) | (simp [*, errW_none, errW_some] <;> rfl), by repeat (first | (with_reducible first | exact HB.out | apply below_alloc | apply pw_below_drewN | apply below_drew1) | exact HB.out)⟩
                          · rw [if_neg c28] at H
                            have c28b0 : (t494 == 0) = false := beq_eq_false_iff_ne.mpr c28
                            have c28b1 : (t494 != 0) = true := bne_iff_ne.mpr c28
                            obtain rfl := Option.some.inj H
                            try go_wp2_with (first | ((with_reducible refine gate_callee (f := 35) rfl ?_); refine goesL_ (some 25) rfl rfl Try.func35 (by kernel_rfl) rfl #[.slice A0 l0.length c0, .int .i64 12] rfl (by (try simp only [List.map_toArray, List.map_cons, List.map_nil]); first | done | rfl | (simp only [List.length_drop, List.length_take]; rfl)) ?_; (with_reducible refine (spec_Parted.calls kj4 _ _ l0 12 t470 _ ?side1 ?side2 A13.out).mono ?_); (case side1 => repeat (first | exact (Kd.C_below HR0.out HB.out) | (with_reducible refine Kd.C_alloc ?_ _) | (with_reducible refine Kd.C_drewN ?_ _) | (with_reducible refine Kd.C_drew ?_))); (case side2 => exact HC0.out); rintro e w66 ⟨v471, rfl, ho0, hb⟩; refine ⟨_, rfl, ?_⟩; have n0_ := Aside0.mk (Kd.R_lower ho0 (below_size (by repeat (first | (with_reducible first | exact HB.out | apply below_alloc | apply pw_below_drewN | apply below_drew1) | exact HB.out)))); have n1_ := Aside0.mk (below_step (by repeat (first | (with_reducible first | exact HB.out | apply below_alloc | apply pw_below_drewN | apply below_drew1) | exact HB.out)) hb); clear HB; have HO472 := n0_; have HB := n1_; clear n0_ n1_; (try clear hb); (try clear hb2); (try clear hk); (try clear hi); (try clear ho0)) | ((with_reducible refine gate_callee (f := 35) rfl ?_); refine goesL_ (some 27) rfl rfl Try.func35 (by kernel_rfl) rfl #[.slice A3 l3.length c3, .int .i64 6] rfl (by (try simp only [List.map_toArray, List.map_cons, List.map_nil]); first | done | rfl | (simp only [List.length_drop, List.length_take]; rfl)) ?_; (with_reducible refine (spec_Parted.calls kj4 _ _ l3 6 t473 _ ?side1 ?side2 A14.out).mono ?_); (case side1 => repeat (first | exact (Kd.C_below HR3.out HB.out) | (with_reducible refine Kd.C_alloc ?_ _) | (with_reducible refine Kd.C_drewN ?_ _) | (with_reducible refine Kd.C_drew ?_))); (case side2 => exact HC3.out); rintro e w67 ⟨v474, rfl, ho0, hb⟩; refine ⟨_, rfl, ?_⟩; have n0_ := Aside0.mk (Kd.R_elder' (by (with_reducible repeat (first | apply Kd.R_alloc | apply Kd.R_drewN | apply Kd.R_drew)); exact HO472.out) (Kd.R_base ho0) hb); have n1_ := Aside0.mk (Kd.R_lower (Kd.R_new' ho0 (Kd.R_lt (by (with_reducible repeat (first | apply Kd.R_alloc | apply Kd.R_drewN | apply Kd.R_drew)); exact HO472.out))) (below_size (by repeat (first | (with_reducible first | exact HB.out | apply below_alloc | apply pw_below_drewN | apply below_drew1) | exact HB.out)))); have n2_ := Aside0.mk (below_step (by repeat (first | (with_reducible first | exact HB.out | apply below_alloc | apply pw_below_drewN | apply below_drew1) | exact HB.out)) hb); clear HO472; clear HB; have HO472 := n0_; have HO475 := n1_; have HB := n2_; clear n0_ n1_ n2_; (try clear hb); (try clear hb2); (try clear hk); (try clear hi); (try clear ho0); obtain ⟨Ao68, co68, eo68⟩ := Kd.R_slice HO472.out; subst eo68))
                            have n0_ := Aside0.mk (Kd.R_drew HO472.out)
                            have n1_ := Aside0.mk (Kd.R_drew HO475.out)
                            have n2_ := Aside0.mk (below_drew1 HB.out)
                            clear HO472
                            clear HO475
                            clear HB
                            have HO472 := n0_
                            have HO475 := n1_
                            have HB := n2_
                            clear n0_ n1_ n2_
                            have q70 : ((ji17) : Int) ≤ ((t470.length : Int) : Int) := of_decide_eq_true (by first | (with_reducible assumption) | assumption)
                            obtain ⟨i070, hi070, _, hsz70, _⟩ := info_parts info57
                            have hroom70 : t470.length ≤ co68 := (Kd.R_reads' HO472.out).2.1
                            have hC70 : Kd.C k57 _ Ao68 t470.length t470 := (Kd.R_reads' HO472.out).2.2
                            have hcut70 := cut_to (P := Try.prog) 51 57 .i64 Try.underlying51 hi070 Ao68 t470.length co68 (ji17) (of_decide_eq_true (by first | (with_reducible assumption) | assumption)) q70 hroom70
                            have hr70 := Kd.C_take (m := ((ji17) : Int).toNat) hC70 (by omega)
                            have hy70 : y476.length = ((ji17) : Int).toNat := (by rw [Ny476.out, List.length_take]; omega)
                            rw [← Ny476.out] at hr70
                            rw [← hy70] at hcut70
                            have HR479 := Aside0.mk hr70
                            have HC479 := Aside0.mk (show y476.length ≤ co68 from by omega)
                            clear hr70 hC70 hroom70 hi070 hsz70
                            have KY70 := Aside0.mk hy70
                            clear hy70
                            have KL70 := Aside0.mk (show ((ji17) : Int).toNat ≤ t470.length from by omega)
                            replace q70 := eq_true q70
                            have q71 : ((ji22) : Int) ≤ ((t470.length : Int) : Int) := of_decide_eq_true (by first | (with_reducible assumption) | assumption)
                            obtain ⟨i071, hi071, _, hsz71, _⟩ := info_parts info57
                            have hroom71 : t470.length ≤ co68 := (Kd.R_reads' HO472.out).2.1
                            have hC71 : Kd.C k57 _ Ao68 t470.length t470 := (Kd.R_reads' HO472.out).2.2
                            have q071 : (0 : Int) ≤ ((ji22) : Int) := of_decide_eq_true (by first | (with_reducible assumption) | assumption)
                            have hcut71 := cut_from (P := Try.prog) 51 57 .i64 Try.underlying51 hi071 2 hsz71 Ao68 t470.length co68 (ji22) q071 q71
                            have hr71 := Kd.C_drop (m := ((ji22) : Int).toNat) (c := co68) hC71 (by omega) hroom71
                            obtain ⟨A71, hA71⟩ : ∃ A1, A1 = (if co68 = ((ji22) : Int).toNat then Ao68 else (Ao68 : Option Addr).map (·.add (((ji22) : Int).toNat * 2))) := ⟨_, rfl⟩
                            obtain ⟨c71, hc71⟩ : ∃ c1, c1 = co68 - ((ji22) : Int).toNat := ⟨_, rfl⟩
                            have hy71 : y486.length = t470.length - ((ji22) : Int).toNat := (by rw [Ny486.out, List.length_drop] <;> omega)
                            rw [show (t470).drop ((ji22) : Int).toNat = y486 from Ny486.out.symm] at hr71
                            replace hr71 : Kd.C k57 _ A71 y486.length y486 := (by rw [hA71]; exact hr71)
                            rw [← hy71, ← hA71, ← hc71] at hcut71
                            have HR489 := Aside0.mk hr71
                            have HC489 := Aside0.mk (show y486.length ≤ c71 from by rw [hy71, hc71]; exact Nat.sub_le_sub_right hroom71 _)
                            clear hr71 hC71 hroom71 hi071 hsz71 hc71
                            have KY71 := Aside0.mk hy71
                            have KA71 := Aside0.mk hA71
                            clear hy71 hA71
                            have KL71 := Aside0.mk (show ((ji22) : Int).toNat ≤ t470.length from by omega)
                            replace q71 := eq_true q71
                            refine start_ (n := 14) (S := fun w' => True) (ds := []) #[false, false, false, false, false, false, false, false, false, false, false, false, false, false] (by kernel_rfl) rfl rfl trivial (fun hHeld => ?_); refine with_tabW laws_FnSplice.tab7 laws_FnSplice.bits7 (fun HT_ HW_ => ?_)
                            generalize w67.drew = w69 at HO472 HO475 HB HR479 HR489 hHeld ⊢
                            refine pure_ (i := 0) (N := some 46) (v := ?_) (a' := ?_) #[true, false, false, false, false, false, false, false, false, false, false, false, false, false] rfl rfl (any_of HT_.out (by kernel_rfl)) (fun _ _ _ h => h) (Or.inl ⟨by rfl, ?_⟩) ?_ ?_
                            rotate_left
                            · intro w'
                              go_simp
                              with_reducible rfl
                            rotate_left
                            · simp only [Act.put, List.setIfInBounds_toArray, List.set_cons_zero, List.set_cons_succ, i64_w, i32_w]
                              rfl
                            refine pure_ (i := 1) (N := some 47) (v := ?_) (a' := ?_) #[true, true, false, false, false, false, false, false, false, false, false, false, false, false] rfl rfl (any_of HT_.out (by kernel_rfl)) (fun _ _ _ h => h) (Or.inl ⟨by rfl, ?_⟩) ?_ ?_
                            rotate_left
                            · intro w'
                              go_simp
                              with_reducible rfl
                            rotate_left
                            · simp only [Act.put, List.setIfInBounds_toArray, List.set_cons_zero, List.set_cons_succ, i64_w, i32_w]
                              rfl
                            refine pure_ (i := 2) (N := some 48) (v := ?_) (a' := ?_) #[true, true, true, false, false, false, false, false, false, false, false, false, false, false] rfl rfl (any_of HT_.out (by kernel_rfl)) (fun _ _ _ h => h) (Or.inl ⟨by rfl, ?_⟩) ?_ ?_
                            rotate_left
                            · intro w'
                              go_simp
                              with_reducible rfl
                            rotate_left
                            · simp only [Act.put, List.setIfInBounds_toArray, List.set_cons_zero, List.set_cons_succ, i64_w, i32_w]
                              rfl
                            refine pure_ (i := 3) (N := some 49) (v := ?_) (a' := ?_) #[true, true, true, true, false, false, false, false, false, false, false, false, false, false] rfl rfl (any_of HT_.out (by kernel_rfl)) (fun _ _ _ h => h) (Or.inl ⟨by rfl, ?_⟩) ?_ ?_
                            rotate_left
                            · intro w'
                              go_simp
                              with_reducible rfl
                            rotate_left
                            · simp only [Act.put, List.setIfInBounds_toArray, List.set_cons_zero, List.set_cons_succ, i64_w, i32_w]
                              rfl
                            refine pure_ (i := 5) (N := some 51) (v := ?_) (a' := ?_) #[true, true, true, true, false, true, false, false, false, false, false, false, false, false] rfl rfl (any_of HT_.out (by kernel_rfl)) (fun _ _ _ h => h) (Or.inl ⟨by rfl, ?_⟩) ?_ ?_
                            rotate_left
                            · intro w'
                              go_simp
                              with_reducible rfl
                            rotate_left
                            · simp only [Act.put, List.setIfInBounds_toArray, List.set_cons_zero, List.set_cons_succ, i64_w, i32_w]
                              rfl
                            refine pure_ (i := 7) (N := some 53) (v := ?_) (a' := ?_) #[true, true, true, true, false, true, false, true, false, false, false, false, false, false] rfl rfl (any_of HT_.out (by kernel_rfl)) (fun _ _ _ h => h) (Or.inl ⟨by rfl, ?_⟩) ?_ ?_
                            rotate_left
                            · intro w'
                              go_simp
                              with_reducible rfl
                            rotate_left
                            · simp only [Act.put, List.setIfInBounds_toArray, List.set_cons_zero, List.set_cons_succ, i64_w, i32_w]
                              rfl
                            refine pure_ (i := 8) (N := some 54) (v := ?_) (a' := ?_) #[true, true, true, true, false, true, false, true, true, false, false, false, false, false] rfl rfl (any_of HT_.out (by kernel_rfl)) (fun _ _ _ h => h) (Or.inl ⟨by rfl, ?_⟩) ?_ ?_
                            rotate_left
                            · intro w'
                              go_simp
                              with_reducible rfl
                            rotate_left
                            · simp only [Act.put, List.setIfInBounds_toArray, List.set_cons_zero, List.set_cons_succ, i64_w, i32_w]
                              rfl
                            refine pure_ (i := 9) (N := some 55) (v := ?_) (a' := ?_) #[true, true, true, true, false, true, false, true, true, true, false, false, false, false] rfl rfl (any_of HT_.out (by kernel_rfl)) (fun _ _ _ h => h) (Or.inl ⟨by rfl, ?_⟩) ?_ ?_
                            rotate_left
                            · intro w'
                              go_simp
                              with_reducible rfl
                            rotate_left
                            · simp only [Act.put, List.setIfInBounds_toArray, List.set_cons_zero, List.set_cons_succ, i64_w, i32_w]
                              rfl
                            refine pure_ (i := 10) (N := some 56) (v := ?_) (a' := ?_) #[true, true, true, true, false, true, false, true, true, true, true, false, false, false] rfl rfl (any_of HT_.out (by kernel_rfl)) (fun _ _ _ h => h) (Or.inl ⟨by rfl, ?_⟩) ?_ ?_
                            rotate_left
                            · intro w'
                              go_simp
                              with_reducible rfl
                            rotate_left
                            · simp only [Act.put, List.setIfInBounds_toArray, List.set_cons_zero, List.set_cons_succ, i64_w, i32_w]
                              rfl
                            refine pure_ (i := 11) (N := some 57) (v := ?_) (a' := ?_) #[true, true, true, true, false, true, false, true, true, true, true, true, false, false] rfl rfl (any_of HT_.out (by kernel_rfl)) (fun _ _ _ h => h) (Or.inl ⟨by rfl, ?_⟩) ?_ ?_
                            rotate_left
                            · intro w'
                              go_simp
                              with_reducible rfl
                            rotate_left
                            · simp only [Act.put, List.setIfInBounds_toArray, List.set_cons_zero, List.set_cons_succ, i64_w, i32_w]
                              rfl
                            refine one_ (i := 4) (N := some 50) #[true, true, true, true, true, true, false, true, true, true, true, true, false, false] rfl rfl (one_of HT_.out (by kernel_rfl)) (by decide) (fun K hK => ?_)
                            refine Kd.R_append_rows_step k57 (w0 := w) w.heap.size (by rfl) (.tmp 46) (.tmp 49) 51 57 (.agg #[(.int .i64 0), (.string ⟨#[]⟩)]) 24 rfl Try.underlying51 info57 rfl (by decide) (by omega) (.slice none 0 0) ([] : List (S57)) y476 _ _ _ (fun k_ => some k_ ≠ (.slice Ao68 t470.length co68 : Value).ownBlock ∧ some k_ ≠ (v474 : Value).ownBlock) (fun _ => False) rfl rfl ?aO ?aR (fun _ _ h => h) (fun _ h => h.elim) ?aF ?aB ?aS ?aL ?_
                            (case aR => repeat (first | exact (by repeat (first | (with_reducible exact HR479.out) | (with_reducible refine Kd.C_alloc ?_ _) | (with_reducible refine Kd.C_drewN ?_ _) | (with_reducible refine Kd.C_drew ?_) | exact HR479.out)) | (with_reducible refine Kd.C_alloc ?_ _) | (with_reducible refine Kd.C_drewN ?_ _) | (with_reducible refine Kd.C_drew ?_)))
                            (case aB => exact (by repeat (first | (with_reducible first | exact HB.out | apply below_alloc | apply pw_below_drewN | apply below_drew1) | exact HB.out)))
                            (case aF => exact (fun k_ hk => ⟨Kd.fresh' (Kd.R_lt (by (with_reducible repeat (first | apply Kd.R_alloc | apply Kd.R_drewN | apply Kd.R_drew)); exact HO472.out)) k_ hk, Kd.fresh' (Kd.R_lt (by (with_reducible repeat (first | apply Kd.R_alloc | apply Kd.R_drewN | apply Kd.R_drew)); exact HO475.out)) k_ hk⟩))
                            (case aO => exact ((Kd.R_nil _ _ _ _ (fun k_ => some k_ ≠ (.slice Ao68 t470.length co68 : Value).ownBlock ∧ some k_ ≠ (v474 : Value).ownBlock))))
                            (case aS => exact (below_size (by repeat (first | (with_reducible first | exact HB.out | apply below_alloc | apply pw_below_drewN | apply below_drew1) | exact HB.out))))
                            (case aL => have := LMc20.out; omega)
                            intro v481 w72 ho hb hg hat
                            rw [← Ny480.out] at ho
                            have n0_ := Aside0.mk (Kd.R_after (Kd.R_apart_nil (by (with_reducible repeat (first | apply Kd.R_alloc | apply Kd.R_drewN | apply Kd.R_drew)); exact HO472.out)) hg hat)
                            have n1_ := Aside0.mk (Kd.R_after (Kd.R_apart_nil (by (with_reducible repeat (first | apply Kd.R_alloc | apply Kd.R_drewN | apply Kd.R_drew)); exact HO475.out)) hg hat)
                            have n2_ := Aside0.mk (hb)
                            have n3_ := Aside0.mk ((show Kd.C k57 w72 Ao68 y476.length y476 from by rw [Ny476.out]; exact Kd.C_take (m := ((ji17) : Int).toNat) ((Kd.R_reads' (Kd.R_after (Kd.R_apart_nil (by (with_reducible repeat (first | apply Kd.R_alloc | apply Kd.R_drewN | apply Kd.R_drew)); exact HO472.out)) hg hat)).2.2) KL70.out))
                            have n4_ := Aside0.mk ((show Kd.C k57 w72 A71 y486.length y486 from by rw [Ny486.out, KA71.out]; exact Kd.C_drop (m := ((ji22) : Int).toNat) (c := co68) ((Kd.R_reads' (Kd.R_after (Kd.R_apart_nil (by (with_reducible repeat (first | apply Kd.R_alloc | apply Kd.R_drewN | apply Kd.R_drew)); exact HO472.out)) hg hat)).2.2) KL71.out ((Kd.R_reads' (Kd.R_after (Kd.R_apart_nil (by (with_reducible repeat (first | apply Kd.R_alloc | apply Kd.R_drewN | apply Kd.R_drew)); exact HO472.out)) hg hat)).2.1)))
                            have n5_ := Aside0.mk (ho)
                            clear HO472
                            clear HO475
                            clear HB
                            clear HR479
                            clear HR489
                            have HO472 := n0_
                            have HO475 := n1_
                            have HB := n2_
                            have HR479 := n3_
                            have HR489 := n4_
                            have HO482 := n5_
                            clear n0_ n1_ n2_ n3_ n4_ n5_
                            clear ho hb hg hat
                            obtain ⟨Ao74, co74, eo74⟩ := Kd.R_slice HO475.out
                            (first | subst eo74 | (injection eo74 with f1_ f2_ f3_; have f4_ := f1_.symm; have f5_ := f3_.symm; clear f1_ f2_ f3_; subst f4_; subst f5_))
                            refine hK.out _ _ trivial (fun hHeld => ?_)
                            clear hK K
                            refine norm_ (a' := ?_) ?_ ?_
                            rotate_left
                            · show Act.put _ (some 50) _ = _
                              simp only [Act.put, List.setIfInBounds_toArray, List.set_cons_zero, List.set_cons_succ, i64_w, i32_w]
                              rfl
                            refine one_ (i := 6) (N := some 52) #[true, true, true, true, true, true, true, true, true, true, true, true, false, false] rfl rfl (one_of HT_.out (by kernel_rfl)) (by decide) (fun K hK => ?_)
                            refine Kd.R_append_rows_step k57 (w0 := w) w.heap.size (by rfl) (.tmp 50) (.tmp 51) 51 57 (.agg #[(.int .i64 0), (.string ⟨#[]⟩)]) 24 rfl Try.underlying51 info57 rfl (by decide) (by omega) v481 y480 t473 _ _ _ (fun k_ => some k_ ≠ (.slice Ao68 t470.length co68 : Value).ownBlock ∧ some k_ ≠ (.slice Ao74 t473.length co74 : Value).ownBlock) (fun _ => False) rfl rfl ?aO ?aR (fun _ _ h => h) (fun _ h => h.elim) ?aF ?aB ?aS ?aL ?_
                            (case aR => repeat (first | exact (Kd.R_reads' HO475.out).2.2 | (with_reducible refine Kd.C_alloc ?_ _) | (with_reducible refine Kd.C_drewN ?_ _) | (with_reducible refine Kd.C_drew ?_)))
                            (case aB => exact (by repeat (first | (with_reducible first | exact HB.out | apply below_alloc | apply pw_below_drewN | apply below_drew1) | exact HB.out)))
                            (case aF => exact (fun k_ hk => ⟨Kd.fresh' (Kd.R_lt (by (with_reducible repeat (first | apply Kd.R_alloc | apply Kd.R_drewN | apply Kd.R_drew)); exact HO472.out)) k_ hk, Kd.fresh' (Kd.R_lt (by (with_reducible repeat (first | apply Kd.R_alloc | apply Kd.R_drewN | apply Kd.R_drew)); exact HO475.out)) k_ hk⟩))
                            (case aO => exact (by (with_reducible repeat (first | apply Kd.R_alloc | apply Kd.R_drewN | apply Kd.R_drew)); exact HO482.out))
                            (case aS => exact (below_size (by repeat (first | (with_reducible first | exact HB.out | apply below_alloc | apply pw_below_drewN | apply below_drew1) | exact HB.out))))
                            (case aL => have := LMc21.out; omega)
                            intro v484 w73 ho hb hg hat
                            rw [← Ny483.out] at ho
                            have n0_ := Aside0.mk (Kd.R_after (ok := (fun k_ => some k_ ≠ (.slice Ao74 t473.length co74 : Value).ownBlock)) (by (with_reducible repeat (first | apply Kd.R_alloc | apply Kd.R_drewN | apply Kd.R_drew)); exact Kd.R_mono HO472.out (fun _ hk => ⟨hk.1.2, hk.2⟩)) hg hat)
                            have n1_ := Aside0.mk (Kd.R_after (ok := (fun k_ => some k_ ≠ (.slice Ao68 t470.length co68 : Value).ownBlock)) (by (with_reducible repeat (first | apply Kd.R_alloc | apply Kd.R_drewN | apply Kd.R_drew)); exact Kd.R_mono HO475.out (fun _ hk => ⟨hk.1.2, hk.2⟩)) hg hat)
                            have n2_ := Aside0.mk (hb)
                            have n3_ := Aside0.mk ((show Kd.C k57 w73 Ao68 y476.length y476 from by rw [Ny476.out]; exact Kd.C_take (m := ((ji17) : Int).toNat) ((Kd.R_reads' (Kd.R_after (ok := (fun k_ => some k_ ≠ (.slice Ao74 t473.length co74 : Value).ownBlock)) (by (with_reducible repeat (first | apply Kd.R_alloc | apply Kd.R_drewN | apply Kd.R_drew)); exact Kd.R_mono HO472.out (fun _ hk => ⟨hk.1.2, hk.2⟩)) hg hat)).2.2) KL70.out))
                            have n4_ := Aside0.mk ((show Kd.C k57 w73 A71 y486.length y486 from by rw [Ny486.out, KA71.out]; exact Kd.C_drop (m := ((ji22) : Int).toNat) (c := co68) ((Kd.R_reads' (Kd.R_after (ok := (fun k_ => some k_ ≠ (.slice Ao74 t473.length co74 : Value).ownBlock)) (by (with_reducible repeat (first | apply Kd.R_alloc | apply Kd.R_drewN | apply Kd.R_drew)); exact Kd.R_mono HO472.out (fun _ hk => ⟨hk.1.2, hk.2⟩)) hg hat)).2.2) KL71.out ((Kd.R_reads' (Kd.R_after (ok := (fun k_ => some k_ ≠ (.slice Ao74 t473.length co74 : Value).ownBlock)) (by (with_reducible repeat (first | apply Kd.R_alloc | apply Kd.R_drewN | apply Kd.R_drew)); exact Kd.R_mono HO472.out (fun _ hk => ⟨hk.1.2, hk.2⟩)) hg hat)).2.1)))
                            have n5_ := Aside0.mk (ho)
                            clear HO472
                            clear HO475
                            clear HB
                            clear HR479
                            clear HR489
                            clear HO482
                            have HO472 := n0_
                            have HO475 := n1_
                            have HB := n2_
                            have HR479 := n3_
                            have HR489 := n4_
                            have HO485 := n5_
                            clear n0_ n1_ n2_ n3_ n4_ n5_
                            clear ho hb hg hat
                            refine hK.out _ _ trivial (fun hHeld => ?_)
                            clear hK K
                            refine norm_ (a' := ?_) ?_ ?_
                            rotate_left
                            · show Act.put _ (some 52) _ = _
                              simp only [Act.put, List.setIfInBounds_toArray, List.set_cons_zero, List.set_cons_succ, i64_w, i32_w]
                              rfl
                            refine one_ (i := 12) (N := some 58) #[true, true, true, true, true, true, true, true, true, true, true, true, true, false] rfl rfl (one_of HT_.out (by kernel_rfl)) (by decide) (fun K hK => ?_)
                            refine Kd.R_append_rows_step k57 (w0 := w) w.heap.size (by rfl) (.tmp 52) (.tmp 57) 51 57 (.agg #[(.int .i64 0), (.string ⟨#[]⟩)]) 24 rfl Try.underlying51 info57 rfl (by decide) (by omega) v484 y483 y486 _ _ _ (fun k_ => some k_ ≠ (.slice Ao68 t470.length co68 : Value).ownBlock ∧ some k_ ≠ (.slice Ao74 t473.length co74 : Value).ownBlock) (fun _ => False) rfl rfl ?aO ?aR (fun _ _ h => h) (fun _ h => h.elim) ?aF ?aB ?aS ?aL ?_
                            (case aR => repeat (first | exact (by repeat (first | (with_reducible exact HR489.out) | (with_reducible refine Kd.C_alloc ?_ _) | (with_reducible refine Kd.C_drewN ?_ _) | (with_reducible refine Kd.C_drew ?_) | exact HR489.out)) | (with_reducible refine Kd.C_alloc ?_ _) | (with_reducible refine Kd.C_drewN ?_ _) | (with_reducible refine Kd.C_drew ?_)))
                            (case aB => exact (by repeat (first | (with_reducible first | exact HB.out | apply below_alloc | apply pw_below_drewN | apply below_drew1) | exact HB.out)))
                            (case aF => exact (fun k_ hk => ⟨Kd.fresh' (Kd.R_lt (by (with_reducible repeat (first | apply Kd.R_alloc | apply Kd.R_drewN | apply Kd.R_drew)); exact HO472.out)) k_ hk, Kd.fresh' (Kd.R_lt (by (with_reducible repeat (first | apply Kd.R_alloc | apply Kd.R_drewN | apply Kd.R_drew)); exact HO475.out)) k_ hk⟩))
                            (case aO => exact (by (with_reducible repeat (first | apply Kd.R_alloc | apply Kd.R_drewN | apply Kd.R_drew)); exact HO485.out))
                            (case aS => exact (below_size (by repeat (first | (with_reducible first | exact HB.out | apply below_alloc | apply pw_below_drewN | apply below_drew1) | exact HB.out))))
                            (case aL => have := LMc25.out; omega)
                            intro v491 w75 ho hb hg hat
                            rw [← Ny490.out] at ho
                            have n0_ := Aside0.mk (Kd.R_after (ok := (fun k_ => some k_ ≠ (.slice Ao74 t473.length co74 : Value).ownBlock)) (by (with_reducible repeat (first | apply Kd.R_alloc | apply Kd.R_drewN | apply Kd.R_drew)); exact HO472.out) hg hat)
                            have n1_ := Aside0.mk (Kd.R_after (ok := (fun k_ => some k_ ≠ (.slice Ao68 t470.length co68 : Value).ownBlock)) (by (with_reducible repeat (first | apply Kd.R_alloc | apply Kd.R_drewN | apply Kd.R_drew)); exact HO475.out) hg hat)
                            have n2_ := Aside0.mk (hb)
                            have n3_ := Aside0.mk ((show Kd.C k57 w75 Ao68 y476.length y476 from by rw [Ny476.out]; exact Kd.C_take (m := ((ji17) : Int).toNat) ((Kd.R_reads' (Kd.R_after (ok := (fun k_ => some k_ ≠ (.slice Ao74 t473.length co74 : Value).ownBlock)) (by (with_reducible repeat (first | apply Kd.R_alloc | apply Kd.R_drewN | apply Kd.R_drew)); exact HO472.out) hg hat)).2.2) KL70.out))
                            have n4_ := Aside0.mk ((show Kd.C k57 w75 A71 y486.length y486 from by rw [Ny486.out, KA71.out]; exact Kd.C_drop (m := ((ji22) : Int).toNat) (c := co68) ((Kd.R_reads' (Kd.R_after (ok := (fun k_ => some k_ ≠ (.slice Ao74 t473.length co74 : Value).ownBlock)) (by (with_reducible repeat (first | apply Kd.R_alloc | apply Kd.R_drewN | apply Kd.R_drew)); exact HO472.out) hg hat)).2.2) KL71.out ((Kd.R_reads' (Kd.R_after (ok := (fun k_ => some k_ ≠ (.slice Ao74 t473.length co74 : Value).ownBlock)) (by (with_reducible repeat (first | apply Kd.R_alloc | apply Kd.R_drewN | apply Kd.R_drew)); exact HO472.out) hg hat)).2.1)))
                            have n5_ := Aside0.mk (ho)
                            clear HO472
                            clear HO475
                            clear HB
                            clear HR479
                            clear HR489
                            clear HO485
                            have HO472 := n0_
                            have HO475 := n1_
                            have HB := n2_
                            have HR479 := n3_
                            have HR489 := n4_
                            have HO492 := n5_
                            clear n0_ n1_ n2_ n3_ n4_ n5_
                            clear ho hb hg hat
                            refine hK.out _ _ trivial (fun hHeld => ?_)
                            clear hK K
                            refine norm_ (a' := ?_) ?_ ?_
                            rotate_left
                            · show Act.put _ (some 58) _ = _
                              simp only [Act.put, List.setIfInBounds_toArray, List.set_cons_zero, List.set_cons_succ, i64_w, i32_w]
                              rfl
                            refine pure_ (i := 13) (N := some 11) (v := ?_) (a' := ?_) #[true, true, true, true, true, true, true, true, true, true, true, true, true, true] rfl rfl (any_of HT_.out (by kernel_rfl)) (fun _ _ _ h => h) (Or.inl ⟨by rfl, ?_⟩) ?_ ?_
                            rotate_left
                            · intro w'
                              go_simp
                              with_reducible rfl
                            rotate_left
                            · simp only [Act.put, List.setIfInBounds_toArray, List.set_cons_zero, List.set_cons_succ, i64_w, i32_w]
                              rfl
                            refine done_ (done_of HT_.out (by kernel_rfl)) ?_
                            try go_wp2_with (first | ((with_reducible refine gate_callee (f := 41) rfl ?_); refine goesL_ (some 64) rfl rfl Try.func41 (by kernel_rfl) rfl #[.slice Ao68 t470.length co68, .int .i64 ji17, .int .i64 (wrap64 (Int.tmod (IntKind.u64.wrap (a2)) (IntKind.u64.wrap (wrap64 ((wrap64 ((t470.length : Int) - (ji17))) + 1))))), .slice Ao74 t473.length co74] rfl (by (try simp only [List.map_toArray, List.map_cons, List.map_nil]); first | done | (simp only [hji17]; rfl) | rfl | (simp only [List.length_drop, List.length_take]; rfl)) ?_; (with_reducible refine (impl_Splice.calls kj4 _ _ t470 ji17 (wrap64 (Int.tmod (IntKind.u64.wrap (a2)) (IntKind.u64.wrap (wrap64 ((wrap64 ((t470.length : Int) - (ji17))) + 1))))) _ _ t473 t493 t494 _ ?side1 ?side2 ?side3 ?side4 A26.out).mono ?_); (case side1 => repeat (first | exact (Kd.R_reads' HO472.out).2.2 | (with_reducible refine Kd.C_alloc ?_ _) | (with_reducible refine Kd.C_drewN ?_ _) | (with_reducible refine Kd.C_drew ?_))); (case side2 => exact (Kd.R_reads' HO472.out).2.1); (case side3 => repeat (first | exact (Kd.R_reads' HO475.out).2.2 | (with_reducible refine Kd.C_alloc ?_ _) | (with_reducible refine Kd.C_drewN ?_ _) | (with_reducible refine Kd.C_drew ?_))); (case side4 => exact (Kd.R_reads' HO475.out).2.1); rintro e w76 ⟨v495, rfl, ho0, hb⟩; refine ⟨_, rfl, ?_⟩; have n0_ := Aside0.mk (Kd.R_elder' (by (with_reducible repeat (first | apply Kd.R_alloc | apply Kd.R_drewN | apply Kd.R_drew)); exact HO472.out) (Kd.R_base ho0) hb); have n1_ := Aside0.mk (Kd.R_elder' (by (with_reducible repeat (first | apply Kd.R_alloc | apply Kd.R_drewN | apply Kd.R_drew)); exact HO475.out) (Kd.R_base ho0) hb); have n2_ := Aside0.mk (Kd.R_elder' (by (with_reducible repeat (first | apply Kd.R_alloc | apply Kd.R_drewN | apply Kd.R_drew)); exact HO492.out) (Kd.R_base ho0) hb); have n3_ := Aside0.mk (Kd.R_lower (Kd.R_new' (Kd.R_new' (Kd.R_new' ho0 (Kd.R_lt (by (with_reducible repeat (first | apply Kd.R_alloc | apply Kd.R_drewN | apply Kd.R_drew)); exact HO472.out))) (Kd.R_lt (by (with_reducible repeat (first | apply Kd.R_alloc | apply Kd.R_drewN | apply Kd.R_drew)); exact HO475.out))) (Kd.R_lt (by (with_reducible repeat (first | apply Kd.R_alloc | apply Kd.R_drewN | apply Kd.R_drew)); exact HO492.out))) (below_size (by repeat (first | (with_reducible first | exact HB.out | apply below_alloc | apply pw_below_drewN | apply below_drew1) | exact HB.out)))); have n4_ := Aside0.mk (Kd.C_below (by repeat (first | (with_reducible exact HR479.out) | (with_reducible refine Kd.C_alloc ?_ _) | (with_reducible refine Kd.C_drewN ?_ _) | (with_reducible refine Kd.C_drew ?_) | exact HR479.out)) hb); have n5_ := Aside0.mk (Kd.C_below (by repeat (first | (with_reducible exact HR489.out) | (with_reducible refine Kd.C_alloc ?_ _) | (with_reducible refine Kd.C_drewN ?_ _) | (with_reducible refine Kd.C_drew ?_) | exact HR489.out)) hb); have n6_ := Aside0.mk (below_step (by repeat (first | (with_reducible first | exact HB.out | apply below_alloc | apply pw_below_drewN | apply below_drew1) | exact HB.out)) hb); clear HO472; clear HO475; clear HO492; clear HR479; clear HR489; clear HB; have HO472 := n0_; have HO475 := n1_; have HO492 := n2_; have HO496 := n3_; have HR479 := n4_; have HR489 := n5_; have HB := n6_; clear n0_ n1_ n2_ n3_ n4_ n5_ n6_; (try clear hb); (try clear hb2); (try clear hk); (try clear hi); (try clear ho0)) | ((with_reducible refine gate_dst (N := 69) rfl ?_); (try (refine gate_guard (by rfl) ?_; dsimp only)); refine Kd.R_lit k57 _ 57 ?hg (N := 69) ?hd (xs := ([(⟨1, (⟨#[97]⟩ : ByteArray)⟩ : S57)] : List (S57))) (inner := [.int .i64 1, .string (⟨#[97]⟩ : ByteArray)]) (ok := fun _ => True) (okp := fun _ => True) ?hr ?hp (fun _ hk => hk) trivial (Below.refl _ _) (Nat.le_refl _) (by simp) ?_; (case hd => rfl); (case hg => rfl); (case hr => first | (go_simp; done) | (go_simp; rfl)); (case hp => exact (Reps.c2 (show Kd.M k57 _ _ _ (⟨1, (⟨#[97]⟩ : ByteArray)⟩ : S57) [.int .i64 1, .string (⟨#[97]⟩ : ByteArray)] from (k57_mkM _ _ _ (⟨1, (⟨#[97]⟩ : ByteArray)⟩ : S57) )) (Reps.none _ _))); intro v498 w77 ho78 hb hg_ hnew_; clear hg_ hnew_; (first | rw [← Ny497.out] at ho78 | (simp only [Int.reduceToNat] at ho78; rw [← Ny497.out] at ho78)); have n0_ := Aside0.mk (Kd.R_elder' (by (with_reducible repeat (first | apply Kd.R_alloc | apply Kd.R_drewN | apply Kd.R_drew)); exact HO472.out) (Kd.R_base ho78) hb); have n1_ := Aside0.mk (Kd.R_elder' (by (with_reducible repeat (first | apply Kd.R_alloc | apply Kd.R_drewN | apply Kd.R_drew)); exact HO475.out) (Kd.R_base ho78) hb); have n2_ := Aside0.mk (Kd.R_elder' (by (with_reducible repeat (first | apply Kd.R_alloc | apply Kd.R_drewN | apply Kd.R_drew)); exact HO492.out) (Kd.R_base ho78) hb); have n3_ := Aside0.mk (Kd.R_elder' (by (with_reducible repeat (first | apply Kd.R_alloc | apply Kd.R_drewN | apply Kd.R_drew)); exact HO496.out) (Kd.R_base ho78) hb); have n4_ := Aside0.mk (Kd.R_lower (Kd.R_new' (Kd.R_new' (Kd.R_new' (Kd.R_new' ho78 (Kd.R_lt (by (with_reducible repeat (first | apply Kd.R_alloc | apply Kd.R_drewN | apply Kd.R_drew)); exact HO472.out))) (Kd.R_lt (by (with_reducible repeat (first | apply Kd.R_alloc | apply Kd.R_drewN | apply Kd.R_drew)); exact HO475.out))) (Kd.R_lt (by (with_reducible repeat (first | apply Kd.R_alloc | apply Kd.R_drewN | apply Kd.R_drew)); exact HO492.out))) (Kd.R_lt (by (with_reducible repeat (first | apply Kd.R_alloc | apply Kd.R_drewN | apply Kd.R_drew)); exact HO496.out))) (below_size (by repeat (first | (with_reducible first | exact HB.out | apply below_alloc | apply pw_below_drewN | apply below_drew1) | exact HB.out)))); have n5_ := Aside0.mk (Kd.C_below (by repeat (first | (with_reducible exact HR479.out) | (with_reducible refine Kd.C_alloc ?_ _) | (with_reducible refine Kd.C_drewN ?_ _) | (with_reducible refine Kd.C_drew ?_) | exact HR479.out)) hb); have n6_ := Aside0.mk (Kd.C_below (by repeat (first | (with_reducible exact HR489.out) | (with_reducible refine Kd.C_alloc ?_ _) | (with_reducible refine Kd.C_drewN ?_ _) | (with_reducible refine Kd.C_drew ?_) | exact HR489.out)) hb); have n7_ := Aside0.mk (below_step (by repeat (first | (with_reducible first | exact HB.out | apply below_alloc | apply pw_below_drewN | apply below_drew1) | exact HB.out)) hb); clear HO472; clear HO475; clear HO492; clear HO496; clear HR479; clear HR489; clear HB; have HO472 := n0_; have HO475 := n1_; have HO492 := n2_; have HO496 := n3_; have HO499 := n4_; have HR479 := n5_; have HR489 := n6_; have HB := n7_; clear n0_ n1_ n2_ n3_ n4_ n5_ n6_ n7_; clear hb ho78; obtain ⟨Ao79, co79, eo79⟩ := Kd.R_slice HO499.out; subst eo79) | ((with_reducible refine gate_callee (f := 41) rfl ?_); refine goesL_ (some 70) rfl rfl Try.func41 (by kernel_rfl) rfl #[.slice none 0 0, .int .i64 0, .int .i64 0, .slice Ao79 y497.length co79] rfl (by (try simp only [List.map_toArray, List.map_cons, List.map_nil]); first | done | rfl | (simp only [List.length_drop, List.length_take]; rfl)) ?_; (refine (impl_Splice.calls kj4 _ _ ([] : List (S57)) 0 0 _ _ y497 t500 t501 _ ?side1 ?side2 ?side3 ?side4 A27.out).mono ?_); (case side1 => exact Kd.C_nil _ _); (case side2 => exact Nat.le_refl _); (case side3 => repeat (first | exact (Kd.R_reads' HO499.out).2.2 | (with_reducible refine Kd.C_alloc ?_ _) | (with_reducible refine Kd.C_drewN ?_ _) | (with_reducible refine Kd.C_drew ?_))); (case side4 => exact (Kd.R_reads' HO499.out).2.1); rintro e w80 ⟨v502, rfl, ho0, hb⟩; refine ⟨_, rfl, ?_⟩; have n0_ := Aside0.mk (Kd.R_elder' (by (with_reducible repeat (first | apply Kd.R_alloc | apply Kd.R_drewN | apply Kd.R_drew)); exact HO472.out) (Kd.R_base ho0) hb); have n1_ := Aside0.mk (Kd.R_elder' (by (with_reducible repeat (first | apply Kd.R_alloc | apply Kd.R_drewN | apply Kd.R_drew)); exact HO475.out) (Kd.R_base ho0) hb); have n2_ := Aside0.mk (Kd.R_elder' (by (with_reducible repeat (first | apply Kd.R_alloc | apply Kd.R_drewN | apply Kd.R_drew)); exact HO492.out) (Kd.R_base ho0) hb); have n3_ := Aside0.mk (Kd.R_elder' (by (with_reducible repeat (first | apply Kd.R_alloc | apply Kd.R_drewN | apply Kd.R_drew)); exact HO496.out) (Kd.R_base ho0) hb); have n4_ := Aside0.mk (Kd.R_elder' (by (with_reducible repeat (first | apply Kd.R_alloc | apply Kd.R_drewN | apply Kd.R_drew)); exact HO499.out) (Kd.R_base ho0) hb); have n5_ := Aside0.mk (Kd.R_lower (Kd.R_new' (Kd.R_new' (Kd.R_new' (Kd.R_new' (Kd.R_new' ho0 (Kd.R_lt (by (with_reducible repeat (first | apply Kd.R_alloc | apply Kd.R_drewN | apply Kd.R_drew)); exact HO472.out))) (Kd.R_lt (by (with_reducible repeat (first | apply Kd.R_alloc | apply Kd.R_drewN | apply Kd.R_drew)); exact HO475.out))) (Kd.R_lt (by (with_reducible repeat (first | apply Kd.R_alloc | apply Kd.R_drewN | apply Kd.R_drew)); exact HO492.out))) (Kd.R_lt (by (with_reducible repeat (first | apply Kd.R_alloc | apply Kd.R_drewN | apply Kd.R_drew)); exact HO496.out))) (Kd.R_lt (by (with_reducible repeat (first | apply Kd.R_alloc | apply Kd.R_drewN | apply Kd.R_drew)); exact HO499.out))) (below_size (by repeat (first | (with_reducible first | exact HB.out | apply below_alloc | apply pw_below_drewN | apply below_drew1) | exact HB.out)))); have n6_ := Aside0.mk (Kd.C_below (by repeat (first | (with_reducible exact HR479.out) | (with_reducible refine Kd.C_alloc ?_ _) | (with_reducible refine Kd.C_drewN ?_ _) | (with_reducible refine Kd.C_drew ?_) | exact HR479.out)) hb); have n7_ := Aside0.mk (Kd.C_below (by repeat (first | (with_reducible exact HR489.out) | (with_reducible refine Kd.C_alloc ?_ _) | (with_reducible refine Kd.C_drewN ?_ _) | (with_reducible refine Kd.C_drew ?_) | exact HR489.out)) hb); have n8_ := Aside0.mk (below_step (by repeat (first | (with_reducible first | exact HB.out | apply below_alloc | apply pw_below_drewN | apply below_drew1) | exact HB.out)) hb); clear HO472; clear HO475; clear HO492; clear HO496; clear HO499; clear HR479; clear HR489; clear HB; have HO472 := n0_; have HO475 := n1_; have HO492 := n2_; have HO496 := n3_; have HO499 := n4_; have HO503 := n5_; have HR479 := n6_; have HR489 := n7_; have HB := n8_; clear n0_ n1_ n2_ n3_ n4_ n5_ n6_ n7_ n8_; (try clear hb); (try clear hb2); (try clear hk); (try clear hi); (try clear ho0)))
                            go_ret
                            exact ⟨by first | rfl | (simp [errW_none, errW_some] <;> rfl) | (simp only [← hji17, ← hji22]; first | rfl | (simp [errW_none, errW_some] <;> rfl)) | (simp [*, errW_none, errW_some] <;> rfl), by repeat (first | (with_reducible first | exact HB.out | apply below_alloc | apply pw_below_drewN | apply below_drew1) | exact HB.out)⟩
                        · rw [if_neg c25] at H
                          exact absurd H (by simp)
                      · rw [if_neg c24] at H
                        exact absurd H (by simp)
                    · rw [if_neg c23] at H
                      exact absurd H (by simp)
                  · rw [if_neg c21] at H
                    exact absurd H (by simp)
                · rw [if_neg c20] at H
                  exact absurd H (by simp)
              · rw [if_neg c19] at H
                exact absurd H (by simp)
            · rw [if_neg c18] at H
              exact absurd H (by simp)

/-- THE ONE PURE STATEMENT of laws_FnSplice: yours. -/
def laws_FnSplice.Pure : Prop := ∀ (l0 : List (S57)) (a1 : Int) (a2 : Int) (l3 : List (S57)), l0.length ≤ maxLen → (∀ y_ ∈ l0, ((Lit.int .i64 y_.f0).wf = true ∧ y_.f1.size ≤ maxLen)) → (Lit.int .i64 a1).wf = true → (Lit.int .i64 a2).wf = true → l3.length ≤ maxLen → (∀ y_ ∈ l3, ((Lit.int .i64 y_.f0).wf = true ∧ y_.f1.size ≤ maxLen)) → ∃ k, laws_FnSplice.f k l0 a1 a2 l3 = some true
theorem laws_FnSplice.walk (P : laws_FnSplice.Pure) (a0 : Option Addr) (len0 cap0 : Nat) (z0 : List (S57)) (a1 : Int) (a2 : Int) (a3 : Option Addr) (len3 cap3 : Nat) (z3 : List (S57)) (w : World) (w0 : z0.length = len0 ∧ len0 ≤ cap0 ∧ len0 ≤ maxLen ∧ Kd.C k57 w a0 len0 z0 ∧ ∀ y_ ∈ z0, ((Lit.int .i64 y_.f0).wf = true ∧ y_.f1.size ≤ maxLen)) (w1 : (Lit.int .i64 a1).wf = true) (w2 : (Lit.int .i64 a2).wf = true) (w3 : z3.length = len3 ∧ len3 ≤ cap3 ∧ len3 ≤ maxLen ∧ Kd.C k57 w a3 len3 z3 ∧ ∀ y_ ∈ z3, ((Lit.int .i64 y_.f0).wf = true ∧ y_.f1.size ≤ maxLen)) :
    Calls Try.prog 14 #[.slice a0 len0 cap0, .int .i64 a1, .int .i64 a2, .slice a3 len3 cap3] w fun e w' => e = .returned (.bool true) ∧ Below w.heap.size w w' := by
  obtain ⟨rfl, hc0, hm0, hr0, hw0⟩ := w0
  obtain ⟨rfl, hc3, hm3, hr3, hw3⟩ := w3
  obtain ⟨k, h⟩ := P z0 a1 a2 z3 hm0 hw0 w1 w2 hm3 hw3
  refine (laws_FnSplice.calls k _ _ z0 a1 a2 _ _ z3 true w hr0 hc0 hr3 hc3 h).mono ?_
  rintro e w' ⟨rfl, hd⟩
  exact ⟨rfl, hd⟩

end Go.Proofs.Ytomidomdomjkfaa.PT
