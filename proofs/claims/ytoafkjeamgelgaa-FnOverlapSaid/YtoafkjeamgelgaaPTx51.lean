-- Written by this session's own program (wip/tools) out of the translation.
import Derived.Test.YtoafkjeamgelgaaPTx0
import Derived.Test.YtoafkjeamgelgaaPTx17
import Derived.Test.YtoafkjeamgelgaaPTx49
import Derived.Test.YtoafkjeamgelgaaPTx50
namespace Go.Proofs.Ytoafkjeamgelgaa.PT
open Go.RowKit Go.Proofs.YtoafkjeamgelgaaW.PrintWords Go.Proofs.YtoafkjeamgelgaaW.PrintLast Go.Proofs.YtoafkjeamgelgaaW.PrintMore
attribute [local go_sem] max2_int min2_int max_two min_two max_three min_three max_four min_four   -- for this text's walks alone
set_option linter.unusedVariables false
set_option linter.unusedSimpArgs false

/-! ### diffmatchpatch_DiffMatchPatch_DiffCommonOverlap: function 43 -/
mutual
def diffmatchpatch_DiffMatchPatch_DiffCommonOverlap.j0 : Nat → ByteArray → ByteArray → Int → Int → Bool → Int → Int → Int → Nat → Int → Int → Nat → Option (Int × Int × Int × Int × Nat × Int × Int × Nat)
  | 0, _, _, _, _, _, _, _, _, _, _, _, _ => none
  | k + 1, x1, x2, x7, x8, x23, x1000, x1001, x1002, x1003, x1004, x1005, x1006 => if x23 = true then (some (0, x1000, x1001, x1002, x1003, x1004, x1005, x1006)) else (if x7 > x8 then (if 0 ≤ (wrap64 (x7 - x8)) then (if (wrap64 (x7 - x8)) ≤ (x1.size : Int) then (diffmatchpatch_DiffMatchPatch_DiffCommonOverlap.j1 k (x1.extract ((wrap64 (x7 - x8)) : Int).toNat x1.size) x2 x7 x8 x1000 x1001 x1002 x1003 x1004 x1005 x1006) else (none)) else (none)) else (if x7 < x8 then (if 0 ≤ x7 then (if x7 ≤ (x2.size : Int) then (diffmatchpatch_DiffMatchPatch_DiffCommonOverlap.j1 k x1 (x2.extract 0 (x7 : Int).toNat) x7 x8 x1000 x1001 x1002 x1003 x1004 x1005 x1006) else (none)) else (none)) else (diffmatchpatch_DiffMatchPatch_DiffCommonOverlap.j1 k x1 x2 x7 x8 x1000 x1001 x1002 x1003 x1004 x1005 x1006)))
def diffmatchpatch_DiffMatchPatch_DiffCommonOverlap.j1 : Nat → ByteArray → ByteArray → Int → Int → Int → Int → Int → Nat → Int → Int → Nat → Option (Int × Int × Int × Int × Nat × Int × Int × Nat)
  | 0, _, _, _, _, _, _, _, _, _, _, _ => none
  | k + 1, x1, x2, x7, x8, x1000, x1001, x1002, x1003, x1004, x1005, x1006 => (math_Min.f (floatOfInt .f64 x7) (floatOfInt .f64 x8)).bind fun t354 => ((floatToIntVal .f64 t354 .i64).bind fun t355 => (if x1.toList = x2.toList then (some (t355, x1000, x1001, x1002, x1003, x1004, x1005, x1006)) else (diffmatchpatch_DiffMatchPatch_DiffCommonOverlap.l0 k x1 x2 t355 0 1 x1000 x1001 x1002 x1003 x1004 x1005 x1006)))
def diffmatchpatch_DiffMatchPatch_DiffCommonOverlap.l0 : Nat → ByteArray → ByteArray → Int → Int → Int → Int → Int → Int → Nat → Int → Int → Nat → Option (Int × Int × Int × Int × Nat × Int × Int × Nat)
  | 0, _, _, _, _, _, _, _, _, _, _, _, _ => none
  | k + 1, x1, x2, x9, x10, x11, x1000, x1001, x1002, x1003, x1004, x1005, x1006 => if 0 ≤ (wrap64 (x9 - x11)) then (if (wrap64 (x9 - x11)) ≤ (x1.size : Int) then ((diffmatchpatch_zzIndex.f k x2 (x1.extract ((wrap64 (x9 - x11)) : Int).toNat x1.size)).bind fun t356 => (if t356 = (-1) then (some (x10, x1000, x1001, x1002, x1003, x1004, x1005, x1006)) else (if t356 = 0 then (diffmatchpatch_DiffMatchPatch_DiffCommonOverlap.l0 k x1 x2 x9 (wrap64 (x11 + t356)) (wrap64 ((wrap64 (x11 + t356)) + 1)) x1000 x1001 x1002 x1003 x1004 x1005 x1006) else (if 0 ≤ (wrap64 (x9 - (wrap64 (x11 + t356)))) then (if (wrap64 (x9 - (wrap64 (x11 + t356)))) ≤ (x1.size : Int) then (if 0 ≤ (wrap64 (x11 + t356)) then (if (wrap64 (x11 + t356)) ≤ (x2.size : Int) then (if (x1.extract ((wrap64 (x9 - (wrap64 (x11 + t356)))) : Int).toNat x1.size).toList = (x2.extract 0 ((wrap64 (x11 + t356)) : Int).toNat).toList then (diffmatchpatch_DiffMatchPatch_DiffCommonOverlap.l0 k x1 x2 x9 (wrap64 (x11 + t356)) (wrap64 ((wrap64 (x11 + t356)) + 1)) x1000 x1001 x1002 x1003 x1004 x1005 x1006) else (diffmatchpatch_DiffMatchPatch_DiffCommonOverlap.l0 k x1 x2 x9 x10 (wrap64 (x11 + t356)) x1000 x1001 x1002 x1003 x1004 x1005 x1006)) else (none)) else (none)) else (none)) else (none))))) else (none)) else (none)
end
def diffmatchpatch_DiffMatchPatch_DiffCommonOverlap.f (k : Nat) (s0_0 : Int) (s0_1 : Int) (s0_2 : Int) (s0_3 : Nat) (s0_4 : Int) (s0_5 : Int) (s0_6 : Nat) (a1 : ByteArray) (a2 : ByteArray) : Option (Int × Int × Int × Int × Nat × Int × Int × Nat) := if (a1.size : Int) = 0 then (diffmatchpatch_DiffMatchPatch_DiffCommonOverlap.j0 k a1 a2 (a1.size : Int) (a2.size : Int) true s0_0 s0_1 s0_2 s0_3 s0_4 s0_5 s0_6) else (diffmatchpatch_DiffMatchPatch_DiffCommonOverlap.j0 k a1 a2 (a1.size : Int) (a2.size : Int) ((a2.size : Int) == 0) s0_0 s0_1 s0_2 s0_3 s0_4 s0_5 s0_6)
theorem diffmatchpatch_DiffMatchPatch_DiffCommonOverlap.mono_l : ∀ k, (∀ y0 y1 y2 y3 y4 y5 y6 y7 y8 y9 y10 y11, LeO (diffmatchpatch_DiffMatchPatch_DiffCommonOverlap.j0 k y0 y1 y2 y3 y4 y5 y6 y7 y8 y9 y10 y11) (diffmatchpatch_DiffMatchPatch_DiffCommonOverlap.j0 (k + 1) y0 y1 y2 y3 y4 y5 y6 y7 y8 y9 y10 y11)) ∧ (∀ y0 y1 y2 y3 y4 y5 y6 y7 y8 y9 y10, LeO (diffmatchpatch_DiffMatchPatch_DiffCommonOverlap.j1 k y0 y1 y2 y3 y4 y5 y6 y7 y8 y9 y10) (diffmatchpatch_DiffMatchPatch_DiffCommonOverlap.j1 (k + 1) y0 y1 y2 y3 y4 y5 y6 y7 y8 y9 y10)) ∧ (∀ y0 y1 y2 y3 y4 y5 y6 y7 y8 y9 y10 y11, LeO (diffmatchpatch_DiffMatchPatch_DiffCommonOverlap.l0 k y0 y1 y2 y3 y4 y5 y6 y7 y8 y9 y10 y11) (diffmatchpatch_DiffMatchPatch_DiffCommonOverlap.l0 (k + 1) y0 y1 y2 y3 y4 y5 y6 y7 y8 y9 y10 y11))
  | 0 => ⟨fun _ _ _ _ _ _ _ _ _ _ _ _ r h => by simp [diffmatchpatch_DiffMatchPatch_DiffCommonOverlap.j0] at h, fun _ _ _ _ _ _ _ _ _ _ _ r h => by simp [diffmatchpatch_DiffMatchPatch_DiffCommonOverlap.j1] at h, fun _ _ _ _ _ _ _ _ _ _ _ _ r h => by simp [diffmatchpatch_DiffMatchPatch_DiffCommonOverlap.l0] at h⟩
  | k + 1 => by
    obtain ⟨ih0, ih1, ih2⟩ := diffmatchpatch_DiffMatchPatch_DiffCommonOverlap.mono_l k
    refine ⟨?_, ?_, ?_⟩
    · intro y0 y1 y2 y3 y4 y5 y6 y7 y8 y9 y10 y11
      unfold diffmatchpatch_DiffMatchPatch_DiffCommonOverlap.j0
      repeat' first
      | (with_reducible exact ih0 _ _ _ _ _ _ _ _ _ _ _ _)
      | (with_reducible exact ih1 _ _ _ _ _ _ _ _ _ _ _)
      | (with_reducible exact ih2 _ _ _ _ _ _ _ _ _ _ _ _)
      | (with_reducible exact diffmatchpatch_zzIndex.mono _ _ _)
      | (with_reducible exact LeO.refl _)
      | (with_reducible exact LeO.none _)
      | (with_reducible refine LeO.ite ?_ ?_)
      | (with_reducible refine LeO.bind ?_ (fun _ => ?_))
      | exact ih0 _ _ _ _ _ _ _ _ _ _ _ _
      | exact ih1 _ _ _ _ _ _ _ _ _ _ _
      | exact ih2 _ _ _ _ _ _ _ _ _ _ _ _
      | exact diffmatchpatch_zzIndex.mono _ _ _
      | exact LeO.none _
      | refine LeO.ite ?_ ?_
      | refine LeO.bind ?_ (fun _ => ?_)
    · intro y0 y1 y2 y3 y4 y5 y6 y7 y8 y9 y10
      unfold diffmatchpatch_DiffMatchPatch_DiffCommonOverlap.j1
      repeat' first
      | (with_reducible exact ih0 _ _ _ _ _ _ _ _ _ _ _ _)
      | (with_reducible exact ih1 _ _ _ _ _ _ _ _ _ _ _)
      | (with_reducible exact ih2 _ _ _ _ _ _ _ _ _ _ _ _)
      | (with_reducible exact diffmatchpatch_zzIndex.mono _ _ _)
      | (with_reducible exact LeO.refl _)
      | (with_reducible exact LeO.none _)
      | (with_reducible refine LeO.ite ?_ ?_)
      | (with_reducible refine LeO.bind ?_ (fun _ => ?_))
      | exact ih0 _ _ _ _ _ _ _ _ _ _ _ _
      | exact ih1 _ _ _ _ _ _ _ _ _ _ _
      | exact ih2 _ _ _ _ _ _ _ _ _ _ _ _
      | exact diffmatchpatch_zzIndex.mono _ _ _
      | exact LeO.none _
      | refine LeO.ite ?_ ?_
      | refine LeO.bind ?_ (fun _ => ?_)
    · intro y0 y1 y2 y3 y4 y5 y6 y7 y8 y9 y10 y11
      unfold diffmatchpatch_DiffMatchPatch_DiffCommonOverlap.l0
      repeat' first
      | (with_reducible exact ih0 _ _ _ _ _ _ _ _ _ _ _ _)
      | (with_reducible exact ih1 _ _ _ _ _ _ _ _ _ _ _)
      | (with_reducible exact ih2 _ _ _ _ _ _ _ _ _ _ _ _)
      | (with_reducible exact diffmatchpatch_zzIndex.mono _ _ _)
      | (with_reducible exact LeO.refl _)
      | (with_reducible exact LeO.none _)
      | (with_reducible refine LeO.ite ?_ ?_)
      | (with_reducible refine LeO.bind ?_ (fun _ => ?_))
      | exact ih0 _ _ _ _ _ _ _ _ _ _ _ _
      | exact ih1 _ _ _ _ _ _ _ _ _ _ _
      | exact ih2 _ _ _ _ _ _ _ _ _ _ _ _
      | exact diffmatchpatch_zzIndex.mono _ _ _
      | exact LeO.none _
      | refine LeO.ite ?_ ?_
      | refine LeO.bind ?_ (fun _ => ?_)
theorem diffmatchpatch_DiffMatchPatch_DiffCommonOverlap.mono : ∀ a0 a1 a2 a3 a4 a5 a6 a7 a8 k, LeO (diffmatchpatch_DiffMatchPatch_DiffCommonOverlap.f k a0 a1 a2 a3 a4 a5 a6 a7 a8) (diffmatchpatch_DiffMatchPatch_DiffCommonOverlap.f (k + 1) a0 a1 a2 a3 a4 a5 a6 a7 a8) := by
  intro a0 a1 a2 a3 a4 a5 a6 a7 a8 k
  obtain ⟨ih0, ih1, ih2⟩ := diffmatchpatch_DiffMatchPatch_DiffCommonOverlap.mono_l k
  unfold diffmatchpatch_DiffMatchPatch_DiffCommonOverlap.f
  repeat' first
      | (with_reducible exact ih0 _ _ _ _ _ _ _ _ _ _ _ _)
      | (with_reducible exact ih1 _ _ _ _ _ _ _ _ _ _ _)
      | (with_reducible exact ih2 _ _ _ _ _ _ _ _ _ _ _ _)
      | (with_reducible exact diffmatchpatch_zzIndex.mono _ _ _)
      | (with_reducible exact LeO.refl _)
      | (with_reducible exact LeO.none _)
      | (with_reducible refine LeO.ite ?_ ?_)
      | (with_reducible refine LeO.bind ?_ (fun _ => ?_))
      | exact ih0 _ _ _ _ _ _ _ _ _ _ _ _
      | exact ih1 _ _ _ _ _ _ _ _ _ _ _
      | exact ih2 _ _ _ _ _ _ _ _ _ _ _ _
      | exact diffmatchpatch_zzIndex.mono _ _ _
      | exact LeO.none _
      | refine LeO.ite ?_ ?_
      | refine LeO.bind ?_ (fun _ => ?_)
set_option maxHeartbeats 8000000 in
set_option maxRecDepth 100000 in
theorem diffmatchpatch_DiffMatchPatch_DiffCommonOverlap.calls (k : Nat) (g : Nat) (s0_0 : Int) (s0_1 : Int) (s0_2 : Int) (s0_3 : Nat) (s0_4 : Int) (s0_5 : Int) (s0_6 : Nat) (a1 : ByteArray) (a2 : ByteArray) (r1 : Int) (r2 : Int) (r3 : Int) (r4 : Int) (r5 : Nat) (r6 : Int) (r7 : Int) (r8 : Nat) (w0 w : World) (hI : IsS81 w0 w g s0_0 s0_1 s0_2 s0_3 s0_4 s0_5 s0_6) (hB : Below w0.heap.size w0 w) (h : diffmatchpatch_DiffMatchPatch_DiffCommonOverlap.f k s0_0 s0_1 s0_2 s0_3 s0_4 s0_5 s0_6 a1 a2 = some (r1, r2, r3, r4, r5, r6, r7, r8)) :
    Calls Try.prog 43 #[.pointer (some ⟨g, 0, none⟩), .string a1, .string a2] w fun e w' => e = .returned (.int .i64 r1) ∧ IsS81 w0 w' g r2 r3 r4 r5 r6 r7 r8 ∧ Below w0.heap.size w0 w' ∧ KeepBut w w' g none := by
  have HI0 := Aside0.mk hI
  have HK := Aside0.mk (KeepBut.refl w g none)
  have HL := Aside0.mk hB.size
  clear hI
  have HW0 := Aside0.mk hB.size
  have HB := Aside0.mk hB
  clear hB
  have H : (if (a1.size : Int) = 0 then (diffmatchpatch_DiffMatchPatch_DiffCommonOverlap.j0 k a1 a2 (a1.size : Int) (a2.size : Int) true s0_0 s0_1 s0_2 s0_3 s0_4 s0_5 s0_6) else (diffmatchpatch_DiffMatchPatch_DiffCommonOverlap.j0 k a1 a2 (a1.size : Int) (a2.size : Int) ((a2.size : Int) == 0) s0_0 s0_1 s0_2 s0_3 s0_4 s0_5 s0_6)) = some (r1, r2, r3, r4, r5, r6, r7, r8) := h
  clear h
  have HC4 := Aside0.mk H
  clear H
  go_enter Try.func43, Try.ntmps43
  go_upto_region 3 with (fail)
  repeat (go_quiet (fail); go_upto_region 3 with (fail))
  go_cut [23] (fun v23 wc => ∃ (kq : Nat) (x23_3 : Bool), v23 = .bool x23_3 ∧ Aside0 (diffmatchpatch_DiffMatchPatch_DiffCommonOverlap.j0 kq a1 a2 (a1.size : Int) (a2.size : Int) x23_3 s0_0 s0_1 s0_2 s0_3 s0_4 s0_5 s0_6 = some (r1, r2, r3, r4, r5, r6, r7, r8)) ∧ Aside0 (kq ≤ k) ∧ Aside0 (IsS81 w0 wc g s0_0 s0_1 s0_2 s0_3 s0_4 s0_5 s0_6) ∧ Aside0 (KeepBut w wc g none) ∧ Aside0 (Below w0.heap.size w0 wc))
  case first =>
    have H := HC4.out
    clear HC4
    by_cases c5 : (a1.size : Int) = 0
    · rw [if_pos c5] at H
      have c5b0 : ((a1.size : Int) == 0) = true := beq_iff_eq.mpr c5
      have c5b1 : ((a1.size : Int) != 0) = false := bne_eq_false_iff_eq.mpr c5
      clear c5
      (first | rw [c5b0] | (simp only [i64_w, i32_w]; rw [c5b0]) | rw [c5b2] | rw [c5b1] | skip)
      have H' := Aside0.mk H
      clear H
      go_wp2
      repeat (go_quiet (fail); try go_wp2)
      go_meet
      case rel => exact ⟨_, (true), (by first | rfl | (simp; done) | (simp [*]; done)), H', ⟨by first | omega | exact Nat.le_refl _⟩, ⟨by repeat (first | (with_reducible first | exact HI0.out | apply IsS81.alloc | apply IsS81.drewN | apply IsS81.drew | apply IsS81.set_0 | apply IsS81.set_1 | apply IsS81.set_2 | apply IsS81.set_3 | apply IsS81.set_4 | apply IsS81.set_5 | apply IsS81.set_6) | exact HI0.out)⟩, ⟨by repeat (first | (with_reducible first | exact HK.out | apply KeepBut.set_ | apply keep_drewN | apply keep_drew | apply keep_alloc) | exact HK.out)⟩, ⟨by repeat (first | (with_reducible first | exact HB.out | apply below_alloc | apply pw_below_drewN | apply below_drew1 | refine below_set ?_ (IsS81.ge HI0.out)) | exact HB.out)⟩⟩
    rw [if_neg c5] at H
    have c5b0 : ((a1.size : Int) == 0) = false := beq_eq_false_iff_ne.mpr c5
    have c5b1 : ((a1.size : Int) != 0) = true := bne_iff_ne.mpr c5
    (first | rw [c5b0] | (simp only [i64_w, i32_w]; rw [c5b0]) | rw [c5b2] | rw [c5b1] | skip)
    have H' := Aside0.mk H
    clear H
    go_wp2
    repeat (go_quiet (fail); try go_wp2)
    go_meet
    case rel => exact ⟨_, (((a2.size : Int) == 0)), (by first | rfl | (simp; done) | (simp [*]; done)), H', ⟨by first | omega | exact Nat.le_refl _⟩, ⟨by repeat (first | (with_reducible first | exact HI0.out | apply IsS81.alloc | apply IsS81.drewN | apply IsS81.drew | apply IsS81.set_0 | apply IsS81.set_1 | apply IsS81.set_2 | apply IsS81.set_3 | apply IsS81.set_4 | apply IsS81.set_5 | apply IsS81.set_6) | exact HI0.out)⟩, ⟨by repeat (first | (with_reducible first | exact HK.out | apply KeepBut.set_ | apply keep_drewN | apply keep_drew | apply keep_alloc) | exact HK.out)⟩, ⟨by repeat (first | (with_reducible first | exact HB.out | apply below_alloc | apply pw_below_drewN | apply below_drew1 | refine below_set ?_ (IsS81.ge HI0.out)) | exact HB.out)⟩⟩
  case rest =>
    clear HC4
    try clear p2
    try clear c4
    try clear c5
    try clear c5b0
    try clear c5b1
    try clear c5b2
    obtain ⟨kq, x23_3, rfl, HA, HJ3, HI0, HK, HB⟩ := hcut
    rcases kq with _ | kj3
    · exact absurd HA.out (by simp [diffmatchpatch_DiffMatchPatch_DiffCommonOverlap.j0])
    have H := HA.out
    clear HA
    simp only [diffmatchpatch_DiffMatchPatch_DiffCommonOverlap.j0] at H
    by_cases c6 : x23_3 = true
    · subst c6
      have H1 : (some (0, s0_0, s0_1, s0_2, s0_3, s0_4, s0_5, s0_6)) = some (r1, r2, r3, r4, r5, r6, r7, r8) := by rw [if_pos rfl] at H; exact H
      clear H
      have H := H1
      clear H1
      simp only [Option.some.injEq, Prod.mk.injEq] at H
      obtain ⟨rfl, rfl, rfl, rfl, rfl, rfl, rfl, rfl⟩ := H
      go_wp2
      repeat (go_quiet (fail); try go_wp2)
      go_ret
      exact ⟨by first | rfl | (simp [errW_none, errW_some] <;> rfl) | (simp [*, errW_none, errW_some] <;> rfl), by repeat (first | (with_reducible first | exact HI0.out | apply IsS81.alloc | apply IsS81.drewN | apply IsS81.drew | apply IsS81.set_0 | apply IsS81.set_1 | apply IsS81.set_2 | apply IsS81.set_3 | apply IsS81.set_4 | apply IsS81.set_5 | apply IsS81.set_6) | exact HI0.out), by repeat (first | (with_reducible first | exact HB.out | apply below_alloc | apply pw_below_drewN | apply below_drew1 | refine below_set ?_ (IsS81.ge HI0.out)) | exact HB.out), by repeat (first | (with_reducible first | exact HK.out | apply KeepBut.set_ | apply keep_drewN | apply keep_drew | apply keep_alloc) | exact HK.out)⟩
    replace c6 := Bool.eq_false_iff.mpr c6
    subst c6
    have H1 : (if (a1.size : Int) > (a2.size : Int) then (if 0 ≤ (wrap64 ((a1.size : Int) - (a2.size : Int))) then (if (wrap64 ((a1.size : Int) - (a2.size : Int))) ≤ (a1.size : Int) then (diffmatchpatch_DiffMatchPatch_DiffCommonOverlap.j1 kj3 (a1.extract ((wrap64 ((a1.size : Int) - (a2.size : Int))) : Int).toNat a1.size) a2 (a1.size : Int) (a2.size : Int) s0_0 s0_1 s0_2 s0_3 s0_4 s0_5 s0_6) else (none)) else (none)) else (if (a1.size : Int) < (a2.size : Int) then (if 0 ≤ (a1.size : Int) then (if (a1.size : Int) ≤ (a2.size : Int) then (diffmatchpatch_DiffMatchPatch_DiffCommonOverlap.j1 kj3 a1 (a2.extract 0 ((a1.size : Int) : Int).toNat) (a1.size : Int) (a2.size : Int) s0_0 s0_1 s0_2 s0_3 s0_4 s0_5 s0_6) else (none)) else (none)) else (diffmatchpatch_DiffMatchPatch_DiffCommonOverlap.j1 kj3 a1 a2 (a1.size : Int) (a2.size : Int) s0_0 s0_1 s0_2 s0_3 s0_4 s0_5 s0_6))) = some (r1, r2, r3, r4, r5, r6, r7, r8) := by rw [if_neg (show ¬ (false = true) by decide)] at H; exact H
    clear H
    have H := H1
    clear H1
    have HC7 := Aside0.mk H
    clear H
    go_upto_if 26 with (fail)
    repeat (go_quiet (fail); go_upto_if 26 with (fail))
    go_cut [1, 2] (fun v1 v2 wc => ∃ (kq : Nat) (x1_6 : ByteArray) (x2_6 : ByteArray), v1 = .string x1_6 ∧ v2 = .string x2_6 ∧ Aside0 (diffmatchpatch_DiffMatchPatch_DiffCommonOverlap.j1 kq x1_6 x2_6 (a1.size : Int) (a2.size : Int) s0_0 s0_1 s0_2 s0_3 s0_4 s0_5 s0_6 = some (r1, r2, r3, r4, r5, r6, r7, r8)) ∧ Aside0 (kq ≤ kj3) ∧ Aside0 (IsS81 w0 wc g s0_0 s0_1 s0_2 s0_3 s0_4 s0_5 s0_6) ∧ Aside0 (KeepBut w wc g none) ∧ Aside0 (Below w0.heap.size w0 wc))
    case first =>
      have H := HC7.out
      clear HC7
      by_cases c8 : (a1.size : Int) > (a2.size : Int)
      · rw [if_pos c8] at H
        have c8b0 : decide ((a2.size : Int) < (a1.size : Int)) = true := decide_eq_true c8
        have c8b1 : decide (a2.size < a1.size) = true := decide_eq_true (Int.ofNat_lt.mp c8)
        clear c8
        (first | rw [c8b0] | (simp only [i64_w, i32_w]; rw [c8b0]) | rw [c8b2] | rw [c8b1] | skip)
        obtain ⟨ji9, hji9⟩ : ∃ j_ : Int, (wrap64 ((a1.size : Int) - (a2.size : Int))) = j_ := ⟨_, rfl⟩
        replace H : (if 0 ≤ (ji9) then (if (ji9) ≤ (a1.size : Int) then (diffmatchpatch_DiffMatchPatch_DiffCommonOverlap.j1 kj3 (a1.extract ((ji9) : Int).toNat a1.size) a2 (a1.size : Int) (a2.size : Int) s0_0 s0_1 s0_2 s0_3 s0_4 s0_5 s0_6) else (none)) else (none)) = some (r1, r2, r3, r4, r5, r6, r7, r8) := by first | (rw [hji9] at H; exact H) | (simp only [hji9] at H ⊢; exact H)
        have hji9w : (IntKind.i64.wrap ((a1.size : Int) - (a2.size : Int))) = ji9 := (i64_w _).trans hji9
        by_cases c10 : 0 ≤ (ji9)
        rotate_left
        · rw [if_neg c10] at H
          exact absurd H (by simp)
        rw [if_pos c10] at H
        have c10b0 := eq_true c10
        have c10b1 : decide (0 ≤ (ji9)) = true := decide_eq_true c10
        clear c10
        by_cases c11 : (ji9) ≤ (a1.size : Int)
        rotate_left
        · rw [if_neg c11] at H
          exact absurd H (by simp)
        rw [if_pos c11] at H
        have c11b0 := eq_true c11
        have c11b1 : decide ((ji9) ≤ (a1.size : Int)) = true := decide_eq_true c11
        clear c11
        have H' := Aside0.mk H
        clear H
        go_wp2
        repeat (go_quiet (fail); try go_wp2)
        go_meet
        case rel => exact ⟨_, (a1.extract ((ji9) : Int).toNat a1.size), (a2), (by first | rfl | (simp; done) | (simp only [← hji9] <;> (first | rfl | simp)) | (simp [*]; done)), (by first | rfl | (simp; done) | (simp [*]; done)), H', ⟨by have := HJ3.out; first | omega | exact Nat.le_refl _⟩, ⟨by repeat (first | (with_reducible first | exact HI0.out | apply IsS81.alloc | apply IsS81.drewN | apply IsS81.drew | apply IsS81.set_0 | apply IsS81.set_1 | apply IsS81.set_2 | apply IsS81.set_3 | apply IsS81.set_4 | apply IsS81.set_5 | apply IsS81.set_6) | exact HI0.out)⟩, ⟨by repeat (first | (with_reducible first | exact HK.out | apply KeepBut.set_ | apply keep_drewN | apply keep_drew | apply keep_alloc) | exact HK.out)⟩, ⟨by repeat (first | (with_reducible first | exact HB.out | apply below_alloc | apply pw_below_drewN | apply below_drew1 | refine below_set ?_ (IsS81.ge HI0.out)) | exact HB.out)⟩⟩
      rw [if_neg c8] at H
      have c8b0 : decide ((a2.size : Int) < (a1.size : Int)) = false := decide_eq_false c8
      have c8b1 : decide (a2.size < a1.size) = false := decide_eq_false (fun h => c8 (Int.ofNat_lt.mpr h))
      clear c8
      (first | rw [c8b0] | (simp only [i64_w, i32_w]; rw [c8b0]) | rw [c8b2] | rw [c8b1] | skip)
      by_cases c12 : (a1.size : Int) < (a2.size : Int)
      rotate_left
      · rw [if_neg c12] at H
        have c12b0 : decide ((a1.size : Int) < (a2.size : Int)) = false := decide_eq_false c12
        have c12b1 : decide (a1.size < a2.size) = false := decide_eq_false (fun h => c12 (Int.ofNat_lt.mpr h))
        clear c12
        have H' := Aside0.mk H
        clear H
        go_wp2
        repeat (go_quiet (fail); try go_wp2)
        go_meet
        case rel => exact ⟨_, (a1), (a2), (by first | rfl | (simp; done) | (simp [*]; done)), (by first | rfl | (simp; done) | (simp [*]; done)), H', ⟨by have := HJ3.out; first | omega | exact Nat.le_refl _⟩, ⟨by repeat (first | (with_reducible first | exact HI0.out | apply IsS81.alloc | apply IsS81.drewN | apply IsS81.drew | apply IsS81.set_0 | apply IsS81.set_1 | apply IsS81.set_2 | apply IsS81.set_3 | apply IsS81.set_4 | apply IsS81.set_5 | apply IsS81.set_6) | exact HI0.out)⟩, ⟨by repeat (first | (with_reducible first | exact HK.out | apply KeepBut.set_ | apply keep_drewN | apply keep_drew | apply keep_alloc) | exact HK.out)⟩, ⟨by repeat (first | (with_reducible first | exact HB.out | apply below_alloc | apply pw_below_drewN | apply below_drew1 | refine below_set ?_ (IsS81.ge HI0.out)) | exact HB.out)⟩⟩
      rw [if_pos c12] at H
      have c12b0 : decide ((a1.size : Int) < (a2.size : Int)) = true := decide_eq_true c12
      have c12b1 : decide (a1.size < a2.size) = true := decide_eq_true (Int.ofNat_lt.mp c12)
      clear c12
      by_cases c13 : 0 ≤ (a1.size : Int)
      rotate_left
      · rw [if_neg c13] at H
        exact absurd H (by simp)
      rw [if_pos c13] at H
      have c13b0 := eq_true c13
      have c13b1 : decide (0 ≤ (a1.size : Int)) = true := decide_eq_true c13
      clear c13
      by_cases c14 : (a1.size : Int) ≤ (a2.size : Int)
      rotate_left
      · rw [if_neg c14] at H
        exact absurd H (by simp)
      rw [if_pos c14] at H
      have c14b0 := eq_true c14
      have c14b1 : decide ((a1.size : Int) ≤ (a2.size : Int)) = true := decide_eq_true c14
      have c14bn : (a1.size ≤ a2.size) = True := eq_true (Int.ofNat_le.mp c14)
      clear c14
      have H' := Aside0.mk H
      clear H
      go_wp2
      repeat (go_quiet (fail); try go_wp2)
      go_meet
      case rel => exact ⟨_, (a1), (a2.extract 0 ((a1.size : Int) : Int).toNat), (by first | rfl | (simp; done) | (simp [*]; done)), (by first | rfl | (simp; done) | (simp [*]; done)), H', ⟨by have := HJ3.out; first | omega | exact Nat.le_refl _⟩, ⟨by repeat (first | (with_reducible first | exact HI0.out | apply IsS81.alloc | apply IsS81.drewN | apply IsS81.drew | apply IsS81.set_0 | apply IsS81.set_1 | apply IsS81.set_2 | apply IsS81.set_3 | apply IsS81.set_4 | apply IsS81.set_5 | apply IsS81.set_6) | exact HI0.out)⟩, ⟨by repeat (first | (with_reducible first | exact HK.out | apply KeepBut.set_ | apply keep_drewN | apply keep_drew | apply keep_alloc) | exact HK.out)⟩, ⟨by repeat (first | (with_reducible first | exact HB.out | apply below_alloc | apply pw_below_drewN | apply below_drew1 | refine below_set ?_ (IsS81.ge HI0.out)) | exact HB.out)⟩⟩
    case rest =>
      clear HC7
      try clear c1
      try clear p2
      try clear c4
      try clear c5
      try clear c5b0
      try clear c5b1
      try clear c5b2
      try clear c6
      try clear p6
      try clear c8
      try clear c8b0
      try clear c8b1
      try clear c8b2
      try clear c10
      try clear c10b0
      try clear c10b1
      try clear c11
      try clear c11b0
      try clear c11b1
      try clear c12
      try clear c12b0
      try clear c12b1
      try clear c13
      try clear c13b0
      try clear c13b1
      try clear c14
      try clear c14b0
      try clear c14b1
      try clear p2
      obtain ⟨kq, x1_6, x2_6, rfl, rfl, HA, HJ6, HI0, HK, HB⟩ := hcut
      rcases kq with _ | kj6
      · exact absurd HA.out (by simp [diffmatchpatch_DiffMatchPatch_DiffCommonOverlap.j1])
      have H := HA.out
      clear HA
      simp only [diffmatchpatch_DiffMatchPatch_DiffCommonOverlap.j1] at H
      replace H := Option.bind_eq_some_iff.mp H
      obtain ⟨t354, A150, H⟩ := H
      replace H : ((floatToIntVal .f64 t354 .i64).bind fun t355 => (if x1_6.toList = x2_6.toList then (some (t355, s0_0, s0_1, s0_2, s0_3, s0_4, s0_5, s0_6)) else (diffmatchpatch_DiffMatchPatch_DiffCommonOverlap.l0 kj6 x1_6 x2_6 t355 0 1 s0_0 s0_1 s0_2 s0_3 s0_4 s0_5 s0_6))) = some (r1, r2, r3, r4, r5, r6, r7, r8) := H
      have A15 := Aside0.mk A150
      clear A150
      replace H := Option.bind_eq_some_iff.mp H
      obtain ⟨t355, A160, H⟩ := H
      replace H : (if x1_6.toList = x2_6.toList then (some (t355, s0_0, s0_1, s0_2, s0_3, s0_4, s0_5, s0_6)) else (diffmatchpatch_DiffMatchPatch_DiffCommonOverlap.l0 kj6 x1_6 x2_6 t355 0 1 s0_0 s0_1 s0_2 s0_3 s0_4 s0_5 s0_6)) = some (r1, r2, r3, r4, r5, r6, r7, r8) := H
      have hfA16 := fun (W_ : World) => run_convert_float_int (P := Try.prog) W_ 38 3 .f64 .i64 t354 t355 rfl (by first | exact Try.underlying3 | rfl) A160
      have A16 := Aside0.mk A160
      clear A160
      by_cases c17 : x1_6.toList = x2_6.toList
      · rw [if_pos c17] at H
        have c17b0 : (x1_6.toList == x2_6.toList) = true := beq_iff_eq.mpr c17
        have c17b1 : (x1_6.toList != x2_6.toList) = false := bne_eq_false_iff_eq.mpr c17
        clear c17
        simp only [Option.some.injEq, Prod.mk.injEq] at H
        obtain ⟨rfl, rfl, rfl, rfl, rfl, rfl, rfl, rfl⟩ := H
        go_wp2_with (first | (go_at_call 53; (with_reducible refine (math_Min.calls (floatOfInt .f64 (a1.size : Int)) (floatOfInt .f64 (a2.size : Int)) t354 _ A15.out).mono ?_); rintro e w' ⟨rfl, ⟨nd, rfl⟩⟩; (try first | exact ⟨rfl, _, World.drewN_drewN _ _ _⟩ | exact ⟨rfl, _, Eq.trans (World.drewN_drewN _ _ _) (congrArg (World.drewN _) (Nat.add_assoc _ _ _))⟩)))
        repeat (go_quiet (first | (go_at_call 53; (with_reducible refine (math_Min.calls (floatOfInt .f64 (a1.size : Int)) (floatOfInt .f64 (a2.size : Int)) t354 _ A15.out).mono ?_); rintro e w' ⟨rfl, ⟨nd, rfl⟩⟩; (try first | exact ⟨rfl, _, World.drewN_drewN _ _ _⟩ | exact ⟨rfl, _, Eq.trans (World.drewN_drewN _ _ _) (congrArg (World.drewN _) (Nat.add_assoc _ _ _))⟩))); try go_wp2_with (first | (go_at_call 53; (with_reducible refine (math_Min.calls (floatOfInt .f64 (a1.size : Int)) (floatOfInt .f64 (a2.size : Int)) t354 _ A15.out).mono ?_); rintro e w' ⟨rfl, ⟨nd, rfl⟩⟩; (try first | exact ⟨rfl, _, World.drewN_drewN _ _ _⟩ | exact ⟨rfl, _, Eq.trans (World.drewN_drewN _ _ _) (congrArg (World.drewN _) (Nat.add_assoc _ _ _))⟩))))
        go_ret
        exact ⟨by first | rfl | (simp [errW_none, errW_some] <;> rfl) | (simp [*, errW_none, errW_some] <;> rfl), by repeat (first | (with_reducible first | exact HI0.out | apply IsS81.alloc | apply IsS81.drewN | apply IsS81.drew | apply IsS81.set_0 | apply IsS81.set_1 | apply IsS81.set_2 | apply IsS81.set_3 | apply IsS81.set_4 | apply IsS81.set_5 | apply IsS81.set_6) | exact HI0.out), by repeat (first | (with_reducible first | exact HB.out | apply below_alloc | apply pw_below_drewN | apply below_drew1 | refine below_set ?_ (IsS81.ge HI0.out)) | exact HB.out), by repeat (first | (with_reducible first | exact HK.out | apply KeepBut.set_ | apply keep_drewN | apply keep_drew | apply keep_alloc) | exact HK.out)⟩
      rw [if_neg c17] at H
      have c17b0 : (x1_6.toList == x2_6.toList) = false := beq_eq_false_iff_ne.mpr c17
      have c17b1 : (x1_6.toList != x2_6.toList) = true := bne_iff_ne.mpr c17
      have H' := Aside0.mk H
      clear H
      go_wp2_with (first | (go_at_call 53; (with_reducible refine (math_Min.calls (floatOfInt .f64 (a1.size : Int)) (floatOfInt .f64 (a2.size : Int)) t354 _ A15.out).mono ?_); rintro e w' ⟨rfl, ⟨nd, rfl⟩⟩; (try first | exact ⟨rfl, _, World.drewN_drewN _ _ _⟩ | exact ⟨rfl, _, Eq.trans (World.drewN_drewN _ _ _) (congrArg (World.drewN _) (Nat.add_assoc _ _ _))⟩)))
      repeat (go_quiet (first | (go_at_call 53; (with_reducible refine (math_Min.calls (floatOfInt .f64 (a1.size : Int)) (floatOfInt .f64 (a2.size : Int)) t354 _ A15.out).mono ?_); rintro e w' ⟨rfl, ⟨nd, rfl⟩⟩; (try first | exact ⟨rfl, _, World.drewN_drewN _ _ _⟩ | exact ⟨rfl, _, Eq.trans (World.drewN_drewN _ _ _) (congrArg (World.drewN _) (Nat.add_assoc _ _ _))⟩))); try go_wp2_with (first | (go_at_call 53; (with_reducible refine (math_Min.calls (floatOfInt .f64 (a1.size : Int)) (floatOfInt .f64 (a2.size : Int)) t354 _ A15.out).mono ?_); rintro e w' ⟨rfl, ⟨nd, rfl⟩⟩; (try first | exact ⟨rfl, _, World.drewN_drewN _ _ _⟩ | exact ⟨rfl, _, Eq.trans (World.drewN_drewN _ _ _) (congrArg (World.drewN _) (Nat.add_assoc _ _ _))⟩))))
      go_loopg [10, 11] kj6 (fun kq v10 v11 w' => ∃ (x10_3 : Int) (x11_3 : Int), v10 = .int .i64 x10_3 ∧ v11 = .int .i64 x11_3 ∧ Aside0 (diffmatchpatch_DiffMatchPatch_DiffCommonOverlap.l0 kq x1_6 x2_6 t355 x10_3 x11_3 s0_0 s0_1 s0_2 s0_3 s0_4 s0_5 s0_6 = some (r1, r2, r3, r4, r5, r6, r7, r8)) ∧ Aside0 (kq ≤ kj6) ∧ Aside0 (IsS81 w0 w' g s0_0 s0_1 s0_2 s0_3 s0_4 s0_5 s0_6) ∧ Aside0 (KeepBut w w' g none) ∧ Aside0 (Below w0.heap.size w0 w'))
      case atStart => exact ⟨(0), (1), (by first | rfl | (simp; done) | (simp [*]; done)), (by first | rfl | (simp; done) | (simp [*]; done)), H', ⟨Nat.le_refl _⟩, ⟨by repeat (first | (with_reducible first | exact HI0.out | apply IsS81.alloc | apply IsS81.drewN | apply IsS81.drew | apply IsS81.set_0 | apply IsS81.set_1 | apply IsS81.set_2 | apply IsS81.set_3 | apply IsS81.set_4 | apply IsS81.set_5 | apply IsS81.set_6) | exact HI0.out)⟩, ⟨by repeat (first | (with_reducible first | exact HK.out | apply KeepBut.set_ | apply keep_drewN | apply keep_drew | apply keep_alloc) | exact HK.out)⟩, ⟨by repeat (first | (with_reducible first | exact HB.out | apply below_alloc | apply pw_below_drewN | apply below_drew1 | refine below_set ?_ (IsS81.ge HI0.out)) | exact HB.out)⟩⟩
      case round =>
        clear H'
        try clear c1
        try clear p2
        try clear c4
        try clear c5
        try clear c5b0
        try clear c5b1
        try clear c5b2
        try clear c6
        try clear p6
        try clear c8
        try clear c8b0
        try clear c8b1
        try clear c8b2
        try clear c10
        try clear c10b0
        try clear c10b1
        try clear c11
        try clear c11b0
        try clear c11b1
        try clear c12
        try clear c12b0
        try clear c12b1
        try clear c13
        try clear c13b0
        try clear c13b1
        try clear c14
        try clear c14b0
        try clear c14b1
        try clear c17
        try clear c17b0
        try clear c17b1
        try clear p2
        try clear p6
        obtain ⟨x10_3, x11_3, rfl, rfl, HA, HK3, HI0, HK, HB⟩ := hrel
        rcases gk with _ | k3
        · exact absurd HA.out (by simp [diffmatchpatch_DiffMatchPatch_DiffCommonOverlap.l0])
        have H := HA.out
        clear HA
        simp only [diffmatchpatch_DiffMatchPatch_DiffCommonOverlap.l0] at H
        obtain ⟨ji18, hji18⟩ : ∃ j_ : Int, (wrap64 (t355 - x11_3)) = j_ := ⟨_, rfl⟩
        replace H : (if 0 ≤ (ji18) then (if (ji18) ≤ (x1_6.size : Int) then ((diffmatchpatch_zzIndex.f k3 x2_6 (x1_6.extract ((ji18) : Int).toNat x1_6.size)).bind fun t356 => (if t356 = (-1) then (some (x10_3, s0_0, s0_1, s0_2, s0_3, s0_4, s0_5, s0_6)) else (if t356 = 0 then (diffmatchpatch_DiffMatchPatch_DiffCommonOverlap.l0 k3 x1_6 x2_6 t355 (wrap64 (x11_3 + t356)) (wrap64 ((wrap64 (x11_3 + t356)) + 1)) s0_0 s0_1 s0_2 s0_3 s0_4 s0_5 s0_6) else (if 0 ≤ (wrap64 (t355 - (wrap64 (x11_3 + t356)))) then (if (wrap64 (t355 - (wrap64 (x11_3 + t356)))) ≤ (x1_6.size : Int) then (if 0 ≤ (wrap64 (x11_3 + t356)) then (if (wrap64 (x11_3 + t356)) ≤ (x2_6.size : Int) then (if (x1_6.extract ((wrap64 (t355 - (wrap64 (x11_3 + t356)))) : Int).toNat x1_6.size).toList = (x2_6.extract 0 ((wrap64 (x11_3 + t356)) : Int).toNat).toList then (diffmatchpatch_DiffMatchPatch_DiffCommonOverlap.l0 k3 x1_6 x2_6 t355 (wrap64 (x11_3 + t356)) (wrap64 ((wrap64 (x11_3 + t356)) + 1)) s0_0 s0_1 s0_2 s0_3 s0_4 s0_5 s0_6) else (diffmatchpatch_DiffMatchPatch_DiffCommonOverlap.l0 k3 x1_6 x2_6 t355 x10_3 (wrap64 (x11_3 + t356)) s0_0 s0_1 s0_2 s0_3 s0_4 s0_5 s0_6)) else (none)) else (none)) else (none)) else (none))))) else (none)) else (none)) = some (r1, r2, r3, r4, r5, r6, r7, r8) := by first | (rw [hji18] at H; exact H) | (simp only [hji18] at H ⊢; exact H)
        have hji18w : (IntKind.i64.wrap (t355 - x11_3)) = ji18 := (i64_w _).trans hji18
        by_cases c19 : 0 ≤ (ji18)
        rotate_left
        · rw [if_neg c19] at H
          exact absurd H (by simp)
        rw [if_pos c19] at H
        have c19b0 := eq_true c19
        have c19b1 : decide (0 ≤ (ji18)) = true := decide_eq_true c19
        clear c19
        by_cases c20 : (ji18) ≤ (x1_6.size : Int)
        rotate_left
        · rw [if_neg c20] at H
          exact absurd H (by simp)
        rw [if_pos c20] at H
        have c20b0 := eq_true c20
        have c20b1 : decide ((ji18) ≤ (x1_6.size : Int)) = true := decide_eq_true c20
        clear c20
        replace H := Option.bind_eq_some_iff.mp H
        obtain ⟨t356, A210, H⟩ := H
        replace H : (if t356 = (-1) then (some (x10_3, s0_0, s0_1, s0_2, s0_3, s0_4, s0_5, s0_6)) else (if t356 = 0 then (diffmatchpatch_DiffMatchPatch_DiffCommonOverlap.l0 k3 x1_6 x2_6 t355 (wrap64 (x11_3 + t356)) (wrap64 ((wrap64 (x11_3 + t356)) + 1)) s0_0 s0_1 s0_2 s0_3 s0_4 s0_5 s0_6) else (if 0 ≤ (wrap64 (t355 - (wrap64 (x11_3 + t356)))) then (if (wrap64 (t355 - (wrap64 (x11_3 + t356)))) ≤ (x1_6.size : Int) then (if 0 ≤ (wrap64 (x11_3 + t356)) then (if (wrap64 (x11_3 + t356)) ≤ (x2_6.size : Int) then (if (x1_6.extract ((wrap64 (t355 - (wrap64 (x11_3 + t356)))) : Int).toNat x1_6.size).toList = (x2_6.extract 0 ((wrap64 (x11_3 + t356)) : Int).toNat).toList then (diffmatchpatch_DiffMatchPatch_DiffCommonOverlap.l0 k3 x1_6 x2_6 t355 (wrap64 (x11_3 + t356)) (wrap64 ((wrap64 (x11_3 + t356)) + 1)) s0_0 s0_1 s0_2 s0_3 s0_4 s0_5 s0_6) else (diffmatchpatch_DiffMatchPatch_DiffCommonOverlap.l0 k3 x1_6 x2_6 t355 x10_3 (wrap64 (x11_3 + t356)) s0_0 s0_1 s0_2 s0_3 s0_4 s0_5 s0_6)) else (none)) else (none)) else (none)) else (none)))) = some (r1, r2, r3, r4, r5, r6, r7, r8) := H
        have A21 := Aside0.mk A210
        clear A210
        by_cases c22 : t356 = (-1)
        · rw [if_pos c22] at H
          have c22b0 : (t356 == (-1)) = true := beq_iff_eq.mpr c22
          have c22b1 : (t356 != (-1)) = false := bne_eq_false_iff_eq.mpr c22
          clear c22
          simp only [Option.some.injEq, Prod.mk.injEq] at H
          obtain ⟨rfl, rfl, rfl, rfl, rfl, rfl, rfl, rfl⟩ := H
          go_wp2_with (first | (go_at_call 54; (with_reducible refine (diffmatchpatch_zzIndex.calls k3 x2_6 (x1_6.extract ((ji18) : Int).toNat x1_6.size) t356 _ A21.out).mono ?_); rintro e w' ⟨rfl, ⟨nd, rfl⟩⟩; (try first | exact ⟨rfl, _, World.drewN_drewN _ _ _⟩ | exact ⟨rfl, _, Eq.trans (World.drewN_drewN _ _ _) (congrArg (World.drewN _) (Nat.add_assoc _ _ _))⟩)))
          repeat (go_quiet (first | (go_at_call 54; (with_reducible refine (diffmatchpatch_zzIndex.calls k3 x2_6 (x1_6.extract ((ji18) : Int).toNat x1_6.size) t356 _ A21.out).mono ?_); rintro e w' ⟨rfl, ⟨nd, rfl⟩⟩; (try first | exact ⟨rfl, _, World.drewN_drewN _ _ _⟩ | exact ⟨rfl, _, Eq.trans (World.drewN_drewN _ _ _) (congrArg (World.drewN _) (Nat.add_assoc _ _ _))⟩))); try go_wp2_with (first | (go_at_call 54; (with_reducible refine (diffmatchpatch_zzIndex.calls k3 x2_6 (x1_6.extract ((ji18) : Int).toNat x1_6.size) t356 _ A21.out).mono ?_); rintro e w' ⟨rfl, ⟨nd, rfl⟩⟩; (try first | exact ⟨rfl, _, World.drewN_drewN _ _ _⟩ | exact ⟨rfl, _, Eq.trans (World.drewN_drewN _ _ _) (congrArg (World.drewN _) (Nat.add_assoc _ _ _))⟩))))
          go_ret
          exact ⟨by first | rfl | (simp [errW_none, errW_some] <;> rfl) | (simp only [← hji18]; first | rfl | (simp [errW_none, errW_some] <;> rfl)) | (simp [*, errW_none, errW_some] <;> rfl), by repeat (first | (with_reducible first | exact HI0.out | apply IsS81.alloc | apply IsS81.drewN | apply IsS81.drew | apply IsS81.set_0 | apply IsS81.set_1 | apply IsS81.set_2 | apply IsS81.set_3 | apply IsS81.set_4 | apply IsS81.set_5 | apply IsS81.set_6) | exact HI0.out), by repeat (first | (with_reducible first | exact HB.out | apply below_alloc | apply pw_below_drewN | apply below_drew1 | refine below_set ?_ (IsS81.ge HI0.out)) | exact HB.out), by repeat (first | (with_reducible first | exact HK.out | apply KeepBut.set_ | apply keep_drewN | apply keep_drew | apply keep_alloc) | exact HK.out)⟩
        rw [if_neg c22] at H
        have c22b0 : (t356 == (-1)) = false := beq_eq_false_iff_ne.mpr c22
        have c22b1 : (t356 != (-1)) = true := bne_iff_ne.mpr c22
        by_cases c23 : t356 = 0
        · rw [if_pos c23] at H
          have c23b0 : (t356 == 0) = true := beq_iff_eq.mpr c23
          have c23b1 : (t356 != 0) = false := bne_eq_false_iff_eq.mpr c23
          clear c23
          have H' := Aside0.mk H
          clear H
          go_wp2_with (first | (go_at_call 54; (with_reducible refine (diffmatchpatch_zzIndex.calls k3 x2_6 (x1_6.extract ((ji18) : Int).toNat x1_6.size) t356 _ A21.out).mono ?_); rintro e w' ⟨rfl, ⟨nd, rfl⟩⟩; (try first | exact ⟨rfl, _, World.drewN_drewN _ _ _⟩ | exact ⟨rfl, _, Eq.trans (World.drewN_drewN _ _ _) (congrArg (World.drewN _) (Nat.add_assoc _ _ _))⟩)))
          repeat (go_quiet (first | (go_at_call 54; (with_reducible refine (diffmatchpatch_zzIndex.calls k3 x2_6 (x1_6.extract ((ji18) : Int).toNat x1_6.size) t356 _ A21.out).mono ?_); rintro e w' ⟨rfl, ⟨nd, rfl⟩⟩; (try first | exact ⟨rfl, _, World.drewN_drewN _ _ _⟩ | exact ⟨rfl, _, Eq.trans (World.drewN_drewN _ _ _) (congrArg (World.drewN _) (Nat.add_assoc _ _ _))⟩))); try go_wp2_with (first | (go_at_call 54; (with_reducible refine (diffmatchpatch_zzIndex.calls k3 x2_6 (x1_6.extract ((ji18) : Int).toNat x1_6.size) t356 _ A21.out).mono ?_); rintro e w' ⟨rfl, ⟨nd, rfl⟩⟩; (try first | exact ⟨rfl, _, World.drewN_drewN _ _ _⟩ | exact ⟨rfl, _, Eq.trans (World.drewN_drewN _ _ _) (congrArg (World.drewN _) (Nat.add_assoc _ _ _))⟩))))
          go_roundg k3
          case measure => have := HJ3.out; have := HJ6.out; have := HK3.out; omega
          case rel => exact ⟨(wrap64 (x11_3 + t356)), (wrap64 ((wrap64 (x11_3 + t356)) + 1)), (by first | rfl | (simp; done) | (simp [*]; done)), (by first | rfl | (simp; done) | (simp [*]; done)), H', ⟨by have := HJ3.out; have := HJ6.out; have := HK3.out; omega⟩, ⟨by repeat (first | (with_reducible first | exact HI0.out | apply IsS81.alloc | apply IsS81.drewN | apply IsS81.drew | apply IsS81.set_0 | apply IsS81.set_1 | apply IsS81.set_2 | apply IsS81.set_3 | apply IsS81.set_4 | apply IsS81.set_5 | apply IsS81.set_6) | exact HI0.out)⟩, ⟨by repeat (first | (with_reducible first | exact HK.out | apply KeepBut.set_ | apply keep_drewN | apply keep_drew | apply keep_alloc) | exact HK.out)⟩, ⟨by repeat (first | (with_reducible first | exact HB.out | apply below_alloc | apply pw_below_drewN | apply below_drew1 | refine below_set ?_ (IsS81.ge HI0.out)) | exact HB.out)⟩⟩
        rw [if_neg c23] at H
        have c23b0 : (t356 == 0) = false := beq_eq_false_iff_ne.mpr c23
        have c23b1 : (t356 != 0) = true := bne_iff_ne.mpr c23
        obtain ⟨ji24, hji24⟩ : ∃ j_ : Int, (wrap64 (t355 - (wrap64 (x11_3 + t356)))) = j_ := ⟨_, rfl⟩
        replace H : (if 0 ≤ (ji24) then (if (ji24) ≤ (x1_6.size : Int) then (if 0 ≤ (wrap64 (x11_3 + t356)) then (if (wrap64 (x11_3 + t356)) ≤ (x2_6.size : Int) then (if (x1_6.extract ((ji24) : Int).toNat x1_6.size).toList = (x2_6.extract 0 ((wrap64 (x11_3 + t356)) : Int).toNat).toList then (diffmatchpatch_DiffMatchPatch_DiffCommonOverlap.l0 k3 x1_6 x2_6 t355 (wrap64 (x11_3 + t356)) (wrap64 ((wrap64 (x11_3 + t356)) + 1)) s0_0 s0_1 s0_2 s0_3 s0_4 s0_5 s0_6) else (diffmatchpatch_DiffMatchPatch_DiffCommonOverlap.l0 k3 x1_6 x2_6 t355 x10_3 (wrap64 (x11_3 + t356)) s0_0 s0_1 s0_2 s0_3 s0_4 s0_5 s0_6)) else (none)) else (none)) else (none)) else (none)) = some (r1, r2, r3, r4, r5, r6, r7, r8) := by first | (rw [hji24] at H; exact H) | (simp only [hji24] at H ⊢; exact H)
        (try rw [hji24] at A21)
        have hji24w : (IntKind.i64.wrap (t355 - (wrap64 (x11_3 + t356)))) = ji24 := (i64_w _).trans hji24
        by_cases c25 : 0 ≤ (ji24)
        rotate_left
        · rw [if_neg c25] at H
          exact absurd H (by simp)
        rw [if_pos c25] at H
        have c25b0 := eq_true c25
        have c25b1 : decide (0 ≤ (ji24)) = true := decide_eq_true c25
        clear c25
        by_cases c26 : (ji24) ≤ (x1_6.size : Int)
        rotate_left
        · rw [if_neg c26] at H
          exact absurd H (by simp)
        rw [if_pos c26] at H
        have c26b0 := eq_true c26
        have c26b1 : decide ((ji24) ≤ (x1_6.size : Int)) = true := decide_eq_true c26
        clear c26
        obtain ⟨ji27, hji27⟩ : ∃ j_ : Int, (wrap64 (x11_3 + t356)) = j_ := ⟨_, rfl⟩
        replace H : (if 0 ≤ (ji27) then (if (ji27) ≤ (x2_6.size : Int) then (if (x1_6.extract ((ji24) : Int).toNat x1_6.size).toList = (x2_6.extract 0 ((ji27) : Int).toNat).toList then (diffmatchpatch_DiffMatchPatch_DiffCommonOverlap.l0 k3 x1_6 x2_6 t355 ji27 (wrap64 ((ji27) + 1)) s0_0 s0_1 s0_2 s0_3 s0_4 s0_5 s0_6) else (diffmatchpatch_DiffMatchPatch_DiffCommonOverlap.l0 k3 x1_6 x2_6 t355 x10_3 ji27 s0_0 s0_1 s0_2 s0_3 s0_4 s0_5 s0_6)) else (none)) else (none)) = some (r1, r2, r3, r4, r5, r6, r7, r8) := by first | (rw [hji27] at H; exact H) | (simp only [hji27] at H ⊢; exact H)
        (try rw [hji27] at hji24)
        (try rw [hji27] at hji24w)
        (try rw [hji27] at A21)
        have hji27w : (IntKind.i64.wrap (x11_3 + t356)) = ji27 := (i64_w _).trans hji27
        by_cases c28 : 0 ≤ (ji27)
        rotate_left
        · rw [if_neg c28] at H
          exact absurd H (by simp)
        rw [if_pos c28] at H
        have c28b0 := eq_true c28
        have c28b1 : decide (0 ≤ (ji27)) = true := decide_eq_true c28
        clear c28
        by_cases c29 : (ji27) ≤ (x2_6.size : Int)
        rotate_left
        · rw [if_neg c29] at H
          exact absurd H (by simp)
        rw [if_pos c29] at H
        have c29b0 := eq_true c29
        have c29b1 : decide ((ji27) ≤ (x2_6.size : Int)) = true := decide_eq_true c29
        clear c29
        by_cases c30 : (x1_6.extract ((ji24) : Int).toNat x1_6.size).toList = (x2_6.extract 0 ((ji27) : Int).toNat).toList
        rotate_left
        · rw [if_neg c30] at H
          have c30b0 : ((x1_6.extract ((ji24) : Int).toNat x1_6.size).toList == (x2_6.extract 0 ((ji27) : Int).toNat).toList) = false := beq_eq_false_iff_ne.mpr c30
          have c30b1 : ((x1_6.extract ((ji24) : Int).toNat x1_6.size).toList != (x2_6.extract 0 ((ji27) : Int).toNat).toList) = true := bne_iff_ne.mpr c30
          have H' := Aside0.mk H
          clear H
          go_wp2_with (first | (go_at_call 54; (with_reducible refine (diffmatchpatch_zzIndex.calls k3 x2_6 (x1_6.extract ((ji18) : Int).toNat x1_6.size) t356 _ A21.out).mono ?_); rintro e w' ⟨rfl, ⟨nd, rfl⟩⟩; (try first | exact ⟨rfl, _, World.drewN_drewN _ _ _⟩ | exact ⟨rfl, _, Eq.trans (World.drewN_drewN _ _ _) (congrArg (World.drewN _) (Nat.add_assoc _ _ _))⟩)))
          repeat (go_quiet (first | (go_at_call 54; (with_reducible refine (diffmatchpatch_zzIndex.calls k3 x2_6 (x1_6.extract ((ji18) : Int).toNat x1_6.size) t356 _ A21.out).mono ?_); rintro e w' ⟨rfl, ⟨nd, rfl⟩⟩; (try first | exact ⟨rfl, _, World.drewN_drewN _ _ _⟩ | exact ⟨rfl, _, Eq.trans (World.drewN_drewN _ _ _) (congrArg (World.drewN _) (Nat.add_assoc _ _ _))⟩))); try go_wp2_with (first | (go_at_call 54; (with_reducible refine (diffmatchpatch_zzIndex.calls k3 x2_6 (x1_6.extract ((ji18) : Int).toNat x1_6.size) t356 _ A21.out).mono ?_); rintro e w' ⟨rfl, ⟨nd, rfl⟩⟩; (try first | exact ⟨rfl, _, World.drewN_drewN _ _ _⟩ | exact ⟨rfl, _, Eq.trans (World.drewN_drewN _ _ _) (congrArg (World.drewN _) (Nat.add_assoc _ _ _))⟩))))
          go_roundg k3
          case measure => have := HJ3.out; have := HJ6.out; have := HK3.out; omega
          case rel => exact ⟨(x10_3), (ji27), (by first | rfl | (simp; done) | (simp [*]; done)), (by first | rfl | (simp; done) | (simp only [← hji27] <;> (first | rfl | simp)) | (simp [*]; done)), H', ⟨by have := HJ3.out; have := HJ6.out; have := HK3.out; omega⟩, ⟨by repeat (first | (with_reducible first | exact HI0.out | apply IsS81.alloc | apply IsS81.drewN | apply IsS81.drew | apply IsS81.set_0 | apply IsS81.set_1 | apply IsS81.set_2 | apply IsS81.set_3 | apply IsS81.set_4 | apply IsS81.set_5 | apply IsS81.set_6) | exact HI0.out)⟩, ⟨by repeat (first | (with_reducible first | exact HK.out | apply KeepBut.set_ | apply keep_drewN | apply keep_drew | apply keep_alloc) | exact HK.out)⟩, ⟨by repeat (first | (with_reducible first | exact HB.out | apply below_alloc | apply pw_below_drewN | apply below_drew1 | refine below_set ?_ (IsS81.ge HI0.out)) | exact HB.out)⟩⟩
        rw [if_pos c30] at H
        have c30b0 : ((x1_6.extract ((ji24) : Int).toNat x1_6.size).toList == (x2_6.extract 0 ((ji27) : Int).toNat).toList) = true := beq_iff_eq.mpr c30
        have c30b1 : ((x1_6.extract ((ji24) : Int).toNat x1_6.size).toList != (x2_6.extract 0 ((ji27) : Int).toNat).toList) = false := bne_eq_false_iff_eq.mpr c30
        clear c30
        have H' := Aside0.mk H
        clear H
        go_wp2_with (first | (go_at_call 54; (with_reducible refine (diffmatchpatch_zzIndex.calls k3 x2_6 (x1_6.extract ((ji18) : Int).toNat x1_6.size) t356 _ A21.out).mono ?_); rintro e w' ⟨rfl, ⟨nd, rfl⟩⟩; (try first | exact ⟨rfl, _, World.drewN_drewN _ _ _⟩ | exact ⟨rfl, _, Eq.trans (World.drewN_drewN _ _ _) (congrArg (World.drewN _) (Nat.add_assoc _ _ _))⟩)))
        repeat (go_quiet (first | (go_at_call 54; (with_reducible refine (diffmatchpatch_zzIndex.calls k3 x2_6 (x1_6.extract ((ji18) : Int).toNat x1_6.size) t356 _ A21.out).mono ?_); rintro e w' ⟨rfl, ⟨nd, rfl⟩⟩; (try first | exact ⟨rfl, _, World.drewN_drewN _ _ _⟩ | exact ⟨rfl, _, Eq.trans (World.drewN_drewN _ _ _) (congrArg (World.drewN _) (Nat.add_assoc _ _ _))⟩))); try go_wp2_with (first | (go_at_call 54; (with_reducible refine (diffmatchpatch_zzIndex.calls k3 x2_6 (x1_6.extract ((ji18) : Int).toNat x1_6.size) t356 _ A21.out).mono ?_); rintro e w' ⟨rfl, ⟨nd, rfl⟩⟩; (try first | exact ⟨rfl, _, World.drewN_drewN _ _ _⟩ | exact ⟨rfl, _, Eq.trans (World.drewN_drewN _ _ _) (congrArg (World.drewN _) (Nat.add_assoc _ _ _))⟩))))
        go_roundg k3
        case measure => have := HJ3.out; have := HJ6.out; have := HK3.out; omega
        case rel => exact ⟨(ji27), (wrap64 ((ji27) + 1)), (by first | rfl | (simp; done) | (simp only [← hji27] <;> (first | rfl | simp)) | (simp [*]; done)), (by first | rfl | (simp; done) | (simp only [← hji27] <;> (first | rfl | simp)) | (simp [*]; done)), H', ⟨by have := HJ3.out; have := HJ6.out; have := HK3.out; omega⟩, ⟨by repeat (first | (with_reducible first | exact HI0.out | apply IsS81.alloc | apply IsS81.drewN | apply IsS81.drew | apply IsS81.set_0 | apply IsS81.set_1 | apply IsS81.set_2 | apply IsS81.set_3 | apply IsS81.set_4 | apply IsS81.set_5 | apply IsS81.set_6) | exact HI0.out)⟩, ⟨by repeat (first | (with_reducible first | exact HK.out | apply KeepBut.set_ | apply keep_drewN | apply keep_drew | apply keep_alloc) | exact HK.out)⟩, ⟨by repeat (first | (with_reducible first | exact HB.out | apply below_alloc | apply pw_below_drewN | apply below_drew1 | refine below_set ?_ (IsS81.ge HI0.out)) | exact HB.out)⟩⟩

end Go.Proofs.Ytoafkjeamgelgaa.PT
