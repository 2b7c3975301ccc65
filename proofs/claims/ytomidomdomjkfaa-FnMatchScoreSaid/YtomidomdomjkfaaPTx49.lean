-- Written by this session's own program (wip/tools) out of the translation.
import Derived.Test.YtomidomdomjkfaaPTx0
import Derived.Test.YtomidomdomjkfaaPTx10
import Derived.Test.YtomidomdomjkfaaPTx48
namespace Go.Proofs.Ytomidomdomjkfaa.PT
open Go.RowKit Go.Proofs.YtomidomdomjkfaaW.PrintWords Go.Proofs.YtomidomdomjkfaaW.PrintLast Go.Proofs.YtomidomdomjkfaaW.PrintMore
attribute [local go_sem] max2_int min2_int max_two min_two max_three min_three max_four min_four   -- for this text's walks alone
set_option linter.unusedVariables false
set_option linter.unusedSimpArgs false

/-! ### diffmatchpatch_DiffMatchPatch_matchBitapScore: function 74 -/
def diffmatchpatch_DiffMatchPatch_matchBitapScore.f (s0_0 : Int) (s0_1 : Int) (s0_2 : Int) (s0_3 : Nat) (s0_4 : Int) (s0_5 : Int) (s0_6 : Nat) (a1 : Int) (a2 : Int) (a3 : Int) (a4 : ByteArray) : Option (Nat × Int × Int × Int × Nat × Int × Int × Nat) := (floatBits .quo .f64 (floatOfInt .f64 a1) (floatOfInt .f64 (a4.size : Int))).bind fun t308 => ((math_Abs.f (floatOfInt .f64 (wrap64 (a3 - a2)))).bind fun t309 => (if s0_2 = 0 then (if (FloatKind.f64.format.order t309 (0 : Nat) == some .eq) = true then (some (t308, s0_0, s0_1, s0_2, s0_3, s0_4, s0_5, s0_6)) else (some ((4607182418800017408 : Nat), s0_0, s0_1, s0_2, s0_3, s0_4, s0_5, s0_6))) else ((floatBits .quo .f64 t309 (floatOfInt .f64 s0_2)).bind fun t310 => ((floatBits .add .f64 t308 t310).bind fun t311 => (some (t311, s0_0, s0_1, s0_2, s0_3, s0_4, s0_5, s0_6))))))
set_option maxHeartbeats 8000000 in
set_option maxRecDepth 100000 in
theorem diffmatchpatch_DiffMatchPatch_matchBitapScore.calls (g : Nat) (s0_0 : Int) (s0_1 : Int) (s0_2 : Int) (s0_3 : Nat) (s0_4 : Int) (s0_5 : Int) (s0_6 : Nat) (a1 : Int) (a2 : Int) (a3 : Int) (a4 : ByteArray) (r1 : Nat) (r2 : Int) (r3 : Int) (r4 : Int) (r5 : Nat) (r6 : Int) (r7 : Int) (r8 : Nat) (w0 w : World) (hI : IsS80 w0 w g s0_0 s0_1 s0_2 s0_3 s0_4 s0_5 s0_6) (hB : Below w0.heap.size w0 w) (h : diffmatchpatch_DiffMatchPatch_matchBitapScore.f s0_0 s0_1 s0_2 s0_3 s0_4 s0_5 s0_6 a1 a2 a3 a4 = some (r1, r2, r3, r4, r5, r6, r7, r8)) :
    Calls Try.prog 74 #[.pointer (some ⟨g, 0, none⟩), .int .i64 a1, .int .i64 a2, .int .i64 a3, .string a4] w fun e w' => e = .returned (.float .f64 r1) ∧ IsS80 w0 w' g r2 r3 r4 r5 r6 r7 r8 ∧ Below w0.heap.size w0 w' ∧ KeepBut w w' g none := by
  have HI0 := Aside0.mk hI
  have HK := Aside0.mk (KeepBut.refl w g none)
  have HL := Aside0.mk hB.size
  clear hI
  have HW0 := Aside0.mk hB.size
  have HB := Aside0.mk hB
  clear hB
  have H : ((floatBits .quo .f64 (floatOfInt .f64 a1) (floatOfInt .f64 (a4.size : Int))).bind fun t308 => ((math_Abs.f (floatOfInt .f64 (wrap64 (a3 - a2)))).bind fun t309 => (if s0_2 = 0 then (if (FloatKind.f64.format.order t309 (0 : Nat) == some .eq) = true then (some (t308, s0_0, s0_1, s0_2, s0_3, s0_4, s0_5, s0_6)) else (some ((4607182418800017408 : Nat), s0_0, s0_1, s0_2, s0_3, s0_4, s0_5, s0_6))) else ((floatBits .quo .f64 t309 (floatOfInt .f64 s0_2)).bind fun t310 => ((floatBits .add .f64 t308 t310).bind fun t311 => (some (t311, s0_0, s0_1, s0_2, s0_3, s0_4, s0_5, s0_6))))))) = some (r1, r2, r3, r4, r5, r6, r7, r8) := h
  clear h
  replace H := Option.bind_eq_some_iff.mp H
  obtain ⟨t308, A60, H⟩ := H
  replace H : ((math_Abs.f (floatOfInt .f64 (wrap64 (a3 - a2)))).bind fun t309 => (if s0_2 = 0 then (if (FloatKind.f64.format.order t309 (0 : Nat) == some .eq) = true then (some (t308, s0_0, s0_1, s0_2, s0_3, s0_4, s0_5, s0_6)) else (some ((4607182418800017408 : Nat), s0_0, s0_1, s0_2, s0_3, s0_4, s0_5, s0_6))) else ((floatBits .quo .f64 t309 (floatOfInt .f64 s0_2)).bind fun t310 => ((floatBits .add .f64 t308 t310).bind fun t311 => (some (t311, s0_0, s0_1, s0_2, s0_3, s0_4, s0_5, s0_6)))))) = some (r1, r2, r3, r4, r5, r6, r7, r8) := H
  have hfA6 := fun (W_ : World) => run_float_arith (P := Try.prog) W_ .quo 43 .f64 (floatOfInt .f64 a1) (floatOfInt .f64 (a4.size : Int)) t308 A60
  have A6 := Aside0.mk A60
  clear A60
  replace H := Option.bind_eq_some_iff.mp H
  obtain ⟨t309, A70, H⟩ := H
  replace H : (if s0_2 = 0 then (if (FloatKind.f64.format.order t309 (0 : Nat) == some .eq) = true then (some (t308, s0_0, s0_1, s0_2, s0_3, s0_4, s0_5, s0_6)) else (some ((4607182418800017408 : Nat), s0_0, s0_1, s0_2, s0_3, s0_4, s0_5, s0_6))) else ((floatBits .quo .f64 t309 (floatOfInt .f64 s0_2)).bind fun t310 => ((floatBits .add .f64 t308 t310).bind fun t311 => (some (t311, s0_0, s0_1, s0_2, s0_3, s0_4, s0_5, s0_6))))) = some (r1, r2, r3, r4, r5, r6, r7, r8) := H
  have A7 := Aside0.mk A70
  clear A70
  by_cases c8 : s0_2 = 0
  rotate_left
  · rw [if_neg c8] at H
    have c8b0 : (s0_2 == 0) = false := beq_eq_false_iff_ne.mpr c8
    have c8b1 : (s0_2 != 0) = true := bne_iff_ne.mpr c8
    replace H := Option.bind_eq_some_iff.mp H
    obtain ⟨t310, A120, H⟩ := H
    replace H : ((floatBits .add .f64 t308 t310).bind fun t311 => (some (t311, s0_0, s0_1, s0_2, s0_3, s0_4, s0_5, s0_6))) = some (r1, r2, r3, r4, r5, r6, r7, r8) := H
    have hfA12 := fun (W_ : World) => run_float_arith (P := Try.prog) W_ .quo 43 .f64 t309 (floatOfInt .f64 s0_2) t310 A120
    have A12 := Aside0.mk A120
    clear A120
    replace H := Option.bind_eq_some_iff.mp H
    obtain ⟨t311, A130, H⟩ := H
    replace H : (some (t311, s0_0, s0_1, s0_2, s0_3, s0_4, s0_5, s0_6)) = some (r1, r2, r3, r4, r5, r6, r7, r8) := H
    have hfA13 := fun (W_ : World) => run_float_arith (P := Try.prog) W_ .add 43 .f64 t308 t310 t311 A130
    have A13 := Aside0.mk A130
    clear A130
    simp only [Option.some.injEq, Prod.mk.injEq] at H
    obtain ⟨rfl, rfl, rfl, rfl, rfl, rfl, rfl, rfl⟩ := H
    go_enter Try.func74, Try.ntmps74
    go_wp2_with (first | ((with_reducible refine gate_callee (f := 82) rfl ?_); refine goesL_ (some 23) rfl rfl Try.func82 (by kernel_rfl) rfl #[.float .f64 (floatOfInt .f64 (wrap64 (a3 - a2)))] rfl (by (try simp only [List.map_toArray, List.map_cons, List.map_nil]); first | done | rfl | (simp only [List.length_drop, List.length_take]; rfl)) ?_; (with_reducible refine (math_Abs.calls (floatOfInt .f64 (wrap64 (a3 - a2))) t309 _ A7.out).mono ?_); rintro e w' ⟨rfl, ⟨nd, rfl⟩⟩; refine ⟨_, rfl, ?_⟩; obtain ⟨HGz14, hgz14⟩ := HI0.out; have hcz14_0 := cellS80_0 HGz14; have hcz14_1 := cellS80_1 HGz14; have hcz14_2 := cellS80_2 HGz14; have hcz14_3 := cellS80_3 HGz14; have hcz14_4 := cellS80_4 HGz14; have hcz14_5 := cellS80_5 HGz14; have hcz14_6 := cellS80_6 HGz14; have hfz14_0 := blk_frozen HGz14 0; have hfz14_1 := blk_frozen HGz14 1; have hfz14_2 := blk_frozen HGz14 2; have hfz14_3 := blk_frozen HGz14 3; have hfz14_4 := blk_frozen HGz14 4; have hfz14_5 := blk_frozen HGz14 5; have hfz14_6 := blk_frozen HGz14 6; clear HGz14 hgz14))
    go_ret
    exact ⟨by first | rfl | (simp [errW_none, errW_some] <;> rfl) | (simp [*, errW_none, errW_some] <;> rfl), by repeat (first | (with_reducible first | exact HI0.out | apply IsS80.alloc | apply IsS80.drewN | apply IsS80.drew | apply IsS80.set_0 | apply IsS80.set_1 | apply IsS80.set_2 | apply IsS80.set_3 | apply IsS80.set_4 | apply IsS80.set_5 | apply IsS80.set_6) | exact HI0.out), by repeat (first | (with_reducible first | exact HB.out | apply below_alloc | apply pw_below_drewN | apply below_drew1 | refine below_set ?_ (IsS80.ge HI0.out)) | exact HB.out), by repeat (first | (with_reducible first | exact HK.out | apply KeepBut.set_ | apply keep_drewN | apply keep_drew | apply keep_alloc) | exact HK.out)⟩
  rw [if_pos c8] at H
  have c8b0 : (s0_2 == 0) = true := beq_iff_eq.mpr c8
  have c8b1 : (s0_2 != 0) = false := bne_eq_false_iff_eq.mpr c8
  clear c8
  by_cases c9 : (FloatKind.f64.format.order t309 (0 : Nat) == some .eq) = true
  · rw [if_pos c9] at H
    have c9b0 : (FloatKind.f64.format.order t309 (0 : Nat) == some .eq) = true := c9
    (try (have c9b1 : decide (FloatKind.f64.format.order t309 (0 : Nat) = some .eq) = true := by simpa using c9))
    (try (have c9b2 : (FloatKind.f64.format.order t309 (0 : Nat) == some .eq) = true := by simpa using c9))
    clear c9
    simp only [Option.some.injEq, Prod.mk.injEq] at H
    obtain ⟨rfl, rfl, rfl, rfl, rfl, rfl, rfl, rfl⟩ := H
    go_enter Try.func74, Try.ntmps74
    go_wp2_with (first | ((with_reducible refine gate_callee (f := 82) rfl ?_); refine goesL_ (some 23) rfl rfl Try.func82 (by kernel_rfl) rfl #[.float .f64 (floatOfInt .f64 (wrap64 (a3 - a2)))] rfl (by (try simp only [List.map_toArray, List.map_cons, List.map_nil]); first | done | rfl | (simp only [List.length_drop, List.length_take]; rfl)) ?_; (with_reducible refine (math_Abs.calls (floatOfInt .f64 (wrap64 (a3 - a2))) t309 _ A7.out).mono ?_); rintro e w' ⟨rfl, ⟨nd, rfl⟩⟩; refine ⟨_, rfl, ?_⟩; obtain ⟨HGz10, hgz10⟩ := HI0.out; have hcz10_0 := cellS80_0 HGz10; have hcz10_1 := cellS80_1 HGz10; have hcz10_2 := cellS80_2 HGz10; have hcz10_3 := cellS80_3 HGz10; have hcz10_4 := cellS80_4 HGz10; have hcz10_5 := cellS80_5 HGz10; have hcz10_6 := cellS80_6 HGz10; have hfz10_0 := blk_frozen HGz10 0; have hfz10_1 := blk_frozen HGz10 1; have hfz10_2 := blk_frozen HGz10 2; have hfz10_3 := blk_frozen HGz10 3; have hfz10_4 := blk_frozen HGz10 4; have hfz10_5 := blk_frozen HGz10 5; have hfz10_6 := blk_frozen HGz10 6; clear HGz10 hgz10))
    go_ret
    exact ⟨by first | rfl | (simp [errW_none, errW_some] <;> rfl) | (simp [*, errW_none, errW_some] <;> rfl), by repeat (first | (with_reducible first | exact HI0.out | apply IsS80.alloc | apply IsS80.drewN | apply IsS80.drew | apply IsS80.set_0 | apply IsS80.set_1 | apply IsS80.set_2 | apply IsS80.set_3 | apply IsS80.set_4 | apply IsS80.set_5 | apply IsS80.set_6) | exact HI0.out), by repeat (first | (with_reducible first | exact HB.out | apply below_alloc | apply pw_below_drewN | apply below_drew1 | refine below_set ?_ (IsS80.ge HI0.out)) | exact HB.out), by repeat (first | (with_reducible first | exact HK.out | apply KeepBut.set_ | apply keep_drewN | apply keep_drew | apply keep_alloc) | exact HK.out)⟩
  rw [if_neg c9] at H
  have c9b0 : (FloatKind.f64.format.order t309 (0 : Nat) == some .eq) = false := by simpa using c9
  (try (have c9b1 : decide (FloatKind.f64.format.order t309 (0 : Nat) = some .eq) = false := by simpa using c9))
  (try (have c9b2 : (FloatKind.f64.format.order t309 (0 : Nat) == some .eq) = false := by simpa using c9))
  (try (have c9b3 : ¬ (FloatKind.f64.format.order t309 (0 : Nat) = some .eq) := by simpa using c9))
  clear c9
  simp only [Option.some.injEq, Prod.mk.injEq] at H
  obtain ⟨rfl, rfl, rfl, rfl, rfl, rfl, rfl, rfl⟩ := H
  go_enter Try.func74, Try.ntmps74
  go_wp2_with (first | ((with_reducible refine gate_callee (f := 82) rfl ?_); refine goesL_ (some 23) rfl rfl Try.func82 (by kernel_rfl) rfl #[.float .f64 (floatOfInt .f64 (wrap64 (a3 - a2)))] rfl (by (try simp only [List.map_toArray, List.map_cons, List.map_nil]); first | done | rfl | (simp only [List.length_drop, List.length_take]; rfl)) ?_; (with_reducible refine (math_Abs.calls (floatOfInt .f64 (wrap64 (a3 - a2))) t309 _ A7.out).mono ?_); rintro e w' ⟨rfl, ⟨nd, rfl⟩⟩; refine ⟨_, rfl, ?_⟩; obtain ⟨HGz11, hgz11⟩ := HI0.out; have hcz11_0 := cellS80_0 HGz11; have hcz11_1 := cellS80_1 HGz11; have hcz11_2 := cellS80_2 HGz11; have hcz11_3 := cellS80_3 HGz11; have hcz11_4 := cellS80_4 HGz11; have hcz11_5 := cellS80_5 HGz11; have hcz11_6 := cellS80_6 HGz11; have hfz11_0 := blk_frozen HGz11 0; have hfz11_1 := blk_frozen HGz11 1; have hfz11_2 := blk_frozen HGz11 2; have hfz11_3 := blk_frozen HGz11 3; have hfz11_4 := blk_frozen HGz11 4; have hfz11_5 := blk_frozen HGz11 5; have hfz11_6 := blk_frozen HGz11 6; clear HGz11 hgz11))
  go_ret
  exact ⟨by first | rfl | (simp [errW_none, errW_some] <;> rfl) | (simp [*, errW_none, errW_some] <;> rfl), by repeat (first | (with_reducible first | exact HI0.out | apply IsS80.alloc | apply IsS80.drewN | apply IsS80.drew | apply IsS80.set_0 | apply IsS80.set_1 | apply IsS80.set_2 | apply IsS80.set_3 | apply IsS80.set_4 | apply IsS80.set_5 | apply IsS80.set_6) | exact HI0.out), by repeat (first | (with_reducible first | exact HB.out | apply below_alloc | apply pw_below_drewN | apply below_drew1 | refine below_set ?_ (IsS80.ge HI0.out)) | exact HB.out), by repeat (first | (with_reducible first | exact HK.out | apply KeepBut.set_ | apply keep_drewN | apply keep_drew | apply keep_alloc) | exact HK.out)⟩

end Go.Proofs.Ytomidomdomjkfaa.PT
