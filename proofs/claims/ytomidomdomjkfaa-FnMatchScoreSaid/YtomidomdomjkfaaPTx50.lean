-- Written by this session's own program (wip/tools) out of the translation.
import Derived.Test.YtomidomdomjkfaaPTx0
import Derived.Test.YtomidomdomjkfaaPTx10
import Derived.Test.YtomidomdomjkfaaPTx49
namespace Go.Proofs.Ytomidomdomjkfaa.PT
open Go.RowKit Go.Proofs.YtomidomdomjkfaaW.PrintWords Go.Proofs.YtomidomdomjkfaaW.PrintLast Go.Proofs.YtomidomdomjkfaaW.PrintMore
attribute [local go_sem] max2_int min2_int max_two min_two max_three min_three max_four min_four   -- for this text's walks alone
set_option linter.unusedVariables false
set_option linter.unusedSimpArgs false

/-! ### diffmatchpatch_DiffMatchPatch_ZzMatchScore: function 54 -/
def diffmatchpatch_DiffMatchPatch_ZzMatchScore.f (s0_0 : Int) (s0_1 : Int) (s0_2 : Int) (s0_3 : Nat) (s0_4 : Int) (s0_5 : Int) (s0_6 : Nat) (a1 : Int) (a2 : Int) (a3 : Int) (a4 : ByteArray) : Option (Nat × Int × Int × Int × Nat × Int × Int × Nat) := (diffmatchpatch_DiffMatchPatch_matchBitapScore.f s0_0 s0_1 s0_2 s0_3 s0_4 s0_5 s0_6 a1 a2 a3 a4).bind fun bt312 => (some (bt312.1, bt312.2.1, bt312.2.2.1, bt312.2.2.2.1, bt312.2.2.2.2.1, bt312.2.2.2.2.2.1, bt312.2.2.2.2.2.2.1, bt312.2.2.2.2.2.2.2))
set_option maxHeartbeats 8000000 in
set_option maxRecDepth 100000 in
theorem diffmatchpatch_DiffMatchPatch_ZzMatchScore.calls (g : Nat) (s0_0 : Int) (s0_1 : Int) (s0_2 : Int) (s0_3 : Nat) (s0_4 : Int) (s0_5 : Int) (s0_6 : Nat) (a1 : Int) (a2 : Int) (a3 : Int) (a4 : ByteArray) (r1 : Nat) (r2 : Int) (r3 : Int) (r4 : Int) (r5 : Nat) (r6 : Int) (r7 : Int) (r8 : Nat) (w0 w : World) (hI : IsS80 w0 w g s0_0 s0_1 s0_2 s0_3 s0_4 s0_5 s0_6) (hB : Below w0.heap.size w0 w) (h : diffmatchpatch_DiffMatchPatch_ZzMatchScore.f s0_0 s0_1 s0_2 s0_3 s0_4 s0_5 s0_6 a1 a2 a3 a4 = some (r1, r2, r3, r4, r5, r6, r7, r8)) :
    Calls Try.prog 54 #[.pointer (some ⟨g, 0, none⟩), .int .i64 a1, .int .i64 a2, .int .i64 a3, .string a4] w fun e w' => e = .returned (.float .f64 r1) ∧ IsS80 w0 w' g r2 r3 r4 r5 r6 r7 r8 ∧ Below w0.heap.size w0 w' ∧ KeepBut w w' g none := by
  have HI0 := Aside0.mk hI
  have HK := Aside0.mk (KeepBut.refl w g none)
  have HL := Aside0.mk hB.size
  clear hI
  have HW0 := Aside0.mk hB.size
  have HB := Aside0.mk hB
  clear hB
  have H : ((diffmatchpatch_DiffMatchPatch_matchBitapScore.f s0_0 s0_1 s0_2 s0_3 s0_4 s0_5 s0_6 a1 a2 a3 a4).bind fun bt312 => (some (bt312.1, bt312.2.1, bt312.2.2.1, bt312.2.2.2.1, bt312.2.2.2.2.1, bt312.2.2.2.2.2.1, bt312.2.2.2.2.2.2.1, bt312.2.2.2.2.2.2.2))) = some (r1, r2, r3, r4, r5, r6, r7, r8) := h
  clear h
  replace H := Option.bind_eq_some_iff.mp H
  obtain ⟨⟨t312, t313, t314, t315, t316, t317, t318, t319⟩, A60, H⟩ := H
  replace H : (some (t312, t313, t314, t315, t316, t317, t318, t319)) = some (r1, r2, r3, r4, r5, r6, r7, r8) := H
  have A6 := Aside0.mk A60
  clear A60
  simp only [Option.some.injEq, Prod.mk.injEq] at H
  obtain ⟨rfl, rfl, rfl, rfl, rfl, rfl, rfl, rfl⟩ := H
  go_enter Try.func54, Try.ntmps54
  go_wp2_with (first | ((with_reducible refine gate_callee (f := 74) rfl ?_); refine goesL_ (some 16) rfl rfl Try.func74 (by kernel_rfl) rfl #[.pointer (some ⟨g, 0, none⟩), .int .i64 a1, .int .i64 a2, .int .i64 a3, .string a4] rfl (by (try simp only [List.map_toArray, List.map_cons, List.map_nil]); first | done | rfl | (simp only [List.length_drop, List.length_take]; rfl)) ?_; (with_reducible refine (diffmatchpatch_DiffMatchPatch_matchBitapScore.calls g s0_0 s0_1 s0_2 s0_3 s0_4 s0_5 s0_6 a1 a2 a3 a4 t312 t313 t314 t315 t316 t317 t318 t319 w0 _ ?side1 ?side2 A6.out).mono ?_); (case side1 => repeat (first | (with_reducible first | exact HI0.out | apply IsS80.alloc | apply IsS80.drewN | apply IsS80.drew | apply IsS80.set_0 | apply IsS80.set_1 | apply IsS80.set_2 | apply IsS80.set_3 | apply IsS80.set_4 | apply IsS80.set_5 | apply IsS80.set_6) | exact HI0.out)); (case side2 => repeat (first | (with_reducible first | exact HB.out | apply below_alloc | apply pw_below_drewN | apply below_drew1 | refine below_set ?_ (IsS80.ge HI0.out)) | exact HB.out)); rintro e w7 ⟨rfl, hi, hb, hk⟩; refine ⟨_, rfl, ?_⟩; have n0_ := Aside0.mk (KeepBut.trans (by repeat (first | (with_reducible first | exact HK.out | apply KeepBut.set_ | apply keep_drewN | apply keep_drew | apply keep_alloc) | exact HK.out)) hk (.inl rfl)); have n1_ := Aside0.mk (hb); have n2_ := Aside0.mk (hi); clear HK; clear HB; clear HI0; have HK := n0_; have HB := n1_; have HI0 := n2_; clear n0_ n1_ n2_; (try clear hb); (try clear hb2); (try clear hk); (try clear hi)))
  go_ret
  exact ⟨by first | rfl | (simp [errW_none, errW_some] <;> rfl) | (simp [*, errW_none, errW_some] <;> rfl), by repeat (first | (with_reducible first | exact HI0.out | apply IsS80.alloc | apply IsS80.drewN | apply IsS80.drew | apply IsS80.set_0 | apply IsS80.set_1 | apply IsS80.set_2 | apply IsS80.set_3 | apply IsS80.set_4 | apply IsS80.set_5 | apply IsS80.set_6) | exact HI0.out), by repeat (first | (with_reducible first | exact HB.out | apply below_alloc | apply pw_below_drewN | apply below_drew1 | refine below_set ?_ (IsS80.ge HI0.out)) | exact HB.out), by repeat (first | (with_reducible first | exact HK.out | apply KeepBut.set_ | apply keep_drewN | apply keep_drew | apply keep_alloc) | exact HK.out)⟩

end Go.Proofs.Ytomidomdomjkfaa.PT
