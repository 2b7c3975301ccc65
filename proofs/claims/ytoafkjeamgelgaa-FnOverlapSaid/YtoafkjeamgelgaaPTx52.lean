-- Written by this session's own program (wip/tools) out of the translation.
import Derived.Test.YtoafkjeamgelgaaPTx0
import Derived.Test.YtoafkjeamgelgaaPTx17
import Derived.Test.YtoafkjeamgelgaaPTx51
namespace Go.Proofs.Ytoafkjeamgelgaa.PT
open Go.RowKit Go.Proofs.YtoafkjeamgelgaaW.PrintWords Go.Proofs.YtoafkjeamgelgaaW.PrintLast Go.Proofs.YtoafkjeamgelgaaW.PrintMore
attribute [local go_sem] max2_int min2_int max_two min_two max_three min_three max_four min_four   -- for this text's walks alone
set_option linter.unusedVariables false
set_option linter.unusedSimpArgs false

/-! ### impl_CommonOverlap: function 18 -/
def impl_CommonOverlap.f (k : Nat) (a0 : ByteArray) (a1 : ByteArray) : Option (Int) := (diffmatchpatch_New.f).bind fun bt357 => ((diffmatchpatch_DiffMatchPatch_DiffCommonOverlap.f k bt357.1 bt357.2.1 bt357.2.2.1 bt357.2.2.2.1 bt357.2.2.2.2.1 bt357.2.2.2.2.2.1 bt357.2.2.2.2.2.2 a0 a1).bind fun bt365 => (some bt365.1))
theorem impl_CommonOverlap.mono : ∀ a0 a1 k, LeO (impl_CommonOverlap.f k a0 a1) (impl_CommonOverlap.f (k + 1) a0 a1) := by
  intro a0 a1 k
  unfold impl_CommonOverlap.f
  repeat' first
      | (with_reducible exact diffmatchpatch_DiffMatchPatch_DiffCommonOverlap.mono _ _ _ _ _ _ _ _ _ _)
      | (with_reducible exact LeO.refl _)
      | (with_reducible exact LeO.none _)
      | (with_reducible refine LeO.ite ?_ ?_)
      | (with_reducible refine LeO.bind ?_ (fun _ => ?_))
      | exact diffmatchpatch_DiffMatchPatch_DiffCommonOverlap.mono _ _ _ _ _ _ _ _ _ _
      | exact LeO.none _
      | refine LeO.ite ?_ ?_
      | refine LeO.bind ?_ (fun _ => ?_)
set_option maxHeartbeats 8000000 in
set_option maxRecDepth 100000 in
theorem impl_CommonOverlap.calls (k : Nat) (a0 : ByteArray) (a1 : ByteArray) (r : Int) (w : World) (h : impl_CommonOverlap.f k a0 a1 = some r) :
    Calls Try.prog 18 #[.string a0, .string a1] w fun e w' => e = .returned (.int .i64 r) ∧ Below w.heap.size w w' := by
  have HB := Aside0.mk (Below.refl w.heap.size w)
  have H : ((diffmatchpatch_New.f).bind fun bt357 => ((diffmatchpatch_DiffMatchPatch_DiffCommonOverlap.f k bt357.1 bt357.2.1 bt357.2.2.1 bt357.2.2.2.1 bt357.2.2.2.2.1 bt357.2.2.2.2.2.1 bt357.2.2.2.2.2.2 a0 a1).bind fun bt365 => (some bt365.1))) = some r := h
  clear h
  replace H := Option.bind_eq_some_iff.mp H
  obtain ⟨⟨t357, t358, t359, t360, t361, t362, t363⟩, A30, H⟩ := H
  replace H : ((diffmatchpatch_DiffMatchPatch_DiffCommonOverlap.f k t357 t358 t359 t360 t361 t362 t363 a0 a1).bind fun bt365 => (some bt365.1)) = some r := H
  have A3 := Aside0.mk A30
  clear A30
  replace H := Option.bind_eq_some_iff.mp H
  obtain ⟨⟨t365, t366, t367, t368, t369, t370, t371, t372⟩, A40, H⟩ := H
  replace H : (some t365) = some r := H
  have A4 := Aside0.mk A40
  clear A40
  obtain rfl := Option.some.inj H
  go_enter Try.func18, Try.ntmps18
  go_wp2_with (first | ((with_reducible refine gate_callee (f := 36) rfl ?_); refine goesL_ (some 5) rfl rfl Try.func36 (by kernel_rfl) rfl #[] rfl (by (try simp only [List.map_toArray, List.map_cons, List.map_nil]); first | done | rfl | (simp only [List.length_drop, List.length_take]; rfl)) ?_; (with_reducible refine (diffmatchpatch_New.calls  t357 t358 t359 t360 t361 t362 t363 w _ ?side1 A3.out).mono ?_); (case side1 => repeat (first | (with_reducible first | exact HB.out | apply below_alloc | apply pw_below_drewN | apply below_drew1) | exact HB.out)); rintro e w5 ⟨g364, rfl, hi, hb, hb2⟩; refine ⟨_, rfl, ?_⟩; have n0_ := Aside0.mk (hb); have n1_ := Aside0.mk (hi); clear HB; have HB := n0_; have HI364 := n1_; clear n0_ n1_; (try clear hb); (try clear hb2); (try clear hk); (try clear hi)) | ((with_reducible refine gate_callee (f := 43) rfl ?_); refine goesL_ (some 8) rfl rfl Try.func43 (by kernel_rfl) rfl #[.pointer (some ⟨g364, 0, none⟩), .string a0, .string a1] rfl (by (try simp only [List.map_toArray, List.map_cons, List.map_nil]); first | done | rfl | (simp only [List.length_drop, List.length_take]; rfl)) ?_; (with_reducible refine (diffmatchpatch_DiffMatchPatch_DiffCommonOverlap.calls k g364 t357 t358 t359 t360 t361 t362 t363 a0 a1 t365 t366 t367 t368 t369 t370 t371 t372 w _ ?side1 ?side2 A4.out).mono ?_); (case side1 => repeat (first | (with_reducible first | exact HI364.out | apply IsS81.alloc | apply IsS81.drewN | apply IsS81.drew | apply IsS81.set_0 | apply IsS81.set_1 | apply IsS81.set_2 | apply IsS81.set_3 | apply IsS81.set_4 | apply IsS81.set_5 | apply IsS81.set_6) | exact HI364.out)); (case side2 => repeat (first | (with_reducible first | exact HB.out | apply below_alloc | apply pw_below_drewN | apply below_drew1 | refine below_set ?_ (IsS81.ge HI364.out)) | exact HB.out)); rintro e w6 ⟨rfl, hi, hb, hk⟩; refine ⟨_, rfl, ?_⟩; have n0_ := Aside0.mk (hb); have n1_ := Aside0.mk (hi); clear HB; clear HI364; have HB := n0_; have HI364 := n1_; clear n0_ n1_; (try clear hb); (try clear hb2); (try clear hk); (try clear hi)))
  go_ret
  exact ⟨by first | rfl | (simp [errW_none, errW_some] <;> rfl) | (simp [*, errW_none, errW_some] <;> rfl), by repeat (first | (with_reducible first | exact HB.out | apply below_alloc | apply pw_below_drewN | apply below_drew1 | refine below_set ?_ (IsS81.ge HI364.out)) | exact HB.out)⟩

end Go.Proofs.Ytoafkjeamgelgaa.PT
