-- Written by this session's own program (wip/tools) out of the translation.
import Derived.Test.YtomidomdomjkfaaPTx0
import Derived.Test.YtomidomdomjkfaaPTx10
import Derived.Test.YtomidomdomjkfaaPTx23
namespace Go.Proofs.Ytomidomdomjkfaa.PT
open Go.RowKit Go.Proofs.YtomidomdomjkfaaW.PrintWords Go.Proofs.YtomidomdomjkfaaW.PrintLast Go.Proofs.YtomidomdomjkfaaW.PrintMore
attribute [local go_sem] max2_int min2_int max_two min_two max_three min_three max_four min_four   -- for this text's walks alone
set_option linter.unusedVariables false
set_option linter.unusedSimpArgs false

/-! ### impl_CommonSuffix: function 24 -/
def impl_CommonSuffix.f (k : Nat) (a0 : ByteArray) (a1 : ByteArray) : Option (Int) := (diffmatchpatch_New.f).bind fun bt201 => ((diffmatchpatch_DiffMatchPatch_DiffCommonSuffix.f k bt201.1 bt201.2.1 bt201.2.2.1 bt201.2.2.2.1 bt201.2.2.2.2.1 bt201.2.2.2.2.2.1 bt201.2.2.2.2.2.2 a0 a1).bind fun bt209 => (some bt209.1))
theorem impl_CommonSuffix.mono : ∀ a0 a1 k, LeO (impl_CommonSuffix.f k a0 a1) (impl_CommonSuffix.f (k + 1) a0 a1) := by
  intro a0 a1 k
  unfold impl_CommonSuffix.f
  repeat' first
      | (with_reducible exact diffmatchpatch_DiffMatchPatch_DiffCommonSuffix.mono _ _ _ _ _ _ _ _ _ _)
      | (with_reducible exact LeO.refl _)
      | (with_reducible exact LeO.none _)
      | (with_reducible refine LeO.ite ?_ ?_)
      | (with_reducible refine LeO.bind ?_ (fun _ => ?_))
      | exact diffmatchpatch_DiffMatchPatch_DiffCommonSuffix.mono _ _ _ _ _ _ _ _ _ _
      | exact LeO.none _
      | refine LeO.ite ?_ ?_
      | refine LeO.bind ?_ (fun _ => ?_)
set_option maxHeartbeats 8000000 in
set_option maxRecDepth 100000 in
theorem impl_CommonSuffix.calls (k : Nat) (a0 : ByteArray) (a1 : ByteArray) (r : Int) (w : World) (h : impl_CommonSuffix.f k a0 a1 = some r) :
    Calls Try.prog 24 #[.string a0, .string a1] w fun e w' => e = .returned (.int .i64 r) ∧ Below w.heap.size w w' := by
  have HB := Aside0.mk (Below.refl w.heap.size w)
  have H : ((diffmatchpatch_New.f).bind fun bt201 => ((diffmatchpatch_DiffMatchPatch_DiffCommonSuffix.f k bt201.1 bt201.2.1 bt201.2.2.1 bt201.2.2.2.1 bt201.2.2.2.2.1 bt201.2.2.2.2.2.1 bt201.2.2.2.2.2.2 a0 a1).bind fun bt209 => (some bt209.1))) = some r := h
  clear h
  replace H := Option.bind_eq_some_iff.mp H
  obtain ⟨⟨t201, t202, t203, t204, t205, t206, t207⟩, A30, H⟩ := H
  replace H : ((diffmatchpatch_DiffMatchPatch_DiffCommonSuffix.f k t201 t202 t203 t204 t205 t206 t207 a0 a1).bind fun bt209 => (some bt209.1)) = some r := H
  have A3 := Aside0.mk A30
  clear A30
  replace H := Option.bind_eq_some_iff.mp H
  obtain ⟨⟨t209, t210, t211, t212, t213, t214, t215, t216⟩, A40, H⟩ := H
  replace H : (some t209) = some r := H
  have A4 := Aside0.mk A40
  clear A40
  obtain rfl := Option.some.inj H
  go_enter Try.func24, Try.ntmps24
  go_wp2_with (first | ((with_reducible refine gate_callee (f := 44) rfl ?_); refine goesL_ (some 5) rfl rfl Try.func44 (by kernel_rfl) rfl #[] rfl (by (try simp only [List.map_toArray, List.map_cons, List.map_nil]); first | done | rfl | (simp only [List.length_drop, List.length_take]; rfl)) ?_; (with_reducible refine (diffmatchpatch_New.calls  t201 t202 t203 t204 t205 t206 t207 w _ ?side1 A3.out).mono ?_); (case side1 => repeat (first | (with_reducible first | exact HB.out | apply below_alloc | apply pw_below_drewN | apply below_drew1) | exact HB.out)); rintro e w5 ⟨g208, rfl, hi, hb, hb2⟩; refine ⟨_, rfl, ?_⟩; have n0_ := Aside0.mk (hb); have n1_ := Aside0.mk (hi); clear HB; have HB := n0_; have HI208 := n1_; clear n0_ n1_; (try clear hb); (try clear hb2); (try clear hk); (try clear hi)) | ((with_reducible refine gate_callee (f := 48) rfl ?_); refine goesL_ (some 8) rfl rfl Try.func48 (by kernel_rfl) rfl #[.pointer (some ⟨g208, 0, none⟩), .string a0, .string a1] rfl (by (try simp only [List.map_toArray, List.map_cons, List.map_nil]); first | done | rfl | (simp only [List.length_drop, List.length_take]; rfl)) ?_; (with_reducible refine (diffmatchpatch_DiffMatchPatch_DiffCommonSuffix.calls k g208 t201 t202 t203 t204 t205 t206 t207 a0 a1 t209 t210 t211 t212 t213 t214 t215 t216 w _ ?side1 ?side2 A4.out).mono ?_); (case side1 => repeat (first | (with_reducible first | exact HI208.out | apply IsS80.alloc | apply IsS80.drewN | apply IsS80.drew | apply IsS80.set_0 | apply IsS80.set_1 | apply IsS80.set_2 | apply IsS80.set_3 | apply IsS80.set_4 | apply IsS80.set_5 | apply IsS80.set_6) | exact HI208.out)); (case side2 => repeat (first | (with_reducible first | exact HB.out | apply below_alloc | apply pw_below_drewN | apply below_drew1 | refine below_set ?_ (IsS80.ge HI208.out)) | exact HB.out)); rintro e w6 ⟨rfl, hi, hb, hk⟩; refine ⟨_, rfl, ?_⟩; have n0_ := Aside0.mk (hb); have n1_ := Aside0.mk (hi); clear HB; clear HI208; have HB := n0_; have HI208 := n1_; clear n0_ n1_; (try clear hb); (try clear hb2); (try clear hk); (try clear hi)))
  go_ret
  exact ⟨by first | rfl | (simp [errW_none, errW_some] <;> rfl) | (simp [*, errW_none, errW_some] <;> rfl), by repeat (first | (with_reducible first | exact HB.out | apply below_alloc | apply pw_below_drewN | apply below_drew1 | refine below_set ?_ (IsS80.ge HI208.out)) | exact HB.out)⟩

end Go.Proofs.Ytomidomdomjkfaa.PT
