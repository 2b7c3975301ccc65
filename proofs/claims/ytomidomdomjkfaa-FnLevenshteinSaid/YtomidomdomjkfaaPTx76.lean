-- Written by this session's own program (wip/tools) out of the translation.
import Derived.Test.YtomidomdomjkfaaPTx0
import Derived.Test.YtomidomdomjkfaaPTx10
import Derived.Test.YtomidomdomjkfaaPTx69
import Derived.Test.YtomidomdomjkfaaPTx75
namespace Go.Proofs.Ytomidomdomjkfaa.PT
open Go.RowKit Go.Proofs.YtomidomdomjkfaaW.PrintWords Go.Proofs.YtomidomdomjkfaaW.PrintLast Go.Proofs.YtomidomdomjkfaaW.PrintMore
attribute [local go_sem] max2_int min2_int max_two min_two max_three min_three max_four min_four   -- for this text's walks alone
set_option linter.unusedVariables false
set_option linter.unusedSimpArgs false

/-! ### impl_Levenshtein: function 39 -/
def impl_Levenshtein.f (k : Nat) (l0 : List (S57)) : Option (Int) := (diffmatchpatch_New.f).bind fun bt410 => ((impl_made.f k l0).bind fun t418 => ((diffmatchpatch_DiffMatchPatch_DiffLevenshtein.f k bt410.1 bt410.2.1 bt410.2.2.1 bt410.2.2.2.1 bt410.2.2.2.2.1 bt410.2.2.2.2.2.1 bt410.2.2.2.2.2.2 t418).bind fun bt421 => (some bt421.1)))
theorem impl_Levenshtein.mono : ∀ a0 k, LeO (impl_Levenshtein.f k a0) (impl_Levenshtein.f (k + 1) a0) := by
  intro a0 k
  unfold impl_Levenshtein.f
  repeat' first
      | (with_reducible exact diffmatchpatch_DiffMatchPatch_DiffLevenshtein.mono _ _ _ _ _ _ _ _ _)
      | (with_reducible exact impl_made.mono _ _)
      | (with_reducible exact LeO.refl _)
      | (with_reducible exact LeO.none _)
      | (with_reducible refine LeO.ite ?_ ?_)
      | (with_reducible refine LeO.bind ?_ (fun _ => ?_))
      | exact diffmatchpatch_DiffMatchPatch_DiffLevenshtein.mono _ _ _ _ _ _ _ _ _
      | exact impl_made.mono _ _
      | exact LeO.none _
      | refine LeO.ite ?_ ?_
      | refine LeO.bind ?_ (fun _ => ?_)
set_option maxHeartbeats 8000000 in
set_option maxRecDepth 100000 in
theorem impl_Levenshtein.calls (k : Nat) (A0 : Option Addr) (c0 : Nat) (l0 : List (S57)) (r : Int) (w : World) (hr0 : Kd.C k57 w A0 l0.length l0) (hc0 : l0.length ≤ c0) (h : impl_Levenshtein.f k l0 = some r) :
    Calls Try.prog 39 #[.slice A0 l0.length c0] w fun e w' => e = .returned (.int .i64 r) ∧ Below w.heap.size w w' := by
  have HR0 := Aside0.mk hr0
  have HC0 := Aside0.mk hc0
  clear hr0 hc0
  have HB := Aside0.mk (Below.refl w.heap.size w)
  have H : ((diffmatchpatch_New.f).bind fun bt410 => ((impl_made.f k l0).bind fun t418 => ((diffmatchpatch_DiffMatchPatch_DiffLevenshtein.f k bt410.1 bt410.2.1 bt410.2.2.1 bt410.2.2.2.1 bt410.2.2.2.2.1 bt410.2.2.2.2.2.1 bt410.2.2.2.2.2.2 t418).bind fun bt421 => (some bt421.1)))) = some r := h
  clear h
  replace H := Option.bind_eq_some_iff.mp H
  obtain ⟨⟨t410, t411, t412, t413, t414, t415, t416⟩, A20, H⟩ := H
  replace H : ((impl_made.f k l0).bind fun t418 => ((diffmatchpatch_DiffMatchPatch_DiffLevenshtein.f k t410 t411 t412 t413 t414 t415 t416 t418).bind fun bt421 => (some bt421.1))) = some r := H
  have A2 := Aside0.mk A20
  clear A20
  replace H := Option.bind_eq_some_iff.mp H
  obtain ⟨t418, A30, H⟩ := H
  replace H : ((diffmatchpatch_DiffMatchPatch_DiffLevenshtein.f k t410 t411 t412 t413 t414 t415 t416 t418).bind fun bt421 => (some bt421.1)) = some r := H
  have A3 := Aside0.mk A30
  clear A30
  replace H := Option.bind_eq_some_iff.mp H
  obtain ⟨⟨t421, t422, t423, t424, t425, t426, t427, t428⟩, A40, H⟩ := H
  replace H : (some t421) = some r := H
  have A4 := Aside0.mk A40
  clear A40
  obtain rfl := Option.some.inj H
  go_enter Try.func39, Try.ntmps39
  go_wp2_with (first | ((with_reducible refine gate_callee (f := 44) rfl ?_); refine goesL_ (some 3) rfl rfl Try.func44 (by kernel_rfl) rfl #[] rfl (by (try simp only [List.map_toArray, List.map_cons, List.map_nil]); first | done | rfl | (simp only [List.length_drop, List.length_take]; rfl)) ?_; (with_reducible refine (diffmatchpatch_New.calls  t410 t411 t412 t413 t414 t415 t416 w _ ?side1 A2.out).mono ?_); (case side1 => repeat (first | (with_reducible first | exact HB.out | apply below_alloc | apply pw_below_drewN | apply below_drew1) | exact HB.out)); rintro e w5 ⟨g417, rfl, hi, hb, hb2⟩; refine ⟨_, rfl, ?_⟩; have n0_ := Aside0.mk (hb); have n1_ := Aside0.mk (hi); clear HB; have HB := n0_; have HI417 := n1_; clear n0_ n1_; (try clear hb); (try clear hb2); (try clear hk); (try clear hi)) | ((with_reducible refine gate_callee (f := 61) rfl ?_); refine goesL_ (some 5) rfl rfl Try.func61 (by kernel_rfl) rfl #[.slice A0 l0.length c0] rfl (by (try simp only [List.map_toArray, List.map_cons, List.map_nil]); first | done | rfl | (simp only [List.length_drop, List.length_take]; rfl)) ?_; (with_reducible refine (impl_made.calls k _ _ l0 t418 _ ?side1 ?side2 A3.out).mono ?_); (case side1 => repeat (first | exact (Kd.C_below HR0.out HB.out) | (with_reducible refine Kd.C_alloc ?_ _) | (with_reducible refine Kd.C_drewN ?_ _) | (with_reducible refine Kd.C_drew ?_))); (case side2 => exact HC0.out); rintro e w6 ⟨v419, rfl, ho0, hb⟩; refine ⟨_, rfl, ?_⟩; have n0_ := Aside0.mk (Kd.R_lower ho0 (below_size (by repeat (first | (with_reducible first | exact HB.out | apply below_alloc | apply pw_below_drewN | apply below_drew1 | refine below_set ?_ (IsS80.ge HI417.out)) | exact HB.out)))); have n1_ := Aside0.mk (IsS80.below (by repeat (first | (with_reducible first | exact HI417.out | apply IsS80.alloc | apply IsS80.drewN | apply IsS80.drew | apply IsS80.set_0 | apply IsS80.set_1 | apply IsS80.set_2 | apply IsS80.set_3 | apply IsS80.set_4 | apply IsS80.set_5 | apply IsS80.set_6) | exact HI417.out)) hb); have n2_ := Aside0.mk (below_step (by repeat (first | (with_reducible first | exact HB.out | apply below_alloc | apply pw_below_drewN | apply below_drew1 | refine below_set ?_ (IsS80.ge HI417.out)) | exact HB.out)) hb); clear HI417; clear HB; have HO420 := n0_; have HI417 := n1_; have HB := n2_; clear n0_ n1_ n2_; (try clear hb); (try clear hb2); (try clear hk); (try clear hi); (try clear ho0); obtain ⟨Ao7, co7, eo7⟩ := Kd.R_slice HO420.out; subst eo7) | ((with_reducible refine gate_callee (f := 62) rfl ?_); refine goesL_ (some 6) rfl rfl Try.func62 (by kernel_rfl) rfl #[.pointer (some ⟨g417, 0, none⟩), .slice Ao7 t418.length co7] rfl (by (try simp only [List.map_toArray, List.map_cons, List.map_nil]); first | done | rfl | (simp only [List.length_drop, List.length_take]; rfl)) ?_; (with_reducible refine (diffmatchpatch_DiffMatchPatch_DiffLevenshtein.calls k g417 t410 t411 t412 t413 t414 t415 t416 _ _ t418 t421 t422 t423 t424 t425 t426 t427 t428 w _ ?side1 ?side2 ?side3 ?side4 A4.out).mono ?_); (case side1 => repeat (first | (with_reducible first | exact HI417.out | apply IsS80.alloc | apply IsS80.drewN | apply IsS80.drew | apply IsS80.set_0 | apply IsS80.set_1 | apply IsS80.set_2 | apply IsS80.set_3 | apply IsS80.set_4 | apply IsS80.set_5 | apply IsS80.set_6) | exact HI417.out)); (case side2 => repeat (first | (with_reducible first | exact HB.out | apply below_alloc | apply pw_below_drewN | apply below_drew1 | refine below_set ?_ (IsS80.ge HI417.out)) | exact HB.out)); (case side3 => exact Kd.C_foot_own (IsS80.apart (show IsS80 w _ g417 t410 t411 t412 t413 t414 t415 t416 from by repeat (first | (with_reducible first | exact HI417.out | apply IsS80.alloc | apply IsS80.drewN | apply IsS80.drew | apply IsS80.set_0 | apply IsS80.set_1 | apply IsS80.set_2 | apply IsS80.set_3 | apply IsS80.set_4 | apply IsS80.set_5 | apply IsS80.set_6) | exact HI417.out)) (by (with_reducible repeat (first | apply Kd.R_alloc | apply Kd.R_drewN | apply Kd.R_drew)); exact HO420.out) (by decide)) (fun _ h_ => h_.2)); (case side4 => exact (Kd.R_reads' HO420.out).2.1); rintro e w8 ⟨rfl, hi, hb, hk⟩; refine ⟨_, rfl, ?_⟩; have n0_ := Aside0.mk (Kd.R_mono (Kd.R_keep (IsS80.apart (show IsS80 w _ g417 t410 t411 t412 t413 t414 t415 t416 from by repeat (first | (with_reducible first | exact HI417.out | apply IsS80.alloc | apply IsS80.drewN | apply IsS80.drew | apply IsS80.set_0 | apply IsS80.set_1 | apply IsS80.set_2 | apply IsS80.set_3 | apply IsS80.set_4 | apply IsS80.set_5 | apply IsS80.set_6) | exact HI417.out)) (by (with_reducible repeat (first | apply Kd.R_alloc | apply Kd.R_drewN | apply Kd.R_drew)); exact HO420.out) (by decide)) hk (fun _ h => h.2)) (fun _ h => h.1)); have n1_ := Aside0.mk (hb); have n2_ := Aside0.mk (hi); clear HO420; clear HB; clear HI417; have HO420 := n0_; have HB := n1_; have HI417 := n2_; clear n0_ n1_ n2_; (try clear hb); (try clear hb2); (try clear hk); (try clear hi)))
  go_ret
  exact ⟨by first | rfl | (simp [errW_none, errW_some] <;> rfl) | (simp [*, errW_none, errW_some] <;> rfl), by repeat (first | (with_reducible first | exact HB.out | apply below_alloc | apply pw_below_drewN | apply below_drew1 | refine below_set ?_ (IsS80.ge HI417.out)) | exact HB.out)⟩

end Go.Proofs.Ytomidomdomjkfaa.PT
