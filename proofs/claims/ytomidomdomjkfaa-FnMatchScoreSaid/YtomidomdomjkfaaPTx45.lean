-- Written by this session's own program (wip/tools) out of the translation.
import Derived.Test.YtomidomdomjkfaaPTx0
import Derived.Test.YtomidomdomjkfaaPTx10
import Derived.Test.YtomidomdomjkfaaPTx43
import Derived.Test.YtomidomdomjkfaaPTx44
namespace Go.Proofs.Ytomidomdomjkfaa.PT
open Go.RowKit Go.Proofs.YtomidomdomjkfaaW.PrintWords Go.Proofs.YtomidomdomjkfaaW.PrintLast Go.Proofs.YtomidomdomjkfaaW.PrintMore
attribute [local go_sem] max2_int min2_int max_two min_two max_three min_three max_four min_four   -- for this text's walks alone
set_option linter.unusedVariables false
set_option linter.unusedSimpArgs false

/-! ### impl_dmp: function 53 -/
def impl_dmp.f (a0_0 : Bool) (a0_1 : Int) (a0_2 : Int) (a0_3 : Nat) (a0_4 : Nat) (a0_5 : Int) (a0_6 : Int) : Option (Int × Int × Int × Nat × Int × Int × Nat) := (impl_within.f a0_1 0 1000 4).bind fun t301 => ((impl_within.f a0_2 0 1048576 1000).bind fun t302 => ((impl_part.f a0_3).bind fun t303 => ((impl_part.f a0_4).bind fun t304 => ((impl_within.f a0_5 1 8 4).bind fun t305 => ((impl_within.f a0_6 32 62 32).bind fun t306 => (if a0_0 = true then (some (1, t301, t302, t304, t305, t306, t303)) else (some (0, t301, t302, t304, t305, t306, t303))))))))
def impl_dmp.T1 : Bool × List (List Nat × List Nat) := (true, [([], []), ([0], [0]), ([1], [1]), ([], []), ([3], [3]), ([4, 2], [4]), ([], []), ([6], [6]), ([7, 5], [7]), ([], []), ([9], [9]), ([10, 8], [10]), ([], []), ([12], [12]), ([13, 11], [13]), ([], []), ([15], [15]), ([16, 14], [16]), ([2, 5, 8, 11, 14, 17], [2, 5, 8, 11, 14, 17]), ([18], [18]), ([19, 17, 0, 1, 2, 3, 4, 5, 6, 7, 8, 9, 10, 11, 12, 13, 14, 15, 16, 17, 18, 19], [19])])
def impl_dmp.B1 : List Nat := [0, 1, 3, 0, 8, 31, 0, 64, 255, 0, 512, 2047, 0, 4096, 16383, 0, 32768, 131071, 262143, 524287, 1048575]
theorem impl_dmp.tab1 : rtab .any (opsOf Try.f53 1) = impl_dmp.T1 := by kernel_rfl
theorem impl_dmp.bits1 : waitsOk impl_dmp.T1.2 impl_dmp.B1 = true := by kernel_rfl
set_option maxHeartbeats 8000000 in
set_option maxRecDepth 100000 in
theorem impl_dmp.calls (a0_0 : Bool) (a0_1 : Int) (a0_2 : Int) (a0_3 : Nat) (a0_4 : Nat) (a0_5 : Int) (a0_6 : Int) (r1 : Int) (r2 : Int) (r3 : Int) (r4 : Nat) (r5 : Int) (r6 : Int) (r7 : Nat) (w0 w : World) (hB : Below w0.heap.size w0 w) (h : impl_dmp.f a0_0 a0_1 a0_2 a0_3 a0_4 a0_5 a0_6 = some (r1, r2, r3, r4, r5, r6, r7)) :
    Calls Try.prog 53 #[.agg #[.bool a0_0, .int .i64 a0_1, .int .i64 a0_2, .float .f64 a0_3, .float .f64 a0_4, .int .i64 a0_5, .int .i64 a0_6]] w fun e w' => ∃ g_ : Nat, e = .returned (.pointer (some ⟨g_, 0, none⟩)) ∧ IsS80 w0 w' g_ r1 r2 r3 r4 r5 r6 r7 ∧ Below w0.heap.size w0 w' ∧ Below w.heap.size w w' := by
  have hu45 := Try.underlying45
  have hu80 := Try.underlying80
  have HBW := Aside0.mk (Below.refl w.heap.size w)
  have HW0 := Aside0.mk hB.size
  have HB := Aside0.mk hB
  clear hB
  have H : ((impl_within.f a0_1 0 1000 4).bind fun t301 => ((impl_within.f a0_2 0 1048576 1000).bind fun t302 => ((impl_part.f a0_3).bind fun t303 => ((impl_part.f a0_4).bind fun t304 => ((impl_within.f a0_5 1 8 4).bind fun t305 => ((impl_within.f a0_6 32 62 32).bind fun t306 => (if a0_0 = true then (some (1, t301, t302, t304, t305, t306, t303)) else (some (0, t301, t302, t304, t305, t306, t303))))))))) = some (r1, r2, r3, r4, r5, r6, r7) := h
  clear h
  replace H := Option.bind_eq_some_iff.mp H
  obtain ⟨t301, A20, H⟩ := H
  replace H : ((impl_within.f a0_2 0 1048576 1000).bind fun t302 => ((impl_part.f a0_3).bind fun t303 => ((impl_part.f a0_4).bind fun t304 => ((impl_within.f a0_5 1 8 4).bind fun t305 => ((impl_within.f a0_6 32 62 32).bind fun t306 => (if a0_0 = true then (some (1, t301, t302, t304, t305, t306, t303)) else (some (0, t301, t302, t304, t305, t306, t303)))))))) = some (r1, r2, r3, r4, r5, r6, r7) := H
  have A2 := Aside0.mk A20
  clear A20
  replace H := Option.bind_eq_some_iff.mp H
  obtain ⟨t302, A30, H⟩ := H
  replace H : ((impl_part.f a0_3).bind fun t303 => ((impl_part.f a0_4).bind fun t304 => ((impl_within.f a0_5 1 8 4).bind fun t305 => ((impl_within.f a0_6 32 62 32).bind fun t306 => (if a0_0 = true then (some (1, t301, t302, t304, t305, t306, t303)) else (some (0, t301, t302, t304, t305, t306, t303))))))) = some (r1, r2, r3, r4, r5, r6, r7) := H
  have A3 := Aside0.mk A30
  clear A30
  replace H := Option.bind_eq_some_iff.mp H
  obtain ⟨t303, A40, H⟩ := H
  replace H : ((impl_part.f a0_4).bind fun t304 => ((impl_within.f a0_5 1 8 4).bind fun t305 => ((impl_within.f a0_6 32 62 32).bind fun t306 => (if a0_0 = true then (some (1, t301, t302, t304, t305, t306, t303)) else (some (0, t301, t302, t304, t305, t306, t303)))))) = some (r1, r2, r3, r4, r5, r6, r7) := H
  have A4 := Aside0.mk A40
  clear A40
  replace H := Option.bind_eq_some_iff.mp H
  obtain ⟨t304, A50, H⟩ := H
  replace H : ((impl_within.f a0_5 1 8 4).bind fun t305 => ((impl_within.f a0_6 32 62 32).bind fun t306 => (if a0_0 = true then (some (1, t301, t302, t304, t305, t306, t303)) else (some (0, t301, t302, t304, t305, t306, t303))))) = some (r1, r2, r3, r4, r5, r6, r7) := H
  have A5 := Aside0.mk A50
  clear A50
  replace H := Option.bind_eq_some_iff.mp H
  obtain ⟨t305, A60, H⟩ := H
  replace H : ((impl_within.f a0_6 32 62 32).bind fun t306 => (if a0_0 = true then (some (1, t301, t302, t304, t305, t306, t303)) else (some (0, t301, t302, t304, t305, t306, t303)))) = some (r1, r2, r3, r4, r5, r6, r7) := H
  have A6 := Aside0.mk A60
  clear A60
  replace H := Option.bind_eq_some_iff.mp H
  obtain ⟨t306, A70, H⟩ := H
  replace H : (if a0_0 = true then (some (1, t301, t302, t304, t305, t306, t303)) else (some (0, t301, t302, t304, t305, t306, t303))) = some (r1, r2, r3, r4, r5, r6, r7) := H
  have A7 := Aside0.mk A70
  clear A70
  by_cases c8 : a0_0 = true
  rotate_left
  · replace c8 := Bool.eq_false_iff.mpr c8
    subst c8
    have H1 : (some (0, t301, t302, t304, t305, t306, t303)) = some (r1, r2, r3, r4, r5, r6, r7) := by rw [if_neg (show ¬ (false = true) by decide)] at H; exact H
    clear H
    have H := H1
    clear H1
    simp only [Option.some.injEq, Prod.mk.injEq] at H
    obtain ⟨rfl, rfl, rfl, rfl, rfl, rfl, rfl⟩ := H
    go_enter Try.func53, Try.ntmps53
    try go_wp2_with (first | ((with_reducible refine gate_dst (N := 1) rfl ?_); refine box_event ?hg (N := 1) ?hd (cs := #[.bool false, .int .i64 a0_1, .int .i64 a0_2, .float .f64 a0_3, .float .f64 a0_4, .int .i64 a0_5, .int .i64 a0_6]) (t := 45) ?hr ?_; (case hd => rfl); (case hg => rfl); (case hr => first | (go_simp; done) | (go_simp; rfl)); intro gb300 hg w15 hbox hb; have n0_ := Aside0.mk (below_step (by repeat (first | (with_reducible first | exact HBW.out | apply below_alloc | apply pw_below_drewN | apply below_drew1) | exact HBW.out)) hb); have n1_ := Aside0.mk (below_step (by repeat (first | (with_reducible first | exact HB.out | apply below_alloc | apply pw_below_drewN | apply below_drew1) | exact HB.out)) hb); have n2_ := Aside0.mk (hbox); have n3_ := Aside0.mk ((by rw [hg]; exact (below_size (by repeat (first | (with_reducible first | exact HBW.out | apply below_alloc | apply pw_below_drewN | apply below_drew1) | exact HBW.out))) : w.heap.size ≤ gb300)); have n4_ := Aside0.mk ((Nat.le_trans HW0.out (by rw [hg]; exact (below_size (by repeat (first | (with_reducible first | exact HBW.out | apply below_alloc | apply pw_below_drewN | apply below_drew1) | exact HBW.out))) : w.heap.size ≤ gb300) : w0.heap.size ≤ gb300)); clear HBW; clear HB; have HBW := n0_; have HB := n1_; have BK300 := n2_; have GW300 := n3_; have GE300 := n4_; clear n0_ n1_ n2_ n3_ n4_; clear hb hbox hg))
    have n0_ := Aside0.mk (blk_drew BK300.out)
    have n1_ := Aside0.mk (below_drew1 HB.out)
    have n2_ := Aside0.mk (below_drew1 HBW.out)
    clear BK300
    clear HB
    clear HBW
    have BK300 := n0_
    have HB := n1_
    have HBW := n2_
    clear n0_ n1_ n2_
    refine start_ (n := 21) (S := fun w' => w'.cell? ⟨gb300, 0, none⟩ = some (.bool false) ∧ w'.cell? ⟨gb300, 1, none⟩ = some (.int .i64 a0_1) ∧ w'.cell? ⟨gb300, 2, none⟩ = some (.int .i64 a0_2) ∧ w'.cell? ⟨gb300, 3, none⟩ = some (.float .f64 a0_3) ∧ w'.cell? ⟨gb300, 4, none⟩ = some (.float .f64 a0_4) ∧ w'.cell? ⟨gb300, 5, none⟩ = some (.int .i64 a0_5) ∧ w'.cell? ⟨gb300, 6, none⟩ = some (.int .i64 a0_6)) (ds := []) #[false, false, false, false, false, false, false, false, false, false, false, false, false, false, false, false, false, false, false, false, false] (by kernel_rfl) rfl rfl ⟨(blk_cell BK300.out 0).trans rfl, (blk_cell BK300.out 1).trans rfl, (blk_cell BK300.out 2).trans rfl, (blk_cell BK300.out 3).trans rfl, (blk_cell BK300.out 4).trans rfl, (blk_cell BK300.out 5).trans rfl, (blk_cell BK300.out 6).trans rfl⟩ (fun hHeld => ?_); refine with_tabW impl_dmp.tab1 impl_dmp.bits1 (fun HT_ HW_ => ?_)
    generalize w15.drew = w16 at BK300 HB HBW hHeld ⊢
    refine pure_ (i := 0) (N := some 4) (v := ?_) (a' := ?_) #[true, false, false, false, false, false, false, false, false, false, false, false, false, false, false, false, false, false, false, false, false] rfl rfl (any_of HT_.out (by kernel_rfl)) (fun _ _ _ h => h) (Or.inl ⟨by rfl, ?_⟩) ?_ ?_
    rotate_left
    · intro w'
      go_simp
      with_reducible rfl
    rotate_left
    · simp only [Act.put, List.setIfInBounds_toArray, List.set_cons_zero, List.set_cons_succ, i64_w, i32_w]
      rfl
    refine pure_ (i := 3) (N := some 7) (v := ?_) (a' := ?_) #[true, false, false, true, false, false, false, false, false, false, false, false, false, false, false, false, false, false, false, false, false] rfl rfl (any_of HT_.out (by kernel_rfl)) (fun _ _ _ h => h) (Or.inl ⟨by rfl, ?_⟩) ?_ ?_
    rotate_left
    · intro w'
      go_simp
      with_reducible rfl
    rotate_left
    · simp only [Act.put, List.setIfInBounds_toArray, List.set_cons_zero, List.set_cons_succ, i64_w, i32_w]
      rfl
    refine pure_ (i := 6) (N := some 10) (v := ?_) (a' := ?_) #[true, false, false, true, false, false, true, false, false, false, false, false, false, false, false, false, false, false, false, false, false] rfl rfl (any_of HT_.out (by kernel_rfl)) (fun _ _ _ h => h) (Or.inl ⟨by rfl, ?_⟩) ?_ ?_
    rotate_left
    · intro w'
      go_simp
      with_reducible rfl
    rotate_left
    · simp only [Act.put, List.setIfInBounds_toArray, List.set_cons_zero, List.set_cons_succ, i64_w, i32_w]
      rfl
    refine pure_ (i := 9) (N := some 13) (v := ?_) (a' := ?_) #[true, false, false, true, false, false, true, false, false, true, false, false, false, false, false, false, false, false, false, false, false] rfl rfl (any_of HT_.out (by kernel_rfl)) (fun _ _ _ h => h) (Or.inl ⟨by rfl, ?_⟩) ?_ ?_
    rotate_left
    · intro w'
      go_simp
      with_reducible rfl
    rotate_left
    · simp only [Act.put, List.setIfInBounds_toArray, List.set_cons_zero, List.set_cons_succ, i64_w, i32_w]
      rfl
    refine pure_ (i := 12) (N := some 16) (v := ?_) (a' := ?_) #[true, false, false, true, false, false, true, false, false, true, false, false, true, false, false, false, false, false, false, false, false] rfl rfl (any_of HT_.out (by kernel_rfl)) (fun _ _ _ h => h) (Or.inl ⟨by rfl, ?_⟩) ?_ ?_
    rotate_left
    · intro w'
      go_simp
      with_reducible rfl
    rotate_left
    · simp only [Act.put, List.setIfInBounds_toArray, List.set_cons_zero, List.set_cons_succ, i64_w, i32_w]
      rfl
    refine pure_ (i := 15) (N := some 19) (v := ?_) (a' := ?_) #[true, false, false, true, false, false, true, false, false, true, false, false, true, false, false, true, false, false, false, false, false] rfl rfl (any_of HT_.out (by kernel_rfl)) (fun _ _ _ h => h) (Or.inl ⟨by rfl, ?_⟩) ?_ ?_
    rotate_left
    · intro w'
      go_simp
      with_reducible rfl
    rotate_left
    · simp only [Act.put, List.setIfInBounds_toArray, List.set_cons_zero, List.set_cons_succ, i64_w, i32_w]
      rfl
    refine take_ (i := 1) (N := some 5) (v := ?_) (a' := ?_) #[true, true, false, true, false, false, true, false, false, true, false, false, true, false, false, true, false, false, false, false, false] rfl rfl (take_ofW HT_.out HW_.out (by kernel_rfl)) (fun _ _ _ h => h) (Or.inl ⟨by rfl, ?_⟩) hHeld ?_ ?_
    rotate_left
    · rintro w' ⟨s0, s1, s2, s3, s4, s5, s6⟩
      go_simp
      with_reducible rfl
    rotate_left
    · simp only [Act.put, List.setIfInBounds_toArray, List.set_cons_zero, List.set_cons_succ, i64_w, i32_w]
      rfl
    refine take_ (i := 4) (N := some 8) (v := ?_) (a' := ?_) #[true, true, false, true, true, false, true, false, false, true, false, false, true, false, false, true, false, false, false, false, false] rfl rfl (take_ofW HT_.out HW_.out (by kernel_rfl)) (fun _ _ _ h => h) (Or.inl ⟨by rfl, ?_⟩) hHeld ?_ ?_
    rotate_left
    · rintro w' ⟨s0, s1, s2, s3, s4, s5, s6⟩
      go_simp
      with_reducible rfl
    rotate_left
    · simp only [Act.put, List.setIfInBounds_toArray, List.set_cons_zero, List.set_cons_succ, i64_w, i32_w]
      rfl
    refine take_ (i := 7) (N := some 11) (v := ?_) (a' := ?_) #[true, true, false, true, true, false, true, true, false, true, false, false, true, false, false, true, false, false, false, false, false] rfl rfl (take_ofW HT_.out HW_.out (by kernel_rfl)) (fun _ _ _ h => h) (Or.inl ⟨by rfl, ?_⟩) hHeld ?_ ?_
    rotate_left
    · rintro w' ⟨s0, s1, s2, s3, s4, s5, s6⟩
      go_simp
      with_reducible rfl
    rotate_left
    · simp only [Act.put, List.setIfInBounds_toArray, List.set_cons_zero, List.set_cons_succ, i64_w, i32_w]
      rfl
    refine take_ (i := 10) (N := some 14) (v := ?_) (a' := ?_) #[true, true, false, true, true, false, true, true, false, true, true, false, true, false, false, true, false, false, false, false, false] rfl rfl (take_ofW HT_.out HW_.out (by kernel_rfl)) (fun _ _ _ h => h) (Or.inl ⟨by rfl, ?_⟩) hHeld ?_ ?_
    rotate_left
    · rintro w' ⟨s0, s1, s2, s3, s4, s5, s6⟩
      go_simp
      with_reducible rfl
    rotate_left
    · simp only [Act.put, List.setIfInBounds_toArray, List.set_cons_zero, List.set_cons_succ, i64_w, i32_w]
      rfl
    refine take_ (i := 13) (N := some 17) (v := ?_) (a' := ?_) #[true, true, false, true, true, false, true, true, false, true, true, false, true, true, false, true, false, false, false, false, false] rfl rfl (take_ofW HT_.out HW_.out (by kernel_rfl)) (fun _ _ _ h => h) (Or.inl ⟨by rfl, ?_⟩) hHeld ?_ ?_
    rotate_left
    · rintro w' ⟨s0, s1, s2, s3, s4, s5, s6⟩
      go_simp
      with_reducible rfl
    rotate_left
    · simp only [Act.put, List.setIfInBounds_toArray, List.set_cons_zero, List.set_cons_succ, i64_w, i32_w]
      rfl
    refine take_ (i := 16) (N := some 20) (v := ?_) (a' := ?_) #[true, true, false, true, true, false, true, true, false, true, true, false, true, true, false, true, true, false, false, false, false] rfl rfl (take_ofW HT_.out HW_.out (by kernel_rfl)) (fun _ _ _ h => h) (Or.inl ⟨by rfl, ?_⟩) hHeld ?_ ?_
    rotate_left
    · rintro w' ⟨s0, s1, s2, s3, s4, s5, s6⟩
      go_simp
      with_reducible rfl
    rotate_left
    · simp only [Act.put, List.setIfInBounds_toArray, List.set_cons_zero, List.set_cons_succ, i64_w, i32_w]
      rfl
    refine one_ (i := 2) (N := some 6) #[true, true, true, true, true, false, true, true, false, true, true, false, true, true, false, true, true, false, false, false, false] rfl rfl (one_of HT_.out (by kernel_rfl)) (by decide) (fun K hK => ?_)
    refine goes_ Try.func72 (by kernel_rfl) rfl #[.int .i64 a0_1, .int .i64 0, .int .i64 1000, .int .i64 4] (by rfl) rfl rfl (by (try simp only [List.map_toArray, List.map_cons, List.map_nil]); first | done | rfl | (simp only [List.length_drop, List.length_take]; rfl)) ?_
    with_reducible refine (impl_within.calls a0_1 0 1000 4 t301 _ A2.out).mono ?_
    rintro e w' ⟨rfl, ⟨nd, rfl⟩⟩
    refine ⟨_, rfl, ?_⟩
    refine hK.out _ _ ⟨(blk_cell BK300.out 0).trans rfl, (blk_cell BK300.out 1).trans rfl, (blk_cell BK300.out 2).trans rfl, (blk_cell BK300.out 3).trans rfl, (blk_cell BK300.out 4).trans rfl, (blk_cell BK300.out 5).trans rfl, (blk_cell BK300.out 6).trans rfl⟩ (fun hHeld => ?_)
    clear hK K
    refine norm_ (a' := ?_) ?_ ?_
    rotate_left
    · show Act.put _ (some 6) _ = _
      simp only [Act.put, List.setIfInBounds_toArray, List.set_cons_zero, List.set_cons_succ, i64_w, i32_w]
      rfl
    refine one_ (i := 5) (N := some 9) #[true, true, true, true, true, true, true, true, false, true, true, false, true, true, false, true, true, false, false, false, false] rfl rfl (one_of HT_.out (by kernel_rfl)) (by decide) (fun K hK => ?_)
    refine goes_ Try.func72 (by kernel_rfl) rfl #[.int .i64 a0_2, .int .i64 0, .int .i64 1048576, .int .i64 1000] (by rfl) rfl rfl (by (try simp only [List.map_toArray, List.map_cons, List.map_nil]); first | done | rfl | (simp only [List.length_drop, List.length_take]; rfl)) ?_
    with_reducible refine (impl_within.calls a0_2 0 1048576 1000 t302 _ A3.out).mono ?_
    rintro e w' ⟨rfl, ⟨nd, rfl⟩⟩
    refine ⟨_, rfl, ?_⟩
    refine hK.out _ _ ⟨(blk_cell BK300.out 0).trans rfl, (blk_cell BK300.out 1).trans rfl, (blk_cell BK300.out 2).trans rfl, (blk_cell BK300.out 3).trans rfl, (blk_cell BK300.out 4).trans rfl, (blk_cell BK300.out 5).trans rfl, (blk_cell BK300.out 6).trans rfl⟩ (fun hHeld => ?_)
    clear hK K
    refine norm_ (a' := ?_) ?_ ?_
    rotate_left
    · show Act.put _ (some 9) _ = _
      simp only [Act.put, List.setIfInBounds_toArray, List.set_cons_zero, List.set_cons_succ, i64_w, i32_w]
      rfl
    refine one_ (i := 8) (N := some 12) #[true, true, true, true, true, true, true, true, true, true, true, false, true, true, false, true, true, false, false, false, false] rfl rfl (one_of HT_.out (by kernel_rfl)) (by decide) (fun K hK => ?_)
    refine goes_ Try.func73 (by kernel_rfl) rfl #[.float .f64 a0_3] (by rfl) rfl rfl (by (try simp only [List.map_toArray, List.map_cons, List.map_nil]); first | done | rfl | (simp only [List.length_drop, List.length_take]; rfl)) ?_
    with_reducible refine (impl_part.calls a0_3 t303 _ A4.out).mono ?_
    rintro e w' ⟨rfl, ⟨nd, rfl⟩⟩
    refine ⟨_, rfl, ?_⟩
    refine hK.out _ _ ⟨(blk_cell BK300.out 0).trans rfl, (blk_cell BK300.out 1).trans rfl, (blk_cell BK300.out 2).trans rfl, (blk_cell BK300.out 3).trans rfl, (blk_cell BK300.out 4).trans rfl, (blk_cell BK300.out 5).trans rfl, (blk_cell BK300.out 6).trans rfl⟩ (fun hHeld => ?_)
    clear hK K
    refine norm_ (a' := ?_) ?_ ?_
    rotate_left
    · show Act.put _ (some 12) _ = _
      simp only [Act.put, List.setIfInBounds_toArray, List.set_cons_zero, List.set_cons_succ, i64_w, i32_w]
      rfl
    refine one_ (i := 11) (N := some 15) #[true, true, true, true, true, true, true, true, true, true, true, true, true, true, false, true, true, false, false, false, false] rfl rfl (one_of HT_.out (by kernel_rfl)) (by decide) (fun K hK => ?_)
    refine goes_ Try.func73 (by kernel_rfl) rfl #[.float .f64 a0_4] (by rfl) rfl rfl (by (try simp only [List.map_toArray, List.map_cons, List.map_nil]); first | done | rfl | (simp only [List.length_drop, List.length_take]; rfl)) ?_
    with_reducible refine (impl_part.calls a0_4 t304 _ A5.out).mono ?_
    rintro e w' ⟨rfl, ⟨nd, rfl⟩⟩
    refine ⟨_, rfl, ?_⟩
    refine hK.out _ _ ⟨(blk_cell BK300.out 0).trans rfl, (blk_cell BK300.out 1).trans rfl, (blk_cell BK300.out 2).trans rfl, (blk_cell BK300.out 3).trans rfl, (blk_cell BK300.out 4).trans rfl, (blk_cell BK300.out 5).trans rfl, (blk_cell BK300.out 6).trans rfl⟩ (fun hHeld => ?_)
    clear hK K
    refine norm_ (a' := ?_) ?_ ?_
    rotate_left
    · show Act.put _ (some 15) _ = _
      simp only [Act.put, List.setIfInBounds_toArray, List.set_cons_zero, List.set_cons_succ, i64_w, i32_w]
      rfl
    refine one_ (i := 14) (N := some 18) #[true, true, true, true, true, true, true, true, true, true, true, true, true, true, true, true, true, false, false, false, false] rfl rfl (one_of HT_.out (by kernel_rfl)) (by decide) (fun K hK => ?_)
    refine goes_ Try.func72 (by kernel_rfl) rfl #[.int .i64 a0_5, .int .i64 1, .int .i64 8, .int .i64 4] (by rfl) rfl rfl (by (try simp only [List.map_toArray, List.map_cons, List.map_nil]); first | done | rfl | (simp only [List.length_drop, List.length_take]; rfl)) ?_
    with_reducible refine (impl_within.calls a0_5 1 8 4 t305 _ A6.out).mono ?_
    rintro e w' ⟨rfl, ⟨nd, rfl⟩⟩
    refine ⟨_, rfl, ?_⟩
    refine hK.out _ _ ⟨(blk_cell BK300.out 0).trans rfl, (blk_cell BK300.out 1).trans rfl, (blk_cell BK300.out 2).trans rfl, (blk_cell BK300.out 3).trans rfl, (blk_cell BK300.out 4).trans rfl, (blk_cell BK300.out 5).trans rfl, (blk_cell BK300.out 6).trans rfl⟩ (fun hHeld => ?_)
    clear hK K
    refine norm_ (a' := ?_) ?_ ?_
    rotate_left
    · show Act.put _ (some 18) _ = _
      simp only [Act.put, List.setIfInBounds_toArray, List.set_cons_zero, List.set_cons_succ, i64_w, i32_w]
      rfl
    refine one_ (i := 17) (N := some 21) #[true, true, true, true, true, true, true, true, true, true, true, true, true, true, true, true, true, true, false, false, false] rfl rfl (one_of HT_.out (by kernel_rfl)) (by decide) (fun K hK => ?_)
    refine goes_ Try.func72 (by kernel_rfl) rfl #[.int .i64 a0_6, .int .i64 32, .int .i64 62, .int .i64 32] (by rfl) rfl rfl (by (try simp only [List.map_toArray, List.map_cons, List.map_nil]); first | done | rfl | (simp only [List.length_drop, List.length_take]; rfl)) ?_
    with_reducible refine (impl_within.calls a0_6 32 62 32 t306 _ A7.out).mono ?_
    rintro e w' ⟨rfl, ⟨nd, rfl⟩⟩
    refine ⟨_, rfl, ?_⟩
    refine hK.out _ _ ⟨(blk_cell BK300.out 0).trans rfl, (blk_cell BK300.out 1).trans rfl, (blk_cell BK300.out 2).trans rfl, (blk_cell BK300.out 3).trans rfl, (blk_cell BK300.out 4).trans rfl, (blk_cell BK300.out 5).trans rfl, (blk_cell BK300.out 6).trans rfl⟩ (fun hHeld => ?_)
    clear hK K
    refine norm_ (a' := ?_) ?_ ?_
    rotate_left
    · show Act.put _ (some 21) _ = _
      simp only [Act.put, List.setIfInBounds_toArray, List.set_cons_zero, List.set_cons_succ, i64_w, i32_w]
      rfl
    refine pure_ (i := 18) (N := some 22) (v := ?_) (a' := ?_) #[true, true, true, true, true, true, true, true, true, true, true, true, true, true, true, true, true, true, true, false, false] rfl rfl (any_of HT_.out (by kernel_rfl)) (fun _ _ _ h => h) (Or.inl ⟨by rfl, ?_⟩) ?_ ?_
    rotate_left
    · intro w'
      go_simp
      with_reducible rfl
    rotate_left
    · simp only [Act.put, List.setIfInBounds_toArray, List.set_cons_zero, List.set_cons_succ, i64_w, i32_w]
      rfl
    refine one_ (i := 19) (N := some 23) #[true, true, true, true, true, true, true, true, true, true, true, true, true, true, true, true, true, true, true, true, false] rfl rfl (one_of HT_.out (by kernel_rfl)) (by decide) (fun K hK => ?_)
    refine box_step ?hg (N := 23) ?hd (cs := #[.int .i64 0, .int .i64 t301, .int .i64 t302, .float .f64 t304, .int .i64 t305, .int .i64 t306, .float .f64 t303]) (t := 80) ?hr ?_; (case hd => rfl); (case hg => rfl); (case hr => first | (go_simp; done) | (go_simp; rfl))
    intro gb307 hg w17 hbox hb
    have n0_ := Aside0.mk (blk_below (g := gb300) (o := .cells #[.bool false, .int .i64 a0_1, .int .i64 a0_2, .float .f64 a0_3, .float .f64 a0_4, .int .i64 a0_5, .int .i64 a0_6] 45 (0, 0)) (by (with_reducible repeat (first | refine blk_drewN ?_ _ | refine blk_drew ?_ | refine blk_alloc ?_ _)); exact BK300.out) hb)
    have n1_ := Aside0.mk (below_step (by repeat (first | (with_reducible first | exact HBW.out | apply below_alloc | apply pw_below_drewN | apply below_drew1 | refine below_set ?_ GW300.out) | exact HBW.out)) hb)
    have n2_ := Aside0.mk (below_step (by repeat (first | (with_reducible first | exact HB.out | apply below_alloc | apply pw_below_drewN | apply below_drew1 | refine below_set ?_ GE300.out) | exact HB.out)) hb)
    have n3_ := Aside0.mk (hbox)
    have n4_ := Aside0.mk ((by rw [hg]; exact (below_size (by repeat (first | (with_reducible first | exact HBW.out | apply below_alloc | apply pw_below_drewN | apply below_drew1 | refine below_set ?_ GW300.out) | exact HBW.out))) : w.heap.size ≤ gb307))
    have n5_ := Aside0.mk ((Nat.le_trans HW0.out (by rw [hg]; exact (below_size (by repeat (first | (with_reducible first | exact HBW.out | apply below_alloc | apply pw_below_drewN | apply below_drew1 | refine below_set ?_ GW300.out) | exact HBW.out))) : w.heap.size ≤ gb307) : w0.heap.size ≤ gb307))
    have n6_ := Aside0.mk ((by rw [hg]; exact Nat.ne_of_lt (blk_lt (g := gb300) (o := .cells #[.bool false, .int .i64 a0_1, .int .i64 a0_2, .float .f64 a0_3, .float .f64 a0_4, .int .i64 a0_5, .int .i64 a0_6] 45 (0, 0)) (by (with_reducible repeat (first | refine blk_drewN ?_ _ | refine blk_drew ?_ | refine blk_alloc ?_ _)); exact BK300.out)) : gb300 ≠ gb307))
    have n7_ := Aside0.mk ((by rw [hg]; exact Nat.ne_of_gt (blk_lt (g := gb300) (o := .cells #[.bool false, .int .i64 a0_1, .int .i64 a0_2, .float .f64 a0_3, .float .f64 a0_4, .int .i64 a0_5, .int .i64 a0_6] 45 (0, 0)) (by (with_reducible repeat (first | refine blk_drewN ?_ _ | refine blk_drew ?_ | refine blk_alloc ?_ _)); exact BK300.out)) : gb307 ≠ gb300))
    clear BK300
    clear HBW
    clear HB
    have BK300 := n0_
    have HBW := n1_
    have HB := n2_
    have BK307 := n3_
    have GW307 := n4_
    have GE307 := n5_
    have NB300_307 := n6_
    have NB307_300 := n7_
    clear n0_ n1_ n2_ n3_ n4_ n5_ n6_ n7_
    clear hb hbox hg
    refine hK.out _ _ ⟨(blk_cell BK300.out 0).trans rfl, (blk_cell BK300.out 1).trans rfl, (blk_cell BK300.out 2).trans rfl, (blk_cell BK300.out 3).trans rfl, (blk_cell BK300.out 4).trans rfl, (blk_cell BK300.out 5).trans rfl, (blk_cell BK300.out 6).trans rfl⟩ (fun hHeld => ?_)
    clear hK K
    refine norm_ (a' := ?_) ?_ ?_
    rotate_left
    · show Act.put _ (some 23) _ = _
      simp only [Act.put, List.setIfInBounds_toArray, List.set_cons_zero, List.set_cons_succ, i64_w, i32_w]
      rfl
    refine pure_ (i := 20) (N := some 3) (v := ?_) (a' := ?_) #[true, true, true, true, true, true, true, true, true, true, true, true, true, true, true, true, true, true, true, true, true] rfl rfl (any_of HT_.out (by kernel_rfl)) (fun _ _ _ h => h) (Or.inl ⟨by rfl, ?_⟩) ?_ ?_
    rotate_left
    · intro w'
      go_simp
      with_reducible rfl
    rotate_left
    · simp only [Act.put, List.setIfInBounds_toArray, List.set_cons_zero, List.set_cons_succ, i64_w, i32_w]
      rfl
    refine done_ (done_of HT_.out (by kernel_rfl)) ?_
    have hnb18 := NB300_307.out
    have hnc18 := NB307_300.out
    have hcz19_0 : w17.cell? ⟨gb300, 0, none⟩ = some (.bool false) := (blk_cell BK300.out 0).trans rfl
    have hcz19_1 : w17.cell? ⟨gb300, 1, none⟩ = some (.int .i64 a0_1) := (blk_cell BK300.out 1).trans rfl
    have hcz19_2 : w17.cell? ⟨gb300, 2, none⟩ = some (.int .i64 a0_2) := (blk_cell BK300.out 2).trans rfl
    have hcz19_3 : w17.cell? ⟨gb300, 3, none⟩ = some (.float .f64 a0_3) := (blk_cell BK300.out 3).trans rfl
    have hcz19_4 : w17.cell? ⟨gb300, 4, none⟩ = some (.float .f64 a0_4) := (blk_cell BK300.out 4).trans rfl
    have hcz19_5 : w17.cell? ⟨gb300, 5, none⟩ = some (.int .i64 a0_5) := (blk_cell BK300.out 5).trans rfl
    have hcz19_6 : w17.cell? ⟨gb300, 6, none⟩ = some (.int .i64 a0_6) := (blk_cell BK300.out 6).trans rfl
    have hfz19_0 := blk_frozen BK300.out 0
    have hfz19_1 := blk_frozen BK300.out 1
    have hfz19_2 := blk_frozen BK300.out 2
    have hfz19_3 := blk_frozen BK300.out 3
    have hfz19_4 := blk_frozen BK300.out 4
    have hfz19_5 := blk_frozen BK300.out 5
    have hfz19_6 := blk_frozen BK300.out 6
    try go_wp2
    go_ret
    exact ⟨_, rfl, (show IsS80 w0 _ gb307 0 t301 t302 t304 t305 t306 t303 from ⟨by (with_reducible repeat (first | refine blk_drewN ?_ _ | refine blk_drew ?_ | refine blk_alloc ?_ _)); exact BK307.out, GE307.out⟩), by repeat (first | (with_reducible first | exact HB.out | apply below_alloc | apply pw_below_drewN | apply below_drew1 | refine below_set ?_ GE300.out | refine below_set ?_ GE307.out) | exact HB.out), by repeat (first | (with_reducible first | exact HBW.out | apply below_alloc | apply pw_below_drewN | apply below_drew1 | refine below_set ?_ GW300.out | refine below_set ?_ GW307.out) | exact HBW.out)⟩
  subst c8
  have H1 : (some (1, t301, t302, t304, t305, t306, t303)) = some (r1, r2, r3, r4, r5, r6, r7) := by rw [if_pos rfl] at H; exact H
  clear H
  have H := H1
  clear H1
  simp only [Option.some.injEq, Prod.mk.injEq] at H
  obtain ⟨rfl, rfl, rfl, rfl, rfl, rfl, rfl⟩ := H
  go_enter Try.func53, Try.ntmps53
  try go_wp2_with (first | ((with_reducible refine gate_dst (N := 1) rfl ?_); refine box_event ?hg (N := 1) ?hd (cs := #[.bool true, .int .i64 a0_1, .int .i64 a0_2, .float .f64 a0_3, .float .f64 a0_4, .int .i64 a0_5, .int .i64 a0_6]) (t := 45) ?hr ?_; (case hd => rfl); (case hg => rfl); (case hr => first | (go_simp; done) | (go_simp; rfl)); intro gb300 hg w9 hbox hb; have n0_ := Aside0.mk (below_step (by repeat (first | (with_reducible first | exact HBW.out | apply below_alloc | apply pw_below_drewN | apply below_drew1) | exact HBW.out)) hb); have n1_ := Aside0.mk (below_step (by repeat (first | (with_reducible first | exact HB.out | apply below_alloc | apply pw_below_drewN | apply below_drew1) | exact HB.out)) hb); have n2_ := Aside0.mk (hbox); have n3_ := Aside0.mk ((by rw [hg]; exact (below_size (by repeat (first | (with_reducible first | exact HBW.out | apply below_alloc | apply pw_below_drewN | apply below_drew1) | exact HBW.out))) : w.heap.size ≤ gb300)); have n4_ := Aside0.mk ((Nat.le_trans HW0.out (by rw [hg]; exact (below_size (by repeat (first | (with_reducible first | exact HBW.out | apply below_alloc | apply pw_below_drewN | apply below_drew1) | exact HBW.out))) : w.heap.size ≤ gb300) : w0.heap.size ≤ gb300)); clear HBW; clear HB; have HBW := n0_; have HB := n1_; have BK300 := n2_; have GW300 := n3_; have GE300 := n4_; clear n0_ n1_ n2_ n3_ n4_; clear hb hbox hg))
  have n0_ := Aside0.mk (blk_drew BK300.out)
  have n1_ := Aside0.mk (below_drew1 HB.out)
  have n2_ := Aside0.mk (below_drew1 HBW.out)
  clear BK300
  clear HB
  clear HBW
  have BK300 := n0_
  have HB := n1_
  have HBW := n2_
  clear n0_ n1_ n2_
  refine start_ (n := 21) (S := fun w' => w'.cell? ⟨gb300, 0, none⟩ = some (.bool true) ∧ w'.cell? ⟨gb300, 1, none⟩ = some (.int .i64 a0_1) ∧ w'.cell? ⟨gb300, 2, none⟩ = some (.int .i64 a0_2) ∧ w'.cell? ⟨gb300, 3, none⟩ = some (.float .f64 a0_3) ∧ w'.cell? ⟨gb300, 4, none⟩ = some (.float .f64 a0_4) ∧ w'.cell? ⟨gb300, 5, none⟩ = some (.int .i64 a0_5) ∧ w'.cell? ⟨gb300, 6, none⟩ = some (.int .i64 a0_6)) (ds := []) #[false, false, false, false, false, false, false, false, false, false, false, false, false, false, false, false, false, false, false, false, false] (by kernel_rfl) rfl rfl ⟨(blk_cell BK300.out 0).trans rfl, (blk_cell BK300.out 1).trans rfl, (blk_cell BK300.out 2).trans rfl, (blk_cell BK300.out 3).trans rfl, (blk_cell BK300.out 4).trans rfl, (blk_cell BK300.out 5).trans rfl, (blk_cell BK300.out 6).trans rfl⟩ (fun hHeld => ?_); refine with_tabW impl_dmp.tab1 impl_dmp.bits1 (fun HT_ HW_ => ?_)
  generalize w9.drew = w10 at BK300 HB HBW hHeld ⊢
  refine pure_ (i := 0) (N := some 4) (v := ?_) (a' := ?_) #[true, false, false, false, false, false, false, false, false, false, false, false, false, false, false, false, false, false, false, false, false] rfl rfl (any_of HT_.out (by kernel_rfl)) (fun _ _ _ h => h) (Or.inl ⟨by rfl, ?_⟩) ?_ ?_
  rotate_left
  · intro w'
    go_simp
    with_reducible rfl
  rotate_left
  · simp only [Act.put, List.setIfInBounds_toArray, List.set_cons_zero, List.set_cons_succ, i64_w, i32_w]
    rfl
  refine pure_ (i := 3) (N := some 7) (v := ?_) (a' := ?_) #[true, false, false, true, false, false, false, false, false, false, false, false, false, false, false, false, false, false, false, false, false] rfl rfl (any_of HT_.out (by kernel_rfl)) (fun _ _ _ h => h) (Or.inl ⟨by rfl, ?_⟩) ?_ ?_
  rotate_left
  · intro w'
    go_simp
    with_reducible rfl
  rotate_left
  · simp only [Act.put, List.setIfInBounds_toArray, List.set_cons_zero, List.set_cons_succ, i64_w, i32_w]
    rfl
  refine pure_ (i := 6) (N := some 10) (v := ?_) (a' := ?_) #[true, false, false, true, false, false, true, false, false, false, false, false, false, false, false, false, false, false, false, false, false] rfl rfl (any_of HT_.out (by kernel_rfl)) (fun _ _ _ h => h) (Or.inl ⟨by rfl, ?_⟩) ?_ ?_
  rotate_left
  · intro w'
    go_simp
    with_reducible rfl
  rotate_left
  · simp only [Act.put, List.setIfInBounds_toArray, List.set_cons_zero, List.set_cons_succ, i64_w, i32_w]
    rfl
  refine pure_ (i := 9) (N := some 13) (v := ?_) (a' := ?_) #[true, false, false, true, false, false, true, false, false, true, false, false, false, false, false, false, false, false, false, false, false] rfl rfl (any_of HT_.out (by kernel_rfl)) (fun _ _ _ h => h) (Or.inl ⟨by rfl, ?_⟩) ?_ ?_
  rotate_left
  · intro w'
    go_simp
    with_reducible rfl
  rotate_left
  · simp only [Act.put, List.setIfInBounds_toArray, List.set_cons_zero, List.set_cons_succ, i64_w, i32_w]
    rfl
  refine pure_ (i := 12) (N := some 16) (v := ?_) (a' := ?_) #[true, false, false, true, false, false, true, false, false, true, false, false, true, false, false, false, false, false, false, false, false] rfl rfl (any_of HT_.out (by kernel_rfl)) (fun _ _ _ h => h) (Or.inl ⟨by rfl, ?_⟩) ?_ ?_
  rotate_left
  · intro w'
    go_simp
    with_reducible rfl
  rotate_left
  · simp only [Act.put, List.setIfInBounds_toArray, List.set_cons_zero, List.set_cons_succ, i64_w, i32_w]
    rfl
  refine pure_ (i := 15) (N := some 19) (v := ?_) (a' := ?_) #[true, false, false, true, false, false, true, false, false, true, false, false, true, false, false, true, false, false, false, false, false] rfl rfl (any_of HT_.out (by kernel_rfl)) (fun _ _ _ h => h) (Or.inl ⟨by rfl, ?_⟩) ?_ ?_
  rotate_left
  · intro w'
    go_simp
    with_reducible rfl
  rotate_left
  · simp only [Act.put, List.setIfInBounds_toArray, List.set_cons_zero, List.set_cons_succ, i64_w, i32_w]
    rfl
  refine take_ (i := 1) (N := some 5) (v := ?_) (a' := ?_) #[true, true, false, true, false, false, true, false, false, true, false, false, true, false, false, true, false, false, false, false, false] rfl rfl (take_ofW HT_.out HW_.out (by kernel_rfl)) (fun _ _ _ h => h) (Or.inl ⟨by rfl, ?_⟩) hHeld ?_ ?_
  rotate_left
  · rintro w' ⟨s0, s1, s2, s3, s4, s5, s6⟩
    go_simp
    with_reducible rfl
  rotate_left
  · simp only [Act.put, List.setIfInBounds_toArray, List.set_cons_zero, List.set_cons_succ, i64_w, i32_w]
    rfl
  refine take_ (i := 4) (N := some 8) (v := ?_) (a' := ?_) #[true, true, false, true, true, false, true, false, false, true, false, false, true, false, false, true, false, false, false, false, false] rfl rfl (take_ofW HT_.out HW_.out (by kernel_rfl)) (fun _ _ _ h => h) (Or.inl ⟨by rfl, ?_⟩) hHeld ?_ ?_
  rotate_left
  · rintro w' ⟨s0, s1, s2, s3, s4, s5, s6⟩
    go_simp
    with_reducible rfl
  rotate_left
  · simp only [Act.put, List.setIfInBounds_toArray, List.set_cons_zero, List.set_cons_succ, i64_w, i32_w]
    rfl
  refine take_ (i := 7) (N := some 11) (v := ?_) (a' := ?_) #[true, true, false, true, true, false, true, true, false, true, false, false, true, false, false, true, false, false, false, false, false] rfl rfl (take_ofW HT_.out HW_.out (by kernel_rfl)) (fun _ _ _ h => h) (Or.inl ⟨by rfl, ?_⟩) hHeld ?_ ?_
  rotate_left
  · rintro w' ⟨s0, s1, s2, s3, s4, s5, s6⟩
    go_simp
    with_reducible rfl
  rotate_left
  · simp only [Act.put, List.setIfInBounds_toArray, List.set_cons_zero, List.set_cons_succ, i64_w, i32_w]
    rfl
  refine take_ (i := 10) (N := some 14) (v := ?_) (a' := ?_) #[true, true, false, true, true, false, true, true, false, true, true, false, true, false, false, true, false, false, false, false, false] rfl rfl (take_ofW HT_.out HW_.out (by kernel_rfl)) (fun _ _ _ h => h) (Or.inl ⟨by rfl, ?_⟩) hHeld ?_ ?_
  rotate_left
  · rintro w' ⟨s0, s1, s2, s3, s4, s5, s6⟩
    go_simp
    with_reducible rfl
  rotate_left
  · simp only [Act.put, List.setIfInBounds_toArray, List.set_cons_zero, List.set_cons_succ, i64_w, i32_w]
    rfl
  refine take_ (i := 13) (N := some 17) (v := ?_) (a' := ?_) #[true, true, false, true, true, false, true, true, false, true, true, false, true, true, false, true, false, false, false, false, false] rfl rfl (take_ofW HT_.out HW_.out (by kernel_rfl)) (fun _ _ _ h => h) (Or.inl ⟨by rfl, ?_⟩) hHeld ?_ ?_
  rotate_left
  · rintro w' ⟨s0, s1, s2, s3, s4, s5, s6⟩
    go_simp
    with_reducible rfl
  rotate_left
  · simp only [Act.put, List.setIfInBounds_toArray, List.set_cons_zero, List.set_cons_succ, i64_w, i32_w]
    rfl
  refine take_ (i := 16) (N := some 20) (v := ?_) (a' := ?_) #[true, true, false, true, true, false, true, true, false, true, true, false, true, true, false, true, true, false, false, false, false] rfl rfl (take_ofW HT_.out HW_.out (by kernel_rfl)) (fun _ _ _ h => h) (Or.inl ⟨by rfl, ?_⟩) hHeld ?_ ?_
  rotate_left
  · rintro w' ⟨s0, s1, s2, s3, s4, s5, s6⟩
    go_simp
    with_reducible rfl
  rotate_left
  · simp only [Act.put, List.setIfInBounds_toArray, List.set_cons_zero, List.set_cons_succ, i64_w, i32_w]
    rfl
  refine one_ (i := 2) (N := some 6) #[true, true, true, true, true, false, true, true, false, true, true, false, true, true, false, true, true, false, false, false, false] rfl rfl (one_of HT_.out (by kernel_rfl)) (by decide) (fun K hK => ?_)
  refine goes_ Try.func72 (by kernel_rfl) rfl #[.int .i64 a0_1, .int .i64 0, .int .i64 1000, .int .i64 4] (by rfl) rfl rfl (by (try simp only [List.map_toArray, List.map_cons, List.map_nil]); first | done | rfl | (simp only [List.length_drop, List.length_take]; rfl)) ?_
  with_reducible refine (impl_within.calls a0_1 0 1000 4 t301 _ A2.out).mono ?_
  rintro e w' ⟨rfl, ⟨nd, rfl⟩⟩
  refine ⟨_, rfl, ?_⟩
  refine hK.out _ _ ⟨(blk_cell BK300.out 0).trans rfl, (blk_cell BK300.out 1).trans rfl, (blk_cell BK300.out 2).trans rfl, (blk_cell BK300.out 3).trans rfl, (blk_cell BK300.out 4).trans rfl, (blk_cell BK300.out 5).trans rfl, (blk_cell BK300.out 6).trans rfl⟩ (fun hHeld => ?_)
  clear hK K
  refine norm_ (a' := ?_) ?_ ?_
  rotate_left
  · show Act.put _ (some 6) _ = _
    simp only [Act.put, List.setIfInBounds_toArray, List.set_cons_zero, List.set_cons_succ, i64_w, i32_w]
    rfl
  refine one_ (i := 5) (N := some 9) #[true, true, true, true, true, true, true, true, false, true, true, false, true, true, false, true, true, false, false, false, false] rfl rfl (one_of HT_.out (by kernel_rfl)) (by decide) (fun K hK => ?_)
  refine goes_ Try.func72 (by kernel_rfl) rfl #[.int .i64 a0_2, .int .i64 0, .int .i64 1048576, .int .i64 1000] (by rfl) rfl rfl (by (try simp only [List.map_toArray, List.map_cons, List.map_nil]); first | done | rfl | (simp only [List.length_drop, List.length_take]; rfl)) ?_
  with_reducible refine (impl_within.calls a0_2 0 1048576 1000 t302 _ A3.out).mono ?_
  rintro e w' ⟨rfl, ⟨nd, rfl⟩⟩
  refine ⟨_, rfl, ?_⟩
  refine hK.out _ _ ⟨(blk_cell BK300.out 0).trans rfl, (blk_cell BK300.out 1).trans rfl, (blk_cell BK300.out 2).trans rfl, (blk_cell BK300.out 3).trans rfl, (blk_cell BK300.out 4).trans rfl, (blk_cell BK300.out 5).trans rfl, (blk_cell BK300.out 6).trans rfl⟩ (fun hHeld => ?_)
  clear hK K
  refine norm_ (a' := ?_) ?_ ?_
  rotate_left
  · show Act.put _ (some 9) _ = _
    simp only [Act.put, List.setIfInBounds_toArray, List.set_cons_zero, List.set_cons_succ, i64_w, i32_w]
    rfl
  refine one_ (i := 8) (N := some 12) #[true, true, true, true, true, true, true, true, true, true, true, false, true, true, false, true, true, false, false, false, false] rfl rfl (one_of HT_.out (by kernel_rfl)) (by decide) (fun K hK => ?_)
  refine goes_ Try.func73 (by kernel_rfl) rfl #[.float .f64 a0_3] (by rfl) rfl rfl (by (try simp only [List.map_toArray, List.map_cons, List.map_nil]); first | done | rfl | (simp only [List.length_drop, List.length_take]; rfl)) ?_
  with_reducible refine (impl_part.calls a0_3 t303 _ A4.out).mono ?_
  rintro e w' ⟨rfl, ⟨nd, rfl⟩⟩
  refine ⟨_, rfl, ?_⟩
  refine hK.out _ _ ⟨(blk_cell BK300.out 0).trans rfl, (blk_cell BK300.out 1).trans rfl, (blk_cell BK300.out 2).trans rfl, (blk_cell BK300.out 3).trans rfl, (blk_cell BK300.out 4).trans rfl, (blk_cell BK300.out 5).trans rfl, (blk_cell BK300.out 6).trans rfl⟩ (fun hHeld => ?_)
  clear hK K
  refine norm_ (a' := ?_) ?_ ?_
  rotate_left
  · show Act.put _ (some 12) _ = _
    simp only [Act.put, List.setIfInBounds_toArray, List.set_cons_zero, List.set_cons_succ, i64_w, i32_w]
    rfl
  refine one_ (i := 11) (N := some 15) #[true, true, true, true, true, true, true, true, true, true, true, true, true, true, false, true, true, false, false, false, false] rfl rfl (one_of HT_.out (by kernel_rfl)) (by decide) (fun K hK => ?_)
  refine goes_ Try.func73 (by kernel_rfl) rfl #[.float .f64 a0_4] (by rfl) rfl rfl (by (try simp only [List.map_toArray, List.map_cons, List.map_nil]); first | done | rfl | (simp only [List.length_drop, List.length_take]; rfl)) ?_
  with_reducible refine (impl_part.calls a0_4 t304 _ A5.out).mono ?_
  rintro e w' ⟨rfl, ⟨nd, rfl⟩⟩
  refine ⟨_, rfl, ?_⟩
  refine hK.out _ _ ⟨(blk_cell BK300.out 0).trans rfl, (blk_cell BK300.out 1).trans rfl, (blk_cell BK300.out 2).trans rfl, (blk_cell BK300.out 3).trans rfl, (blk_cell BK300.out 4).trans rfl, (blk_cell BK300.out 5).trans rfl, (blk_cell BK300.out 6).trans rfl⟩ (fun hHeld => ?_)
  clear hK K
  refine norm_ (a' := ?_) ?_ ?_
  rotate_left
  · show Act.put _ (some 15) _ = _
    simp only [Act.put, List.setIfInBounds_toArray, List.set_cons_zero, List.set_cons_succ, i64_w, i32_w]
    rfl
  refine one_ (i := 14) (N := some 18) #[true, true, true, true, true, true, true, true, true, true, true, true, true, true, true, true, true, false, false, false, false] rfl rfl (one_of HT_.out (by kernel_rfl)) (by decide) (fun K hK => ?_)
  refine goes_ Try.func72 (by kernel_rfl) rfl #[.int .i64 a0_5, .int .i64 1, .int .i64 8, .int .i64 4] (by rfl) rfl rfl (by (try simp only [List.map_toArray, List.map_cons, List.map_nil]); first | done | rfl | (simp only [List.length_drop, List.length_take]; rfl)) ?_
  with_reducible refine (impl_within.calls a0_5 1 8 4 t305 _ A6.out).mono ?_
  rintro e w' ⟨rfl, ⟨nd, rfl⟩⟩
  refine ⟨_, rfl, ?_⟩
  refine hK.out _ _ ⟨(blk_cell BK300.out 0).trans rfl, (blk_cell BK300.out 1).trans rfl, (blk_cell BK300.out 2).trans rfl, (blk_cell BK300.out 3).trans rfl, (blk_cell BK300.out 4).trans rfl, (blk_cell BK300.out 5).trans rfl, (blk_cell BK300.out 6).trans rfl⟩ (fun hHeld => ?_)
  clear hK K
  refine norm_ (a' := ?_) ?_ ?_
  rotate_left
  · show Act.put _ (some 18) _ = _
    simp only [Act.put, List.setIfInBounds_toArray, List.set_cons_zero, List.set_cons_succ, i64_w, i32_w]
    rfl
  refine one_ (i := 17) (N := some 21) #[true, true, true, true, true, true, true, true, true, true, true, true, true, true, true, true, true, true, false, false, false] rfl rfl (one_of HT_.out (by kernel_rfl)) (by decide) (fun K hK => ?_)
  refine goes_ Try.func72 (by kernel_rfl) rfl #[.int .i64 a0_6, .int .i64 32, .int .i64 62, .int .i64 32] (by rfl) rfl rfl (by (try simp only [List.map_toArray, List.map_cons, List.map_nil]); first | done | rfl | (simp only [List.length_drop, List.length_take]; rfl)) ?_
  with_reducible refine (impl_within.calls a0_6 32 62 32 t306 _ A7.out).mono ?_
  rintro e w' ⟨rfl, ⟨nd, rfl⟩⟩
  refine ⟨_, rfl, ?_⟩
  refine hK.out _ _ ⟨(blk_cell BK300.out 0).trans rfl, (blk_cell BK300.out 1).trans rfl, (blk_cell BK300.out 2).trans rfl, (blk_cell BK300.out 3).trans rfl, (blk_cell BK300.out 4).trans rfl, (blk_cell BK300.out 5).trans rfl, (blk_cell BK300.out 6).trans rfl⟩ (fun hHeld => ?_)
  clear hK K
  refine norm_ (a' := ?_) ?_ ?_
  rotate_left
  · show Act.put _ (some 21) _ = _
    simp only [Act.put, List.setIfInBounds_toArray, List.set_cons_zero, List.set_cons_succ, i64_w, i32_w]
    rfl
  refine pure_ (i := 18) (N := some 22) (v := ?_) (a' := ?_) #[true, true, true, true, true, true, true, true, true, true, true, true, true, true, true, true, true, true, true, false, false] rfl rfl (any_of HT_.out (by kernel_rfl)) (fun _ _ _ h => h) (Or.inl ⟨by rfl, ?_⟩) ?_ ?_
  rotate_left
  · intro w'
    go_simp
    with_reducible rfl
  rotate_left
  · simp only [Act.put, List.setIfInBounds_toArray, List.set_cons_zero, List.set_cons_succ, i64_w, i32_w]
    rfl
  refine one_ (i := 19) (N := some 23) #[true, true, true, true, true, true, true, true, true, true, true, true, true, true, true, true, true, true, true, true, false] rfl rfl (one_of HT_.out (by kernel_rfl)) (by decide) (fun K hK => ?_)
  refine box_step ?hg (N := 23) ?hd (cs := #[.int .i64 0, .int .i64 t301, .int .i64 t302, .float .f64 t304, .int .i64 t305, .int .i64 t306, .float .f64 t303]) (t := 80) ?hr ?_; (case hd => rfl); (case hg => rfl); (case hr => first | (go_simp; done) | (go_simp; rfl))
  intro gb307 hg w11 hbox hb
  have n0_ := Aside0.mk (blk_below (g := gb300) (o := .cells #[.bool true, .int .i64 a0_1, .int .i64 a0_2, .float .f64 a0_3, .float .f64 a0_4, .int .i64 a0_5, .int .i64 a0_6] 45 (0, 0)) (by (with_reducible repeat (first | refine blk_drewN ?_ _ | refine blk_drew ?_ | refine blk_alloc ?_ _)); exact BK300.out) hb)
  have n1_ := Aside0.mk (below_step (by repeat (first | (with_reducible first | exact HBW.out | apply below_alloc | apply pw_below_drewN | apply below_drew1 | refine below_set ?_ GW300.out) | exact HBW.out)) hb)
  have n2_ := Aside0.mk (below_step (by repeat (first | (with_reducible first | exact HB.out | apply below_alloc | apply pw_below_drewN | apply below_drew1 | refine below_set ?_ GE300.out) | exact HB.out)) hb)
  have n3_ := Aside0.mk (hbox)
  have n4_ := Aside0.mk ((by rw [hg]; exact (below_size (by repeat (first | (with_reducible first | exact HBW.out | apply below_alloc | apply pw_below_drewN | apply below_drew1 | refine below_set ?_ GW300.out) | exact HBW.out))) : w.heap.size ≤ gb307))
  have n5_ := Aside0.mk ((Nat.le_trans HW0.out (by rw [hg]; exact (below_size (by repeat (first | (with_reducible first | exact HBW.out | apply below_alloc | apply pw_below_drewN | apply below_drew1 | refine below_set ?_ GW300.out) | exact HBW.out))) : w.heap.size ≤ gb307) : w0.heap.size ≤ gb307))
  have n6_ := Aside0.mk ((by rw [hg]; exact Nat.ne_of_lt (blk_lt (g := gb300) (o := .cells #[.bool true, .int .i64 a0_1, .int .i64 a0_2, .float .f64 a0_3, .float .f64 a0_4, .int .i64 a0_5, .int .i64 a0_6] 45 (0, 0)) (by (with_reducible repeat (first | refine blk_drewN ?_ _ | refine blk_drew ?_ | refine blk_alloc ?_ _)); exact BK300.out)) : gb300 ≠ gb307))
  have n7_ := Aside0.mk ((by rw [hg]; exact Nat.ne_of_gt (blk_lt (g := gb300) (o := .cells #[.bool true, .int .i64 a0_1, .int .i64 a0_2, .float .f64 a0_3, .float .f64 a0_4, .int .i64 a0_5, .int .i64 a0_6] 45 (0, 0)) (by (with_reducible repeat (first | refine blk_drewN ?_ _ | refine blk_drew ?_ | refine blk_alloc ?_ _)); exact BK300.out)) : gb307 ≠ gb300))
  clear BK300
  clear HBW
  clear HB
  have BK300 := n0_
  have HBW := n1_
  have HB := n2_
  have BK307 := n3_
  have GW307 := n4_
  have GE307 := n5_
  have NB300_307 := n6_
  have NB307_300 := n7_
  clear n0_ n1_ n2_ n3_ n4_ n5_ n6_ n7_
  clear hb hbox hg
  refine hK.out _ _ ⟨(blk_cell BK300.out 0).trans rfl, (blk_cell BK300.out 1).trans rfl, (blk_cell BK300.out 2).trans rfl, (blk_cell BK300.out 3).trans rfl, (blk_cell BK300.out 4).trans rfl, (blk_cell BK300.out 5).trans rfl, (blk_cell BK300.out 6).trans rfl⟩ (fun hHeld => ?_)
  clear hK K
  refine norm_ (a' := ?_) ?_ ?_
  rotate_left
  · show Act.put _ (some 23) _ = _
    simp only [Act.put, List.setIfInBounds_toArray, List.set_cons_zero, List.set_cons_succ, i64_w, i32_w]
    rfl
  refine pure_ (i := 20) (N := some 3) (v := ?_) (a' := ?_) #[true, true, true, true, true, true, true, true, true, true, true, true, true, true, true, true, true, true, true, true, true] rfl rfl (any_of HT_.out (by kernel_rfl)) (fun _ _ _ h => h) (Or.inl ⟨by rfl, ?_⟩) ?_ ?_
  rotate_left
  · intro w'
    go_simp
    with_reducible rfl
  rotate_left
  · simp only [Act.put, List.setIfInBounds_toArray, List.set_cons_zero, List.set_cons_succ, i64_w, i32_w]
    rfl
  refine done_ (done_of HT_.out (by kernel_rfl)) ?_
  have hnb12 := NB300_307.out
  have hnc12 := NB307_300.out
  have hcz13_0 : w11.cell? ⟨gb300, 0, none⟩ = some (.bool true) := (blk_cell BK300.out 0).trans rfl
  have hcz13_1 : w11.cell? ⟨gb300, 1, none⟩ = some (.int .i64 a0_1) := (blk_cell BK300.out 1).trans rfl
  have hcz13_2 : w11.cell? ⟨gb300, 2, none⟩ = some (.int .i64 a0_2) := (blk_cell BK300.out 2).trans rfl
  have hcz13_3 : w11.cell? ⟨gb300, 3, none⟩ = some (.float .f64 a0_3) := (blk_cell BK300.out 3).trans rfl
  have hcz13_4 : w11.cell? ⟨gb300, 4, none⟩ = some (.float .f64 a0_4) := (blk_cell BK300.out 4).trans rfl
  have hcz13_5 : w11.cell? ⟨gb300, 5, none⟩ = some (.int .i64 a0_5) := (blk_cell BK300.out 5).trans rfl
  have hcz13_6 : w11.cell? ⟨gb300, 6, none⟩ = some (.int .i64 a0_6) := (blk_cell BK300.out 6).trans rfl
  have hfz13_0 := blk_frozen BK300.out 0
  have hfz13_1 := blk_frozen BK300.out 1
  have hfz13_2 := blk_frozen BK300.out 2
  have hfz13_3 := blk_frozen BK300.out 3
  have hfz13_4 := blk_frozen BK300.out 4
  have hfz13_5 := blk_frozen BK300.out 5
  have hfz13_6 := blk_frozen BK300.out 6
  have hcz14_0 : w11.cell? ⟨gb307, 0, none⟩ = some (.int .i64 0) := (blk_cell BK307.out 0).trans rfl
  have hcz14_1 : w11.cell? ⟨gb307, 1, none⟩ = some (.int .i64 t301) := (blk_cell BK307.out 1).trans rfl
  have hcz14_2 : w11.cell? ⟨gb307, 2, none⟩ = some (.int .i64 t302) := (blk_cell BK307.out 2).trans rfl
  have hcz14_3 : w11.cell? ⟨gb307, 3, none⟩ = some (.float .f64 t304) := (blk_cell BK307.out 3).trans rfl
  have hcz14_4 : w11.cell? ⟨gb307, 4, none⟩ = some (.int .i64 t305) := (blk_cell BK307.out 4).trans rfl
  have hcz14_5 : w11.cell? ⟨gb307, 5, none⟩ = some (.int .i64 t306) := (blk_cell BK307.out 5).trans rfl
  have hcz14_6 : w11.cell? ⟨gb307, 6, none⟩ = some (.float .f64 t303) := (blk_cell BK307.out 6).trans rfl
  have hfz14_0 := blk_frozen BK307.out 0
  have hfz14_1 := blk_frozen BK307.out 1
  have hfz14_2 := blk_frozen BK307.out 2
  have hfz14_3 := blk_frozen BK307.out 3
  have hfz14_4 := blk_frozen BK307.out 4
  have hfz14_5 := blk_frozen BK307.out 5
  have hfz14_6 := blk_frozen BK307.out 6
  try go_wp2
  go_ret
  exact ⟨_, rfl, (show IsS80 w0 _ gb307 1 t301 t302 t304 t305 t306 t303 from ⟨by (with_reducible repeat (first | refine blk_drewN ?_ _ | refine blk_drew ?_ | refine blk_alloc ?_ _)); refine blk_put (cs := #[.int .i64 0, .int .i64 t301, .int .i64 t302, .float .f64 t304, .int .i64 t305, .int .i64 t306, .float .f64 t303]) ?_ 0 _ rfl; (with_reducible repeat (first | refine blk_drewN ?_ _ | refine blk_drew ?_ | refine blk_alloc ?_ _)); exact BK307.out, GE307.out⟩), by repeat (first | (with_reducible first | exact HB.out | apply below_alloc | apply pw_below_drewN | apply below_drew1 | refine below_set ?_ GE300.out | refine below_set ?_ GE307.out) | exact HB.out), by repeat (first | (with_reducible first | exact HBW.out | apply below_alloc | apply pw_below_drewN | apply below_drew1 | refine below_set ?_ GW300.out | refine below_set ?_ GW307.out) | exact HBW.out)⟩

end Go.Proofs.Ytomidomdomjkfaa.PT
