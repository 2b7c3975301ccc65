/- impl.CommonOverlap tells the greatest number of bytes that end one text and begin the other, for all texts (law FnOverlap). -/
import Derived.Test.YtoafkjeamgelgaaQZz
import Derived.Test.YtoafkjeamgelgaaPTx17
import Derived.Test.YtoafkjeamgelgaaPTx38
import Derived.Test.YtoafkjeamgelgaaPTx51
import Derived.Test.YtoafkjeamgelgaaPTx52
import Derived.Test.YtoafkjeamgelgaaPTx53
import Derived.Test.YtoafkjeamgelgaaPTx54
namespace Go.Proofs.Ytoafkjeamgelgaa.Pure
open Go Go.RowKit Go.Proofs.Ytoafkjeamgelgaa.PT Go.Proofs.YtoafkjeamgelgaaW.PrintWords Go.Proofs.YtoafkjeamgelgaaW.PrintLast
/-- The greatest n up to a bound where p holds; 0 if there is none. -/
def top (p : Nat → Bool) : Nat → Nat
  | 0 => 0
  | n + 1 => if p (n + 1) then n + 1 else top p n
theorem top_none (p : Nat → Bool) (a : Nat) : ∀ d, (∀ j, a < j → j ≤ a + d → p j = false) → top p (a + d) = top p a
  | 0, _ => rfl
  | d + 1, h => by
    have h1 := h (a + d + 1) (by omega) (by omega)
    show (if p (a + d + 1) then a + d + 1 else top p (a + d)) = _
    rw [if_neg (by simp [h1])]
    exact top_none p a d (fun j h2 h3 => h j h2 (by omega))
theorem top_at (p : Nat → Bool) (n : Nat) (h : p (n + 1) = true) : top p (n + 1) = n + 1 := by
  show (if p (n + 1) then n + 1 else top p n) = _
  rw [if_pos h]
/-- The last n of one list are the first n of the other. -/
def ov (x y : List UInt8) (n : Nat) : Bool := decide (x.drop (x.length - n) = y.take n)
theorem spec_l (a b : ByteArray) (ha : a.size ≤ 1000) (hb : b.size ≤ 1000) : ∀ n : Nat, n ≤ a.size → n ≤ b.size → Ev (fun k => spec_Overlap.l0 k a b (n : Int)) (top (ov a.toList b.toList) n : Int)
  | 0, _, _ => by
    refine Ev.step (fun k => by simp only [spec_Overlap.l0]; rfl) ?_
    exact Ev.iteF (by omega) (Ev.now _)
  | n + 1, h1, h2 => by
    have ih := spec_l a b ha hb n (by omega) (by omega)
    refine Ev.step (fun k => by simp only [spec_Overlap.l0]; rfl) ?_
    rw [w64 (n := (a.size : Int) - _) (by omega) (by omega), w64 (n := ((n + 1 : Nat) : Int) - 1) (by omega) (by omega)]
    refine Ev.iteT (by omega) (Ev.iteT (by omega) (Ev.iteT (by omega) (Ev.iteT (by omega) (Ev.iteT (by omega) ?_))))
    have e1 : ((a.size : Int) - ((n + 1 : Nat) : Int)).toNat = a.size - (n + 1) := by omega
    have e2 : (((n + 1 : Nat) : Int)).toNat = n + 1 := by omega
    have e3 : ((n + 1 : Nat) : Int) - 1 = (n : Int) := by omega
    rw [e1, e2, e3, ext_list, ext_list, List.drop_zero, List.take_of_length_le (l := a.toList) (by rw [list_size]; omega)]
    unfold top
    by_cases c : a.toList.drop (a.size - (n + 1)) = b.toList.take (n + 1)
    · have hc : ov a.toList b.toList (n + 1) = true := by unfold ov; rw [list_size]; exact decide_eq_true c
      rw [if_pos hc]; exact Ev.iteT c (Ev.now _)
    · have hc : ¬ ov a.toList b.toList (n + 1) = true := by unfold ov; rw [list_size]; simpa using c
      rw [if_neg hc]; exact Ev.iteF c ih
theorem spec_ev (a b : ByteArray) (ha : a.size ≤ 1000) (hb : b.size ≤ 1000) : Ev (fun k => spec_Overlap.f k a b) (top (ov a.toList b.toList) (min a.size b.size) : Int) := by
  unfold spec_Overlap.f
  have e : mn (a.size : Int) (b.size : Int) = ((min a.size b.size : Nat) : Int) := by unfold mn; split <;> omega
  rw [e]
  exact spec_l a b ha hb _ (by omega) (by omega)
/-- Where the last n bytes of x first stand in y no greater overlap begins. -/
theorem none_between (x y : List UInt8) (hxy : x.length = y.length) (n f : Nat) (hn : n ≤ x.length) (hnone : ∀ j, j < f → ¬ (y.take (j + n)).drop j = x.drop (x.length - n)) : ∀ k, n ≤ k → k < n + f → k ≤ x.length → ov x y k = false := by
  intro k h1 h2 h3
  unfold ov
  apply decide_eq_false
  intro h
  refine hnone (k - n) (by omega) ?_
  have e : k - n + n = k := by omega
  rw [e, ← h, List.drop_drop]
  congr 1; omega
abbrev St := Int × Int × Int × Nat × Int × Int × Nat
theorem loop_l (x y : ByteArray) (T : Nat) (hx : x.size = T) (hy : y.size = T) (hT : T ≤ 1000) (hne : ¬ x.toList = y.toList) (s0 s1 s2 : Int) (s3 : Nat) (s4 s5 : Int) (s6 : Nat) : ∀ (d n best : Nat), T - n = d → 1 ≤ n → n ≤ T → best = top (ov x.toList y.toList) (n - 1) →
    Ev (fun k => diffmatchpatch_DiffMatchPatch_DiffCommonOverlap.l0 k x y (T : Int) (best : Int) (n : Int) s0 s1 s2 s3 s4 s5 s6) ((top (ov x.toList y.toList) T : Int), s0, s1, s2, s3, s4, s5, s6)
  | d, n, best, hd, h1, h2, hbest => by
    have lx : x.toList.length = T := by rw [list_size, hx]
    have ly : y.toList.length = T := by rw [list_size, hy]
    have full : ov x.toList y.toList T = false := by
      unfold ov
      apply decide_eq_false
      intro h
      rw [lx, Nat.sub_self, List.drop_zero, List.take_of_length_le (by omega)] at h
      exact hne h
    refine Ev.step (fun k => by simp only [diffmatchpatch_DiffMatchPatch_DiffCommonOverlap.l0]; rfl) ?_
    rw [w64 (n := (T : Int) - (n : Int)) (by omega) (by omega)]
    refine Ev.iteT (by omega) (Ev.iteT (by omega) ?_)
    have e1 : ((T : Int) - (n : Int)).toNat = T - n := by omega
    rw [e1]
    have sz : (x.extract (T - n) x.size).size = n := by rw [ByteArray.size_extract]; omega
    have pl : (x.extract (T - n) x.size).toList = x.toList.drop (T - n) := by rw [ext_list, List.take_of_length_le (by omega)]
    refine Ev.bind (zz_ev y _ (by omega) (by omega)) ?_
    rw [sz, hy]
    have mtj : ∀ j, mtch y (x.extract (T - n) x.size) j = decide ((y.toList.take (j + n)).drop j = x.toList.drop (T - n)) := by
      intro j; unfold mtch; rw [sz, pl, ext_list]
    generalize hf : ffrom (mtch y (x.extract (T - n) x.size)) (T + 1 - n) 0 = f
    by_cases c1 : f = -1
    · refine Ev.iteT c1 ?_
      rw [c1] at hf
      have hn := ffrom_none _ _ _ hf
      have hno : top (ov x.toList y.toList) T = best := by
        have e : T = n - 1 + (T - (n - 1)) := by omega
        rw [e, hbest]
        refine top_none _ _ _ (fun j h3 h4 => ?_)
        refine none_between x.toList y.toList (by omega) n (T + 1 - n) (by omega) (fun i hi => ?_) j (by omega) (by omega) (by omega)
        have := hn i (by omega) (by omega)
        rw [mtj] at this
        rw [lx]
        exact of_decide_eq_false this
      rw [hno]; exact Ev.now _
    have rg := ffrom_range (mtch y (x.extract (T - n) x.size)) (T + 1 - n) 0
    rw [hf] at rg
    obtain ⟨m, rfl⟩ : ∃ m : Nat, f = (m : Int) := ⟨f.toNat, by omega⟩
    obtain ⟨_, g2, g3, g4⟩ := ffrom_some _ _ _ _ hf
    have hno : ∀ k, n ≤ k → k < n + m → ov x.toList y.toList k = false := by
      intro k h3 h4
      refine none_between x.toList y.toList (by omega) n m (by omega) (fun i hi => ?_) k h3 h4 (by omega)
      have := g4 i (by omega) hi
      rw [mtj] at this
      rw [lx]
      exact of_decide_eq_false this
    have hbm : best = top (ov x.toList y.toList) (n + m - 1) := by
      have e : n + m - 1 = n - 1 + m := by omega
      rw [e, hbest]
      exact (top_none _ _ _ (fun j h3 h4 => hno j (by omega) (by omega))).symm
    refine Ev.iteF c1 ?_
    rw [w64 (n := (n : Int) + (m : Int)) (by omega) (by omega)]
    have e2 : ((n : Int) + (m : Int)) = ((n + m : Nat) : Int) := by omega
    rw [e2, w64 (n := ((n + m : Nat) : Int) + 1) (by omega) (by omega), w64 (n := (T : Int) - ((n + m : Nat) : Int)) (by omega) (by omega)]
    have e3 : (((n + m : Nat) : Int) + 1) = ((n + m + 1 : Nat) : Int) := by omega
    have again : ov x.toList y.toList (n + m) = true → Ev (fun k => diffmatchpatch_DiffMatchPatch_DiffCommonOverlap.l0 k x y (T : Int) ((n + m : Nat) : Int) ((n + m + 1 : Nat) : Int) s0 s1 s2 s3 s4 s5 s6) ((top (ov x.toList y.toList) T : Int), s0, s1, s2, s3, s4, s5, s6) := by
      intro hm
      have hlt : n + m < T := by
        rcases Nat.lt_or_ge (n + m) T with h | h
        · exact h
        · have : n + m = T := by omega
          rw [this, full] at hm; simp at hm
      refine loop_l x y T hx hy hT hne s0 s1 s2 s3 s4 s5 s6 (T - (n + m + 1)) (n + m + 1) (n + m) rfl (by omega) (by omega) ?_
      obtain ⟨q, hq⟩ : ∃ q, n + m = q + 1 := ⟨n + m - 1, by omega⟩
      rw [hq, Nat.add_sub_cancel, top_at _ _ (hq ▸ hm)]
    rw [e3]
    by_cases c2 : (m : Int) = 0
    · refine Ev.iteT c2 (again ?_)
      obtain rfl : m = 0 := by omega
      rw [mtj] at g3
      have := of_decide_eq_true g3
      unfold ov
      rw [lx]
      refine decide_eq_true ?_
      simpa using this.symm
    · have e4 : ((T : Int) - ((n + m : Nat) : Int)).toNat = T - (n + m) := by omega
      have e5 : (((n + m : Nat) : Int)).toNat = n + m := by omega
      refine Ev.iteF c2 (Ev.iteT (by omega) (Ev.iteT (by omega) (Ev.iteT (by omega) (Ev.iteT (by omega) ?_))))
      rw [e4, e5, ext_list, ext_list, List.drop_zero, List.take_of_length_le (l := x.toList) (by omega)]
      by_cases c3 : x.toList.drop (T - (n + m)) = y.toList.take (n + m)
      · refine Ev.iteT c3 (again ?_)
        unfold ov
        rw [lx]
        exact decide_eq_true c3
      · refine Ev.iteF c3 ?_
        exact loop_l x y T hx hy hT hne s0 s1 s2 s3 s4 s5 s6 (T - (n + m)) (n + m) best rfl (by omega) (by omega) hbm
termination_by d => d
theorem small_min : ((List.range 81).all fun i => (List.range 81).all fun j => floatToIntVal .f64 (fMin (floatOfInt .f64 (i : Int)) (floatOfInt .f64 (j : Int))) .i64 == some ((min i j : Nat) : Int)) = true := by decide +kernel
theorem min_ok (i j : Nat) (hi : i ≤ 80) (hj : j ≤ 80) : floatToIntVal .f64 (fMin (floatOfInt .f64 (i : Int)) (floatOfInt .f64 (j : Int))) .i64 = some ((min i j : Nat) : Int) := by
  have h := List.all_eq_true.1 small_min i (List.mem_range.2 (by omega))
  have h2 := List.all_eq_true.1 h j (List.mem_range.2 (by omega))
  simpa using h2
theorem j1_ev (x y : ByteArray) (n m T : Nat) (hn : n ≤ 80) (hm : m ≤ 80) (hT : T = min n m) (h1 : 1 ≤ T) (hx : x.size = T) (hy : y.size = T) (s0 s1 s2 : Int) (s3 : Nat) (s4 s5 : Int) (s6 : Nat) :
    Ev (fun k => diffmatchpatch_DiffMatchPatch_DiffCommonOverlap.j1 k x y (n : Int) (m : Int) s0 s1 s2 s3 s4 s5 s6) ((top (ov x.toList y.toList) T : Int), s0, s1, s2, s3, s4, s5, s6) := by
  refine Ev.step (fun k => by simp only [diffmatchpatch_DiffMatchPatch_DiffCommonOverlap.j1]; rfl) ?_
  refine Ev.bindC rfl (Ev.bindC (min_ok n m hn hm) ?_)
  rw [← hT]
  by_cases c : x.toList = y.toList
  · refine Ev.iteT c ?_
    have hov : ov x.toList y.toList T = true := by
      unfold ov
      rw [list_size, hx, Nat.sub_self, List.drop_zero, List.take_of_length_le (by rw [list_size]; omega)]
      exact decide_eq_true c
    obtain ⟨q, rfl⟩ : ∃ q, T = q + 1 := ⟨T - 1, by omega⟩
    rw [top_at _ _ hov]; exact Ev.now _
  · refine Ev.iteF c ?_
    exact loop_l x y T hx hy (by omega) c s0 s1 s2 s3 s4 s5 s6 _ 1 0 rfl (by omega) (by omega) rfl
theorem top_congr (p q : Nat → Bool) : ∀ n, (∀ j, 1 ≤ j → j ≤ n → p j = q j) → top p n = top q n
  | 0, _ => rfl
  | n + 1, h => by
    unfold top
    rw [h (n + 1) (by omega) (by omega), top_congr p q n (fun j h1 h2 => h j h1 (by omega))]
theorem top_zero (p : Nat → Bool) : top p 0 = 0 := rfl
theorem implOverlap_ev (a b : ByteArray) (ha : a.size ≤ 80) (hb : b.size ≤ 80) : Ev (fun k => impl_CommonOverlap.f k a b) (top (ov a.toList b.toList) (min a.size b.size) : Int) := by
  unfold impl_CommonOverlap.f diffmatchpatch_New.f
  refine Ev.bindC rfl ?_
  refine Ev.bind (a := ((top (ov a.toList b.toList) (min a.size b.size) : Int), 1000000000, 4, 1000, 4602678819172646912, 4, 32, 4602678819172646912)) ?_ (Ev.now _)
  show Ev (fun k => diffmatchpatch_DiffMatchPatch_DiffCommonOverlap.f k 1000000000 4 1000 4602678819172646912 4 32 4602678819172646912 a b) _
  unfold diffmatchpatch_DiffMatchPatch_DiffCommonOverlap.f
  have zero : min a.size b.size = 0 → Ev (fun k => diffmatchpatch_DiffMatchPatch_DiffCommonOverlap.j0 k a b (a.size : Int) (b.size : Int) true 1000000000 4 1000 4602678819172646912 4 32 4602678819172646912) ((top (ov a.toList b.toList) (min a.size b.size) : Int), 1000000000, 4, 1000, 4602678819172646912, 4, 32, 4602678819172646912) := by
    intro h
    rw [h]
    refine Ev.step (fun k => by simp only [diffmatchpatch_DiffMatchPatch_DiffCommonOverlap.j0]; rfl) ?_
    exact Ev.iteT (by simp) (Ev.now _)
  by_cases c1 : (a.size : Int) = 0
  · exact Ev.iteT c1 (zero (by omega))
  refine Ev.iteF c1 ?_
  by_cases c2 : (b.size : Int) = 0
  · have : ((b.size : Int) == 0) = true := by simpa using c2
    rw [this]; exact zero (by omega)
  have : ((b.size : Int) == 0) = false := by simpa using c2
  rw [this]
  refine Ev.step (fun k => by simp only [diffmatchpatch_DiffMatchPatch_DiffCommonOverlap.j0]; rfl) ?_
  refine Ev.iteF (by simp) ?_
  have la : a.toList.length = a.size := list_size a
  have lb : b.toList.length = b.size := list_size b
  by_cases c3 : (a.size : Int) > (b.size : Int)
  · rw [w64 (by omega) (by omega)]
    have e1 : ((a.size : Int) - (b.size : Int)).toNat = a.size - b.size := by omega
    refine Ev.iteT c3 (Ev.iteT (by omega) (Ev.iteT (by omega) ?_))
    rw [e1]
    have hs : (a.extract (a.size - b.size) a.size).size = b.size := by rw [ByteArray.size_extract]; omega
    have hj := j1_ev (a.extract (a.size - b.size) a.size) b a.size b.size b.size ha hb (by omega) (by omega) hs rfl 1000000000 4 1000 4602678819172646912 4 32 4602678819172646912
    have ht : top (ov (a.extract (a.size - b.size) a.size).toList b.toList) b.size = top (ov a.toList b.toList) (min a.size b.size) := by
      have em : min a.size b.size = b.size := by omega
      rw [em]
      refine top_congr _ _ _ (fun j h1 h2 => ?_)
      unfold ov
      rw [list_size, hs, ext_list, List.take_of_length_le (l := a.toList) (by omega), List.drop_drop, la]
      have : a.size - b.size + (b.size - j) = a.size - j := by omega
      rw [this]
    rw [ht] at hj; exact hj
  refine Ev.iteF c3 ?_
  by_cases c4 : (a.size : Int) < (b.size : Int)
  · refine Ev.iteT c4 (Ev.iteT (by omega) (Ev.iteT (by omega) ?_))
    rw [Int.toNat_natCast]
    have hs : (b.extract 0 a.size).size = a.size := by rw [ByteArray.size_extract]; omega
    have hj := j1_ev a (b.extract 0 a.size) a.size b.size a.size ha hb (by omega) (by omega) rfl hs 1000000000 4 1000 4602678819172646912 4 32 4602678819172646912
    have ht : top (ov a.toList (b.extract 0 a.size).toList) a.size = top (ov a.toList b.toList) (min a.size b.size) := by
      have em : min a.size b.size = a.size := by omega
      rw [em]
      refine top_congr _ _ _ (fun j h1 h2 => ?_)
      unfold ov
      rw [ext_list, List.drop_zero, List.take_take, Nat.min_eq_left h2]
    rw [ht] at hj; exact hj
  · refine Ev.iteF c4 ?_
    have em : min a.size b.size = a.size := by omega
    rw [em]
    exact j1_ev a b a.size b.size a.size ha hb (by omega) (by omega) rfl (by omega) 1000000000 4 1000 4602678819172646912 4 32 4602678819172646912
theorem ascii40 (x : List Int) (hx : x.length ≤ 2147483647) : ∃ r : ByteArray, r.size ≤ 40 ∧ Ev (fun k => laws_dfAscii.f k x 40) r := ascii_l x hx 40 (by omega) _ 0 [] rfl rfl (by omega)
theorem FnOverlap : laws_FnOverlap.Pure := by
  intro a b c _ _ _ _ _ _ _ _ _
  refine Ev.rounds ?_
  unfold laws_FnOverlap.f
  have skip : Ev (fun k => laws_FnOverlap.j0 k a b c true) true := by
    refine Ev.step (fun k => by simp only [laws_FnOverlap.j0]; rfl) ?_
    exact Ev.iteT (by simp) (Ev.now _)
  by_cases h1 : (a.length : Int) > 2147483647
  · exact Ev.iteT h1 skip
  refine Ev.iteF h1 ?_
  by_cases h2 : (b.length : Int) > 2147483647
  · exact Ev.iteT h2 skip
  refine Ev.iteF h2 ?_
  by_cases h3 : (c.length : Int) > 2147483647
  · rw [decide_eq_true h3]; exact skip
  rw [decide_eq_false h3]
  refine Ev.step (fun k => by simp only [laws_FnOverlap.j0]; rfl) ?_
  refine Ev.iteF (by simp) ?_
  obtain ⟨r, hr, er⟩ := ascii40 a (by omega)
  obtain ⟨s, hs, es⟩ := ascii40 b (by omega)
  obtain ⟨t, ht, et⟩ := ascii40 c (by omega)
  refine Ev.bind er (Ev.bind es (Ev.iteT (by omega) (Ev.bind es (Ev.bind et (Ev.iteT (by omega) ?_)))))
  have z1 : (r ++ s).size ≤ 80 := by rw [ByteArray.size_append]; omega
  have z2 : (s ++ t).size ≤ 80 := by rw [ByteArray.size_append]; omega
  refine Ev.bind (implOverlap_ev _ _ z1 z2) (Ev.bind (spec_ev _ _ (by omega) (by omega)) (Ev.iteT rfl ?_))
  refine Ev.bind (implOverlap_ev _ _ (by decide) (by decide)) ?_
  exact Ev.const (by
    have e : top (ov (⟨#[97, 98]⟩ : ByteArray).toList (⟨#[98, 99]⟩ : ByteArray).toList) (min (⟨#[97, 98]⟩ : ByteArray).size (⟨#[98, 99]⟩ : ByteArray).size) = 1 := by
      rw [ByteArray.toList_eq, ByteArray.toList_eq]; decide
    rw [e]; rfl)
end Go.Proofs.Ytoafkjeamgelgaa.Pure
