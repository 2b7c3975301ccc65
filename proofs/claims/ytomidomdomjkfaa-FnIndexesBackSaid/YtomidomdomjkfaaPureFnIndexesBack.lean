/- A row of indexes that was written as text is read back as it was, for all rows (law FnIndexesBack). -/
import Derived.Test.YtomidomdomjkfaaQUtf
import Derived.Test.YtomidomdomjkfaaQLists
import Derived.Test.YtomidomdomjkfaaPTx35
import Derived.Test.YtomidomdomjkfaaPTx36
import Derived.Test.YtomidomdomjkfaaPTx37
import Derived.Test.YtomidomdomjkfaaPTx38
import Derived.Test.YtomidomdomjkfaaPTx39
import Derived.Test.YtomidomdomjkfaaPTx40
import Derived.Test.YtomidomdomjkfaaPTx41
namespace Go.Proofs.Ytomidomdomjkfaa.Pure
open Go Go.RowKit Go.Proofs.Ytomidomdomjkfaa.PT Go.Proofs.YtomidomdomjkfaaW.PrintWords Go.Proofs.YtomidomdomjkfaaW.PrintLast
def toI (r : Int) : Int := if r < 57344 then r % 4294967296 else ((r % 4294967296) - 2048) % 4294967296
def ofI (i : Int) : Int := if i < 55296 then wrap32 i else wrap32 ((i + 2048) % 4294967296)
theorem stringToIndex_l (xs : List Int) (hx : xs.length ≤ 9223372036854775806) : ∀ (d n : Nat), xs.length - n = d → n ≤ xs.length → Ev (fun k => diffmatchpatch_stringToIndex.l0 k ((xs.take n).map toI ++ List.replicate (xs.length - n) 0) xs (xs.length : Int) (n : Int)) (xs.map toI)
  | 0, n, hd, hn => by
    refine Ev.step (fun k => by simp only [diffmatchpatch_stringToIndex.l0]; rfl) ?_
    refine Ev.iteF (by omega) ?_
    have e : n = xs.length := by omega
    subst e
    simp
    exact Ev.now _
  | d + 1, n, hd, hn => by
    refine Ev.step (fun k => by simp only [diffmatchpatch_stringToIndex.l0]; rfl) ?_
    have h : n < xs.length := by omega
    have ih := stringToIndex_l xs hx d (n + 1) (by omega) (by omega)
    have hl : ((xs.take n).map toI ++ List.replicate (xs.length - n) 0).length = xs.length := by simp; omega
    refine Ev.iteT (by omega) (Ev.iteT (by omega) (Ev.iteT (by omega) ?_))
    rw [rd_at, w64 (by omega) (by omega)]
    have e1 : ((n : Int) + 1) = ((n + 1 : Nat) : Int) := by omega
    have e2 : (n : Int).toNat = n := by omega
    rw [e1, e2]
    have s := set_fill xs toI n h
    by_cases c : xs.getD n 0 < 57344
    · refine Ev.iteT c (Ev.iteT (by omega) ?_)
      have : toI (xs.getD n 0) = xs.getD n 0 % 4294967296 := by simp only [toI, if_pos c]
      rw [← this, s]; exact ih
    · refine Ev.iteF c (Ev.iteT (by omega) ?_)
      have : toI (xs.getD n 0) = (xs.getD n 0 % 4294967296 - 2048) % 4294967296 := by simp only [toI, if_neg c]
      rw [← this, s]; exact ih
theorem stringToIndex_ev (s : ByteArray) (h : s.size ≤ 70368744177664) : Ev (fun k => diffmatchpatch_stringToIndex.f k s) ((runesOf s).map toI) := by
  have hl := runesOf_length s
  unfold diffmatchpatch_stringToIndex.f
  refine Ev.iteT h (Ev.bindC rfl (Ev.iteT (by omega) (Ev.iteT (by omega) ?_)))
  have := stringToIndex_l (runesOf s) (by omega) _ 0 rfl (by omega)
  simpa using this
theorem toIndexes_l (xs : List Int) (hx : xs.length ≤ 35184372088832) : ∀ (d n : Nat), xs.length - n = d → n ≤ xs.length → Ev (fun k => diffmatchpatch_ZzToIndexes.l0 k (xs.take n) xs (xs.length : Int) (n : Int)) xs
  | 0, n, hd, hn => by
    refine Ev.step (fun k => by simp only [diffmatchpatch_ZzToIndexes.l0]; rfl) ?_
    refine Ev.iteF (by omega) ?_
    have e : n = xs.length := by omega
    subst e
    simp
    exact Ev.now _
  | d + 1, n, hd, hn => by
    refine Ev.step (fun k => by simp only [diffmatchpatch_ZzToIndexes.l0]; rfl) ?_
    have h : n < xs.length := by omega
    have ih := toIndexes_l xs hx d (n + 1) (by omega) (by omega)
    refine Ev.iteT (by omega) (Ev.iteT (by omega) (Ev.iteT (by omega) (Ev.iteT (by simp; omega) ?_)))
    rw [rd_at, w64 (by omega) (by omega), ← take_succ_at xs 0 n h]
    have e1 : ((n : Int) + 1) = ((n + 1 : Nat) : Int) := by omega
    rw [e1]; exact ih
theorem toIndexes_ev (s : ByteArray) (h : s.size ≤ 35184372088832) : Ev (fun k => impl_TextToIndexes.f k s) ((runesOf s).map toI) := by
  have hl := runesOf_length s
  unfold impl_TextToIndexes.f diffmatchpatch_ZzToIndexes.f
  refine Ev.bind (Ev.bind (stringToIndex_ev s (by omega)) ?_) (Ev.now _)
  have := toIndexes_l ((runesOf s).map toI) (by simp; omega) _ 0 rfl (by omega)
  simpa using this
theorem toString_l (xs : List Int) (hx : xs.length ≤ 9223372036854775806) : ∀ (d n : Nat), xs.length - n = d → n ≤ xs.length → Ev (fun k => diffmatchpatch_indexesToString.l0 k ((xs.take n).map ofI ++ List.replicate (xs.length - n) 0) xs (xs.length : Int) (n : Int)) (runesBytes (xs.map ofI))
  | 0, n, hd, hn => by
    refine Ev.step (fun k => by simp only [diffmatchpatch_indexesToString.l0]; rfl) ?_
    refine Ev.iteF (by omega) ?_
    have e : n = xs.length := by omega
    subst e
    simp
    exact Ev.now _
  | d + 1, n, hd, hn => by
    refine Ev.step (fun k => by simp only [diffmatchpatch_indexesToString.l0]; rfl) ?_
    have h : n < xs.length := by omega
    have ih := toString_l xs hx d (n + 1) (by omega) (by omega)
    have hl : ((xs.take n).map ofI ++ List.replicate (xs.length - n) 0).length = xs.length := by simp; omega
    refine Ev.iteT (by omega) (Ev.iteT (by omega) (Ev.iteT (by omega) ?_))
    rw [rd_at, w64 (by omega) (by omega)]
    have e1 : ((n : Int) + 1) = ((n + 1 : Nat) : Int) := by omega
    have e2 : (n : Int).toNat = n := by omega
    rw [e1, e2]
    have s := set_fill xs ofI n h
    by_cases c : xs.getD n 0 < 55296
    · refine Ev.iteT c (Ev.iteT (by omega) ?_)
      have : ofI (xs.getD n 0) = wrap32 (xs.getD n 0) := by simp only [ofI, if_pos c]
      rw [← this, s]; exact ih
    · refine Ev.iteF c (Ev.iteT (by omega) ?_)
      have : ofI (xs.getD n 0) = wrap32 ((xs.getD n 0 + 2048) % 4294967296) := by simp only [ofI, if_neg c]
      rw [← this, s]; exact ih
theorem fromIndexes_l (xs : List Int) (hx : xs.length ≤ 35184372088832) : ∀ (d n : Nat), xs.length - n = d → n ≤ xs.length → Ev (fun k => diffmatchpatch_ZzFromIndexes.l0 k (xs.take n) xs (xs.length : Int) (n : Int)) (runesBytes (xs.map ofI))
  | 0, n, hd, hn => by
    refine Ev.step (fun k => by simp only [diffmatchpatch_ZzFromIndexes.l0]; rfl) ?_
    refine Ev.iteF (by omega) ?_
    have e : n = xs.length := by omega
    subst e
    refine Ev.bind ?_ (Ev.now _)
    rw [List.take_length]
    unfold diffmatchpatch_indexesToString.f
    refine Ev.iteT (by omega) (Ev.iteT (by omega) ?_)
    have := toString_l xs (by omega) _ 0 rfl (by omega)
    simpa using this
  | d + 1, n, hd, hn => by
    refine Ev.step (fun k => by simp only [diffmatchpatch_ZzFromIndexes.l0]; rfl) ?_
    have h : n < xs.length := by omega
    have ih := fromIndexes_l xs hx d (n + 1) (by omega) (by omega)
    refine Ev.iteT (by omega) (Ev.iteT (by omega) (Ev.iteT (by omega) (Ev.iteT (by simp; omega) ?_)))
    rw [rd_at, w64 (by omega) (by omega), ← take_succ_at xs 0 n h]
    have e1 : ((n : Int) + 1) = ((n + 1 : Nat) : Int) := by omega
    rw [e1]; exact ih
theorem fromIndexes_ev (xs : List Int) (h : xs.length ≤ 35184372088832) : Ev (fun k => impl_IndexesToText.f k xs) (runesBytes (xs.map ofI)) := by
  unfold impl_IndexesToText.f diffmatchpatch_ZzFromIndexes.f
  have := fromIndexes_l xs h _ 0 rfl (by omega)
  exact Ev.bind (by simpa using this) (Ev.now _)
theorem ofI_valid (x : Int) (h0 : 0 ≤ x) (h1 : x < 1110016) : Utf8.valid (ofI x) = true := by
  unfold ofI; split
  · rw [w32 (by omega) (by omega)]; simp [Utf8.valid]; omega
  · rw [w32 (by omega) (by omega)]; simp [Utf8.valid]; omega
theorem toI_ofI (x : Int) (h0 : 0 ≤ x) (h1 : x < 1110016) : toI (ofI x) = x := by
  unfold ofI; split
  · rw [w32 (by omega) (by omega)]; unfold toI; split <;> omega
  · rw [w32 (by omega) (by omega)]; unfold toI; split <;> omega
theorem same_l (x : List Int) (hx : x.length ≤ 9223372036854775806) : ∀ (d n : Nat), x.length - n = d → n ≤ x.length → Ev (fun k => laws_FnIndexesBack.l1 k x x (x.length : Int) (n : Int)) true
  | 0, n, hd, hn => by
    refine Ev.step (fun k => by simp only [laws_FnIndexesBack.l1]; rfl) ?_
    exact Ev.iteF (by omega) (Ev.now _)
  | d + 1, n, hd, hn => by
    refine Ev.step (fun k => by simp only [laws_FnIndexesBack.l1]; rfl) ?_
    have ih := same_l x hx d (n + 1) (by omega) (by omega)
    refine Ev.iteT (by omega) (Ev.iteT (by omega) (Ev.iteT (by omega) (Ev.iteT (by omega) (Ev.iteT trivial ?_))))
    rw [w64 (by omega) (by omega)]
    have e1 : ((n : Int) + 1) = ((n + 1 : Nat) : Int) := by omega
    rw [e1]; exact ih
theorem tail_ev (xs : List Int) (hl : xs.length ≤ 60) (hx : ∀ x ∈ xs, 0 ≤ x ∧ x < 1110016) : Ev (fun k => laws_FnIndexesBack.j1 k xs) true := by
  refine Ev.step (fun k => by simp only [laws_FnIndexesBack.j1]; rfl) ?_
  have hv : Valids (xs.map ofI) := by
    intro y hy
    obtain ⟨x, h, rfl⟩ := List.mem_map.1 hy
    exact ofI_valid x (hx x h).1 (hx x h).2
  have back : (runesOf (runesBytes (xs.map ofI))).map toI = xs := by
    rw [runes_back _ hv, List.map_map]
    conv => rhs; rw [← List.map_id xs]
    exact List.map_congr_left (fun x h => toI_ofI x (hx x h).1 (hx x h).2)
  have hs := runesBytes_size (xs.map ofI)
  rw [List.length_map] at hs
  refine Ev.bind (fromIndexes_ev xs (by omega)) ?_
  refine Ev.bind (toIndexes_ev _ (by omega)) ?_
  rw [back]
  refine Ev.iteT rfl ?_
  refine Ev.bind (toIndexes_ev _ (by decide)) ?_
  have two : (List.map toI (runesOf ⟨#[97, 98]⟩)).length = 2 := by decide +kernel
  rw [two]
  refine Ev.step (fun k => by simp only [laws_FnIndexesBack.j2]; rfl) ?_
  refine Ev.iteF (by decide) ?_
  exact same_l xs (by omega) _ 0 rfl (by omega)
theorem build_l (xs : List Int) (hx : ∀ x ∈ xs, 0 ≤ x) : ∀ (d n : Nat), 60 - n = d → n ≤ xs.length → n ≤ 60 → Ev (fun k => laws_FnIndexesBack.l0 k xs ((xs.take n).map (fun x => Int.tmod x 1110016)) (n : Int)) true
  | d, n, hd, hn, h60 => by
    have done : Ev (fun k => laws_FnIndexesBack.j1 k ((xs.take n).map (fun x => Int.tmod x 1110016))) true := by
      refine tail_ev _ (by simp; omega) ?_
      intro y hy
      obtain ⟨x, h, rfl⟩ := List.mem_map.1 hy
      have := hx x (List.mem_of_mem_take h)
      rw [Int.tmod_eq_emod_of_nonneg this]
      omega
    refine Ev.step (fun k => by simp only [laws_FnIndexesBack.l0]; rfl) ?_
    by_cases h : n < xs.length
    · refine Ev.iteT (by omega) ?_
      by_cases h2 : n < 60
      · refine Ev.iteT (by omega) (Ev.iteT (by omega) (Ev.iteT (by simp; omega) ?_))
        have ih := build_l xs hx (d - 1) (n + 1) (by omega) (by omega) (by omega)
        rw [rd_at, w64 (by omega) (by omega)]
        have e1 : ((n : Int) + 1) = ((n + 1 : Nat) : Int) := by omega
        rw [take_succ_at xs 0 n h, List.map_append] at ih
        rw [e1]; exact ih
      · exact Ev.iteF (by omega) done
    · exact Ev.iteF (by omega) done
termination_by d => d
theorem FnIndexesBack : laws_FnIndexesBack.Pure := by
  intro l _ _ hw
  refine Ev.rounds ?_
  unfold laws_FnIndexesBack.f
  by_cases h1 : (l.length : Int) > 2147483647
  · exact Ev.iteT h1 (Ev.now _)
  refine Ev.iteF h1 ?_
  have := build_l l (fun x h => (wf_u32 (hw x h)).1) 60 0 rfl (by omega) (by omega)
  simpa using this
end Go.Proofs.Ytomidomdomjkfaa.Pure
