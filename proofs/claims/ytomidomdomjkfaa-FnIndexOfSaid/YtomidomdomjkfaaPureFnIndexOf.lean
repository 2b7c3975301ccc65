/- impl.IndexOf tells the first place of a pattern from a given place on, for all texts (law FnIndexOf). -/
import Derived.Test.YtomidomdomjkfaaQLists
import Derived.Test.YtomidomdomjkfaaPTx2
import Derived.Test.YtomidomdomjkfaaPTx3
import Derived.Test.YtomidomdomjkfaaPTx4
import Derived.Test.YtomidomdomjkfaaPTx5
import Derived.Test.YtomidomdomjkfaaPTx6
import Derived.Test.YtomidomdomjkfaaPTx7
namespace Go.Proofs.Ytomidomdomjkfaa.Pure
open Go Go.RowKit Go.Proofs.Ytomidomdomjkfaa.PT Go.Proofs.YtomidomdomjkfaaW.PrintWords Go.Proofs.YtomidomdomjkfaaW.PrintLast
def mt (a b : ByteArray) (j : Nat) : Bool := decide ((a.extract j (j + b.size)).toList = b.toList)
theorem zz_l (a b : ByteArray) (ha : a.size ≤ 1000000) (hb : b.size ≤ 1000000) : ∀ (d n : Nat), a.size + 1 - n = d → n ≤ a.size + 1 → Ev (fun k => diffmatchpatch_zzIndex.l0 k a b (n : Int)) (ffrom (mt a b) (a.size + 1 - b.size - n) n)
  | d, n, hd, hn => by
    refine Ev.step (fun k => by simp only [diffmatchpatch_zzIndex.l0]; rfl) ?_
    rw [w64 (by omega) (by omega)]
    by_cases h : n + b.size ≤ a.size
    · have e2 : (((n : Int) + (b.size : Int)) : Int).toNat = n + b.size := by omega
      have e3 : a.size + 1 - b.size - n = (a.size + 1 - b.size - (n + 1)) + 1 := by omega
      refine Ev.iteT (by omega) (Ev.iteT (by omega) (Ev.iteT (by omega) ?_))
      rw [e2, e3, Int.toNat_natCast]
      unfold ffrom
      by_cases c : (a.extract n (n + b.size)).toList = b.toList
      · have hc : mt a b n = true := by simp [mt, c]
        rw [if_pos hc]; exact Ev.iteT c (Ev.now _)
      · have hc : ¬ mt a b n = true := by simp [mt, c]
        rw [if_neg hc]; refine Ev.iteF c ?_
        have ih := zz_l a b ha hb (d - 1) (n + 1) (by omega) (by omega)
        rw [w64 (by omega) (by omega)]
        have e1 : ((n : Int) + 1) = ((n + 1 : Nat) : Int) := by omega
        rw [e1]; exact ih
    · have e : a.size + 1 - b.size - n = 0 := by omega
      rw [e]
      exact Ev.iteF (by omega) (Ev.now _)
termination_by d => d
theorem zz_ev (a b : ByteArray) (ha : a.size ≤ 1000000) (hb : b.size ≤ 1000000) : Ev (fun k => diffmatchpatch_zzIndex.f k a b) (ffrom (mt a b) (a.size + 1 - b.size) 0) := by
  unfold diffmatchpatch_zzIndex.f
  have := zz_l a b ha hb _ 0 rfl (by omega)
  simpa using this
theorem implIndexOf_ev (a b : ByteArray) (loc : Int) (ha : a.size ≤ 1000000) (hb : b.size ≤ 1000000) (hb1 : 1 ≤ b.size) (h0 : -1000000 ≤ loc) (h1 : loc ≤ 2000000) : Ev (fun k => impl_IndexOf.f k a b loc) (ffrom (mt a b) (a.size + 1 - b.size - loc.toNat) loc.toNat) := by
  unfold impl_IndexOf.f diffmatchpatch_ZzIndexOf.f
  refine Ev.bind (a := ffrom (mt a b) (a.size + 1 - b.size - loc.toNat) loc.toNat) (Ev.bind (a := ffrom (mt a b) (a.size + 1 - b.size - loc.toNat) loc.toNat) ?_ (Ev.now _)) (Ev.now _)
  unfold diffmatchpatch_indexOf.f
  rw [w64 (by omega) (by omega)]
  by_cases c1 : loc > (a.size : Int) - 1
  · refine Ev.iteT c1 ?_
    have e : a.size + 1 - b.size - loc.toNat = 0 := by omega
    rw [e]; exact Ev.now _
  refine Ev.iteF c1 ?_
  by_cases c2 : loc ≤ 0
  · have e : loc.toNat = 0 := by omega
    rw [e]
    exact Ev.iteT c2 (Ev.bind (zz_ev a b ha hb) (Ev.now _))
  refine Ev.iteF c2 (Ev.iteT (by omega) (Ev.iteT (by omega) ?_))
  have sz : (a.extract loc.toNat a.size).size = a.size - loc.toNat := by rw [ByteArray.size_extract]; omega
  refine Ev.bind (zz_ev _ b (by omega) hb) ?_
  rw [sz]
  have ed : a.size - loc.toNat + 1 - b.size = a.size + 1 - b.size - loc.toNat := by omega
  rw [ed]
  have sh : ffrom (mt a b) (a.size + 1 - b.size - loc.toNat) loc.toNat = _ := ffrom_shift (mt (a.extract loc.toNat a.size) b) (mt a b) loc.toNat (a.size + 1 - b.size - loc.toNat) 0 (by
    intro j _ hj
    unfold mt
    rw [ByteArray.extract_extract]
    have e1 : min (loc.toNat + (j + b.size)) a.size = loc.toNat + j + b.size := by omega
    rw [e1])
  rw [sh]
  have rg := ffrom_range (mt (a.extract loc.toNat a.size) b) (a.size + 1 - b.size - loc.toNat) 0
  by_cases c3 : ffrom (mt (a.extract loc.toNat a.size) b) (a.size + 1 - b.size - loc.toNat) 0 = -1
  · simp only [if_pos c3]; exact Ev.now _
  · simp only [if_neg c3]
    rw [w64 (by omega) (by omega)]
    have e4 : ((loc.toNat : Nat) : Int) = loc := by omega
    rw [e4]; exact Ev.now _
theorem down_l (a b : ByteArray) (loc : Int) (ha : a.size ≤ 1000000) (hb : b.size ≤ 1000000) (hb1 : 1 ≤ b.size) (h0 : -1000000 ≤ loc) (h1 : loc ≤ 2000000) : ∀ (d j : Nat), j = loc.toNat + d → j + b.size ≤ a.size + 1 → Ev (fun k => laws_FnIndexOf.l0 k loc a b (ffrom (mt a b) (a.size + 1 - b.size - j) j) ((j : Int) - 1)) true
  | 0, j, hd, hj => by
    refine Ev.step (fun k => by simp only [laws_FnIndexOf.l0]; rfl) ?_
    refine Ev.iteF (by unfold mx; split <;> omega) ?_
    refine Ev.bind (implIndexOf_ev a b loc ha hb hb1 h0 h1) ?_
    have e : j = loc.toNat := by omega
    rw [e]
    exact Ev.const (by simp)
  | d + 1, j, hd, hj => by
    refine Ev.step (fun k => by simp only [laws_FnIndexOf.l0]; rfl) ?_
    rw [w64 (by omega) (by omega)]
    refine Ev.iteT (by unfold mx; split <;> omega) (Ev.iteT (by omega) (Ev.iteT (by omega) (Ev.iteT (by omega) ?_)))
    have ih := down_l a b loc ha hb hb1 h0 h1 d (j - 1) (by omega) (by omega)
    have e3 : a.size + 1 - b.size - (j - 1) = (a.size + 1 - b.size - j) + 1 := by omega
    rw [e3] at ih
    unfold ffrom at ih
    have e5 : j - 1 + 1 = j := by omega
    rw [e5] at ih
    have e4 : (((j - 1 : Nat) : Nat) : Int) = (j : Int) - 1 := by omega
    have e6 : ((j : Int) - 1).toNat = j - 1 := by omega
    have e7 : ((j : Int) - 1 + (b.size : Int)).toNat = j - 1 + b.size := by omega
    rw [e6, e7, w64 (n := (j : Int) - 1 - 1) (by omega) (by omega)]
    rw [e4] at ih
    by_cases c : (a.extract (j - 1) (j - 1 + b.size)).toList = b.toList
    · have hc : mt a b (j - 1) = true := by simp [mt, c]
      rw [if_pos hc] at ih; exact Ev.iteT c ih
    · have hc : ¬ mt a b (j - 1) = true := by simp [mt, c]
      rw [if_neg hc] at ih; exact Ev.iteF c ih
theorem loop_ev (a b : ByteArray) (loc : Int) (ha : a.size ≤ 1000000) (hb : b.size ≤ 1000000) (hb1 : 1 ≤ b.size) (h0 : -1000000 ≤ loc) (h1 : loc ≤ 2000000) : Ev (fun k => laws_FnIndexOf.l0 k loc a b (-1) (wrap64 ((a.size : Int) - (b.size : Int)))) true := by
  rw [w64 (by omega) (by omega)]
  by_cases h : loc.toNat + b.size ≤ a.size + 1
  · have := down_l a b loc ha hb hb1 h0 h1 (a.size + 1 - b.size - loc.toNat) (a.size + 1 - b.size) (by omega) (by omega)
    rw [Nat.sub_self] at this
    have e : (((a.size + 1 - b.size : Nat) : Nat) : Int) - 1 = (a.size : Int) - (b.size : Int) := by omega
    rw [e] at this
    exact this
  · refine Ev.step (fun k => by simp only [laws_FnIndexOf.l0]; rfl) ?_
    refine Ev.iteF (by unfold mx; split <;> omega) ?_
    refine Ev.bind (implIndexOf_ev a b loc ha hb hb1 h0 h1) ?_
    have e : a.size + 1 - b.size - loc.toNat = 0 := by omega
    rw [e]
    exact Ev.const (by simp [ffrom])
theorem j1_ev (x : Int) (a b : ByteArray) (ha : a.size ≤ 1000) (hb : b.size ≤ 1000) (hb1 : 1 ≤ b.size) : Ev (fun k => laws_FnIndexOf.j1 k x a b) true := by
  refine Ev.step (fun k => by simp only [laws_FnIndexOf.j1]; rfl) ?_
  have e1 : IntKind.u64.wrap (wrap64 ((a.size : Int) + 5)) = (a.size : Int) + 5 := by rw [w64 (by omega) (by omega), u64w]; omega
  rw [e1]
  refine Ev.iteF (by omega) ?_
  have r0 : 0 ≤ IntKind.u64.wrap x := by rw [u64w]; omega
  have m0 := Int.tmod_nonneg ((a.size : Int) + 5) r0
  have m1 : (IntKind.u64.wrap x).tmod ((a.size : Int) + 5) < (a.size : Int) + 5 := Int.tmod_lt_of_pos _ (by omega)
  rw [w64 (n := Int.tmod _ _) (by omega) (by omega), w64 (n := _ - 2) (by omega) (by omega)]
  exact loop_ev a b _ (by omega) (by omega) hb1 (by omega) (by omega)
theorem strOfNums_size (xs : List Int) : (strOfNums xs).size = xs.length := by simp [strOfNums, ByteArray.size]
theorem ascii_l (x : List Int) (hx : x.length ≤ 2147483647) (m : Nat) (hm : m ≤ 1000) : ∀ (d n : Nat) (acc : List Int), x.length - n = d → acc.length = n → n ≤ m → ∃ r : ByteArray, r.size ≤ m ∧ Ev (fun k => laws_dfAscii.l0 k x (m : Int) acc (n : Int)) r
  | d, n, acc, hd, ha, hn => by
    have stop : (strOfNums acc).size ≤ m := by rw [strOfNums_size]; omega
    by_cases h : n < x.length
    · by_cases h2 : n < m
      · obtain ⟨r, hr, ih⟩ := ascii_l x hx m hm (d - 1) (n + 1) (acc ++ [Int.tmod (rd x (n : Int)) 128]) (by omega) (by simp; omega) (by omega)
        refine ⟨r, hr, ?_⟩
        refine Ev.step (fun k => by simp only [laws_dfAscii.l0]; rfl) ?_
        refine Ev.iteT (by omega) (Ev.iteT (by omega) (Ev.iteT (by omega) (Ev.iteT (by omega) ?_)))
        rw [w64 (by omega) (by omega)]
        have e1 : ((n : Int) + 1) = ((n + 1 : Nat) : Int) := by omega
        rw [e1]; exact ih
      · refine ⟨strOfNums acc, stop, ?_⟩
        refine Ev.step (fun k => by simp only [laws_dfAscii.l0]; rfl) ?_
        exact Ev.iteT (by omega) (Ev.iteF (by omega) (Ev.now _))
    · refine ⟨strOfNums acc, stop, ?_⟩
      refine Ev.step (fun k => by simp only [laws_dfAscii.l0]; rfl) ?_
      exact Ev.iteF (by omega) (Ev.now _)
termination_by d => d
theorem ascii_ev (x : List Int) (hx : x.length ≤ 2147483647) : ∃ r : ByteArray, r.size ≤ 60 ∧ Ev (fun k => laws_dfAscii.f k x 60) r := ascii_l x hx 60 (by omega) _ 0 [] rfl rfl (by omega)
theorem FnIndexOf : laws_FnIndexOf.Pure := by
  intro a b c _ _ _ _ _ _ _
  refine Ev.rounds ?_
  unfold laws_FnIndexOf.f
  have skip : Ev (fun k => laws_FnIndexOf.j0 k a b c true) true := by
    refine Ev.step (fun k => by simp only [laws_FnIndexOf.j0]; rfl) ?_
    exact Ev.iteT (by simp) (Ev.now _)
  by_cases h1 : (a.length : Int) > 2147483647
  · exact Ev.iteT h1 skip
  refine Ev.iteF h1 ?_
  by_cases h2 : (b.length : Int) > 2147483647
  · rw [decide_eq_true h2]; exact skip
  rw [decide_eq_false h2]
  refine Ev.step (fun k => by simp only [laws_FnIndexOf.j0]; rfl) ?_
  refine Ev.iteF (by simp) ?_
  obtain ⟨r, hr, er⟩ := ascii_ev a (by omega)
  obtain ⟨s, hs, es⟩ := ascii_ev b (by omega)
  refine Ev.bind er (Ev.bind es ?_)
  by_cases c0 : s.toList = ([] : List UInt8)
  · exact Ev.iteT c0 (j1_ev c r _ (by omega) (by decide) (by decide))
  · refine Ev.iteF c0 (j1_ev c r s (by omega) (by omega) ?_)
    rcases Nat.eq_zero_or_pos s.size with h | h
    · exact absurd (by rw [ByteArray.size_eq_zero_iff.1 h, ByteArray.toList_eq]; rfl) c0
    · exact h
end Go.Proofs.Ytomidomdomjkfaa.Pure
