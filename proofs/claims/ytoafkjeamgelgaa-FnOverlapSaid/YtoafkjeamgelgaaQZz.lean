/- The first place of a pattern in a text, as the program's own index tells it; and the texts that the laws make of bytes. -/
import Derived.Test.YtoafkjeamgelgaaQLists
import Derived.Test.YtoafkjeamgelgaaPTx38
import Derived.Test.YtoafkjeamgelgaaPTx50
namespace Go.Proofs.Ytoafkjeamgelgaa.PT
open Go Go.RowKit Go.Proofs.YtoafkjeamgelgaaW.PrintWords
def mtch (a b : ByteArray) (j : Nat) : Bool := decide ((a.extract j (j + b.size)).toList = b.toList)
theorem zz_l (a b : ByteArray) (ha : a.size ≤ 1000000) (hb : b.size ≤ 1000000) : ∀ (d n : Nat), a.size + 1 - n = d → n ≤ a.size + 1 → Ev (fun k => diffmatchpatch_zzIndex.l0 k a b (n : Int)) (ffrom (mtch a b) (a.size + 1 - b.size - n) n)
  | d, n, hd, hn => by
    refine Ev.step (fun k => by simp only [diffmatchpatch_zzIndex.l0]; rfl) ?_
    rw [w64 (by omega) (by omega)]
    by_cases h : n + b.size ≤ a.size
    · have e2 : (((n : Int) + (b.size : Int)) : Int).toNat = n + b.size := by omega
      have e3 : a.size + 1 - b.size - n = (a.size + 1 - b.size - (n + 1)) + 1 := by omega
      refine Ev.iteT (by omega) (Ev.iteT (by omega) (Ev.iteT (by omega) ?_))
      rw [e2, e3, Int.toNat_natCast]
      unfold ffrom
      by_cases c : (a.extract n (n + b.size)).toList = b.toList
      · have hc : mtch a b n = true := by simp [mtch, c]
        rw [if_pos hc]; exact Ev.iteT c (Ev.now _)
      · have hc : ¬ mtch a b n = true := by simp [mtch, c]
        rw [if_neg hc]; refine Ev.iteF c ?_
        have ih := zz_l a b ha hb (d - 1) (n + 1) (by omega) (by omega)
        rw [w64 (by omega) (by omega)]
        have e1 : ((n : Int) + 1) = ((n + 1 : Nat) : Int) := by omega
        rw [e1]; exact ih
    · have e : a.size + 1 - b.size - n = 0 := by omega
      rw [e]
      exact Ev.iteF (by omega) (Ev.now _)
termination_by d => d
theorem zz_ev (a b : ByteArray) (ha : a.size ≤ 1000000) (hb : b.size ≤ 1000000) : Ev (fun k => diffmatchpatch_zzIndex.f k a b) (ffrom (mtch a b) (a.size + 1 - b.size) 0) := by
  unfold diffmatchpatch_zzIndex.f
  have := zz_l a b ha hb _ 0 rfl (by omega)
  simpa using this
theorem strOfNums_size (xs : List Int) : (strOfNums xs).size = xs.length := by simp [strOfNums, ByteArray.size]
theorem ascii_l (x : List Int) (hx : x.length ≤ 2147483647) (m : Nat) (hm : m ≤ 1000) : ∀ (d n : Nat) (acc : List Int), x.length - n = d → acc.length = n → n ≤ m → ∃ r : ByteArray, r.size ≤ m ∧ Ev (fun k => laws_dfAscii.l0 k x (m : Int) acc (n : Int)) r
  | d, n, acc, hd, ha, hn => by
    have stop : (strOfNums acc).size ≤ m := by rw [strOfNums_size]; omega
    by_cases h : n < x.length
    · by_cases h2 : n < m
      · obtain ⟨r, hr, ih⟩ := ascii_l x hx m hm (d - 1) (n + 1) (acc ++ [Int.tmod (rd x (n : Int)) 128]) (by omega) (by simp; omega) (by omega)
        refine ⟨r, hr, ?_⟩
        refine Ev.step (fun k => by simp only [laws_dfAscii.l0]; rfl) ?_
        refine Ev.iteT (by omega) (Ev.iteT (by omega) (Ev.iteT (by omega) (Ev.iteT (by omega) ?_)))
        rw [w64 (by omega) (by omega)]
        have e1 : ((n : Int) + 1) = ((n + 1 : Nat) : Int) := by omega
        rw [e1]; exact ih
      · refine ⟨strOfNums acc, stop, ?_⟩
        refine Ev.step (fun k => by simp only [laws_dfAscii.l0]; rfl) ?_
        exact Ev.iteT (by omega) (Ev.iteF (by omega) (Ev.now _))
    · refine ⟨strOfNums acc, stop, ?_⟩
      refine Ev.step (fun k => by simp only [laws_dfAscii.l0]; rfl) ?_
      exact Ev.iteF (by omega) (Ev.now _)
termination_by d => d
theorem ascii_ev (x : List Int) (hx : x.length ≤ 2147483647) : ∃ r : ByteArray, r.size ≤ 60 ∧ Ev (fun k => laws_dfAscii.f k x 60) r := ascii_l x hx 60 (by omega) _ 0 [] rfl rfl (by omega)
theorem ffrom_none (p : Nat → Bool) : ∀ (d i : Nat), ffrom p d i = -1 → ∀ j, i ≤ j → j < i + d → p j = false
  | 0, i, _, j, h1, h2 => by omega
  | d + 1, i, h, j, h1, h2 => by
    unfold ffrom at h
    by_cases hp : p i
    · rw [if_pos hp] at h; omega
    · rw [if_neg hp] at h
      rcases Nat.eq_or_lt_of_le h1 with rfl | h3
      · simpa using hp
      · exact ffrom_none p d (i + 1) h j h3 (by omega)
theorem ffrom_some (p : Nat → Bool) : ∀ (d i n : Nat), ffrom p d i = (n : Int) → i ≤ n ∧ n < i + d ∧ p n = true ∧ ∀ j, i ≤ j → j < n → p j = false
  | 0, i, n, h => by simp only [ffrom] at h; omega
  | d + 1, i, n, h => by
    unfold ffrom at h
    by_cases hp : p i
    · rw [if_pos hp] at h
      obtain rfl : i = n := by omega
      exact ⟨by omega, by omega, hp, fun j h1 h2 => by omega⟩
    · rw [if_neg hp] at h
      obtain ⟨h1, h2, h3, h4⟩ := ffrom_some p d (i + 1) n h
      refine ⟨by omega, by omega, h3, fun j h5 h6 => ?_⟩
      rcases Nat.eq_or_lt_of_le h5 with rfl | h7
      · simpa using hp
      · exact h4 j h7 h6
theorem ext_list (x : ByteArray) (i j : Nat) : (x.extract i j).toList = (x.toList.take j).drop i := by
  rw [ByteArray.toList_eq, ByteArray.toList_eq]
  simp [List.drop_take]
theorem list_size (x : ByteArray) : x.toList.length = x.size := by rw [ByteArray.toList_eq, Array.length_toList]; rfl
end Go.Proofs.Ytoafkjeamgelgaa.PT
