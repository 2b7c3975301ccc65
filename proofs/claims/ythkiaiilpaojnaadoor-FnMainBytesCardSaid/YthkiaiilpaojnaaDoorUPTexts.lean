/- The texts of differences, how much is edited, equal lists. -/
import Derived.Test.YthkiaiilpaojnaaDoorUPB
import Derived.Test.YthkiaiilpaojnaaDoorUPLoop
import Derived.Test.YthkiaiilpaojnaaDoorUPUtf
import Derived.Test.YthkiaiilpaojnaaDoorUPEnc
import Derived.Test.YthkiaiilpaojnaaDoorUPParts
import Derived.Test.YthkiaiilpaojnaaDoorUGA4
import Derived.Test.YthkiaiilpaojnaaDoorUFB
namespace Go.Proofs.YthkiaiilpaojnaaDoorUF
open Go
set_option linter.unusedVariables false
set_option linter.unusedSimpArgs false
/-- What is kept and deleted; what is kept and inserted; how many characters are edited. -/
def srcR : List Rp → List Int
  | [] => []
  | d :: l => (if d.1 = 1 then [] else d.2) ++ srcR l
def tgtR : List Rp → List Int
  | [] => []
  | d :: l => (if d.1 = -1 then [] else d.2) ++ tgtR l
def edR : List Rp → Nat
  | [] => 0
  | d :: l => (if d.1 = 0 then 0 else d.2.length) + edR l
theorem srcR_append : ∀ x y, srcR (x ++ y) = srcR x ++ srcR y
  | [], y => rfl
  | d :: x, y => by simp [srcR, srcR_append x y]
theorem tgtR_append : ∀ x y, tgtR (x ++ y) = tgtR x ++ tgtR y
  | [], y => rfl
  | d :: x, y => by simp [tgtR, tgtR_append x y]
theorem edR_append : ∀ x y, edR (x ++ y) = edR x + edR y
  | [], y => by simp [edR]
  | d :: x, y => by simp [edR, edR_append x y]; omega
/-- All characters of all parts. -/
def allR (l : List Rp) : Nat := (l.map fun d => d.2.length).sum
theorem allR_nil : allR [] = 0 := rfl
theorem allR_cons (d : Rp) (l : List Rp) : allR (d :: l) = d.2.length + allR l := by simp [allR]
theorem allR_append (x y : List Rp) : allR (x ++ y) = allR x + allR y := by simp [allR]
theorem allR_mem {d : Rp} : ∀ {l : List Rp}, d ∈ l → d.2.length ≤ allR l
  | e :: l, h => by
    rw [allR_cons]
    rcases List.mem_cons.1 h with rfl | h
    · omega
    · have := allR_mem h; omega
theorem allR_take (l : List Rp) (i : Nat) : allR (l.take i) ≤ allR l := by
  have := allR_append (l.take i) (l.drop i)
  rw [List.take_append_drop] at this; omega
theorem srcR_valid : ∀ {l : List Rp}, (∀ y ∈ l, OkR y) → Valids (srcR l)
  | [], _ => Valids.nil
  | d :: l, h => by
    unfold srcR
    refine Valids.append ?_ (srcR_valid fun y hy => h y (by simp [hy]))
    split
    · exact Valids.nil
    · exact (h d (by simp)).2
theorem tgtR_valid : ∀ {l : List Rp}, (∀ y ∈ l, OkR y) → Valids (tgtR l)
  | [], _ => Valids.nil
  | d :: l, h => by
    unfold tgtR
    refine Valids.append ?_ (tgtR_valid fun y hy => h y (by simp [hy]))
    split
    · exact Valids.nil
    · exact (h d (by simp)).2
theorem srcR_le : ∀ l : List Rp, (srcR l).length ≤ allR l
  | [] => Nat.le_refl _
  | d :: l => by have := srcR_le l; rw [allR_cons]; unfold srcR; split <;> simp <;> omega
theorem tgtR_le : ∀ l : List Rp, (tgtR l).length ≤ allR l
  | [] => Nat.le_refl _
  | d :: l => by have := tgtR_le l; rw [allR_cons]; unfold tgtR; split <;> simp <;> omega
theorem edR_le : ∀ l : List Rp, edR l ≤ allR l
  | [] => Nat.le_refl _
  | d :: l => by have := edR_le l; rw [allR_cons]; unfold edR; split <;> omega
theorem source_ok (n : Nat) (hn : Big ≤ n) (xs : List Rp) (hl : xs.length ≤ 1000000000) (ha : allR xs ≤ 1000000000) : g34 n (xs.map emb) = some (enc (srcR xs), ()) := by
  have hB : (4611686018427387904 : Nat) ≤ n := hn
  have key : ∀ (d i m : Nat), xs.length - i = d → i ≤ xs.length → d < m → g34_3L n (fun x => some (x, ())) m (enc (srcR (xs.take i))) (xs.map emb) ((xs.map emb).length : Int) (i : Int) = some (enc (srcR xs), ()) := by
    intro d
    have hlm : (xs.map emb).length = xs.length := List.length_map _
    induction d with
    | zero =>
      intro i m hd hi hm
      obtain ⟨m, rfl⟩ : ∃ m', m = m' + 1 := ⟨m - 1, by omega⟩
      rw [g34_3L.eq_2, g34_2, bdF (by omega), List.take_of_length_le (by omega)]
    | succ d ih =>
      intro i m hd hi hm
      obtain ⟨m, rfl⟩ : ∃ m', m = m' + 1 := ⟨m - 1, by omega⟩
      have hi' : i < xs.length := by omega
      have hI : i < (xs.map emb).length := by omega
      have := ih (i + 1) m (by omega) (by omega) (by omega)
      have hs : srcR (xs.take (i + 1)) = srcR (xs.take i) ++ (if xs[i].1 = 1 then [] else xs[i].2) := by
        rw [List.take_succ_eq_append_getElem hi', srcR_append]; simp [srcR]
      have hsz1 := enc_size_le (srcR (xs.take i))
      have hsz2 := enc_size_le xs[i].2
      have hq1 := srcR_le (xs.take i)
      have hq2 := allR_take xs i
      have hq3 := allR_mem (List.getElem_mem hi')
      rw [g34_3L.eq_2, g34_2, bdT (by omega), idx_ok (by omega) (by omega)]
      simp only [rd_at hI, rd_zero rfl, List.getElem_map]
      rw [hs] at this
      have hw : w64 ((i : Int) + 1) = ((i + 1 : Nat) : Int) := by rw [w64_id (by omega) (by omega)]; omega
      rw [hw]
      by_cases h : xs[i].1 = 1
      · rw [if_pos h, List.append_nil] at this
        rw [biF (by show (xs[i].1 != 1) = false; simp [h])]
        exact this
      · rw [if_neg h, enc_append] at this
        rw [biT (by show (xs[i].1 != 1) = true; simp [h]), roomy_ok (by show _ + (enc xs[i].2).size ≤ _; omega)]
        exact this
  have := key xs.length 0 n (by omega) (Nat.zero_le _) (by omega)
  exact this
theorem target_ok (n : Nat) (hn : Big ≤ n) (xs : List Rp) (hl : xs.length ≤ 1000000000) (ha : allR xs ≤ 1000000000) : g35 n (xs.map emb) = some (enc (tgtR xs), ()) := by
  have hB : (4611686018427387904 : Nat) ≤ n := hn
  have key : ∀ (d i m : Nat), xs.length - i = d → i ≤ xs.length → d < m → g35_3L n (fun x => some (x, ())) m (enc (tgtR (xs.take i))) (xs.map emb) ((xs.map emb).length : Int) (i : Int) = some (enc (tgtR xs), ()) := by
    intro d
    have hlm : (xs.map emb).length = xs.length := List.length_map _
    induction d with
    | zero =>
      intro i m hd hi hm
      obtain ⟨m, rfl⟩ : ∃ m', m = m' + 1 := ⟨m - 1, by omega⟩
      rw [g35_3L.eq_2, g35_2, bdF (by omega), List.take_of_length_le (by omega)]
    | succ d ih =>
      intro i m hd hi hm
      obtain ⟨m, rfl⟩ : ∃ m', m = m' + 1 := ⟨m - 1, by omega⟩
      have hi' : i < xs.length := by omega
      have hI : i < (xs.map emb).length := by omega
      have := ih (i + 1) m (by omega) (by omega) (by omega)
      have hs : tgtR (xs.take (i + 1)) = tgtR (xs.take i) ++ (if xs[i].1 = -1 then [] else xs[i].2) := by
        rw [List.take_succ_eq_append_getElem hi', tgtR_append]; simp [tgtR]
      have hsz1 := enc_size_le (tgtR (xs.take i))
      have hsz2 := enc_size_le xs[i].2
      have hq1 := tgtR_le (xs.take i)
      have hq2 := allR_take xs i
      have hq3 := allR_mem (List.getElem_mem hi')
      rw [g35_3L.eq_2, g35_2, bdT (by omega), idx_ok (by omega) (by omega)]
      simp only [rd_at hI, rd_zero rfl, List.getElem_map]
      rw [hs] at this
      have hw : w64 ((i : Int) + 1) = ((i + 1 : Nat) : Int) := by rw [w64_id (by omega) (by omega)]; omega
      rw [hw]
      by_cases h : xs[i].1 = -1
      · rw [if_pos h, List.append_nil] at this
        rw [biF (by show (xs[i].1 != -1) = false; simp [h])]
        exact this
      · rw [if_neg h, enc_append] at this
        rw [biT (by show (xs[i].1 != -1) = true; simp [h]), roomy_ok (by show _ + (enc xs[i].2).size ≤ _; omega)]
        exact this
  have := key xs.length 0 n (by omega) (Nat.zero_le _) (by omega)
  exact this
end Go.Proofs.YthkiaiilpaojnaaDoorUF
