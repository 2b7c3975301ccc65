/- The texts of differences, how much is edited, equal lists. -/
import Derived.Test.YtfnjlgflbenfoaaPB
import Derived.Test.YtfnjlgflbenfoaaPLoop
import Derived.Test.YtfnjlgflbenfoaaPUtf
import Derived.Test.YtfnjlgflbenfoaaPEnc
import Derived.Test.YtfnjlgflbenfoaaPParts
import Derived.Test.YtfnjlgflbenfoaaGA3
import Derived.Test.YtfnjlgflbenfoaaFB
namespace Go.Proofs.YtfnjlgflbenfoaaF
open Go
set_option linter.unusedVariables false
set_option linter.unusedSimpArgs false
/-- What is kept and deleted; what is kept and inserted; how many characters are edited. -/
def srcR : List Rp → List Int
  | [] => []
  | d :: l => (if d.1 = 1 then [] else d.2) ++ srcR l
def tgtR : List Rp → List Int
  | [] => []
  | d :: l => (if d.1 = -1 then [] else d.2) ++ tgtR l
def edR : List Rp → Nat
  | [] => 0
  | d :: l => (if d.1 = 0 then 0 else d.2.length) + edR l
theorem srcR_append : ∀ x y, srcR (x ++ y) = srcR x ++ srcR y
  | [], y => rfl
  | d :: x, y => by simp [srcR, srcR_append x y]
theorem tgtR_append : ∀ x y, tgtR (x ++ y) = tgtR x ++ tgtR y
  | [], y => rfl
  | d :: x, y => by simp [tgtR, tgtR_append x y]
theorem edR_append : ∀ x y, edR (x ++ y) = edR x + edR y
  | [], y => by simp [edR]
  | d :: x, y => by simp [edR, edR_append x y]; omega
/-- All characters of all parts. -/
def allR (l : List Rp) : Nat := (l.map fun d => d.2.length).sum
theorem allR_nil : allR [] = 0 := rfl
theorem allR_cons (d : Rp) (l : List Rp) : allR (d :: l) = d.2.length + allR l := by simp [allR]
theorem allR_append (x y : List Rp) : allR (x ++ y) = allR x + allR y := by simp [allR]
theorem allR_mem {d : Rp} : ∀ {l : List Rp}, d ∈ l → d.2.length ≤ allR l
  | e :: l, h => by
    rw [allR_cons]
    rcases List.mem_cons.1 h with rfl | h
    · omega
    · have := allR_mem h; omega
theorem allR_take (l : List Rp) (i : Nat) : allR (l.take i) ≤ allR l := by
  have := allR_append (l.take i) (l.drop i)
  rw [List.take_append_drop] at this; omega
theorem srcR_valid : ∀ {l : List Rp}, (∀ y ∈ l, OkR y) → Valids (srcR l)
  | [], _ => Valids.nil
  | d :: l, h => by
    unfold srcR
    refine Valids.append ?_ (srcR_valid fun y hy => h y (by simp [hy]))
    split
    · exact Valids.nil
    · exact (h d (by simp)).2
theorem tgtR_valid : ∀ {l : List Rp}, (∀ y ∈ l, OkR y) → Valids (tgtR l)
  | [], _ => Valids.nil
  | d :: l, h => by
    unfold tgtR
    refine Valids.append ?_ (tgtR_valid fun y hy => h y (by simp [hy]))
    split
    · exact Valids.nil
    · exact (h d (by simp)).2
theorem srcR_le : ∀ l : List Rp, (srcR l).length ≤ allR l
  | [] => Nat.le_refl _
  | d :: l => by have := srcR_le l; rw [allR_cons]; unfold srcR; split <;> simp <;> omega
theorem tgtR_le : ∀ l : List Rp, (tgtR l).length ≤ allR l
  | [] => Nat.le_refl _
  | d :: l => by have := tgtR_le l; rw [allR_cons]; unfold tgtR; split <;> simp <;> omega
theorem edR_le : ∀ l : List Rp, edR l ≤ allR l
  | [] => Nat.le_refl _
  | d :: l => by have := edR_le l; rw [allR_cons]; unfold edR; split <;> omega
theorem source_ok (n : Nat) (hn : Big ≤ n) (xs : List Rp) (hl : xs.length ≤ 1000000000) (ha : allR xs ≤ 1000000000) : g24 n (xs.map emb) = some (enc (srcR xs), ()) := by
  have hB : (4611686018427387904 : Nat) ≤ n := hn
  have key : ∀ (d i m : Nat), xs.length - i = d → i ≤ xs.length → d < m → g24_3L n (fun x => some (x, ())) m (enc (srcR (xs.take i))) (xs.map emb) ((xs.map emb).length : Int) (i : Int) = some (enc (srcR xs), ()) := by
    intro d
    have hlm : (xs.map emb).length = xs.length := List.length_map _
    induction d with
    | zero =>
      intro i m hd hi hm
      obtain ⟨m, rfl⟩ : ∃ m', m = m' + 1 := ⟨m - 1, by omega⟩
      rw [g24_3L.eq_2, g24_2, bdF (by omega), List.take_of_length_le (by omega)]
    | succ d ih =>
      intro i m hd hi hm
      obtain ⟨m, rfl⟩ : ∃ m', m = m' + 1 := ⟨m - 1, by omega⟩
      have hi' : i < xs.length := by omega
      have hI : i < (xs.map emb).length := by omega
      have := ih (i + 1) m (by omega) (by omega) (by omega)
      have hs : srcR (xs.take (i + 1)) = srcR (xs.take i) ++ (if xs[i].1 = 1 then [] else xs[i].2) := by
        rw [List.take_succ_eq_append_getElem hi', srcR_append]; simp [srcR]
      have hsz1 := enc_size_le (srcR (xs.take i))
      have hsz2 := enc_size_le xs[i].2
      have hq1 := srcR_le (xs.take i)
      have hq2 := allR_take xs i
      have hq3 := allR_mem (List.getElem_mem hi')
      rw [g24_3L.eq_2, g24_2, bdT (by omega), idx_ok (by omega) (by omega)]
      simp only [rd_at hI, rd_zero rfl, List.getElem_map]
      rw [hs] at this
      have hw : w64 ((i : Int) + 1) = ((i + 1 : Nat) : Int) := by rw [w64_id (by omega) (by omega)]; omega
      rw [hw]
      by_cases h : xs[i].1 = 1
      · rw [if_pos h, List.append_nil] at this
        rw [biF (by show (xs[i].1 != 1) = false; simp [h])]
        exact this
      · rw [if_neg h, enc_append] at this
        rw [biT (by show (xs[i].1 != 1) = true; simp [h]), roomy_ok (by show _ + (enc xs[i].2).size ≤ _; omega)]
        exact this
  have := key xs.length 0 n (by omega) (Nat.zero_le _) (by omega)
  exact this
theorem target_ok (n : Nat) (hn : Big ≤ n) (xs : List Rp) (hl : xs.length ≤ 1000000000) (ha : allR xs ≤ 1000000000) : g25 n (xs.map emb) = some (enc (tgtR xs), ()) := by
  have hB : (4611686018427387904 : Nat) ≤ n := hn
  have key : ∀ (d i m : Nat), xs.length - i = d → i ≤ xs.length → d < m → g25_3L n (fun x => some (x, ())) m (enc (tgtR (xs.take i))) (xs.map emb) ((xs.map emb).length : Int) (i : Int) = some (enc (tgtR xs), ()) := by
    intro d
    have hlm : (xs.map emb).length = xs.length := List.length_map _
    induction d with
    | zero =>
      intro i m hd hi hm
      obtain ⟨m, rfl⟩ : ∃ m', m = m' + 1 := ⟨m - 1, by omega⟩
      rw [g25_3L.eq_2, g25_2, bdF (by omega), List.take_of_length_le (by omega)]
    | succ d ih =>
      intro i m hd hi hm
      obtain ⟨m, rfl⟩ : ∃ m', m = m' + 1 := ⟨m - 1, by omega⟩
      have hi' : i < xs.length := by omega
      have hI : i < (xs.map emb).length := by omega
      have := ih (i + 1) m (by omega) (by omega) (by omega)
      have hs : tgtR (xs.take (i + 1)) = tgtR (xs.take i) ++ (if xs[i].1 = -1 then [] else xs[i].2) := by
        rw [List.take_succ_eq_append_getElem hi', tgtR_append]; simp [tgtR]
      have hsz1 := enc_size_le (tgtR (xs.take i))
      have hsz2 := enc_size_le xs[i].2
      have hq1 := tgtR_le (xs.take i)
      have hq2 := allR_take xs i
      have hq3 := allR_mem (List.getElem_mem hi')
      rw [g25_3L.eq_2, g25_2, bdT (by omega), idx_ok (by omega) (by omega)]
      simp only [rd_at hI, rd_zero rfl, List.getElem_map]
      rw [hs] at this
      have hw : w64 ((i : Int) + 1) = ((i + 1 : Nat) : Int) := by rw [w64_id (by omega) (by omega)]; omega
      rw [hw]
      by_cases h : xs[i].1 = -1
      · rw [if_pos h, List.append_nil] at this
        rw [biF (by show (xs[i].1 != -1) = false; simp [h])]
        exact this
      · rw [if_neg h, enc_append] at this
        rw [biT (by show (xs[i].1 != -1) = true; simp [h]), roomy_ok (by show _ + (enc xs[i].2).size ≤ _; omega)]
        exact this
  have := key xs.length 0 n (by omega) (Nat.zero_le _) (by omega)
  exact this
theorem same_ok (n : Nat) (hn : Big ≤ n) (xs ys : List Rp) (hl : xs.length ≤ 1000000000) (hx : ∀ y ∈ xs, OkR y) (hy : ∀ y ∈ ys, OkR y) : g12 n (xs.map emb) (ys.map emb) = some (decide (xs = ys), ()) := by
  have hB : (4611686018427387904 : Nat) ≤ n := hn
  have hlm : (xs.map emb).length = xs.length := List.length_map _
  have hlm' : (ys.map emb).length = ys.length := List.length_map _
  dsimp only [g12, g12_6, g12_1]
  by_cases hlen : xs.length = ys.length
  · rw [biF (by rw [hlm, hlm', hlen]; simp)]
    have h1 : ∀ m i (hi : i < (xs.map emb).length), (∀ j (hj : j < i), (fun (i : Nat) (x : Prt) => decide (some x ≠ (ys.map emb)[i]?)) j ((xs.map emb)[j]'(by omega)) = false) →
        g12_3L n (fun v2 => some (v2, ())) (g12_5 n (fun v2 => some (v2, ()))) (m + 1) (xs.map emb) (ys.map emb) ((xs.map emb).length : Int) (i : Int) = if (fun (i : Nat) (x : Prt) => decide (some x ≠ (ys.map emb)[i]?)) i (xs.map emb)[i] = true then (fun _ _ => some (false, ())) i hi else g12_3L n (fun v2 => some (v2, ())) (g12_5 n (fun v2 => some (v2, ()))) m (xs.map emb) (ys.map emb) ((xs.map emb).length : Int) ((i + 1 : Nat) : Int) := by
      intro m i hi _
      have hi1 : i < xs.length := by omega
      have hi2 : i < ys.length := by omega
      have hi3 : i < (ys.map emb).length := by omega
      have hg : (ys.map emb)[i]? = some (emb ys[i]) := by rw [List.getElem?_eq_getElem hi3, List.getElem_map]
      rw [g12_3L.eq_2, g12_2, bdT (by omega), idx_ok (by omega) (by omega), idx_ok (by omega) (by omega), rd_at hi, rd_at hi3]
      have hv1 := (hx xs[i] (by simp)).2
      have hv2 := (hy ys[i] (by simp)).2
      simp only [List.getElem_map, hg]
      have e : ((emb xs[i]).1 == (emb ys[i]).1 && strEq (emb xs[i]).2 (emb ys[i]).2) = decide (xs[i] = ys[i]) := by
        show (xs[i].1 == ys[i].1 && strEq (enc xs[i].2) (enc ys[i].2)) = _
        rw [strEq_enc hv1 hv2, Bool.eq_iff_iff]
        simp [Prod.ext_iff]
      rw [e]
      have e2 : emb xs[i] = emb ys[i] ↔ xs[i] = ys[i] := by
        unfold emb
        rw [Prod.mk.injEq, enc_inj hv1 hv2, Prod.ext_iff]
      by_cases h : xs[i] = ys[i]
      · rw [biF (by simp [h]), if_neg (by simp [h]), w64_id (by omega) (by omega)]; rfl
      · rw [biT (by simp [h]), if_pos (by simp [e2, h])]
    rcases range_find (xs.map emb) (fun m i => g12_3L n (fun v2 => some (v2, ())) (g12_5 n (fun v2 => some (v2, ()))) m (xs.map emb) (ys.map emb) ((xs.map emb).length : Int) (i : Int)) (fun _ _ => some (false, ())) (some (true, ())) (fun (i : Nat) (x : Prt) => decide (some x ≠ (ys.map emb)[i]?)) h1 (fun m _ => by rw [g12_3L.eq_2, g12_2, bdF (by omega)]; rfl) n (by omega) with ⟨i, hi, hp, _, e⟩ | ⟨hall, e⟩
    · refine Eq.trans e ?_
      have : xs ≠ ys := by
        rintro rfl
        simp only [List.getElem?_eq_getElem hi] at hp
        simp at hp
      rw [decide_eq_false this]
    · refine Eq.trans e ?_
      have : xs = ys := by
        apply List.ext_getElem hlen
        intro i h1 h2
        have := hall i (by omega)
        have hi3 : i < (ys.map emb).length := by omega
        rw [List.getElem?_eq_getElem hi3, List.getElem_map, List.getElem_map] at this
        have this : emb xs[i] = emb ys[i] := by simpa using this
        unfold emb at this
        have hv1 := (hx xs[i] (by simp)).2
        have hv2 := (hy ys[i] (by simp)).2
        have h3 := (Prod.mk.inj this).1
        have h4 := (enc_inj hv1 hv2).1 (Prod.mk.inj this).2
        exact Prod.ext h3 h4
      rw [decide_eq_true this]
  · rw [biT (by rw [hlm, hlm']; simp; omega), decide_eq_false (fun h => hlen (by rw [h]))]
end Go.Proofs.YtfnjlgflbenfoaaF
