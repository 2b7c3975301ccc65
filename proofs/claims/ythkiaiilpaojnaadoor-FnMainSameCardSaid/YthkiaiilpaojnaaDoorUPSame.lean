/- Lists of parts that are the same. -/
import Derived.Test.YthkiaiilpaojnaaDoorUPB
import Derived.Test.YthkiaiilpaojnaaDoorUPLoop
import Derived.Test.YthkiaiilpaojnaaDoorUPUtf
import Derived.Test.YthkiaiilpaojnaaDoorUPEnc
import Derived.Test.YthkiaiilpaojnaaDoorUPParts
import Derived.Test.YthkiaiilpaojnaaDoorUPTexts
import Derived.Test.YthkiaiilpaojnaaDoorUGA5
import Derived.Test.YthkiaiilpaojnaaDoorUFB
namespace Go.Proofs.YthkiaiilpaojnaaDoorUF
open Go
set_option linter.unusedVariables false
set_option linter.unusedSimpArgs false
theorem same_ok (n : Nat) (hn : Big ≤ n) (xs ys : List Rp) (hl : xs.length ≤ 1000000000) (hx : ∀ y ∈ xs, OkR y) (hy : ∀ y ∈ ys, OkR y) : g19 n (xs.map emb) (ys.map emb) = some (decide (xs = ys), ()) := by
  have hB : (4611686018427387904 : Nat) ≤ n := hn
  have hlm : (xs.map emb).length = xs.length := List.length_map _
  have hlm' : (ys.map emb).length = ys.length := List.length_map _
  dsimp only [g19, g19_6, g19_1]
  by_cases hlen : xs.length = ys.length
  · rw [biF (by rw [hlm, hlm', hlen]; simp)]
    have h1 : ∀ m i (hi : i < (xs.map emb).length), (∀ j (hj : j < i), (fun (i : Nat) (x : Prt) => decide (some x ≠ (ys.map emb)[i]?)) j ((xs.map emb)[j]'(by omega)) = false) →
        g19_3L n (fun v2 => some (v2, ())) (g19_5 n (fun v2 => some (v2, ()))) (m + 1) (xs.map emb) (ys.map emb) ((xs.map emb).length : Int) (i : Int) = if (fun (i : Nat) (x : Prt) => decide (some x ≠ (ys.map emb)[i]?)) i (xs.map emb)[i] = true then (fun _ _ => some (false, ())) i hi else g19_3L n (fun v2 => some (v2, ())) (g19_5 n (fun v2 => some (v2, ()))) m (xs.map emb) (ys.map emb) ((xs.map emb).length : Int) ((i + 1 : Nat) : Int) := by
      intro m i hi _
      have hi1 : i < xs.length := by omega
      have hi2 : i < ys.length := by omega
      have hi3 : i < (ys.map emb).length := by omega
      have hg : (ys.map emb)[i]? = some (emb ys[i]) := by rw [List.getElem?_eq_getElem hi3, List.getElem_map]
      rw [g19_3L.eq_2, g19_2, bdT (by omega), idx_ok (by omega) (by omega), idx_ok (by omega) (by omega), rd_at hi, rd_at hi3]
      have hv1 := (hx xs[i] (by simp)).2
      have hv2 := (hy ys[i] (by simp)).2
      simp only [List.getElem_map, hg]
      have e : ((emb xs[i]).1 == (emb ys[i]).1 && strEq (emb xs[i]).2 (emb ys[i]).2) = decide (xs[i] = ys[i]) := by
        show (xs[i].1 == ys[i].1 && strEq (enc xs[i].2) (enc ys[i].2)) = _
        rw [strEq_enc hv1 hv2, Bool.eq_iff_iff]
        simp [Prod.ext_iff]
      rw [e]
      have e2 : emb xs[i] = emb ys[i] ↔ xs[i] = ys[i] := by
        unfold emb
        rw [Prod.mk.injEq, enc_inj hv1 hv2, Prod.ext_iff]
      by_cases h : xs[i] = ys[i]
      · rw [biF (by simp [h]), if_neg (by simp [h]), w64_id (by omega) (by omega)]; rfl
      · rw [biT (by simp [h]), if_pos (by simp [e2, h])]
    rcases range_find (xs.map emb) (fun m i => g19_3L n (fun v2 => some (v2, ())) (g19_5 n (fun v2 => some (v2, ()))) m (xs.map emb) (ys.map emb) ((xs.map emb).length : Int) (i : Int)) (fun _ _ => some (false, ())) (some (true, ())) (fun (i : Nat) (x : Prt) => decide (some x ≠ (ys.map emb)[i]?)) h1 (fun m _ => by rw [g19_3L.eq_2, g19_2, bdF (by omega)]; rfl) n (by omega) with ⟨i, hi, hp, _, e⟩ | ⟨hall, e⟩
    · refine Eq.trans e ?_
      have : xs ≠ ys := by
        rintro rfl
        simp only [List.getElem?_eq_getElem hi] at hp
        simp at hp
      rw [decide_eq_false this]
    · refine Eq.trans e ?_
      have : xs = ys := by
        apply List.ext_getElem hlen
        intro i h1 h2
        have := hall i (by omega)
        have hi3 : i < (ys.map emb).length := by omega
        rw [List.getElem?_eq_getElem hi3, List.getElem_map, List.getElem_map] at this
        have this : emb xs[i] = emb ys[i] := by simpa using this
        unfold emb at this
        have hv1 := (hx xs[i] (by simp)).2
        have hv2 := (hy ys[i] (by simp)).2
        have h3 := (Prod.mk.inj this).1
        have h4 := (enc_inj hv1 hv2).1 (Prod.mk.inj this).2
        exact Prod.ext h3 h4
      rw [decide_eq_true this]
  · rw [biT (by rw [hlm, hlm']; simp; omega), decide_eq_false (fun h => hlen (by rw [h]))]
end Go.Proofs.YthkiaiilpaojnaaDoorUF
