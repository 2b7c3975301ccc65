/- How much is edited. -/
import Derived.Test.YticibdjilmclgaaDoorUPB
import Derived.Test.YticibdjilmclgaaDoorUPLoop
import Derived.Test.YticibdjilmclgaaDoorUPUtf
import Derived.Test.YticibdjilmclgaaDoorUPEnc
import Derived.Test.YticibdjilmclgaaDoorUPParts
import Derived.Test.YticibdjilmclgaaDoorUPTexts
import Derived.Test.YticibdjilmclgaaDoorUPMerge
import Derived.Test.YticibdjilmclgaaDoorUPMerge2
import Derived.Test.YticibdjilmclgaaDoorUGA4
import Derived.Test.YticibdjilmclgaaDoorUFB
namespace Go.Proofs.YticibdjilmclgaaDoorUF
open Go
set_option linter.unusedVariables false
set_option linter.unusedSimpArgs false
theorem edited_ok (n : Nat) (hn : Big ≤ n) (xs : List Rp) (hx : Ok xs) (hl : xs.length ≤ 1000000000) (ha : allR xs ≤ 1000000000) : g15 n (xs.map emb) = some ((edR xs : Int), ()) := by
  have hB : (4611686018427387904 : Nat) ≤ n := hn
  have hlm : (xs.map emb).length = xs.length := List.length_map _
  have key : ∀ (d i m : Nat), xs.length - i = d → i ≤ xs.length → d < m → g15_3L n (fun x => some (x, ())) m (edR (xs.take i) : Int) (xs.map emb) ((xs.map emb).length : Int) (i : Int) = some ((edR xs : Int), ()) := by
    intro d
    induction d with
    | zero =>
      intro i m hd hi hm
      obtain ⟨m, rfl⟩ : ∃ m', m = m' + 1 := ⟨m - 1, by omega⟩
      rw [g15_3L.eq_2, g15_2, bdF (by omega), List.take_of_length_le (by omega)]
    | succ d ih =>
      intro i m hd hi hm
      obtain ⟨m, rfl⟩ : ∃ m', m = m' + 1 := ⟨m - 1, by omega⟩
      have hi' : i < xs.length := by omega
      have hI : i < (xs.map emb).length := by omega
      have := ih (i + 1) m (by omega) (by omega) (by omega)
      have hs : edR (xs.take (i + 1)) = edR (xs.take i) + (if xs[i].1 = 0 then 0 else xs[i].2.length) := by
        rw [List.take_succ_eq_append_getElem hi', edR_append]; simp [edR]
      have hsz2 := enc_size_le xs[i].2
      have hq1 := edR_le (xs.take i)
      have hq2 := allR_take xs i
      have hq3 := allR_mem (List.getElem_mem hi')
      have hv := (hx xs[i] (by simp)).2
      rw [g15_3L.eq_2, g15_2, bdT (by omega), idx_ok (by omega) (by omega)]
      simp only [rd_at hI, rd_zero rfl, List.getElem_map]
      rw [hs] at this
      have hw : w64 ((i : Int) + 1) = ((i + 1 : Nat) : Int) := by rw [w64_id (by omega) (by omega)]; omega
      rw [hw]
      by_cases h : xs[i].1 = 0
      · rw [if_pos h, Nat.add_zero] at this
        rw [biF (by show (xs[i].1 != 0) = false; simp [h])]
        exact this
      · rw [if_neg h] at this
        rw [biT (by show (xs[i].1 != 0) = true; simp [h]), show (emb xs[i]).2 = enc xs[i].2 from rfl, runesOk_enc n _ hv (by omega), Option.bind_some]
        have hw2 : w64 ((edR (xs.take i) : Int) + (xs[i].2.length : Int)) = ((edR (xs.take i) + xs[i].2.length : Nat) : Int) := by rw [w64_id (by omega) (by omega)]; omega
        rw [hw2]
        exact this
  exact key xs.length 0 n (by omega) (Nat.zero_le _) (by omega)
end Go.Proofs.YticibdjilmclgaaDoorUF
