/- The definition's common beginnings and ends. -/
import Derived.Test.YticibdjilmclgaaDoorUPB
import Derived.Test.YticibdjilmclgaaDoorUPLoop
import Derived.Test.YticibdjilmclgaaDoorUPCmp
import Derived.Test.YticibdjilmclgaaDoorUGA4
import Derived.Test.YticibdjilmclgaaDoorUFB
namespace Go.Proofs.YticibdjilmclgaaDoorUF
open Go
set_option linter.unusedVariables false
set_option linter.unusedSimpArgs false
theorem specPrefix_ok (n : Nat) (hn : Big ≤ n) (x y : List Int) (hx : x.length ≤ 1000000000000) (hy : y.length ≤ 1000000000000) : g37 n x y = some ((cpl x y : Int), ()) := by
  have key : ∀ (d i m : Nat), x.length - i = d → i ≤ x.length → d < m → g37_3L n (fun v5 => g37_5 n (fun v4 => some (v4, ())) v5) m x y (i : Int) = some (((i + cpl (x.drop i) (y.drop i) : Nat) : Int), ()) := by
    intro d
    induction d with
    | zero =>
      intro i m hd hi hm
      obtain ⟨m, rfl⟩ : ∃ m', m = m' + 1 := ⟨m - 1, by omega⟩
      rw [g37_3L.eq_2, g37_2, bdF (by omega), cpl_end _ _ i (by omega)]
      rfl
    | succ d ih =>
      intro i m hd hi hm
      obtain ⟨m, rfl⟩ : ∃ m', m = m' + 1 := ⟨m - 1, by omega⟩
      rw [g37_3L.eq_2, g37_2, bdT (by omega)]
      by_cases hy' : i < y.length
      · rw [bdT (by omega), idx_ok (by omega) (by omega), idx_ok (by omega) (by omega), rd_nat, rd_nat, cpl_at x y i (by omega) hy']
        by_cases e : x.getD i 0 = y.getD i 0
        · rw [biT (by simpa using e), if_pos e, w64_id (by omega) (by omega)]
          have := ih (i + 1) m (by omega) (by omega) (by omega)
          rw [show ((i : Int) + 1) = ((i + 1 : Nat) : Int) by omega, this]
          congr 3; omega
        · rw [biF (by simpa using e), if_neg e]; rfl
      · rw [bdF (by omega), cpl_end _ _ i (by omega)]; rfl
  have := key x.length 0 n (by omega) (by omega) (by unfold Big at hn; omega)
  simp only [List.drop_zero, Nat.zero_add, Int.natCast_zero] at this
  exact this
theorem specSuffix_ok (n : Nat) (hn : Big ≤ n) (x y : List Int) (hx : x.length ≤ 1000000000000) (hy : y.length ≤ 1000000000000) : g38 n x y = some ((csl x y : Int), ()) := by
  have key : ∀ (d i m : Nat), x.length - i = d → i ≤ x.length → d < m → g38_3L n (fun v5 => g38_5 n (fun v4 => some (v4, ())) v5) m x y (i : Int) = some (((i + cpl (x.reverse.drop i) (y.reverse.drop i) : Nat) : Int), ()) := by
    intro d
    induction d with
    | zero =>
      intro i m hd hi hm
      obtain ⟨m, rfl⟩ : ∃ m', m = m' + 1 := ⟨m - 1, by omega⟩
      rw [g38_3L.eq_2, g38_2, bdF (by omega), cpl_end _ _ i (by simp; omega)]
      rfl
    | succ d ih =>
      intro i m hd hi hm
      obtain ⟨m, rfl⟩ : ∃ m', m = m' + 1 := ⟨m - 1, by omega⟩
      rw [g38_3L.eq_2, g38_2, bdT (by omega)]
      by_cases hy' : i < y.length
      · rw [bdT (by omega), w64_id (n := (x.length : Int) - 1) (by omega) (by omega), w64_id (n := (y.length : Int) - 1) (by omega) (by omega), w64_id (n := (x.length : Int) - 1 - i) (by omega) (by omega), w64_id (n := (y.length : Int) - 1 - i) (by omega) (by omega), idx_ok (by omega) (by omega), idx_ok (by omega) (by omega), show (x.length : Int) - 1 - i = ((x.length - 1 - i : Nat) : Int) by omega, show (y.length : Int) - 1 - i = ((y.length - 1 - i : Nat) : Int) by omega, rd_nat, rd_nat, cpl_at x.reverse y.reverse i (by simp; omega) (by simp; omega), rev_getD x i (by omega), rev_getD y i (by omega)]
        by_cases e : x.getD (x.length - 1 - i) 0 = y.getD (y.length - 1 - i) 0
        · rw [biT (by simpa using e), if_pos e, w64_id (by omega) (by omega)]
          have := ih (i + 1) m (by omega) (by omega) (by omega)
          rw [show ((i : Int) + 1) = ((i + 1 : Nat) : Int) by omega, this]
          congr 3; omega
        · rw [biF (by simpa using e), if_neg e]; rfl
      · rw [bdF (by omega), cpl_end _ _ i (by simp; omega)]; rfl
  have := key x.length 0 n (by omega) (by omega) (by unfold Big at hn; omega)
  simp only [List.drop_zero, Nat.zero_add, Int.natCast_zero] at this
  exact this
end Go.Proofs.YticibdjilmclgaaDoorUF
