/- Common prefixes and suffixes of lists. -/
import Derived.Test.YthkiaiilpaojnaaDoorUPB
import Derived.Test.YthkiaiilpaojnaaDoorUPLoop
import Derived.Test.YthkiaiilpaojnaaDoorUGA0
import Derived.Test.YthkiaiilpaojnaaDoorUFB
namespace Go.Proofs.YthkiaiilpaojnaaDoorUF
open Go
set_option linter.unusedVariables false
set_option linter.unusedSimpArgs false
/-- How many characters two lists have in common at their beginning. -/
def cpl : List Int → List Int → Nat
  | a :: x, b :: y => if a = b then cpl x y + 1 else 0
  | _, _ => 0
/-- .. at their end. -/
def csl (x y : List Int) : Nat := cpl x.reverse y.reverse
theorem cpl_le_left : ∀ x y, cpl x y ≤ x.length
  | [], _ => by simp [cpl]
  | a :: x, [] => by simp [cpl]
  | a :: x, b :: y => by have := cpl_le_left x y; simp only [cpl]; split <;> simp <;> omega
theorem cpl_le_right : ∀ x y, cpl x y ≤ y.length
  | [], _ => by simp [cpl]
  | a :: x, [] => by simp [cpl]
  | a :: x, b :: y => by have := cpl_le_right x y; simp only [cpl]; split <;> simp <;> omega
theorem csl_le_left (x y) : csl x y ≤ x.length := by have := cpl_le_left x.reverse y.reverse; simpa [csl] using this
theorem csl_le_right (x y) : csl x y ≤ y.length := by have := cpl_le_right x.reverse y.reverse; simpa [csl] using this
theorem drop_cons (x : List Int) (n : Nat) (h : n < x.length) : x.drop n = x.getD n 0 :: x.drop (n + 1) := by
  rw [List.drop_eq_getElem_cons h]; simp [List.getD, List.getElem?_eq_getElem h]
theorem cpl_at (x y : List Int) (n : Nat) (hx : n < x.length) (hy : n < y.length) : cpl (x.drop n) (y.drop n) = if x.getD n 0 = y.getD n 0 then cpl (x.drop (n + 1)) (y.drop (n + 1)) + 1 else 0 := by
  rw [drop_cons x n hx, drop_cons y n hy]; rfl
theorem cpl_end (x y : List Int) (n : Nat) (h : x.length ≤ n ∨ y.length ≤ n) : cpl (x.drop n) (y.drop n) = 0 := by
  rcases h with h | h
  · rw [List.drop_eq_nil_of_le h]; rfl
  · rw [List.drop_eq_nil_of_le h]; cases x.drop n <;> rfl
theorem rev_getD (x : List Int) (n : Nat) (h : n < x.length) : x.reverse.getD n 0 = x.getD (x.length - 1 - n) 0 := by
  simp [List.getD, List.getElem?_reverse h]
theorem prefix_loop {β : Type} (n : Nat) (k : Int → Option β) (x y : List Int) (hx : x.length ≤ 1000000000000) : ∀ (d i m : Nat), x.length - i = d → d < m → g134_3L n k k m x y (i : Int) = k ((i + cpl (x.drop i) (y.drop i) : Nat) : Int) := by
  intro d
  induction d using Nat.strongRecOn with
  | _ d ih =>
    intro i m hd hm
    obtain ⟨m, rfl⟩ : ∃ m', m = m' + 1 := ⟨m - 1, by omega⟩
    rw [g134_3L.eq_2, g134_2]
    by_cases h : i < x.length
    · rw [bdT (by omega)]
      by_cases h2 : i < y.length
      · rw [bdT (by omega), idx_ok (by omega) (by omega), idx_ok (by omega) (by omega), rd_nat, rd_nat, cpl_at x y i h h2]
        by_cases e : x.getD i 0 = y.getD i 0
        · rw [if_pos e, biF (by rw [e]; simp), w64_id (by omega) (by omega)]
          have := ih (d - 1) (by omega) (i + 1) m (by omega) (by omega)
          rw [show ((i : Int) + 1) = ((i + 1 : Nat) : Int) by omega, this]
          congr 2; omega
        · rw [if_neg e, biT (by simpa using e)]; rfl
      · rw [bdF (by omega), cpl_end x y i (by omega)]; rfl
    · rw [bdF (by omega), cpl_end x y i (by omega)]; rfl
theorem prefix_ok (n : Nat) (hn : Big ≤ n) (x y : List Int) (hx : x.length ≤ 1000000000000) : g134 n x y = some ((cpl x y : Int), ()) := by
  have := prefix_loop n (fun v => some (v, ())) x y hx x.length 0 n (by omega) (by unfold Big at hn; omega)
  simp only [List.drop_zero, Nat.zero_add] at this
  exact this
theorem suffix_loop {β : Type} (n : Nat) (k : Int → Option β) (x y : List Int) (hx : x.length ≤ 1000000000000) (hy : y.length ≤ 1000000000000) : ∀ (d i m : Nat), x.length - i = d → d < m → i ≤ x.length → i ≤ y.length →
    g135_3L n k m x y ((x.length : Int) - i) ((y.length : Int) - i) (i : Int) = k ((i + cpl (x.reverse.drop i) (y.reverse.drop i) : Nat) : Int) := by
  intro d
  induction d using Nat.strongRecOn with
  | _ d ih =>
    intro i m hd hm hix hiy
    obtain ⟨m, rfl⟩ : ∃ m', m = m' + 1 := ⟨m - 1, by omega⟩
    rw [g135_3L.eq_2, g135_2]
    rw [w64_id (n := (x.length : Int) - i - 1) (by omega) (by omega), w64_id (n := (y.length : Int) - i - 1) (by omega) (by omega)]
    by_cases h : i < x.length
    · rw [bdF (by omega)]
      by_cases h2 : i < y.length
      · rw [bdF (by omega), idx_ok (by omega) (by omega), idx_ok (by omega) (by omega)]
        rw [show (x.length : Int) - i - 1 = ((x.length - 1 - i : Nat) : Int) by omega, show (y.length : Int) - i - 1 = ((y.length - 1 - i : Nat) : Int) by omega, rd_nat, rd_nat, cpl_at _ _ i (by simpa using h) (by simpa using h2), rev_getD x i h, rev_getD y i h2]
        by_cases e : x.getD (x.length - 1 - i) 0 = y.getD (y.length - 1 - i) 0
        · rw [if_pos e, biF (by rw [e]; simp), w64_id (by omega) (by omega)]
          have := ih (d - 1) (by omega) (i + 1) m (by omega) (by omega) (by omega) (by omega)
          rw [show (x.length : Int) - ((i + 1 : Nat) : Int) = ((x.length - 1 - i : Nat) : Int) by omega, show (y.length : Int) - ((i + 1 : Nat) : Int) = ((y.length - 1 - i : Nat) : Int) by omega] at this
          rw [show ((i : Int) + 1) = ((i + 1 : Nat) : Int) by omega, this]
          congr 2; omega
        · rw [if_neg e, biT (by simpa using e)]; rfl
      · rw [bdT (by omega), cpl_end _ _ i (by simp; omega)]; rfl
    · rw [bdT (by omega), cpl_end _ _ i (by simp; omega)]; rfl
theorem suffix_ok (n : Nat) (hn : Big ≤ n) (x y : List Int) (hx : x.length ≤ 1000000000000) (hy : y.length ≤ 1000000000000) : g135 n x y = some ((csl x y : Int), ()) := by
  have := suffix_loop n (fun v => some (v, ())) x y hx hy x.length 0 n (by omega) (by unfold Big at hn; omega) (by omega) (by omega)
  simp only [List.drop_zero, Nat.zero_add, Int.natCast_zero, Int.sub_zero] at this
  exact this
/-- What they begin with. -/
theorem cpl_take : ∀ x y : List Int, x.take (cpl x y) = y.take (cpl x y)
  | [], y => by simp [cpl]
  | a :: x, [] => by simp [cpl]
  | a :: x, b :: y => by
    simp only [cpl]
    split
    · rename_i h; subst h; simp [cpl_take x y]
    · simp
theorem cpl_head : ∀ {x y : List Int} {a b : Int} {x' y' : List Int}, x.drop (cpl x y) = a :: x' → y.drop (cpl x y) = b :: y' → a ≠ b
  | [], y, a, b, x', y', h, _ => by simp [cpl] at h
  | c :: x, [], a, b, x', y', _, h => by simp [cpl] at h
  | c :: x, d :: y, a, b, x', y', h, k => by
    simp only [cpl] at h k
    split at h
    · rename_i e
      rw [if_pos e] at k
      simp only [List.drop_succ_cons] at h k
      exact cpl_head h k
    · rename_i e
      rw [if_neg e] at k
      simp only [List.drop_zero, List.cons.injEq] at h k
      rw [← h.1, ← k.1]; exact e
theorem csl_drop (x y : List Int) : x.drop (x.length - csl x y) = y.drop (y.length - csl x y) := by
  have := congrArg List.reverse (cpl_take x.reverse y.reverse)
  rw [List.reverse_take, List.reverse_take] at this
  simpa [csl] using this
theorem cpl_comm : ∀ x y : List Int, cpl x y = cpl y x
  | [], [] => rfl
  | [], _ :: _ => rfl
  | _ :: _, [] => rfl
  | a :: x, b :: y => by
    simp only [cpl]
    by_cases h : a = b
    · rw [if_pos h, if_pos h.symm, cpl_comm x y]
    · rw [if_neg h, if_neg (fun e => h e.symm)]
theorem csl_comm (x y : List Int) : csl x y = csl y x := cpl_comm _ _
end Go.Proofs.YthkiaiilpaojnaaDoorUF
