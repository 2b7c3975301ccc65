/- Common prefixes and suffixes of lists: what the printed functions come to. -/
import Derived.Test.YtomidomdomjkfaaXBase
import Derived.Test.YtomidomdomjkfaaPTx11
import Derived.Test.YtomidomdomjkfaaPTx14
import Derived.Test.YtomidomdomjkfaaPTx18
import Derived.Test.YtomidomdomjkfaaPTx21
namespace Go.Proofs.Ytomidomdomjkfaa.PT
open Go Go.RowKit Go.Proofs.YtomidomdomjkfaaW.PrintWords

/-- How many characters two lists have in common at their beginning. -/
def cpl : List Int → List Int → Nat
  | a :: x, b :: y => if a = b then cpl x y + 1 else 0
  | _, _ => 0
/-- .. at their end. -/
def csl (x y : List Int) : Nat := cpl x.reverse y.reverse
theorem cpl_le_left : ∀ x y, cpl x y ≤ x.length
  | [], _ => by simp [cpl]
  | a :: x, [] => by simp [cpl]
  | a :: x, b :: y => by have := cpl_le_left x y; simp only [cpl]; split <;> simp <;> omega
theorem cpl_le_right : ∀ x y, cpl x y ≤ y.length
  | [], _ => by simp [cpl]
  | a :: x, [] => by simp [cpl]
  | a :: x, b :: y => by have := cpl_le_right x y; simp only [cpl]; split <;> simp <;> omega
theorem rd_nat (x : List Int) (n : Nat) : rd x (n : Int) = x.getD n 0 := by simp [rd]
theorem drop_cons (x : List Int) (n : Nat) (h : n < x.length) : x.drop n = x.getD n 0 :: x.drop (n + 1) := by
  rw [List.drop_eq_getElem_cons h]; simp [List.getD, List.getElem?_eq_getElem h]
theorem cpl_at (x y : List Int) (n : Nat) (hx : n < x.length) (hy : n < y.length) : cpl (x.drop n) (y.drop n) = if x.getD n 0 = y.getD n 0 then cpl (x.drop (n + 1)) (y.drop (n + 1)) + 1 else 0 := by
  rw [drop_cons x n hx, drop_cons y n hy]; rfl
theorem cpl_end (x y : List Int) (n : Nat) (h : x.length ≤ n ∨ y.length ≤ n) : cpl (x.drop n) (y.drop n) = 0 := by
  rcases h with h | h
  · rw [List.drop_eq_nil_of_le h]; rfl
  · rw [List.drop_eq_nil_of_le h]; cases x.drop n <;> rfl

theorem prefix_l (x y : List Int) (hx : x.length ≤ 9223372036854775807) : ∀ (d n : Nat), x.length - n = d → Ev (fun k => diffmatchpatch_commonPrefixLength.l0 k x y (n : Int)) ((n + cpl (x.drop n) (y.drop n) : Nat) : Int)
  | d, n, hd => by
    refine Ev.step (fun k => by simp only [diffmatchpatch_commonPrefixLength.l0]; rfl) ?_
    by_cases h : n < x.length
    · refine Ev.iteT (by omega) ?_
      refine Ev.step (fun k => by simp only [diffmatchpatch_commonPrefixLength.j1]; rfl) ?_
      by_cases h2 : n < y.length
      · refine Ev.iteT (decide_eq_true (by omega)) (Ev.iteT (by omega) (Ev.iteT (by omega) (Ev.iteT (by omega) ?_)))
        rw [rd_nat, rd_nat, cpl_at x y n h h2]
        by_cases e : x.getD n 0 = y.getD n 0
        · refine Ev.iteT e ?_
          rw [if_pos e, w64 (by omega) (by omega)]
          have ih := prefix_l x y hx (d - 1) (n + 1) (by omega)
          rw [show n + (cpl (List.drop (n + 1) x) (List.drop (n + 1) y) + 1) = n + 1 + cpl (List.drop (n + 1) x) (List.drop (n + 1) y) by omega]
          exact ih
        · refine Ev.iteF e ?_
          rw [if_neg e]; exact Ev.now _
      · refine Ev.iteF (by rw [decide_eq_false (by omega)]; simp) ?_
        rw [cpl_end x y n (by omega)]; exact Ev.now _
    · refine Ev.iteF (by omega) ?_
      refine Ev.step (fun k => by simp only [diffmatchpatch_commonPrefixLength.j1]; rfl) ?_
      refine Ev.iteF (by simp) ?_
      rw [cpl_end x y n (by omega)]; exact Ev.now _
termination_by d => d
theorem commonPrefix_ev (x y : List Int) (hx : x.length ≤ 9223372036854775807) : Ev (fun k => diffmatchpatch_commonPrefixLength.f k x y) (cpl x y : Int) := by
  have h := prefix_l x y hx _ 0 rfl
  simpa [diffmatchpatch_commonPrefixLength.f] using h

theorem sprefix_l (x y : List Int) (hx : x.length ≤ 9223372036854775807) : ∀ (d n : Nat), x.length - n = d → Ev (fun k => spec_Prefix.l0 k x y (n : Int)) ((n + cpl (x.drop n) (y.drop n) : Nat) : Int)
  | d, n, hd => by
    refine Ev.step (fun k => by simp only [spec_Prefix.l0]; rfl) ?_
    by_cases h : n < x.length
    · refine Ev.iteT (by omega) ?_
      by_cases h2 : n < y.length
      · refine Ev.iteT (by omega) (Ev.iteT (by omega) ?_)
        rw [rd_nat, rd_nat, cpl_at x y n h h2]
        by_cases e : x.getD n 0 = y.getD n 0
        · refine Ev.iteT e ?_
          rw [if_pos e, w64 (by omega) (by omega)]
          have ih := sprefix_l x y hx (d - 1) (n + 1) (by omega)
          rw [show n + (cpl (List.drop (n + 1) x) (List.drop (n + 1) y) + 1) = n + 1 + cpl (List.drop (n + 1) x) (List.drop (n + 1) y) by omega]
          exact ih
        · refine Ev.iteF e ?_
          rw [if_neg e]; exact Ev.now _
      · refine Ev.iteF (by omega) ?_
        rw [cpl_end x y n (by omega)]; exact Ev.now _
    · refine Ev.iteF (by omega) ?_
      rw [cpl_end x y n (by omega)]; exact Ev.now _
termination_by d => d
theorem specPrefix_ev (x y : List Int) (hx : x.length ≤ 9223372036854775807) : Ev (fun k => spec_Prefix.f k x y) (cpl x y : Int) := by
  have h := sprefix_l x y hx _ 0 rfl
  simpa [spec_Prefix.f] using h

theorem rev_getD (x : List Int) (n : Nat) (h : n < x.length) : x.reverse.getD n 0 = x.getD (x.length - 1 - n) 0 := by
  simp [List.getD, List.getElem?_reverse h]
theorem suffix_l (x y : List Int) (hx : x.length ≤ 9223372036854775807) (hy : y.length ≤ 9223372036854775807) : ∀ (d n : Nat), x.length - n = d → n ≤ x.length → n ≤ y.length →
    Ev (fun k => diffmatchpatch_commonSuffixLength.l0 k x y ((x.length : Int) - n) ((y.length : Int) - n) (n : Int)) ((n + cpl (x.reverse.drop n) (y.reverse.drop n) : Nat) : Int)
  | d, n, hd, hnx, hny => by
    refine Ev.step (fun k => by simp only [diffmatchpatch_commonSuffixLength.l0]; rfl) ?_
    rw [w64 (n := (x.length : Int) - n - 1) (by omega) (by omega), w64 (n := (y.length : Int) - n - 1) (by omega) (by omega)]
    by_cases h : n < x.length
    · refine Ev.iteF (by omega) ?_
      by_cases h2 : n < y.length
      · refine Ev.iteF (by omega) (Ev.iteT (by omega) (Ev.iteT (by omega) (Ev.iteT (by omega) (Ev.iteT (by omega) ?_))))
        rw [show (x.length : Int) - n - 1 = ((x.length - 1 - n : Nat) : Int) by omega, show (y.length : Int) - n - 1 = ((y.length - 1 - n : Nat) : Int) by omega, rd_nat, rd_nat, cpl_at _ _ n (by simpa using h) (by simpa using h2), rev_getD x n h, rev_getD y n h2]
        by_cases e : x.getD (x.length - 1 - n) 0 = y.getD (y.length - 1 - n) 0
        · refine Ev.iteT e ?_
          rw [if_pos e, w64 (by omega) (by omega)]
          have ih := suffix_l x y hx hy (d - 1) (n + 1) (by omega) (by omega) (by omega)
          rw [show (x.length : Int) - ((n + 1 : Nat) : Int) = ((x.length - 1 - n : Nat) : Int) by omega, show (y.length : Int) - ((n + 1 : Nat) : Int) = ((y.length - 1 - n : Nat) : Int) by omega] at ih
          rw [show n + (cpl (List.drop (n + 1) x.reverse) (List.drop (n + 1) y.reverse) + 1) = n + 1 + cpl (List.drop (n + 1) x.reverse) (List.drop (n + 1) y.reverse) by omega]
          exact ih
        · refine Ev.iteF e ?_
          rw [if_neg e]; exact Ev.now _
      · refine Ev.iteT (by omega) ?_
        rw [cpl_end _ _ n (by simp; omega)]; exact Ev.now _
    · refine Ev.iteT (by omega) ?_
      rw [cpl_end _ _ n (by simp; omega)]; exact Ev.now _
termination_by d => d
theorem commonSuffix_ev (x y : List Int) (hx : x.length ≤ 9223372036854775807) (hy : y.length ≤ 9223372036854775807) : Ev (fun k => diffmatchpatch_commonSuffixLength.f k x y) (csl x y : Int) := by
  have h := suffix_l x y hx hy _ 0 rfl (Nat.zero_le _) (Nat.zero_le _)
  simpa [diffmatchpatch_commonSuffixLength.f, csl] using h
theorem ssuffix_l (x y : List Int) (hx : x.length ≤ 9223372036854775807) (hy : y.length ≤ 9223372036854775807) : ∀ (d n : Nat), x.length - n = d →
    Ev (fun k => spec_Suffix.l0 k x y (n : Int)) ((n + cpl (x.reverse.drop n) (y.reverse.drop n) : Nat) : Int)
  | d, n, hd => by
    refine Ev.step (fun k => by simp only [spec_Suffix.l0]; rfl) ?_
    by_cases h : n < x.length
    · refine Ev.iteT (by omega) ?_
      by_cases h2 : n < y.length
      · refine Ev.iteT (by omega) ?_
        rw [w64 (n := (x.length : Int) - 1) (by omega) (by omega), w64 (n := (y.length : Int) - 1) (by omega) (by omega), w64 (n := (x.length : Int) - 1 - n) (by omega) (by omega), w64 (n := (y.length : Int) - 1 - n) (by omega) (by omega)]
        refine Ev.iteT (by omega) (Ev.iteT (by omega) (Ev.iteT (by omega) (Ev.iteT (by omega) ?_)))
        rw [show (x.length : Int) - 1 - n = ((x.length - 1 - n : Nat) : Int) by omega, show (y.length : Int) - 1 - n = ((y.length - 1 - n : Nat) : Int) by omega, rd_nat, rd_nat, cpl_at _ _ n (by simpa using h) (by simpa using h2), rev_getD x n h, rev_getD y n h2]
        by_cases e : x.getD (x.length - 1 - n) 0 = y.getD (y.length - 1 - n) 0
        · refine Ev.iteT e ?_
          rw [if_pos e, w64 (by omega) (by omega)]
          have ih := ssuffix_l x y hx hy (d - 1) (n + 1) (by omega)
          rw [show n + (cpl (List.drop (n + 1) x.reverse) (List.drop (n + 1) y.reverse) + 1) = n + 1 + cpl (List.drop (n + 1) x.reverse) (List.drop (n + 1) y.reverse) by omega]
          exact ih
        · refine Ev.iteF e ?_
          rw [if_neg e]; exact Ev.now _
      · refine Ev.iteF (by omega) ?_
        rw [cpl_end _ _ n (by simp; omega)]; exact Ev.now _
    · refine Ev.iteF (by omega) ?_
      rw [cpl_end _ _ n (by simp; omega)]; exact Ev.now _
termination_by d => d
theorem specSuffix_ev (x y : List Int) (hx : x.length ≤ 9223372036854775807) (hy : y.length ≤ 9223372036854775807) : Ev (fun k => spec_Suffix.f k x y) (csl x y : Int) := by
  have h := ssuffix_l x y hx hy _ 0 rfl
  simpa [spec_Suffix.f, csl] using h
end Go.Proofs.Ytomidomdomjkfaa.PT
