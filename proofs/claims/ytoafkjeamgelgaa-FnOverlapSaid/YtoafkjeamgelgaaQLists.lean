/- Plain words about lists that loops fill and searches that go upwards. -/
import Derived.Test.YtoafkjeamgelgaaXBase

namespace Go.Proofs.YtoafkjeamgelgaaW.PrintWords
open Go Go.RowKit
theorem rd_at (x : List Int) (n : Nat) : rd x (n : Int) = x.getD n 0 := by simp [rd]
theorem take_succ_at {α : Type} (x : List α) (z : α) (n : Nat) (h : n < x.length) : x.take (n + 1) = x.take n ++ [x.getD n z] := by
  rw [List.take_succ_eq_append_getElem h]; simp [List.getD, List.getElem?_eq_getElem h]
theorem set_fill (xs : List Int) (f : Int → Int) (n : Nat) (h : n < xs.length) : ((xs.take n).map f ++ List.replicate (xs.length - n) 0).set n (f (xs.getD n 0)) = (xs.take (n + 1)).map f ++ List.replicate (xs.length - (n + 1)) 0 := by
  have e : xs.length - n = (xs.length - (n + 1)) + 1 := by omega
  rw [e, List.replicate_succ, List.set_append, if_neg (by simp; omega), take_succ_at xs 0 n h]
  have : n - (List.map f (List.take n xs)).length = 0 := by simp; omega
  rw [this]; simp
/-- The first place from i on, of d places, where p holds; -1 if there is none. -/
def ffrom (p : Nat → Bool) : Nat → Nat → Int
  | 0, _ => -1
  | d + 1, i => if p i then (i : Int) else ffrom p d (i + 1)
theorem ffrom_shift (p q : Nat → Bool) (m : Nat) : ∀ (d i : Nat), (∀ j, i ≤ j → j < i + d → q (m + j) = p j) → ffrom q d (m + i) = if ffrom p d i = -1 then -1 else ffrom p d i + m
  | 0, i, _ => by simp [ffrom]
  | d + 1, i, h => by
    have h0 := h i (Nat.le_refl _) (by omega)
    have ih := ffrom_shift p q m d (i + 1) (fun j h1 h2 => h j (by omega) (by omega))
    simp only [ffrom, h0]
    by_cases hp : p i
    · simp [hp]; omega
    · simp [hp]; exact ih
theorem ffrom_range (p : Nat → Bool) : ∀ (d i : Nat), ffrom p d i = -1 ∨ ((i : Int) ≤ ffrom p d i ∧ ffrom p d i < i + d)
  | 0, _ => .inl rfl
  | d + 1, i => by
    simp only [ffrom]
    split
    · right; omega
    · rcases ffrom_range p d (i + 1) with h | h
      · exact .inl h
      · right; omega
end Go.Proofs.YtoafkjeamgelgaaW.PrintWords
