/- The grid of two lists: how far a place is from the beginning and from the end; places on shortest ways. -/
import Derived.Test.YthkiaiilpaojnaaDoorUPB
import Derived.Test.YthkiaiilpaojnaaDoorUPDist
import Derived.Test.YthkiaiilpaojnaaDoorUFB
namespace Go.Proofs.YthkiaiilpaojnaaDoorUF
open Go
set_option linter.unusedVariables false
set_option linter.unusedSimpArgs false
section
variable (A B : List Int)
/-- From the beginning, beyond the borders too. -/
def ft (x y : Nat) : Nat := dst (A.take x).reverse (B.take y).reverse + (x - A.length) + (y - B.length)
/-- To the end. -/
def gt (x y : Nat) : Nat := dst (A.drop x) (B.drop y)
end
variable {A B : List Int}
theorem take_rev (A : List Int) {x : Nat} (h : x < A.length) : (A.take (x + 1)).reverse = A[x] :: (A.take x).reverse := by
  rw [List.take_succ_eq_append_getElem h, List.reverse_append]; rfl
theorem take_all (A : List Int) {x : Nat} (h : A.length ≤ x) : A.take (x + 1) = A.take x := by
  rw [List.take_of_length_le (by omega), List.take_of_length_le h]
theorem drop_at (A : List Int) {x : Nat} (h : x < A.length) : A.drop x = A[x] :: A.drop (x + 1) := List.drop_eq_getElem_cons h
theorem ft_right (x y : Nat) : ft A B (x + 1) y ≤ ft A B x y + 1 := by
  unfold ft
  by_cases h : x < A.length
  · rw [take_rev A h]
    have := dst_l1 A[x] (A.take x).reverse (B.take y).reverse
    omega
  · rw [take_all A (by omega)]; omega
theorem ft_down (x y : Nat) : ft A B x (y + 1) ≤ ft A B x y + 1 := by
  unfold ft
  by_cases h : y < B.length
  · rw [take_rev B h]
    have := dst_l2 B[y] (A.take x).reverse (B.take y).reverse
    omega
  · rw [take_all B (by omega)]; omega
theorem ft_same {x y : Nat} (hx : x < A.length) (hy : y < B.length) (h : A[x] = B[y]) : ft A B (x + 1) (y + 1) = ft A B x y := by
  unfold ft
  rw [take_rev A hx, take_rev B hy, h, dst_same]; omega
theorem ft_mono1 (x y : Nat) : ft A B x y ≤ ft A B (x + 1) (y + 1) := by
  unfold ft
  by_cases hx : x < A.length
  · rw [take_rev A hx]
    by_cases hy : y < B.length
    · rw [take_rev B hy]
      have := dst_mono A[x] B[y] (A.take x).reverse (B.take y).reverse
      omega
    · rw [take_all B (by omega)]
      have := dst_l1' A[x] (A.take x).reverse (B.take y).reverse
      omega
  · rw [take_all A (by omega)]
    by_cases hy : y < B.length
    · rw [take_rev B hy]
      have := dst_l2' B[y] (A.take x).reverse (B.take y).reverse
      omega
    · rw [take_all B (by omega)]; omega
theorem ft_mono (x y : Nat) : ∀ t : Nat, ft A B x y ≤ ft A B (x + t) (y + t)
  | 0 => Nat.le_refl _
  | t + 1 => Nat.le_trans (ft_mono x y t) (ft_mono1 (x + t) (y + t))
theorem ft_grid {x y : Nat} (hx : x ≤ A.length) (hy : y ≤ B.length) : ft A B x y = dst (A.take x).reverse (B.take y).reverse := by unfold ft; omega
theorem ft_par (x y : Nat) : (ft A B x y + x + y) % 2 = 0 := by
  unfold ft
  have := dst_par (A.take x).reverse (B.take y).reverse
  simp only [List.length_reverse, List.length_take] at this
  omega
theorem ft_zero : ft A B 0 0 = 0 := by unfold ft; simp [dst_nil]
theorem ft_lo {x y : Nat} (hx : x ≤ A.length) (hy : y ≤ B.length) : x ≤ ft A B x y + y ∧ y ≤ ft A B x y + x := by
  rw [ft_grid hx hy]
  have := dst_lo (A.take x).reverse (B.take y).reverse
  simp only [List.length_reverse, List.length_take] at this
  omega
theorem gt_lo {x y : Nat} (hx : x ≤ A.length) (hy : y ≤ B.length) : A.length - x ≤ gt A B x y + (B.length - y) ∧ B.length - y ≤ gt A B x y + (A.length - x) := by
  unfold gt
  have := dst_lo (A.drop x) (B.drop y)
  simpa only [List.length_drop] using this
theorem gt_zero : gt A B 0 0 = dst A B := rfl
theorem ft_end : ft A B A.length B.length = dst A B := by
  rw [ft_grid (Nat.le_refl _) (Nat.le_refl _), List.take_length, List.take_length, dst_rev]
theorem gt_end : gt A B A.length B.length = 0 := by unfold gt; simp [dst_nil]
theorem ft_gt (x y : Nat) (hx : x ≤ A.length) (hy : y ≤ B.length) : dst A B ≤ ft A B x y + gt A B x y := by
  rw [ft_grid hx hy, dst_rev]
  have := dst_app (A.take x) (B.take y) (A.drop x) (B.drop y)
  rw [List.take_append_drop, List.take_append_drop] at this
  exact this
/-- A place on a shortest way. -/
structure Opt (A B : List Int) (x y : Nat) : Prop where
  hx : x ≤ A.length
  hy : y ≤ B.length
  sum : ft A B x y + gt A B x y = dst A B
theorem Opt.zero : Opt A B 0 0 := ⟨Nat.zero_le _, Nat.zero_le _, by rw [ft_zero, gt_zero]; omega⟩
theorem gt_right {x y : Nat} (h : x < A.length) : gt A B x y ≤ 1 + gt A B (x + 1) y := by
  unfold gt; rw [drop_at A h]; exact dst_l1 _ _ _
theorem gt_down {x y : Nat} (h : y < B.length) : gt A B x y ≤ 1 + gt A B x (y + 1) := by
  unfold gt; rw [drop_at B h]; exact dst_l2 _ _ _
theorem gt_same {x y : Nat} (hx : x < A.length) (hy : y < B.length) (h : A[x] = B[y]) : gt A B x y = gt A B (x + 1) (y + 1) := by
  unfold gt; rw [drop_at A hx, drop_at B hy, h, dst_same]
/-- How a place on a shortest way is come to. -/
theorem Opt.pred {x y : Nat} (h : Opt A B x y) :
    (x = 0 ∧ y = 0) ∨
    (∃ x' y', ∃ (hx : x' < A.length) (hy : y' < B.length), x = x' + 1 ∧ y = y' + 1 ∧ A[x'] = B[y'] ∧ Opt A B x' y' ∧ ft A B x y = ft A B x' y') ∨
    (∃ x', x = x' + 1 ∧ Opt A B x' y ∧ ft A B x y = ft A B x' y + 1) ∨
    (∃ y', y = y' + 1 ∧ Opt A B x y' ∧ ft A B x y = ft A B x y' + 1) := by
  have right : ∀ x', x = x' + 1 → ft A B x y = ft A B x' y + 1 → Opt A B x' y := fun x' e hf => by
    have hx := h.hx
    have hs := h.sum
    refine ⟨by omega, h.hy, ?_⟩
    have h1 := ft_gt (A := A) (B := B) x' y (by omega) h.hy
    have h2 := gt_right (A := A) (B := B) (x := x') (y := y) (by omega)
    rw [← e] at h2
    omega
  have down : ∀ y', y = y' + 1 → ft A B x y = ft A B x y' + 1 → Opt A B x y' := fun y' e hf => by
    have hy := h.hy
    have hs := h.sum
    refine ⟨h.hx, by omega, ?_⟩
    have h1 := ft_gt (A := A) (B := B) x y' h.hx (by omega)
    have h2 := gt_down (A := A) (B := B) (x := x) (y := y') (by omega)
    rw [← e] at h2
    omega
  have hx := h.hx
  have hy := h.hy
  match x, y, h with
  | 0, 0, h => exact .inl ⟨rfl, rfl⟩
  | x + 1, 0, h =>
    refine .inr (.inr (.inl ⟨x, rfl, ?_⟩))
    have : ft A B (x + 1) 0 = ft A B x 0 + 1 := by
      rw [ft_grid hx hy, ft_grid (by omega) hy]
      simp [dst_nil']
      omega
    exact ⟨right x rfl this, this⟩
  | 0, y + 1, h =>
    refine .inr (.inr (.inr ⟨y, rfl, ?_⟩))
    have : ft A B 0 (y + 1) = ft A B 0 y + 1 := by
      rw [ft_grid hx hy, ft_grid hx (by omega)]
      simp [dst_nil]
      omega
    exact ⟨down y rfl this, this⟩
  | x + 1, y + 1, h =>
    by_cases e : A[x]'(by omega) = B[y]'(by omega)
    · refine .inr (.inl ⟨x, y, by omega, by omega, rfl, rfl, e, ⟨by omega, by omega, ?_⟩, ft_same (by omega) (by omega) e⟩)
      have h1 := ft_same (A := A) (B := B) (x := x) (y := y) (by omega) (by omega) e
      have h2 := gt_same (A := A) (B := B) (x := x) (y := y) (by omega) (by omega) e
      have h3 := h.sum
      omega
    · have key : ft A B (x + 1) (y + 1) = 1 + min (ft A B x (y + 1)) (ft A B (x + 1) y) := by
        rw [ft_grid hx hy, ft_grid (by omega) hy, ft_grid hx (by omega), take_rev A (by omega : x < A.length), take_rev B (by omega : y < B.length), dst_cons, if_neg e]
      by_cases hm : ft A B x (y + 1) ≤ ft A B (x + 1) y
      · rw [Nat.min_eq_left hm] at key
        exact .inr (.inr (.inl ⟨x, rfl, right x rfl (by omega), by omega⟩))
      · rw [Nat.min_eq_right (by omega)] at key
        exact .inr (.inr (.inr ⟨y, rfl, down y rfl (by omega), by omega⟩))
/-- There is one of each number of edits. -/
theorem Opt.next : ∀ (n x y : Nat), A.length - x + (B.length - y) ≤ n → Opt A B x y → ft A B x y < dst A B → ∃ x' y', Opt A B x' y' ∧ ft A B x' y' = ft A B x y + 1 := by
  intro n
  induction n with
  | zero =>
    intro x y hn h hd
    have hx := h.hx
    have hy := h.hy
    obtain rfl : x = A.length := by omega
    obtain rfl : y = B.length := by omega
    rw [ft_end] at hd; omega
  | succ n ih =>
    intro x y hn h hd
    have hx := h.hx
    have hy := h.hy
    have hs := h.sum
    by_cases ex : x = A.length
    · subst ex
      have hg := h.sum
      by_cases ey : y = B.length
      · subst ey; rw [ft_end] at hd; omega
      · have h1 := ft_down (A := A) (B := B) A.length y
        have h2 := ft_gt (A := A) (B := B) A.length (y + 1) (Nat.le_refl _) (by omega)
        have h3 : gt A B A.length y = gt A B A.length (y + 1) + 1 := by
          unfold gt; simp [dst_nil]; omega
        exact ⟨A.length, y + 1, ⟨Nat.le_refl _, by omega, by omega⟩, by omega⟩
    · by_cases ey : y = B.length
      · subst ey
        have h1 := ft_right (A := A) (B := B) x B.length
        have h2 := ft_gt (A := A) (B := B) (x + 1) B.length (by omega) (Nat.le_refl _)
        have h3 : gt A B x B.length = gt A B (x + 1) B.length + 1 := by
          unfold gt; simp [dst_nil']; omega
        exact ⟨x + 1, B.length, ⟨by omega, Nat.le_refl _, by omega⟩, by omega⟩
      · by_cases e : A[x]'(by omega) = B[y]'(by omega)
        · have h1 := ft_same (A := A) (B := B) (x := x) (y := y) (by omega) (by omega) e
          have h2 := gt_same (A := A) (B := B) (x := x) (y := y) (by omega) (by omega) e
          have := ih (x + 1) (y + 1) (by omega) ⟨by omega, by omega, by omega⟩ (by omega)
          rw [h1] at this; exact this
        · have key : gt A B x y = 1 + min (gt A B (x + 1) y) (gt A B x (y + 1)) := by
            unfold gt
            rw [drop_at A (by omega : x < A.length), drop_at B (by omega : y < B.length), dst_cons, if_neg e]
          have h1 := ft_down (A := A) (B := B) x y
          have h2 := ft_gt (A := A) (B := B) x (y + 1) (by omega) (by omega)
          have h3 := ft_right (A := A) (B := B) x y
          have h4 := ft_gt (A := A) (B := B) (x + 1) y (by omega) (by omega)
          by_cases hm : gt A B (x + 1) y ≤ gt A B x (y + 1)
          · rw [Nat.min_eq_left hm] at key
            exact ⟨x + 1, y, ⟨by omega, by omega, by omega⟩, by omega⟩
          · rw [Nat.min_eq_right (by omega)] at key
            exact ⟨x, y + 1, ⟨by omega, by omega, by omega⟩, by omega⟩
theorem Opt.level : ∀ d : Nat, d ≤ dst A B → ∃ x y, Opt A B x y ∧ ft A B x y = d
  | 0, _ => ⟨0, 0, Opt.zero, ft_zero⟩
  | d + 1, h => by
    obtain ⟨x, y, h1, h2⟩ := Opt.level d (by omega)
    obtain ⟨x', y', h3, h4⟩ := Opt.next _ x y (Nat.le_refl _) h1 (by omega)
    exact ⟨x', y', h3, by omega⟩
/-- Off the right border. -/
theorem ft_off_right {x y d : Nat} (hx : A.length < x) (hd : ft A B x y ≤ d) (hD : d ≤ dst A B) : y ≤ B.length ∧ dst A B + (x - A.length) ≤ d + (B.length - y) := by
  by_cases hy : y ≤ B.length
  · refine ⟨hy, ?_⟩
    have h1 : ft A B x y = ft A B A.length y + (x - A.length) := by
      unfold ft
      rw [List.take_of_length_le (by omega : A.length ≤ x), List.take_length]; omega
    have h2 := ft_gt (A := A) (B := B) A.length y (Nat.le_refl _) hy
    have h3 : gt A B A.length y = B.length - y := by unfold gt; simp [dst_nil]
    omega
  · exfalso
    have h1 : ft A B x y = dst A B + (x - A.length) + (y - B.length) := by
      unfold ft
      rw [List.take_of_length_le (by omega : A.length ≤ x), List.take_of_length_le (by omega : B.length ≤ y), dst_rev]
    omega
/-- Off the lower border. -/
theorem ft_off_down {x y d : Nat} (hy : B.length < y) (hd : ft A B x y ≤ d) (hD : d ≤ dst A B) : x ≤ A.length ∧ dst A B + (y - B.length) ≤ d + (A.length - x) := by
  by_cases hx : x ≤ A.length
  · refine ⟨hx, ?_⟩
    have h1 : ft A B x y = ft A B x B.length + (y - B.length) := by
      unfold ft
      rw [List.take_of_length_le (by omega : B.length ≤ y), List.take_length]; omega
    have h2 := ft_gt (A := A) (B := B) x B.length hx (Nat.le_refl _)
    have h3 : gt A B x B.length = A.length - x := by unfold gt; simp [dst_nil']
    omega
  · exfalso
    have h1 : ft A B x y = dst A B + (x - A.length) + (y - B.length) := by
      unfold ft
      rw [List.take_of_length_le (by omega : A.length ≤ x), List.take_of_length_le (by omega : B.length ≤ y), dst_rev]
    omega
theorem ft_hi (x y : Nat) : x - A.length ≤ ft A B x y := by unfold ft; omega
/-- The other way round. -/
theorem ft_rev {x y : Nat} (hx : x ≤ A.length) (hy : y ≤ B.length) : ft A.reverse B.reverse (A.length - x) (B.length - y) = gt A B x y := by
  rw [ft_grid (by rw [List.length_reverse]; omega) (by rw [List.length_reverse]; omega)]
  unfold gt
  have e : ∀ (l : List Int) (n : Nat), n ≤ l.length → (l.reverse.take (l.length - n)).reverse = l.drop n := fun l n hn => by
    rw [List.take_reverse]
    simp
    congr 1
    omega
  rw [e A x hx, e B y hy]
theorem Opt.rev {x y : Nat} (h : Opt A B x y) : Opt A.reverse B.reverse (A.length - x) (B.length - y) ∧ ft A.reverse B.reverse (A.length - x) (B.length - y) = gt A B x y := by
  have hx := h.hx
  have hy := h.hy
  have h1 := ft_rev (A := A) (B := B) hx hy
  refine ⟨⟨by rw [List.length_reverse]; omega, by rw [List.length_reverse]; omega, ?_⟩, h1⟩
  have h2 := ft_rev (A := A.reverse) (B := B.reverse) (x := A.length - x) (y := B.length - y) (by rw [List.length_reverse]; omega) (by rw [List.length_reverse]; omega)
  simp only [List.reverse_reverse, List.length_reverse] at h2
  rw [show A.length - (A.length - x) = x by omega, show B.length - (B.length - y) = y by omega] at h2
  rw [h1, ← h2, dst_rev]
  have := h.sum
  omega
end Go.Proofs.YthkiaiilpaojnaaDoorUF
