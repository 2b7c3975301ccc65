/- Loops over lists. -/
import Derived.Test.YthkiaiilpaojnaaDoorUPB
import Derived.Test.YthkiaiilpaojnaaDoorUFB
namespace Go.Proofs.YthkiaiilpaojnaaDoorUF
open Go
set_option linter.unusedVariables false
set_option linter.unusedSimpArgs false
theorem range_fold {α σ β : Type} (xs : List α) (F : Nat → σ → Nat → Option β) (k : σ → Option β) (step : σ → α → σ) (Inv : Nat → σ → Prop)
    (h1 : ∀ m s i (hi : i < xs.length), Inv i s → F (m + 1) s i = F m (step s xs[i]) (i + 1) ∧ Inv (i + 1) (step s xs[i]))
    (h2 : ∀ m s, Inv xs.length s → F (m + 1) s xs.length = k s) : ∀ m s, xs.length < m → Inv 0 s → F m s 0 = k (xs.foldl step s) := by
  have key : ∀ (d i m : Nat) (s : σ), xs.length - i = d → i ≤ xs.length → d < m → Inv i s → F m s i = k ((xs.drop i).foldl step s) := by
    intro d
    induction d with
    | zero =>
      intro i m s hd hi hm hs
      obtain ⟨m', rfl⟩ : ∃ m', m = m' + 1 := ⟨m - 1, by omega⟩
      obtain rfl : i = xs.length := by omega
      rw [h2 m' s hs, List.drop_length]; rfl
    | succ d ih =>
      intro i m s hd hi hm hs
      obtain ⟨m', rfl⟩ : ∃ m', m = m' + 1 := ⟨m - 1, by omega⟩
      have hl : i < xs.length := by omega
      obtain ⟨e, hs'⟩ := h1 m' s i hl hs
      rw [e, ih (i + 1) m' _ (by omega) (by omega) (by omega) hs', List.drop_eq_getElem_cons hl]; rfl
  intro m s hm hs
  have := key xs.length 0 m s (by omega) (Nat.zero_le _) hm hs
  simpa using this
/-- A loop that stops where an element has a property. -/
theorem range_find {α β : Type} (xs : List α) (F : Nat → Nat → Option β) (kf : (i : Nat) → i < xs.length → Option β) (k : Option β) (p : Nat → α → Bool)
    (h1 : ∀ m i (hi : i < xs.length), (∀ j (hj : j < i), p j (xs[j]'(by omega)) = false) → F (m + 1) i = if p i xs[i] = true then kf i hi else F m (i + 1))
    (h2 : ∀ m, (∀ j (hj : j < xs.length), p j xs[j] = false) → F (m + 1) xs.length = k) : ∀ m, xs.length < m → (∃ i hi, p i (xs[i]'hi) = true ∧ (∀ j (hj : j < i), p j (xs[j]'(by omega)) = false) ∧ F m 0 = kf i hi) ∨ ((∀ j (hj : j < xs.length), p j xs[j] = false) ∧ F m 0 = k) := by
  have key : ∀ (d i m : Nat), xs.length - i = d → (hi : i ≤ xs.length) → d < m → (∀ j (hj : j < i), p j (xs[j]'(by omega)) = false) →
      (∃ i' hi', p i' (xs[i']'hi') = true ∧ (∀ j (hj : j < i'), p j (xs[j]'(by omega)) = false) ∧ F m i = kf i' hi') ∨ ((∀ j (hj : j < xs.length), p j xs[j] = false) ∧ F m i = k) := by
    intro d
    induction d with
    | zero =>
      intro i m hd hi hm hp
      obtain ⟨m', rfl⟩ : ∃ m', m = m' + 1 := ⟨m - 1, by omega⟩
      obtain rfl : i = xs.length := by omega
      exact .inr ⟨hp, h2 m' hp⟩
    | succ d ih =>
      intro i m hd hi hm hp
      obtain ⟨m', rfl⟩ : ∃ m', m = m' + 1 := ⟨m - 1, by omega⟩
      have hl : i < xs.length := by omega
      have e := h1 m' i hl hp
      cases hpi : p i xs[i] with
      | true => rw [hpi, if_pos rfl] at e; exact .inl ⟨i, hl, hpi, hp, e⟩
      | false =>
        rw [hpi, if_neg (by simp)] at e
        rw [e]
        refine ih (i + 1) m' (by omega) (by omega) (by omega) (fun j hj => ?_)
        by_cases hji : j = i
        · subst hji; exact hpi
        · exact hp j (by omega)
  intro m hm
  exact key xs.length 0 m (by omega) (Nat.zero_le _) hm (fun j hj => by omega)
theorem rd_at {α : Type} {xs : List α} {i : Nat} {d : α} (h : i < xs.length) : rd xs (i : Int) d = xs[i] := by
  rw [rd_nat, List.getD_eq_getElem?_getD, List.getElem?_eq_getElem h]; rfl
theorem rd_zero {α : Type} {x d : α} {i : Int} (h : i = 0) : rd [x] i d = x := by subst h; rfl
end Go.Proofs.YthkiaiilpaojnaaDoorUF
