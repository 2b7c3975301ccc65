/- The least number of characters that must be deleted and inserted to make one list of another. -/
import Derived.Test.YthkiaiilpaojnaaDoorUPB
import Derived.Test.YthkiaiilpaojnaaDoorUFB
namespace Go.Proofs.YthkiaiilpaojnaaDoorUF
open Go
set_option linter.unusedVariables false
set_option linter.unusedSimpArgs false
def dst : List Int → List Int → Nat
  | [], v => v.length
  | a :: u, [] => u.length + 1
  | a :: u, b :: v => if a = b then dst u v else 1 + min (dst u (b :: v)) (dst (a :: u) v)
  termination_by u v => u.length + v.length
theorem dst_nil (v : List Int) : dst [] v = v.length := by unfold dst; rfl
theorem dst_nil' (u : List Int) : dst u [] = u.length := by cases u <;> (unfold dst; simp)
theorem dst_cons (a b : Int) (u v : List Int) : dst (a :: u) (b :: v) = if a = b then dst u v else 1 + min (dst u (b :: v)) (dst (a :: u) v) := by
  conv => lhs; unfold dst
theorem dst_same (a : Int) (u v : List Int) : dst (a :: u) (a :: v) = dst u v := by rw [dst_cons, if_pos rfl]
theorem dst_lip_aux : ∀ (n : Nat) (u v : List Int), u.length + v.length ≤ n →
    (∀ a, dst (a :: u) v ≤ 1 + dst u v ∧ dst u v ≤ 1 + dst (a :: u) v) ∧ (∀ b, dst u (b :: v) ≤ 1 + dst u v ∧ dst u v ≤ 1 + dst u (b :: v)) := by
  intro n
  induction n with
  | zero =>
    intro u v h
    have hu : u = [] := List.eq_nil_of_length_eq_zero (by omega)
    have hv : v = [] := List.eq_nil_of_length_eq_zero (by omega)
    subst hu; subst hv
    refine ⟨fun a => ?_, fun b => ?_⟩ <;> simp [dst_nil, dst_nil']
  | succ n ih =>
    intro u v h
    refine ⟨fun a => ?_, fun b => ?_⟩
    · match v, h with
      | [], h => simp [dst_nil']; omega
      | b :: v, h =>
        rw [dst_cons]
        split
        · have h1 := ((ih u v (by simp at h; omega)).2 b)
          omega
        · refine ⟨by omega, ?_⟩
          -- dst u (b :: v) against 1 + (1 + min ..)
          have h2 := (ih u v (by simp at h; omega)).1 a
          have h3 := (ih u v (by simp at h; omega)).2 b
          omega
    · match u, h with
      | [], h => simp [dst_nil]; omega
      | a :: u, h =>
        rw [dst_cons]
        split
        · have h1 := ((ih u v (by simp at h; omega)).1 a)
          omega
        · refine ⟨by omega, ?_⟩
          have h2 := (ih u v (by simp at h; omega)).1 a
          have h3 := (ih u v (by simp at h; omega)).2 b
          omega
theorem dst_l1 (a : Int) (u v : List Int) : dst (a :: u) v ≤ 1 + dst u v := ((dst_lip_aux _ u v (Nat.le_refl _)).1 a).1
theorem dst_l1' (a : Int) (u v : List Int) : dst u v ≤ 1 + dst (a :: u) v := ((dst_lip_aux _ u v (Nat.le_refl _)).1 a).2
theorem dst_l2 (b : Int) (u v : List Int) : dst u (b :: v) ≤ 1 + dst u v := ((dst_lip_aux _ u v (Nat.le_refl _)).2 b).1
theorem dst_l2' (b : Int) (u v : List Int) : dst u v ≤ 1 + dst u (b :: v) := ((dst_lip_aux _ u v (Nat.le_refl _)).2 b).2
theorem dst_mono (a b : Int) (u v : List Int) : dst u v ≤ dst (a :: u) (b :: v) := by
  rw [dst_cons]
  split
  · omega
  · have h1 := dst_l2' b u v
    have h2 := dst_l1' a u v
    omega
theorem dst_ge : ∀ (n : Nat) (u v : List Int), u.length + v.length ≤ n → u.length ≤ dst u v + v.length ∧ v.length ≤ dst u v + u.length ∧ (dst u v + u.length + v.length) % 2 = 0 ∧ dst u v ≤ u.length + v.length
  | n, [], v, _ => by rw [dst_nil]; simp; omega
  | n, a :: u, [], _ => by rw [dst_nil']; simp; omega
  | 0, a :: u, b :: v, h => by simp at h
  | n + 1, a :: u, b :: v, h => by
    have h1 := dst_ge n u v (by simp at h; omega)
    have h2 := dst_ge n u (b :: v) (by simp at h ⊢; omega)
    have h3 := dst_ge n (a :: u) v (by simp at h ⊢; omega)
    rw [dst_cons]
    simp only [List.length_cons] at h h2 h3 ⊢
    split <;> omega
theorem dst_lo (u v : List Int) : u.length ≤ dst u v + v.length ∧ v.length ≤ dst u v + u.length := ⟨(dst_ge _ u v (Nat.le_refl _)).1, (dst_ge _ u v (Nat.le_refl _)).2.1⟩
theorem dst_par (u v : List Int) : (dst u v + u.length + v.length) % 2 = 0 := (dst_ge _ u v (Nat.le_refl _)).2.2.1
theorem dst_hi (u v : List Int) : dst u v ≤ u.length + v.length := (dst_ge _ u v (Nat.le_refl _)).2.2.2
theorem dst_pre1 : ∀ (u w v : List Int), dst (u ++ w) v ≤ u.length + dst w v
  | [], w, v => by simp
  | a :: u, w, v => by
    have := dst_pre1 u w v
    have := dst_l1 a (u ++ w) v
    simp; omega
theorem dst_pre2 : ∀ (u w v : List Int), dst v (u ++ w) ≤ u.length + dst v w
  | [], w, v => by simp
  | a :: u, w, v => by
    have := dst_pre2 u w v
    have := dst_l2 a v (u ++ w)
    simp; omega
theorem dst_append : ∀ (n : Nat) (u1 v1 u2 v2 : List Int), u1.length + v1.length ≤ n → dst (u1 ++ u2) (v1 ++ v2) ≤ dst u1 v1 + dst u2 v2
  | n, [], v1, u2, v2, _ => by rw [dst_nil]; exact dst_pre2 v1 v2 u2
  | n, a :: u, [], u2, v2, _ => by rw [dst_nil']; exact dst_pre1 (a :: u) u2 v2
  | 0, a :: u, b :: v, _, _, h => by simp at h
  | n + 1, a :: u, b :: v, u2, v2, h => by
    have h1 := dst_append n u v u2 v2 (by simp at h; omega)
    have h2 := dst_append n u (b :: v) u2 v2 (by simp at h ⊢; omega)
    have h3 := dst_append n (a :: u) v u2 v2 (by simp at h ⊢; omega)
    simp only [List.cons_append] at h2 h3 ⊢
    rw [dst_cons, dst_cons]
    split <;> omega
theorem dst_app (u1 v1 u2 v2 : List Int) : dst (u1 ++ u2) (v1 ++ v2) ≤ dst u1 v1 + dst u2 v2 := dst_append _ u1 v1 u2 v2 (Nat.le_refl _)
theorem dst_rev_le : ∀ (n : Nat) (u v : List Int), u.length + v.length ≤ n → dst u.reverse v.reverse ≤ dst u v
  | n, [], v, _ => by simp [dst_nil]
  | n, a :: u, [], _ => by simp [dst_nil']
  | 0, a :: u, b :: v, h => by simp at h
  | n + 1, a :: u, b :: v, h => by
    have h1 := dst_rev_le n u v (by simp at h; omega)
    have h2 := dst_rev_le n u (b :: v) (by simp at h ⊢; omega)
    have h3 := dst_rev_le n (a :: u) v (by simp at h ⊢; omega)
    rw [dst_cons]
    split
    · rename_i e
      subst e
      have := dst_app u.reverse v.reverse [a] [a]
      rw [dst_same, dst_nil] at this
      simp only [List.reverse_cons, List.length_nil] at this ⊢
      omega
    · have g1 := dst_app u.reverse (b :: v).reverse [a] []
      have g2 := dst_app (a :: u).reverse v.reverse [] [b]
      rw [dst_nil'] at g1
      rw [dst_nil] at g2
      simp only [List.reverse_cons, List.append_nil, List.length_cons, List.length_nil] at g1 g2 h2 h3 ⊢
      omega
theorem dst_rev (u v : List Int) : dst u.reverse v.reverse = dst u v := by
  refine Nat.le_antisymm (dst_rev_le _ u v (Nat.le_refl _)) ?_
  have := dst_rev_le _ u.reverse v.reverse (Nat.le_refl _)
  simpa using this
theorem dst_comm : ∀ (n : Nat) (u v : List Int), u.length + v.length ≤ n → dst u v = dst v u
  | n, [], v, _ => by rw [dst_nil, dst_nil']
  | n, a :: u, [], _ => by rw [dst_nil, dst_nil']
  | 0, a :: u, b :: v, h => by simp at h
  | n + 1, a :: u, b :: v, h => by
    have h1 := dst_comm n u v (by simp at h; omega)
    have h2 := dst_comm n u (b :: v) (by simp at h ⊢; omega)
    have h3 := dst_comm n (a :: u) v (by simp at h ⊢; omega)
    rw [dst_cons, dst_cons]
    by_cases e : a = b
    · rw [if_pos e, if_pos e.symm, h1]
    · rw [if_neg e, if_neg (fun h => e h.symm), h2, h3, Nat.min_comm]
theorem dst_self : ∀ u : List Int, dst u u = 0
  | [] => by rw [dst_nil]; rfl
  | a :: u => by rw [dst_same]; exact dst_self u
theorem dst_zero : ∀ {u v : List Int}, dst u v = 0 → u = v
  | [], v, h => by rw [dst_nil] at h; exact (List.eq_nil_of_length_eq_zero h).symm
  | a :: u, [], h => by rw [dst_nil'] at h; simp at h
  | a :: u, b :: v, h => by
    rw [dst_cons] at h
    split at h
    · rename_i e; rw [e, dst_zero h]
    · omega
/-- What both begin with does not count. -/
theorem dst_pre_same : ∀ (p u v : List Int), dst (p ++ u) (p ++ v) = dst u v
  | [], u, v => rfl
  | a :: p, u, v => by simp only [List.cons_append]; rw [dst_same]; exact dst_pre_same p u v
theorem dst_suf_same (p u v : List Int) : dst (u ++ p) (v ++ p) = dst u v := by
  rw [← dst_rev, List.reverse_append, List.reverse_append, dst_pre_same, dst_rev]
end Go.Proofs.YthkiaiilpaojnaaDoorUF
