/- From a first list to a third one by way of a second one is no shorter. -/
import Derived.Test.YticibdjilmclgaaDoorUPB
import Derived.Test.YticibdjilmclgaaDoorUPDist
import Derived.Test.YticibdjilmclgaaDoorUFB
namespace Go.Proofs.YticibdjilmclgaaDoorUF
open Go
set_option linter.unusedVariables false
theorem dst_tri_aux : ∀ (n : Nat) (a b c : List Int), a.length + b.length + c.length ≤ n → dst a c ≤ dst a b + dst b c
  | n, [], b, c, _ => by
    rw [dst_nil, dst_nil]
    have := (dst_lo b c).2; omega
  | n, x :: a, b, [], _ => by
    rw [dst_nil', dst_nil']
    have := (dst_lo (x :: a) b).1; omega
  | n, x :: a, [], z :: c, _ => by
    rw [dst_nil', dst_nil]
    exact dst_hi _ _
  | 0, x :: a, y :: b, z :: c, h => by simp at h
  | n + 1, x :: a, y :: b, z :: c, h => by
    simp only [List.length_cons] at h
    by_cases e1 : x = y
    · by_cases e2 : y = z
      · rw [e1, e2, dst_same, dst_same, dst_same]
        exact dst_tri_aux n a b c (by omega)
      · have h2 := dst_cons y z b c
        rw [if_neg e2] at h2
        have i1 := dst_tri_aux n (x :: a) (y :: b) c (by simp only [List.length_cons]; omega)
        have i2 := dst_tri_aux n (x :: a) b (z :: c) (by simp only [List.length_cons]; omega)
        have l1 := dst_l2 z (x :: a) c
        have l2 := dst_l2' y (x :: a) b
        omega
    · have h1 := dst_cons x y a b
      rw [if_neg e1] at h1
      have i1 := dst_tri_aux n a (y :: b) (z :: c) (by simp only [List.length_cons]; omega)
      have i2 := dst_tri_aux n (x :: a) b (z :: c) (by simp only [List.length_cons]; omega)
      have l1 := dst_l1 x a (z :: c)
      have l2 := dst_l1' y b (z :: c)
      omega
theorem dst_tri (a b c : List Int) : dst a c ≤ dst a b + dst b c := dst_tri_aux _ a b c (Nat.le_refl _)
end Go.Proofs.YticibdjilmclgaaDoorUF
