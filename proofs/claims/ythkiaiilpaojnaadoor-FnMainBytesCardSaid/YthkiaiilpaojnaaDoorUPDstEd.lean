/- Each difference edits at least the distance; merging does not lengthen. -/
import Derived.Test.YthkiaiilpaojnaaDoorUPB
import Derived.Test.YthkiaiilpaojnaaDoorUPLoop
import Derived.Test.YthkiaiilpaojnaaDoorUPUtf
import Derived.Test.YthkiaiilpaojnaaDoorUPEnc
import Derived.Test.YthkiaiilpaojnaaDoorUPParts
import Derived.Test.YthkiaiilpaojnaaDoorUPTexts
import Derived.Test.YthkiaiilpaojnaaDoorUPCmp
import Derived.Test.YthkiaiilpaojnaaDoorUPMerge
import Derived.Test.YthkiaiilpaojnaaDoorUPMerge2
import Derived.Test.YthkiaiilpaojnaaDoorUPDist
import Derived.Test.YthkiaiilpaojnaaDoorUFB
namespace Go.Proofs.YthkiaiilpaojnaaDoorUF
open Go
set_option linter.unusedVariables false
set_option linter.unusedSimpArgs false
theorem phi_mergeN : ∀ (k : Nat) {y : List Rp}, Ok y → phi (mergeN k y) ≤ phi y := by
  intro k
  induction k with
  | zero => intro y _; exact Nat.le_refl _
  | succ k ih =>
    intro y hy
    rw [mergeN]
    have h4 := phi_slide _ [] (join1 y) false rfl
    have h5 := phi_join1 hy.ops
    have h6 : phi [] = 0 := rfl
    have h7 := ih (Ok.slide _ (A := []) (R := join1 y) (ch := false) rfl Ok.nil hy.join1)
    split
    · omega
    · omega
theorem phi_merge {x : List Rp} (hx : Ok x) : phi (merge x) ≤ phi x := phi_mergeN _ hx
/-- Each difference edits at least as much. -/
theorem dst_le_ed : ∀ l : List Rp, Ops l → dst (srcR l) (tgtR l) ≤ edR l
  | [], _ => by show dst [] [] ≤ 0; rw [dst_nil]; simp
  | (o, t) :: l, h => by
    have ih := dst_le_ed l (h.cons).2
    rcases (h.cons).1 with e | e | e
    · have e : o = -1 := e
      subst e
      have : srcR ((-1, t) :: l) = t ++ srcR l := rfl
      rw [this]
      have h2 : tgtR ((-1, t) :: l) = tgtR l := rfl
      have h3 : edR ((-1, t) :: l) = t.length + edR l := rfl
      rw [h2, h3]
      have := dst_pre1 t (srcR l) (tgtR l)
      omega
    · have e : o = 0 := e
      subst e
      have : srcR ((0, t) :: l) = t ++ srcR l := rfl
      rw [this]
      have h2 : tgtR ((0, t) :: l) = t ++ tgtR l := rfl
      have h3 : edR ((0, t) :: l) = 0 + edR l := rfl
      rw [h2, h3, dst_pre_same]
      omega
    · have e : o = 1 := e
      subst e
      have : srcR ((1, t) :: l) = srcR l := rfl
      rw [this]
      have h2 : tgtR ((1, t) :: l) = t ++ tgtR l := rfl
      have h3 : edR ((1, t) :: l) = t.length + edR l := rfl
      rw [h2, h3]
      have := dst_pre2 t (tgtR l) (srcR l)
      omega
end Go.Proofs.YthkiaiilpaojnaaDoorUF
