/- The definition's least number of edits. -/
import Derived.Test.YthkiaiilpaojnaaDoorUPB
import Derived.Test.YthkiaiilpaojnaaDoorUPLoop
import Derived.Test.YthkiaiilpaojnaaDoorUPDist
import Derived.Test.YthkiaiilpaojnaaDoorUPGrid
import Derived.Test.YthkiaiilpaojnaaDoorUGA4
import Derived.Test.YthkiaiilpaojnaaDoorUFB
namespace Go.Proofs.YthkiaiilpaojnaaDoorUF
open Go
set_option linter.unusedVariables false
set_option linter.unusedSimpArgs false
theorem ft_hi2 {A B : List Int} {x y : Nat} (hx : x ≤ A.length) (hy : y ≤ B.length) : ft A B x y ≤ x + y := by
  rw [ft_grid hx hy]
  have := dst_hi (A.take x).reverse (B.take y).reverse
  simp only [List.length_reverse, List.length_take] at this
  omega
theorem ft_step {A B : List Int} {x y : Nat} (hx : x < A.length) (hy : y < B.length) : ft A B (x + 1) (y + 1) = if A[x] = B[y] then ft A B x y else 1 + min (ft A B x (y + 1)) (ft A B (x + 1) y) := by
  rw [ft_grid (by omega) (by omega), ft_grid (by omega) (by omega), ft_grid (by omega) (by omega), ft_grid (by omega) (by omega), take_rev A hx, take_rev B hy, dst_cons]
/-- How many characters are in common. -/
def cmn (A B : List Int) (x y : Nat) : Nat := (x + y - ft A B x y) / 2
theorem cmn_two {A B : List Int} {x y : Nat} (hx : x ≤ A.length) (hy : y ≤ B.length) : ft A B x y + 2 * cmn A B x y = x + y := by
  have h1 := ft_hi2 hx hy
  have h2 := ft_par (A := A) (B := B) x y
  unfold cmn; omega
theorem rd_setI {v : List Int} {i j : Nat} {x : Int} (hi : i < v.length) (hj : j < v.length) : rd (v.set i x) (j : Int) 0 = if j = i then x else rd v (j : Int) 0 := by
  rw [rd_lt (by omega) (by rw [List.length_set]; omega), List.getElem_set]
  by_cases e : j = i
  · subst e; simp
  · rw [if_neg (by omega), if_neg e, rd_lt (by omega) (by omega)]
theorem crow {A B : List Int} {β : Type} (n : Nat) (kx : List Int → List Int → List Int → Int → Int → Option β) (hB : B.length ≤ 100000) (hA : A.length ≤ 100000) (i : Nat) (hi : i < A.length) (v15 v16 : Int) : ∀ (d k m : Nat) (row : List Int), B.length - k = d → k ≤ B.length → d < m → row.length = B.length + 1 →
    (∀ j, j ≤ k → rd row (j : Int) 0 = cmn A B (i + 1) j) → (∀ j, k < j → j ≤ B.length → rd row (j : Int) 0 = cmn A B i j) →
    ∃ row', g66_5L (β := β) n kx m A B row (i : Int) (cmn A B i k : Int) v15 v16 (B.length : Int) (k : Int) = kx A B row' v15 v16 ∧ row'.length = B.length + 1 ∧ ∀ j, j ≤ B.length → rd row' (j : Int) 0 = cmn A B (i + 1) j := by
  intro d
  induction d with
  | zero =>
    intro k m row hd hk hm hl h1 h2
    obtain ⟨m, rfl⟩ : ∃ m', m = m' + 1 := ⟨m - 1, by omega⟩
    refine ⟨row, ?_, hl, fun j hj => h1 j (by omega)⟩
    rw [g66_5L.eq_2, g66_4, bdF (by omega)]
  | succ d ih =>
    intro k m row hd hk hm hl h1 h2
    obtain ⟨m, rfl⟩ : ∃ m', m = m' + 1 := ⟨m - 1, by omega⟩
    have hkl : k < B.length := by omega
    have c0 := cmn_two (A := A) (B := B) (x := i) (y := k) (by omega) (by omega)
    have c1 := cmn_two (A := A) (B := B) (x := i + 1) (y := k) (by omega) (by omega)
    have c2 := cmn_two (A := A) (B := B) (x := i) (y := k + 1) (by omega) (by omega)
    have c3 := cmn_two (A := A) (B := B) (x := i + 1) (y := k + 1) (by omega) (by omega)
    have hs := ft_step (A := A) (B := B) hi hkl
    have r0 := h1 k (Nat.le_refl _)
    have r1 := h2 (k + 1) (by omega) (by omega)
    rw [show ((k + 1 : Nat) : Int) = (k : Int) + 1 by omega] at r1
    rw [g66_5L.eq_2, g66_4, bdT (by omega), w64_id (n := (k : Int) + 1) (by omega) (by omega)]
    simp only [idx_ok (show (0 : Int) ≤ (k : Int) + 1 by omega) (show (k : Int) + 1 < (row.length : Int) by omega), idx_ok (show (0 : Int) ≤ (k : Int) by omega) (show (k : Int) < (row.length : Int) by omega)]
    rw [idx_ok (by omega) (by omega), idx_ok (by omega) (by omega), rd_at hi, rd_at hkl, r0, r1, show ((k : Int) + 1).toNat = k + 1 by omega]
    have go : ∀ row' : List Int, row'.length = B.length + 1 → (∀ j, j ≤ k + 1 → rd row' (j : Int) 0 = cmn A B (i + 1) j) → (∀ j, k + 1 < j → j ≤ B.length → rd row' (j : Int) 0 = cmn A B i j) → ∃ row'', g66_5L (β := β) n kx m A B row' (i : Int) (cmn A B i (k + 1) : Int) v15 v16 (B.length : Int) ((k : Int) + 1) = kx A B row'' v15 v16 ∧ row''.length = B.length + 1 ∧ ∀ j, j ≤ B.length → rd row'' (j : Int) 0 = cmn A B (i + 1) j := fun row' g1 g2 g3 => by
      have := ih (k + 1) m row' (by omega) (by omega) (by omega) g1 g2 g3
      rw [show ((k + 1 : Nat) : Int) = (k : Int) + 1 by omega] at this
      exact this
    have set_ok : ∀ z : Int, z = cmn A B (i + 1) (k + 1) → (∀ j, j ≤ k + 1 → rd (row.set (k + 1) z) (j : Int) 0 = cmn A B (i + 1) j) ∧ (∀ j, k + 1 < j → j ≤ B.length → rd (row.set (k + 1) z) (j : Int) 0 = cmn A B i j) := fun z hz => by
      refine ⟨fun j hj => ?_, fun j hj hj2 => ?_⟩
      · rw [rd_setI (by omega) (by omega)]
        by_cases e : j = k + 1
        · subst e; rw [if_pos rfl, hz]
        · rw [if_neg e]; exact h1 j (by omega)
      · rw [rd_setI (by omega) (by omega), if_neg (by omega)]; exact h2 j (by omega) hj2
    by_cases e : A[i] = B[k]
    · rw [if_pos e] at hs
      rw [biT (by simp [e]), w64_id (by omega) (by omega)]
      have := set_ok ((cmn A B i k : Int) + 1) (by omega)
      exact go _ (by rw [List.length_set]; exact hl) this.1 this.2
    · rw [if_neg e] at hs
      rw [biF (by simp [e])]
      by_cases hg : (cmn A B (i + 1) k : Int) > cmn A B i (k + 1)
      · rw [bdT hg]
        have := set_ok (cmn A B (i + 1) k : Int) (by omega)
        exact go _ (by rw [List.length_set]; exact hl) this.1 this.2
      · rw [bdF hg]
        refine go row hl (fun j hj => ?_) fun j hj hj2 => h2 j (by omega) hj2
        by_cases e : j = k + 1
        · subst e
          rw [show ((k + 1 : Nat) : Int) = (k : Int) + 1 by omega, r1]; omega
        · exact h1 j (by omega)
theorem common_ok (n : Nat) (hn : Big ≤ n) (A B : List Int) (hB : B.length ≤ 100000) (hA : A.length ≤ 100000) : g66 n A B = some ((cmn A B A.length B.length : Int), ()) := by
  have rows : ∀ (d i m : Nat) (row : List Int), A.length - i = d → i ≤ A.length → d < m → row.length = B.length + 1 → (∀ j, j ≤ B.length → rd row (j : Int) 0 = cmn A B i j) →
      g66_11L n (fun x1 x5 => g66_13 n (fun v4 => @some (DenR [.dat (.int .i64)]) (v4, ())) x1 x5) m A B row (A.length : Int) (i : Int) = some ((cmn A B A.length B.length : Int), ()) := by
    intro d
    induction d with
    | zero =>
      intro i m row hd hi hm hl hr
      obtain ⟨m, rfl⟩ : ∃ m', m = m' + 1 := ⟨m - 1, by omega⟩
      obtain rfl : i = A.length := by omega
      rw [g66_11L.eq_2]
      dsimp only [g66_10, g66_2, g66_13]
      rw [bdF (by omega), idx_ok (by omega) (by omega), hr B.length (Nat.le_refl _)]
    | succ d ih =>
      intro i m row hd hi hm hl hr
      obtain ⟨m, rfl⟩ : ∃ m', m = m' + 1 := ⟨m - 1, by omega⟩
      rw [g66_11L.eq_2]
      dsimp only [g66_10, g66_2, g66_8, g66_7, g66_3, g66_6, g66_5]
      rw [bdT (by omega)]
      have z : ∀ x, x ≤ A.length → cmn A B x 0 = 0 := fun x hx => by
        have h1 := cmn_two (A := A) (B := B) (x := x) (y := 0) hx (Nat.zero_le _)
        have h2 := (ft_lo (A := A) (B := B) (x := x) (y := 0) hx (Nat.zero_le _)).1
        omega
      obtain ⟨row', g1, g2, g3⟩ := crow (A := A) (B := B) (β := DenR [.dat (.int .i64)]) n (fun x0 x1 x5 v15 v16 => g66_9 n (g66_11L n (fun x1 x5 => g66_13 n (fun v4 => some (v4, ())) x1 x5) m) x0 x1 x5 v15 v16) hB hA i (by omega) (A.length : Int) (i : Int) B.length 0 n row (by omega) (by omega) (by unfold Big at hn; omega) hl (fun j hj => by
          obtain rfl : j = 0 := by omega
          rw [hr 0 (by omega), z i (by omega), z (i + 1) (by omega)]) fun j hj hj2 => hr j hj2
      rw [z i (by omega)] at g1
      refine Eq.trans g1 ?_
      dsimp only [g66_9]
      rw [w64_id (by omega) (by omega)]
      exact ih (i + 1) m row' (by omega) (by omega) (by omega) g2 g3
  dsimp only [g66, g66_14, g66_12, g66_11, g66_1]
  rw [w64_id (by omega) (by omega), bnd_ok (by omega) (by omega) (by omega), roomI_ok (by omega), show ((B.length : Int) + 1).toNat = B.length + 1 by omega]
  refine rows A.length 0 n _ (by omega) (by omega) (by unfold Big at hn; omega) (by simp) fun j hj => ?_
  rw [rd_at (by simp; omega)]
  have h1 := cmn_two (A := A) (B := B) (x := 0) (y := j) (Nat.zero_le _) hj
  have h2 := (ft_lo (A := A) (B := B) (x := 0) (y := j) (Nat.zero_le _) hj).2
  simp; omega
theorem least_ok (n : Nat) (hn : Big ≤ n) (A B : List Int) (hB : B.length ≤ 100000) (hA : A.length ≤ 100000) : g38 n A B = some ((dst A B : Int), ()) := by
  dsimp only [g38, g38_1]
  rw [common_ok n hn A B hB hA, Option.bind_some]
  have h1 := cmn_two (A := A) (B := B) (x := A.length) (y := B.length) (Nat.le_refl _) (Nat.le_refl _)
  rw [ft_end] at h1
  simp only
  rw [w64_id (n := (A.length : Int) + B.length) (by omega) (by omega), w64_id (n := 2 * (cmn A B A.length B.length : Int)) (by omega) (by omega), w64_id (by omega) (by omega), show (A.length : Int) + B.length - 2 * (cmn A B A.length B.length : Int) = (dst A B : Int) by omega]
end Go.Proofs.YthkiaiilpaojnaaDoorUF
