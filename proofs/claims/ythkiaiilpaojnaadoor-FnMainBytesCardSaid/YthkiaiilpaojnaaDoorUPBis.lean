/- The search for the middle of a shortest way: the program's loops. -/
import Derived.Test.YthkiaiilpaojnaaDoorUPB
import Derived.Test.YthkiaiilpaojnaaDoorUPLoop
import Derived.Test.YthkiaiilpaojnaaDoorUPDist
import Derived.Test.YthkiaiilpaojnaaDoorUPGrid
import Derived.Test.YthkiaiilpaojnaaDoorUPMyers
import Derived.Test.YthkiaiilpaojnaaDoorUPMeet
import Derived.Test.YthkiaiilpaojnaaDoorUGA3
import Derived.Test.YthkiaiilpaojnaaDoorUFB
namespace Go.Proofs.YthkiaiilpaojnaaDoorUF
open Go
set_option linter.unusedVariables false
set_option linter.unusedSimpArgs false
/-- A row that holds a number for each diagonal. -/
def Arr (v : List Int) (mD : Int) (V : Int → Int) : Prop := (v.length : Int) = 2 * mD ∧ ∀ j, -mD ≤ j → j < mD → rd v (mD + j) 0 = V j
theorem Arr.set {v : List Int} {mD : Int} {V : Int → Int} (h : Arr v mD V) {k x : Int} (h1 : -mD ≤ k) (h2 : k < mD) : Arr (v.set (mD + k).toNat x) mD (updV V k x) := by
  obtain ⟨hl, hv⟩ := h
  refine ⟨by rw [List.length_set]; exact hl, fun j j1 j2 => ?_⟩
  have e : rd (v.set (mD + k).toNat x) (mD + j) 0 = if j = k then x else rd v (mD + j) 0 := by
    rw [rd_lt (by omega) (by rw [List.length_set]; omega), List.getElem_set]
    by_cases ej : j = k
    · subst ej; simp
    · rw [if_neg (by omega), if_neg ej, rd_lt (by omega) (by omega)]
  rw [e]
  by_cases ej : j = k
  · subst ej; rw [if_pos rfl, updV_same]
  · rw [if_neg ej, updV_other V ej, hv j j1 j2]
section
variable {β : Type} (q110 : DenA g110_A → Option (DenR g110_R)) (q114 : DenA g114_A → Option (DenR g114_R)) (q136 : DenA g136_A → Option (DenR g136_R)) (q143 : DenA g143_A → Option (DenR g143_R))
variable {A B : List Int} {mD : Int} {p0 : AK.den (.pro (.pair (.int .i64) (.pair (.int .i64) (.pair (.int .i64) (.pair (.flt .f64) (.pair (.int .i64) (.pair (.int .i64) (.flt .f64))))))) 0)}
theorem Ent.bound {d k x : Int} (h : Ent A B d k x) : x ≤ A.length + d := by
  have := ft_hi (A := A) (B := B) x.toNat (x - k).toNat
  have := h.2.2
  omega
/-- Where a diagonal begins. -/
theorem fpick (n : Nat) {V1 : Int → Int} {v1 v2 : List Int} {d s0 e0 s e k : Int} (hM : Mid A B mD d s0 e0 s e k V1) (hk : k ≤ d - e) (hA : Arr v1 mD V1) (hm : 2 ≤ mD) (hm2 : mD ≤ 1000000000) (hN : (A.length : Int) ≤ 1000000000)
    (kn) (N M m1 L2 dl : Int) (fr : Bool) (a b c e2 : Int) : g114_9 (β := β) n q110 q114 q136 q143 kn p0 A B N M m1 mD L2 v1 v2 dl fr a b c e2 d k = kn p0 A B N M m1 mD L2 v1 v2 dl fr a b c e2 d k (mD + k) (pick V1 d k) := by
  obtain ⟨hl, hv⟩ := hA
  have hs := hM.hs
  have he := hM.he
  have hd := hM.dpos
  have hdm := hM.dm
  have hkl := hM.klo
  have hkp := hM.kpar
  unfold g114_9
  rw [w64_id (n := 0 - d) (by omega) (by omega), w64_id (n := mD + k) (by omega) (by omega), w64_id (n := mD + k + 1) (by omega) (by omega), w64_id (n := mD + k - 1) (by omega) (by omega)]
  unfold pick
  by_cases c1 : k = -d
  · rw [biT (by simp; omega), idx_ok (by omega) (by omega), if_pos (.inl c1), show mD + k + 1 = mD + (k + 1) by omega, hv (k + 1) (by omega) (by omega)]
  · rw [biF (by simp; omega)]
    by_cases c2 : k = d
    · have hb : V1 (k - 1) ≤ A.length + d := by
        rcases hM.good (k - 1) (by omega) (by omega) with g | g | g
        · omega
        · exact g.bound
        · omega
      have hlo := hM.low (k - 1) (by omega) (by omega)
      rw [biF (by simp [c2]), idx_ok (by omega) (by omega), if_neg (by omega), show mD + k - 1 = mD + (k - 1) by omega, hv (k - 1) (by omega) (by omega), w64_id (by omega) (by omega)]
    · have hb : V1 (k - 1) ≤ A.length + d := by
        rcases hM.good (k - 1) (by omega) (by omega) with g | g | g
        · omega
        · exact g.bound
        · omega
      have hlo := hM.low (k - 1) (by omega) (by omega)
      rw [biT (by simp [c2]), idx_ok (by omega) (by omega), idx_ok (by omega) (by omega), show mD + k + 1 = mD + (k + 1) by omega, show mD + k - 1 = mD + (k - 1) by omega, hv (k + 1) (by omega) (by omega), hv (k - 1) (by omega) (by omega)]
      by_cases c3 : V1 (k - 1) < V1 (k + 1)
      · rw [bdT c3, idx_ok (by omega) (by omega), if_pos (.inr ⟨c2, c3⟩)]
      · rw [bdF c3, idx_ok (by omega) (by omega), if_neg (by omega), w64_id (by omega) (by omega)]
theorem rpick (n : Nat) {V2 : Int → Int} {v1 v2 : List Int} {d s0 e0 s e k : Int} (hM : Mid A.reverse B.reverse mD d s0 e0 s e k V2) (hk : k ≤ d - e) (hA : Arr v2 mD V2) (hm : 2 ≤ mD) (hm2 : mD ≤ 1000000000) (hN : (A.length : Int) ≤ 1000000000)
    (kn) (N M m1 L2 dl : Int) (fr : Bool) (a b c e2 : Int) : g114_23 (β := β) n q110 q114 q136 q143 kn p0 A B N M m1 mD L2 v1 v2 dl fr a b c e2 d k = kn p0 A B N M m1 mD L2 v1 v2 dl fr a b c e2 d k (mD + k) (pick V2 d k) := by
  obtain ⟨hl, hv⟩ := hA
  have hs := hM.hs
  have he := hM.he
  have hd := hM.dpos
  have hdm := hM.dm
  have hkl := hM.klo
  have hkp := hM.kpar
  have hrl : A.reverse.length = A.length := List.length_reverse
  unfold g114_23
  rw [w64_id (n := 0 - d) (by omega) (by omega), w64_id (n := mD + k) (by omega) (by omega), w64_id (n := mD + k + 1) (by omega) (by omega), w64_id (n := mD + k - 1) (by omega) (by omega)]
  unfold pick
  by_cases c1 : k = -d
  · rw [biT (by simp; omega), idx_ok (by omega) (by omega), if_pos (.inl c1), show mD + k + 1 = mD + (k + 1) by omega, hv (k + 1) (by omega) (by omega)]
  · rw [biF (by simp; omega)]
    by_cases c2 : k = d
    · have hb : V2 (k - 1) ≤ A.reverse.length + d := by
        rcases hM.good (k - 1) (by omega) (by omega) with g | g | g
        · omega
        · exact g.bound
        · omega
      have hlo := hM.low (k - 1) (by omega) (by omega)
      rw [biF (by simp [c2]), idx_ok (by omega) (by omega), if_neg (by omega), show mD + k - 1 = mD + (k - 1) by omega, hv (k - 1) (by omega) (by omega), w64_id (by omega) (by omega)]
    · have hb : V2 (k - 1) ≤ A.reverse.length + d := by
        rcases hM.good (k - 1) (by omega) (by omega) with g | g | g
        · omega
        · exact g.bound
        · omega
      have hlo := hM.low (k - 1) (by omega) (by omega)
      rw [biT (by simp [c2]), idx_ok (by omega) (by omega), idx_ok (by omega) (by omega), show mD + k + 1 = mD + (k + 1) by omega, show mD + k - 1 = mD + (k - 1) by omega, hv (k + 1) (by omega) (by omega), hv (k - 1) (by omega) (by omega)]
      by_cases c3 : V2 (k - 1) < V2 (k + 1)
      · rw [bdT c3, idx_ok (by omega) (by omega), if_pos (.inr ⟨c2, c3⟩)]
      · rw [bdF c3, idx_ok (by omega) (by omega), if_neg (by omega), w64_id (by omega) (by omega)]
/-- As far as the characters are the same. -/
theorem fsnake (n : Nat) {v1 v2 : List Int} {d k : Int} (hN : (A.length : Int) ≤ 1000000000) (hM : (B.length : Int) ≤ 1000000000) (hk : -1000000000 ≤ k) (hd : d ≤ 1000000000)
    (kx) (m1 m2 L2 dl : Int) (fr : Bool) (a b c e2 dd off : Int) : ∀ (t : Nat) (x : Int) (m : Nat), (A.length - x).toNat ≤ t → t < m → Ent A B d k x →
    ∃ xf, x ≤ xf ∧ Ent A B d k xf ∧ Stop A B k xf ∧ g114_12L (β := β) n q110 q114 q136 q143 kx m p0 A B (A.length : Int) (B.length : Int) m1 m2 L2 v1 v2 dl fr a b c e2 dd k off x (x - k) = kx p0 A B (A.length : Int) (B.length : Int) m1 m2 L2 v1 v2 dl fr a b c e2 dd k off xf (xf - k) := by
  intro t
  induction t with
  | zero =>
    intro x m ht hm hE
    obtain ⟨m, rfl⟩ : ∃ m', m = m' + 1 := ⟨m - 1, by omega⟩
    refine ⟨x, Int.le_refl _, hE, fun ⟨h1, _⟩ => by have := hE.1; omega, ?_⟩
    rw [g114_12L.eq_2, g114_11, bdF (by omega)]
  | succ t ih =>
    intro x m ht hm hE
    obtain ⟨m, rfl⟩ : ∃ m', m = m' + 1 := ⟨m - 1, by omega⟩
    have hb := hE.bound
    obtain ⟨e0, e1, e2'⟩ := hE
    rw [g114_12L.eq_2, g114_11]
    by_cases h1 : x < A.length
    · rw [bdT h1]
      by_cases h2 : x - k < B.length
      · rw [bdT h2, idx_ok (by omega) (by omega), idx_ok (by omega) (by omega), rd_lt (by omega) (by omega), rd_lt (by omega) (by omega)]
        by_cases h3 : A[x.toNat]'(by omega) = B[(x - k).toNat]'(by omega)
        · rw [biF (by simp [h3]), w64_id (by omega) (by omega), w64_id (by omega) (by omega)]
          have hs := ft_same (A := A) (B := B) (x := x.toNat) (y := (x - k).toNat) (by omega) (by omega) h3
          rw [show x.toNat + 1 = (x + 1).toNat by omega, show (x - k).toNat + 1 = (x + 1 - k).toNat by omega] at hs
          obtain ⟨xf, g1, g2, g3, g4⟩ := ih (x + 1) m (by omega) (by omega) ⟨by omega, by omega, by omega⟩
          refine ⟨xf, by omega, g2, g3, ?_⟩
          rw [show x - k + 1 = x + 1 - k by omega]
          exact g4
        · rw [biT (by simp [h3])]
          exact ⟨x, Int.le_refl _, ⟨e0, e1, e2'⟩, fun ⟨_, _, h⟩ => h3 h, rfl⟩
      · rw [bdF h2]
        exact ⟨x, Int.le_refl _, ⟨e0, e1, e2'⟩, fun ⟨_, h, _⟩ => by omega, rfl⟩
    · rw [bdF h1]
      exact ⟨x, Int.le_refl _, ⟨e0, e1, e2'⟩, fun ⟨h, _, _⟩ => by omega, rfl⟩
theorem rsnake (n : Nat) {v1 v2 : List Int} {d k : Int} (hN : (A.length : Int) ≤ 1000000000) (hM : (B.length : Int) ≤ 1000000000) (hk : -1000000000 ≤ k) (hd : d ≤ 1000000000)
    (kx) (m1 m2 L2 dl : Int) (fr : Bool) (a b c e2 dd off : Int) : ∀ (t : Nat) (x : Int) (m : Nat), (A.length - x).toNat ≤ t → t < m → Ent A.reverse B.reverse d k x →
    ∃ xf, x ≤ xf ∧ Ent A.reverse B.reverse d k xf ∧ Stop A.reverse B.reverse k xf ∧ g114_26L (β := β) n q110 q114 q136 q143 kx m p0 A B (A.length : Int) (B.length : Int) m1 m2 L2 v1 v2 dl fr a b c e2 dd k off x (x - k) = kx p0 A B (A.length : Int) (B.length : Int) m1 m2 L2 v1 v2 dl fr a b c e2 dd k off xf (xf - k) := by
  have hra : A.reverse.length = A.length := List.length_reverse
  have hrb : B.reverse.length = B.length := List.length_reverse
  intro t
  induction t with
  | zero =>
    intro x m ht hm hE
    obtain ⟨m, rfl⟩ : ∃ m', m = m' + 1 := ⟨m - 1, by omega⟩
    refine ⟨x, Int.le_refl _, hE, fun ⟨h1, _⟩ => by have := hE.1; omega, ?_⟩
    rw [g114_26L.eq_2, g114_25, bdF (by omega)]
  | succ t ih =>
    intro x m ht hm hE
    obtain ⟨m, rfl⟩ : ∃ m', m = m' + 1 := ⟨m - 1, by omega⟩
    have hb := hE.bound
    obtain ⟨e0, e1, e2'⟩ := hE
    rw [g114_26L.eq_2, g114_25]
    by_cases h1 : x < A.length
    · rw [bdT h1]
      by_cases h2 : x - k < B.length
      · have r1 : rd A ((A.length : Int) - x - 1) 0 = A.reverse[x.toNat]'(by omega) := by
          rw [rd_lt (by omega) (by omega), List.getElem_reverse]; congr 1; omega
        have r2 : rd B ((B.length : Int) - (x - k) - 1) 0 = B.reverse[(x - k).toNat]'(by omega) := by
          rw [rd_lt (by omega) (by omega), List.getElem_reverse]; congr 1; omega
        rw [bdT h2, w64_id (n := (A.length : Int) - x) (by omega) (by omega), w64_id (n := (A.length : Int) - x - 1) (by omega) (by omega), w64_id (n := (B.length : Int) - (x - k)) (by omega) (by omega), w64_id (n := (B.length : Int) - (x - k) - 1) (by omega) (by omega), idx_ok (by omega) (by omega), idx_ok (by omega) (by omega), r1, r2]
        by_cases h3 : A.reverse[x.toNat]'(by omega) = B.reverse[(x - k).toNat]'(by omega)
        · rw [biF (by simp [h3]), w64_id (by omega) (by omega), w64_id (by omega) (by omega)]
          have hs := ft_same (A := A.reverse) (B := B.reverse) (x := x.toNat) (y := (x - k).toNat) (by omega) (by omega) h3
          rw [show x.toNat + 1 = (x + 1).toNat by omega, show (x - k).toNat + 1 = (x + 1 - k).toNat by omega] at hs
          obtain ⟨xf, g1, g2, g3, g4⟩ := ih (x + 1) m (by omega) (by omega) ⟨by omega, by omega, by omega⟩
          refine ⟨xf, by omega, g2, g3, ?_⟩
          rw [show x - k + 1 = x + 1 - k by omega]
          exact g4
        · rw [biT (by rw [bne_iff_ne]; exact h3)]
          exact ⟨x, Int.le_refl _, ⟨e0, e1, e2'⟩, fun ⟨_, _, h⟩ => h3 h, rfl⟩
      · rw [bdF h2]
        exact ⟨x, Int.le_refl _, ⟨e0, e1, e2'⟩, fun ⟨_, h, _⟩ => by omega, rfl⟩
    · rw [bdF h1]
      exact ⟨x, Int.le_refl _, ⟨e0, e1, e2'⟩, fun ⟨h, _, _⟩ => by omega, rfl⟩
end
end Go.Proofs.YthkiaiilpaojnaaDoorUF
