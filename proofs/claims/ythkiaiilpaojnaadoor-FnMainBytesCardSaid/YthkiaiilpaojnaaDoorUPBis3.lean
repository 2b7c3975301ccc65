/- The search for the middle of a shortest way: it ends at such a place, or there is nothing in common. -/
import Derived.Test.YthkiaiilpaojnaaDoorUPB
import Derived.Test.YthkiaiilpaojnaaDoorUPLoop
import Derived.Test.YthkiaiilpaojnaaDoorUPDist
import Derived.Test.YthkiaiilpaojnaaDoorUPGrid
import Derived.Test.YthkiaiilpaojnaaDoorUPMyers
import Derived.Test.YthkiaiilpaojnaaDoorUPMeet
import Derived.Test.YthkiaiilpaojnaaDoorUPBis
import Derived.Test.YthkiaiilpaojnaaDoorUPBis2
import Derived.Test.YthkiaiilpaojnaaDoorUGA3
import Derived.Test.YthkiaiilpaojnaaDoorUFB
namespace Go.Proofs.YthkiaiilpaojnaaDoorUF
open Go
set_option linter.unusedVariables false
set_option linter.unusedSimpArgs false
section
variable {β : Type} (q110 : DenA g110_A → Option (DenR g110_R)) (q114 : DenA g114_A → Option (DenR g114_R)) (q136 : DenA g136_A → Option (DenR g136_R)) (q143 : DenA g143_A → Option (DenR g143_R))
variable {A B : List Int} {mD : Int} {p0 : AK.den (.pro (.pair (.int .i64) (.pair (.int .i64) (.pair (.int .i64) (.pair (.flt .f64) (.pair (.int .i64) (.pair (.int .i64) (.flt .f64))))))) 0)}
theorem floop (n : Nat) (hn : Big ≤ n) {V2 : Int → Int} {v2 : List Int} {d s0 e0 sW eW s2 e2 : Int} {kx} {kr : List (Int × ByteArray) → Option β} {fr : Bool}
    (hA2 : Arr v2 mD V2) (hW : Done A.reverse B.reverse mD (d - 1) sW eW V2) (hm : 2 ≤ mD) (hm2 : mD ≤ 1000000) (hN : (A.length : Int) ≤ 1000000) (hNM : (B.length : Int) ≤ 1000000) (hD : 2 * d - 1 ≤ dst A B) (hDd : d ≤ dst A B) :
    ∀ (c m : Nat) (k s e : Int) (v1 : List Int) (V1 : Int → Int), Mid A B mD d s0 e0 s e k V1 → Arr v1 mD V1 → s ≤ 3000000 → e ≤ 3000000 →
      (fr = true → (dst A B : Int) = 2 * d - 1 → ∀ x y : Nat, Opt A B x y → (ft A B x y : Int) = d → k ≤ (x : Int) - y) → (d - e - k + 2).toNat ≤ c → c < m →
      Met kr q143 p0 A B (g114_19L (β := β) n q110 q114 q136 q143 kr kx m p0 A B (A.length : Int) (B.length : Int) mD mD (2 * mD) v1 v2 ((A.length : Int) - B.length) fr s e s2 e2 d k) ∨
      ∃ s' e' v1' V1', g114_19L (β := β) n q110 q114 q136 q143 kr kx m p0 A B (A.length : Int) (B.length : Int) mD mD (2 * mD) v1 v2 ((A.length : Int) - B.length) fr s e s2 e2 d k = kx p0 A B (A.length : Int) (B.length : Int) mD mD (2 * mD) v1' v2 ((A.length : Int) - B.length) fr s' e' s2 e2 d ∧
        Arr v1' mD V1' ∧ Done A B mD d s' e' V1' ∧ s' ≤ 3000000 ∧ e' ≤ 3000000 ∧ (fr = true → (dst A B : Int) ≠ 2 * d - 1) := by
  intro c
  induction c using Nat.strongRecOn with
  | _ c ih =>
    intro m k s e v1 V1 hM hA hs3 he3 hnd hc hm1
    obtain ⟨m, rfl⟩ : ∃ m', m = m' + 1 := ⟨m - 1, by omega⟩
    have hs := hM.hs
    have he := hM.he
    have hd := hM.dpos
    have hdm := hM.dm
    have hkl := hM.klo
    rw [g114_19L.eq_2]
    dsimp only [g114_18, g114_8]
    rw [w64_id (n := d - e) (by omega) (by omega)]
    by_cases hk : k ≤ d - e
    · rw [bdT hk]
      dsimp only [g114_16]
      rcases fstep (β := β) (p0 := p0) q110 q114 q136 q143 n hn (kn := fun p0 x1 x2 v7 v8 v9 v10 v11 x12 x13 v15 v16 v17 v18 v19 v20 v21 v22 => g114_17 n q110 q114 q136 q143 (g114_19L n q110 q114 q136 q143 kr kx m) p0 x1 x2 v7 v8 v9 v10 v11 x12 x13 v15 v16 v17 v18 v19 v20 v21 v22) (kr := kr) (fr := fr) (s2 := s2) (e2 := e2) hM hk hA hA2 hW hm hm2 hN hNM hD hDd (by omega) (by omega) with h | ⟨xf, s', e', h1, h2, h3, h4, h5, h6⟩
      · exact .inl h
      · rw [h1]
        dsimp only [g114_17]
        rw [w64_id (n := k + 2) (by omega) (by omega)]
        have hM' := hM.step hk hDd h2 h3 h4 h5
        refine ih (d - e' - (k + 2) + 2).toNat ?_ m (k + 2) s' e' _ _ hM' (hA.set (by omega) (by omega)) (by omega) (by omega) ?_ (Nat.le_refl _) ?_
        · omega
        · intro g1 g2 x y g3 g4
          have q1 := hnd g1 g2 x y g3 g4
          have q2 := h6 g1 g2 x y g3 g4
          have q3 := ft_par (A := A) (B := B) x y
          have q4 := hM.kpar
          omega
        · omega
    · rw [bdF hk]
      refine .inr ⟨s, e, v1, V1, rfl, hA, hM.finish hk, hs3, he3, fun g1 g2 => ?_⟩
      obtain ⟨x, y, ho, hfo⟩ := Opt.level (A := A) (B := B) d.toNat (by omega)
      have q1 := hnd g1 g2 x y ho (by omega)
      have q2 := hM.prune x y ho (by omega)
      omega
theorem rloop (n : Nat) (hn : Big ≤ n) {V1 : Int → Int} {v1 : List Int} {d s0 e0 sW eW s1 e1 : Int} {kx} {kr : List (Int × ByteArray) → Option β} {fr : Bool} (hfrd : fr = false → ((A.length : Int) - B.length) % 2 = 0)
    (hA1 : Arr v1 mD V1) (hV : Done A B mD d sW eW V1) (hm : 2 ≤ mD) (hm2 : mD ≤ 1000000) (hN : (A.length : Int) ≤ 1000000) (hNM : (B.length : Int) ≤ 1000000) (hD : fr = false → 2 * d ≤ dst A B) (hDd : d ≤ dst A B) :
    ∀ (c m : Nat) (k s e : Int) (v2 : List Int) (V2 : Int → Int), Mid A.reverse B.reverse mD d s0 e0 s e k V2 → Arr v2 mD V2 → s ≤ 3000000 → e ≤ 3000000 →
      (fr = false → (dst A B : Int) = 2 * d → ∀ x y : Nat, Opt A.reverse B.reverse x y → (ft A.reverse B.reverse x y : Int) = d → k ≤ (x : Int) - y) → (d - e - k + 2).toNat ≤ c → c < m →
      Met kr q143 p0 A B (g114_33L (β := β) n q110 q114 q136 q143 kr kx m p0 A B (A.length : Int) (B.length : Int) mD mD (2 * mD) v1 v2 ((A.length : Int) - B.length) fr s1 e1 s e d k) ∨
      ∃ s' e' v2' V2', g114_33L (β := β) n q110 q114 q136 q143 kr kx m p0 A B (A.length : Int) (B.length : Int) mD mD (2 * mD) v1 v2 ((A.length : Int) - B.length) fr s1 e1 s e d k = kx p0 A B (A.length : Int) (B.length : Int) mD mD (2 * mD) v1 v2' ((A.length : Int) - B.length) fr s1 e1 s' e' d ∧
        Arr v2' mD V2' ∧ Done A.reverse B.reverse mD d s' e' V2' ∧ s' ≤ 3000000 ∧ e' ≤ 3000000 ∧ (fr = false → (dst A B : Int) ≠ 2 * d) := by
  have hrD : dst A.reverse B.reverse = dst A B := dst_rev A B
  intro c
  induction c using Nat.strongRecOn with
  | _ c ih =>
    intro m k s e v2 V2 hM hA hs3 he3 hnd hc hm1
    obtain ⟨m, rfl⟩ : ∃ m', m = m' + 1 := ⟨m - 1, by omega⟩
    have hs := hM.hs
    have he := hM.he
    have hd := hM.dpos
    have hdm := hM.dm
    have hkl := hM.klo
    rw [g114_33L.eq_2]
    dsimp only [g114_32, g114_22]
    rw [w64_id (n := d - e) (by omega) (by omega)]
    by_cases hk : k ≤ d - e
    · rw [bdT hk]
      dsimp only [g114_30]
      rcases rstep (β := β) (p0 := p0) q110 q114 q136 q143 n hn (kn := fun p0 x1 x2 v7 v8 v9 v10 v11 x12 x13 v15 v16 v17 v18 v19 v20 v21 v28 => g114_31 n q110 q114 q136 q143 (g114_33L n q110 q114 q136 q143 kr kx m) p0 x1 x2 v7 v8 v9 v10 v11 x12 x13 v15 v16 v17 v18 v19 v20 v21 v28) (kr := kr) (fr := fr) (s1 := s1) (e1 := e1) hfrd hM hk hA hA1 hV hm hm2 hN hNM hD hDd (by omega) (by omega) with h | ⟨xf, s', e', h1, h2, h3, h4, h5, h6⟩
      · exact .inl h
      · rw [h1]
        dsimp only [g114_31]
        rw [w64_id (n := k + 2) (by omega) (by omega)]
        have hM' := hM.step hk (by omega) h2 h3 h4 h5
        refine ih (d - e' - (k + 2) + 2).toNat ?_ m (k + 2) s' e' _ _ hM' (hA.set (by omega) (by omega)) (by omega) (by omega) ?_ (Nat.le_refl _) ?_
        · omega
        · intro g1 g2 x y g3 g4
          have q1 := hnd g1 g2 x y g3 g4
          have q2 := h6 g1 g2 x y g3 g4
          have q3 := ft_par (A := A.reverse) (B := B.reverse) x y
          have q4 := hM.kpar
          omega
        · omega
    · rw [bdF hk]
      refine .inr ⟨s, e, v2, V2, rfl, hA, hM.finish hk, hs3, he3, fun g1 g2 => ?_⟩
      obtain ⟨x, y, ho, hfo⟩ := Opt.level (A := A.reverse) (B := B.reverse) d.toNat (by omega)
      have q1 := hnd g1 g2 x y ho (by omega)
      have q2 := hM.prune x y ho (by omega)
      omega
theorem oloop (n : Nat) (hn : Big ≤ n) {kx} {kr : List (Int × ByteArray) → Option β} {fr : Bool} (hfrd : fr = false → ((A.length : Int) - B.length) % 2 = 0) (hfrt : fr = true → ((A.length : Int) - B.length) % 2 = 1)
    (hmD : 2 * mD = (A.length : Int) + B.length ∨ 2 * mD = (A.length : Int) + B.length + 1) (hm : 2 ≤ mD) (hm2 : mD ≤ 1000000) (hN : (A.length : Int) ≤ 1000000) (hNM : (B.length : Int) ≤ 1000000) :
    ∀ (c m : Nat) (d s1 e1 s2 e2 : Int) (v1 v2 : List Int) (V1 V2 : Int → Int), 0 ≤ d → (mD - d).toNat ≤ c → c < m → Done A B mD (d - 1) s1 e1 V1 → Done A.reverse B.reverse mD (d - 1) s2 e2 V2 → Arr v1 mD V1 → Arr v2 mD V2 →
      s1 ≤ 3000000 → e1 ≤ 3000000 → s2 ≤ 3000000 → e2 ≤ 3000000 → (fr = true → 2 * d - 1 ≤ dst A B) → (fr = false → 2 * d ≤ dst A B) →
      Met kr q143 p0 A B (g114_39L (β := β) n q110 q114 q136 q143 kr kx m p0 A B (A.length : Int) (B.length : Int) mD mD (2 * mD) v1 v2 ((A.length : Int) - B.length) fr s1 e1 s2 e2 d) ∨
      (g114_39L (β := β) n q110 q114 q136 q143 kr kx m p0 A B (A.length : Int) (B.length : Int) mD mD (2 * mD) v1 v2 ((A.length : Int) - B.length) fr s1 e1 s2 e2 d = kx A B ∧ dst A B = A.length + B.length) := by
  have hrD : dst A.reverse B.reverse = dst A B := dst_rev A B
  intro c
  induction c using Nat.strongRecOn with
  | _ c ih =>
    intro m d s1 e1 s2 e2 v1 v2 V1 V2 hd hc hm1 hV hW hA1 hA2 b1 b2 b3 b4 hDt hDf
    obtain ⟨m, rfl⟩ : ∃ m', m = m' + 1 := ⟨m - 1, by omega⟩
    have hpar := dst_par A B
    have hhi := dst_hi A B
    rw [g114_39L.eq_2]
    dsimp only [g114_38, g114_6]
    have hDD : 2 * d - 1 ≤ dst A B := by
      cases hfr : fr with
      | true => exact hDt hfr
      | false => have := hDf hfr; omega
    have hDd : d ≤ dst A B := by omega
    by_cases hdm : d < mD
    · rw [bdT hdm]
      dsimp only [g114_36, g114_35, g114_7, g114_20, g114_19]
      have hV0 := hV.s0
      have hW0 := hW.s0
      rw [w64_id (n := 0 - d) (by omega) (by omega), w64_id (n := 0 - d + s1) (by omega) (by omega)]
      have hMV := hV.start (by omega) (by omega)
      rw [show d - 1 + 1 = d by omega] at hMV
      have hMW := hW.start (by omega) (by omega)
      rw [show d - 1 + 1 = d by omega] at hMW
      rw [show 0 - d + s1 = -d + s1 by omega]
      have hVe := hV.e0
      have hWe := hW.e0
      rcases floop (β := β) (p0 := p0) (A := A) (B := B) (mD := mD) q110 q114 q136 q143 n hn (s2 := s2) (e2 := e2) (kr := kr) (fr := fr)
        (kx := fun p0 x1 x2 v7 v8 v9 v10 v11 x12 x13 v15 v16 v17 v18 v19 v20 v21 => g114_21 n q110 q114 q136 q143 (fun p0 x1 x2 v7 v8 v9 v10 v11 x12 x13 v15 v16 v17 v18 v19 v20 v21 v28 => g114_34 n q110 q114 q136 q143 (fun p0 x1 x2 v7 v8 v9 v10 v11 x12 x13 v15 v16 v17 v18 v19 v20 v21 => g114_37 n q110 q114 q136 q143 (g114_39L n q110 q114 q136 q143 kr kx m) p0 x1 x2 v7 v8 v9 v10 v11 x12 x13 v15 v16 v17 v18 v19 v20 v21) kr p0 x1 x2 v7 v8 v9 v10 v11 x12 x13 v15 v16 v17 v18 v19 v20 v21 v28) p0 x1 x2 v7 v8 v9 v10 v11 x12 x13 v15 v16 v17 v18 v19 v20 v21)
        hA2 hW hm hm2 hN hNM hDD hDd _ n (-d + s1) s1 e1 v1 V1 hMV hA1 b1 b2 (fun _ _ x y ho hfo => by have := hMV.prune x y ho (by omega); omega) (Nat.le_refl _) (by unfold Big at hn; omega) with h | ⟨s', e', v1', V1', h1, h2, h3, h4, h5, h6⟩
      · exact .inl h
      rw [h1]
      dsimp only [g114_21, g114_34, g114_33]
      rw [w64_id (n := 0 - d) (by omega) (by omega), w64_id (n := 0 - d + s2) (by omega) (by omega), show 0 - d + s2 = -d + s2 by omega]
      rcases rloop (β := β) (p0 := p0) (A := A) (B := B) (mD := mD) q110 q114 q136 q143 n hn (s1 := s') (e1 := e') (kr := kr) (fr := fr)
        (kx := fun p0 x1 x2 v7 v8 v9 v10 v11 x12 x13 v15 v16 v17 v18 v19 v20 v21 => g114_37 n q110 q114 q136 q143 (g114_39L n q110 q114 q136 q143 kr kx m) p0 x1 x2 v7 v8 v9 v10 v11 x12 x13 v15 v16 v17 v18 v19 v20 v21)
        hfrd h2 h3 hm hm2 hN hNM hDf hDd _ n (-d + s2) s2 e2 v2 V2 hMW hA2 b3 b4 (fun _ _ x y ho hfo => by have := hMW.prune x y ho (by omega); omega) (Nat.le_refl _) (by unfold Big at hn; omega) with h | ⟨s'', e'', v2', V2', g1, g2, g3, g4, g5, g6⟩
      · exact .inl h
      rw [g1]
      dsimp only [g114_37]
      rw [w64_id (n := d + 1) (by omega) (by omega)]
      refine ih (mD - (d + 1)).toNat (by omega) m (d + 1) s' e' s'' e'' v1' v2' V1' V2' (by omega) (Nat.le_refl _) (by omega) (by rw [show d + 1 - 1 = d by omega]; exact h3) (by rw [show d + 1 - 1 = d by omega]; exact g3) h2 g2 h4 h5 g4 g5 ?_ ?_
      · intro hfr
        have q1 := hDt hfr
        have q2 := h6 hfr
        have q3 := hfrt hfr
        omega
      · intro hfr
        have q1 := hDf hfr
        have q2 := g6 hfr
        have q3 := hfrd hfr
        omega
    · rw [bdF hdm]
      refine .inr ⟨rfl, ?_⟩
      cases hfr : fr with
      | true =>
        have q1 := hDt hfr
        have q3 := hfrt hfr
        omega
      | false =>
        have q1 := hDf hfr
        have q3 := hfrd hfr
        omega
/-- The rows are filled. -/
theorem iloop (n : Nat) {kx} (N M m1 m2 L2 : Int) (L : Nat) (hL : L ≤ 4000000) : ∀ (c i m : Nat) (v1 v2 : List Int), L - i = c → i ≤ L → c < m → v1.length = L → v2.length = L → (∀ j : Nat, j < i → rd v1 (j : Int) 0 = -1 ∧ rd v2 (j : Int) 0 = -1) →
    ∃ v1' v2', g114_3L (β := β) n q110 q114 q136 q143 kx m p0 A B N M m1 m2 L2 v1 v2 (L : Int) (i : Int) = kx p0 A B N M m1 m2 L2 v1' v2' ∧ v1'.length = L ∧ v2'.length = L ∧ ∀ j : Nat, j < L → rd v1' (j : Int) 0 = -1 ∧ rd v2' (j : Int) 0 = -1 := by
  intro c
  induction c with
  | zero =>
    intro i m v1 v2 hc hi hm h1 h2 hv
    obtain ⟨m, rfl⟩ : ∃ m', m = m' + 1 := ⟨m - 1, by omega⟩
    refine ⟨v1, v2, ?_, h1, h2, fun j hj => hv j (by omega)⟩
    rw [g114_3L.eq_2, g114_2, bdF (by omega)]
  | succ c ih =>
    intro i m v1 v2 hc hi hm h1 h2 hv
    obtain ⟨m, rfl⟩ : ∃ m', m = m' + 1 := ⟨m - 1, by omega⟩
    rw [g114_3L.eq_2, g114_2, bdT (by omega), idx_ok (by omega) (by omega), idx_ok (by omega) (by omega), w64_id (by omega) (by omega)]
    have key : ∀ v : List Int, v.length = L → ∀ j : Nat, j < i + 1 → (j < i → rd v (j : Int) 0 = -1) → rd (v.set (i : Int).toNat (-1)) (j : Int) 0 = -1 := fun v hv j hj hr => by
      rw [rd_lt (by omega) (by rw [List.length_set]; omega), List.getElem_set]
      split
      · rfl
      · have := hr (by omega)
        rw [rd_lt (by omega) (by omega)] at this
        exact this
    exact ih (i + 1) m _ _ (by omega) (by omega) (by omega) (by rw [List.length_set]; exact h1) (by rw [List.length_set]; exact h2) fun j hj => ⟨key v1 h1 j hj fun h => (hv j h).1, key v2 h2 j hj fun h => (hv j h).2⟩
/-- What bisecting comes to. -/
theorem bisect_ok (n : Nat) (hn : Big ≤ n) (h3 : 3 ≤ A.length + B.length) (hN : A.length ≤ 500000) (hM : B.length ≤ 500000) {kr : List (Int × ByteArray) → Option β} :
    Met kr q143 p0 A B (g114_42 (β := β) n q110 q114 q136 q143 kr p0 A B) ∨
    (g114_42 (β := β) n q110 q114 q136 q143 kr p0 A B = kr [(-1, runesBytes A), (1, runesBytes B)] ∧ dst A B = A.length + B.length) := by
  dsimp only [g114_42, g114_1]
  rw [w64_id (n := (A.length : Int) + B.length) (by omega) (by omega), w64_id (n := (A.length : Int) + B.length + 1) (by omega) (by omega)]
  obtain ⟨mN, hmN⟩ : ∃ mN : Nat, mN = (A.length + B.length + 1) / 2 := ⟨_, rfl⟩
  have e1 : ((A.length : Int) + B.length + 1).tdiv 2 = (mN : Int) := by
    rw [Int.tdiv_eq_ediv_of_nonneg (by omega)]; omega
  rw [e1, w64_id (n := (mN : Int)) (by omega) (by omega), w64_id (n := 2 * (mN : Int)) (by omega) (by omega), bnd_ok (by omega) (by omega) (by omega), roomI_ok (by omega), bnd_ok (by omega) (by omega) (by omega), roomI_ok (by omega)]
  have e2 : (2 * (mN : Int)).toNat = 2 * mN := by omega
  rw [e2, List.length_replicate]
  dsimp only [g114_4, g114_3]
  obtain ⟨v1, v2, i1, i2, i3, i4⟩ := iloop (β := β) (p0 := p0) (A := A) (B := B) q110 q114 q136 q143 n (kx := fun p0 x1 x2 v7 v8 v9 v10 v11 x12 x13 => g114_5 n q110 q114 q136 q143 (fun p0 x1 x2 v7 v8 v9 v10 v11 x12 x13 v15 v16 v17 v18 v19 v20 v21 => g114_40 n q110 q114 q136 q143 (fun x1 x2 => g114_41 n q110 q114 q136 q143 kr x1 x2) kr p0 x1 x2 v7 v8 v9 v10 v11 x12 x13 v15 v16 v17 v18 v19 v20 v21) p0 x1 x2 v7 v8 v9 v10 v11 x12 x13) (A.length : Int) (B.length : Int) (mN : Int) (mN : Int) (2 * (mN : Int)) (2 * mN) (by omega) (2 * mN) 0 n (List.replicate (2 * mN) 0) (List.replicate (2 * mN) 0) (by omega) (by omega) (by unfold Big at hn; omega) (by simp) (by simp) (fun j hj => by omega)
  rw [show ((0 : Nat) : Int) = 0 from rfl] at i1
  rw [i1]
  dsimp only [g114_5, g114_40, g114_39]
  rw [w64_id (n := (mN : Int) + 1) (by omega) (by omega), idx_ok (by omega) (by omega), idx_ok (by omega) (by omega), w64_id (n := (A.length : Int) - B.length) (by omega) (by omega)]
  have harr : ∀ v : List Int, v.length = 2 * mN → (∀ j : Nat, j < 2 * mN → rd v (j : Int) 0 = -1) → Arr (v.set ((mN : Int) + 1).toNat 0) mN (updV (fun _ => -1) 1 0) := fun v hl hv => by
    refine Arr.set (V := fun _ => -1) ⟨by omega, fun j j1 j2 => ?_⟩ (by omega) (by omega)
    have := hv ((mN : Int) + j).toNat (by omega)
    rw [Int.toNat_of_nonneg (by omega)] at this
    exact this
  have hdone : ∀ A B : List Int, Done A B (mN : Int) (0 - 1) 0 0 (updV (fun _ => -1) 1 0) := fun A B => Done.first (by omega) (fun j _ _ hj => updV_other _ hj) (updV_same _ _ _)
  have hfr : ∀ z : Int, ((z.tmod 2 != 0) = false → z % 2 = 0) ∧ ((z.tmod 2 != 0) = true → z % 2 = 1) := fun z => by
    have : z.tmod 2 = 0 ↔ z % 2 = 0 := ⟨fun h => Int.emod_eq_zero_of_dvd (Int.dvd_of_tmod_eq_zero h), fun h => Int.tmod_eq_zero_of_dvd (Int.dvd_of_emod_eq_zero h)⟩
    refine ⟨fun h => ?_, fun h => ?_⟩
    · have h : z.tmod 2 = 0 := by simpa using h
      exact this.1 h
    · have h : ¬ z.tmod 2 = 0 := by simpa using h
      have : z % 2 ≠ 0 := fun h' => h (this.2 h')
      omega
  rcases oloop (β := β) (p0 := p0) (A := A) (B := B) (mD := (mN : Int)) q110 q114 q136 q143 n hn (kx := fun x1 x2 => g114_41 n q110 q114 q136 q143 kr x1 x2) (kr := kr) (fr := ((A.length : Int) - B.length).tmod 2 != 0) (hfr _).1 (hfr _).2 (by omega) (by omega) (by omega) (by omega) (by omega) _ n 0 0 0 0 0 _ _ _ _ (Int.le_refl _) (Nat.le_refl _) (by unfold Big at hn; omega) (hdone A B) (hdone A.reverse B.reverse) (harr v1 i2 fun j hj => (i4 j hj).1) (harr v2 i3 fun j hj => (i4 j hj).2) (by omega) (by omega) (by omega) (by omega) (fun _ => by omega) (fun _ => by omega) with h | ⟨h1, h2⟩
  · exact .inl h
  · exact .inr ⟨h1, h2⟩
end
end Go.Proofs.YthkiaiilpaojnaaDoorUF
