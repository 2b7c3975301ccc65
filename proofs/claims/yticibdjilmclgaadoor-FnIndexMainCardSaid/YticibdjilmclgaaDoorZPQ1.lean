/- Plain statements about the printed functions. -/
import Derived.Test.YticibdjilmclgaaDoorZPQ0
import Derived.Test.YticibdjilmclgaaDoorZGA1
import Derived.Test.YticibdjilmclgaaDoorZFB
import Derived.Test.YticibdjilmclgaaDoorZGA0
namespace Go.Proofs.YticibdjilmclgaaDoorZF
open Go
set_option linter.unusedVariables false
set_option linter.unusedSimpArgs false
section
variable {β : Type} (q67 : DenA g67_A → Option (DenR g67_R)) (q82 : DenA g82_A → Option (DenR g82_R)) (q104 : DenA g104_A → Option (DenR g104_R)) (q121 : DenA g121_A → Option (DenR g121_R))
variable {A B : List Int} {mD : Int} {p0 : AK.den (.pro (.pair (.int .i64) (.pair (.int .i64) (.pair (.int .i64) (.pair (.flt .f64) (.pair (.int .i64) (.pair (.int .i64) (.flt .f64))))))) 0)}
theorem floop (n : Nat) (hn : Big ≤ n) {V2 : Int → Int} {v2 : List Int} {d s0 e0 sW eW s2 e2 : Int} {kx} {kr : List (Int × ByteArray) → Option β} {fr : Bool}
  (hA2 : Arr v2 mD V2) (hW : Done A.reverse B.reverse mD (d - 1) sW eW V2) (hm : 2 ≤ mD) (hm2 : mD ≤ 1000000) (hN : (A.length : Int) ≤ 1000000) (hNM : (B.length : Int) ≤ 1000000) (hD : 2 * d - 1 ≤ dst A B) (hDd : d ≤ dst A B) :
  ∀ (c m : Nat) (k s e : Int) (v1 : List Int) (V1 : Int → Int), Mid A B mD d s0 e0 s e k V1 → Arr v1 mD V1 → s ≤ 3000000 → e ≤ 3000000 →
   (fr = true → (dst A B : Int) = 2 * d - 1 → ∀ x y : Nat, Opt A B x y → (ft A B x y : Int) = d → k ≤ (x : Int) - y) → (d - e - k + 2).toNat ≤ c → c < m →
   Met kr q121 p0 A B (g104_19L (β := β) n q67 q82 q104 q121 kr kx m p0 A B (A.length : Int) (B.length : Int) mD mD (2 * mD) v1 v2 ((A.length : Int) - B.length) fr s e s2 e2 d k) ∨
   ∃ s' e' v1' V1', g104_19L (β := β) n q67 q82 q104 q121 kr kx m p0 A B (A.length : Int) (B.length : Int) mD mD (2 * mD) v1 v2 ((A.length : Int) - B.length) fr s e s2 e2 d k = kx p0 A B (A.length : Int) (B.length : Int) mD mD (2 * mD) v1' v2 ((A.length : Int) - B.length) fr s' e' s2 e2 d ∧
    Arr v1' mD V1' ∧ Done A B mD d s' e' V1' ∧ s' ≤ 3000000 ∧ e' ≤ 3000000 ∧ (fr = true → (dst A B : Int) ≠ 2 * d - 1) := by
 intro c
 induction c using Nat.strongRecOn with
 | _ c ih =>
  intro m k s e v1 V1 hM hA hs3 he3 hnd hc hm1
  obtain ⟨m, rfl⟩ : ∃ m', m = m' + 1 := ⟨m - 1, by omega⟩
  have hs := hM.hs
  have he := hM.he
  have hd := hM.dpos
  have hdm := hM.dm
  have hkl := hM.klo
  rw [g104_19L.eq_2]
  dsimp only [g104_18, g104_8]
  rw [w64_id (n := d - e) (by omega) (by omega)]
  by_cases hk : k ≤ d - e
  ·rw [bdT hk]
   dsimp only [g104_16]
   rcases fstep (β := β) (p0 := p0) q67 q82 q104 q121 n hn (kn := fun p0 x1 x2 v7 v8 v9 v10 v11 x12 x13 v15 v16 v17 v18 v19 v20 v21 v22 => g104_17 n q67 q82 q104 q121 (g104_19L n q67 q82 q104 q121 kr kx m) p0 x1 x2 v7 v8 v9 v10 v11 x12 x13 v15 v16 v17 v18 v19 v20 v21 v22) (kr := kr) (fr := fr) (s2 := s2) (e2 := e2) hM hk hA hA2 hW hm hm2 hN hNM hD hDd (by omega) (by omega) with h | ⟨xf, s', e', h1, h2, h3, h4, h5, h6⟩
   ·exact .inl h
   ·rw [h1]
    dsimp only [g104_17]
    rw [w64_id (n := k + 2) (by omega) (by omega)]
    have hM' := hM.step hk hDd h2 h3 h4 h5
    refine ih (d - e' - (k + 2) + 2).toNat ?_ m (k + 2) s' e' _ _ hM' (hA.set (by omega) (by omega)) (by omega) (by omega) ?_ (Nat.le_refl _) ?_
    ·omega
    ·intro g1 g2 x y g3 g4
     have q1 := hnd g1 g2 x y g3 g4
     have q2 := h6 g1 g2 x y g3 g4
     have q3 := ft_par (A := A) (B := B) x y
     have q4 := hM.kpar
     omega
    ·omega
  ·rw [bdF hk]
   refine .inr ⟨s, e, v1, V1, rfl, hA, hM.finish hk, hs3, he3, fun g1 g2 => ?_⟩
   obtain ⟨x, y, ho, hfo⟩ := Opt.level (A := A) (B := B) d.toNat (by omega)
   have q1 := hnd g1 g2 x y ho (by omega)
   have q2 := hM.prune x y ho (by omega)
   omega
theorem rloop (n : Nat) (hn : Big ≤ n) {V1 : Int → Int} {v1 : List Int} {d s0 e0 sW eW s1 e1 : Int} {kx} {kr : List (Int × ByteArray) → Option β} {fr : Bool} (hfrd : fr = false → ((A.length : Int) - B.length) % 2 = 0)
  (hA1 : Arr v1 mD V1) (hV : Done A B mD d sW eW V1) (hm : 2 ≤ mD) (hm2 : mD ≤ 1000000) (hN : (A.length : Int) ≤ 1000000) (hNM : (B.length : Int) ≤ 1000000) (hD : fr = false → 2 * d ≤ dst A B) (hDd : d ≤ dst A B) :
  ∀ (c m : Nat) (k s e : Int) (v2 : List Int) (V2 : Int → Int), Mid A.reverse B.reverse mD d s0 e0 s e k V2 → Arr v2 mD V2 → s ≤ 3000000 → e ≤ 3000000 →
   (fr = false → (dst A B : Int) = 2 * d → ∀ x y : Nat, Opt A.reverse B.reverse x y → (ft A.reverse B.reverse x y : Int) = d → k ≤ (x : Int) - y) → (d - e - k + 2).toNat ≤ c → c < m →
   Met kr q121 p0 A B (g104_33L (β := β) n q67 q82 q104 q121 kr kx m p0 A B (A.length : Int) (B.length : Int) mD mD (2 * mD) v1 v2 ((A.length : Int) - B.length) fr s1 e1 s e d k) ∨
   ∃ s' e' v2' V2', g104_33L (β := β) n q67 q82 q104 q121 kr kx m p0 A B (A.length : Int) (B.length : Int) mD mD (2 * mD) v1 v2 ((A.length : Int) - B.length) fr s1 e1 s e d k = kx p0 A B (A.length : Int) (B.length : Int) mD mD (2 * mD) v1 v2' ((A.length : Int) - B.length) fr s1 e1 s' e' d ∧
    Arr v2' mD V2' ∧ Done A.reverse B.reverse mD d s' e' V2' ∧ s' ≤ 3000000 ∧ e' ≤ 3000000 ∧ (fr = false → (dst A B : Int) ≠ 2 * d) := by
 have hrD : dst A.reverse B.reverse = dst A B := dst_rev A B
 intro c
 induction c using Nat.strongRecOn with
 | _ c ih =>
  intro m k s e v2 V2 hM hA hs3 he3 hnd hc hm1
  obtain ⟨m, rfl⟩ : ∃ m', m = m' + 1 := ⟨m - 1, by omega⟩
  have hs := hM.hs
  have he := hM.he
  have hd := hM.dpos
  have hdm := hM.dm
  have hkl := hM.klo
  rw [g104_33L.eq_2]
  dsimp only [g104_32, g104_22]
  rw [w64_id (n := d - e) (by omega) (by omega)]
  by_cases hk : k ≤ d - e
  ·rw [bdT hk]
   dsimp only [g104_30]
   rcases rstep (β := β) (p0 := p0) q67 q82 q104 q121 n hn (kn := fun p0 x1 x2 v7 v8 v9 v10 v11 x12 x13 v15 v16 v17 v18 v19 v20 v21 v28 => g104_31 n q67 q82 q104 q121 (g104_33L n q67 q82 q104 q121 kr kx m) p0 x1 x2 v7 v8 v9 v10 v11 x12 x13 v15 v16 v17 v18 v19 v20 v21 v28) (kr := kr) (fr := fr) (s1 := s1) (e1 := e1) hfrd hM hk hA hA1 hV hm hm2 hN hNM hD hDd (by omega) (by omega) with h | ⟨xf, s', e', h1, h2, h3, h4, h5, h6⟩
   ·exact .inl h
   ·rw [h1]
    dsimp only [g104_31]
    rw [w64_id (n := k + 2) (by omega) (by omega)]
    have hM' := hM.step hk (by omega) h2 h3 h4 h5
    refine ih (d - e' - (k + 2) + 2).toNat ?_ m (k + 2) s' e' _ _ hM' (hA.set (by omega) (by omega)) (by omega) (by omega) ?_ (Nat.le_refl _) ?_
    ·omega
    ·intro g1 g2 x y g3 g4
     have q1 := hnd g1 g2 x y g3 g4
     have q2 := h6 g1 g2 x y g3 g4
     have q3 := ft_par (A := A.reverse) (B := B.reverse) x y
     have q4 := hM.kpar
     omega
    ·omega
  ·rw [bdF hk]
   refine .inr ⟨s, e, v2, V2, rfl, hA, hM.finish hk, hs3, he3, fun g1 g2 => ?_⟩
   obtain ⟨x, y, ho, hfo⟩ := Opt.level (A := A.reverse) (B := B.reverse) d.toNat (by omega)
   have q1 := hnd g1 g2 x y ho (by omega)
   have q2 := hM.prune x y ho (by omega)
   omega
theorem oloop (n : Nat) (hn : Big ≤ n) {kx} {kr : List (Int × ByteArray) → Option β} {fr : Bool} (hfrd : fr = false → ((A.length : Int) - B.length) % 2 = 0) (hfrt : fr = true → ((A.length : Int) - B.length) % 2 = 1)
  (hmD : 2 * mD = (A.length : Int) + B.length ∨ 2 * mD = (A.length : Int) + B.length + 1) (hm : 2 ≤ mD) (hm2 : mD ≤ 1000000) (hN : (A.length : Int) ≤ 1000000) (hNM : (B.length : Int) ≤ 1000000) :
  ∀ (c m : Nat) (d s1 e1 s2 e2 : Int) (v1 v2 : List Int) (V1 V2 : Int → Int), 0 ≤ d → (mD - d).toNat ≤ c → c < m → Done A B mD (d - 1) s1 e1 V1 → Done A.reverse B.reverse mD (d - 1) s2 e2 V2 → Arr v1 mD V1 → Arr v2 mD V2 →
   s1 ≤ 3000000 → e1 ≤ 3000000 → s2 ≤ 3000000 → e2 ≤ 3000000 → (fr = true → 2 * d - 1 ≤ dst A B) → (fr = false → 2 * d ≤ dst A B) →
   Met kr q121 p0 A B (g104_39L (β := β) n q67 q82 q104 q121 kr kx m p0 A B (A.length : Int) (B.length : Int) mD mD (2 * mD) v1 v2 ((A.length : Int) - B.length) fr s1 e1 s2 e2 d) ∨
   (g104_39L (β := β) n q67 q82 q104 q121 kr kx m p0 A B (A.length : Int) (B.length : Int) mD mD (2 * mD) v1 v2 ((A.length : Int) - B.length) fr s1 e1 s2 e2 d = kx A B ∧ dst A B = A.length + B.length) := by
 have hrD : dst A.reverse B.reverse = dst A B := dst_rev A B
 intro c
 induction c using Nat.strongRecOn with
 | _ c ih =>
  intro m d s1 e1 s2 e2 v1 v2 V1 V2 hd hc hm1 hV hW hA1 hA2 b1 b2 b3 b4 hDt hDf
  obtain ⟨m, rfl⟩ : ∃ m', m = m' + 1 := ⟨m - 1, by omega⟩
  have hpar := dst_par A B
  have hhi := dst_hi A B
  rw [g104_39L.eq_2]
  dsimp only [g104_38, g104_6]
  have hDD : 2 * d - 1 ≤ dst A B := by
   cases hfr : fr with
   | true => exact hDt hfr
   | false => have := hDf hfr; omega
  have hDd : d ≤ dst A B := by omega
  by_cases hdm : d < mD
  ·rw [bdT hdm]
   dsimp only [g104_36, g104_35, g104_7, g104_20, g104_19]
   have hV0 := hV.s0
   have hW0 := hW.s0
   rw [w64_id (n := 0 - d) (by omega) (by omega), w64_id (n := 0 - d + s1) (by omega) (by omega)]
   have hMV := hV.start (by omega) (by omega)
   rw [show d - 1 + 1 = d by omega] at hMV
   have hMW := hW.start (by omega) (by omega)
   rw [show d - 1 + 1 = d by omega] at hMW
   rw [show 0 - d + s1 = -d + s1 by omega]
   have hVe := hV.e0
   have hWe := hW.e0
   rcases floop (β := β) (p0 := p0) (A := A) (B := B) (mD := mD) q67 q82 q104 q121 n hn (s2 := s2) (e2 := e2) (kr := kr) (fr := fr)
    (kx := fun p0 x1 x2 v7 v8 v9 v10 v11 x12 x13 v15 v16 v17 v18 v19 v20 v21 => g104_21 n q67 q82 q104 q121 (fun p0 x1 x2 v7 v8 v9 v10 v11 x12 x13 v15 v16 v17 v18 v19 v20 v21 v28 => g104_34 n q67 q82 q104 q121 (fun p0 x1 x2 v7 v8 v9 v10 v11 x12 x13 v15 v16 v17 v18 v19 v20 v21 => g104_37 n q67 q82 q104 q121 (g104_39L n q67 q82 q104 q121 kr kx m) p0 x1 x2 v7 v8 v9 v10 v11 x12 x13 v15 v16 v17 v18 v19 v20 v21) kr p0 x1 x2 v7 v8 v9 v10 v11 x12 x13 v15 v16 v17 v18 v19 v20 v21 v28) p0 x1 x2 v7 v8 v9 v10 v11 x12 x13 v15 v16 v17 v18 v19 v20 v21)
    hA2 hW hm hm2 hN hNM hDD hDd _ n (-d + s1) s1 e1 v1 V1 hMV hA1 b1 b2 (fun _ _ x y ho hfo => by have := hMV.prune x y ho (by omega); omega) (Nat.le_refl _) (by unfold Big at hn; omega) with h | ⟨s', e', v1', V1', h1, h2, h3, h4, h5, h6⟩
   ·exact .inl h
   rw [h1]
   dsimp only [g104_21, g104_34, g104_33]
   rw [w64_id (n := 0 - d) (by omega) (by omega), w64_id (n := 0 - d + s2) (by omega) (by omega), show 0 - d + s2 = -d + s2 by omega]
   rcases rloop (β := β) (p0 := p0) (A := A) (B := B) (mD := mD) q67 q82 q104 q121 n hn (s1 := s') (e1 := e') (kr := kr) (fr := fr)
    (kx := fun p0 x1 x2 v7 v8 v9 v10 v11 x12 x13 v15 v16 v17 v18 v19 v20 v21 => g104_37 n q67 q82 q104 q121 (g104_39L n q67 q82 q104 q121 kr kx m) p0 x1 x2 v7 v8 v9 v10 v11 x12 x13 v15 v16 v17 v18 v19 v20 v21)
    hfrd h2 h3 hm hm2 hN hNM hDf hDd _ n (-d + s2) s2 e2 v2 V2 hMW hA2 b3 b4 (fun _ _ x y ho hfo => by have := hMW.prune x y ho (by omega); omega) (Nat.le_refl _) (by unfold Big at hn; omega) with h | ⟨s'', e'', v2', V2', g1, g2, g3, g4, g5, g6⟩
   ·exact .inl h
   rw [g1]
   dsimp only [g104_37]
   rw [w64_id (n := d + 1) (by omega) (by omega)]
   refine ih (mD - (d + 1)).toNat (by omega) m (d + 1) s' e' s'' e'' v1' v2' V1' V2' (by omega) (Nat.le_refl _) (by omega) (by rw [show d + 1 - 1 = d by omega]; exact h3) (by rw [show d + 1 - 1 = d by omega]; exact g3) h2 g2 h4 h5 g4 g5 ?_ ?_
   ·intro hfr
    have q1 := hDt hfr
    have q2 := h6 hfr
    have q3 := hfrt hfr
    omega
   ·intro hfr
    have q1 := hDf hfr
    have q2 := g6 hfr
    have q3 := hfrd hfr
    omega
  ·rw [bdF hdm]
   refine .inr ⟨rfl, ?_⟩
   cases hfr : fr with
   | true =>
    have q1 := hDt hfr
    have q3 := hfrt hfr
    omega
   | false =>
    have q1 := hDf hfr
    have q3 := hfrd hfr
    omega
theorem iloop (n : Nat) {kx} (N M m1 m2 L2 : Int) (L : Nat) (hL : L ≤ 4000000) : ∀ (c i m : Nat) (v1 v2 : List Int), L - i = c → i ≤ L → c < m → v1.length = L → v2.length = L → (∀ j : Nat, j < i → rd v1 (j : Int) 0 = -1 ∧ rd v2 (j : Int) 0 = -1) →
  ∃ v1' v2', g104_3L (β := β) n q67 q82 q104 q121 kx m p0 A B N M m1 m2 L2 v1 v2 (L : Int) (i : Int) = kx p0 A B N M m1 m2 L2 v1' v2' ∧ v1'.length = L ∧ v2'.length = L ∧ ∀ j : Nat, j < L → rd v1' (j : Int) 0 = -1 ∧ rd v2' (j : Int) 0 = -1 := by
 intro c
 induction c with
 | zero =>
  intro i m v1 v2 hc hi hm h1 h2 hv
  obtain ⟨m, rfl⟩ : ∃ m', m = m' + 1 := ⟨m - 1, by omega⟩
  refine ⟨v1, v2, ?_, h1, h2, fun j hj => hv j (by omega)⟩
  rw [g104_3L.eq_2, g104_2, bdF (by omega)]
 | succ c ih =>
  intro i m v1 v2 hc hi hm h1 h2 hv
  obtain ⟨m, rfl⟩ : ∃ m', m = m' + 1 := ⟨m - 1, by omega⟩
  rw [g104_3L.eq_2, g104_2, bdT (by omega), idx_ok (by omega) (by omega), idx_ok (by omega) (by omega), w64_id (by omega) (by omega)]
  have key : ∀ v : List Int, v.length = L → ∀ j : Nat, j < i + 1 → (j < i → rd v (j : Int) 0 = -1) → rd (v.set (i : Int).toNat (-1)) (j : Int) 0 = -1 := fun v hv j hj hr => by
   rw [rd_lt (by omega) (by rw [List.length_set]; omega), List.getElem_set]
   split
   ·rfl
   ·have := hr (by omega)
    rw [rd_lt (by omega) (by omega)] at this
    exact this
  exact ih (i + 1) m _ _ (by omega) (by omega) (by omega) (by rw [List.length_set]; exact h1) (by rw [List.length_set]; exact h2) fun j hj => ⟨key v1 h1 j hj fun h => (hv j h).1, key v2 h2 j hj fun h => (hv j h).2⟩
theorem bisect_ok (n : Nat) (hn : Big ≤ n) (h3 : 3 ≤ A.length + B.length) (hN : A.length ≤ 500000) (hM : B.length ≤ 500000) {kr : List (Int × ByteArray) → Option β} :
  Met kr q121 p0 A B (g104_42 (β := β) n q67 q82 q104 q121 kr p0 A B) ∨
  (g104_42 (β := β) n q67 q82 q104 q121 kr p0 A B = kr [(-1, runesBytes A), (1, runesBytes B)] ∧ dst A B = A.length + B.length) := by
 dsimp only [g104_42, g104_1]
 rw [w64_id (n := (A.length : Int) + B.length) (by omega) (by omega), w64_id (n := (A.length : Int) + B.length + 1) (by omega) (by omega)]
 obtain ⟨mN, hmN⟩ : ∃ mN : Nat, mN = (A.length + B.length + 1) / 2 := ⟨_, rfl⟩
 have e1 : ((A.length : Int) + B.length + 1).tdiv 2 = (mN : Int) := by
  rw [Int.tdiv_eq_ediv_of_nonneg (by omega)]; omega
 rw [e1, w64_id (n := (mN : Int)) (by omega) (by omega), w64_id (n := 2 * (mN : Int)) (by omega) (by omega), bnd_ok (by omega) (by omega) (by omega), roomI_ok (by omega), bnd_ok (by omega) (by omega) (by omega), roomI_ok (by omega)]
 have e2 : (2 * (mN : Int)).toNat = 2 * mN := by omega
 rw [e2, List.length_replicate]
 dsimp only [g104_4, g104_3]
 obtain ⟨v1, v2, i1, i2, i3, i4⟩ := iloop (β := β) (p0 := p0) (A := A) (B := B) q67 q82 q104 q121 n (kx := fun p0 x1 x2 v7 v8 v9 v10 v11 x12 x13 => g104_5 n q67 q82 q104 q121 (fun p0 x1 x2 v7 v8 v9 v10 v11 x12 x13 v15 v16 v17 v18 v19 v20 v21 => g104_40 n q67 q82 q104 q121 (fun x1 x2 => g104_41 n q67 q82 q104 q121 kr x1 x2) kr p0 x1 x2 v7 v8 v9 v10 v11 x12 x13 v15 v16 v17 v18 v19 v20 v21) p0 x1 x2 v7 v8 v9 v10 v11 x12 x13) (A.length : Int) (B.length : Int) (mN : Int) (mN : Int) (2 * (mN : Int)) (2 * mN) (by omega) (2 * mN) 0 n (List.replicate (2 * mN) 0) (List.replicate (2 * mN) 0) (by omega) (by omega) (by unfold Big at hn; omega) (by simp) (by simp) (fun j hj => by omega)
 rw [show ((0 : Nat) : Int) = 0 from rfl] at i1
 rw [i1]
 dsimp only [g104_5, g104_40, g104_39]
 rw [w64_id (n := (mN : Int) + 1) (by omega) (by omega), idx_ok (by omega) (by omega), idx_ok (by omega) (by omega), w64_id (n := (A.length : Int) - B.length) (by omega) (by omega)]
 have harr : ∀ v : List Int, v.length = 2 * mN → (∀ j : Nat, j < 2 * mN → rd v (j : Int) 0 = -1) → Arr (v.set ((mN : Int) + 1).toNat 0) mN (updV (fun _ => -1) 1 0) := fun v hl hv => by
  refine Arr.set (V := fun _ => -1) ⟨by omega, fun j j1 j2 => ?_⟩ (by omega) (by omega)
  have := hv ((mN : Int) + j).toNat (by omega)
  rw [Int.toNat_of_nonneg (by omega)] at this
  exact this
 have hdone : ∀ A B : List Int, Done A B (mN : Int) (0 - 1) 0 0 (updV (fun _ => -1) 1 0) := fun A B => Done.first (by omega) (fun j _ _ hj => updV_other _ hj) (updV_same _ _ _)
 have hfr : ∀ z : Int, ((z.tmod 2 != 0) = false → z % 2 = 0) ∧ ((z.tmod 2 != 0) = true → z % 2 = 1) := fun z => by
  have : z.tmod 2 = 0 ↔ z % 2 = 0 := ⟨fun h => Int.emod_eq_zero_of_dvd (Int.dvd_of_tmod_eq_zero h), fun h => Int.tmod_eq_zero_of_dvd (Int.dvd_of_emod_eq_zero h)⟩
  refine ⟨fun h => ?_, fun h => ?_⟩
  ·have h : z.tmod 2 = 0 := by simpa using h
   exact this.1 h
  ·have h : ¬ z.tmod 2 = 0 := by simpa using h
   have : z % 2 ≠ 0 := fun h' => h (this.2 h')
   omega
 rcases oloop (β := β) (p0 := p0) (A := A) (B := B) (mD := (mN : Int)) q67 q82 q104 q121 n hn (kx := fun x1 x2 => g104_41 n q67 q82 q104 q121 kr x1 x2) (kr := kr) (fr := ((A.length : Int) - B.length).tmod 2 != 0) (hfr _).1 (hfr _).2 (by omega) (by omega) (by omega) (by omega) (by omega) _ n 0 0 0 0 0 _ _ _ _ (Int.le_refl _) (Nat.le_refl _) (by unfold Big at hn; omega) (hdone A B) (hdone A.reverse B.reverse) (harr v1 i2 fun j hj => (i4 j hj).1) (harr v2 i3 fun j hj => (i4 j hj).2) (by omega) (by omega) (by omega) (by omega) (fun _ => by omega) (fun _ => by omega) with h | ⟨h1, h2⟩
 ·exact .inl h
 ·exact .inr ⟨h1, h2⟩
end
end Go.Proofs.YticibdjilmclgaaDoorZF
namespace Go.Proofs.YticibdjilmclgaaDoorZF
open Go
set_option linter.unusedVariables false
set_option linter.unusedSimpArgs false
theorem getD_ext {x y : List Int} (h : x.length = y.length) (hv : ∀ j, j < x.length → x.getD j 0 = y.getD j 0) : x = y := by
 apply List.ext_getElem h
 intro j h1 h2
 have := hv j h1
 simpa [List.getD, List.getElem?_eq_getElem h1, List.getElem?_eq_getElem h2] using this
theorem runesEqual_ok (n : Nat) (hn : Big ≤ n) (x y : List Int) (hx : x.length ≤ 1000000000000) : g79 n x y = some (decide (x = y), ()) := by
 dsimp only [g79, g79_6, g79_5, g79_4, g79_3, g79_1]
 by_cases hl : x.length = y.length
 ·rw [biF (by simp [hl])]
  have key : ∀ (d i m : Nat), x.length - i = d → i ≤ x.length → d < m → (∀ j, j < i → x.getD j 0 = y.getD j 0) → g79_3L n (fun v4 => @some (DenR [.dat .bool]) (v4, ())) (some (true, ())) m y x (x.length : Int) (i : Int) = some (decide (x = y), ()) := by
   intro d
   induction d with
   | zero =>
    intro i m hd hi hm hv
    obtain ⟨m, rfl⟩ : ∃ m', m = m' + 1 := ⟨m - 1, by omega⟩
    rw [g79_3L.eq_2, g79_2, bdF (by omega), decide_eq_true (getD_ext hl fun j hj => hv j (by omega))]
   | succ d ih =>
    intro i m hd hi hm hv
    obtain ⟨m, rfl⟩ : ∃ m', m = m' + 1 := ⟨m - 1, by omega⟩
    rw [g79_3L.eq_2, g79_2, bdT (by omega), idx_ok (by omega) (by omega), idx_ok (by omega) (by omega), rd_nat, rd_nat]
    by_cases e : x.getD i 0 = y.getD i 0
    ·rw [biF (by rw [e]; simp), w64_id (by omega) (by omega)]
     refine ih (i + 1) m (by omega) (by omega) (by omega) fun j hj => ?_
     by_cases hj' : j = i
     ·subst hj'; exact e
     ·exact hv j (by omega)
    ·rw [biT (by simpa using e), decide_eq_false (fun h => e (by rw [h]))]
  exact key x.length 0 n (by omega) (by omega) (by unfold Big at hn; omega) fun j hj => by omega
 ·rw [biT (by simp; omega), decide_eq_false (fun h => hl (by rw [h]))]
theorem runesIndex_ok (n : Nat) (hn : Big ≤ n) (x y : List Int) (hx : x.length ≤ 1000000000000) (hy : y.length ≤ 1000000000000) :
  (∃ u v, x = u ++ y ++ v ∧ g101 n x y = some ((u.length : Int), ())) ∨ ((∀ u v, x ≠ u ++ y ++ v) ∧ g101 n x y = some (-1, ())) := by
 dsimp only [g101, g101_6, g101_5, g101_4, g101_3, g101_1]
 rw [w64_id (n := (x.length : Int) - y.length) (by omega) (by omega)]
 have key : ∀ (d i m : Nat), x.length + 1 - i = d → d < m → (∀ j, j < i → j + y.length ≤ x.length → (x.drop j).take y.length ≠ y) →
   (∃ u v, x = u ++ y ++ v ∧ g101_3L n (fun v4 => @some (DenR [.dat (.int .i64)]) (v4, ())) (some (-1, ())) m x y ((x.length : Int) - y.length) (i : Int) = some ((u.length : Int), ())) ∨
   ((∀ u v, x ≠ u ++ y ++ v) ∧ g101_3L n (fun v4 => @some (DenR [.dat (.int .i64)]) (v4, ())) (some (-1, ())) m x y ((x.length : Int) - y.length) (i : Int) = some (-1, ())) := by
  intro d
  induction d using Nat.strongRecOn with
  | _ d ih =>
   intro i m hd hm hv
   obtain ⟨m, rfl⟩ : ∃ m', m = m' + 1 := ⟨m - 1, by omega⟩
   rw [g101_3L.eq_2, g101_2]
   by_cases h : i + y.length ≤ x.length
   ·rw [bdT (by omega), w64_id (n := (i : Int) + y.length) (by omega) (by omega), bnd_ok (by omega) (by omega) (by omega)]
    have ec : cut x (i : Int) ((i : Int) + y.length) = (x.drop i).take y.length := by
     rw [show (i : Int) + y.length = ((i + y.length : Nat) : Int) by omega, cut_nat]; congr 1; omega
    rw [ec, runesEqual_ok n hn _ _ (by rw [List.length_take, List.length_drop]; omega), Option.bind_some]
    by_cases e : (x.drop i).take y.length = y
    ·rw [biT (by simpa using e)]
     refine .inl ⟨x.take i, x.drop (i + y.length), ?_, by rw [show (x.take i).length = i by rw [List.length_take]; omega]⟩
     rw [List.append_assoc]
     conv => rhs; rw [← e]
     rw [List.length_take, List.length_drop, show min y.length (x.length - i) = y.length by omega, ← List.drop_drop, List.take_append_drop, List.take_append_drop]
    ·rw [biF (by simpa using e), w64_id (by omega) (by omega)]
     have := ih (d - 1) (by omega) (i + 1) m (by omega) (by omega) fun j hj hjl => by
      by_cases hj' : j = i
      ·subst hj'; exact e
      ·exact hv j (by omega) hjl
     rw [show ((i : Int) + 1) = ((i + 1 : Nat) : Int) by omega]
     exact this
   ·rw [bdF (by omega)]
    refine .inr ⟨fun u v hx' => ?_, rfl⟩
    have hl := congrArg List.length hx'
    simp only [List.length_append] at hl
    refine hv u.length (by omega) (by omega) ?_
    rw [hx', List.append_assoc, List.drop_left, List.take_left]
 exact key (x.length + 1) 0 n (by omega) (by unfold Big at hn; omega) fun j hj => by omega
end Go.Proofs.YticibdjilmclgaaDoorZF
namespace Go.Proofs.YticibdjilmclgaaDoorZF
open Go
set_option linter.unusedVariables false
set_option linter.unusedSimpArgs false
structure LD (a b : List Int) (l : List Rp) : Prop where
 ok : Ok l
 src : srcR l = a
 tgt : tgtR l = b
 ed : edR l = dst a b
 len : l.length ≤ 3 * (a.length + b.length)
 full : Full l
theorem LD.best {a b : List Int} {l : List Rp} (h : LD a b l) : Best l := by unfold Best; rw [h.src, h.tgt]; exact Nat.le_of_eq h.ed
theorem LD.of {a b : List Int} {l : List Rp} (ok : Ok l) (src : srcR l = a) (tgt : tgtR l = b) (ed : edR l ≤ dst a b) (len : l.length ≤ 3 * (a.length + b.length)) (full : Full l) : LD a b l :=
 ⟨ok, src, tgt, by have := dst_le_ed l ok.ops; rw [src, tgt] at this; omega, len, full⟩
theorem LD.merge {a b : List Int} {l : List Rp} (h : LD a b l) : LD a b (merge l) := by
 have h1 := merge_texts h.ok
 have h2 := phi_merge h.ok
 have h3 := dst_le_ed (Go.Proofs.YticibdjilmclgaaDoorZF.merge l) h.ok.merge.ops
 rw [h1.1, h1.2.1, h.src, h.tgt] at h3
 have h4 := h.ed
 have h5 := h.len
 refine LD.of h.ok.merge (h1.1.trans h.src) (h1.2.1.trans h.tgt) (by omega) ?_ (merge_tidy h.ok h.full h.best).1
 unfold phi at h2
 omega
theorem dst_one : ∀ (c : Int) (v : List Int), c ∉ v → dst [c] v = 1 + v.length
 | c, [], _ => by rw [dst_nil']; rfl
 | c, b :: v, h => by
  have h1 : ¬ c = b := fun e => h (by simp [e])
  have h2 := dst_one c v fun hv => h (by simp [hv])
  rw [dst_cons, if_neg h1, dst_nil, h2, List.length_cons]; omega
def Trim (a b : List Int) : Prop := (∀ c x d y, a = c :: x → b = d :: y → c ≠ d) ∧ (∀ c x d y, a = x ++ [c] → b = y ++ [d] → c ≠ d)
theorem Trim.two {a b : List Int} (h : Trim a b) (ha : a ≠ []) (hb : b ≠ []) : 2 ≤ dst a b := by
 match a, b, ha, hb with
 | c :: x, d :: y, _, _ =>
  have hcd := h.1 c x d y rfl rfl
  rw [dst_cons, if_neg hcd]
  have k1 : dst x (d :: y) ≠ 0 := fun h0 => by
   have e := dst_zero h0
   rcases List.eq_nil_or_concat (d :: y) with g | ⟨u, q, g⟩
   ·cases g
   ·rw [List.concat_eq_append] at g
    exact h.2 q (c :: u) q u (by rw [e, g]; rfl) g rfl
  have k2 : dst (c :: x) y ≠ 0 := fun h0 => by
   have e := dst_zero h0
   rcases List.eq_nil_or_concat (c :: x) with g | ⟨u, q, g⟩
   ·cases g
   ·rw [List.concat_eq_append] at g
    exact h.2 q u q (d :: u) g (by rw [← e, g]; rfl) rfl
  omega
theorem within_ne {L S u v : List Int} (e : L = u ++ S ++ v) (hS : S ≠ []) (h1 : ∀ c x y, L = c :: x → S = c :: y → False) (h2 : ∀ c x y, L = x ++ [c] → S = y ++ [c] → False) : u ≠ [] ∧ v ≠ [] := by
 refine ⟨fun hu => ?_, fun hv => ?_⟩
 ·subst hu
  cases S with
  | nil => exact hS rfl
  | cons c y => exact h1 c (y ++ v) y (by rw [e]; simp) rfl
 ·subst hv
  rcases List.eq_nil_or_concat S with g | ⟨y, c, g⟩
  ·exact hS g
  ·rw [List.concat_eq_append] at g
   exact h2 c (u ++ y) y (by rw [e, g]; simp) g
theorem Trim.ne {a b : List Int} (h : Trim a b) : (∀ c x y, a = c :: x → b = c :: y → False) ∧ (∀ c x y, a = x ++ [c] → b = y ++ [c] → False) := ⟨fun c x y h1 h2 => h.1 c x c y h1 h2 rfl, fun c x y h1 h2 => h.2 c x c y h1 h2 rfl⟩
theorem full3 {k1 k2 k3 : Int} {u s v : List Int} (hu : u ≠ []) (hs : s ≠ []) (hv : v ≠ []) : Full [(k1, u), (k2, s), (k3, v)] := Full.cons hu (Full.cons hs (Full.cons hv Full.nil))
theorem full2 {k1 k2 : Int} {u v : List Int} (hu : u ≠ []) (hv : v ≠ []) : Full [(k1, u), (k2, v)] := Full.cons hu (Full.cons hv Full.nil)
theorem halfNone (n : Nat) (p0) (x y : List Int) (hp : p0.1 ≤ (0 : Int)) : g102 n p0 x y = some ((), ()) := by
 dsimp only [g102, g102_3, g102_1]
 rw [bdT hp]
section
variable (q67 : DenA g67_A → Option (DenR g67_R)) (q82 : DenA g82_A → Option (DenR g82_R)) (q104 : DenA g104_A → Option (DenR g104_R)) (q121 : DenA g121_A → Option (DenR g121_R))
theorem split_ok (n : Nat) (p0) {A B : List Int} {x y : Nat} (hx : x ≤ A.length) (hy : y ≤ B.length) {l1 l2 : List Rp} (h1 : q67 (p0, (A.take x, (B.take y, (false, ())))) = @some (DenR g67_R) (M l1, ())) (h2 : q67 (p0, (A.drop x, (B.drop y, (false, ())))) = @some (DenR g67_R) (M l2, ())) (hl : l1.length + l2.length ≤ 1000000) :
  g121_b n q67 q82 q104 q121 p0 A B (x : Int) (y : Int) = some (M (l1 ++ l2), ()) := by
 dsimp only [g121_b, g121_1]
 rw [bnd_ok (by omega) (by omega) (by omega), bnd_ok (by omega) (by omega) (by omega), bnd_ok (by omega) (by omega) (by omega), bnd_ok (by omega) (by omega) (by omega), cut_from, cut_from, cut_to _ _ _ (by omega), cut_to _ _ _ (by omega), Int.toNat_natCast, Int.toNat_natCast, bind_some' h1, bind_some' h2]
 simp only
 rw [roomy_ok (by unfold M; rw [List.length_map, List.length_map]; omega)]
 unfold M
 rw [List.map_append]
theorem same_way {γ : Type} (c d : Bool) (z : γ) : (bif c then (bif d then z else z) else z) = z := by cases c <;> cases d <;> rfl
theorem compute_ok (n : Nat) (hn : Big ≤ n) (p0) (hp : p0.1 ≤ (0 : Int)) {a b : List Int} (ln : Bool) (hln : ln = false ∨ a.length ≤ 100 ∨ b.length ≤ 100) (ha : Valids a) (hb : Valids b) (hla : a.length ≤ 100000) (hlb : b.length ≤ 100000) (ht : Trim a b) (hne : a ≠ [] ∨ b ≠ [])
  (hq : 2 ≤ a.length → 2 ≤ b.length → 2 ≤ dst a b → ∃ l, q104 (p0, (a, (b, ()))) = @some (DenR g104_R) (M l, ()) ∧ LD a b l) : ∃ l, g82_b n q67 q82 q104 q121 p0 a b ln = some (M l, ()) ∧ LD a b l := by
 dsimp only [g82_b, g82_3, g82_1]
 by_cases ea : a = []
 ·subst ea
  rw [biT (by simp), roomy_ok (by simp)]
  refine ⟨[(1, b)], rfl, LD.of (fun d hd => ?_) rfl (by simp [tgtR]) (by rw [dst_nil]; show b.length + 0 ≤ _; omega) ?_ (Full.cons (hne.resolve_left (fun h => h rfl)) Full.nil)⟩
  ·obtain rfl := List.mem_singleton.1 hd
   exact ⟨.inr (.inr rfl), hb⟩
  ·have : b ≠ [] := hne.resolve_left (fun h => h rfl)
   have := List.length_pos_iff.2 this
   simp; omega
 ·have pa := List.length_pos_iff.2 ea
  rw [biF (by simp; exact ea)]
  by_cases eb : b = []
  ·subst eb
   rw [biT (by simp), roomy_ok (by simp)]
   refine ⟨[(-1, a)], rfl, LD.of (fun d hd => ?_) (by simp [srcR]) rfl (by rw [dst_nil']; show a.length + 0 ≤ _; omega) ?_ (Full.cons ea Full.nil)⟩
   ·obtain rfl := List.mem_singleton.1 hd
    exact ⟨.inl rfl, ha⟩
   ·simp; omega
  ·have pb := List.length_pos_iff.2 eb
   rw [biF (by simp; exact eb)]
   have hd2 := ht.two ea eb
   have key : ∀ (L S : List Int), S.length ≤ L.length → ((L = a ∧ S = b ∧ a.length > b.length) ∨ (L = b ∧ S = a ∧ ¬ a.length > b.length)) → ∃ l, g82_2 n q67 q82 q104 q121 (fun x8 => @some (DenR [.rw (.pair (.int .i8) .str) 81]) (x8, ())) p0 a b ln L S = some (M l, ()) ∧ LD a b l := by
    intro L S hSL hcase
    have hLv : Valids L := by rcases hcase with ⟨rfl, _, _⟩ | ⟨rfl, _, _⟩ <;> assumption
    have hSv : Valids S := by rcases hcase with ⟨_, rfl, _⟩ | ⟨_, rfl, _⟩ <;> assumption
    have hLl : L.length ≤ 100000 := by rcases hcase with ⟨rfl, _, _⟩ | ⟨rfl, _, _⟩ <;> assumption
    have hSn : S ≠ [] := by rcases hcase with ⟨_, rfl, _⟩ | ⟨_, rfl, _⟩ <;> assumption
    have hSp := List.length_pos_iff.2 hSn
    unfold g82_2
    rcases runesIndex_ok n hn L S (by omega) (by omega) with ⟨u, v, e, h⟩ | ⟨hno, h⟩
    ·have hl := congrArg List.length e
     simp only [List.length_append] at hl
     have huv : Valids u ∧ Valids v := by
      rw [e] at hLv
      exact ⟨(Valids.of_append (Valids.of_append hLv).1).1, (Valids.of_append hLv).2⟩
     have c1 : cut L 0 (u.length : Int) = u := by rw [cut_from, e, Int.toNat_natCast, List.append_assoc, List.take_left]
     have c2 : cut L ((u.length : Int) + S.length) (L.length : Int) = v := by
      rw [cut_to _ _ _ (by omega), e, show ((u.length : Int) + S.length).toNat = (u ++ S).length by rw [List.length_append]; omega, List.drop_left]
     rw [h, Option.bind_some, biT (by simp)]
     have hw : w64 ((u.length : Int) + S.length) = (u.length : Int) + S.length := w64_id (by omega) (by omega)
     rcases hcase with ⟨rfl, rfl, hgt⟩ | ⟨rfl, rfl, hgt⟩
     ·rw [bdT (by omega)]
      simp only [hw]
      rw [bnd_ok (by omega) (by omega) (by omega), bnd_ok (by omega) (by omega) (by omega), c1, c2]
      have hw := within_ne e hSn ht.ne.1 ht.ne.2
      refine ⟨[(-1, u), (0, S), (-1, v)], rfl, LD.of (fun d hd => ?_) ?_ ?_ ?_ ?_ (full3 hw.1 hSn hw.2)⟩
      ·simp only [List.mem_cons, List.not_mem_nil, or_false] at hd
       rcases hd with rfl | rfl | rfl
       ·exact ⟨.inl rfl, huv.1⟩
       ·exact ⟨.inr (.inl rfl), hSv⟩
       ·exact ⟨.inl rfl, huv.2⟩
      ·show u ++ (S ++ (v ++ [])) = L; rw [e]; simp
      ·show S ++ [] = S; simp
      ·show u.length + (0 + (v.length + 0)) ≤ _
       have := (dst_lo L S).1
       omega
      ·simp; omega
     ·rw [bdF (by omega)]
      simp only [hw]
      rw [bnd_ok (by omega) (by omega) (by omega), bnd_ok (by omega) (by omega) (by omega), c1, c2]
      have hw := within_ne e hSn (fun c x y k1 k2 => ht.ne.1 c y x k2 k1) (fun c x y k1 k2 => ht.ne.2 c y x k2 k1)
      refine ⟨[(1, u), (0, S), (1, v)], rfl, LD.of (fun d hd => ?_) ?_ ?_ ?_ ?_ (full3 hw.1 hSn hw.2)⟩
      ·simp only [List.mem_cons, List.not_mem_nil, or_false] at hd
       rcases hd with rfl | rfl | rfl
       ·exact ⟨.inr (.inr rfl), huv.1⟩
       ·exact ⟨.inr (.inl rfl), hSv⟩
       ·exact ⟨.inr (.inr rfl), huv.2⟩
      ·show S ++ [] = S; simp
      ·show u ++ (S ++ (v ++ [])) = L; rw [e]; simp
      ·show u.length + (0 + (v.length + 0)) ≤ _
       have := (dst_lo S L).2
       omega
      ·simp; omega
    ·rw [h, Option.bind_some, biF (by simp)]
     by_cases h1 : S.length = 1
     ·rw [biT (by simp [h1])]
      obtain ⟨c, hc⟩ := List.length_eq_one_iff.1 h1
      have hcL : c ∉ L := fun hm => by
       obtain ⟨u, v, e⟩ := List.append_of_mem hm
       exact hno u v (by rw [e, hc]; simp)
      have hdd : dst S L = 1 + L.length := by rw [hc]; exact dst_one c L hcL
      refine ⟨[(-1, a), (1, b)], rfl, LD.of (fun d hd => ?_) ?_ ?_ ?_ ?_ (full2 ea eb)⟩
      ·simp only [List.mem_cons, List.not_mem_nil, or_false] at hd
       rcases hd with rfl | rfl
       ·exact ⟨.inl rfl, ha⟩
       ·exact ⟨.inr (.inr rfl), hb⟩
      ·show a ++ [] = a; simp
      ·show b ++ [] = b; simp
      ·show a.length + (b.length + 0) ≤ _
       rcases hcase with ⟨rfl, rfl, hgt⟩ | ⟨rfl, rfl, hgt⟩
       ·rw [dst_comm _ _ _ (Nat.le_refl _), hdd]; omega
       ·rw [hdd]; omega
      ·simp; omega
     ·rw [biF (by simp; omega), halfNone n p0 a b hp, Option.bind_some]
      have h2a : 2 ≤ a.length ∧ 2 ≤ b.length := by rcases hcase with ⟨rfl, rfl, hgt⟩ | ⟨rfl, rfl, hgt⟩ <;> omega
      obtain ⟨l, g1, g2⟩ := hq h2a.1 h2a.2 hd2
      refine ⟨l, ?_, g2⟩
      rcases hln with rfl | h | h
      ·rw [cond_false, g1]; rfl
      ·rw [bdF (by omega), g1]; cases ln <;> rfl
      ·rw [bdF (p := (b.length : Int) > 100) (by omega), same_way, g1]; rfl
   by_cases hgt : a.length > b.length
   ·rw [bdT (by omega)]
    exact key a b (by omega) (.inl ⟨rfl, rfl, hgt⟩)
   ·rw [bdF (by omega)]
    exact key b a (by omega) (.inr ⟨rfl, rfl, hgt⟩)
end
end Go.Proofs.YticibdjilmclgaaDoorZF
namespace Go.Proofs.YticibdjilmclgaaDoorZF
open Go
set_option linter.unusedVariables false
set_option linter.unusedSimpArgs false
theorem csl_last {x y : List Int} {c d : Int} {u v : List Int} (hx : x.take (x.length - csl x y) = u ++ [c]) (hy : y.take (y.length - csl x y) = v ++ [d]) : c ≠ d := by
 have e1 := congrArg List.reverse hx
 have e2 := congrArg List.reverse hy
 rw [List.reverse_append] at e1 e2
 have q1 : x.reverse.drop (cpl x.reverse y.reverse) = c :: u.reverse := by
  rw [List.drop_reverse]; exact e1
 have q2 : y.reverse.drop (cpl x.reverse y.reverse) = d :: v.reverse := by
  rw [List.drop_reverse]; exact e2
 exact cpl_head q1 q2
theorem trim_ok (a b : List Int) : Trim ((a.drop (cpl a b)).take ((a.drop (cpl a b)).length - csl (a.drop (cpl a b)) (b.drop (cpl a b)))) ((b.drop (cpl a b)).take ((b.drop (cpl a b)).length - csl (a.drop (cpl a b)) (b.drop (cpl a b)))) := by
 refine ⟨fun c x d y hx hy => ?_, fun c x d y hx hy => csl_last hx hy⟩
 have g1 : ∃ x', a.drop (cpl a b) = c :: x' := by
  cases h : a.drop (cpl a b) with
  | nil => rw [h] at hx; simp at hx
  | cons c' x' =>
   rw [h] at hx
   cases hn : (c' :: x').length - csl (c' :: x') (b.drop (cpl a b)) with
   | zero => rw [hn] at hx; simp at hx
   | succ k => rw [hn, List.take_succ_cons] at hx; exact ⟨x', by rw [List.cons.inj hx |>.1]⟩
 have g2 : ∃ y', b.drop (cpl a b) = d :: y' := by
  cases h : b.drop (cpl a b) with
  | nil => rw [h] at hy; simp at hy
  | cons d' y' =>
   rw [h] at hy
   cases hn : (d' :: y').length - csl (a.drop (cpl a b)) (d' :: y') with
   | zero => rw [hn] at hy; simp at hy
   | succ k => rw [hn, List.take_succ_cons] at hy; exact ⟨y', by rw [List.cons.inj hy |>.1]⟩
 obtain ⟨x', g1⟩ := g1
 obtain ⟨y', g2⟩ := g2
 exact cpl_head g1 g2
def eqPart (t : List Int) : List Rp := if t = [] then [] else [(0, t)]
theorem eqPart_full (t : List Int) : Full (eqPart t) := by
 unfold eqPart
 split
 ·exact Full.nil
 ·rename_i h; exact Full.cons h Full.nil
theorem eqPart_ok {t : List Int} (h : Valids t) : Ok (eqPart t) ∧ srcR (eqPart t) = t ∧ tgtR (eqPart t) = t ∧ edR (eqPart t) = 0 ∧ (eqPart t).length ≤ 1 := by
 unfold eqPart
 split
 ·rename_i e; subst e; exact ⟨Ok.nil, rfl, rfl, rfl, by simp⟩
 ·refine ⟨fun d hd => ?_, by simp [srcR], by simp [tgtR], by simp [edR], by simp⟩
  obtain rfl := List.mem_singleton.1 hd
  exact ⟨.inr (.inl rfl), h⟩
section
variable (q67 : DenA g67_A → Option (DenR g67_R)) (q82 : DenA g82_A → Option (DenR g82_R)) (q104 : DenA g104_A → Option (DenR g104_R)) (q121 : DenA g121_A → Option (DenR g121_R))
theorem mainR_ok (n : Nat) (hn : Big ≤ n) (p0) {a b : List Int} (ln : Bool) (ha : Valids a) (hb : Valids b) (hla : a.length ≤ 100000) (hlb : b.length ≤ 100000)
  (hq : a ≠ b → ∀ a' b' : List Int, Valids a' → Valids b' → a'.length ≤ a.length → b'.length ≤ b.length → a'.length + b'.length ≤ a.length + b.length → Trim a' b' → (a' ≠ [] ∨ b' ≠ []) → ∃ l, q82 (p0, (a', (b', (ln, ())))) = @some (DenR g82_R) (M l, ()) ∧ LD a' b' l) :
  ∃ l, g67_b n q67 q82 q104 q121 p0 a b ln = some (M l, ()) ∧ LD a b l ∧ ((a = b ∧ l = eqPart a) ∨ (a ≠ b ∧ ∃ x, LD a b x ∧ l = merge x)) := by
 dsimp only [g67_b, g67_3, g67_1]
 rw [runesEqual_ok n hn a b (by omega), Option.bind_some]
 by_cases hab : a = b
 ·subst hab
  rw [biT (by simp)]
  have hd := dst_self a
  by_cases ha0 : a = []
  ·subst ha0
   exact ⟨[], rfl, LD.of Ok.nil rfl rfl (Nat.zero_le _) (by simp) Full.nil, .inl ⟨rfl, rfl⟩⟩
  ·have := List.length_pos_iff.2 ha0
   rw [bdT (by omega), roomy_ok (by simp)]
   have he := eqPart_ok ha
   have hep : eqPart a = [(0, a)] := by unfold eqPart; rw [if_neg ha0]
   refine ⟨eqPart a, by rw [hep]; rfl, LD.of he.1 he.2.1 he.2.2.1 (by rw [he.2.2.2.1]; omega) (by omega) (eqPart_full a), .inl ⟨rfl, rfl⟩⟩
 ·rw [biF (by simpa using hab), prefix_ok n hn a b (by omega), Option.bind_some]
  have c1 := cpl_le_left a b
  have c2 := cpl_le_right a b
  have c3 := cpl_take a b
  simp only
  rw [bnd_ok (by omega) (by omega) (by omega), bnd_ok (by omega) (by omega) (by omega), bnd_ok (by omega) (by omega) (by omega)]
  have htrim := trim_ok a b
  have q1 := csl_le_left (a.drop (cpl a b)) (b.drop (cpl a b))
  have q2 := csl_le_right (a.drop (cpl a b)) (b.drop (cpl a b))
  have q3 := csl_drop (a.drop (cpl a b)) (b.drop (cpl a b))
  rw [cut_to a _ _ (by omega), cut_to b _ _ (by omega), Int.toNat_natCast, cut_from, Int.toNat_natCast]
  have ea : a = a.take (cpl a b) ++ a.drop (cpl a b) := (List.take_append_drop _ _).symm
  have eb : b = b.take (cpl a b) ++ b.drop (cpl a b) := (List.take_append_drop _ _).symm
  have la1 : (a.drop (cpl a b)).length = a.length - cpl a b := List.length_drop
  have lb1 : (b.drop (cpl a b)).length = b.length - cpl a b := List.length_drop
  have hva : Valids (a.take (cpl a b)) := ha.take _
  have hva1 : Valids (a.drop (cpl a b)) := ha.drop _
  have hvb1 : Valids (b.drop (cpl a b)) := hb.drop _
  generalize hpre : a.take (cpl a b) = pre at *
  generalize ha1 : a.drop (cpl a b) = a1 at *
  generalize hb1 : b.drop (cpl a b) = b1 at *
  generalize hs : csl a1 b1 = s at *
  rw [suffix_ok n hn a1 b1 (by omega) (by omega), Option.bind_some, hs]
  simp only
  rw [w64_id (n := (a1.length : Int) - s) (by omega) (by omega), w64_id (n := (b1.length : Int) - s) (by omega) (by omega), bnd_ok (by omega) (by omega) (by omega), bnd_ok (by omega) (by omega) (by omega), bnd_ok (by omega) (by omega) (by omega),
   cut_from, cut_from, cut_to a1 _ _ (by omega), show ((a1.length : Int) - s).toNat = a1.length - s by omega, show ((b1.length : Int) - s).toNat = b1.length - s by omega]
  have ea1 : a1 = a1.take (a1.length - s) ++ a1.drop (a1.length - s) := (List.take_append_drop _ _).symm
  have eb1 : b1 = b1.take (b1.length - s) ++ a1.drop (a1.length - s) := by rw [q3]; exact (List.take_append_drop _ _).symm
  have la2 : (a1.take (a1.length - s)).length = a1.length - s := by rw [List.length_take]; omega
  have lb2 : (b1.take (b1.length - s)).length = b1.length - s := by rw [List.length_take]; omega
  have lsf : (a1.drop (a1.length - s)).length = s := by rw [List.length_drop]; omega
  have hva2 := hva1.take (a1.length - s)
  have hvb2 := hvb1.take (b1.length - s)
  have hvsf := hva1.drop (a1.length - s)
  have lpre : pre.length = cpl a b := by rw [← hpre, List.length_take]; omega
  generalize hsf : a1.drop (a1.length - s) = sf at *
  generalize ha2 : a1.take (a1.length - s) = a2 at *
  generalize hb2 : b1.take (b1.length - s) = b2 at *
  have hdst : dst a b = dst a2 b2 := by
   rw [ea, eb, ← c3, dst_pre_same, ea1, eb1, dst_suf_same]
  have eaf : a = pre ++ (a2 ++ sf) := by rw [← ea1]; exact ea
  have ebf : b = pre ++ (b2 ++ sf) := by rw [← eb1, c3]; exact eb
  have hne : a2 ≠ [] ∨ b2 ≠ [] := by
   by_cases h : a2 = []
   ·right
    intro h2
    exact hab (by rw [eaf, ebf, h, h2])
   ·exact .inl h
  have hll : a2.length + b2.length ≤ a.length + b.length := by omega
  obtain ⟨l, g1, g2⟩ := hq hab a2 b2 hva2 hvb2 (by omega) (by omega) hll htrim hne
  rw [bind_some' g1]
  have hpo := eqPart_ok hva
  have hso := eqPart_ok hvsf
  have hlen := g2.len
  have hx : LD a b (eqPart pre ++ l ++ eqPart sf) := by
   refine LD.of ((hpo.1.append g2.ok).append hso.1) ?_ ?_ ?_ ?_ (((eqPart_full pre).append g2.full).append (eqPart_full sf))
   ·rw [srcR_append, srcR_append, hpo.2.1, hso.2.1, g2.src, eaf, List.append_assoc]
   ·rw [tgtR_append, tgtR_append, hpo.2.2.1, hso.2.2.1, g2.tgt, ebf, List.append_assoc]
   ·rw [edR_append, edR_append, hpo.2.2.2.1, hso.2.2.2.1, g2.ed, hdst]; omega
   ·have k1 : (eqPart pre).length ≤ pre.length := by
     unfold eqPart; split
     ·simp
     ·rename_i h; have := List.length_pos_iff.2 h; simp; omega
    have k2 : (eqPart sf).length ≤ sf.length := by
     unfold eqPart; split
     ·simp
     ·rename_i h; have := List.length_pos_iff.2 h; simp; omega
    rw [List.length_append, List.length_append]
    have z1 := congrArg List.length eaf
    have z2 := congrArg List.length ebf
    simp only [List.length_append] at z1 z2
    omega
  have hed := hx.ed
  have hhi := dst_hi a b
  have hxl := hx.len
  have hm : g73 n p0 (M (eqPart pre ++ l ++ eqPart sf)) = some (M (merge (eqPart pre ++ l ++ eqPart sf)), ()) := merge_ok n hn p0 _ hx.ok (by unfold phi; omega) (by rw [hx.src, hx.tgt]; omega)
  have last : ∀ z : List Rp, z = eqPart pre ++ l → g67_2 n q67 q82 q104 q121 (fun x8 => @some (DenR [.rw (.pair (.int .i8) .str) 81]) (x8, ())) p0 sf (M z) = some (M (merge (eqPart pre ++ l ++ eqPart sf)), ()) := fun z hz => by
   subst hz
   unfold g67_2
   by_cases hsf0 : sf = []
   ·rw [biF (by simp [hsf0])]
    have : eqPart sf = [] := by unfold eqPart; rw [if_pos hsf0]
    rw [this, List.append_nil] at hm ⊢
    rw [bind_some' hm]
   ·have hp := List.length_pos_iff.2 hsf0
    rw [biT (by simp [hsf0])]
    have : eqPart sf = [(0, sf)] := by unfold eqPart; rw [if_neg hsf0]
    rw [roomy_ok (by unfold M; rw [List.length_map]; simp only [List.length_append, List.length_cons, List.length_nil] at hxl ⊢; omega)]
    have e : M (eqPart pre ++ l) ++ [((0 : Int), runesBytes sf)] = M (eqPart pre ++ l ++ eqPart sf) := by
     rw [this]; unfold M; simp only [List.map_append]; rfl
    rw [e, bind_some' hm]
  refine ⟨merge (eqPart pre ++ l ++ eqPart sf), ?_, hx.merge, .inr ⟨hab, _, hx, rfl⟩⟩
  by_cases hp0 : pre = []
  ·rw [biF (by simp [hp0])]
   exact last l (by unfold eqPart; rw [if_pos hp0]; rfl)
  ·have hp := List.length_pos_iff.2 hp0
   rw [biT (by simp [hp0]), roomy_ok (by unfold M; rw [List.length_map]; simp only [List.length_append, List.length_cons, List.length_nil] at hxl ⊢; omega)]
   exact last ((0, pre) :: l) (by unfold eqPart; rw [if_neg hp0]; rfl)
end
theorem main_rec (n : Nat) (hn : Big ≤ n) (p0) (hp : p0.1 ≤ (0 : Int)) : ∀ (N m : Nat) (a b : List Int) (ln : Bool), (ln = false ∨ a.length ≤ 100 ∨ b.length ≤ 100 ∨ a = b) → a.length + b.length ≤ N → N ≤ 100000 → 4 * N + 8 ≤ m → Valids a → Valids b →
  ∃ l, (g67_rec n m).1 (p0, (a, (b, (ln, ())))) = @some (DenR g67_R) (M l, ()) ∧ LD a b l ∧ ((a = b ∧ l = eqPart a) ∨ (a ≠ b ∧ ∃ x, LD a b x ∧ l = merge x)) := by
 intro N
 induction N using Nat.strongRecOn with
 | _ N ih =>
  intro m a b ln hln hl hN hm ha hb
  obtain ⟨m, rfl⟩ : ∃ m', m = m' + 4 := ⟨m - 4, by omega⟩
  refine mainR_ok (a := a) (b := b) (ln := ln) (p0 := p0) (n := n) (hn := hn) (ha := ha) (hb := hb) (hla := by omega) (hlb := by omega) (hq := ?_) ..
  intro hab a' b' ha' hb' hla' hlb' hl' ht hne
  have hln' : ln = false ∨ a'.length ≤ 100 ∨ b'.length ≤ 100 := by
   rcases hln with h | h | h | h
   ·exact .inl h
   ·exact .inr (.inl (by omega))
   ·exact .inr (.inr (by omega))
   ·exact absurd h hab
  refine compute_ok (a := a') (b := b') (ln := ln) (hln := hln') (p0 := p0) (n := n) (hn := hn) (hp := hp) (ha := ha') (hb := hb') (hla := by omega) (hlb := by omega) (ht := ht) (hne := hne) (hq := ?_) ..
  intro h2a h2b hd2
  rcases bisect_ok (p0 := p0) (n := n) (hn := hn) (A := a') (B := b') (h3 := by omega) (hN := by omega) (hM := by omega) (kr := fun x6 => @some (DenR g104_R) (x6, ())) .. with h | ⟨h, hd⟩
  ·obtain ⟨x, y, ho, h1, h2, h3⟩ := h
   have hx := ho.hx
   have hy := ho.hy
   have hs := ho.sum
   have l1 : (a'.take x).length + (b'.take y).length < a'.length + b'.length := by
    rw [List.length_take, List.length_take]
    by_cases e : x = a'.length ∧ y = b'.length
    ·rw [e.1, e.2, ft_end] at h1; omega
    ·omega
   have l2 : (a'.drop x).length + (b'.drop y).length < a'.length + b'.length := by
    rw [List.length_drop, List.length_drop]
    by_cases e : x = 0 ∧ y = 0
    ·rw [e.1, e.2, gt_zero] at h2; omega
    ·omega
   obtain ⟨u, u1, u2, _⟩ := ih _ (by omega : (a'.take x).length + (b'.take y).length < N) m (a'.take x) (b'.take y) false (.inl rfl) (Nat.le_refl _) (by omega) (by omega) (ha'.take _) (hb'.take _)
   obtain ⟨v, v1, v2, _⟩ := ih _ (by omega : (a'.drop x).length + (b'.drop y).length < N) m (a'.drop x) (b'.drop y) false (.inl rfl) (Nat.le_refl _) (by omega) (by omega) (ha'.drop _) (hb'.drop _)
   have ul := u2.len
   have vl := v2.len
   have hsp := split_ok (n := n) (p0 := p0) (hx := hx) (hy := hy) (h1 := u1) (h2 := v1) (hl := by omega) (g67_rec n m).1 (g67_rec n m).2.1 (g67_rec n m).2.2.1 (g67_rec n m).2.2.2
   have key : LD a' b' (u ++ v) := by
    refine LD.of (u2.ok.append v2.ok) ?_ ?_ ?_ ?_ (u2.full.append v2.full)
    ·rw [srcR_append, u2.src, v2.src, List.take_append_drop]
    ·rw [tgtR_append, u2.tgt, v2.tgt, List.take_append_drop]
    ·rw [edR_append, u2.ed, v2.ed]
     rw [ft_grid hx hy, dst_rev] at hs
     unfold gt at hs
     omega
    ·rw [List.length_append]
     rw [List.length_take, List.length_take] at ul
     rw [List.length_drop, List.length_drop] at vl
     omega
   refine ⟨u ++ v, ?_, key⟩
   refine Eq.trans h3 ?_
   refine bind_some' hsp
  ·refine ⟨[(-1, a'), (1, b')], h, LD.of (fun d hd' => ?_) ?_ ?_ ?_ ?_ (full2 (List.ne_nil_of_length_pos (by omega)) (List.ne_nil_of_length_pos (by omega)))⟩
   ·simp only [List.mem_cons, List.not_mem_nil, or_false] at hd'
    rcases hd' with rfl | rfl
    ·exact ⟨.inl rfl, ha'⟩
    ·exact ⟨.inr (.inr rfl), hb'⟩
   ·show a' ++ [] = a'; simp
   ·show b' ++ [] = b'; simp
   ·show a'.length + (b'.length + 0) ≤ _; omega
   ·simp; omega
end Go.Proofs.YticibdjilmclgaaDoorZF
namespace Go.Proofs.YticibdjilmclgaaDoorZF
open Go
set_option linter.unusedVariables false
set_option linter.unusedSimpArgs false
theorem within_ex (n : Nat) (a b c d : Int) : ∃ x, g65 n a b c d = some (x, ()) := by
 dsimp only [g65, g65_1]
 by_cases h1 : a < b
 ·rw [bdT h1]; exact ⟨_, rfl⟩
 ·rw [bdF h1]
  by_cases h2 : a > c
  ·rw [bdT h2]; exact ⟨_, rfl⟩
  ·rw [bdF h2]; exact ⟨_, rfl⟩
theorem part_ex (n : Nat) (a : Nat) : ∃ x, g66 n a = some (x, ()) := by
 dsimp only [g66, g66_1]
 generalize (fGt .f64 a (0 : Nat) || fEq .f64 a (0 : Nat)) = c1
 generalize (fLt .f64 a (4607182418800017408 : Nat) || fEq .f64 a (4607182418800017408 : Nat)) = c2
 cases c1 <;> cases c2 <;> exact ⟨_, rfl⟩
theorem dmp_ex (n : Nat) (v) : ∃ p, g50 n (false, v) = some (p, ()) ∧ p.1 = (0 : Int) := by
 dsimp only [g50, g50_1]
 obtain ⟨x1, h1⟩ := within_ex n v.1 0 1000 4
 obtain ⟨x2, h2⟩ := within_ex n v.2.1 0 1048576 1000
 obtain ⟨x3, h3⟩ := part_ex n v.2.2.1
 obtain ⟨x4, h4⟩ := part_ex n v.2.2.2.1
 obtain ⟨x5, h5⟩ := within_ex n v.2.2.2.2.1 1 8 4
 obtain ⟨x6, h6⟩ := within_ex n v.2.2.2.2.2 32 62 32
 rw [bind_some' h1, bind_some' h2, bind_some' h3, bind_some' h4, bind_some' h5, bind_some' h6]
 exact ⟨_, rfl, rfl⟩
theorem dfMainB_ok (n : Nat) (hn : Big ≤ n) (x y : ByteArray) (ln : Bool) (hln : ln = false ∨ (runesOf x).length ≤ 100 ∨ (runesOf y).length ≤ 100 ∨ runesOf x = runesOf y) (hx : x.size ≤ 1000000000) (hy : y.size ≤ 1000000000) (hl : (runesOf x).length + (runesOf y).length ≤ 50000) :
  ∃ l, g14 n x y ln = some (M l, ()) ∧ LD (runesOf x) (runesOf y) l ∧ ((runesOf x = runesOf y ∧ l = eqPart (runesOf x)) ∨ (runesOf x ≠ runesOf y ∧ ∃ z, LD (runesOf x) (runesOf y) z ∧ l = merge z)) := by
 dsimp only [g14, g14_1, g35, g35_1, g35_2]
 obtain ⟨p, hp, hp0⟩ := dmp_ex n ((0 : Int), ((0 : Int), ((0 : Nat), ((0 : Nat), ((0 : Int), (0 : Int))))))
 rw [bind_some' hp]
 have ha := runesOf_valid x
 have hb := runesOf_valid y
 obtain ⟨l, h1, h2, h3⟩ := main_rec n hn p (Int.le_of_eq hp0) ((runesOf x).length + (runesOf y).length) n (runesOf x) (runesOf y) ln hln (Nat.le_refl _) (by omega) (by unfold Big at hn; omega) ha hb
 refine ⟨l, ?_, h2, h3⟩
 dsimp only [g51, g51_1, g53, g53_1]
 rw [room46_ok (by omega), room46_ok (by omega)]
 have h4 : g67 n p (runesOf x) (runesOf y) ln = some (M l, ()) := h1
 have hll := h2.len
 have hls : g49 n (M l) = some (M l, ()) := list_ok n hn l (by omega) h2.ok
 rw [bind_some' h4]
 simp only [Option.bind_some]
 rw [bind_some' hls]
 rfl
theorem dfMainL_ok (n : Nat) (hn : Big ≤ n) (a b : List Int) (ln : Bool) (hln : ln = false ∨ a.length ≤ 100 ∨ b.length ≤ 100 ∨ a = b) (ha : Valids a) (hb : Valids b) (hl : a.length + b.length ≤ 50000) :
  ∃ l, g14 n (enc a) (enc b) ln = some (M l, ()) ∧ LD a b l ∧ ((a = b ∧ l = eqPart a) ∨ (a ≠ b ∧ ∃ x, LD a b x ∧ l = merge x)) := by
 have e1 := enc_size_le a
 have e2 := enc_size_le b
 have := dfMainB_ok n hn (enc a) (enc b) ln (by rw [runes_enc ha, runes_enc hb]; exact hln) (by omega) (by omega) (by rw [runes_enc ha, runes_enc hb]; exact hl)
 rw [runes_enc ha, runes_enc hb] at this
 exact this
theorem dfMain_ok (n : Nat) (hn : Big ≤ n) (a b : List Int) (ha : Valids a) (hb : Valids b) (hl : a.length + b.length ≤ 50000) :
  ∃ l, g14 n (enc a) (enc b) false = some (M l, ()) ∧ LD a b l ∧ ((a = b ∧ l = eqPart a) ∨ (a ≠ b ∧ ∃ x, LD a b x ∧ l = merge x)) := dfMainL_ok n hn a b false (.inl rfl) ha hb hl
end Go.Proofs.YticibdjilmclgaaDoorZF
