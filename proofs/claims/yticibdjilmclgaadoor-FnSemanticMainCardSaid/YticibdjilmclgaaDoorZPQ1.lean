/- Plain statements about the printed functions. -/
import Derived.Test.YticibdjilmclgaaDoorZPQ0
import Derived.Test.YticibdjilmclgaaDoorZGA1
import Derived.Test.YticibdjilmclgaaDoorZFB
import Derived.Test.YticibdjilmclgaaDoorZGA0
import Derived.Test.YticibdjilmclgaaDoorZGA2
import Derived.Lib.DecodeN
import Derived.Lib.SpaceU
import Derived.Lib.TrimAscii
import Derived.Laws.FloatBits
namespace Go.Proofs.YticibdjilmclgaaDoorZF
open Go
set_option linter.unusedVariables false
set_option linter.unusedSimpArgs false
section
variable {β : Type} (q67 : DenA hH → Option (DenR fJ)) (q82 : DenA hJ → Option (DenR fO)) (aB : DenA eU → Option (DenR eB)) (aA : DenA eQ → Option (DenR eI))
variable {A B : List Int} {mD : Int} {p0 : AK.den (.pro (.pair (.int .i64) (.pair (.int .i64) (.pair (.int .i64) (.pair (.flt .f64) (.pair (.int .i64) (.pair (.int .i64) (.flt .f64))))))) 0)}
theorem dP9 (n : Nat) (hn : Big ≤ n) {V2 : Int → Int} {v2 : List Int} {d s0 e0 sW eW s2 e2 : Int} {kx} {kr : List (Int × ByteArray) → Option β} {fr : Bool}
  (hA2 : Arr v2 mD V2) (hW : Done A.reverse B.reverse mD (d - 1) sW eW V2) (hm : 2 ≤ mD) (hm2 : mD ≤ 1000000) (hN : (A.length : Int) ≤ 1000000) (hNM : (B.length : Int) ≤ 1000000) (hD : 2 * d - 1 ≤ dst A B) (hDd : d ≤ dst A B) :
  ∀ (c m : Nat) (k s e : Int) (v1 : List Int) (V1 : Int → Int), Mid A B mD d s0 e0 s e k V1 → Arr v1 mD V1 → s ≤ 3000000 → e ≤ 3000000 →
   (fr = true → (dst A B : Int) = 2 * d - 1 → ∀ x y : Nat, Opt A B x y → (ft A B x y : Int) = d → k ≤ (x : Int) - y) → (d - e - k + 2).toNat ≤ c → c < m →
   Met kr aA p0 A B (g104_19L (β := β) n q67 q82 aB aA kr kx m p0 A B (A.length : Int) (B.length : Int) mD mD (2 * mD) v1 v2 ((A.length : Int) - B.length) fr s e s2 e2 d k) ∨
   ∃ s' e' v1' V1', g104_19L (β := β) n q67 q82 aB aA kr kx m p0 A B (A.length : Int) (B.length : Int) mD mD (2 * mD) v1 v2 ((A.length : Int) - B.length) fr s e s2 e2 d k = kx p0 A B (A.length : Int) (B.length : Int) mD mD (2 * mD) v1' v2 ((A.length : Int) - B.length) fr s' e' s2 e2 d ∧
    Arr v1' mD V1' ∧ Done A B mD d s' e' V1' ∧ s' ≤ 3000000 ∧ e' ≤ 3000000 ∧ (fr = true → (dst A B : Int) ≠ 2 * d - 1) := by
 intro c
 induction c using Nat.strongRecOn with
 | _ c ih =>
  intro m k s e v1 V1 hM hA hs3 he3 hnd hc hm1
  obtain ⟨m, rfl⟩ : ∃ m', m = m' + 1 := ⟨m - 1, by omega⟩
  have hs := hM.hs
  have he := hM.he
  have hd := hM.dpos
  have hdm := hM.dm
  have hkl := hM.klo
  rw [g104_19L.eq_2]
  dsimp only [yN, XA]
  rw [aF (n := d - e) (by omega) (by omega)]
  by_cases hk : k ≤ d - e
  ·rw [bdT hk]
   dsimp only [NK]
   rcases dM6 (β := β) (p0 := p0) q67 q82 aB aA n hn (kn := fun p0 x1 x2 v7 v8 v9 v10 v11 x12 x13 v15 v16 v17 v18 v19 v20 v21 v22 => zI n q67 q82 aB aA (g104_19L n q67 q82 aB aA kr kx m) p0 x1 x2 v7 v8 v9 v10 v11 x12 x13 v15 v16 v17 v18 v19 v20 v21 v22) (kr := kr) (fr := fr) (s2 := s2) (e2 := e2) hM hk hA hA2 hW hm hm2 hN hNM hD hDd (by omega) (by omega) with h | ⟨xf, s', e', h1, h2, h3, h4, h5, h6⟩
   ·exact .inl h
   ·rw [h1]
    dsimp only [zI]
    rw [aF (n := k + 2) (by omega) (by omega)]
    have hM' := hM.step hk hDd h2 h3 h4 h5
    refine ih (d - e' - (k + 2) + 2).toNat ?_ m (k + 2) s' e' _ _ hM' (hA.set (by omega) (by omega)) (by omega) (by omega) ?_ (Nat.le_refl _) ?_
    ·omega
    ·intro g1 g2 x y g3 g4
     have q1 := hnd g1 g2 x y g3 g4
     have q2 := h6 g1 g2 x y g3 g4
     have q3 := DW (A := A) (B := B) x y
     have q4 := hM.kpar
     omega
    ·omega
  ·rw [bdF hk]
   refine .inr ⟨s, e, v1, V1, rfl, hA, hM.finish hk, hs3, he3, fun g1 g2 => ?_⟩
   obtain ⟨x, y, ho, hfo⟩ := Opt.level (A := A) (B := B) d.toNat (by omega)
   have q1 := hnd g1 g2 x y ho (by omega)
   have q2 := hM.prune x y ho (by omega)
   omega
theorem dL5 (n : Nat) (hn : Big ≤ n) {V1 : Int → Int} {v1 : List Int} {d s0 e0 sW eW s1 e1 : Int} {kx} {kr : List (Int × ByteArray) → Option β} {fr : Bool} (hfrd : fr = false → ((A.length : Int) - B.length) % 2 = 0)
  (hA1 : Arr v1 mD V1) (hV : Done A B mD d sW eW V1) (hm : 2 ≤ mD) (hm2 : mD ≤ 1000000) (hN : (A.length : Int) ≤ 1000000) (hNM : (B.length : Int) ≤ 1000000) (hD : fr = false → 2 * d ≤ dst A B) (hDd : d ≤ dst A B) :
  ∀ (c m : Nat) (k s e : Int) (v2 : List Int) (V2 : Int → Int), Mid A.reverse B.reverse mD d s0 e0 s e k V2 → Arr v2 mD V2 → s ≤ 3000000 → e ≤ 3000000 →
   (fr = false → (dst A B : Int) = 2 * d → ∀ x y : Nat, Opt A.reverse B.reverse x y → (ft A.reverse B.reverse x y : Int) = d → k ≤ (x : Int) - y) → (d - e - k + 2).toNat ≤ c → c < m →
   Met kr aA p0 A B (g104_33L (β := β) n q67 q82 aB aA kr kx m p0 A B (A.length : Int) (B.length : Int) mD mD (2 * mD) v1 v2 ((A.length : Int) - B.length) fr s1 e1 s e d k) ∨
   ∃ s' e' v2' V2', g104_33L (β := β) n q67 q82 aB aA kr kx m p0 A B (A.length : Int) (B.length : Int) mD mD (2 * mD) v1 v2 ((A.length : Int) - B.length) fr s1 e1 s e d k = kx p0 A B (A.length : Int) (B.length : Int) mD mD (2 * mD) v1 v2' ((A.length : Int) - B.length) fr s1 e1 s' e' d ∧
    Arr v2' mD V2' ∧ Done A.reverse B.reverse mD d s' e' V2' ∧ s' ≤ 3000000 ∧ e' ≤ 3000000 ∧ (fr = false → (dst A B : Int) ≠ 2 * d) := by
 have hrD : dst A.reverse B.reverse = dst A B := gO A B
 intro c
 induction c using Nat.strongRecOn with
 | _ c ih =>
  intro m k s e v2 V2 hM hA hs3 he3 hnd hc hm1
  obtain ⟨m, rfl⟩ : ∃ m', m = m' + 1 := ⟨m - 1, by omega⟩
  have hs := hM.hs
  have he := hM.he
  have hd := hM.dpos
  have hdm := hM.dm
  have hkl := hM.klo
  rw [g104_33L.eq_2]
  dsimp only [AQ, NF]
  rw [aF (n := d - e) (by omega) (by omega)]
  by_cases hk : k ≤ d - e
  ·rw [bdT hk]
   dsimp only [KF]
   rcases dQ1 (β := β) (p0 := p0) q67 q82 aB aA n hn (kn := fun p0 x1 x2 v7 v8 v9 v10 v11 x12 x13 v15 v16 v17 v18 v19 v20 v21 v28 => zZ n q67 q82 aB aA (g104_33L n q67 q82 aB aA kr kx m) p0 x1 x2 v7 v8 v9 v10 v11 x12 x13 v15 v16 v17 v18 v19 v20 v21 v28) (kr := kr) (fr := fr) (s1 := s1) (e1 := e1) hfrd hM hk hA hA1 hV hm hm2 hN hNM hD hDd (by omega) (by omega) with h | ⟨xf, s', e', h1, h2, h3, h4, h5, h6⟩
   ·exact .inl h
   ·rw [h1]
    dsimp only [zZ]
    rw [aF (n := k + 2) (by omega) (by omega)]
    have hM' := hM.step hk (by omega) h2 h3 h4 h5
    refine ih (d - e' - (k + 2) + 2).toNat ?_ m (k + 2) s' e' _ _ hM' (hA.set (by omega) (by omega)) (by omega) (by omega) ?_ (Nat.le_refl _) ?_
    ·omega
    ·intro g1 g2 x y g3 g4
     have q1 := hnd g1 g2 x y g3 g4
     have q2 := h6 g1 g2 x y g3 g4
     have q3 := DW (A := A.reverse) (B := B.reverse) x y
     have q4 := hM.kpar
     omega
    ·omega
  ·rw [bdF hk]
   refine .inr ⟨s, e, v2, V2, rfl, hA, hM.finish hk, hs3, he3, fun g1 g2 => ?_⟩
   obtain ⟨x, y, ho, hfo⟩ := Opt.level (A := A.reverse) (B := B.reverse) d.toNat (by omega)
   have q1 := hnd g1 g2 x y ho (by omega)
   have q2 := hM.prune x y ho (by omega)
   omega
theorem dL1 (n : Nat) (hn : Big ≤ n) {kx} {kr : List (Int × ByteArray) → Option β} {fr : Bool} (hfrd : fr = false → ((A.length : Int) - B.length) % 2 = 0) (hfrt : fr = true → ((A.length : Int) - B.length) % 2 = 1)
  (hmD : 2 * mD = (A.length : Int) + B.length ∨ 2 * mD = (A.length : Int) + B.length + 1) (hm : 2 ≤ mD) (hm2 : mD ≤ 1000000) (hN : (A.length : Int) ≤ 1000000) (hNM : (B.length : Int) ≤ 1000000) :
  ∀ (c m : Nat) (d s1 e1 s2 e2 : Int) (v1 v2 : List Int) (V1 V2 : Int → Int), 0 ≤ d → (mD - d).toNat ≤ c → c < m → Done A B mD (d - 1) s1 e1 V1 → Done A.reverse B.reverse mD (d - 1) s2 e2 V2 → Arr v1 mD V1 → Arr v2 mD V2 →
   s1 ≤ 3000000 → e1 ≤ 3000000 → s2 ≤ 3000000 → e2 ≤ 3000000 → (fr = true → 2 * d - 1 ≤ dst A B) → (fr = false → 2 * d ≤ dst A B) →
   Met kr aA p0 A B (g104_39L (β := β) n q67 q82 aB aA kr kx m p0 A B (A.length : Int) (B.length : Int) mD mD (2 * mD) v1 v2 ((A.length : Int) - B.length) fr s1 e1 s2 e2 d) ∨
   (g104_39L (β := β) n q67 q82 aB aA kr kx m p0 A B (A.length : Int) (B.length : Int) mD mD (2 * mD) v1 v2 ((A.length : Int) - B.length) fr s1 e1 s2 e2 d = kx A B ∧ dst A B = A.length + B.length) := by
 have hrD : dst A.reverse B.reverse = dst A B := gO A B
 intro c
 induction c using Nat.strongRecOn with
 | _ c ih =>
  intro m d s1 e1 s2 e2 v1 v2 V1 V2 hd hc hm1 hV hW hA1 hA2 b1 b2 b3 b4 hDt hDf
  obtain ⟨m, rfl⟩ : ∃ m', m = m' + 1 := ⟨m - 1, by omega⟩
  have hpar := P4 A B
  have hhi := aQ1 A B
  rw [g104_39L.eq_2]
  dsimp only [yT, YS]
  have hDD : 2 * d - 1 ≤ dst A B := by
   cases hfr : fr with
   | true => exact hDt hfr
   | false => have := hDf hfr; omega
  have hDd : d ≤ dst A B := by omega
  by_cases hdm : d < mD
  ·rw [bdT hdm]
   dsimp only [MQ, yO, ZI, MJ, LN]
   have hV0 := hV.s0
   have hW0 := hW.s0
   rw [aF (n := 0 - d) (by omega) (by omega), aF (n := 0 - d + s1) (by omega) (by omega)]
   have hMV := hV.start (by omega) (by omega)
   rw [show d - 1 + 1 = d by omega] at hMV
   have hMW := hW.start (by omega) (by omega)
   rw [show d - 1 + 1 = d by omega] at hMW
   rw [show 0 - d + s1 = -d + s1 by omega]
   have hVe := hV.e0
   have hWe := hW.e0
   rcases dP9 (β := β) (p0 := p0) (A := A) (B := B) (mD := mD) q67 q82 aB aA n hn (s2 := s2) (e2 := e2) (kr := kr) (fr := fr)
    (kx := fun p0 x1 x2 v7 v8 v9 v10 v11 x12 x13 v15 v16 v17 v18 v19 v20 v21 => AZ n q67 q82 aB aA (fun p0 x1 x2 v7 v8 v9 v10 v11 x12 x13 v15 v16 v17 v18 v19 v20 v21 v28 => AR n q67 q82 aB aA (fun p0 x1 x2 v7 v8 v9 v10 v11 x12 x13 v15 v16 v17 v18 v19 v20 v21 => tT n q67 q82 aB aA (g104_39L n q67 q82 aB aA kr kx m) p0 x1 x2 v7 v8 v9 v10 v11 x12 x13 v15 v16 v17 v18 v19 v20 v21) kr p0 x1 x2 v7 v8 v9 v10 v11 x12 x13 v15 v16 v17 v18 v19 v20 v21 v28) p0 x1 x2 v7 v8 v9 v10 v11 x12 x13 v15 v16 v17 v18 v19 v20 v21)
    hA2 hW hm hm2 hN hNM hDD hDd _ n (-d + s1) s1 e1 v1 V1 hMV hA1 b1 b2 (fun _ _ x y ho hfo => by have := hMV.prune x y ho (by omega); omega) (Nat.le_refl _) (by unfold Big at hn; omega) with h | ⟨s', e', v1', V1', h1, h2, h3, h4, h5, h6⟩
   ·exact .inl h
   rw [h1]
   dsimp only [AZ, AR, JZ]
   rw [aF (n := 0 - d) (by omega) (by omega), aF (n := 0 - d + s2) (by omega) (by omega), show 0 - d + s2 = -d + s2 by omega]
   rcases dL5 (β := β) (p0 := p0) (A := A) (B := B) (mD := mD) q67 q82 aB aA n hn (s1 := s') (e1 := e') (kr := kr) (fr := fr)
    (kx := fun p0 x1 x2 v7 v8 v9 v10 v11 x12 x13 v15 v16 v17 v18 v19 v20 v21 => tT n q67 q82 aB aA (g104_39L n q67 q82 aB aA kr kx m) p0 x1 x2 v7 v8 v9 v10 v11 x12 x13 v15 v16 v17 v18 v19 v20 v21)
    hfrd h2 h3 hm hm2 hN hNM hDf hDd _ n (-d + s2) s2 e2 v2 V2 hMW hA2 b3 b4 (fun _ _ x y ho hfo => by have := hMW.prune x y ho (by omega); omega) (Nat.le_refl _) (by unfold Big at hn; omega) with h | ⟨s'', e'', v2', V2', g1, g2, g3, g4, g5, g6⟩
   ·exact .inl h
   rw [g1]
   dsimp only [tT]
   rw [aF (n := d + 1) (by omega) (by omega)]
   refine ih (mD - (d + 1)).toNat (by omega) m (d + 1) s' e' s'' e'' v1' v2' V1' V2' (by omega) (Nat.le_refl _) (by omega) (by rw [show d + 1 - 1 = d by omega]; exact h3) (by rw [show d + 1 - 1 = d by omega]; exact g3) h2 g2 h4 h5 g4 g5 ?_ ?_
   ·intro hfr
    have q1 := hDt hfr
    have q2 := h6 hfr
    have q3 := hfrt hfr
    omega
   ·intro hfr
    have q1 := hDf hfr
    have q2 := g6 hfr
    have q3 := hfrd hfr
    omega
  ·rw [bdF hdm]
   refine .inr ⟨rfl, ?_⟩
   cases hfr : fr with
   | true =>
    have q1 := hDt hfr
    have q3 := hfrt hfr
    omega
   | false =>
    have q1 := hDf hfr
    have q3 := hfrd hfr
    omega
theorem dN1 (n : Nat) {kx} (N M m1 m2 L2 : Int) (L : Nat) (hL : L ≤ 4000000) : ∀ (c i m : Nat) (v1 v2 : List Int), L - i = c → i ≤ L → c < m → v1.length = L → v2.length = L → (∀ j : Nat, j < i → rd v1 (j : Int) 0 = -1 ∧ rd v2 (j : Int) 0 = -1) →
  ∃ v1' v2', g104_3L (β := β) n q67 q82 aB aA kx m p0 A B N M m1 m2 L2 v1 v2 (L : Int) (i : Int) = kx p0 A B N M m1 m2 L2 v1' v2' ∧ v1'.length = L ∧ v2'.length = L ∧ ∀ j : Nat, j < L → rd v1' (j : Int) 0 = -1 ∧ rd v2' (j : Int) 0 = -1 := by
 intro c
 induction c with
 | zero =>
  intro i m v1 v2 hc hi hm h1 h2 hv
  obtain ⟨m, rfl⟩ : ∃ m', m = m' + 1 := ⟨m - 1, by omega⟩
  refine ⟨v1, v2, ?_, h1, h2, fun j hj => hv j (by omega)⟩
  rw [g104_3L.eq_2, NP, bdF (by omega)]
 | succ c ih =>
  intro i m v1 v2 hc hi hm h1 h2 hv
  obtain ⟨m, rfl⟩ : ∃ m', m = m' + 1 := ⟨m - 1, by omega⟩
  rw [g104_3L.eq_2, NP, bdT (by omega), aM (by omega) (by omega), aM (by omega) (by omega), aF (by omega) (by omega)]
  have key : ∀ v : List Int, v.length = L → ∀ j : Nat, j < i + 1 → (j < i → rd v (j : Int) 0 = -1) → rd (v.set (i : Int).toNat (-1)) (j : Int) 0 = -1 := fun v hv j hj hr => by
   rw [yF (by omega) (by rw [List.length_set]; omega), List.getElem_set]
   split
   ·rfl
   ·have := hr (by omega)
    rw [yF (by omega) (by omega)] at this
    exact this
  exact ih (i + 1) m _ _ (by omega) (by omega) (by omega) (by rw [List.length_set]; exact h1) (by rw [List.length_set]; exact h2) fun j hj => ⟨key v1 h1 j hj fun h => (hv j h).1, key v2 h2 j hj fun h => (hv j h).2⟩
theorem u7 (n : Nat) (hn : Big ≤ n) (h3 : 3 ≤ A.length + B.length) (hN : A.length ≤ 500000) (hM : B.length ≤ 500000) {kr : List (Int × ByteArray) → Option β} :
  Met kr aA p0 A B (qD (β := β) n q67 q82 aB aA kr p0 A B) ∨
  (qD (β := β) n q67 q82 aB aA kr p0 A B = kr [(-1, runesBytes A), (1, runesBytes B)] ∧ dst A B = A.length + B.length) := by
 dsimp only [qD, B6]
 rw [aF (n := (A.length : Int) + B.length) (by omega) (by omega), aF (n := (A.length : Int) + B.length + 1) (by omega) (by omega)]
 obtain ⟨mN, hmN⟩ : ∃ mN : Nat, mN = (A.length + B.length + 1) / 2 := ⟨_, rfl⟩
 have e1 : ((A.length : Int) + B.length + 1).tdiv 2 = (mN : Int) := by
  rw [Int.tdiv_eq_ediv_of_nonneg (by omega)]; omega
 rw [e1, aF (n := (mN : Int)) (by omega) (by omega), aF (n := 2 * (mN : Int)) (by omega) (by omega), aW (by omega) (by omega) (by omega), CY (by omega), aW (by omega) (by omega) (by omega), CY (by omega)]
 have e2 : (2 * (mN : Int)).toNat = 2 * mN := by omega
 rw [e2, List.length_replicate]
 dsimp only [ZW, XB]
 obtain ⟨v1, v2, i1, i2, i3, i4⟩ := dN1 (β := β) (p0 := p0) (A := A) (B := B) q67 q82 aB aA n (kx := fun p0 x1 x2 v7 v8 v9 v10 v11 x12 x13 => LF n q67 q82 aB aA (fun p0 x1 x2 v7 v8 v9 v10 v11 x12 x13 v15 v16 v17 v18 v19 v20 v21 => AM n q67 q82 aB aA (fun x1 x2 => yU n q67 q82 aB aA kr x1 x2) kr p0 x1 x2 v7 v8 v9 v10 v11 x12 x13 v15 v16 v17 v18 v19 v20 v21) p0 x1 x2 v7 v8 v9 v10 v11 x12 x13) (A.length : Int) (B.length : Int) (mN : Int) (mN : Int) (2 * (mN : Int)) (2 * mN) (by omega) (2 * mN) 0 n (List.replicate (2 * mN) 0) (List.replicate (2 * mN) 0) (by omega) (by omega) (by unfold Big at hn; omega) (by simp) (by simp) (fun j hj => by omega)
 rw [show ((0 : Nat) : Int) = 0 from rfl] at i1
 rw [i1]
 dsimp only [LF, AM, LE]
 rw [aF (n := (mN : Int) + 1) (by omega) (by omega), aM (by omega) (by omega), aM (by omega) (by omega), aF (n := (A.length : Int) - B.length) (by omega) (by omega)]
 have harr : ∀ v : List Int, v.length = 2 * mN → (∀ j : Nat, j < 2 * mN → rd v (j : Int) 0 = -1) → Arr (v.set ((mN : Int) + 1).toNat 0) mN (PJ (fun _ => -1) 1 0) := fun v hl hv => by
  refine Arr.set (V := fun _ => -1) ⟨by omega, fun j j1 j2 => ?_⟩ (by omega) (by omega)
  have := hv ((mN : Int) + j).toNat (by omega)
  rw [Int.toNat_of_nonneg (by omega)] at this
  exact this
 have hdone : ∀ A B : List Int, Done A B (mN : Int) (0 - 1) 0 0 (PJ (fun _ => -1) 1 0) := fun A B => Done.first (by omega) (fun j _ _ hj => fU _ hj) (mC _ _ _)
 have hfr : ∀ z : Int, ((z.tmod 2 != 0) = false → z % 2 = 0) ∧ ((z.tmod 2 != 0) = true → z % 2 = 1) := fun z => by
  have : z.tmod 2 = 0 ↔ z % 2 = 0 := ⟨fun h => Int.emod_eq_zero_of_dvd (Int.dvd_of_tmod_eq_zero h), fun h => Int.tmod_eq_zero_of_dvd (Int.dvd_of_emod_eq_zero h)⟩
  refine ⟨fun h => ?_, fun h => ?_⟩
  ·have h : z.tmod 2 = 0 := by simpa using h
   exact this.1 h
  ·have h : ¬ z.tmod 2 = 0 := by simpa using h
   have : z % 2 ≠ 0 := fun h' => h (this.2 h')
   omega
 rcases dL1 (β := β) (p0 := p0) (A := A) (B := B) (mD := (mN : Int)) q67 q82 aB aA n hn (kx := fun x1 x2 => yU n q67 q82 aB aA kr x1 x2) (kr := kr) (fr := ((A.length : Int) - B.length).tmod 2 != 0) (hfr _).1 (hfr _).2 (by omega) (by omega) (by omega) (by omega) (by omega) _ n 0 0 0 0 0 _ _ _ _ (Int.le_refl _) (Nat.le_refl _) (by unfold Big at hn; omega) (hdone A B) (hdone A.reverse B.reverse) (harr v1 i2 fun j hj => (i4 j hj).1) (harr v2 i3 fun j hj => (i4 j hj).2) (by omega) (by omega) (by omega) (by omega) (fun _ => by omega) (fun _ => by omega) with h | ⟨h1, h2⟩
 ·exact .inl h
 ·exact .inr ⟨h1, h2⟩
end
theorem aT7 {x y : List Int} (h : x.length = y.length) (hv : ∀ j, j < x.length → x.getD j 0 = y.getD j 0) : x = y := by
 apply List.ext_getElem h
 intro j h1 h2
 have := hv j h1
 simpa [List.getD, List.getElem?_eq_getElem h1, List.getElem?_eq_getElem h2] using this
theorem rK (n : Nat) (hn : Big ≤ n) (x y : List Int) (hx : x.length ≤ 1000000000000) : g79 n x y = some (decide (x = y), ()) := by
 dsimp only [g79, M1, bT3, aS5, bE9, bX5]
 by_cases hl : x.length = y.length
 ·rw [biF (by simp [hl])]
  have key : ∀ (d i m : Nat), x.length - i = d → i ≤ x.length → d < m → (∀ j, j < i → x.getD j 0 = y.getD j 0) → g79_3L n (fun v4 => @some (DenR [.dat .bool]) (v4, ())) (some (true, ())) m y x (x.length : Int) (i : Int) = some (decide (x = y), ()) := by
   intro d
   induction d with
   | zero =>
    intro i m hd hi hm hv
    obtain ⟨m, rfl⟩ : ∃ m', m = m' + 1 := ⟨m - 1, by omega⟩
    rw [g79_3L.eq_2, R9, bdF (by omega), decide_eq_true (aT7 hl fun j hj => hv j (by omega))]
   | succ d ih =>
    intro i m hd hi hm hv
    obtain ⟨m, rfl⟩ : ∃ m', m = m' + 1 := ⟨m - 1, by omega⟩
    rw [g79_3L.eq_2, R9, bdT (by omega), aM (by omega) (by omega), aM (by omega) (by omega), oH, oH]
    by_cases e : x.getD i 0 = y.getD i 0
    ·rw [biF (by rw [e]; simp), aF (by omega) (by omega)]
     refine ih (i + 1) m (by omega) (by omega) (by omega) fun j hj => ?_
     by_cases hj' : j = i
     ·subst hj'; exact e
     ·exact hv j (by omega)
    ·rw [biT (by simpa using e), decide_eq_false (fun h => e (by rw [h]))]
  exact key x.length 0 n (by omega) (by omega) (by unfold Big at hn; omega) fun j hj => by omega
 ·rw [biT (by simp; omega), decide_eq_false (fun h => hl (by rw [h]))]
theorem FR (n : Nat) (hn : Big ≤ n) (x y : List Int) (hx : x.length ≤ 1000000000000) (hy : y.length ≤ 1000000000000) :
  (∃ u v, x = u ++ y ++ v ∧ aM5 n x y = some ((u.length : Int), ())) ∨ ((∀ u v, x ≠ u ++ y ++ v) ∧ aM5 n x y = some (-1, ())) := by
 dsimp only [aM5, JH, WH, VX, TS, A3]
 rw [aF (n := (x.length : Int) - y.length) (by omega) (by omega)]
 have key : ∀ (d i m : Nat), x.length + 1 - i = d → d < m → (∀ j, j < i → j + y.length ≤ x.length → (x.drop j).take y.length ≠ y) →
   (∃ u v, x = u ++ y ++ v ∧ g101_3L n (fun v4 => @some (DenR [.dat (.int .i64)]) (v4, ())) (some (-1, ())) m x y ((x.length : Int) - y.length) (i : Int) = some ((u.length : Int), ())) ∨
   ((∀ u v, x ≠ u ++ y ++ v) ∧ g101_3L n (fun v4 => @some (DenR [.dat (.int .i64)]) (v4, ())) (some (-1, ())) m x y ((x.length : Int) - y.length) (i : Int) = some (-1, ())) := by
  intro d
  induction d using Nat.strongRecOn with
  | _ d ih =>
   intro i m hd hm hv
   obtain ⟨m, rfl⟩ : ∃ m', m = m' + 1 := ⟨m - 1, by omega⟩
   rw [g101_3L.eq_2, UY]
   by_cases h : i + y.length ≤ x.length
   ·rw [bdT (by omega), aF (n := (i : Int) + y.length) (by omega) (by omega), aW (by omega) (by omega) (by omega)]
    have ec : cut x (i : Int) ((i : Int) + y.length) = (x.drop i).take y.length := by
     rw [show (i : Int) + y.length = ((i + y.length : Nat) : Int) by omega, bZ9]; congr 1; omega
    rw [ec, rK n hn _ _ (by rw [List.length_take, List.length_drop]; omega), Option.bind_some]
    by_cases e : (x.drop i).take y.length = y
    ·rw [biT (by simpa using e)]
     refine .inl ⟨x.take i, x.drop (i + y.length), ?_, by rw [show (x.take i).length = i by rw [List.length_take]; omega]⟩
     rw [List.append_assoc]
     conv => rhs; rw [← e]
     rw [List.length_take, List.length_drop, show min y.length (x.length - i) = y.length by omega, ← List.drop_drop, List.take_append_drop, List.take_append_drop]
    ·rw [biF (by simpa using e), aF (by omega) (by omega)]
     have := ih (d - 1) (by omega) (i + 1) m (by omega) (by omega) fun j hj hjl => by
      by_cases hj' : j = i
      ·subst hj'; exact e
      ·exact hv j (by omega) hjl
     rw [show ((i : Int) + 1) = ((i + 1 : Nat) : Int) by omega]
     exact this
   ·rw [bdF (by omega)]
    refine .inr ⟨fun u v hx' => ?_, rfl⟩
    have hl := congrArg List.length hx'
    simp only [List.length_append] at hl
    refine hv u.length (by omega) (by omega) ?_
    rw [hx', List.append_assoc, List.drop_left, List.take_left]
 exact key (x.length + 1) 0 n (by omega) (by unfold Big at hn; omega) fun j hj => by omega
structure LD (a b : List Int) (l : List Rp) : Prop where
 ok : Ok l
 src : bL l = a
 tgt : bK l = b
 ed : edR l = dst a b
 len : l.length ≤ 3 * (a.length + b.length)
 full : Full l
theorem LD.best {a b : List Int} {l : List Rp} (h : LD a b l) : sM l := by unfold sM; rw [h.src, h.tgt]; exact Nat.le_of_eq h.ed
theorem LD.of {a b : List Int} {l : List Rp} (ok : Ok l) (src : bL l = a) (tgt : bK l = b) (ed : edR l ≤ dst a b) (len : l.length ≤ 3 * (a.length + b.length)) (full : Full l) : LD a b l :=
 ⟨ok, src, tgt, by have := jT l ok.ops; rw [src, tgt] at this; omega, len, full⟩
theorem LD.merge {a b : List Int} {l : List Rp} (h : LD a b l) : LD a b (merge l) := by
 have h1 := xO h.ok
 have h2 := i9 h.ok
 have h3 := jT (Go.Proofs.YticibdjilmclgaaDoorZF.merge l) h.ok.merge.ops
 rw [h1.1, h1.2.1, h.src, h.tgt] at h3
 have h4 := h.ed
 have h5 := h.len
 refine LD.of h.ok.merge (h1.1.trans h.src) (h1.2.1.trans h.tgt) (by omega) ?_ (BD h.ok h.full h.best).1
 unfold phi at h2
 omega
theorem R0 : ∀ (c : Int) (v : List Int), c ∉ v → dst [c] v = 1 + v.length
 | c, [], _ => by rw [eH]; rfl
 | c, b :: v, h => by
  have h1 : ¬ c = b := fun e => h (by simp [e])
  have h2 := R0 c v fun hv => h (by simp [hv])
  rw [dO, if_neg h1, eC, h2, List.length_cons]; omega
def Trim (a b : List Int) : Prop := (∀ c x d y, a = c :: x → b = d :: y → c ≠ d) ∧ (∀ c x d y, a = x ++ [c] → b = y ++ [d] → c ≠ d)
theorem Trim.two {a b : List Int} (h : Trim a b) (ha : a ≠ []) (hb : b ≠ []) : 2 ≤ dst a b := by
 match a, b, ha, hb with
 | c :: x, d :: y, _, _ =>
  have hcd := h.1 c x d y rfl rfl
  rw [dO, if_neg hcd]
  have k1 : dst x (d :: y) ≠ 0 := fun h0 => by
   have e := CL h0
   rcases List.eq_nil_or_concat (d :: y) with g | ⟨u, q, g⟩
   ·cases g
   ·rw [List.concat_eq_append] at g
    exact h.2 q (c :: u) q u (by rw [e, g]; rfl) g rfl
  have k2 : dst (c :: x) y ≠ 0 := fun h0 => by
   have e := CL h0
   rcases List.eq_nil_or_concat (c :: x) with g | ⟨u, q, g⟩
   ·cases g
   ·rw [List.concat_eq_append] at g
    exact h.2 q u q (d :: u) g (by rw [← e, g]; rfl) rfl
  omega
theorem GE {L S u v : List Int} (e : L = u ++ S ++ v) (hS : S ≠ []) (h1 : ∀ c x y, L = c :: x → S = c :: y → False) (h2 : ∀ c x y, L = x ++ [c] → S = y ++ [c] → False) : u ≠ [] ∧ v ≠ [] := by
 refine ⟨fun hu => ?_, fun hv => ?_⟩
 ·subst hu
  cases S with
  | nil => exact hS rfl
  | cons c y => exact h1 c (y ++ v) y (by rw [e]; simp) rfl
 ·subst hv
  rcases List.eq_nil_or_concat S with g | ⟨y, c, g⟩
  ·exact hS g
  ·rw [List.concat_eq_append] at g
   exact h2 c (u ++ y) y (by rw [e, g]; simp) g
theorem Trim.ne {a b : List Int} (h : Trim a b) : (∀ c x y, a = c :: x → b = c :: y → False) ∧ (∀ c x y, a = x ++ [c] → b = y ++ [c] → False) := ⟨fun c x y h1 h2 => h.1 c x c y h1 h2 rfl, fun c x y h1 h2 => h.2 c x c y h1 h2 rfl⟩
theorem cM2 {k1 k2 k3 : Int} {u s v : List Int} (hu : u ≠ []) (hs : s ≠ []) (hv : v ≠ []) : Full [(k1, u), (k2, s), (k3, v)] := Full.cons hu (Full.cons hs (Full.cons hv Full.nil))
theorem dC4 {k1 k2 : Int} {u v : List Int} (hu : u ≠ []) (hv : v ≠ []) : Full [(k1, u), (k2, v)] := Full.cons hu (Full.cons hv Full.nil)
theorem aK6 (n : Nat) (p0) (x y : List Int) (hp : p0.1 ≤ (0 : Int)) : cH4 n p0 x y = some ((), ()) := by
 dsimp only [cH4, MS, ZJ]
 rw [bdT hp]
section
variable (q67 : DenA hH → Option (DenR fJ)) (q82 : DenA hJ → Option (DenR fO)) (aB : DenA eU → Option (DenR eB)) (aA : DenA eQ → Option (DenR eI))
theorem bM4 (n : Nat) (p0) {A B : List Int} {x y : Nat} (hx : x ≤ A.length) (hy : y ≤ B.length) {l1 l2 : List Rp} (h1 : q67 (p0, (A.take x, (B.take y, (false, ())))) = @some (DenR fJ) (M l1, ())) (h2 : q67 (p0, (A.drop x, (B.drop y, (false, ())))) = @some (DenR fJ) (M l2, ())) (hl : l1.length + l2.length ≤ 1000000) :
  XP n q67 q82 aB aA p0 A B (x : Int) (y : Int) = some (M (l1 ++ l2), ()) := by
 dsimp only [XP, XU]
 rw [aW (by omega) (by omega) (by omega), aW (by omega) (by omega) (by omega), aW (by omega) (by omega) (by omega), aW (by omega) (by omega) (by omega), cH, cH, dY _ _ _ (by omega), dY _ _ _ (by omega), Int.toNat_natCast, Int.toNat_natCast, aJ h1, aJ h2]
 simp only
 rw [bX (by unfold M; rw [List.length_map, List.length_map]; omega)]
 unfold M
 rw [List.map_append]
theorem bL4 {γ : Type} (c d : Bool) (z : γ) : (bif c then (bif d then z else z) else z) = z := by cases c <;> cases d <;> rfl
theorem YW (n : Nat) (hn : Big ≤ n) (p0) (hp : p0.1 ≤ (0 : Int)) {a b : List Int} (ln : Bool) (hln : ln = false ∨ a.length ≤ 100 ∨ b.length ≤ 100) (ha : Valids a) (hb : Valids b) (hla : a.length ≤ 100000) (hlb : b.length ≤ 100000) (ht : Trim a b) (hne : a ≠ [] ∨ b ≠ [])
  (hq : 2 ≤ a.length → 2 ≤ b.length → 2 ≤ dst a b → ∃ l, aB (p0, (a, (b, ()))) = @some (DenR eB) (M l, ()) ∧ LD a b l) : ∃ l, bK5 n q67 q82 aB aA p0 a b ln = some (M l, ()) ∧ LD a b l := by
 dsimp only [bK5, N9, w9]
 by_cases ea : a = []
 ·subst ea
  rw [biT (by simp), bX (by simp)]
  refine ⟨[(1, b)], rfl, LD.of (fun d hd => ?_) rfl (by simp [bK]) (by rw [eC]; show b.length + 0 ≤ _; omega) ?_ (Full.cons (hne.resolve_left (fun h => h rfl)) Full.nil)⟩
  ·obtain rfl := List.mem_singleton.1 hd
   exact ⟨.inr (.inr rfl), hb⟩
  ·have : b ≠ [] := hne.resolve_left (fun h => h rfl)
   have := List.length_pos_iff.2 this
   simp; omega
 ·have pa := List.length_pos_iff.2 ea
  rw [biF (by simp; exact ea)]
  by_cases eb : b = []
  ·subst eb
   rw [biT (by simp), bX (by simp)]
   refine ⟨[(-1, a)], rfl, LD.of (fun d hd => ?_) (by simp [bL]) rfl (by rw [eH]; show a.length + 0 ≤ _; omega) ?_ (Full.cons ea Full.nil)⟩
   ·obtain rfl := List.mem_singleton.1 hd
    exact ⟨.inl rfl, ha⟩
   ·simp; omega
  ·have pb := List.length_pos_iff.2 eb
   rw [biF (by simp; exact eb)]
   have hd2 := ht.two ea eb
   have key : ∀ (L S : List Int), S.length ≤ L.length → ((L = a ∧ S = b ∧ a.length > b.length) ∨ (L = b ∧ S = a ∧ ¬ a.length > b.length)) → ∃ l, I5 n q67 q82 aB aA (fun x8 => @some (DenR [.rw (.pair (.int .i8) .str) 81]) (x8, ())) p0 a b ln L S = some (M l, ()) ∧ LD a b l := by
    intro L S hSL hcase
    have hLv : Valids L := by rcases hcase with ⟨rfl, _, _⟩ | ⟨rfl, _, _⟩ <;> assumption
    have hSv : Valids S := by rcases hcase with ⟨_, rfl, _⟩ | ⟨_, rfl, _⟩ <;> assumption
    have hLl : L.length ≤ 100000 := by rcases hcase with ⟨rfl, _, _⟩ | ⟨rfl, _, _⟩ <;> assumption
    have hSn : S ≠ [] := by rcases hcase with ⟨_, rfl, _⟩ | ⟨_, rfl, _⟩ <;> assumption
    have hSp := List.length_pos_iff.2 hSn
    unfold I5
    rcases FR n hn L S (by omega) (by omega) with ⟨u, v, e, h⟩ | ⟨hno, h⟩
    ·have hl := congrArg List.length e
     simp only [List.length_append] at hl
     have huv : Valids u ∧ Valids v := by
      rw [e] at hLv
      exact ⟨(Valids.of_append (Valids.of_append hLv).1).1, (Valids.of_append hLv).2⟩
     have c1 : cut L 0 (u.length : Int) = u := by rw [cH, e, Int.toNat_natCast, List.append_assoc, List.take_left]
     have c2 : cut L ((u.length : Int) + S.length) (L.length : Int) = v := by
      rw [dY _ _ _ (by omega), e, show ((u.length : Int) + S.length).toNat = (u ++ S).length by rw [List.length_append]; omega, List.drop_left]
     rw [h, Option.bind_some, biT (by simp)]
     have hw : w64 ((u.length : Int) + S.length) = (u.length : Int) + S.length := aF (by omega) (by omega)
     rcases hcase with ⟨rfl, rfl, hgt⟩ | ⟨rfl, rfl, hgt⟩
     ·rw [bdT (by omega)]
      simp only [hw]
      rw [aW (by omega) (by omega) (by omega), aW (by omega) (by omega) (by omega), c1, c2]
      have hw := GE e hSn ht.ne.1 ht.ne.2
      refine ⟨[(-1, u), (0, S), (-1, v)], rfl, LD.of (fun d hd => ?_) ?_ ?_ ?_ ?_ (cM2 hw.1 hSn hw.2)⟩
      ·simp only [List.mem_cons, List.not_mem_nil, or_false] at hd
       rcases hd with rfl | rfl | rfl
       ·exact ⟨.inl rfl, huv.1⟩
       ·exact ⟨.inr (.inl rfl), hSv⟩
       ·exact ⟨.inl rfl, huv.2⟩
      ·show u ++ (S ++ (v ++ [])) = L; rw [e]; simp
      ·show S ++ [] = S; simp
      ·show u.length + (0 + (v.length + 0)) ≤ _
       have := (NN L S).1
       omega
      ·simp; omega
     ·rw [bdF (by omega)]
      simp only [hw]
      rw [aW (by omega) (by omega) (by omega), aW (by omega) (by omega) (by omega), c1, c2]
      have hw := GE e hSn (fun c x y k1 k2 => ht.ne.1 c y x k2 k1) (fun c x y k1 k2 => ht.ne.2 c y x k2 k1)
      refine ⟨[(1, u), (0, S), (1, v)], rfl, LD.of (fun d hd => ?_) ?_ ?_ ?_ ?_ (cM2 hw.1 hSn hw.2)⟩
      ·simp only [List.mem_cons, List.not_mem_nil, or_false] at hd
       rcases hd with rfl | rfl | rfl
       ·exact ⟨.inr (.inr rfl), huv.1⟩
       ·exact ⟨.inr (.inl rfl), hSv⟩
       ·exact ⟨.inr (.inr rfl), huv.2⟩
      ·show S ++ [] = S; simp
      ·show u ++ (S ++ (v ++ [])) = L; rw [e]; simp
      ·show u.length + (0 + (v.length + 0)) ≤ _
       have := (NN S L).2
       omega
      ·simp; omega
    ·rw [h, Option.bind_some, biF (by simp)]
     by_cases h1 : S.length = 1
     ·rw [biT (by simp [h1])]
      obtain ⟨c, hc⟩ := List.length_eq_one_iff.1 h1
      have hcL : c ∉ L := fun hm => by
       obtain ⟨u, v, e⟩ := List.append_of_mem hm
       exact hno u v (by rw [e, hc]; simp)
      have hdd : dst S L = 1 + L.length := by rw [hc]; exact R0 c L hcL
      refine ⟨[(-1, a), (1, b)], rfl, LD.of (fun d hd => ?_) ?_ ?_ ?_ ?_ (dC4 ea eb)⟩
      ·simp only [List.mem_cons, List.not_mem_nil, or_false] at hd
       rcases hd with rfl | rfl
       ·exact ⟨.inl rfl, ha⟩
       ·exact ⟨.inr (.inr rfl), hb⟩
      ·show a ++ [] = a; simp
      ·show b ++ [] = b; simp
      ·show a.length + (b.length + 0) ≤ _
       rcases hcase with ⟨rfl, rfl, hgt⟩ | ⟨rfl, rfl, hgt⟩
       ·rw [vI _ _ _ (Nat.le_refl _), hdd]; omega
       ·rw [hdd]; omega
      ·simp; omega
     ·rw [biF (by simp; omega), aK6 n p0 a b hp, Option.bind_some]
      have h2a : 2 ≤ a.length ∧ 2 ≤ b.length := by rcases hcase with ⟨rfl, rfl, hgt⟩ | ⟨rfl, rfl, hgt⟩ <;> omega
      obtain ⟨l, g1, g2⟩ := hq h2a.1 h2a.2 hd2
      refine ⟨l, ?_, g2⟩
      rcases hln with rfl | h | h
      ·rw [cond_false, g1]; rfl
      ·rw [bdF (by omega), g1]; cases ln <;> rfl
      ·rw [bdF (p := (b.length : Int) > 100) (by omega), bL4, g1]; rfl
   by_cases hgt : a.length > b.length
   ·rw [bdT (by omega)]
    exact key a b (by omega) (.inl ⟨rfl, rfl, hgt⟩)
   ·rw [bdF (by omega)]
    exact key b a (by omega) (.inr ⟨rfl, rfl, hgt⟩)
end
theorem aF8 {x y : List Int} {c d : Int} {u v : List Int} (hx : x.take (x.length - csl x y) = u ++ [c]) (hy : y.take (y.length - csl x y) = v ++ [d]) : c ≠ d := by
 have e1 := congrArg List.reverse hx
 have e2 := congrArg List.reverse hy
 rw [List.reverse_append] at e1 e2
 have q1 : x.reverse.drop (cpl x.reverse y.reverse) = c :: u.reverse := by
  rw [List.drop_reverse]; exact e1
 have q2 : y.reverse.drop (cpl x.reverse y.reverse) = d :: v.reverse := by
  rw [List.drop_reverse]; exact e2
 exact uI q1 q2
theorem cG8 (a b : List Int) : Trim ((a.drop (cpl a b)).take ((a.drop (cpl a b)).length - csl (a.drop (cpl a b)) (b.drop (cpl a b)))) ((b.drop (cpl a b)).take ((b.drop (cpl a b)).length - csl (a.drop (cpl a b)) (b.drop (cpl a b)))) := by
 refine ⟨fun c x d y hx hy => ?_, fun c x d y hx hy => aF8 hx hy⟩
 have g1 : ∃ x', a.drop (cpl a b) = c :: x' := by
  cases h : a.drop (cpl a b) with
  | nil => rw [h] at hx; simp at hx
  | cons c' x' =>
   rw [h] at hx
   cases hn : (c' :: x').length - csl (c' :: x') (b.drop (cpl a b)) with
   | zero => rw [hn] at hx; simp at hx
   | succ k => rw [hn, List.take_succ_cons] at hx; exact ⟨x', by rw [List.cons.inj hx |>.1]⟩
 have g2 : ∃ y', b.drop (cpl a b) = d :: y' := by
  cases h : b.drop (cpl a b) with
  | nil => rw [h] at hy; simp at hy
  | cons d' y' =>
   rw [h] at hy
   cases hn : (d' :: y').length - csl (a.drop (cpl a b)) (d' :: y') with
   | zero => rw [hn] at hy; simp at hy
   | succ k => rw [hn, List.take_succ_cons] at hy; exact ⟨y', by rw [List.cons.inj hy |>.1]⟩
 obtain ⟨x', g1⟩ := g1
 obtain ⟨y', g2⟩ := g2
 exact uI g1 g2
def cF (t : List Int) : List Rp := if t = [] then [] else [(0, t)]
theorem oQ (t : List Int) : Full (cF t) := by
 unfold cF
 split
 ·exact Full.nil
 ·rename_i h; exact Full.cons h Full.nil
theorem wF {t : List Int} (h : Valids t) : Ok (cF t) ∧ bL (cF t) = t ∧ bK (cF t) = t ∧ edR (cF t) = 0 ∧ (cF t).length ≤ 1 := by
 unfold cF
 split
 ·rename_i e; subst e; exact ⟨Ok.nil, rfl, rfl, rfl, by simp⟩
 ·refine ⟨fun d hd => ?_, by simp [bL], by simp [bK], by simp [edR], by simp⟩
  obtain rfl := List.mem_singleton.1 hd
  exact ⟨.inr (.inl rfl), h⟩
section
variable (q67 : DenA hH → Option (DenR fJ)) (q82 : DenA hJ → Option (DenR fO)) (aB : DenA eU → Option (DenR eB)) (aA : DenA eQ → Option (DenR eI))
theorem z8 (n : Nat) (hn : Big ≤ n) (p0) {a b : List Int} (ln : Bool) (ha : Valids a) (hb : Valids b) (hla : a.length ≤ 100000) (hlb : b.length ≤ 100000)
  (hq : a ≠ b → ∀ a' b' : List Int, Valids a' → Valids b' → a'.length ≤ a.length → b'.length ≤ b.length → a'.length + b'.length ≤ a.length + b.length → Trim a' b' → (a' ≠ [] ∨ b' ≠ []) → ∃ l, q82 (p0, (a', (b', (ln, ())))) = @some (DenR fO) (M l, ()) ∧ LD a' b' l) :
  ∃ l, aL6 n q67 q82 aB aA p0 a b ln = some (M l, ()) ∧ LD a b l ∧ ((a = b ∧ l = cF a) ∨ (a ≠ b ∧ ∃ x, LD a b x ∧ l = merge x)) := by
 dsimp only [aL6, L6, aM3]
 rw [rK n hn a b (by omega), Option.bind_some]
 by_cases hab : a = b
 ·subst hab
  rw [biT (by simp)]
  have hd := NV a
  by_cases ha0 : a = []
  ·subst ha0
   exact ⟨[], rfl, LD.of Ok.nil rfl rfl (Nat.zero_le _) (by simp) Full.nil, .inl ⟨rfl, rfl⟩⟩
  ·have := List.length_pos_iff.2 ha0
   rw [bdT (by omega), bX (by simp)]
   have he := wF ha
   have hep : cF a = [(0, a)] := by unfold cF; rw [if_neg ha0]
   refine ⟨cF a, by rw [hep]; rfl, LD.of he.1 he.2.1 he.2.2.1 (by rw [he.2.2.2.1]; omega) (by omega) (oQ a), .inl ⟨rfl, rfl⟩⟩
 ·rw [biF (by simpa using hab), HF n hn a b (by omega), Option.bind_some]
  have c1 := fA a b
  have c2 := eL a b
  have c3 := tU a b
  simp only
  rw [aW (by omega) (by omega) (by omega), aW (by omega) (by omega) (by omega), aW (by omega) (by omega) (by omega)]
  have htrim := cG8 a b
  have q1 := dR (a.drop (cpl a b)) (b.drop (cpl a b))
  have q2 := dC (a.drop (cpl a b)) (b.drop (cpl a b))
  have q3 := pE (a.drop (cpl a b)) (b.drop (cpl a b))
  rw [dY a _ _ (by omega), dY b _ _ (by omega), Int.toNat_natCast, cH, Int.toNat_natCast]
  have ea : a = a.take (cpl a b) ++ a.drop (cpl a b) := (List.take_append_drop _ _).symm
  have eb : b = b.take (cpl a b) ++ b.drop (cpl a b) := (List.take_append_drop _ _).symm
  have la1 : (a.drop (cpl a b)).length = a.length - cpl a b := List.length_drop
  have lb1 : (b.drop (cpl a b)).length = b.length - cpl a b := List.length_drop
  have hva : Valids (a.take (cpl a b)) := ha.take _
  have hva1 : Valids (a.drop (cpl a b)) := ha.drop _
  have hvb1 : Valids (b.drop (cpl a b)) := hb.drop _
  generalize hpre : a.take (cpl a b) = pre at *
  generalize ha1 : a.drop (cpl a b) = a1 at *
  generalize hb1 : b.drop (cpl a b) = b1 at *
  generalize hs : csl a1 b1 = s at *
  rw [pX n hn a1 b1 (by omega) (by omega), Option.bind_some, hs]
  simp only
  rw [aF (n := (a1.length : Int) - s) (by omega) (by omega), aF (n := (b1.length : Int) - s) (by omega) (by omega), aW (by omega) (by omega) (by omega), aW (by omega) (by omega) (by omega), aW (by omega) (by omega) (by omega),
   cH, cH, dY a1 _ _ (by omega), show ((a1.length : Int) - s).toNat = a1.length - s by omega, show ((b1.length : Int) - s).toNat = b1.length - s by omega]
  have ea1 : a1 = a1.take (a1.length - s) ++ a1.drop (a1.length - s) := (List.take_append_drop _ _).symm
  have eb1 : b1 = b1.take (b1.length - s) ++ a1.drop (a1.length - s) := by rw [q3]; exact (List.take_append_drop _ _).symm
  have la2 : (a1.take (a1.length - s)).length = a1.length - s := by rw [List.length_take]; omega
  have lb2 : (b1.take (b1.length - s)).length = b1.length - s := by rw [List.length_take]; omega
  have lsf : (a1.drop (a1.length - s)).length = s := by rw [List.length_drop]; omega
  have hva2 := hva1.take (a1.length - s)
  have hvb2 := hvb1.take (b1.length - s)
  have hvsf := hva1.drop (a1.length - s)
  have lpre : pre.length = cpl a b := by rw [← hpre, List.length_take]; omega
  generalize hsf : a1.drop (a1.length - s) = sf at *
  generalize ha2 : a1.take (a1.length - s) = a2 at *
  generalize hb2 : b1.take (b1.length - s) = b2 at *
  have hdst : dst a b = dst a2 b2 := by
   rw [ea, eb, ← c3, jP, ea1, eb1, JA]
  have eaf : a = pre ++ (a2 ++ sf) := by rw [← ea1]; exact ea
  have ebf : b = pre ++ (b2 ++ sf) := by rw [← eb1, c3]; exact eb
  have hne : a2 ≠ [] ∨ b2 ≠ [] := by
   by_cases h : a2 = []
   ·right
    intro h2
    exact hab (by rw [eaf, ebf, h, h2])
   ·exact .inl h
  have hll : a2.length + b2.length ≤ a.length + b.length := by omega
  obtain ⟨l, g1, g2⟩ := hq hab a2 b2 hva2 hvb2 (by omega) (by omega) hll htrim hne
  rw [aJ g1]
  have hpo := wF hva
  have hso := wF hvsf
  have hlen := g2.len
  have hx : LD a b (cF pre ++ l ++ cF sf) := by
   refine LD.of ((hpo.1.append g2.ok).append hso.1) ?_ ?_ ?_ ?_ (((oQ pre).append g2.full).append (oQ sf))
   ·rw [bB, bB, hpo.2.1, hso.2.1, g2.src, eaf, List.append_assoc]
   ·rw [bA, bA, hpo.2.2.1, hso.2.2.1, g2.tgt, ebf, List.append_assoc]
   ·rw [cQ, cQ, hpo.2.2.2.1, hso.2.2.2.1, g2.ed, hdst]; omega
   ·have k1 : (cF pre).length ≤ pre.length := by
     unfold cF; split
     ·simp
     ·rename_i h; have := List.length_pos_iff.2 h; simp; omega
    have k2 : (cF sf).length ≤ sf.length := by
     unfold cF; split
     ·simp
     ·rename_i h; have := List.length_pos_iff.2 h; simp; omega
    rw [List.length_append, List.length_append]
    have z1 := congrArg List.length eaf
    have z2 := congrArg List.length ebf
    simp only [List.length_append] at z1 z2
    omega
  have hed := hx.ed
  have hhi := aQ1 a b
  have hxl := hx.len
  have hm : g73 n p0 (M (cF pre ++ l ++ cF sf)) = some (M (merge (cF pre ++ l ++ cF sf)), ()) := PI n hn p0 _ hx.ok (by unfold phi; omega) (by rw [hx.src, hx.tgt]; omega)
  have last : ∀ z : List Rp, z = cF pre ++ l → C9 n q67 q82 aB aA (fun x8 => @some (DenR [.rw (.pair (.int .i8) .str) 81]) (x8, ())) p0 sf (M z) = some (M (merge (cF pre ++ l ++ cF sf)), ()) := fun z hz => by
   subst hz
   unfold C9
   by_cases hsf0 : sf = []
   ·rw [biF (by simp [hsf0])]
    have : cF sf = [] := by unfold cF; rw [if_pos hsf0]
    rw [this, List.append_nil] at hm ⊢
    rw [aJ hm]
   ·have hp := List.length_pos_iff.2 hsf0
    rw [biT (by simp [hsf0])]
    have : cF sf = [(0, sf)] := by unfold cF; rw [if_neg hsf0]
    rw [bX (by unfold M; rw [List.length_map]; simp only [List.length_append, List.length_cons, List.length_nil] at hxl ⊢; omega)]
    have e : M (cF pre ++ l) ++ [((0 : Int), runesBytes sf)] = M (cF pre ++ l ++ cF sf) := by
     rw [this]; unfold M; simp only [List.map_append]; rfl
    rw [e, aJ hm]
  refine ⟨merge (cF pre ++ l ++ cF sf), ?_, hx.merge, .inr ⟨hab, _, hx, rfl⟩⟩
  by_cases hp0 : pre = []
  ·rw [biF (by simp [hp0])]
   exact last l (by unfold cF; rw [if_pos hp0]; rfl)
  ·have hp := List.length_pos_iff.2 hp0
   rw [biT (by simp [hp0]), bX (by unfold M; rw [List.length_map]; simp only [List.length_append, List.length_cons, List.length_nil] at hxl ⊢; omega)]
   exact last ((0, pre) :: l) (by unfold cF; rw [if_neg hp0]; rfl)
end
theorem aP3 (n : Nat) (hn : Big ≤ n) (p0) (hp : p0.1 ≤ (0 : Int)) : ∀ (N m : Nat) (a b : List Int) (ln : Bool), (ln = false ∨ a.length ≤ 100 ∨ b.length ≤ 100 ∨ a = b) → a.length + b.length ≤ N → N ≤ 100000 → 4 * N + 8 ≤ m → Valids a → Valids b →
  ∃ l, (bP n m).1 (p0, (a, (b, (ln, ())))) = @some (DenR fJ) (M l, ()) ∧ LD a b l ∧ ((a = b ∧ l = cF a) ∨ (a ≠ b ∧ ∃ x, LD a b x ∧ l = merge x)) := by
 intro N
 induction N using Nat.strongRecOn with
 | _ N ih =>
  intro m a b ln hln hl hN hm ha hb
  obtain ⟨m, rfl⟩ : ∃ m', m = m' + 4 := ⟨m - 4, by omega⟩
  refine z8 (a := a) (b := b) (ln := ln) (p0 := p0) (n := n) (hn := hn) (ha := ha) (hb := hb) (hla := by omega) (hlb := by omega) (hq := ?_) ..
  intro hab a' b' ha' hb' hla' hlb' hl' ht hne
  have hln' : ln = false ∨ a'.length ≤ 100 ∨ b'.length ≤ 100 := by
   rcases hln with h | h | h | h
   ·exact .inl h
   ·exact .inr (.inl (by omega))
   ·exact .inr (.inr (by omega))
   ·exact absurd h hab
  refine YW (a := a') (b := b') (ln := ln) (hln := hln') (p0 := p0) (n := n) (hn := hn) (hp := hp) (ha := ha') (hb := hb') (hla := by omega) (hlb := by omega) (ht := ht) (hne := hne) (hq := ?_) ..
  intro h2a h2b hd2
  rcases u7 (p0 := p0) (n := n) (hn := hn) (A := a') (B := b') (h3 := by omega) (hN := by omega) (hM := by omega) (kr := fun x6 => @some (DenR eB) (x6, ())) .. with h | ⟨h, hd⟩
  ·obtain ⟨x, y, ho, h1, h2, h3⟩ := h
   have hx := ho.hx
   have hy := ho.hy
   have hs := ho.sum
   have l1 : (a'.take x).length + (b'.take y).length < a'.length + b'.length := by
    rw [List.length_take, List.length_take]
    by_cases e : x = a'.length ∧ y = b'.length
    ·rw [e.1, e.2, C1] at h1; omega
    ·omega
   have l2 : (a'.drop x).length + (b'.drop y).length < a'.length + b'.length := by
    rw [List.length_drop, List.length_drop]
    by_cases e : x = 0 ∧ y = 0
    ·rw [e.1, e.2, H8] at h2; omega
    ·omega
   obtain ⟨u, u1, u2, _⟩ := ih _ (by omega : (a'.take x).length + (b'.take y).length < N) m (a'.take x) (b'.take y) false (.inl rfl) (Nat.le_refl _) (by omega) (by omega) (ha'.take _) (hb'.take _)
   obtain ⟨v, v1, v2, _⟩ := ih _ (by omega : (a'.drop x).length + (b'.drop y).length < N) m (a'.drop x) (b'.drop y) false (.inl rfl) (Nat.le_refl _) (by omega) (by omega) (ha'.drop _) (hb'.drop _)
   have ul := u2.len
   have vl := v2.len
   have hsp := bM4 (n := n) (p0 := p0) (hx := hx) (hy := hy) (h1 := u1) (h2 := v1) (hl := by omega) (bP n m).1 (bP n m).2.1 (bP n m).2.2.1 (bP n m).2.2.2
   have key : LD a' b' (u ++ v) := by
    refine LD.of (u2.ok.append v2.ok) ?_ ?_ ?_ ?_ (u2.full.append v2.full)
    ·rw [bB, u2.src, v2.src, List.take_append_drop]
    ·rw [bA, u2.tgt, v2.tgt, List.take_append_drop]
    ·rw [cQ, u2.ed, v2.ed]
     rw [gJ hx hy, gO] at hs
     unfold gt at hs
     omega
    ·rw [List.length_append]
     rw [List.length_take, List.length_take] at ul
     rw [List.length_drop, List.length_drop] at vl
     omega
   refine ⟨u ++ v, ?_, key⟩
   refine Eq.trans h3 ?_
   refine aJ hsp
  ·refine ⟨[(-1, a'), (1, b')], h, LD.of (fun d hd' => ?_) ?_ ?_ ?_ ?_ (dC4 (List.ne_nil_of_length_pos (by omega)) (List.ne_nil_of_length_pos (by omega)))⟩
   ·simp only [List.mem_cons, List.not_mem_nil, or_false] at hd'
    rcases hd' with rfl | rfl
    ·exact ⟨.inl rfl, ha'⟩
    ·exact ⟨.inr (.inr rfl), hb'⟩
   ·show a' ++ [] = a'; simp
   ·show b' ++ [] = b'; simp
   ·show a'.length + (b'.length + 0) ≤ _; omega
   ·simp; omega
theorem pV (n : Nat) (a b c d : Int) : ∃ x, g65 n a b c d = some (x, ()) := by
 dsimp only [g65, bT6]
 by_cases h1 : a < b
 ·rw [bdT h1]; exact ⟨_, rfl⟩
 ·rw [bdF h1]
  by_cases h2 : a > c
  ·rw [bdT h2]; exact ⟨_, rfl⟩
  ·rw [bdF h2]; exact ⟨_, rfl⟩
theorem M4 (n : Nat) (a : Nat) : ∃ x, g66 n a = some (x, ()) := by
 dsimp only [g66, aL8]
 generalize (fGt .f64 a (0 : Nat) || fEq .f64 a (0 : Nat)) = c1
 generalize (fLt .f64 a (4607182418800017408 : Nat) || fEq .f64 a (4607182418800017408 : Nat)) = c2
 cases c1 <;> cases c2 <;> exact ⟨_, rfl⟩
theorem dH9 (n : Nat) (v) : ∃ p, g50 n (false, v) = some (p, ()) ∧ p.1 = (0 : Int) := by
 dsimp only [g50, aB5]
 obtain ⟨x1, h1⟩ := pV n v.1 0 1000 4
 obtain ⟨x2, h2⟩ := pV n v.2.1 0 1048576 1000
 obtain ⟨x3, h3⟩ := M4 n v.2.2.1
 obtain ⟨x4, h4⟩ := M4 n v.2.2.2.1
 obtain ⟨x5, h5⟩ := pV n v.2.2.2.2.1 1 8 4
 obtain ⟨x6, h6⟩ := pV n v.2.2.2.2.2 32 62 32
 rw [aJ h1, aJ h2, aJ h3, aJ h4, aJ h5, aJ h6]
 exact ⟨_, rfl, rfl⟩
theorem YI (n : Nat) (hn : Big ≤ n) (x y : ByteArray) (ln : Bool) (hln : ln = false ∨ (aS x).length ≤ 100 ∨ (aS y).length ≤ 100 ∨ aS x = aS y) (hx : x.size ≤ 1000000000) (hy : y.size ≤ 1000000000) (hl : (aS x).length + (aS y).length ≤ 50000) :
  ∃ l, g14 n x y ln = some (M l, ()) ∧ LD (aS x) (aS y) l ∧ ((aS x = aS y ∧ l = cF (aS x)) ∨ (aS x ≠ aS y ∧ ∃ z, LD (aS x) (aS y) z ∧ l = merge z)) := by
 dsimp only [g14, bR9, g35, SW, SH]
 obtain ⟨p, hp, hp0⟩ := dH9 n ((0 : Int), ((0 : Int), ((0 : Nat), ((0 : Nat), ((0 : Int), (0 : Int))))))
 rw [aJ hp]
 have ha := iW x
 have hb := iW y
 obtain ⟨l, h1, h2, h3⟩ := aP3 n hn p (Int.le_of_eq hp0) ((aS x).length + (aS y).length) n (aS x) (aS y) ln hln (Nat.le_refl _) (by omega) (by unfold Big at hn; omega) ha hb
 refine ⟨l, ?_, h2, h3⟩
 dsimp only [g51, bG6, g53, aR4]
 rw [gW (by omega), gW (by omega)]
 have h4 : g67 n p (aS x) (aS y) ln = some (M l, ()) := h1
 have hll := h2.len
 have hls : g49 n (M l) = some (M l, ()) := E5 n hn l (by omega) h2.ok
 rw [aJ h4]
 simp only [Option.bind_some]
 rw [aJ hls]
 rfl
theorem ZL (n : Nat) (hn : Big ≤ n) (a b : List Int) (ln : Bool) (hln : ln = false ∨ a.length ≤ 100 ∨ b.length ≤ 100 ∨ a = b) (ha : Valids a) (hb : Valids b) (hl : a.length + b.length ≤ 50000) :
  ∃ l, g14 n (enc a) (enc b) ln = some (M l, ()) ∧ LD a b l ∧ ((a = b ∧ l = cF a) ∨ (a ≠ b ∧ ∃ x, LD a b x ∧ l = merge x)) := by
 have e1 := aP a
 have e2 := aP b
 have := YI n hn (enc a) (enc b) ln (by rw [eE ha, eE hb]; exact hln) (by omega) (by omega) (by rw [eE ha, eE hb]; exact hl)
 rw [eE ha, eE hb] at this
 exact this
theorem W3 (n : Nat) (hn : Big ≤ n) (a b : List Int) (ha : Valids a) (hb : Valids b) (hl : a.length + b.length ≤ 50000) :
  ∃ l, g14 n (enc a) (enc b) false = some (M l, ()) ∧ LD a b l ∧ ((a = b ∧ l = cF a) ∨ (a ≠ b ∧ ∃ x, LD a b x ∧ l = merge x)) := ZL n hn a b false (.inl rfl) ha hb hl
theorem uW (n : Nat) (hn : Big ≤ n) (u v : ByteArray) (hu : u.size ≤ 2147483647) (hv : v.size ≤ 2147483647) : ∃ l, g23 n u v = some (M l, ()) ∧ LD ((aS u).take 120) ((aS v).take 120) l ∧ (((aS u).take 120 = (aS v).take 120 ∧ l = cF ((aS u).take 120)) ∨ ((aS u).take 120 ≠ (aS v).take 120 ∧ ∃ x, LD ((aS u).take 120) ((aS v).take 120) x ∧ l = merge x)) := by
 dsimp only [g23, bK2]
 rw [show (120 : Int) = ((120 : Nat) : Int) from rfl, NX n u 120 (by omega), Option.bind_some, NX n v 120 (by omega), Option.bind_some]
 have la : ((aS u).take 120).length ≤ 120 := by rw [List.length_take]; omega
 have lb : ((aS v).take 120).length ≤ 120 := by rw [List.length_take]; omega
 obtain ⟨l, g1, g2, g3⟩ := W3 n hn _ _ ((iW u).take 120) ((iW v).take 120) (by omega)
 exact ⟨l, by rw [aJ g1], g2, g3⟩
def fG (c : Int) : Bool := decide ((97 ≤ c ∧ c ≤ 122) ∨ (65 ≤ c ∧ c ≤ 90) ∨ (48 ≤ c ∧ c ≤ 57))
def gC (c : Int) : Bool := decide (c = 32 ∨ c = 9 ∨ c = 10 ∨ c = 13 ∨ c = 12)
def brk (c : Int) : Bool := decide (c = 10 ∨ c = 13)
def kC (l : List Int) : Bool := decide ([10, 10] <:+ l) || decide ([10, 13, 10] <:+ l)
def kI (e : Bool) (a b : Int) : Int := if e = true then 5 else if (brk a || brk b) = true then 4 else if (!fG a && !gC a && gC b) = true then 3 else if (gC a || gC b) = true then 2 else if (!fG a || !fG b) = true then 1 else 0
def cN (x y : List Int) : Int := if x = [] ∨ y = [] then 6 else kI ((brk (x.getLastD 0) && kC x) || (brk (y.headD 0) && kC y)) (x.getLastD 0) (y.headD 0)
theorem QC {e : Bool} {a b : Int} (he : e = true → 5 ≤ (5 : Int)) (ha : 128 ≤ a) : 1 ≤ kI e a b := by
 have h1 : fG a = false := by unfold fG; rw [decide_eq_false]; omega
 unfold kI
 rw [h1]
 repeat' split
 all_goals first | omega | simp_all
theorem YL {a b : Int} (ha : 128 ≤ a) (hb : 128 ≤ b) : kI false a b = 1 := by
 have h1 : fG a = false := by unfold fG; rw [decide_eq_false]; omega
 have h2 : gC a = false := by unfold gC; rw [decide_eq_false]; omega
 have h3 : brk a = false := by unfold brk; rw [decide_eq_false]; omega
 have h4 : fG b = false := by unfold fG; rw [decide_eq_false]; omega
 have h5 : gC b = false := by unfold gC; rw [decide_eq_false]; omega
 have h6 : brk b = false := by unfold brk; rw [decide_eq_false]; omega
 unfold kI
 rw [h1, h2, h3, h4, h5, h6]
 rfl
@[reducible] def Tri := List Int × List Int × List Int
def kV : List Int → List Int → List Int → Tri → Int → Tri
 | a, c :: s, d :: b, best, m =>
  if c = d then
   if m ≤ cN (a ++ [c]) (s ++ [c]) + cN (s ++ [c]) b then kV (a ++ [c]) (s ++ [c]) b (a ++ [c], s ++ [c], b) (cN (a ++ [c]) (s ++ [c]) + cN (s ++ [c]) b)
   else kV (a ++ [c]) (s ++ [c]) b best m
  else best
 | _, _, _, best, _ => best
termination_by _ _ b => b.length
def dX : List Int → Nat → Nat
 | [], _ => 0
 | c :: r, k => if (Utf8.encode c).size ≤ k then 1 + dX r (k - (Utf8.encode c).size) else 0
theorem wI : ∀ (t : List Int) (k : Nat), dX t k ≤ t.length
 | [], _ => Nat.le_refl _
 | c :: r, k => by
  rw [dX]
  split
  ·have := wI r (k - (Utf8.encode c).size); simp; omega
  ·omega
def jM (a s b : List Int) : Tri :=
 let j := dX a.reverse (csl a s)
 (a.take (a.length - j), a.drop (a.length - j) ++ s.take (s.length - j), a.drop (a.length - j) ++ b)
def fS (a s b : List Int) : Tri := kV (jM a s b).1 (jM a s b).2.1 (jM a s b).2.2 (jM a s b) (cN (jM a s b).1 (jM a s b).2.1 + cN (jM a s b).2.1 (jM a s b).2.2)
structure Moved (a s b : List Int) (t : Tri) : Prop where
 all : t.1 ++ t.2.1 ++ t.2.2 = a ++ s ++ b
 out : t.1 ++ t.2.2 = a ++ b
 len : t.2.1.length = s.length
 val : Valids a → Valids s → Valids b → Valids t.1 ∧ Valids t.2.1 ∧ Valids t.2.2
theorem Moved.trans {a s b : List Int} {t u : Tri} (h : Moved a s b t) (k : Moved t.1 t.2.1 t.2.2 u) : Moved a s b u :=
 ⟨k.all.trans h.all, k.out.trans h.out, k.len.trans h.len, fun h1 h2 h3 => let ⟨q1, q2, q3⟩ := h.val h1 h2 h3; k.val q1 q2 q3⟩
theorem Moved.step (a s b : List Int) (c : Int) : Moved a (c :: s) (c :: b) (a ++ [c], s ++ [c], b) := by
 refine ⟨by simp, by simp, by simp, fun h1 h2 h3 => ⟨h1.append ?_, h2.cons.2.append ?_, h3.cons.2⟩⟩ <;> exact fun d hd => by rw [List.mem_singleton.1 hd]; exact h2.cons.1
theorem OG (a0 s0 b0 : List Int) : ∀ (n : Nat) (a s b : List Int) (best : Tri) (m : Int), b.length = n → Moved a0 s0 b0 (a, s, b) → Moved a0 s0 b0 best → Moved a0 s0 b0 (kV a s b best m) := by
 intro n
 induction n with
 | zero =>
  intro a s b best m hb h1 h2
  have := List.eq_nil_of_length_eq_zero hb
  subst this
  cases s <;> (unfold kV; exact h2)
 | succ n ih =>
  intro a s b best m hb h1 h2
  match s, b, hb with
  | [], d :: b, hb => unfold kV; exact h2
  | c :: s, d :: b, hb =>
   unfold kV
   split
   ·rename_i e
    subst e
    have h3 := h1.trans (Moved.step a s b c)
    split
    ·exact ih _ _ _ _ _ (by simpa using hb) h3 h3
    ·exact ih _ _ _ _ _ (by simpa using hb) h3 h2
   ·exact h2
theorem FJ {x y : List Int} {j : Nat} (h : j ≤ csl x y) : x.drop (x.length - j) = y.drop (y.length - j) := by
 have h1 := dR x y
 have h2 := dC x y
 have e := pE x y
 have e1 : x.drop (x.length - j) = (x.drop (x.length - csl x y)).drop (csl x y - j) := by rw [List.drop_drop]; congr 1; omega
 have e2 : y.drop (y.length - j) = (y.drop (y.length - csl x y)).drop (csl x y - j) := by rw [List.drop_drop]; congr 1; omega
 rw [e1, e2, e]
theorem xJ : ∀ (t : List Int) (k : Nat), dX t k ≤ k
 | [], _ => Nat.zero_le _
 | c :: r, k => by
  rw [dX]
  split
  ·have := xJ r (k - (Utf8.encode c).size)
   have := iQ c
   omega
  ·omega
theorem uU (a s b : List Int) : Moved a s b (jM a s b) := by
 unfold jM
 have hj := xJ a.reverse (csl a s)
 have e := FJ hj
 have l1 := dR a s
 have l2 := dC a s
 generalize dX a.reverse (csl a s) = j at *
 have ea : a.take (a.length - j) ++ a.drop (a.length - j) = a := List.take_append_drop _ _
 have es : s.take (s.length - j) ++ a.drop (a.length - j) = s := by rw [e]; exact List.take_append_drop _ _
 refine ⟨?_, ?_, ?_, fun h1 h2 h3 => ⟨h1.take _, (h1.drop _).append (h2.take _), (h1.drop _).append h3⟩⟩
 ·show a.take (a.length - j) ++ (a.drop (a.length - j) ++ s.take (s.length - j)) ++ (a.drop (a.length - j) ++ b) = _
  have : a.take (a.length - j) ++ (a.drop (a.length - j) ++ s.take (s.length - j)) ++ (a.drop (a.length - j) ++ b) = (a.take (a.length - j) ++ a.drop (a.length - j)) ++ (s.take (s.length - j) ++ a.drop (a.length - j)) ++ b := by simp only [List.append_assoc]
  rw [this, ea, es]
 ·show a.take (a.length - j) ++ (a.drop (a.length - j) ++ b) = _
  rw [← List.append_assoc, ea]
 ·show (a.drop (a.length - j) ++ s.take (s.length - j)).length = _
  rw [List.length_append, List.length_drop, List.length_take]; omega
theorem mY (a s b : List Int) : Moved a s b (fS a s b) := OG a s b _ _ _ _ _ _ rfl (uU a s b) (uU a s b)
def dK : List Rp → List Rp → List Rp
 | A, p :: c :: q :: R =>
  if p.1 = 0 ∧ q.1 = 0 then
   let t := fS p.2 c.2 q.2
   if t.1 = p.2 then dK (p :: A) (c :: q :: R)
   else if t.1 = [] then dK A ((c.1, t.2.1) :: (q.1, t.2.2) :: R)
   else if t.2.2 = [] then dK A ((p.1, t.1) :: (c.1, t.2.1) :: R)
   else dK ((p.1, t.1) :: A) ((c.1, t.2.1) :: (q.1, t.2.2) :: R)
  else dK (p :: A) (c :: q :: R)
 | A, R => A.reverse ++ R
termination_by _ R => R.length
def fX (x : List Rp) : List Rp := dK [] x
def dA : List Rp → List (Int × Nat)
 | [] => []
 | d :: l => if d.1 = 0 then dA l else (d.1, d.2.length) :: dA l
theorem gF : ∀ x y, dA (x ++ y) = dA x ++ dA y
 | [], y => rfl
 | d :: x, y => by simp only [List.cons_append, dA]; split <;> simp [gF x y]
theorem aU1 : ∀ (k : Nat) (A R : List Rp), R.length = k → bL (dK A R) = bL (A.reverse ++ R) ∧ bK (dK A R) = bK (A.reverse ++ R) ∧ dA (dK A R) = dA (A.reverse ++ R) ∧ (Ok (A.reverse ++ R) → Ok (dK A R)) ∧ (dK A R).length ≤ A.length + R.length ∧ (A.reverse ++ R ≠ [] → dK A R ≠ []) := by
 intro k
 induction k using Nat.strongRecOn with
 | _ k ih =>
  intro A R hk
  match R, hk with
  | [], hk => unfold dK; exact ⟨rfl, rfl, rfl, id, by simp, id⟩
  | [p], hk => unfold dK; exact ⟨rfl, rfl, rfl, id, by simp, id⟩
  | [p, c], hk => unfold dK; exact ⟨rfl, rfl, rfl, id, by simp, id⟩
  | p :: c :: q :: R, hk =>
   rw [dK]
   have skip := ih (c :: q :: R).length (by rw [← hk]; simp) (p :: A) (c :: q :: R) rfl
   rw [List.reverse_cons, List.append_assoc, List.singleton_append] at skip
   have skip' : bL (dK (p :: A) (c :: q :: R)) = bL (A.reverse ++ p :: c :: q :: R) ∧ bK (dK (p :: A) (c :: q :: R)) = bK (A.reverse ++ p :: c :: q :: R) ∧ dA (dK (p :: A) (c :: q :: R)) = dA (A.reverse ++ p :: c :: q :: R) ∧ (Ok (A.reverse ++ p :: c :: q :: R) → Ok (dK (p :: A) (c :: q :: R))) ∧ (dK (p :: A) (c :: q :: R)).length ≤ A.length + (p :: c :: q :: R).length ∧ (A.reverse ++ p :: c :: q :: R ≠ [] → dK (p :: A) (c :: q :: R) ≠ []) := by
    refine ⟨skip.1, skip.2.1, skip.2.2.1, skip.2.2.2.1, ?_, skip.2.2.2.2.2⟩
    have := skip.2.2.2.2.1
    simp at this ⊢; omega
   split
   ·rename_i h
    obtain ⟨hp, hq⟩ := h
    have hm := mY p.2 c.2 q.2
    generalize fS p.2 c.2 q.2 = t at *
    have ho := hm.out
    have hall := hm.all
    have hlen := hm.len
    simp only
    have key : ∀ (A' R' : List Rp), R'.length < k → A'.length + R'.length ≤ A.length + (p :: c :: q :: R).length → A'.reverse ++ R' ≠ [] →
      (bL (A'.reverse ++ R') = bL A.reverse ++ (t.1 ++ (if c.1 = 1 then [] else t.2.1) ++ t.2.2) ++ bL R) → (bK (A'.reverse ++ R') = bK A.reverse ++ (t.1 ++ (if c.1 = -1 then [] else t.2.1) ++ t.2.2) ++ bK R) →
      dA (A'.reverse ++ R') = dA A.reverse ++ ((if c.1 = 0 then [] else [(c.1, t.2.1.length)]) ++ dA R) → (Ok A → OkR (p.1, t.1) → OkR (c.1, t.2.1) → OkR (q.1, t.2.2) → Ok R → Ok (A'.reverse ++ R')) →
      bL (dK A' R') = bL (A.reverse ++ p :: c :: q :: R) ∧ bK (dK A' R') = bK (A.reverse ++ p :: c :: q :: R) ∧ dA (dK A' R') = dA (A.reverse ++ p :: c :: q :: R) ∧ (Ok (A.reverse ++ p :: c :: q :: R) → Ok (dK A' R')) ∧ (dK A' R').length ≤ A.length + (p :: c :: q :: R).length ∧ (A.reverse ++ p :: c :: q :: R ≠ [] → dK A' R' ≠ []) := by
     intro A' R' h1 h2 h3 h4 h5 h6 h7
     obtain ⟨i1, i2, i3, i4, i5, i6⟩ := ih R'.length h1 A' R' rfl
     refine ⟨?_, ?_, ?_, ?_, by omega, fun _ => i6 h3⟩
     ·rw [i1, h4, bB]
      simp only [bL, hp, hq, if_neg (show ¬ (0 : Int) = 1 by decide)]
      by_cases hc : c.1 = 1
      ·simp only [hc, if_true, List.append_nil, List.nil_append]
       rw [ho]; simp
      ·simp only [hc, if_false]
       rw [hall]; simp
     ·rw [i2, h5, bA]
      simp only [bK, hp, hq, if_neg (show ¬ (0 : Int) = -1 by decide)]
      by_cases hc : c.1 = -1
      ·simp only [hc, if_true, List.append_nil, List.nil_append]
       rw [ho]; simp
      ·simp only [hc, if_false]
       rw [hall]; simp
     ·rw [i3, h6, gF]
      simp only [dA, hp, hq, if_true, hlen]
      split <;> rfl
     ·intro hok
      have o1 := Ok.of_append hok
      have o2 := o1.2.of_cons
      have o3 := o2.2.of_cons
      have o4 := o3.2.of_cons
      have hv := hm.val o2.1.2 o3.1.2 o4.1.2
      exact i4 (h7 (by have := o1.1.reverse; rwa [List.reverse_reverse] at this) ⟨o2.1.1, hv.1⟩ ⟨o3.1.1, hv.2.1⟩ ⟨o4.1.1, hv.2.2⟩ o4.2)
    split
    ·exact skip'
    ·rename_i hne
     split
     ·rename_i h0
      refine key A _ (by rw [← hk]; simp) (by simp) (by simp) ?_ ?_ ?_ (fun a1 a2 a3 a4 a5 => a1.reverse.append (Ok.cons' a3 (Ok.cons' a4 a5)))
      ·simp only [bB, bL, hq, h0, if_neg (show ¬ (0 : Int) = 1 by decide)]; simp
      ·simp only [bA, bK, hq, h0, if_neg (show ¬ (0 : Int) = -1 by decide)]; simp
      ·simp only [gF, dA, hq, if_true]; split <;> simp
     ·split
      ·rename_i h0
       refine key A _ (by rw [← hk]; simp) (by simp) (by simp) ?_ ?_ ?_ (fun a1 a2 a3 a4 a5 => a1.reverse.append (Ok.cons' a2 (Ok.cons' a3 a5)))
       ·simp only [bB, bL, hp, h0, if_neg (show ¬ (0 : Int) = 1 by decide)]; simp
       ·simp only [bA, bK, hp, h0, if_neg (show ¬ (0 : Int) = -1 by decide)]; simp
       ·simp only [gF, dA, hp, if_true]; split <;> simp
      ·refine key _ _ (by rw [← hk]; simp) (by simp; omega) (by simp) ?_ ?_ ?_ (fun a1 a2 a3 a4 a5 => (Ok.cons' a2 a1).reverse.append (Ok.cons' a3 (Ok.cons' a4 a5)))
       ·rw [List.reverse_cons, List.append_assoc]; simp only [bB, bL, hp, hq, if_neg (show ¬ (0 : Int) = 1 by decide)]; simp
       ·rw [List.reverse_cons, List.append_assoc]; simp only [bA, bK, hp, hq, if_neg (show ¬ (0 : Int) = -1 by decide)]; simp
       ·rw [List.reverse_cons, List.append_assoc]; simp only [gF, dA, hp, hq, if_true]; simp; split <;> simp
   ·exact skip'
theorem MK {x : List Rp} : bL (fX x) = bL x ∧ bK (fX x) = bK x ∧ dA (fX x) = dA x ∧ (Ok x → Ok (fX x)) ∧ (fX x).length ≤ x.length ∧ (x ≠ [] → fX x ≠ []) := by
 have := aU1 x.length [] x rfl
 simpa [fX] using this
def nEq : List Rp → Nat
 | [] => 0
 | d :: l => (if d.1 = 0 then 1 else 0) + nEq l
def cEq : List Rp → Nat
 | [] => 0
 | d :: l => (if d.1 = 0 then d.2.length else 0) + cEq l
theorem GO : ∀ l : List Rp, l.length = (dA l).length + nEq l
 | [] => rfl
 | d :: l => by
  have ih := GO l
  rw [List.length_cons, dA, nEq]
  by_cases h : d.1 = 0
  ·rw [if_pos h, if_pos h]; omega
  ·rw [if_neg h, if_neg h, List.length_cons]; omega
theorem HG : ∀ {l : List Rp}, Ops l → (bL l).length = cEq l + (aR l).length ∧ (bK l).length = cEq l + (aQ l).length ∧ edR l = (aR l).length + (aQ l).length ∧ (dA l).length = cdR l + ciR l
 | [], _ => ⟨rfl, rfl, rfl, rfl⟩
 | d :: l, h => by
  obtain ⟨i1, i2, i3, i4⟩ := HG h.cons.2
  unfold bL bK edR dA aR aQ cEq cdR ciR
  simp only [List.length_append, i1, i2, i3]
  rcases h.cons.1 with hd | hd | hd <;> simp [hd, i4] <;> omega
theorem S4 : ∀ {l : List Rp}, 0 < cEq l → 0 < nEq l
 | [], h => h
 | d :: l, h => by
  unfold cEq at h
  unfold nEq
  split
  ·omega
  ·rename_i hd
   rw [if_neg hd] at h
   have := S4 (l := l) (by omega)
   omega
theorem bW3 : ∀ {l : List Rp}, Full l → nEq l ≤ cEq l
 | [], _ => Nat.le_refl _
 | d :: l, h => by
  have ih := bW3 h.of_cons.2
  have := List.length_pos_iff.2 h.of_cons.1
  unfold nEq cEq
  split <;> omega
theorem TG : ∀ {l : List Rp}, Full l → (dA l).length ≤ edR l
 | [], _ => Nat.le_refl _
 | d :: l, h => by
  have ih := TG h.of_cons.2
  have := List.length_pos_iff.2 h.of_cons.1
  unfold dA edR
  split
  ·omega
  ·simp only [List.length_cons]; omega
def dS1 : List (Int × Nat) → Nat
 | [] => 0
 | d :: l => d.2 + dS1 l
theorem PE {z : List Rp} {a b c : Int} (ho : Ops z) (hf : Full z) (hs : bL z = [a, b]) (ht : bK z = [a, c]) (he : edR z = 2) : z.length = 3 := by
 obtain ⟨i1, i2, i3, i4⟩ := HG ho
 rw [hs] at i1
 rw [ht] at i2
 simp only [List.length_cons, List.length_nil] at i1 i2
 have h1 := bW3 hf
 have h2 := @S4 z
 have h3 := TG hf
 have h4 := GO z
 have h5 : cdR z ≠ 0 := fun h => by have := congrArg List.length (BR h); simp only [List.length_nil] at this; omega
 have h6 : ciR z ≠ 0 := fun h => by have := congrArg List.length (DH h); simp only [List.length_nil] at this; omega
 omega
theorem R8 : dst [97, 98] [97, 99] = 2 := by
 rw [dO, if_pos rfl, dO, if_neg (by decide), eC, eH]
 rfl
end Go.Proofs.YticibdjilmclgaaDoorZF
namespace Go.Proofs.YticibdjilmclgaaDoorZF
open Go
theorem ex4 : g26 Big [((0 : Int), (⟨#[97]⟩ : ByteArray)), ((-1 : Int), (⟨#[98]⟩ : ByteArray)), ((1 : Int), (⟨#[99]⟩ : ByteArray))] = some ([((0 : Int), (⟨#[97]⟩ : ByteArray)), ((-1 : Int), (⟨#[98]⟩ : ByteArray)), ((1 : Int), (⟨#[99]⟩ : ByteArray))], ()) := by kernel_rfl
end Go.Proofs.YticibdjilmclgaaDoorZF
namespace Go.Proofs.YticibdjilmclgaaDoorZF
open Go
set_option linter.unusedVariables false
set_option linter.unusedSimpArgs false
theorem IW (n : Nat) (v : Int) (h : v = -1 ∨ v = 0 ∨ v = 1) : g64 n v = some (v, ()) := by
 rcases h with rfl | rfl | rfl <;> rfl
theorem cH2 (n : Nat) (hn : Big ≤ n) (xs : List Rp) (hl : xs.length ≤ 1000000) (ho : ∀ y ∈ xs, OkR y) : g46 n (xs.map emb) = some (xs.map emb, ()) := by
 have hB : (4611686018427387904 : Nat) ≤ n := hn
 dsimp only [g46, M7, aL3, bR1, aA4, aY2]
 have e := DZ (xs.map emb) (fun m s i => g46_3L n (fun x4 => some (x4, ())) m s (xs.map emb) ((xs.map emb).length : Int) (i : Int)) (fun s => some (s, ())) (fun s x => s ++ [x]) (fun i s => s.length = i)
  (fun m s i hi hs => by
   have hi' : i < xs.length := by simpa using hi
   refine ⟨?_, by simp [hs]⟩
   have hlm : (xs.map emb).length = xs.length := List.length_map _
   have hop := (ho xs[i] (by simp)).1
   have hg : (xs.map emb)[i] = emb xs[i] := List.getElem_map _
   rw [g46_3L.eq_2, Q9, bdT (by omega), aM (by omega) (by omega)]
   simp only [GG hi, nB rfl]
   rw [hg, IW n (emb xs[i]).1 hop, Option.bind_some, bX (by simp only [List.length_cons, List.length_nil]; omega), aF (by omega) (by omega)]
   rfl)
  (fun m s hs => by rw [g46_3L.eq_2, Q9, bdF (by omega)]) n [] (by simp; omega) rfl
 refine Eq.trans e ?_
 have hf : ∀ (l : List Prt) (s : List Prt), l.foldl (fun s x => s ++ [x]) s = s ++ l := by
  intro l
  induction l with
  | nil => intro s; simp
  | cons x l ih => intro s; rw [List.foldl_cons, ih]; simp
 rw [hf]; rfl
theorem aC2 (v : ByteArray) (h : 128 ≤ (v.get! 0).toNat) : 128 ≤ (Utf8.decode v 0).1 := by
 rw [Lib.decode_at]
 generalize (v.get! 0).toNat = b0 at *
 unfold Lib.decodeN
 repeat' split
 all_goals simp only
 all_goals omega
theorem U0 (v : ByteArray) (h : fW (v.get! 0)) : Utf8.decode v 0 = (65533, 1) := by
 unfold fW at h
 rw [Lib.decode_at]
 generalize (v.get! 0).toNat = b0 at *
 unfold Lib.decodeN
 rw [if_neg (by omega), if_neg (by omega), if_neg (by omega), if_neg (by omega)]
theorem bO9 (v : ByteArray) (h : (v.get! 0).toNat < 128) : Utf8.decode v 0 = ((v.get! 0).toNat, 1) := I3 v 0 _ rfl h
theorem OU (b : UInt8) (l : List UInt8) : (ByteArray.mk (b :: l).toArray).get! 0 = b := rfl
theorem cI5 (l : List UInt8) (b : UInt8) (h : 128 ≤ b.toNat) : 128 ≤ (Lib.decodeLastL (l ++ [b])).1 := by
 have hg : (l ++ [b]).getD ((l ++ [b]).length - 1) 0 = b := by simp [List.getD]
 unfold Lib.decodeLastL
 rw [if_neg (by simp), hg, if_neg (by omega)]
 simp only
 split
 ·rename_i he
  generalize Lib.lastStart (l ++ [b]) = s at *
  unfold Lib.decodeL at he ⊢
  cases hd : (l ++ [b]).drop s with
  | nil =>
   rw [hd] at he
   have : (l ++ [b]).length ≤ s := List.drop_eq_nil_iff.1 hd
   have e0 : (Utf8.decode ⟨#[]⟩ 0).2 = 1 := by decide
   rw [show (ByteArray.mk ([] : List UInt8).toArray) = ⟨#[]⟩ from rfl, e0] at he
   omega
  | cons f t =>
   rw [hd] at he
   by_cases hf : f.toNat < 128
   ·rw [bO9 _ (by rw [OU]; exact hf)] at he
    have hl := congrArg List.length hd
    rw [List.length_drop] at hl
    simp only [List.length_cons] at hl
    have ht : t = [] := List.eq_nil_of_length_eq_zero (by omega)
    subst ht
    have hs : s = l.length := by simp at he; omega
    subst hs
    rw [List.drop_left] at hd
    cases hd
    omega
   ·exact aC2 _ (by rw [OU]; omega)
 ·show 128 ≤ Utf8.runeError; decide
def Alike (a b : Int) : Prop := a = b ∨ (128 ≤ a ∧ 128 ≤ b)
theorem bZ6 {a : Int} (h : 128 ≤ a) : fG a = false ∧ gC a = false ∧ brk a = false := by
 refine ⟨?_, ?_, ?_⟩
 ·unfold fG; rw [decide_eq_false]; omega
 ·unfold gC; rw [decide_eq_false]; omega
 ·unfold brk; rw [decide_eq_false]; omega
theorem Alike.cls {a b : Int} (h : Alike a b) : fG a = fG b ∧ gC a = gC b ∧ brk a = brk b := by
 rcases h with rfl | ⟨h1, h2⟩
 ·exact ⟨rfl, rfl, rfl⟩
 ·have k1 := bZ6 h1
  have k2 := bZ6 h2
  exact ⟨k1.1.trans k2.1.symm, k1.2.1.trans k2.2.1.symm, k1.2.2.trans k2.2.2.symm⟩
theorem uL {e : Bool} {a b a' b' : Int} (h : Alike a a') (k : Alike b b') : kI e a b = kI e a' b' := by
 unfold kI
 rw [h.cls.1, h.cls.2.1, h.cls.2.2, k.cls.1, k.cls.2.1, k.cls.2.2]
theorem oO (r : Int) (h : 128 ≤ r) : ∃ f t, bl (Utf8.encode r) = f :: t ∧ 192 ≤ f.toNat ∧ t ≠ [] ∧ ∀ b ∈ t, fW b := by
 have tn : ∀ n : Nat, n < 256 → (UInt8.ofNat n).toNat = n := fun n h => by rw [UInt8.toNat_ofNat']; omega
 have hc : (if Utf8.valid r then r.toNat else Utf8.runeError) < 1114112 ∧ 128 ≤ (if Utf8.valid r then r.toNat else Utf8.runeError) := by
  split
  ·rename_i h
   unfold Utf8.valid at h
   simp at h
   omega
  ·decide
 unfold Utf8.encode
 simp only
 generalize (if Utf8.valid r then r.toNat else Utf8.runeError) = n at hc ⊢
 rw [if_neg (by omega)]
 by_cases h2 : n < 0x800
 ·rw [if_pos h2]
  refine ⟨UInt8.ofNat (0xC0 + n / 64), [UInt8.ofNat (0x80 + n % 64)], rfl, by rw [tn _ (by omega)]; omega, by simp, ?_⟩
  intro b hb
  simp only [List.mem_cons, List.not_mem_nil, or_false] at hb
  subst hb
  unfold fW; rw [tn _ (by omega)]; omega
 ·rw [if_neg h2]
  by_cases h3 : n < 0x10000
  ·rw [if_pos h3]
   refine ⟨UInt8.ofNat (0xE0 + n / 4096), [UInt8.ofNat (0x80 + n / 64 % 64), UInt8.ofNat (0x80 + n % 64)], rfl, by rw [tn _ (by omega)]; omega, by simp, ?_⟩
   intro b hb
   simp only [List.mem_cons, List.not_mem_nil, or_false] at hb
   rcases hb with rfl | rfl <;> (unfold fW; rw [tn _ (by omega)]; omega)
  ·rw [if_neg h3]
   refine ⟨UInt8.ofNat (0xF0 + n / 262144), [UInt8.ofNat (0x80 + n / 4096 % 64), UInt8.ofNat (0x80 + n / 64 % 64), UInt8.ofNat (0x80 + n % 64)], rfl, by rw [tn _ (by omega)]; omega, by simp, ?_⟩
   intro b hb
   simp only [List.mem_cons, List.not_mem_nil, or_false] at hb
   rcases hb with rfl | rfl | rfl <;> (unfold fW; rw [tn _ (by omega)]; omega)
theorem gR (z : ByteArray) : aD z = (bl z).map fun b => (b.toNat : Int) := rfl
theorem iV {x : List Int} : aD (enc x) = [] ↔ x = [] := by
 rw [← List.length_eq_zero_iff, aK, enc_size_zero]
theorem WQ {b : Int} (hb : Utf8.valid b = true) (y : List Int) : ∃ f t, aD (enc (b :: y)) = f :: t ∧ Alike f b := by
 have h0 := fD hb
 rw [gR, cW]
 by_cases h : b < 128
 ·have e := mV (b := b) ⟨h0.1, h⟩
  rw [gR] at e
  rw [List.map_append, e]
  exact ⟨b, _, rfl, .inl rfl⟩
 ·obtain ⟨f, t, e, hf, _, _⟩ := oO b (by omega)
  rw [e]
  exact ⟨(f.toNat : Int), _, rfl, .inr ⟨by omega, by omega⟩⟩
theorem YX {a : Int} (ha : Utf8.valid a = true) (u : List Int) : ∃ t l, aD (enc (u ++ [a])) = t ++ [l] ∧ Alike l a := by
 have h0 := fD ha
 rw [aX, bE]
 have e0 : aD (enc [a]) = aD (Utf8.encode a) := by
  rw [gR, cW, AC]; simp [gR, bl]
 rw [e0]
 by_cases h : a < 128
 ·rw [mV (b := a) ⟨h0.1, h⟩]
  exact ⟨_, a, rfl, .inl rfl⟩
 ·obtain ⟨f, t, e, hf, ht, hi⟩ := oO a (by omega)
  rw [gR (Utf8.encode a), e]
  rcases List.eq_nil_or_concat t with g | ⟨t', l, g⟩
  ·exact absurd g ht
  ·rw [List.concat_eq_append] at g
   subst g
   have := hi l (by simp)
   unfold fW at this
   refine ⟨aD (enc u) ++ (f :: t').map fun b => (b.toNat : Int), (l.toNat : Int), by simp, .inr ⟨by omega, by omega⟩⟩
theorem uZ {y x : List Int} (hy : Asc y) (hx : Valids x) : y <:+ aD (enc x) ↔ y <:+ x := by
 constructor
 ·rintro ⟨t, ht⟩
  have h1 : ∀ b ∈ t, 0 ≤ b ∧ b < 256 := fun b hb => sB (z := enc x) b (by rw [← ht]; simp [hb])
  have h2 : enc x = strOfNums t ++ enc y := by
   apply cM
   rw [bE, iB h1, jU hy, ht]
  obtain ⟨c, hc, _⟩ := vH hx hy.valids h2
  exact ⟨c, hc.symm⟩
 ·rintro ⟨c, rfl⟩
  rw [aX, bE, jU hy]
  exact ⟨_, rfl⟩
theorem asc_nn : Asc [10, 10] := by intro b hb; simp at hb; omega
theorem asc_nrn : Asc [10, 13, 10] := by intro b hb; simp at hb; omega
theorem uY {x : List Int} (hx : Valids x) : kC (aD (enc x)) = kC x := by
 unfold kC
 simp only [uZ asc_nn hx, uZ asc_nrn hx]
theorem fZ {x y : List Int} (hx : Valids x) (hy : Valids y) : cN (aD (enc x)) (aD (enc y)) = cN x y := by
 unfold cN
 rw [uY hx, uY hy]
 by_cases h : x = [] ∨ y = []
 ·rw [if_pos h, if_pos (by rw [iV, iV]; exact h)]
 ·rw [if_neg h, if_neg (by rw [iV, iV]; exact h)]
  rcases List.eq_nil_or_concat x with g | ⟨u, a, g⟩
  ·exact absurd (.inl g) h
  ·rw [List.concat_eq_append] at g
   match y, h with
   | [], h => exact absurd (.inr rfl) h
   | b :: y, _ =>
    obtain ⟨t, l, e1, h1⟩ := YX (a := a) (hx a (by rw [g]; simp)) u
    obtain ⟨f, t', e2, h2⟩ := WQ (b := b) (hy b (by simp)) y
    have k1 : (aD (enc x)).getLastD 0 = l := by rw [g, e1]; simp
    have k2 : (aD (enc (b :: y))).headD 0 = f := by rw [e2]; rfl
    have k3 : x.getLastD 0 = a := by rw [g]; simp
    rw [k1, k2, k3, show (b :: y).headD 0 = b from rfl, h1.cls.2.2, h2.cls.2.2]
    exact uL h1 h2
theorem A9 {x y : List Int} (hx : x ≠ []) (hy : y ≠ []) (h1 : 128 ≤ x.getLastD 0) (h2 : 128 ≤ y.headD 0) : cN x y = 1 := by
 unfold cN
 rw [if_neg (by rintro (h | h) <;> contradiction), (bZ6 h1).2.2, (bZ6 h2).2.2]
 exact YL h1 h2
theorem X8 {x y : List Int} (h1 : 128 ≤ x.getLastD 0) : 1 ≤ cN x y := by
 unfold cN
 split
 ·omega
 ·exact QC (fun _ => by omega) h1
theorem RY (n : Nat) (c : Int) : g84 n c = some (!fG c, ()) := by
 dsimp only [g84, bJ9, fG]
 by_cases h1 : 97 ≤ c <;> by_cases h2 : c ≤ 122 <;> by_cases h3 : 65 ≤ c <;> by_cases h4 : c ≤ 90 <;> by_cases h5 : 48 ≤ c <;> by_cases h6 : c ≤ 57 <;> first | omega | (simp [h1, h2, h3, h4, h5, h6]; done) | (simp [h1, h2, h3, h4, h5, h6]; omega)
theorem aH2 (n : Nat) (c : Int) : g85 n c = some (gC c, ()) := by
 dsimp only [g85, aW2, gC]
 have e : ∀ k : Int, ¬ c = k → (c == k) = false := fun k h => beq_false_of_ne h
 by_cases h1 : c = 32
 ·subst h1; rfl
 by_cases h2 : c = 9
 ·subst h2; rfl
 by_cases h3 : c = 10
 ·subst h3; rfl
 by_cases h4 : c = 13
 ·subst h4; rfl
 by_cases h5 : c = 12
 ·subst h5; rfl
 simp [e _ h1, e _ h2, e _ h3, e _ h4, e _ h5, h1, h2, h3, h4, h5]
theorem dG2 (n : Nat) (c : Int) : g86 n c = some (brk c, ()) := by
 dsimp only [g86, bO2, brk]
 have e : ∀ k : Int, ¬ c = k → (c == k) = false := fun k h => beq_false_of_ne h
 by_cases h3 : c = 10
 ·subst h3; rfl
 by_cases h4 : c = 13
 ·subst h4; rfl
 simp [e _ h3, e _ h4, h3, h4]
theorem GV {c : Int} (h : brk c = true) : gC c = true := by
 unfold brk at h; unfold gC; simp at h ⊢; omega
theorem tK {c : Int} (h : gC c = true) : fG c = false := by
 unfold gC at h; unfold fG; simp at h ⊢; omega
theorem EO {X : ByteArray} {y : List Int} (hy : Asc y) : (∃ u, X = u ++ enc y) ↔ y <:+ aD X := by
 constructor
 ·rintro ⟨u, rfl⟩
  rw [bE, jU hy]
  exact ⟨_, rfl⟩
 ·rintro ⟨t, ht⟩
  have h1 : ∀ b ∈ t, 0 ≤ b ∧ b < 256 := fun b hb => sB (z := X) b (by rw [← ht]; simp [hb])
  refine ⟨strOfNums t, ?_⟩
  apply cM
  rw [bE, iB h1, jU hy, ht]
theorem Q0 : enc [10, 10] = (⟨#[10, 10]⟩ : ByteArray) := by rw [← asc_nn.eq]; rfl
theorem GH : enc [10, 13, 10] = (⟨#[10, 13, 10]⟩ : ByteArray) := by rw [← asc_nrn.eq]; rfl
theorem mQ (n : Nat) (X : ByteArray) (hl : X.size ≤ 1000000000000) : g87 n X = some (kC (aD X), ()) := by
 dsimp only [g87, bC1]
 rw [← Q0, ← GH, lY n _ _ hl (by rw [Q0]; decide), lY n _ _ hl (by rw [GH]; decide)]
 unfold kC
 have e1 : (∃ u, X = u ++ enc [10, 10]) ↔ [10, 10] <:+ aD X := EO asc_nn
 have e2 : (∃ u, X = u ++ enc [10, 13, 10]) ↔ [10, 13, 10] <:+ aD X := EO asc_nrn
 by_cases h : [10, 10] <:+ aD X <;> by_cases h2 : [10, 13, 10] <:+ aD X <;> simp [h, h2, e1, e2]
theorem bG2 (n : Nat) {X : ByteArray} {t : List Int} {l : Int} (hX : aD X = t ++ [l]) (hs : X.size ≤ 1000000000000) : ∃ r k, g83 n X = some (r, (k, ())) ∧ Alike r l := by
 unfold g83
 rw [if_pos (by omega)]
 refine ⟨_, _, rfl, ?_⟩
 rw [gR] at hX
 obtain ⟨u, v, e, h1, h2⟩ := List.map_eq_append_iff.1 hX
 obtain ⟨b, r, e2, h3, h4⟩ := List.map_eq_cons_iff.1 h2
 have hr : r = [] := List.map_eq_nil_iff.1 h4
 subst hr
 subst e2
 unfold bl at e
 rw [e]
 by_cases hb : b.toNat < 128
 ·rw [Lib.decodeLastL_ascii u b hb]; exact .inl h3
 ·have := cI5 u b (by omega)
  exact .inr ⟨by omega, by omega⟩
theorem NS {Y : ByteArray} {b : UInt8} {r : List UInt8} (h : bl Y = b :: r) : Y.get! 0 = b := by
 obtain ⟨⟨l⟩⟩ := Y
 unfold bl at h
 simp only at h
 subst h
 rfl
theorem aN9 (n : Nat) {Y : ByteArray} {t : List Int} {f : Int} (hY : aD Y = f :: t) : ∃ r k, g70 n Y = some (r, (k, ())) ∧ Alike r f := by
 unfold g70 Lib.decodeGo
 have hs : Y.size ≠ 0 := by rw [← aK, hY]; simp
 rw [if_neg hs]
 refine ⟨_, _, rfl, ?_⟩
 rw [gR] at hY
 obtain ⟨b, r, e2, h3, h4⟩ := List.map_eq_cons_iff.1 hY
 have hg := NS e2
 by_cases hb : b.toNat < 128
 ·rw [bO9 Y (by rw [hg]; exact hb), hg]; exact .inl h3
 ·have := aC2 Y (by rw [hg]; omega)
  exact .inr ⟨by omega, by omega⟩
theorem qH (n : Nat) (X Y : ByteArray) (hl : X.size ≤ 1000000000000) (hl2 : Y.size ≤ 1000000000000) : g69 n X Y = some (cN (aD X) (aD Y), ()) := by
 dsimp only [g69, N5, aI4, bZ0, bS5, aA5, aL1, bC6, aT0]
 have lx := aK X
 have ly := aK Y
 rcases List.eq_nil_or_concat (aD X) with g | ⟨u, a, g⟩
 ·rw [g] at lx
  rw [biT (by rw [beq_iff_eq]; simp only [List.length_nil] at lx; omega)]
  simp [cN, g]
 ·rw [List.concat_eq_append] at g
  cases gy : aD Y with
  | nil =>
   rw [gy] at ly
   rw [g] at lx
   simp only [List.length_append, List.length_cons, List.length_nil] at lx ly
   rw [biF (by rw [beq_eq_false_iff_ne]; omega), biT (by rw [beq_iff_eq]; omega)]
   simp [cN]
  | cons b v =>
   rw [gy] at ly
   rw [g] at lx
   simp only [List.length_append, List.length_cons, List.length_nil] at lx ly
   rw [biF (by rw [beq_eq_false_iff_ne]; omega), biF (by rw [beq_eq_false_iff_ne]; omega)]
   obtain ⟨r1, k1, d1, h1⟩ := bG2 n g hl
   obtain ⟨r2, k2, d2, h2⟩ := aN9 n gy
   rw [d1, d2]
   have e5 : cN (u ++ [a]) (b :: v) = kI ((brk r1 && kC (aD X)) || (brk r2 && kC (aD Y))) r1 r2 := by
    have c1 : (u ++ [a]).getLastD 0 = a := by simp
    unfold cN
    rw [if_neg (by simp), c1, show (b :: v).headD 0 = b from rfl, h1.cls.2.2, h2.cls.2.2, g, gy]
    exact (uL h1 h2).symm
   rw [g, e5]
   simp only [Option.bind_some, RY, aH2, dG2, mQ n X hl, mQ n Y hl2]
   unfold kI
   have c1 := @GV r1
   have c2 := @GV r2
   have c3 := @tK r1
   have c4 := @tK r2
   cases h1 : fG r1 <;> cases h2 : gC r1 <;> cases h3 : brk r1 <;> cases h5 : fG r2 <;> cases h6 : gC r2 <;> cases h7 : brk r2 <;> first | rfl | (cases hX : kC (aD X) <;> cases hY : kC (aD Y) <;> first | rfl | simp_all)
theorem jR (x y : List Int) : 0 ≤ cN x y ∧ cN x y ≤ 6 := by
 unfold cN kI
 repeat' split
 all_goals omega
theorem baa (x y z : ByteArray) : x ++ y ++ z = x ++ (y ++ z) := ByteArray.append_assoc
theorem aR6 (n : Nat) (v : ByteArray) : g70 n v = some (((Lib.decodeGo v).1 : Int), (((Lib.decodeGo v).2 : Int), ())) := rfl
section
variable {β : Type} (n : Nat) (kx2 : (Int × Int × Int × Nat × Int × Int × Nat) → List (Int × ByteArray) → Int → ByteArray → ByteArray → ByteArray → Option β)
theorem HD (m : Nat) (p0) (x1 : List (Int × ByteArray)) (v5 : Int) (A S B e X Y Z : ByteArray) (best : Int) (he : (Lib.decodeGo (e ++ S)).2 = e.size) (h1 : 1 ≤ e.size) (hA : A.size ≤ 100000000000) (hS : (e ++ S).size ≤ 100000000000) (hB : (e ++ B).size ≤ 100000000000) :
  g56_7L n kx2 (m + 1) p0 x1 v5 A (e ++ S) (e ++ B) X Y Z best =
   if best ≤ cN (aD (A ++ e)) (aD (S ++ e)) + cN (aD (S ++ e)) (aD B) then g56_7L n kx2 m p0 x1 v5 (A ++ e) (S ++ e) B (A ++ e) (S ++ e) B (cN (aD (A ++ e)) (aD (S ++ e)) + cN (aD (S ++ e)) (aD B))
   else g56_7L n kx2 m p0 x1 v5 (A ++ e) (S ++ e) B X Y Z best := by
 have s1 := size_append e S
 have s2 := size_append e B
 have s3 := size_append A e
 have s4 := size_append S e
 have r1 := jR (aD (A ++ e)) (aD (S ++ e))
 have r2 := jR (aD (S ++ e)) (aD B)
 have c1 : bD (e ++ S) 0 (e.size : Int) = e := cL e S
 have c2 : bD (e ++ B) 0 (e.size : Int) = e := cL e B
 have c3 : bD (e ++ S) (e.size : Int) ((e ++ S).size : Int) = S := dD e S
 have c4 : bD (e ++ B) (e.size : Int) ((e ++ B).size : Int) = B := dD e B
 rw [g56_7L.eq_2, R6]
 rw [biT (by rw [bne_iff_ne]; omega), biT (by rw [bne_iff_ne]; omega), aR6, Option.bind_some]
 simp only [he, c1, c2, c3, c4]
 rw [bdF (by omega), aW (by omega) (by omega) (by omega), aW (by omega) (by omega) (by omega), biF (by rw [eV]; simp), aW (by omega) (by omega) (by omega), bX (by omega), aW (by omega) (by omega) (by omega), aW (by omega) (by omega) (by omega), bX (by omega), aW (by omega) (by omega) (by omega)]
 rw [qH n _ _ (by omega) (by omega), Option.bind_some, qH n _ _ (by omega) (by omega), Option.bind_some]
 simp only
 rw [aF (by omega) (by omega)]
 split
 ·rename_i h; rw [bdT h]
 ·rename_i h; rw [bdF h]
theorem wO (m : Nat) (p0) (x1 : List (Int × ByteArray)) (v5 : Int) (A S B X Y Z : ByteArray) (best : Int) (h : S.size = 0 ∨ B.size = 0 ∨ ((Lib.decodeGo S).2 ≤ S.size ∧ (B.size < (Lib.decodeGo S).2 ∨ bD S 0 ((Lib.decodeGo S).2 : Int) ≠ bD B 0 ((Lib.decodeGo S).2 : Int)))) :
  g56_7L n kx2 (m + 1) p0 x1 v5 A S B X Y Z best = kx2 p0 x1 v5 X Y Z := by
 rw [g56_7L.eq_2, R6]
 by_cases h1 : S.size = 0
 ·rw [biF (by rw [bne_eq_false_iff_eq]; omega)]
 ·rw [biT (by rw [bne_iff_ne]; omega)]
  by_cases h2 : B.size = 0
  ·rw [biF (by rw [bne_eq_false_iff_eq]; omega)]
  ·rw [biT (by rw [bne_iff_ne]; omega), aR6, Option.bind_some]
   simp only
   obtain ⟨hw, h⟩ := (h.resolve_left h1).resolve_left h2
   by_cases h3 : B.size < (Lib.decodeGo S).2
   ·rw [bdT (by omega)]
   ·rw [bdF (by omega), aW (by omega) (by omega) (by omega), aW (by omega) (by omega) (by omega), biT (by rw [eV]; simp; exact h.resolve_left h3)]
theorem cD2 (p0) (x1 : List (Int × ByteArray)) (v5 : Int) : ∀ (k : Nat) (a s b : List Int) (X : Tri) (best : Int) (m : Nat), b.length = k → k < m → Valids a → Valids s → Valids b → (enc a).size + (enc s).size + (enc b).size ≤ 100000000000 →
  g56_7L n kx2 m p0 x1 v5 (enc a) (enc s) (enc b) (enc X.1) (enc X.2.1) (enc X.2.2) best = kx2 p0 x1 v5 (enc (kV a s b X best).1) (enc (kV a s b X best).2.1) (enc (kV a s b X best).2.2) := by
 intro k
 induction k with
 | zero =>
  intro a s b X best m hb hm _ _ _ _
  obtain ⟨m, rfl⟩ : ∃ m', m = m' + 1 := ⟨m - 1, by omega⟩
  have := List.eq_nil_of_length_eq_zero hb
  subst this
  rw [wO n kx2 m p0 x1 v5 _ _ _ _ _ _ best (.inr (.inl rfl))]
  cases s <;> simp only [kV]
 | succ k ih =>
  intro a s b X best m hb hm va vs vb hsz
  obtain ⟨m, rfl⟩ : ∃ m', m = m' + 1 := ⟨m - 1, by omega⟩
  match s, b, hb, vs, vb, hsz with
  | [], d :: b, hb, vs, vb, hsz =>
   rw [wO n kx2 m p0 x1 v5 _ _ _ _ _ _ best (.inl rfl)]
   simp only [kV]
  | c :: s, d :: b, hb, vs, vb, hsz =>
   have hc := vs.cons.1
   have hd := vb.cons.1
   have dc := jI c s ByteArray.empty hc
   rw [ByteArray.append_empty] at dc
   have e1 : enc (c :: s) = enc [c] ++ enc s := aX [c] s
   have e2 : enc (d :: b) = enc [d] ++ enc b := aX [d] b
   have ec : (enc [c]).size = (Utf8.encode c).size := by rw [dL]; rfl
   have pc := iQ c
   have hgo : Lib.decodeGo (enc (c :: s)) = (c.toNat, (Utf8.encode c).size) := by
    unfold Lib.decodeGo
    rw [if_neg (by rw [dL]; omega), dc]
   have z1 := dL c s
   have z2 := dL d b
   by_cases hcd : c = d
   ·subst hcd
    have q1 : enc a ++ enc [c] = enc (a ++ [c]) := (aX a [c]).symm
    have q2 : enc s ++ enc [c] = enc (s ++ [c]) := (aX s [c]).symm
    have wa : Valids (a ++ [c]) := va.append fun x hx => by rw [List.mem_singleton.1 hx]; exact hc
    have ws : Valids (s ++ [c]) := vs.cons.2.append fun x hx => by rw [List.mem_singleton.1 hx]; exact hc
    have y1 := dZ a [c]
    have y2 := dZ s [c]
    rw [e1, e2, HD n kx2 m p0 x1 v5 _ _ _ _ _ _ _ best (by rw [← e1, hgo, ec]) (by omega) (by omega) (by rw [← e1]; omega) (by rw [← e2]; omega), q1, q2, fZ wa ws, fZ ws vb.cons.2]
    rw [kV, if_pos rfl]
    split
    ·exact ih (a ++ [c]) (s ++ [c]) b (a ++ [c], s ++ [c], b) _ m (by simpa using hb) (by omega) wa ws vb.cons.2 (by omega)
    ·exact ih (a ++ [c]) (s ++ [c]) b X best m (by simpa using hb) (by omega) wa ws vb.cons.2 (by omega)
   ·rw [kV, if_neg hcd, wO n kx2 m p0 x1 v5 _ _ _ _ _ _ best]
    right; right
    rw [hgo]
    refine ⟨by show (Utf8.encode c).size ≤ _; omega, ?_⟩
    by_cases hlt : (enc (d :: b)).size < (Utf8.encode c).size
    ·exact .inl hlt
    ·right
     intro heq
     have k1 : bD (enc (c :: s)) 0 ((Utf8.encode c).size : Int) = enc [c] := by rw [e1, ← ec]; exact cL _ _
     rw [k1] at heq
     have k2 : enc (d :: b) = enc [c] ++ bD (enc (d :: b)) ((Utf8.encode c).size : Int) ((enc (d :: b)).size : Int) := by
      rw [heq]
      apply cM
      rw [bE, bM, bM, cH, dY _ _ _ (by rw [aK]; omega), List.take_append_drop]
     have dd := jI d b ByteArray.empty hd
     rw [ByteArray.append_empty, k2] at dd
     have dc2 := jI c [] (bD (enc (d :: b)) ((Utf8.encode c).size : Int) ((enc (d :: b)).size : Int)) hc
     rw [dd] at dc2
     have := congrArg Prod.fst dc2
     have h1 := fD hc
     have h2 := fD hd
     simp only at this
     omega
end
def LastHi (X : ByteArray) : Prop := ∃ t l, aD X = t ++ [l] ∧ 128 ≤ l
def FirstHi (X : ByteArray) : Prop := ∃ t l, aD X = l :: t ∧ 128 ≤ l
theorem LastHi.append {X : ByteArray} (Y : ByteArray) (h : LastHi X) : LastHi (Y ++ X) := by
 obtain ⟨t, l, e, hl⟩ := h
 exact ⟨aD Y ++ t, l, by rw [bE, e, List.append_assoc], hl⟩
theorem FirstHi.append {X : ByteArray} (Y : ByteArray) (h : FirstHi X) : FirstHi (X ++ Y) := by
 obtain ⟨t, l, e, hl⟩ := h
 exact ⟨t ++ aD Y, l, by rw [bE, e]; rfl, hl⟩
theorem pR {X Y : ByteArray} (h : LastHi X) (k : FirstHi Y) : cN (aD X) (aD Y) = 1 := by
 obtain ⟨t, l, e, hl⟩ := h
 obtain ⟨t', f, e', hf⟩ := k
 rw [e, e']
 exact A9 (by simp) (by simp) (by simpa using hl) (by simpa using hf)
theorem HH {X Y : ByteArray} (h : LastHi X) : 1 ≤ cN (aD X) (aD Y) := by
 obtain ⟨t, l, e, hl⟩ := h
 rw [e]
 exact X8 (by simpa using hl)
def mkB (l : List UInt8) : ByteArray := ⟨l.toArray⟩
theorem aM2 (b : UInt8) (l : List UInt8) : mkB (b :: l) = mkB [b] ++ mkB l := by
 apply jL; simp [mkB, ByteArray.data_append]
theorem HU (l : List UInt8) : aD (mkB l) = l.map fun b => (b.toNat : Int) := rfl
theorem mK (l : List UInt8) : (mkB l).size = l.length := by rw [← aK, HU, List.length_map]
section
variable {β : Type} (n : Nat) (kx2 : (Int × Int × Int × Nat × Int × Int × Nat) → List (Int × ByteArray) → Int → ByteArray → ByteArray → ByteArray → Option β)
theorem OY (m : Nat) (p0) (x1 : List (Int × ByteArray)) (v5 : Int) : ∀ (l : List UInt8) (A S B X Y Z : ByteArray), l ≠ [] → (∀ b ∈ l, fW b) → LastHi A → LastHi S → A.size + 2 * (mkB l).size + S.size + B.size ≤ 10000000000 →
  g56_7L n kx2 (l.length + m) p0 x1 v5 A (mkB l ++ S) (mkB l ++ B) X Y Z 2 = g56_7L n kx2 m p0 x1 v5 (A ++ mkB l) (S ++ mkB l) B (A ++ mkB l) (S ++ mkB l) B (cN (aD (A ++ mkB l)) (aD (S ++ mkB l)) + cN (aD (S ++ mkB l)) (aD B))
 | [], A, S, B, X, Y, Z, h, _, _, _, _ => absurd rfl h
 | b :: l, A, S, B, X, Y, Z, _, hi, hA, hS, hsz => by
  have hb := hi b (by simp)
  have hbl : LastHi (mkB [b]) := ⟨[], (b.toNat : Int), rfl, by unfold fW at hb; omega⟩
  have hgo : (Lib.decodeGo (mkB [b] ++ (mkB l ++ S))).2 = (mkB [b]).size := by
   unfold Lib.decodeGo
   have hne : (mkB [b] ++ (mkB l ++ S)).size ≠ 0 := by rw [size_append, mK]; simp
   have hg : (mkB [b] ++ (mkB l ++ S)).get! 0 = b := by
    have : bl (mkB [b] ++ (mkB l ++ S)) = b :: bl (mkB l ++ S) := by rw [dJ]; rfl
    exact NS this
   rw [if_neg hne, U0 _ (by rw [hg]; exact hb)]
   rfl
  have s1 := mK (b :: l)
  have s2 := mK l
  have s3 : (mkB [b]).size = 1 := rfl
  have s4 := size_append (mkB l) S
  have s5 := size_append (mkB l) B
  have s6 := size_append (mkB [b]) (mkB l ++ S)
  have s7 := size_append (mkB [b]) (mkB l ++ B)
  simp only [List.length_cons] at s1 ⊢
  rw [aM2 b l, baa, baa, show l.length + 1 + m = (l.length + m) + 1 by omega, HD n kx2 (l.length + m) p0 x1 v5 A (mkB l ++ S) (mkB l ++ B) (mkB [b]) X Y Z 2 hgo (by omega) (by omega) (by omega) (by omega)]
  have k1 : LastHi (A ++ mkB [b]) := hbl.append A
  have k2 : LastHi (S ++ mkB [b]) := hbl.append S
  by_cases hl : l = []
  ·subst hl
   have z : mkB [] = (⟨#[]⟩ : ByteArray) := rfl
   have e1 : ∀ Q : ByteArray, mkB [] ++ Q = Q := fun Q => by apply jL; rw [z, ByteArray.data_append]; simp
   have e2 : ∀ Q : ByteArray, Q ++ mkB [] = Q := fun Q => by apply jL; rw [z, ByteArray.data_append]; simp
   simp only [e1, e2]
   have g1 := HH (Y := S ++ mkB [b]) k1
   have g2 := HH (Y := B) k2
   rw [if_pos (by omega)]
   simp
  ·obtain ⟨c, l', e⟩ := List.exists_cons_of_ne_nil hl
   have hc : FirstHi (mkB l) := by
    subst e
    have := hi c (by simp)
    unfold fW at this
    exact ⟨l'.map fun b => (b.toNat : Int), (c.toNat : Int), rfl, by omega⟩
   have g1 : cN (aD (A ++ mkB [b])) (aD (mkB l ++ S ++ mkB [b])) = 1 := pR k1 ((hc.append S).append _)
   have g2 : cN (aD (mkB l ++ S ++ mkB [b])) (aD (mkB l ++ B)) = 1 := pR (hbl.append _) (hc.append B)
   rw [g1, g2, if_pos (by omega)]
   have := OY m p0 x1 v5 l (A ++ mkB [b]) (S ++ mkB [b]) B (A ++ mkB [b]) (mkB l ++ S ++ mkB [b]) (mkB l ++ B) hl (fun b hb => hi b (by simp [hb])) k1 k2 (by rw [size_append, size_append]; omega)
   rw [baa (mkB l) S (mkB [b]), show (1 : Int) + 1 = 2 from rfl]
   rw [baa (mkB l) S (mkB [b])] at this
   rw [this, baa A, baa S]
end
theorem rP (q : List Int) : ∀ (r : List Int) (k : Nat), k ≤ (enc r.reverse).size → dX (r ++ q) k = dX r k
 | [], k, h => by
  have hk : k = 0 := by have : (enc []).size = 0 := rfl; simp at h; omega
  subst hk
  cases q with
  | nil => rfl
  | cons c q => have := iQ c; simp only [List.nil_append]; rw [show dX [] 0 = 0 from rfl, dX, if_neg (by omega)]
 | c :: r, k, h => by
  rw [List.reverse_cons, dZ, dL] at h
  have h0 : (enc []).size = 0 := rfl
  rw [List.cons_append, dX, dX]
  split
  ·rw [rP q r _ (by omega)]
  ·rfl
theorem CX : ∀ (r : List Int) (k : Nat), Valids r → k ≤ (enc r.reverse).size → ∃ (l : List UInt8) (U : ByteArray), enc r.reverse = U ++ (mkB l ++ enc (r.reverse.drop (r.length - dX r k))) ∧ (mkB l ++ enc (r.reverse.drop (r.length - dX r k))).size = k ∧ (∀ b ∈ l, fW b) ∧
      U ++ mkB l = enc (r.reverse.take (r.length - dX r k)) ∧ (l ≠ [] → LastHi U)
  | [], k, _, h => by
    have hk : k = 0 := by have : (enc []).size = 0 := rfl; simp at h; omega
    subst hk
    exact ⟨[], enc [], rfl, rfl, by simp, rfl, by simp⟩
  | c :: r, k, hv, h => by
    have hr := hv.cons.2
    have h0 : (enc []).size = 0 := rfl
    have e1 : enc (c :: r).reverse = enc r.reverse ++ enc [c] := by rw [List.reverse_cons, aX]
    have ec : (enc [c]).size = (Utf8.encode c).size := by rw [dL]; rfl
    rw [dX]
    by_cases hk : (Utf8.encode c).size ≤ k
    · rw [if_pos hk]
      have h' : k - (Utf8.encode c).size ≤ (enc r.reverse).size := by rw [e1, size_append] at h; omega
      obtain ⟨l, U, q1, q2, q3, q4, q5⟩ := CX r _ hr h'
      have hj := wI r (k - (Utf8.encode c).size)
      generalize dX r (k - (Utf8.encode c).size) = j at *
      have e2 : (c :: r).length - (1 + j) = r.length - j := by simp only [List.length_cons]; omega
      have e3 : (c :: r).reverse.drop ((c :: r).length - (1 + j)) = r.reverse.drop (r.length - j) ++ [c] := by
        rw [e2, List.reverse_cons, List.drop_append_of_le_length (by simp)]
      have e4 : (c :: r).reverse.take ((c :: r).length - (1 + j)) = r.reverse.take (r.length - j) := by
        rw [e2, List.reverse_cons, List.take_append_of_le_length (by simp)]
      refine ⟨l, U, ?_, ?_, q3, ?_, q5⟩
      · rw [e3, e1, aX, q1]; simp only [baa]
      · rw [e3, aX, ← baa, size_append, q2, ec]; omega
      · rw [e4]; exact q4
    · rw [if_neg hk]
      simp only [Nat.sub_zero]
      have e3 : (c :: r).reverse.drop (c :: r).length = [] := List.drop_of_length_le (by simp)
      have e4 : (c :: r).reverse.take (c :: r).length = (c :: r).reverse := List.take_of_length_le (by simp)
      rw [e3, e4, e1]
      have en : ∀ Q : ByteArray, Q ++ enc [] = Q := fun Q => by apply jL; rw [AC, ByteArray.data_append]; simp
      simp only [en]
      by_cases hk0 : k = 0
      · subst hk0
        have z : mkB [] = (⟨#[]⟩ : ByteArray) := rfl
        have e0 : ∀ Q : ByteArray, Q ++ mkB [] = Q := fun Q => by apply jL; rw [z, ByteArray.data_append]; simp
        exact ⟨[], enc r.reverse ++ enc [c], by rw [e0], rfl, by simp, by rw [e0], by simp⟩
      ·
        have hc : 128 ≤ c := by
          by_cases hlt : c < 128
          · exfalso
            have h1 := fD hv.cons.1
            have := mV (b := c) ⟨h1.1, hlt⟩
            have h2 := aK (Utf8.encode c)
            rw [this] at h2
            simp at h2
            omega
          · omega
        obtain ⟨f, t, g1, g2, g3, g4⟩ := oO c hc
        have hsz : (Utf8.encode c).size = t.length + 1 := by rw [← qY, g1]; rfl
        have hbl : bl (enc [c]) = f :: t := by rw [cW, g1, AC]; simp [bl]
        have hsp : enc [c] = mkB (f :: t.take (t.length - k)) ++ mkB (t.drop (t.length - k)) := by
          apply iO
          rw [hbl, dJ]
          show f :: t = (f :: t.take (t.length - k)) ++ t.drop (t.length - k)
          rw [List.cons_append, List.take_append_drop]
        refine ⟨t.drop (t.length - k), enc r.reverse ++ mkB (f :: t.take (t.length - k)), ?_, ?_, fun b hb => g4 b (List.mem_of_mem_drop hb), ?_, fun _ => ?_⟩
        · rw [baa, ← hsp]
        · rw [mK, List.length_drop]; omega
        · rw [baa, ← hsp]
        · refine LastHi.append _ ?_
          rcases List.eq_nil_or_concat (t.take (t.length - k)) with g | ⟨u, b, g⟩
          · rw [g]; exact ⟨[], (f.toNat : Int), rfl, by omega⟩
          · rw [List.concat_eq_append] at g
            rw [g]
            have hb := g4 b (List.mem_of_mem_take (by rw [g]; simp : b ∈ t.take (t.length - k)))
            unfold fW at hb
            exact ⟨(f :: u).map fun b => (b.toNat : Int), (b.toNat : Int), by rw [HU]; simp, by omega⟩
section
variable {β : Type} (n : Nat) (hn : Big ≤ n) (kx2 : (Int × Int × Int × Nat × Int × Int × Nat) → List (Int × ByteArray) → Int → ByteArray → ByteArray → ByteArray → Option β)
include hn
theorem aW1 (p0) (x1 : List (Int × ByteArray)) (v5 : Int) (a s b : List Int) (va : Valids a) (vs : Valids s) (vb : Valids b) (hla : a.length ≤ 100000000) (hls : s.length ≤ 100000000) (hlb : b.length ≤ 100000000) (A0 S0 B0 : ByteArray) (k : Nat) (hk : k = csl a s)
  (hA : enc a = A0 ++ bD (enc s) (((enc s).size : Int) - (k : Int)) ((enc s).size : Int)) (hS : S0 = bD (enc s) (((enc s).size : Int) - (k : Int)) ((enc s).size : Int) ++ bD (enc s) 0 (((enc s).size : Int) - (k : Int))) (hB : B0 = bD (enc s) (((enc s).size : Int) - (k : Int)) ((enc s).size : Int) ++ enc b) :
  O3 n (fun p0 x1 v5 v6 v7 v8 v11 v12 v13 v14 => G3 n kx2 p0 x1 v5 v6 v7 v8 v11 v12 v13 v14) p0 x1 v5 A0 S0 B0 = kx2 p0 x1 v5 (enc (fS a s b).1) (enc (fS a s b).2.1) (enc (fS a s b).2.2) := by
 have hB' : (4611686018427387904 : Nat) ≤ n := hn
 have l1 := dR a s
 have l2 := dC a s
 have et := pE a s
 rw [← hk] at l1 l2 et
 have ea : a = a.take (a.length - k) ++ a.drop (a.length - k) := (List.take_append_drop _ _).symm
 have es : s = s.take (s.length - k) ++ a.drop (a.length - k) := by rw [et]; exact (List.take_append_drop _ _).symm
 have lt : (a.drop (a.length - k)).length = k := by rw [List.length_drop]; omega
 have hst : jM a s b = (a.take (a.length - dX a.reverse k), a.drop (a.length - dX a.reverse k) ++ s.take (s.length - dX a.reverse k), a.drop (a.length - dX a.reverse k) ++ b) := by unfold jM; rw [← hk]
 have vt : Valids (a.drop (a.length - k)) := va.drop _
 have va' : Valids (a.take (a.length - k)) := va.take _
 have vs' : Valids (s.take (s.length - k)) := vs.take _
 have hjt : dX a.reverse k = dX (a.drop (a.length - k)).reverse k := by
  have : a.reverse = (a.drop (a.length - k)).reverse ++ (a.take (a.length - k)).reverse := by rw [← List.reverse_append, List.take_append_drop]
  rw [this]
  refine rP _ _ _ ?_
  rw [List.reverse_reverse]
  have := fP (a.drop (a.length - k))
  omega
 generalize ht : a.drop (a.length - k) = t at *
 generalize ha' : a.take (a.length - k) = a' at *
 generalize hs' : s.take (s.length - k) = s' at *
 have la' : a'.length + k = a.length := by rw [ea, List.length_append, lt]
 have ls' : s'.length + k = s.length := by rw [es, List.length_append, lt]
 have hkt : k ≤ (enc t.reverse.reverse).size := by rw [List.reverse_reverse]; have := fP t; omega
 obtain ⟨l, U, q1, q2, q3, q4, q5⟩ := CX t.reverse k (fun c hc => vt c (List.mem_reverse.1 hc)) hkt
 rw [List.reverse_reverse, List.length_reverse] at q1 q2 q4
 rw [← hjt] at q1 q2 q4
 have hj0 := wI t.reverse k
 rw [← hjt, List.length_reverse] at hj0
 generalize dX a.reverse k = j at *
 have c1 : a.take (a.length - j) = a' ++ t.take (t.length - j) := by rw [ea, List.take_append, List.take_of_length_le (by rw [List.length_append]; omega)]; congr 2; rw [List.length_append]; omega
 have c2 : a.drop (a.length - j) = t.drop (t.length - j) := by rw [ea, List.drop_append, List.drop_of_length_le (by rw [List.length_append]; omega), List.nil_append]; congr 1; rw [List.length_append]; omega
 have c3 : s.take (s.length - j) = s' ++ t.take (t.length - j) := by rw [es, List.take_append, List.take_of_length_le (by rw [List.length_append]; omega)]; congr 2; rw [List.length_append]; omega
 have hC : bD (enc s) (((enc s).size : Int) - (k : Int)) ((enc s).size : Int) = mkB l ++ enc (t.drop (t.length - j)) := by
  have e : enc s = (enc s' ++ U) ++ (mkB l ++ enc (t.drop (t.length - j))) := by rw [es, aX, q1]; simp only [baa]
  have hz := size_append (enc s' ++ U) (mkB l ++ enc (t.drop (t.length - j)))
  rw [q2] at hz
  rw [e, show (((enc s' ++ U) ++ (mkB l ++ enc (t.drop (t.length - j)))).size : Int) - (k : Int) = ((enc s' ++ U).size : Int) by omega]
  exact dD _ _
 have hC2 : bD (enc s) 0 (((enc s).size : Int) - (k : Int)) = enc s' ++ U := by
  have e : enc s = (enc s' ++ U) ++ (mkB l ++ enc (t.drop (t.length - j))) := by rw [es, aX, q1]; simp only [baa]
  have hz := size_append (enc s' ++ U) (mkB l ++ enc (t.drop (t.length - j)))
  rw [q2] at hz
  rw [e, show (((enc s' ++ U) ++ (mkB l ++ enc (t.drop (t.length - j)))).size : Int) - (k : Int) = ((enc s' ++ U).size : Int) by omega]
  exact cL _ _
 have hA0 : A0 = enc a' ++ U := by
  rw [hC] at hA
  have e : enc a = (enc a' ++ U) ++ (mkB l ++ enc (t.drop (t.length - j))) := by rw [ea, aX, q1]; simp only [baa]
  rw [e] at hA
  have := congrArg aD hA
  rw [bE, bE A0] at this
  exact (cM (List.append_cancel_right this)).symm
 rw [hC, hC2] at hS
 rw [hC] at hB
 subst hA0 hS hB
 have e1 := aP a
 have e2 := aP s
 have e3 := aP b
 have e4 : (enc a' ++ U).size + k = (enc a).size := by
  have e : enc a = (enc a' ++ U) ++ (mkB l ++ enc (t.drop (t.length - j))) := by rw [ea, aX, q1]; simp only [baa]
  rw [e, size_append _ (mkB l ++ _), q2]
 have e5 : (enc s' ++ U).size + k = (enc s).size := by
  have e : enc s = (enc s' ++ U) ++ (mkB l ++ enc (t.drop (t.length - j))) := by rw [es, aX, q1]; simp only [baa]
  rw [e, size_append _ (mkB l ++ _), q2]
 have e6 := size_append (mkB l) (enc (t.drop (t.length - j)))
 have vA : Valids (a.take (a.length - j)) := va.take _
 have vS : Valids (a.drop (a.length - j) ++ s.take (s.length - j)) := (va.drop _).append (vs.take _)
 have vB : Valids (a.drop (a.length - j) ++ b) := (va.drop _).append vb
 have last : ∀ m, (a.drop (a.length - j) ++ b).length < m → g56_7L n kx2 m p0 x1 v5 (enc (a.take (a.length - j))) (enc (a.drop (a.length - j) ++ s.take (s.length - j))) (enc (a.drop (a.length - j) ++ b)) (enc (a.take (a.length - j))) (enc (a.drop (a.length - j) ++ s.take (s.length - j))) (enc (a.drop (a.length - j) ++ b)) (cN (a.take (a.length - j)) (a.drop (a.length - j) ++ s.take (s.length - j)) + cN (a.drop (a.length - j) ++ s.take (s.length - j)) (a.drop (a.length - j) ++ b)) = kx2 p0 x1 v5 (enc (fS a s b).1) (enc (fS a s b).2.1) (enc (fS a s b).2.2) := by
  intro m hm
  have y1 := aP (a.take (a.length - j))
  have y2 := aP (a.drop (a.length - j) ++ s.take (s.length - j))
  have y3 := aP (a.drop (a.length - j) ++ b)
  simp only [List.length_append, List.length_take, List.length_drop] at y1 y2 y3
  have := cD2 n kx2 p0 x1 v5 _ (a.take (a.length - j)) (a.drop (a.length - j) ++ s.take (s.length - j)) (a.drop (a.length - j) ++ b) (a.take (a.length - j), a.drop (a.length - j) ++ s.take (s.length - j), a.drop (a.length - j) ++ b) (cN (a.take (a.length - j)) (a.drop (a.length - j) ++ s.take (s.length - j)) + cN (a.drop (a.length - j) ++ s.take (s.length - j)) (a.drop (a.length - j) ++ b)) m rfl hm vA vS vB (by omega)
  unfold fS
  rw [hst]
  exact this
 have hlen : (a.drop (a.length - j) ++ b).length ≤ 200000000 := by simp only [List.length_append, List.length_drop]; omega
 have z : mkB [] = (⟨#[]⟩ : ByteArray) := rfl
 have n1 : ∀ Q : ByteArray, mkB [] ++ Q = Q := fun Q => by apply jL; rw [z, ByteArray.data_append]; simp
 have n2 : ∀ Q : ByteArray, Q ++ mkB [] = Q := fun Q => by apply jL; rw [z, ByteArray.data_append]; simp
 have g1 : enc a' ++ U ++ mkB l = enc (a.take (a.length - j)) := by rw [baa, q4, ← aX, c1]
 have g2 : enc (t.drop (t.length - j)) ++ (enc s' ++ U) ++ mkB l = enc (a.drop (a.length - j) ++ s.take (s.length - j)) := by rw [baa, baa, q4, c2, c3, aX, aX]
 have g3 : enc (t.drop (t.length - j)) ++ enc b = enc (a.drop (a.length - j) ++ b) := by rw [c2, aX]
 unfold O3
 have w1 := size_append (mkB l ++ enc (t.drop (t.length - j))) (enc s' ++ U)
 have w2 := size_append (mkB l ++ enc (t.drop (t.length - j))) (enc b)
 rw [qH n _ _ (by omega) (by omega), Option.bind_some, qH n _ _ (by omega) (by omega), Option.bind_some]
 have r1 := jR (aD (enc a' ++ U)) (aD (mkB l ++ enc (t.drop (t.length - j)) ++ (enc s' ++ U)))
 have r2 := jR (aD (mkB l ++ enc (t.drop (t.length - j)) ++ (enc s' ++ U))) (aD (mkB l ++ enc (t.drop (t.length - j)) ++ enc b))
 simp only
 rw [aF (by omega) (by omega)]
 unfold G3 aP0
 by_cases hl : l = []
 ·subst hl
  rw [n2] at g1 g2
  rw [n1, g1, g2, g3, fZ vA vS, fZ vS vB]
  exact last n (by omega)
 ·obtain ⟨b0, l0, hl0⟩ := List.exists_cons_of_ne_nil hl
  have hb0 := q3 b0 (by rw [hl0]; simp)
  have hF : FirstHi (mkB l) := by
   unfold fW at hb0
   rw [hl0]
   exact ⟨l0.map fun b => (b.toNat : Int), (b0.toNat : Int), rfl, by omega⟩
  have hU := q5 hl
  have hLA : LastHi (enc a' ++ U) := hU.append _
  have hLS : LastHi (enc (t.drop (t.length - j)) ++ (enc s' ++ U)) := (hU.append _).append _
  have f1 : cN (aD (enc a' ++ U)) (aD (mkB l ++ enc (t.drop (t.length - j)) ++ (enc s' ++ U))) = 1 := pR hLA ((hF.append _).append _)
  have f2 : cN (aD (mkB l ++ enc (t.drop (t.length - j)) ++ (enc s' ++ U))) (aD (mkB l ++ enc (t.drop (t.length - j)) ++ enc b)) = 1 := pR ((hU.append _).append _) ((hF.append _).append _)
  rw [f1, f2]
  obtain ⟨m, rfl⟩ : ∃ m, n = l.length + m := ⟨n - l.length, by have := mK l; omega⟩
  have ml := mK l
  have ys := size_append (enc (t.drop (t.length - j))) (enc s' ++ U)
  have yb := size_append (enc (t.drop (t.length - j))) (enc b)
  rw [baa (mkB l) (enc (t.drop (t.length - j))) (enc s' ++ U), baa (mkB l) (enc (t.drop (t.length - j))) (enc b), show (1 : Int) + 1 = 2 from rfl, OY (l.length + m) kx2 m p0 x1 v5 l _ _ _ _ _ _ hl q3 hLA hLS (by omega), g1, g2, g3, fZ vA vS, fZ vS vB]
  exact last m (by omega)
end
set_option maxRecDepth 100000
theorem UQ (X : ByteArray) (i : Int) (h0 : 0 ≤ i) (h1 : i ≤ X.size) : bD X 0 i ++ bD X i (X.size : Int) = X := by
 apply cM
 rw [bE, bM, bM, cH, dY _ _ _ (by rw [aK]; omega), List.take_append_drop]
theorem d5 (a s : List Int) : bD (enc a) (((enc a).size : Int) - (csl a s : Int)) ((enc a).size : Int) = bD (enc s) (((enc s).size : Int) - (csl a s : Int)) ((enc s).size : Int) := by
 have l1 := dR a s
 have l2 := dC a s
 have et := pE a s
 have lt : (a.drop (a.length - csl a s)).length = csl a s := by rw [List.length_drop]; omega
 have ea : enc a = enc (a.take (a.length - csl a s)) ++ enc (a.drop (a.length - csl a s)) := by rw [← aX, List.take_append_drop]
 have es : enc s = enc (s.take (s.length - csl a s)) ++ enc (a.drop (a.length - csl a s)) := by rw [et, ← aX, List.take_append_drop]
 have hge := fP (a.drop (a.length - csl a s))
 have key : ∀ X Y : ByteArray, csl a s ≤ Y.size → bD (X ++ Y) (((X ++ Y).size : Int) - (csl a s : Int)) ((X ++ Y).size : Int) = bD Y ((Y.size : Int) - (csl a s : Int)) (Y.size : Int) := fun X Y h => by
  have hz := size_append X Y
  apply cM
  rw [bM, bM, dY _ _ _ (by rw [aK]; omega), dY _ _ _ (by rw [aK]; omega), bE, List.drop_append, List.drop_of_length_le (by rw [aK]; omega), List.nil_append]
  congr 1
  rw [aK]; omega
 have k1 := key (enc (a.take (a.length - csl a s))) (enc (a.drop (a.length - csl a s))) (by omega)
 have k2 := key (enc (s.take (s.length - csl a s))) (enc (a.drop (a.length - csl a s))) (by omega)
 rw [← ea] at k1
 rw [← es] at k2
 rw [k1, k2]
theorem yL (n : Nat) (hn : Big ≤ n) (p0) (a s : List Int) (va : Valids a) (vs : Valids s) (hla : a.length ≤ 100000000) (hls : s.length ≤ 100000000) : g68 n p0 (enc a) (enc s) = some ((csl a s : Int), ()) := by
 have e1 := aP a
 have e2 := aP s
 dsimp only [g68, aG6]
 rw [gW (by omega), gW (by omega), eE va, eE vs, pX n hn a s (by omega) (by omega), Option.bind_some]
section
variable {β : Type} (n : Nat) (hn : Big ≤ n) (kn : (Int × Int × Int × Nat × Int × Int × Nat) → List (Int × ByteArray) → Int → Option β)
include hn
theorem dE9 (p0) (x1 : List (Int × ByteArray)) (i : Nat) (v38 : Bool) (a s b : List Int) (va : Valids a) (vs : Valids s) (vb : Valids b) (hla : a.length ≤ 100000000) (hls : s.length ≤ 100000000) (hlb : b.length ≤ 100000000) (hl : i + 2 < x1.length) (hl2 : x1.length ≤ 1000000000)
  (r0 : (rd x1 (i : Int) ((0 : Int), (⟨#[]⟩ : ByteArray))).2 = enc a) (r1 : (rd x1 ((i + 1 : Nat) : Int) ((0 : Int), (⟨#[]⟩ : ByteArray))).2 = enc s) (r2 : (rd x1 ((i + 2 : Nat) : Int) ((0 : Int), (⟨#[]⟩ : ByteArray))).2 = enc b) :
  EN n kn p0 x1 ((i + 1 : Nat) : Int) v38 = OE n kn p0 x1 ((i + 1 : Nat) : Int) (enc (fS a s b).1) (enc (fS a s b).2.1) (enc (fS a s b).2.2) := by
 have hw0 : w64 (((i + 1 : Nat) : Int) - 1) = (i : Int) := by rw [aF (by omega) (by omega)]; omega
 have hw2 : w64 (((i + 1 : Nat) : Int) + 1) = ((i + 2 : Nat) : Int) := by rw [aF (by omega) (by omega)]; omega
 have e1 := aP a
 have e2 := aP s
 have e3 := aP b
 have g1 := fP a
 have g2 := fP s
 have l1 := dR a s
 have l2 := dC a s
 unfold EN aH3
 rw [hw0, hw2, aM (by omega) (by omega), aM (by omega) (by omega), aM (by omega) (by omega), r0, r1, r2, yL n hn p0 a s va vs hla hls, Option.bind_some]
 simp only
 have ws : w64 (((enc s).size : Int) - (csl a s : Int)) = ((enc s).size : Int) - (csl a s : Int) := aF (by omega) (by omega)
 have wa : w64 (((enc a).size : Int) - (csl a s : Int)) = ((enc a).size : Int) - (csl a s : Int) := aF (by omega) (by omega)
 have key := fun A0 S0 B0 hA hS hB => aW1 n hn (fun p0 x1 v5 v11 v12 v13 => OE n kn p0 x1 v5 v11 v12 v13) p0 x1 ((i + 1 : Nat) : Int) a s b va vs vb hla hls hlb A0 S0 B0 (csl a s) rfl hA hS hB
 by_cases hk : (csl a s : Int) > 0
 ·rw [bdT hk, ws, wa, aW (by omega) (by omega) (by omega), aW (by omega) (by omega) (by omega), aW (by omega) (by omega) (by omega)]
  have z1 := iS (z := enc s) (a := ((enc s).size : Int) - (csl a s : Int)) (b := ((enc s).size : Int)) (by omega) (by omega) (by omega)
  have z2 := iS (z := enc s) (a := 0) (b := ((enc s).size : Int) - (csl a s : Int)) (by omega) (by omega) (by omega)
  rw [bX (by omega), bX (by omega)]
  refine key _ _ _ ?_ rfl rfl
  rw [← d5 a s]
  exact (UQ _ _ (by omega) (by omega)).symm
 ·rw [bdF hk]
  have h0 : csl a s = 0 := by omega
  have c1 : bD (enc s) (((enc s).size : Int) - (csl a s : Int)) ((enc s).size : Int) = (⟨#[]⟩ : ByteArray) := by
   apply cM
   rw [bM, dY _ _ _ (by rw [aK]; omega), List.drop_of_length_le (by rw [aK]; omega)]; rfl
  have c2 : bD (enc s) 0 (((enc s).size : Int) - (csl a s : Int)) = enc s := by
   rw [h0, show ((enc s).size : Int) - ((0 : Nat) : Int) = ((enc s).size : Int) by omega]; exact bF6 _
  have n1 : ∀ Q : ByteArray, (⟨#[]⟩ : ByteArray) ++ Q = Q := fun Q => by apply jL; rw [ByteArray.data_append]; simp
  have n2 : ∀ Q : ByteArray, Q ++ (⟨#[]⟩ : ByteArray) = Q := fun Q => by apply jL; rw [ByteArray.data_append]; simp
  refine key _ _ _ ?_ ?_ ?_
  ·rw [c1, n2]
  ·rw [c1, c2, n1]
  ·rw [c1, n1]
end
theorem QG {a s b : List Int} : (fS a s b).1.length + (fS a s b).2.2.length = a.length + b.length ∧ (fS a s b).2.1.length = s.length := by
 have h := mY a s b
 have := congrArg List.length h.out
 simp only [List.length_append] at this
 exact ⟨this, h.len⟩
theorem size_ne_zero {x : List Int} : (((enc x).size : Int) != 0) = true ↔ x ≠ [] := by
 rw [bne_iff_ne]
 constructor
 ·rintro h rfl; exact h rfl
 ·intro h h0
  exact h (enc_size_zero.1 (by omega))
theorem Y3 {β : Type} (n : Nat) (hn : Big ≤ n) (kx : List (Int × ByteArray) → Option β) (p0) : ∀ (k : Nat) (R A : List Rp) (m : Nat), R.length = k → k < m → Ok A → Ok R →
  A.length + R.length ≤ 1000000 → cP A + cP R ≤ 10000000 →
  g56_17L (β := β) n kx m p0 (M (A.reverse ++ R)) ((A.length + 1 : Nat) : Int) = kx (M (dK A R)) := by
 intro k
 induction k using Nat.strongRecOn with
 | _ k ih =>
  intro R A m hk hm hA hR hl hal
  obtain ⟨m, rfl⟩ : ∃ m', m = m' + 1 := ⟨m - 1, by omega⟩
  have hlm : (M (A.reverse ++ R)).length = A.length + R.length := by rw [aY]; simp
  have hw0 : w64 (((M (A.reverse ++ R)).length : Int) - 1) = (A.length : Int) + (R.length : Int) - 1 := by rw [aF (by omega) (by omega)]; omega
  rw [g56_17L.eq_2]
  unfold MI aE1
  rw [hw0]
  by_cases h3 : R.length < 3
  ·rw [bdF (by omega)]
   have : dK A R = A.reverse ++ R := by
    match R, h3 with
    | [], _ => unfold dK; rfl
    | [p], _ => unfold dK; rfl
    | [p, c], _ => unfold dK; rfl
   rw [this]
  ·obtain ⟨p, c, q, R, rfl⟩ : ∃ p c q R', R = p :: c :: q :: R' := by
    match R, h3 with
    | [], h3 => simp at h3
    | [p], h3 => simp at h3
    | [p, c], h3 => simp at h3
    | p :: c :: q :: R, _ => exact ⟨p, c, q, R, rfl⟩
   have hRl : (p :: c :: q :: R).length = R.length + 3 := rfl
   have hp := hR.of_cons.1
   have hc := hR.of_cons.2.of_cons.1
   have hq := hR.of_cons.2.of_cons.2.of_cons.1
   have hR' := hR.of_cons.2.of_cons.2.of_cons.2
   simp only [bZ] at hal
   have hx : M (A.reverse ++ p :: c :: q :: R) = M A.reverse ++ (p.1, enc p.2) :: (c.1, enc c.2) :: (q.1, enc q.2) :: M R := by rw [bT]; rfl
   have hAl : (M A.reverse).length = A.length := by simp [aY]
   have hwm : w64 (((A.length + 1 : Nat) : Int) - 1) = (A.length : Int) := by rw [aF (by omega) (by omega)]; omega
   have hwp : w64 (((A.length + 1 : Nat) : Int) + 1) = ((A.length + 2 : Nat) : Int) := by rw [aF (by omega) (by omega)]; omega
   have hwq : w64 (((A.length + 1 : Nat) : Int) + 2) = ((A.length + 3 : Nat) : Int) := by rw [aF (by omega) (by omega)]; omega
   have hwa : w64 ((A.length : Int) + 1) = ((A.length + 1 : Nat) : Int) := by rw [aF (by omega) (by omega)]; omega
   have g0 : ∀ (u : Prt) (l : List Prt), rd (M A.reverse ++ u :: l) (A.length : Int) ((0 : Int), (⟨#[]⟩ : ByteArray)) = u := fun u l => eG (by rw [hAl])
   have g1 : ∀ (u v : Prt) (l : List Prt), rd (M A.reverse ++ u :: v :: l) ((A.length + 1 : Nat) : Int) ((0 : Int), (⟨#[]⟩ : ByteArray)) = v := fun u v l => by
    have : M A.reverse ++ u :: v :: l = (M A.reverse ++ [u]) ++ v :: l := by simp
    rw [this]; exact eG (by simp [hAl])
   have g2 : ∀ (u v w : Prt) (l : List Prt), rd (M A.reverse ++ u :: v :: w :: l) ((A.length + 2 : Nat) : Int) ((0 : Int), (⟨#[]⟩ : ByteArray)) = w := fun u v w l => by
    have : M A.reverse ++ u :: v :: w :: l = (M A.reverse ++ [u, v]) ++ w :: l := by simp
    rw [this]; exact eG (by simp [hAl])
   have s0 : ∀ (u x : Prt) (l : List Prt), (M A.reverse ++ u :: l).set (A.length : Int).toNat x = M A.reverse ++ x :: l := fun u x l => fM (by rw [hAl]; omega)
   have s1 : ∀ (u v x : Prt) (l : List Prt), (M A.reverse ++ u :: v :: l).set ((A.length + 1 : Nat) : Int).toNat x = M A.reverse ++ u :: x :: l := fun u v x l => by
    have : M A.reverse ++ u :: v :: l = (M A.reverse ++ [u]) ++ v :: l := by simp
    rw [this, fM (by simp [hAl])]; simp
   have s2 : ∀ (u v w x : Prt) (l : List Prt), (M A.reverse ++ u :: v :: w :: l).set ((A.length + 2 : Nat) : Int).toNat x = M A.reverse ++ u :: v :: x :: l := fun u v w x l => by
    have : M A.reverse ++ u :: v :: w :: l = (M A.reverse ++ [u, v]) ++ w :: l := by simp
    rw [this, fM (by simp [hAl]; omega)]; simp
   have ll : ∀ u v w : Prt, (M A.reverse ++ u :: v :: w :: M R).length = A.length + 3 + R.length := fun u v w => by simp [aY]; omega
   have ll2 : ∀ v w : Prt, (M A.reverse ++ v :: w :: M R).length = A.length + 2 + R.length := fun v w => by simp [aY]; omega
   have skip : g56_17L (β := β) n kx m p0 (M A.reverse ++ (p.1, enc p.2) :: (c.1, enc c.2) :: (q.1, enc q.2) :: M R) ((A.length + 2 : Nat) : Int) = kx (M (dK (p :: A) (c :: q :: R))) := by
    have := ih (c :: q :: R).length (by rw [← hk]; simp) (c :: q :: R) (p :: A) m rfl (by simp at hk ⊢; omega) (Ok.cons' hp hA) hR.of_cons.2 (by simp at hl ⊢; omega) (by simp only [bZ]; omega)
    rw [← this]
    have e : M ((p :: A).reverse ++ c :: q :: R) = M A.reverse ++ (p.1, enc p.2) :: (c.1, enc c.2) :: (q.1, enc q.2) :: M R := by
     simp [bT, eS, jG]
    rw [e]; rfl
   rw [bdT (by omega)]
   unfold WE MW bL1
   simp only [hwm, hwp, hx, g0, g1, g2, ll]
   rw [aM (by omega) (by omega)]
   have plain : ∀ v38 : Bool, v38 = false → wN n (fun p0 x1 v5 => EK n (g56_17L n kx m) p0 x1 v5) p0 (M A.reverse ++ (p.1, enc p.2) :: (c.1, enc c.2) :: (q.1, enc q.2) :: M R) ((A.length + 1 : Nat) : Int) v38 = kx (M (dK (p :: A) (c :: q :: R))) := fun v38 h => by
    unfold wN ZD EK
    rw [biF h]
    simp only [hwp]
    exact skip
   rw [dK]
   by_cases hp0 : p.1 = 0
   ·rw [biT (by simpa using hp0), aM (by omega) (by omega)]
    by_cases hq0 : q.1 = 0
    ·rw [if_pos ⟨hp0, hq0⟩]
     unfold wN
     rw [biT (by simpa using hq0)]
     rw [dE9 n hn _ p0 _ A.length _ p.2 c.2 q.2 hp.2 hc.2 hq.2 (by omega) (by omega) (by omega) (by rw [ll]; omega) (by rw [ll]; omega) (by rw [g0]) (by rw [g1]) (by rw [g2])]
     have hmv := mY p.2 c.2 q.2
     have hsz := @QG p.2 c.2 q.2
     generalize fS p.2 c.2 q.2 = t at *
     obtain ⟨v1, v2, v3⟩ := hmv.val hp.2 hc.2 hq.2
     have z1 := aP t.1
     unfold OE EK
     simp only [hwm, hwp, hwa, g0, g1, g2, ll]
     rw [aM (by omega) (by omega), HT hp.2 v1]
     by_cases he : t.1 = p.2
     ·rw [if_pos he, biF (by simp [he])]
      exact skip
     ·rw [if_neg he, biT (by simp; exact fun h => he h.symm)]
      by_cases h0 : t.1 = []
      ·
       rw [if_pos h0, biF (by have := @size_ne_zero t.1; rw [Bool.eq_false_iff]; exact fun h => (this.1 h) h0)]
       have h2 : t.2.2 ≠ [] := fun h2 => by
        have := hmv.out
        rw [h0, h2] at this
        have := (List.append_eq_nil_iff.1 this.symm).1
        exact he (by rw [h0, this])
       have hsp := jV n hn (M A.reverse ++ (p.1, enc p.2) :: (c.1, enc c.2) :: (q.1, enc q.2) :: M R) [] A.length 1 (by rw [ll]; omega) (by rw [ll]; omega) (by simp)
       have ht : (M A.reverse ++ (p.1, enc p.2) :: (c.1, enc c.2) :: (q.1, enc q.2) :: M R).take A.length = M A.reverse := by rw [← hAl, List.take_left']; rfl
       have hd : (M A.reverse ++ (p.1, enc p.2) :: (c.1, enc c.2) :: (q.1, enc q.2) :: M R).drop (A.length + 1) = (c.1, enc c.2) :: (q.1, enc q.2) :: M R := by
        have : M A.reverse ++ (p.1, enc p.2) :: (c.1, enc c.2) :: (q.1, enc q.2) :: M R = (M A.reverse ++ [(p.1, enc p.2)]) ++ (c.1, enc c.2) :: (q.1, enc q.2) :: M R := by simp
        rw [this, show A.length + 1 = (M A.reverse ++ [(p.1, enc p.2)]).length by simp [hAl], List.drop_left']; rfl
       rw [ht, hd, List.append_nil] at hsp
       rw [show (1 : Int) = ((1 : Nat) : Int) from rfl, hsp, Option.bind_some]
       simp only [g0, g1, s0, s1, ll2, show ((1 : Nat) : Int) = (1 : Int) from rfl, hwa]
       rw [aM (by omega) (by omega), biT (size_ne_zero.2 h2), aM (by omega) (by omega)]
       have := ih ((c.1, t.2.1) :: (q.1, t.2.2) :: R).length (by rw [← hk]; simp) ((c.1, t.2.1) :: (q.1, t.2.2) :: R) A m rfl (by simp at hk ⊢; omega) hA (Ok.cons' ⟨hc.1, v2⟩ (Ok.cons' ⟨hq.1, v3⟩ hR')) (by simp at hl ⊢; omega) (by simp only [bZ]; omega)
       rw [← this]
       have e : M (A.reverse ++ (c.1, t.2.1) :: (q.1, t.2.2) :: R) = M A.reverse ++ (c.1, enc t.2.1) :: (q.1, enc t.2.2) :: M R := by
        simp [bT, eS, jG]
       rw [e]
      ·rw [if_neg h0, biT (size_ne_zero.2 h0)]
       simp only [s0, g0, g1, g2, ll, s1, s2]
       rw [aM (by omega) (by omega), aM (by omega) (by omega)]
       by_cases h2 : t.2.2 = []
       ·rw [if_pos h2, biF (by have := @size_ne_zero t.2.2; rw [Bool.eq_false_iff]; exact fun h => (this.1 h) h2)]
        rw [hwq, aW (by omega) (by omega) (by omega), aW (by omega) (by omega) (by omega)]
        have c1 : cut (M A.reverse ++ (p.1, enc t.1) :: (c.1, enc t.2.1) :: (q.1, enc q.2) :: M R) 0 (0 + (((A.length + 2 : Nat) : Int) - 0)) = M A.reverse ++ [(p.1, enc t.1), (c.1, enc t.2.1)] := by
         rw [cH, show (0 + (((A.length + 2 : Nat) : Int) - 0)).toNat = (M A.reverse ++ [(p.1, enc t.1), (c.1, enc t.2.1)]).length by simp [hAl]; omega]
         have : M A.reverse ++ (p.1, enc t.1) :: (c.1, enc t.2.1) :: (q.1, enc q.2) :: M R = (M A.reverse ++ [(p.1, enc t.1), (c.1, enc t.2.1)]) ++ (q.1, enc q.2) :: M R := by simp
         rw [this]; exact List.take_left
        have c2 : cut (M A.reverse ++ (p.1, enc t.1) :: (c.1, enc t.2.1) :: (q.1, enc q.2) :: M R) ((A.length + 3 : Nat) : Int) (((A.length + 3 : Nat) : Int) + (((A.length + 3 + R.length : Nat) : Int) - ((A.length + 3 : Nat) : Int))) = M R := by
         rw [dY _ _ _ (by rw [ll]; omega), Int.toNat_natCast]
         have : M A.reverse ++ (p.1, enc t.1) :: (c.1, enc t.2.1) :: (q.1, enc q.2) :: M R = (M A.reverse ++ [(p.1, enc t.1), (c.1, enc t.2.1), (q.1, enc q.2)]) ++ M R := by simp
         rw [this, show A.length + 3 = (M A.reverse ++ [(p.1, enc t.1), (c.1, enc t.2.1), (q.1, enc q.2)]).length by simp [hAl], List.drop_left']; rfl
        rw [c1, c2, bX (by simp [aY]; omega)]
        have := ih ((p.1, t.1) :: (c.1, t.2.1) :: R).length (by rw [← hk]; simp) ((p.1, t.1) :: (c.1, t.2.1) :: R) A m rfl (by simp at hk ⊢; omega) hA (Ok.cons' ⟨hp.1, v1⟩ (Ok.cons' ⟨hc.1, v2⟩ hR')) (by simp at hl ⊢; omega) (by simp only [bZ]; omega)
        rw [← this]
        have e : M (A.reverse ++ (p.1, t.1) :: (c.1, t.2.1) :: R) = M A.reverse ++ [(p.1, enc t.1), (c.1, enc t.2.1)] ++ M R := by
         simp [bT, eS, jG]
        rw [e]
       ·rw [if_neg h2, biT (size_ne_zero.2 h2), aM (by omega) (by omega)]
        have := ih ((c.1, t.2.1) :: (q.1, t.2.2) :: R).length (by rw [← hk]; simp) ((c.1, t.2.1) :: (q.1, t.2.2) :: R) ((p.1, t.1) :: A) m rfl (by simp at hk ⊢; omega) (Ok.cons' ⟨hp.1, v1⟩ hA) (Ok.cons' ⟨hc.1, v2⟩ (Ok.cons' ⟨hq.1, v3⟩ hR')) (by simp at hl ⊢; omega) (by simp only [bZ]; omega)
        rw [← this]
        have e : M (((p.1, t.1) :: A).reverse ++ (c.1, t.2.1) :: (q.1, t.2.2) :: R) = M A.reverse ++ (p.1, enc t.1) :: (c.1, enc t.2.1) :: (q.1, enc t.2.2) :: M R := by
         simp [bT, eS, jG]
        rw [e]; rfl
    ·rw [if_neg (fun h => hq0 h.2)]
     exact plain _ (by simpa using hq0)
   ·rw [biF (by simpa using hp0), if_neg (fun h => hp0 h.1)]
    exact plain _ rfl
theorem OC (n : Nat) (hn : Big ≤ n) (p0) (x : List Rp) (hx : Ok x) (hl : x.length ≤ 1000000) (ha : cP x ≤ 10000000) : g56 n p0 (M x) = some (M (fX x), ()) := by
 have hB : (4611686018427387904 : Nat) ≤ n := hn
 dsimp only [g56, IE, aE6]
 have := Y3 n hn (fun x1 => some (x1, ())) p0 x.length x [] n rfl (by omega) Ok.nil hx (by simpa using hl) (by simpa [cP] using ha)
 exact this
end Go.Proofs.YticibdjilmclgaaDoorZF
namespace Go.Proofs.YticibdjilmclgaaDoorZF
open Go Ieee
set_option linter.unusedVariables false
set_option linter.unusedSimpArgs false
theorem sw : double.signWeight = 9223372036854775808 := by decide
theorem ir : double.infRung = 9218868437227405312 := by decide
theorem bn : double.binade = 4503599627370496 := by decide
theorem lp : double.leastPlace = -1074 := by decide
def SG (mag : Nat) (place : Int) : Nat :=
 if mag = 0 then 0 else
 min ((max (place + mag.log2 - double.fractionBits) double.leastPlace - double.leastPlace).toNat * double.binade + Toward.even.cut false (mag <<< (place - max (place + mag.log2 - double.fractionBits) double.leastPlace).toNat) (max (place + mag.log2 - double.fractionBits) double.leastPlace - place).toNat) double.infRung
theorem MP (neg : Bool) (mag : Nat) (place : Int) : double.nearest neg mag place = double.word neg (SG mag place) := by
 unfold Format.nearest SG
 split
 ·rfl
 ·cases neg <;> rfl
theorem FS (mag : Nat) (place : Int) : double.nearest false mag place = SG mag place := by rw [MP]; unfold Format.word; rw [if_neg (by decide)]
def Nn (d : Datum) : Prop := (∃ m p, d = .number false m p) ∨ d = .infinity false
theorem dF3 {m : Nat} {p : Int} {n : Nat} {q : Int} (hn : n ≠ 0) (k : Nat) : ∃ a b, (Datum.number false m p).quotient k (.number false n q) = some (.number false a b) := by
 exact ⟨2 * ((m <<< (k + n.log2 - m.log2)) / n) + ((m <<< (k + n.log2 - m.log2)) % n != 0).toNat, p - q - ((k + n.log2 - m.log2 : Nat) : Int) - 1, by simp only [Datum.quotient, if_neg hn, Bool.xor_self]⟩
theorem bP6 {n : Nat} (h0 : 0 < n) (h : n < 9007199254740992) : n.log2 ≤ 52 := by
 have := (Nat.log2_lt (by omega)).2 (show n < 2 ^ 53 from h)
 omega
theorem bK4 (l N : Nat) (hl : l ≤ 52) (h : N < 9007199254740992) : min ((l + 1022) * 4503599627370496 + N) 9218868437227405312 = (l + 1022) * 4503599627370496 + N := by omega
theorem OZ (n : Nat) (h0 : 0 < n) (h : n < 9007199254740992) : double.read (double.nearest false n 0) = .number false (n * 2 ^ (52 - n.log2)) ((n.log2 : Int) - 52) := by
 have hl := bP6 h0 h
 have hlo : 2 ^ n.log2 ≤ n := Nat.log2_self_le (by omega)
 have hhi : n < 2 ^ (n.log2 + 1) := Nat.lt_log2_self
 generalize hL : n.log2 = l at hl hlo hhi
 have N1 : 4503599627370496 ≤ n * 2 ^ (52 - l) := by
  calc 4503599627370496 = 2 ^ l * 2 ^ (52 - l) := by rw [← Nat.pow_add, show l + (52 - l) = 52 by omega]
   _ ≤ n * 2 ^ (52 - l) := Nat.mul_le_mul_right _ hlo
 have N2 : n * 2 ^ (52 - l) < 9007199254740992 := by
  calc n * 2 ^ (52 - l) < 2 ^ (l + 1) * 2 ^ (52 - l) := Nat.mul_lt_mul_of_pos_right hhi (Nat.two_pow_pos _)
   _ = 9007199254740992 := by rw [← Nat.pow_add, show l + 1 + (52 - l) = 53 by omega]
 have hr : SG n 0 = (l + 1022) * 4503599627370496 + n * 2 ^ (52 - l) := by
  unfold SG
  rw [if_neg (by omega), hL, lp, bn, ir]
  have e0 : double.fractionBits = 52 := rfl
  rw [e0]
  have e1 : max ((0 : Int) + (l : Int) - ((52 : Nat) : Int)) (-1074) = (l : Int) - 52 := by omega
  rw [e1]
  have e2 : ((l : Int) - 52 - (-1074)).toNat = l + 1022 := by omega
  have e3 : ((0 : Int) - ((l : Int) - 52)).toNat = 52 - l := by omega
  have e4 : ((l : Int) - 52 - 0).toNat = 0 := by omega
  rw [e2, e3, e4]
  have e5 : Toward.even.cut false (n <<< (52 - l)) 0 = n * 2 ^ (52 - l) := by
   rw [Nat.shiftLeft_eq]
   simp [Toward.cut, Nat.mod_one]
  rw [e5]
  exact bK4 l _ hl N2
 rw [FS, hr]
 clear hr hlo hhi hL h h0
 generalize n * 2 ^ (52 - l) = N at N1 N2
 have e1 : ((l + 1022) * 4503599627370496 + N) / double.signWeight % 2 = 0 := by rw [sw]; omega
 have e2 : ((l + 1022) * 4503599627370496 + N) % double.signWeight = (l + 1022) * 4503599627370496 + N := by rw [sw]; omega
 unfold Format.read
 simp only [e1, e2, bn, ir, lp]
 rw [if_neg (by omega), if_pos (by omega)]
 have e3 : ((l + 1022) * 4503599627370496 + N) % 4503599627370496 = N - 4503599627370496 := by omega
 have e4 : ((l + 1022) * 4503599627370496 + N) / 4503599627370496 = l + 1023 := by omega
 rw [e3, e4]
 have e5 : 4503599627370496 + (N - 4503599627370496) = N := by omega
 have e6 : (-1074 : Int) + ((l + 1023 - 1 : Nat) : Int) = (l : Int) - 52 := by omega
 rw [e5, e6]
 simp
theorem cI2 (n : Nat) (h0 : 0 < n) (k : Nat) : n * 2 ^ k ≠ 0 := Nat.mul_ne_zero (by omega) (by have := Nat.two_pow_pos k; omega)
theorem oN (n : Nat) : floatOfInt .f64 (n : Int) = double.nearest false n 0 := by
 show double.nearest (decide ((n : Int) < 0)) ((n : Int)).natAbs 0 = _
 rw [decide_eq_false (by omega), Int.natAbs_natCast]
theorem ZT (n : Nat) (h : n < 9007199254740992) : ∃ m p, double.read (double.nearest false n 0) = .number false m p ∧ (m = 0 ↔ n = 0) := by
 rcases Nat.eq_zero_or_pos n with rfl | h0
 ·exact ⟨0, -1074, by decide, by simp⟩
 ·exact ⟨_, _, OZ n h0 h, by have := cI2 n h0 (52 - n.log2); omega⟩
theorem DA (n : Nat) (h : n < 9007199254740992) : ∃ s : Nat, double.read (floatOfInt .f64 (n : Int)) = .number false (n * 2 ^ s) (-(s : Int)) := by
 rw [oN]
 rcases Nat.eq_zero_or_pos n with rfl | h0
 ·obtain ⟨k, hk⟩ : ∃ k : Nat, k = 1074 := ⟨_, rfl⟩
  exact ⟨k, by rw [Nat.zero_mul, hk]; rfl⟩
 ·have hl := bP6 h0 h
  refine ⟨52 - n.log2, ?_⟩
  rw [OZ n h0 h]
  congr 1
  omega
theorem cA0 (a s k : Nat) : (a * 2 ^ s) <<< k = a * 2 ^ (s + k) := by rw [Nat.shiftLeft_eq, Nat.mul_assoc, Nat.pow_add]
theorem j8 (a b s t : Nat) : (Datum.number false (a * 2 ^ s) (-(s : Int))).order (.number false (b * 2 ^ t) (-(t : Int))) = some (compare (a : Int) (b : Int)) := by
 have e1 : (-(s : Int) - min (-(s : Int)) (-(t : Int))).toNat = max s t - s := by omega
 have e2 : (-(t : Int) - min (-(s : Int)) (-(t : Int))).toNat = max s t - t := by omega
 simp only [Datum.order, signed, Bool.false_eq_true, if_false, e1, e2, cA0]
 rw [show s + (max s t - s) = max s t by omega, show t + (max s t - t) = max s t by omega]
 have hp := Nat.two_pow_pos (max s t)
 generalize 2 ^ (max s t) = p at *
 congr 1
 rcases Nat.lt_trichotomy a b with h | h | h
 ·rw [Int.compare_eq_lt.2 (by exact_mod_cast Nat.mul_lt_mul_of_pos_right h hp), Int.compare_eq_lt.2 (by omega)]
 ·subst h; rw [Int.compare_eq_eq.2 rfl, Int.compare_eq_eq.2 rfl]
 ·rw [Int.compare_eq_gt.2 (by exact_mod_cast Nat.mul_lt_mul_of_pos_right h hp), Int.compare_eq_gt.2 (by omega)]
theorem o7 (n s : Nat) : (Datum.number false (n * 2 ^ s) (-(s : Int))).toInt .zero = some (n : Int) := by
 have hp := Nat.two_pow_pos s
 simp only [Datum.toInt, Datum.integral]
 have e1 : (-(s : Int)).toNat = 0 := by omega
 have e2 : (- -(s : Int)).toNat = s := by omega
 rw [e1, e2, Nat.shiftLeft_zero]
 have : Toward.zero.cut false (n * 2 ^ s) s = n := by
  simp only [Toward.cut]
  rcases Nat.eq_zero_or_pos n with rfl | h0
  ·simp
  ·have hne : n * 2 ^ s ≠ 0 := Nat.mul_ne_zero (by omega) (by omega)
   have hle : s ≤ (n * 2 ^ s).log2 := (Nat.le_log2 hne).2 (Nat.le_mul_of_pos_left _ h0)
   rw [show min s ((n * 2 ^ s).log2 + 2) = s by omega, Nat.shiftLeft_eq, Nat.one_mul, Nat.mul_div_cancel _ hp]
   simp
 rw [this]
 simp [signed]
abbrev F64 (n : Nat) : Nat := floatOfInt .f64 (n : Int)
theorem KI (n : Nat) (h : n < 9007199254740992) : floatToIntVal .f64 (F64 n) .i64 = some (n : Int) := by
 obtain ⟨s, hs⟩ := DA n h
 unfold floatToIntVal
 have : FloatKind.f64.decode (F64 n) = .number false (n * 2 ^ s) (-(s : Int)) := hs
 rw [this, o7]
 have h1 : IntKind.i64.min = -9223372036854775808 := rfl
 have h2 : IntKind.i64.max = 9223372036854775807 := rfl
 simp only [h1, h2]
 rw [if_pos (by omega)]
theorem bF4 (neg : Bool) (win : Ordering) (a b : Nat) (ha : a < 9007199254740992) (hb : b < 9007199254740992) : H1 neg win (F64 a) (F64 b) = if a = 0 ∧ b = 0 then F64 0 else if compare (a : Int) (b : Int) = win then F64 a else F64 b := by
 obtain ⟨s, hs⟩ := DA a ha
 obtain ⟨t, ht⟩ := DA b hb
 have d1 : FloatKind.f64.decode (F64 a) = .number false (a * 2 ^ s) (-(s : Int)) := hs
 have d2 : FloatKind.f64.decode (F64 b) = .number false (b * 2 ^ t) (-(t : Int)) := ht
 have z : ∀ (m k : Nat), (m * 2 ^ k = 0 ↔ m = 0) := fun m k => by
  have := Nat.two_pow_pos k
  constructor
  ·intro h; rcases Nat.mul_eq_zero.1 h with h | h <;> omega
  ·rintro rfl; simp
 unfold H1
 simp only [d1, d2]
 have n1 : ∀ (m : Nat) (p : Int), (Datum.number false m p == Datum.infinity neg) = false := fun m p => by rw [beq_eq_false_iff_ne]; intro h; cases h
 have zz : ∀ (m : Nat) (p : Int), (Datum.number false m p).isZero = decide (m = 0) := fun m p => by cases m <;> simp [Datum.isZero]
 rw [n1, n1, j8]
 simp only [Bool.or_self, Bool.false_eq_true, if_false, Datum.isNaN, zz, Datum.neg]
 by_cases h0 : a = 0 ∧ b = 0
 ·obtain ⟨rfl, rfl⟩ := h0
  simp
 ·rw [if_neg h0]
  have : ¬ ((decide (a * 2 ^ s = 0) && decide (b * 2 ^ t = 0)) = true) := by
   simp only [Bool.and_eq_true, decide_eq_true_eq, z]; exact h0
  rw [if_neg this]
  by_cases hc : compare (a : Int) (b : Int) = win
  ·rw [if_pos (by rw [hc]; simp), if_pos hc]
  ·rw [if_neg (by simpa using hc), if_neg hc]
theorem aD3 (a b : Nat) (ha : a < 9007199254740992) (hb : b < 9007199254740992) : KA (F64 a) (F64 b) = F64 (max a b) := by
 unfold KA
 rw [bF4 false .gt a b ha hb]
 split
 ·rename_i h; rw [h.1, h.2]; rfl
 ·split
  ·rename_i h; have := Int.compare_eq_gt.1 h; rw [show max a b = a by omega]
  ·rename_i h; have : ¬ (a : Int) > (b : Int) := fun h' => h (Int.compare_eq_gt.2 h'); rw [show max a b = b by omega]
theorem dG3 (a b : Nat) (ha : a < 9007199254740992) (hb : b < 9007199254740992) : TF (F64 a) (F64 b) = F64 (min a b) := by
 unfold TF
 rw [bF4 true .lt a b ha hb]
 split
 ·rename_i h; rw [h.1, h.2]; rfl
 ·split
  ·rename_i h; have := Int.compare_eq_lt.1 h; rw [show min a b = a by omega]
  ·rename_i h; have : ¬ (a : Int) < (b : Int) := fun h' => h (Int.compare_eq_lt.2 h'); rw [show min a b = b by omega]
end Go.Proofs.YticibdjilmclgaaDoorZF
namespace Go.Proofs.YticibdjilmclgaaDoorZF
open Go Ieee
set_option linter.unusedVariables false
set_option linter.unusedSimpArgs false
end Go.Proofs.YticibdjilmclgaaDoorZF
namespace Go.Proofs.YticibdjilmclgaaDoorZF
open Go
set_option linter.unusedVariables false
set_option linter.unusedSimpArgs false
theorem bV1 (n : Nat) (a b : Nat) : g93 n a b = some (TF a b, ()) := rfl
theorem RJ (n : Nat) (a b : Nat) : g72 n a b = some (KA a b, ()) := rfl
end Go.Proofs.YticibdjilmclgaaDoorZF
namespace Go.Proofs.YticibdjilmclgaaDoorZF
open Go Ieee
set_option linter.unusedVariables false
set_option linter.unusedSimpArgs false
theorem a8 {a b : List Int} {P Q R : ByteArray} (ha : Valids a) (hb : Valids b) (h1 : enc a = P ++ Q) (h2 : enc b = Q ++ R) : ∃ x o y, a = x ++ o ∧ b = o ++ y ∧ P = enc x ∧ Q = enc o ∧ R = enc y := by
 obtain ⟨x, o, e1, e2, e3⟩ := tN h1 (fun f t hf => by
  have hh := congrArg bl h2
  rw [dJ, hf] at hh
  cases b with
  | nil => cases (show ([] : List UInt8) = f :: t ++ bl R from hh)
  | cons r b =>
   obtain ⟨f', t', g1, g2, _⟩ := qR r
   rw [cW, g1] at hh
   simp only [List.cons_append, List.cons.injEq] at hh
   rw [← hh.1]; exact g2)
 subst e1
 have ho : Valids o := fun z hz => ha z (by simp [hz])
 rw [e3] at h2
 obtain ⟨y, hy, hR⟩ := nM hb ho h2
 exact ⟨x, o, y, rfl, hy, e2, e3, hR⟩
theorem dO3 (n : Nat) (hn : Big ≤ n) (t p : ByteArray) (ht : t.size ≤ 1000000000) (hp : p.size ≤ 1000000000) : ∃ r : Int, g94 n t p = some (r, ()) ∧ (r = -1 ∨ (0 ≤ r ∧ r + p.size ≤ t.size ∧ bD t r (r + p.size) = p)) := by
 have hB : (4611686018427387904 : Nat) ≤ n := hn
 dsimp only [g94, O7, bS3, aY3, bP3]
 have key : ∀ (d i m : Nat), t.size + 1 - i = d → d < m → i ≤ t.size + 1 → ∃ r : Int, g94_3L n (fun v4 => @some (DenR [.dat (.int .i64)]) (v4, ())) (bH4 n (fun v4 => some (v4, ()))) m t p (i : Int) = some (r, ()) ∧ (r = -1 ∨ (0 ≤ r ∧ r + p.size ≤ t.size ∧ bD t r (r + p.size) = p)) := by
  intro d
  induction d with
  | zero =>
   intro i m hd hm hi
   obtain ⟨m, rfl⟩ : ∃ m', m = m' + 1 := ⟨m - 1, by omega⟩
   rw [g94_3L.eq_2, K0, aF (by omega) (by omega), bdF (by omega)]
   exact ⟨-1, rfl, .inl rfl⟩
  | succ d ih =>
   intro i m hd hm hi
   obtain ⟨m, rfl⟩ : ∃ m', m = m' + 1 := ⟨m - 1, by omega⟩
   rw [g94_3L.eq_2, K0, aF (n := (i : Int) + (p.size : Int)) (by omega) (by omega), aF (n := (i : Int) + 1) (by omega) (by omega)]
   by_cases c : (i : Int) + (p.size : Int) ≤ (t.size : Int)
   ·rw [bdT c, aW (by omega) (by omega) (by omega)]
    by_cases c2 : bD t (i : Int) ((i : Int) + (p.size : Int)) = p
    ·rw [biT (by rw [eV]; simpa using c2)]
     exact ⟨(i : Int), rfl, .inr ⟨by omega, c, c2⟩⟩
    ·rw [biF (by rw [eV]; simpa using c2), show (i : Int) + 1 = ((i + 1 : Nat) : Int) by omega]
     exact ih (i + 1) m (by omega) (by omega) (by omega)
   ·rw [bdF c]
    exact ⟨-1, rfl, .inl rfl⟩
 exact key (t.size + 1) 0 n (by omega) (by omega) (by omega)
def Ov (X Y : List Int) (k : Nat) : Prop := k ≤ X.length ∧ k ≤ Y.length ∧ X.drop (X.length - k) = Y.take k
theorem Ov.zero (X Y : List Int) : Ov X Y 0 := ⟨Nat.zero_le _, Nat.zero_le _, by simp⟩
theorem aX5 (n : Nat) (hn : Big ≤ n) (v1 v2 : ByteArray) (L : Nat) (h1 : v1.size = L) (h2 : v2.size = L) (hne : v1 ≠ v2) (hL : L ≤ 100000000) :
  ∀ (d best len m : Nat), L + 1 - len = d → d < m → 1 ≤ len → len ≤ L → Ov (aD v1) (aD v2) best →
   ∃ k : Nat, g74_4L n (fun v10 => R3 n (fun v6 => @some (DenR [.dat (.int .i64)]) (v6, ())) v10) m v1 v2 (L : Int) (best : Int) (len : Int) = some ((k : Int), ()) ∧ Ov (aD v1) (aD v2) k := by
 have l1 := aK v1
 have l2 := aK v2
 have hOv : ∀ k : Nat, k ≤ L → bD v1 ((L : Int) - (k : Int)) (L : Int) = bD v2 0 (k : Int) → Ov (aD v1) (aD v2) k := fun k hk he => by
  refine ⟨by omega, by omega, ?_⟩
  have := congrArg aD he
  rw [bM, bM, dY _ _ _ (by omega), cH] at this
  rw [show ((L : Int) - (k : Int)).toNat = (aD v1).length - k by omega] at this
  exact this
 have hlt : ∀ k : Nat, k ≤ L → Ov (aD v1) (aD v2) k → k < L := fun k hk ho => by
  rcases Nat.lt_or_ge k L with h | h
  ·exact h
  ·exfalso
   have e := ho.2.2
   rw [show (aD v1).length - k = 0 by omega, List.drop_zero, List.take_of_length_le (by omega)] at e
   exact hne (cM e)
 intro d
 induction d using Nat.strongRecOn with
 | _ d ih =>
  intro best len m hd hm hl1 hl2 hb
  obtain ⟨m, rfl⟩ : ∃ m', m = m' + 1 := ⟨m - 1, by omega⟩
  have hlm : len ≤ 100000000 := by omega
  have hw : w64 ((L : Int) - (len : Int)) = (L : Int) - (len : Int) := aF (by omega) (by omega)
  have hcs := iS (z := v1) (a := (L : Int) - (len : Int)) (b := (L : Int)) (by omega) (by omega) (by omega)
  rw [g74_4L.eq_2, bE0, h1, hw, aW (by omega) (by omega) (by omega)]
  obtain ⟨r, hr, hr2⟩ := dO3 n hn v2 (bD v1 ((L : Int) - (len : Int)) (L : Int)) (by omega) (by omega)
  rw [aJ hr]
  simp only
  rcases hr2 with rfl | ⟨r1, r2, r3⟩
  ·rw [biT (by rfl)]
   exact ⟨best, rfl, hb⟩
  ·obtain ⟨f, rfl⟩ : ∃ f : Nat, r = (f : Int) := ⟨r.toNat, by omega⟩
   rw [hcs] at r2
   rw [biF (show ((f : Int) == (-1 : Int)) = false by rw [beq_eq_false_iff_ne]; omega)]
   have hw2 : w64 ((len : Int) + (f : Int)) = ((len + f : Nat) : Int) := by rw [aF (by omega) (by omega)]; omega
   have hw3 : w64 (((len + f : Nat) : Int) + 1) = ((len + f + 1 : Nat) : Int) := by rw [aF (by omega) (by omega)]; omega
   have hw4 : w64 ((L : Int) - ((len + f : Nat) : Int)) = (L : Int) - ((len + f : Nat) : Int) := aF (by omega) (by omega)
   simp only [hw2, hw3, hw4]
   by_cases hf : f = 0
   ·subst hf
    rw [biT (by rfl)]
    have hov : Ov (aD v1) (aD v2) (len + 0) := hOv _ (by omega) (by
     rw [Nat.add_zero, ← r3, hcs]
     congr 1; omega)
    have := hlt _ (by omega) hov
    exact ih (L + 1 - (len + 0 + 1)) (by omega) (len + 0) (len + 0 + 1) m rfl (by omega) (by omega) (by omega) hov
   ·rw [biF (show ((f : Int) == (0 : Int)) = false by rw [beq_eq_false_iff_ne]; omega), aW (by omega) (by omega) (by omega), aW (by omega) (by omega) (by omega)]
    by_cases c : bD v1 ((L : Int) - ((len + f : Nat) : Int)) (L : Int) = bD v2 0 ((len + f : Nat) : Int)
    ·rw [biT (by rw [eV]; simpa using c)]
     have hov := hOv _ (by omega) c
     have := hlt _ (by omega) hov
     exact ih (L + 1 - (len + f + 1)) (by omega) (len + f) (len + f + 1) m rfl (by omega) (by omega) (by omega) hov
    ·rw [biF (by rw [eV]; simpa using c)]
     exact ih (L + 1 - (len + f)) (by omega) best (len + f) m rfl (by omega) (by omega) (by omega) hb
theorem FN (n : Nat) (hn : Big ≤ n) (p0) (a b : ByteArray) (ha : a.size ≤ 100000000) (hb : b.size ≤ 100000000) : ∃ k : Nat, g74 n p0 a b = some ((k : Int), ()) ∧ Ov (aD a) (aD b) k := by
 have hB : (4611686018427387904 : Nat) ≤ n := hn
 have la := aK a
 have lb := aK b
 dsimp only [g74, I7, aS8]
 by_cases c1 : a.size = 0
 ·rw [biT (by rw [beq_iff_eq]; omega)]; exact ⟨0, rfl, Ov.zero _ _⟩
 rw [biF (by rw [beq_eq_false_iff_ne]; omega)]
 by_cases c2 : b.size = 0
 ·rw [biT (by rw [beq_iff_eq]; omega)]; exact ⟨0, rfl, Ov.zero _ _⟩
 rw [biF (by rw [beq_eq_false_iff_ne]; omega)]
 have mid : ∀ (v1 v2 : ByteArray) (L : Nat), v1.size = L → v2.size = L → 0 < L → L ≤ 100000000 → L = min a.size b.size → ∃ k : Nat, E6 n (fun v1 v2 v9 v10 v11 => aW9 n (fun v10 => R3 n (fun v6 => @some (DenR [.dat (.int .i64)]) (v6, ())) v10) v1 v2 v9 v10 v11) (fun v6 => some (v6, ())) v1 v2 (a.size : Int) (b.size : Int) = some ((k : Int), ()) ∧ Ov (aD v1) (aD v2) k := by
  intro v1 v2 L h1 h2 h0 hL hm
  have q1 := aK v1
  have q2 := aK v2
  unfold E6
  rw [bV1, Option.bind_some]
  simp only
  rw [show TF (floatOfInt .f64 (a.size : Int)) (floatOfInt .f64 (b.size : Int)) = F64 (min a.size b.size) from dG3 a.size b.size (by omega) (by omega), ← hm, KI L (by omega)]
  simp only [onS]
  by_cases c : v1 = v2
  ·rw [biT (by rw [eV]; simpa using c)]
   refine ⟨L, rfl, by omega, by omega, ?_⟩
   rw [c, show (aD v2).length - L = 0 by omega, List.drop_zero, List.take_of_length_le (by omega)]
  ·rw [biF (by rw [eV]; simpa using c)]
   exact aX5 n hn v1 v2 L h1 h2 c hL L 0 1 n (by omega) (by omega) (by omega) (by omega) (Ov.zero _ _)
 have fin : ∀ (v1 v2 : ByteArray) (k : Nat), aD v1 = (aD a).drop (a.size - v1.size) → aD v2 = (aD b).take v2.size → v1.size ≤ a.size → v2.size ≤ b.size → Ov (aD v1) (aD v2) k → Ov (aD a) (aD b) k := by
  intro v1 v2 k e1 e2 s1 s2 ho
  have q1 := aK v1
  have q2 := aK v2
  obtain ⟨o1, o2, o3⟩ := ho
  refine ⟨by omega, by omega, ?_⟩
  rw [q1] at o3
  rw [e1, e2, List.drop_drop, List.take_take] at o3
  rw [show a.size - v1.size + (v1.size - k) = (aD a).length - k by omega, show min k v2.size = k by omega] at o3
  exact o3
 by_cases c3 : a.size > b.size
 ·rw [bdT (by omega), aF (by omega) (by omega), aW (by omega) (by omega) (by omega)]
  have hs := iS (z := a) (a := (a.size : Int) - (b.size : Int)) (b := (a.size : Int)) (by omega) (by omega) (by omega)
  obtain ⟨k, e, ho⟩ := mid (bD a ((a.size : Int) - (b.size : Int)) (a.size : Int)) b b.size (by omega) rfl (by omega) hb (by omega)
  refine ⟨k, e, fin _ b k ?_ ?_ (by omega) (by omega) ho⟩
  ·rw [bM, dY _ _ _ (by omega)]; congr 1; omega
  ·rw [List.take_of_length_le (by omega)]
 ·rw [bdF (by omega)]
  by_cases c4 : a.size < b.size
  ·rw [bdT (by omega), aW (by omega) (by omega) (by omega)]
   have hs := iS (z := b) (a := 0) (b := (a.size : Int)) (by omega) (by omega) (by omega)
   obtain ⟨k, e, ho⟩ := mid a (bD b 0 (a.size : Int)) a.size rfl (by omega) (by omega) ha (by omega)
   refine ⟨k, e, fin a _ k ?_ ?_ (by omega) (by omega) ho⟩
   ·rw [Nat.sub_self, List.drop_zero]
   ·rw [bM, cH]; congr 1; omega
  ·rw [bdF (by omega)]
   obtain ⟨k, e, ho⟩ := mid a b a.size rfl (by omega) (by omega) ha (by omega)
   refine ⟨k, e, fin a b k ?_ ?_ (by omega) (by omega) ho⟩
   ·rw [Nat.sub_self, List.drop_zero]
   ·rw [List.take_of_length_le (by omega)]
theorem CJ (n : Nat) (hn : Big ≤ n) (p0) (a b : List Int) (ha : Valids a) (hb : Valids b) (la : a.length ≤ 10000000) (lb : b.length ≤ 10000000) :
  ∃ x o y, a = x ++ o ∧ b = o ++ y ∧ g74 n p0 (enc a) (enc b) = some (((enc o).size : Int), ()) := by
 have e1 := aP a
 have e2 := aP b
 obtain ⟨k, hk, o1, o2, o3⟩ := FN n hn p0 (enc a) (enc b) (by omega) (by omega)
 have l1 := aK (enc a)
 have l2 := aK (enc b)
 have s1 := iS (z := enc b) (a := 0) (b := (k : Int)) (by omega) (by omega) (by omega)
 have hp : enc a = bD (enc a) 0 (((enc a).size : Int) - (k : Int)) ++ bD (enc b) 0 (k : Int) := by
  apply cM
  rw [bE, bM, bM, cH, cH, show ((k : Int)).toNat = k by omega, ← o3, show (((enc a).size : Int) - (k : Int)).toNat = (aD (enc a)).length - k by omega, List.take_append_drop]
 have hq : enc b = bD (enc b) 0 (k : Int) ++ bD (enc b) (k : Int) ((enc b).size : Int) := by
  apply cM
  rw [bE, bM, bM, cH, dY _ _ _ (by omega), List.take_append_drop]
 obtain ⟨x, o, y, q1, q2, q3, q4, q5⟩ := a8 ha hb hp hq
 refine ⟨x, o, y, q1, q2, ?_⟩
 rw [hk, ← q4, s1]
 first | rfl | (congr 2; omega)
theorem GP (c : Nat) (hc : c < 9007199254740992) : ∃ x, floatBits .quo .f64 (floatOfInt .f64 (c : Int)) (4611686018427387904 : Nat) = some x := by
 obtain ⟨m, p, h1, _⟩ := ZT c hc
 have h2 : ∃ m' p', double.read 4611686018427387904 = .number false m' p' ∧ m' ≠ 0 := ⟨_, _, rfl, by decide⟩
 obtain ⟨m', p', h2, h3⟩ := h2
 obtain ⟨q1, q2, h4⟩ := dF3 (m := m) (p := p) (q := p') h3 (double.fractionBits + 2)
 rw [oN]
 unfold floatBits Format.div
 show ∃ x, _ = some x
 simp only [FloatKind.format, h1, h2, h4]
 exact ⟨_, rfl⟩
end Go.Proofs.YticibdjilmclgaaDoorZF
namespace Go.Proofs.YticibdjilmclgaaDoorZF
open Go
set_option linter.unusedVariables false
set_option linter.unusedSimpArgs false
def nE : List Rp → Nat
 | [] => 0
 | d :: l => (if d.1 = 0 then 0 else 1) + nE l
theorem dS : ∀ x y, nE (x ++ y) = nE x + nE y
 | [], y => by simp [nE]
 | d :: x, y => by simp [nE, dS x y]; omega
theorem sE : ∀ x, nE x.reverse = nE x
 | [] => rfl
 | d :: x => by rw [List.reverse_cons, dS, sE x]; simp [nE]; omega
def b2 (b : Bool) : Nat := if b then 1 else 0
def gw : Bool → Bool → List Rp → Nat
 | p, q, [] => b2 p + b2 q
 | p, q, d :: l => if d.1 = 0 then b2 p + b2 q + gw false false l else gw (p || decide (d.1 = -1)) (q || decide (d.1 ≠ -1)) l
theorem T0 {d : Rp} (h : d.1 ≠ 0) (p q : Bool) (l : List Rp) : gw p q (d :: l) = gw (p || decide (d.1 = -1)) (q || decide (d.1 ≠ -1)) l := if_neg h
theorem dN9 {d : Rp} (h : d.1 = 0) (p q : Bool) (l : List Rp) : gw p q (d :: l) = b2 p + b2 q + gw false false l := if_pos h
theorem dB3 (b : Bool) : b2 b ≤ 1 := by cases b <;> decide
theorem N6 : ∀ (x : List Rp) (p q : Bool), gw p q x ≤ b2 p + b2 q + nE x
 | [], p, q => by simp [gw, nE]
 | d :: x, p, q => by
  unfold gw nE
  by_cases h : d.1 = 0
  ·rw [if_pos h, if_pos h]
   have := N6 x false false
   simp only [b2] at *
   simp at this
   omega
  ·rw [if_neg h, if_neg h]
   have := N6 x (p || decide (d.1 = -1)) (q || decide (d.1 ≠ -1))
   by_cases h1 : d.1 = -1
   ·rw [decide_eq_true h1, decide_eq_false (by simpa using h1)] at this
    rw [decide_eq_true h1, decide_eq_false (by simpa using h1)]
    have e : b2 (p || true) ≤ 1 := dB3 _
    simp only [Bool.or_false] at *
    omega
   ·rw [decide_eq_false h1, decide_eq_true (show d.1 ≠ -1 from h1)] at this
    rw [decide_eq_false h1, decide_eq_true (show d.1 ≠ -1 from h1)]
    have e : b2 (q || true) ≤ 1 := dB3 _
    simp only [Bool.or_false] at *
    omega
theorem LI : ∀ (Y : List Rp) (p q : Bool), gw true true Y + b2 p + b2 q ≤ gw p q Y + 2
 | [], p, q => by simp [gw, b2]; omega
 | d :: Y, p, q => by
  unfold gw
  by_cases h : d.1 = 0
  ·rw [if_pos h, if_pos h]; simp [b2]; omega
  ·rw [if_neg h, if_neg h]
   have h1 := LI Y (p || decide (d.1 = -1)) (q || decide (d.1 ≠ -1))
   simp only [Bool.true_or]
   have m : ∀ a b : Bool, b2 a ≤ b2 (a || b) := fun a b => by cases a <;> cases b <;> decide
   have := m p (decide (d.1 = -1))
   have := m q (decide (d.1 ≠ -1))
   omega
theorem L5 (e : List Int) (d1 d2 : Rp) (h1 : d1.1 ≠ 0) (h2 : d2.1 ≠ 0) (Y : List Rp) : ∀ (X : List Rp) (p q : Bool), gw p q (X ++ d1 :: (-1, e) :: (1, e) :: d2 :: Y) ≤ gw p q (X ++ d1 :: (0, e) :: d2 :: Y)
 | [], p, q => by
  simp only [List.nil_append]
  rw [T0 h1, T0 h1, T0 (d := ((-1 : Int), e)) (by simp), T0 (d := ((1 : Int), e)) (by simp), dN9 (d := ((0 : Int), e)) rfl]
  simp only [decide_true, Bool.or_true, ne_eq, not_true_eq_false, decide_false, Bool.or_false, show ¬ ((1 : Int) = -1) by omega, not_false_eq_true]
  have := LI (d2 :: Y) false false
  have hw : 1 ≤ gw false false (d2 :: Y) := by
   have big : ∀ (Y : List Rp) (p q : Bool), (p || q) = true → 1 ≤ gw p q Y := by
    intro Y
    induction Y with
    | nil => intro p q h; cases p <;> cases q <;> simp [gw, b2] at *
    | cons d Y ih =>
     intro p q h
     unfold gw
     split
     ·cases p <;> cases q <;> simp [b2] at * <;> omega
     ·exact ih _ _ (by cases p <;> cases q <;> simp at * )
   unfold gw
   rw [if_neg h2]
   exact big Y _ _ (by by_cases c : d2.1 = -1 <;> simp [c])
  have hp : 1 ≤ b2 (p || decide (d1.1 = -1)) + b2 (q || decide (¬ d1.1 = -1)) := by
   by_cases c : d1.1 = -1
   ·simp [c, b2]
   ·simp [c, b2]
  have e1 : b2 false = 0 := rfl
  rw [e1] at this
  have hb : gw true true (d2 :: Y) ≤ gw false false (d2 :: Y) + 1 := by
   unfold gw
   rw [if_neg h2, if_neg h2]
   simp only [Bool.true_or, Bool.false_or]
   have := LI Y (decide (d2.1 = -1)) (decide (d2.1 ≠ -1))
   by_cases c : d2.1 = -1
   ·rw [decide_eq_true c, decide_eq_false (by simpa using c)] at this ⊢
    simp only [b2] at this
    simp at this ⊢
    omega
   ·rw [decide_eq_false c, decide_eq_true (show d2.1 ≠ -1 from c)] at this ⊢
    simp only [b2] at this
    simp at this ⊢
    omega
  omega
 | d :: X, p, q => by
  simp only [List.cons_append]
  unfold gw
  have r1 := L5 e d1 d2 h1 h2 Y X
  by_cases h : d.1 = 0
  ·rw [if_pos h, if_pos h]; have := r1 false false; omega
  ·rw [if_neg h, if_neg h]; exact r1 _ _
theorem OM (u : List Int) : ∀ A : List Rp, nE (pushE u A) = nE A
 | [] => by simp [pushE, nE]
 | (k, s) :: A => by
  show nE (if k = 0 then (0, s ++ u) :: A else (0, u) :: (k, s) :: A) = _
  split
  ·rename_i h; simp [nE, h]
  ·simp [nE]
theorem aZ6 : ∀ {P : List Rp}, Eds P → nE P = P.length
 | [], _ => rfl
 | d :: P, h => by
  have hd := h d (by simp)
  unfold nE
  rw [if_neg (by omega), aZ6 fun e he => h e (by simp [he]), List.length_cons]; omega
theorem OW {A P : List Rp} (hP : Eds P) (t : List Int) : nE (stepE A P t) ≤ nE A + b2 (decide (cdR P ≠ 0)) + b2 (decide (ciR P ≠ 0)) := by
 have hc := xV hP
 unfold stepE
 by_cases h1 : 1 < P.length
 ·rw [if_pos h1]
  by_cases h2 : cdR P = 0
  ·rw [if_pos h2]
   have : ciR P ≠ 0 := by omega
   simp [nE, h2, this, b2]; omega
  ·rw [if_neg h2]
   by_cases h3 : ciR P = 0
   ·rw [if_pos h3]; simp [nE, h2, h3, b2]; omega
   ·rw [if_neg h3]
    have e : nE (fac A (aR P) (aQ P) t).A = nE A := by
     unfold fac; simp only; split
     ·rfl
     ·exact OM _ _
    simp [nE, h2, h3, b2, e]; omega
 ·rw [if_neg h1]
  by_cases h2 : P = []
  ·rw [if_pos h2, OM]; omega
  ·rw [if_neg h2]
   have e : nE ((0, t) :: (P.reverse ++ A)) = P.length + nE A := by
    show (if ((0 : Int) = 0) then 0 else 1) + nE (P.reverse ++ A) = _
    rw [if_pos rfl, dS, sE, aZ6 hP]; omega
   rw [e]
   have : P.length = 1 := by
    have := List.length_pos_iff.2 h2; omega
   by_cases c : cdR P = 0
   ·have : ciR P ≠ 0 := by omega
    simp [c, this, b2]; omega
   ·have : ciR P = 0 := by omega
    simp [c, this, b2]; omega
theorem IG : ∀ (R A P : List Rp), Eds P → Ops R → nE (run1 A P R).1 + b2 (decide (cdR (run1 A P R).2 ≠ 0)) + b2 (decide (ciR (run1 A P R).2 ≠ 0)) ≤ nE A + gw (decide (cdR P ≠ 0)) (decide (ciR P ≠ 0)) R
 | [], A, P, hP, _ => by
  rw [run1]
  exact Nat.le_of_eq (Nat.add_assoc _ _ _)
 | d :: R, A, P, hP, hR => by
  have hd := hR.cons.1
  rw [run1]
  unfold gw
  by_cases h : d.1 = 0
  ·rw [if_pos h, if_pos h]
   have h1 := IG R (stepE A P d.2) [] Eds.nil hR.cons.2
   have h2 := OW (A := A) hP d.2
   simp only [cdR, ciR, ne_eq, not_true_eq_false, decide_false] at h1
   simp only [ne_eq] at h2 h1 ⊢
   omega
  ·rw [if_neg h, if_neg h]
   have h1 := IG R A (P ++ [d]) (hP.snoc hd h) hR.cons.2
   have e1 : decide (cdR (P ++ [d]) ≠ 0) = (decide (cdR P ≠ 0) || decide (d.1 = -1)) := by
    rw [mT]; simp only [cdR]
    by_cases c : d.1 = -1 <;> simp [c]
   have e2 : decide (ciR (P ++ [d]) ≠ 0) = (decide (ciR P ≠ 0) || decide (d.1 ≠ -1)) := by
    rw [mW]; simp only [ciR]
    rcases hd with c | c | c
    ·simp [c]
    ·exact absurd c h
    ·simp [c]
   rw [e1, e2] at h1
   exact h1
theorem cI8 : ∀ A : List Rp, nE (chop A) ≤ nE A
 | [] => Nat.le_refl _
 | (k, s) :: A => by
  show nE (if s = [] then A else (k, s) :: A) ≤ _
  split
  ·simp [nE]
  ·exact Nat.le_refl _
theorem RO {x : List Rp} (hx : Ops x) : nE (join1 x) ≤ gw false false x := by
 unfold join1
 rw [sE]
 have h1 := IG x [] [] Eds.nil hx
 have h2 := jB x [] [] Eds.nil hx
 have h3 := OW (A := (run1 [] [] x).1) h2.2 []
 have h4 := cI8 (stepE (run1 [] [] x).1 (run1 [] [] x).2 [])
 simp only [cdR, ciR, ne_eq, not_true_eq_false, decide_false, nE] at h1
 simp only [ne_eq] at h3 h1
 omega
theorem QI : ∀ (k : Nat) (A R : List Rp) (ch : Bool), R.length = k → nE (slide A R ch).1 = nE (A.reverse ++ R) := by
 intro k
 induction k using Nat.strongRecOn with
 | _ k ih =>
  intro A R ch hk
  match R, hk with
  | [], _ => unfold slide; rfl
  | [a], _ => unfold slide; rfl
  | [a, b], _ => unfold slide; rfl
  | p :: c :: q :: R, hk =>
   simp only [List.length_cons] at hk
   have skip : nE (slide (p :: A) (c :: q :: R) ch).1 = nE (A.reverse ++ p :: c :: q :: R) := by
    rw [ih _ (by simp only [List.length_cons]; omega) (p :: A) (c :: q :: R) ch rfl]; simp
   unfold slide
   split
   ·rename_i h
    split
    ·rw [ih _ (by simp only [List.length_cons]; omega) _ _ _ rfl, List.reverse_cons, dS, dS, dS]
     simp [nE, h.1, h.2]; omega
    ·split
     ·rw [ih _ (by simp only [List.length_cons]; omega) _ _ _ rfl, List.reverse_cons, dS, dS, dS]
      simp [nE, h.1, h.2]
     ·exact skip
   ·exact skip
theorem GM : ∀ (k : Nat) {x : List Rp}, Ok x → nE (mergeN (k + 1) x) ≤ gw false false x
 | 0, x, hx => by
  have h1 := RO hx.ops
  have h2 := QI _ [] (join1 x) false rfl
  rw [List.reverse_nil, List.nil_append] at h2
  rw [mergeN]
  split
  ·rw [mergeN]; omega
  ·omega
 | k + 1, x, hx => by
  have h1 := RO hx.ops
  have h2 := QI _ [] (join1 x) false rfl
  rw [List.reverse_nil, List.nil_append] at h2
  rw [mergeN]
  split
  ·have h3 := GM k (x := (slide [] (join1 x) false).1) (Ok.slide _ rfl Ok.nil hx.join1)
   have h4 := N6 (slide [] (join1 x) false).1 false false
   have e : b2 false = 0 := rfl
   rw [e] at h4
   omega
  ·omega
theorem bB2 {x : List Rp} (hx : Ok x) : nE (merge x) ≤ gw false false x := GM _ hx
theorem uS (n : Nat) (hn : Big ≤ n) (t : List Int) (ht : Valids t) (hl : t.length ≤ 1000000000) : g62 n (enc t) = some ((t.length : Int), ()) := by
 have key : ∀ (v u : List Int) (m : Nat), t = u ++ v → v.length < m → g62_3L n (fun v2 => @some (DenR [.dat (.int .i64)]) (v2, ())) m (u.length : Int) (enc t) (enc u).size = some ((t.length : Int), ()) := by
  intro v
  induction v with
  | nil =>
   intro u m e hm
   obtain ⟨m, rfl⟩ : ∃ m', m = m' + 1 := ⟨m - 1, by simp at hm; omega⟩
   rw [List.append_nil] at e
   subst e
   rw [g62_3L.eq_2, S8]
   have : Nat.blt (enc t).size (enc t).size = false := by rw [Bool.eq_false_iff]; intro h; rw [Nat.blt_eq] at h; omega
   rw [this]; rfl
  | cons c v ih =>
   intro u m e hm
   obtain ⟨m, rfl⟩ : ∃ m', m = m' + 1 := ⟨m - 1, by omega⟩
   have hv : Utf8.valid c = true := ht c (by rw [e]; simp)
   have hs : (enc t).size = (enc u).size + ((Utf8.encode c).size + (enc v).size) := by rw [e, dZ, dL]
   have hp := iQ c
   have hd : (Utf8.decode (enc t) (enc u).size).2 = (Utf8.encode c).size := by
    have := lT (enc u) (enc v) c hv
    rw [e, aX, show enc (c :: v) = Utf8.encode c ++ enc v from gN c v, ← ByteArray.append_assoc, this]
   rw [g62_3L.eq_2, S8]
   have hll := congrArg List.length e
   simp only [List.length_append, List.length_cons] at hll
   have : Nat.blt (enc u).size (enc t).size = true := by rw [Nat.blt_eq]; omega
   rw [this, cond_true, hd, aF (by omega) (by omega)]
   have := ih (u ++ [c]) m (by rw [e]; simp) (by simp at hm; omega)
   rw [dZ, List.length_append] at this
   have e1 : (enc [c]).size = (Utf8.encode c).size := by rw [dL]; rfl
   rw [e1] at this
   have e2 : ((u.length + [c].length : Nat) : Int) = (u.length : Int) + 1 := by simp
   rw [e2] at this
   exact this
 dsimp only [g62, G5, aC9, bV6, bC9, bY1]
 have := key t [] n rfl (by unfold Big at hn; omega)
 exact this
def dlR (l : List Rp) : Nat := ((l.filter fun d => d.1 == -1).map fun d => d.2.length).sum
def inR (l : List Rp) : Nat := ((l.filter fun d => d.1 == 1).map fun d => d.2.length).sum
structure dS9 (p : List Rp) (lev ins del : Int) : Prop where
 i0 : 0 ≤ ins
 d0 : 0 ≤ del
 l0 : 0 ≤ lev
 up : lev ≤ (edR p : Int) - ins - del
 lo : (edR p : Int) - ins - del ≤ 2 * lev
 a : (dlR p : Int) - del - (inR p - ins) ≤ lev
 b : (inR p : Int) - ins - (dlR p - del) ≤ lev
theorem dG6 {x : List Rp} {c : Nat} (h : c + 1 < x.length) : ∃ X a b Y, x = X ++ a :: b :: Y ∧ X.length = c := by
 refine ⟨x.take c, x[c], x[c + 1], x.drop (c + 2), ?_, by rw [List.length_take]; omega⟩
 have h1 := List.drop_eq_getElem_cons (i := c) (l := x) (by omega)
 have h2 := List.drop_eq_getElem_cons (i := c + 1) (l := x) h
 rw [← h2, ← h1, List.take_append_drop]
structure xZ (x y : List Rp) : Prop where
 ok : Ok y
 src : bL y = bL x
 tgt : bK y = bK x
 ne : x ≠ [] → y ≠ []
theorem j4 {β : Type} (n : Nat) (hn : Big ≤ n) (p0) (kx : List Prt → Option β) : ∀ (d : Nat) (x : List Rp) (c m : Nat), x.length - (c + 1) = d → d < m → Ok x → (bL x).length + (bK x).length ≤ 1000000 → 2 * x.length ≤ 1000000 + c →
  x.length ≤ 1000000 → c ≤ 2000000 → ∃ y, g58_18L n kx m p0 (M x) ((c : Int) + 1) = kx (M y) ∧ (xZ x y ∧ nE y = nE x) ∧ y.length ≤ x.length + d := by
 intro d
 induction d using Nat.strongRecOn with
 | _ d ih =>
  intro x c m hd hm hx hT hL hxl hc
  obtain ⟨m, rfl⟩ : ∃ m', m = m' + 1 := ⟨m - 1, by omega⟩
  have hml := aY x
  rw [g58_18L.eq_2, YV]
  by_cases hlt : c + 1 < x.length
  ·obtain ⟨X, a, b, Y, hxe, hX⟩ := dG6 hlt
   subst hxe
   have hXM := aY X
   have hYM := aY Y
   have hlen : (X ++ a :: b :: Y).length = c + 2 + Y.length := by simp; omega
   have hMx : M (X ++ a :: b :: Y) = M X ++ (a.1, enc a.2) :: (b.1, enc b.2) :: M Y := by rw [bT]; rfl
   have w1 : w64 ((c : Int) + 1 - 1) = (c : Int) := by rw [aF (by omega) (by omega)]; omega
   have w2 : w64 ((c : Int) + 1 + 1) = (c : Int) + 2 := by rw [aF (by omega) (by omega)]; omega
   have w3 : w64 ((c : Int) + 2 + 1) = (c : Int) + 3 := by rw [aF (by omega) (by omega)]; omega
   have w4 : w64 ((c : Int) + 3 + 1) = (c : Int) + 4 := by rw [aF (by omega) (by omega)]; omega
   have q1 : rd (M (X ++ a :: b :: Y)) (c : Int) ((0 : Int), (⟨#[]⟩ : ByteArray)) = (a.1, enc a.2) := by rw [hMx]; exact eG (by omega)
   have q2 : rd (M (X ++ a :: b :: Y)) ((c : Int) + 1) ((0 : Int), (⟨#[]⟩ : ByteArray)) = (b.1, enc b.2) := by
    rw [hMx, show M X ++ (a.1, enc a.2) :: (b.1, enc b.2) :: M Y = (M X ++ [(a.1, enc a.2)]) ++ (b.1, enc b.2) :: M Y by simp]
    exact eG (by simp; omega)
   have R1 : ∀ (u z v : Prt), rd (M X ++ u :: z :: v :: M Y) (c : Int) ((0 : Int), (⟨#[]⟩ : ByteArray)) = u := fun u z v => eG (by omega)
   have R2 : ∀ (u z v : Prt), rd (M X ++ u :: z :: v :: M Y) ((c : Int) + 2) ((0 : Int), (⟨#[]⟩ : ByteArray)) = v := fun u z v => by
    rw [show M X ++ u :: z :: v :: M Y = (M X ++ [u, z]) ++ v :: M Y by simp]
    exact eG (by simp; omega)
   have S1 : ∀ (u z v w : Prt), (M X ++ u :: z :: v :: M Y).set ((c : Int)).toNat w = M X ++ w :: z :: v :: M Y := fun u z v w => fM (by omega)
   have S2 : ∀ (u z v w : Prt), (M X ++ u :: z :: v :: M Y).set ((c : Int) + 2).toNat w = M X ++ u :: z :: w :: M Y := fun u z v w => by
    rw [show M X ++ u :: z :: v :: M Y = (M X ++ [u, z]) ++ v :: M Y by simp, fM (by simp; omega)]
    simp
   have L1 : ∀ (u z v : Prt), ((M X ++ u :: z :: v :: M Y).length : Int) = (c : Int) + 3 + (Y.length : Int) := fun u z v => by simp; omega
   have skip1 : ∃ y, g58_18L n kx m p0 (M (X ++ a :: b :: Y)) ((c : Int) + 2) = kx (M y) ∧ (xZ (X ++ a :: b :: Y) y ∧ nE y = nE (X ++ a :: b :: Y)) ∧ y.length ≤ (X ++ a :: b :: Y).length + d := by
    obtain ⟨y, h1, h2, h3⟩ := ih ((X ++ a :: b :: Y).length - (c + 1 + 1)) (by omega) _ (c + 1) m rfl (by omega) hx hT (by omega) hxl (by omega)
    exact ⟨y, by rw [show (c : Int) + 2 = ((c + 1 : Nat) : Int) + 1 by omega]; exact h1, h2, by omega⟩
   have skip2 : ∃ y, g58_18L n kx m p0 (M (X ++ a :: b :: Y)) ((c : Int) + 3) = kx (M y) ∧ (xZ (X ++ a :: b :: Y) y ∧ nE y = nE (X ++ a :: b :: Y)) ∧ y.length ≤ (X ++ a :: b :: Y).length + d := by
    obtain ⟨y, h1, h2, h3⟩ := ih ((X ++ a :: b :: Y).length - (c + 2 + 1)) (by omega) _ (c + 2) m rfl (by omega) hx hT (by omega) hxl (by omega)
    exact ⟨y, by rw [show (c : Int) + 3 = ((c + 2 : Nat) : Int) + 1 by omega]; exact h1, h2, by omega⟩
   have ins : ∀ (u z v : Rp), OkR u → OkR z → OkR v → bL [u, z, v] = bL [a, b] → bK [u, z, v] = bK [a, b] → nE [u, z, v] = nE [a, b] →
     ∃ y, g58_18L n kx m p0 (M X ++ (u.1, enc u.2) :: (z.1, enc z.2) :: (v.1, enc v.2) :: M Y) ((c : Int) + 4) = kx (M y) ∧ (xZ (X ++ a :: b :: Y) y ∧ nE y = nE (X ++ a :: b :: Y)) ∧ y.length ≤ (X ++ a :: b :: Y).length + d := by
    intro u z v hu hz hv hs ht hne
    have hox := hx.of_append
    have hoy : Ok Y := hox.2.of_cons.2.of_cons.2
    have e1 : ∀ A : List Rp, X ++ u :: z :: v :: A = X ++ [u, z, v] ++ A := fun A => by simp
    have e2 : X ++ a :: b :: Y = X ++ [a, b] ++ Y := by simp
    have s1 : bL (X ++ u :: z :: v :: Y) = bL (X ++ a :: b :: Y) := by rw [e1, e2, bB, bB, bB, bB, hs]
    have s2 : bK (X ++ u :: z :: v :: Y) = bK (X ++ a :: b :: Y) := by rw [e1, e2, bA, bA, bA, bA, ht]
    have s3 : nE (X ++ u :: z :: v :: Y) = nE (X ++ a :: b :: Y) := by rw [e1, e2, dS, dS, dS, dS, hne]
    have hl3 : (X ++ u :: z :: v :: Y).length = c + 3 + Y.length := by simp; omega
    obtain ⟨y, h1, h2, h3⟩ := ih ((X ++ u :: z :: v :: Y).length - (c + 3 + 1)) (by omega) (X ++ u :: z :: v :: Y) (c + 3) m rfl (by omega) (hox.1.append (Ok.cons' hu (Ok.cons' hz (Ok.cons' hv hoy)))) (by rw [s1, s2]; exact hT) (by omega) (by omega) (by omega)
    refine ⟨y, ?_, ⟨⟨h2.1.ok, h2.1.src.trans s1, h2.1.tgt.trans s2, fun _ => h2.1.ne (by simp)⟩, h2.2.trans s3⟩, by omega⟩
    rw [show (c : Int) + 4 = ((c + 3 : Nat) : Int) + 1 by omega, ← h1, bT]
    rfl
   have hsp : ∀ z : Prt, g71 n (M (X ++ a :: b :: Y)) ((c : Int) + 1) (0 : Int) [z] = some (M X ++ (a.1, enc a.2) :: z :: (b.1, enc b.2) :: M Y, ()) := fun z => by
    have := jV n hn (M (X ++ a :: b :: Y)) [z] (c + 1) 0 (by omega) (by omega) (by simp)
    rw [show ((c + 1 : Nat) : Int) = (c : Int) + 1 by omega, show ((0 : Nat) : Int) = (0 : Int) from rfl] at this
    rw [this, hMx, show M X ++ (a.1, enc a.2) :: (b.1, enc b.2) :: M Y = (M X ++ [(a.1, enc a.2)]) ++ (b.1, enc b.2) :: M Y by simp, List.take_left' (by simp; omega), List.drop_left' (by simp; omega)]
    simp
   have hal := nP (x := X ++ a :: b :: Y)
   have ha1 : a.2.length ≤ 1000000 := by have := kM (l := X ++ a :: b :: Y) (d := a) (by simp); omega
   have hb1 : b.2.length ≤ 1000000 := by have := kM (l := X ++ a :: b :: Y) (d := b) (by simp); omega
   have hva := (hx a (by simp)).2
   have hvb := (hx b (by simp)).2
   have z1 := aP a.2
   have z2 := aP b.2
   rw [bdT (by omega)]
   simp only [w1, w2, w3, w4, q1, q2]
   rw [aM (by omega) (by omega)]
   by_cases ha : a.1 = -1
   ·rw [biT (by rw [ha]; rfl), aM (by omega) (by omega)]
    by_cases hb : b.1 = 1
    ·rw [biT (by rw [hb]; rfl), aM (by omega) (by omega), aM (by omega) (by omega)]
     obtain ⟨xa, o, yb, i1, i2, i3⟩ := CJ n hn p0 a.2 b.2 hva hvb (by omega) (by omega)
     obtain ⟨xb, o', ya, j1, j2, j3⟩ := CJ n hn p0 b.2 a.2 hvb hva (by omega) (by omega)
     rw [aJ i3, aJ j3]
     obtain ⟨f1, g1⟩ := GP a.2.length (by omega)
     obtain ⟨f2, g2⟩ := GP b.2.length (by omega)
     have ca := uS n hn a.2 hva (by omega)
     have cb := uS n hn b.2 hvb (by omega)
     have hea : enc a.2 = enc xa ++ enc o := by rw [i1, aX]
     have heb : enc b.2 = enc o ++ enc yb := by rw [i2, aX]
     have hea' : enc a.2 = enc o' ++ enc ya := by rw [j2, aX]
     have heb' : enc b.2 = enc xb ++ enc o' := by rw [j1, aX]
     have t1 := congrArg ByteArray.size hea
     have t2 := congrArg ByteArray.size heb
     have t3 := congrArg ByteArray.size hea'
     have t4 := congrArg ByteArray.size heb'
     rw [size_append] at t1 t2 t3 t4
     have k1 : bD (enc b.2) 0 ((enc o).size : Int) = enc o := by rw [heb]; exact cL _ _
     have k2 : bD (enc b.2) ((enc o).size : Int) ((enc b.2).size : Int) = enc yb := by
      have := dD (enc o) (enc yb); rw [← heb] at this; exact this
     have u1 : w64 (((enc a.2).size : Int) - ((enc o).size : Int)) = ((enc xa).size : Int) := by rw [aF (by omega) (by omega)]; omega
     have k3 : bD (enc a.2) 0 ((enc xa).size : Int) = enc xa := by rw [hea]; exact cL _ _
     have k4 : bD (enc a.2) 0 ((enc o').size : Int) = enc o' := by rw [hea']; exact cL _ _
     have k5 : bD (enc a.2) ((enc o').size : Int) ((enc a.2).size : Int) = enc ya := by
      have := dD (enc o') (enc ya); rw [← hea'] at this; exact this
     have u2 : w64 (((enc b.2).size : Int) - ((enc o').size : Int)) = ((enc xb).size : Int) := by rw [aF (by omega) (by omega)]; omega
     have k6 : bD (enc b.2) 0 ((enc xb).size : Int) = enc xb := by rw [heb']; exact cL _ _
     have vxa : Valids xa := fun q hq => hva q (by rw [i1]; simp [hq])
     have vo : Valids o := fun q hq => hva q (by rw [i1]; simp [hq])
     have vyb : Valids yb := fun q hq => hvb q (by rw [i2]; simp [hq])
     have vxb : Valids xb := fun q hq => hvb q (by rw [j1]; simp [hq])
     have vo' : Valids o' := fun q hq => hvb q (by rw [j1]; simp [hq])
     have vya : Valids ya := fun q hq => hva q (by rw [j2]; simp [hq])
     have ins1 := ins ((-1 : Int), xa) ((0 : Int), o) ((1 : Int), yb) ⟨.inl rfl, vxa⟩ ⟨.inr (.inl rfl), vo⟩ ⟨.inr (.inr rfl), vyb⟩ (by simp [bL, ha, hb, i1]) (by simp [bK, ha, hb, i2]) (by simp [nE, ha, hb])
     have ins2 := ins ((1 : Int), xb) ((0 : Int), o') ((-1 : Int), ya) ⟨.inr (.inr rfl), vxb⟩ ⟨.inr (.inl rfl), vo'⟩ ⟨.inl rfl, vya⟩ (by simp [bL, ha, hb, j2]) (by simp [bK, ha, hb, j1]) (by simp [nE, ha, hb])
     simp only [k1, u1, u2, nB rfl]
     by_cases hr : ((enc o).size : Int) ≥ ((enc o').size : Int)
     ·rw [bdT hr, aJ ca]
      simp only
      rw [g1]
      simp only [onS]
      cases (fGt .f64 (floatOfInt .f64 ((enc o).size : Int)) f1 || fEq .f64 (floatOfInt .f64 ((enc o).size : Int)) f1)
      ·rw [cond_false, aJ cb]
       simp only
       rw [g2]
       simp only [onS]
       cases (fGt .f64 (floatOfInt .f64 ((enc o).size : Int)) f2 || fEq .f64 (floatOfInt .f64 ((enc o).size : Int)) f2)
       ·rw [cond_false]; exact skip2
       ·rw [cond_true, aW (by omega) (by omega) (by omega), aJ (hsp _)]
        simp only [R1, R2, S1, S2, L1]
        rw [aW (by omega) (by omega) (by omega), aM (by omega) (by omega), aW (by omega) (by omega) (by omega), aM (by omega) (by omega), k3, k2, ha, hb]
        exact ins1
      ·rw [cond_true, aW (by omega) (by omega) (by omega), aJ (hsp _)]
       simp only [R1, R2, S1, S2, L1]
       rw [aW (by omega) (by omega) (by omega), aM (by omega) (by omega), aW (by omega) (by omega) (by omega), aM (by omega) (by omega), k3, k2, ha, hb]
       exact ins1
     ·rw [bdF hr, aJ ca]
      simp only
      rw [g1]
      simp only [onS]
      cases (fGt .f64 (floatOfInt .f64 ((enc o').size : Int)) f1 || fEq .f64 (floatOfInt .f64 ((enc o').size : Int)) f1)
      ·rw [cond_false, aJ cb]
       simp only
       rw [g2]
       simp only [onS]
       cases (fGt .f64 (floatOfInt .f64 ((enc o').size : Int)) f2 || fEq .f64 (floatOfInt .f64 ((enc o').size : Int)) f2)
       ·rw [cond_false]; exact skip2
       ·rw [cond_true, aW (by omega) (by omega) (by omega), aJ (hsp _)]
        simp only [R1, R2, S1, S2, L1]
        rw [aM (by omega) (by omega), aW (by omega) (by omega) (by omega), aM (by omega) (by omega), aM (by omega) (by omega), aW (by omega) (by omega) (by omega), aM (by omega) (by omega), k4, k5, k6]
        exact ins2
      ·rw [cond_true, aW (by omega) (by omega) (by omega), aJ (hsp _)]
       simp only [R1, R2, S1, S2, L1]
       rw [aM (by omega) (by omega), aW (by omega) (by omega) (by omega), aM (by omega) (by omega), aM (by omega) (by omega), aW (by omega) (by omega) (by omega), aM (by omega) (by omega), k4, k5, k6]
       exact ins2
    ·rw [biF (by rw [beq_eq_false_iff_ne]; exact hb)]; exact skip1
   ·rw [biF (by rw [beq_eq_false_iff_ne]; exact ha)]; exact skip1
  ·rw [bdF (by omega)]
   exact ⟨x, rfl, ⟨⟨hx, rfl, rfl, fun h => h⟩, rfl⟩, by omega⟩
def nq : List Rp → Nat
 | [] => 0
 | d :: l => (if d.1 = 0 then 1 else 0) + nq l
theorem vO : ∀ x y, nq (x ++ y) = nq x + nq y
 | [], y => by simp [nq]
 | d :: x, y => by simp [nq, vO x y]; omega
def IX (S : List Nat) : List Int := S.map (fun i : Nat => (i : Int))
theorem pO (x y : List Nat) : IX (x ++ y) = IX x ++ IX y := List.map_append
theorem mA (S : List Nat) : (IX S).length = S.length := List.length_map _
def TR (l : List Rp) : Prop := ∃ X d, l = X ++ [d] ∧ d.1 ≠ 0
structure dO5 (x : List Rp) (S : List Nat) (e : List Int) (ptr a b c d : Nat) : Prop where
 cd : 0 < c + d → TR (x.take ptr)
 eq : e = [] ∨ ∃ S' X Y, S = S' ++ [X.length] ∧ x = X ++ (0, e) :: Y ∧ X.length < ptr ∧ (∀ i (h : i < x.length), X.length < i → i < ptr → x[i].1 ≠ 0) ∧ (0 < a + b → TR X)
theorem VP {β : Type} (n : Nat) (hn : Big ≤ n) (p0) (kx : _ → List Prt → Bool → Option β) (L T : Nat) (hL : L ≤ 1000) (hT : T ≤ 1000000) : ∀ (μ : Nat) (x : List Rp) (S : List Nat) (e : List Int) (v5 : Bool) (ptr a b c d m : Nat), μ = nq x * (L + 1) + (x.length - ptr) → μ < m → ptr ≤ x.length → x.length + nq x ≤ L → Ok x → (bL x).length + (bK x).length ≤ T →
  (∀ i ∈ S, i < x.length) → dO5 x S e ptr a b c d → Valids e → c + d ≤ cP (x.take ptr) → a + b ≤ T → S.length + μ ≤ 1000000000 →
  ∃ y w, g58_13L n kx m p0 (M x) v5 (IX S) (enc e) (ptr : Int) (a : Int) (b : Int) (c : Int) (d : Int) = kx p0 (M y) w ∧ (xZ x y ∧ gw false false y ≤ gw false false x ∧ (w = false → v5 = false ∧ y = x)) ∧ y.length ≤ L := by
 intro μ
 induction μ using Nat.strongRecOn with
 | _ μ ih =>
  intro x S e v5 ptr a b c d m hμ hm hp hl hx ht hS hk he hcd hab hSl
  obtain ⟨m, rfl⟩ : ∃ m', m = m' + 1 := ⟨m - 1, by omega⟩
  have hml := aY x
  have hal := nP (x := x)
  have htk := mE x ptr
  rw [g58_13L.eq_2, IR, bA3]
  by_cases hlt : ptr < x.length
  ·rw [bdT (by omega)]
   unfold UB JS aD0
   have hI : ptr < (M x).length := by omega
   have m1 : (M x)[ptr] = emb x[ptr] := List.getElem_map _
   have hrd : rd (M x) (ptr : Int) ((0 : Int), (⟨#[]⟩ : ByteArray)) = (x[ptr].1, enc x[ptr].2) := by rw [GG hI, m1]; rfl
   have hts : cP (x.take (ptr + 1)) = cP (x.take ptr) + x[ptr].2.length := by rw [List.take_succ_eq_append_getElem hlt, eN, bZ, bI3]; omega
   have htk2 := mE x (ptr + 1)
   have hxs := List.drop_eq_getElem_cons hlt
   have hxe : x = x.take ptr ++ x[ptr] :: x.drop (ptr + 1) := by rw [← hxs, List.take_append_drop]
   have hop := hx x[ptr] (by simp)
   have wp : w64 ((ptr : Int) + 1) = ((ptr + 1 : Nat) : Int) := by rw [aF (by omega) (by omega)]; omega
   rw [aM (by omega) (by omega), hrd]
   unfold P5
   dsimp only
   by_cases h0 : x[ptr].1 = 0
   ·rw [biT (by rw [h0]; rfl)]
    unfold bH2
    dsimp only
    rw [bX (by rw [mA]; simp; omega), aM (by omega) (by omega), hrd]
    unfold QN
    simp only [wp]
    have hd0 : x[ptr] = ((0 : Int), x[ptr].2) := by rw [← h0]
    obtain ⟨y, w, e1, e2, e3⟩ := ih (nq x * (L + 1) + (x.length - (ptr + 1))) (by omega) x (S ++ [ptr]) x[ptr].2 v5 (ptr + 1) c d 0 0 m rfl (by omega) (by omega) hl hx ht (fun i hi => by rcases List.mem_append.1 hi with hi | hi; exact hS i hi; rw [List.mem_singleton.1 hi]; exact hlt) ⟨fun h => absurd h (by omega), .inr ⟨S, x.take ptr, x.drop (ptr + 1), by rw [List.length_take]; congr 2; omega, by rw [← hd0]; exact hxe, by rw [List.length_take]; omega, fun i hi q1 q2 => by rw [List.length_take] at q1; omega, hk.cd⟩⟩ hop.2 (by omega) (by omega) (by simp; omega)
    refine ⟨y, w, ?_, e2, e3⟩
    rw [pO] at e1
    exact e1
   ·rw [biF (by rw [beq_eq_false_iff_ne]; exact h0)]
    unfold D2
    skip
    have hcnt := uS n hn x[ptr].2 hop.2 (by omega)
    have hcnte : e.length ≤ 1000000 := by
     rcases hk.eq with rfl | ⟨S', X, Y, q1, q2, _⟩
     ·simp
     ·have : e.length ≤ cP x := kM (l := x) (d := (0, e)) (by rw [q2]; simp)
      omega
    have hce := uS n hn e he (by omega)
    have hends : TR (x.take (ptr + 1)) := ⟨x.take ptr, x[ptr], List.take_succ_eq_append_getElem hlt, h0⟩
    have hk' : ∀ c' d' : Nat, dO5 x S e (ptr + 1) a b c' d' := fun c' d' => ⟨fun _ => hends, by
     rcases hk.eq with h | ⟨S', X, Y, q1, q2, q3, q4, q5⟩
     ·exact .inl h
     ·refine .inr ⟨S', X, Y, q1, q2, by omega, fun i hi r1 r2 => ?_, q5⟩
      by_cases hip : i = ptr
      ·subst hip; exact h0
      ·exact q4 i hi r1 (by omega)⟩
    have six : ∀ c' d' : Nat, c' + d' ≤ cP (x.take (ptr + 1)) → ∃ y w, H0 n (fun p0 x1 v5 x6 v7 v8 v9 v10 v11 v12 => QN n (g58_13L n kx m) p0 x1 v5 x6 v7 v8 v9 v10 v11 v12) p0 (M x) v5 (IX S) (enc e) (ptr : Int) (a : Int) (b : Int) (c' : Int) (d' : Int) = kx p0 (M y) w ∧ (xZ x y ∧ gw false false y ≤ gw false false x ∧ (w = false → v5 = false ∧ y = x)) ∧ y.length ≤ L := by
     intro c' d' hcd'
     have stay : ∃ y w, g58_13L n kx m p0 (M x) v5 (IX S) (enc e) ((ptr + 1 : Nat) : Int) (a : Int) (b : Int) (c' : Int) (d' : Int) = kx p0 (M y) w ∧ (xZ x y ∧ gw false false y ≤ gw false false x ∧ (w = false → v5 = false ∧ y = x)) ∧ y.length ≤ L :=
      ih (nq x * (L + 1) + (x.length - (ptr + 1))) (by omega) x S e v5 (ptr + 1) a b c' d' m rfl (by omega) (by omega) hl hx ht hS (hk' c' d') he hcd' hab (by omega)
     unfold H0
     dsimp only
     rw [RJ, Option.bind_some]
     simp only
     rw [show KA (floatOfInt .f64 (a : Int)) (floatOfInt .f64 (b : Int)) = F64 (max a b) from aD3 a b (by omega) (by omega), KI _ (by omega)]
     simp only [onS]
     rw [RJ, Option.bind_some]
     simp only
     rw [show KA (floatOfInt .f64 (c' : Int)) (floatOfInt .f64 (d' : Int)) = F64 (max c' d') from aD3 c' d' (by omega) (by omega), KI _ (by omega)]
     simp only [onS]
     rw [aJ hce]
     unfold QN
     simp only [wp]
     by_cases g1 : (e.length : Int) > 0
     ·rw [bdT g1, aJ hce]
      simp only
      by_cases g2 : (e.length : Int) ≤ ((max a b : Nat) : Int)
      ·rw [bdT g2, aJ hce]
       simp only
       by_cases g3 : (e.length : Int) ≤ ((max c' d' : Nat) : Int)
       ·rw [bdT g3]
        have hne : e ≠ [] := fun h => by rw [h] at g1; simp at g1
        obtain ⟨S', X, Y, q1, q2, q3, q4, q5⟩ := hk.eq.resolve_left hne
        have hSlen : (IX S).length = S'.length + 1 := by rw [mA, q1]; simp
        have hXl : X.length < x.length := by rw [q2]; simp
        have hSS : S'.length + 1 ≤ 1000000000 := by rw [q1, List.length_append] at hSl; simp only [List.length_cons, List.length_nil] at hSl; omega
        have wS : w64 (((IX S).length : Int) - 1) = (S'.length : Int) := by rw [hSlen, aF (by omega) (by omega)]; omega
        have rS : rd (IX S) (S'.length : Int) (0 : Int) = (X.length : Int) := by
         rw [q1, pO]
         exact eG (by rw [mA])
        have hMx : M x = M X ++ ((0 : Int), enc e) :: M Y := by rw [q2, bT]; rfl
        have hsp : g71 n (M x) (X.length : Int) (0 : Int) [((-1 : Int), enc e)] = some (M X ++ ((-1 : Int), enc e) :: ((0 : Int), enc e) :: M Y, ()) := by
         have := jV n hn (M x) [((-1 : Int), enc e)] X.length 0 (by omega) (by omega) (by simp)
         rw [show ((0 : Nat) : Int) = (0 : Int) from rfl] at this
         rw [this, hMx, Nat.add_zero, List.take_left' (aY X), List.drop_left' (aY X)]
         simp
        have wX : w64 ((X.length : Int) + 1) = (X.length : Int) + 1 := aF (by omega) (by omega)
        have rX : rd (M X ++ ((-1 : Int), enc e) :: ((0 : Int), enc e) :: M Y) ((X.length : Int) + 1) ((0 : Int), (⟨#[]⟩ : ByteArray)) = ((0 : Int), enc e) := by
         rw [show M X ++ ((-1 : Int), enc e) :: ((0 : Int), enc e) :: M Y = (M X ++ [((-1 : Int), enc e)]) ++ ((0 : Int), enc e) :: M Y by simp]
         exact eG (by simp [aY])
        have sX : ∀ w : Prt, (M X ++ ((-1 : Int), enc e) :: ((0 : Int), enc e) :: M Y).set ((X.length : Int) + 1).toNat w = M X ++ ((-1 : Int), enc e) :: w :: M Y := fun w => by
         rw [show M X ++ ((-1 : Int), enc e) :: ((0 : Int), enc e) :: M Y = (M X ++ [((-1 : Int), enc e)]) ++ ((0 : Int), enc e) :: M Y by simp, fM (by simp [aY])]
         simp
        have hlen2 : ((M X ++ ((-1 : Int), enc e) :: ((0 : Int), enc e) :: M Y).length : Int) = (x.length : Int) + 1 := by rw [q2]; simp [aY]; omega
        simp only [wS, rS]
        rw [aM (by omega) (by rw [hSlen]; omega), aJ hsp]
        simp only [wX, rX, sX, hlen2]
        rw [aM (by omega) (by omega), aW (by omega) (by omega) (by rw [hSlen]; omega)]
        have hx' : Ok (X ++ (-1, e) :: (1, e) :: Y) := by
         have hx2 := hx
         rw [q2] at hx2
         have h1 := hx2.of_append
         exact h1.1.append (Ok.cons' ⟨.inl rfl, he⟩ (Ok.cons' ⟨.inr (.inr rfl), he⟩ h1.2.of_cons.2))
        have hMx' : M (X ++ (-1, e) :: (1, e) :: Y) = M X ++ ((-1 : Int), enc e) :: ((1 : Int), enc e) :: M Y := by rw [bT]; rfl
        have hs' : bL (X ++ (-1, e) :: (1, e) :: Y) = bL x := by rw [q2, bB, bB]; simp [bL]
        have ht' : bK (X ++ (-1, e) :: (1, e) :: Y) = bK x := by rw [q2, bA, bA]; simp [bK]
        have hq' : nq (X ++ (-1, e) :: (1, e) :: Y) + 1 = nq x := by rw [q2, vO, vO]; simp [nq]; omega
        have hgw : gw false false (X ++ (-1, e) :: (1, e) :: Y) ≤ gw false false x := by
         obtain ⟨X', d1, r1, r2⟩ := q5 (by omega)
         have hYl : x.length = X.length + 1 + Y.length := by rw [q2]; simp; omega
         have hlt2 : X.length + 1 < x.length := by omega
         cases Y with
         | nil => simp at hYl; omega
         | cons d2 Y2 =>
          have hd2 : d2.1 ≠ 0 := by
           have hg : x[X.length + 1] = d2 := by
            simp only [q2, List.getElem_append_right (show X.length ≤ X.length + 1 by omega), Nat.add_sub_cancel_left, List.getElem_cons_succ, List.getElem_cons_zero]
           by_cases hip : X.length + 1 = ptr
           ·rw [← hg]; simp only [hip]; exact h0
           ·rw [← hg]; exact q4 _ hlt2 (by omega) (by omega)
          rw [q2, r1]
          have := L5 e d1 d2 r2 hd2 Y2 X' false false
          simpa using this
        have hl' : (X ++ (-1, e) :: (1, e) :: Y).length = x.length + 1 := by rw [q2]; simp; try omega
        have hmul : nq x * (L + 1) = nq (X ++ (-1, e) :: (1, e) :: Y) * (L + 1) + (L + 1) := by rw [← hq', Nat.succ_mul]
        have go : ∀ (S2 : List Nat) (p2 : Nat), (∀ i ∈ S2, i ∈ S) → S2.length ≤ S.length → p2 ≤ x.length → ∃ y w, g58_13L n kx m p0 (M X ++ ((-1 : Int), enc e) :: ((1 : Int), enc e) :: M Y) true (IX S2) (⟨#[]⟩ : ByteArray) (p2 : Int) (0 : Int) (0 : Int) (0 : Int) (0 : Int) = kx p0 (M y) w ∧ (xZ x y ∧ gw false false y ≤ gw false false x ∧ (w = false → v5 = false ∧ y = x)) ∧ y.length ≤ L := by
         intro S2 p2 hs2 hsl2 hp2
         obtain ⟨y, w, e1, e2, e3⟩ := ih (nq (X ++ (-1, e) :: (1, e) :: Y) * (L + 1) + ((X ++ (-1, e) :: (1, e) :: Y).length - p2)) (by omega) (X ++ (-1, e) :: (1, e) :: Y) S2 [] true p2 0 0 0 0 m rfl (by omega) (by omega) (by omega) hx' (by rw [hs', ht']; exact ht) (fun i hi => by have := hS i (hs2 i hi); omega) ⟨fun h => absurd h (by omega), .inl rfl⟩ Valids.nil (by omega) (by omega) (by omega)
         refine ⟨y, w, ?_, ⟨⟨e2.1.ok, e2.1.src.trans hs', e2.1.tgt.trans ht', fun _ => e2.1.ne (by simp)⟩, Nat.le_trans e2.2.1 hgw, fun h => absurd (e2.2.2 h).1 (by decide)⟩, e3⟩
         rw [hMx'] at e1
         exact e1
        rcases List.eq_nil_or_concat S' with hS' | ⟨S1, j, hS'⟩
        ·subst hS'
         rw [bdF (by simp), bdF (by simp)]
         have hc0 : cut (IX S) 0 (0 + (((([] : List Nat).length : Nat) : Int) - 0)) = IX [] := by rw [PG]; simp [IX]
         rw [hc0, show w64 (-1 + 1) = ((0 : Nat) : Int) from rfl]
         exact go [] 0 (fun i hi => by cases hi) (by simp) (by omega)
        ·rw [List.concat_eq_append] at hS'
         have hS'l : S'.length = S1.length + 1 := by rw [hS']; simp
         have w5 : w64 ((S'.length : Int) - 0 - 1) = (S1.length : Int) := by rw [hS'l, aF (by omega) (by omega)]; omega
         rw [bdT (by omega)]
         simp only [w5]
         rw [aW (by omega) (by omega) (by omega)]
         have hcut : cut (IX S) (0 + 0) (0 + 0 + ((S1.length : Int) - 0)) = IX S1 := by
          rw [show (0 : Int) + 0 = 0 from rfl, PG, q1, hS', show (0 + ((S1.length : Int) - 0)).toNat = S1.length by omega, List.append_assoc, pO]
          exact List.take_left' (mA S1)
         have hsub : ∀ i ∈ S1, i ∈ S := fun i hi => by rw [q1, hS']; simp [hi]
         have hsl1 : S1.length ≤ S.length := by rw [q1, hS']; simp
         rcases List.eq_nil_or_concat S1 with hS1 | ⟨S2, i, hS1⟩
         ·rw [bdF (by rw [hS1]; simp), hcut, show w64 (-1 + 1) = ((0 : Nat) : Int) from rfl]
          exact go S1 0 hsub hsl1 (by omega)
         ·rw [List.concat_eq_append] at hS1
          have hS1l : S1.length = S2.length + 1 := by rw [hS1]; simp
          have w6 : w64 ((S1.length : Int) - 0 - 1) = (S2.length : Int) := by rw [hS1l, aF (by omega) (by omega)]; omega
          have hi : i < x.length := hS i (by rw [q1, hS', hS1]; simp)
          have r6 : rd (IX S) (0 + 0 + (S2.length : Int)) (0 : Int) = (i : Int) := by
           rw [q1, hS', hS1, show S2 ++ [i] ++ [j] ++ [X.length] = S2 ++ i :: [j, X.length] by simp, pO]
           exact eG (by rw [mA]; omega)
          rw [bdT (by omega)]
          simp only [w6, r6]
          rw [aM (by omega) (by omega), hcut, show w64 ((i : Int) + 1) = ((i + 1 : Nat) : Int) by rw [aF (by omega) (by omega)]; omega]
          exact go S1 (i + 1) hsub hsl1 (by omega)
       ·rw [bdF g3]; exact stay
      ·rw [bdF g2]; exact stay
     ·rw [bdF g1]; exact stay
    unfold bH8
    dsimp only
    rw [aM (by omega) (by omega), hrd]
    simp only
    by_cases h1 : x[ptr].1 = 1
    ·rw [biT (by rw [h1]; rfl), aM (by omega) (by omega), aJ hcnt]
     simp only
     rw [show w64 ((c : Int) + (x[ptr].2.length : Int)) = ((c + x[ptr].2.length : Nat) : Int) by rw [aF (by omega) (by omega)]; omega]
     exact six _ _ (by omega)
    ·rw [biF (by rw [beq_eq_false_iff_ne]; exact h1), aM (by omega) (by omega), aJ hcnt]
     simp only
     rw [show w64 ((d : Int) + (x[ptr].2.length : Int)) = ((d + x[ptr].2.length : Nat) : Int) by rw [aF (by omega) (by omega)]; omega]
     exact six _ _ (by omega)
  ·rw [bdF (by omega)]
   exact ⟨x, v5, rfl, ⟨⟨hx, rfl, rfl, fun h => h⟩, Nat.le_refl _, fun h => ⟨h, rfl⟩⟩, by omega⟩
theorem XH {x : List Rp} (hx : Ok x) : (merge x).length ≤ phi x := by
 have h3 : ∀ (k : Nat) {y : List Rp}, Ok y → phi (mergeN k y) ≤ phi y := by
  intro k
  induction k with
  | zero => intro y hy; exact Nat.le_refl _
  | succ k ih =>
   intro y hy
   have hj := mH hy.ops
   have hs := qF _ [] (join1 y) false rfl
   have h0 : phi [] = 0 := rfl
   rw [mergeN]
   split
   ·have := ih (Ok.slide _ rfl Ok.nil hy.join1) (y := (slide [] (join1 y) false).1)
    omega
   ·omega
 have h1 := h3 (phi x + 1) hx
 have h2 : (merge x).length ≤ phi (merge x) := by unfold phi; omega
 exact Nat.le_trans h2 h1
theorem cR1 : ∀ x : List Rp, nq x ≤ x.length
 | [] => Nat.le_refl _
 | d :: x => by have := cR1 x; unfold nq; split <;> simp <;> omega
theorem vQ : ∀ x : List Rp, nE x = (dA x).length
 | [] => rfl
 | d :: x => by
  have := vQ x
  unfold nE dA
  by_cases h : d.1 = 0 <;> simp [h, this] <;> omega
theorem PC (n : Nat) (hn : Big ≤ n) (p0) (x : List Rp) (hx : Ok x) (hl : x.length ≤ 500) (ha : cP x ≤ 100000) : ∃ y, g58 n p0 (M x) = some (M y, ()) ∧ Ok y ∧ bL y = bL x ∧ bK y = bK x ∧ y.length ≤ 1000000 ∧ nE y ≤ nE x := by
 have hB : (4611686018427387904 : Nat) ≤ n := hn
 have hml := aY x
 have hq := cR1 x
 have hT := aQ3 x
 dsimp only [g58, IV, aK0]
 rw [aW (by omega) (by omega) (by omega), CY (by omega)]
 unfold A6 TX
 have hmul : nq x * (x.length + nq x + 1) ≤ 500 * 1001 := Nat.mul_le_mul (by omega) (by omega)
 obtain ⟨y, w, e1, e2, e3⟩ := VP n hn p0 (fun p0 x1 v5 => sJ n (fun p0 x1 => sN n (fun p0 x1 v8 => sR n (fun x1 => sI n (fun x4 => some (x4, ())) x1) p0 x1 v8) p0 x1) p0 x1 v5) (x.length + nq x) 200000 (by omega) (by omega) (nq x * (x.length + nq x + 1) + (x.length - 0)) x [] [] false 0 0 0 0 0 n rfl (by omega) (by omega) (by omega) hx (by omega) (fun i hi => by cases hi) ⟨fun h => absurd h (by omega), .inl rfl⟩ Valids.nil (by omega) (by omega) (by simp only [List.length_nil]; omega)
 have e1' : ∀ R : Option (DenR GR), sJ n (fun p0 x1 => sN n (fun p0 x1 v8 => sR n (fun x1 => sI n (fun x4 => some (x4, ())) x1) p0 x1 v8) p0 x1) p0 (M y) w = R → g58_13L n (fun p0 x1 v5 => sJ n (fun p0 x1 => sN n (fun p0 x1 v8 => sR n (fun x1 => sI n (fun x4 => some (x4, ())) x1) p0 x1 v8) p0 x1) p0 x1 v5) n p0 (M x) false (List.replicate (0 : Int).toNat (0 : Int)) (⟨#[]⟩ : ByteArray) (0 : Int) (0 : Int) (0 : Int) (0 : Int) (0 : Int) = R := fun R h => (show _ = _ from e1).trans h
 have hal := nP (x := y)
 obtain ⟨e2, eg, ew⟩ := e2
 have hgl := N6 x false false
 have hb0 : b2 false = 0 := rfl
 rw [hb0] at hgl
 rw [e2.src, e2.tgt] at hal
 have tail : ∀ z : List Rp, Ok z → bL z = bL x → bK z = bK x → z.length ≤ 201000 → nE z ≤ nE x → ∃ y, sN n (fun p0 x1 v8 => sR n (fun x1 => sI n (fun x4 => @some (DenR GR) (x4, ())) x1) p0 x1 v8) p0 (M z) = some (M y, ()) ∧ Ok y ∧ bL y = bL x ∧ bK y = bK x ∧ y.length ≤ 1000000 ∧ nE y ≤ nE x := by
  intro z hz hs ht hzl hzn
  have hza := nP (x := z)
  rw [hs, ht] at hza
  have hi := @MK z
  have hil := hi.2.2.2.2.1
  unfold sN
  rw [aJ (OC n hn p0 z hz (by omega) (by omega))]
  unfold sR C3
  obtain ⟨v, f1, f2, f3⟩ := j4 n hn p0 (fun x1 => sI n (fun x4 => @some (DenR GR) (x4, ())) x1) ((fX z).length - (0 + 1)) (fX z) 0 n rfl (by omega) (hi.2.2.2.1 hz) (by rw [hi.1, hi.2.1, hs, ht]; omega) (by omega) (by omega) (by omega)
  obtain ⟨f2, fn⟩ := f2
  have hnl : nE (fX z) = nE z := by rw [vQ, vQ, hi.2.2.1]
  refine ⟨v, ?_, f2.ok, by rw [f2.src, hi.1, hs], by rw [f2.tgt, hi.2.1, ht], by omega, by omega⟩
  exact f1
 cases w with
 | false =>
  obtain ⟨v, f1, f2⟩ := tail y e2.ok e2.src e2.tgt (by omega) (by rw [(ew rfl).2]; exact Nat.le_refl _)
  refine ⟨v, ?_, f2⟩
  refine e1' _ ?_
  unfold sJ
  rw [cond_false]
  exact f1
 | true =>
  have hph : phi y ≤ 201000 := by have := KU y; unfold phi; omega
  have hmt := xO e2.ok
  have hmlen := XH e2.ok
  have hmo : g73 n p0 (M y) = @some (DenR iE) (M (merge y), ()) := PI n hn p0 y e2.ok (by omega) (by rw [e2.src, e2.tgt]; omega)
  obtain ⟨v, f1, f2⟩ := tail (merge y) e2.ok.merge (hmt.1.trans e2.src) (hmt.2.1.trans e2.tgt) (by omega) (by have := bB2 e2.ok; omega)
  refine ⟨v, ?_, f2⟩
  refine e1' _ ?_
  unfold sJ
  rw [cond_true, aJ hmo]
  exact f1
theorem FQ (n : Nat) (hn : Big ≤ n) (x : List Rp) (hx : Ok x) (hl : x.length ≤ 500) (ha : cP x ≤ 100000) : ∃ y, g26 n (M x) = some (M y, ()) ∧ Ok y ∧ bL y = bL x ∧ bK y = bK x ∧ y.length ≤ 1000000 ∧ nE y ≤ nE x := by
 obtain ⟨p, hp⟩ : ∃ p, g42 n = some (p, ()) := ⟨_, rfl⟩
 obtain ⟨y, h1, h2, h3, h4, h5, h6⟩ := PC n hn p x hx hl ha
 have hm : g46 n (M x) = some (M x, ()) := cH2 n hn x (by omega) hx
 have hls : g49 n (M y) = some (M y, ()) := E5 n hn y h5 h2
 refine ⟨y, ?_, h2, h3, h4, h5, h6⟩
 dsimp only [g26, aW4, g41, PV, SX]
 rw [aJ hp, aJ hm]
 simp only
 rw [aJ h1]
 simp only
 rw [aJ hls]
 rfl
def dS2 (x : Prt) : Bool := decide (x.2.size ≤ 2147483647)
def dR5 (n : Int) : Int := if Int.tmod n 3 = 2 then -1 else if Int.tmod n 3 = -2 then 1 else Int.tmod n 3
def dH1 (y : Prt) : Rp := (dR5 y.1, (aS y.2).take 30)
def dR3 (m : Nat) (xs : List Prt) : List Rp := (xs.take m).map dH1
theorem bL7 (n : Nat) (hn : Big ≤ n) (x y : List Rp) (hs : bL x = bL y) (ht : bK x = bK y) (hl : x.length ≤ 1000000) (hl2 : y.length ≤ 1000000) (ha : cP x ≤ 10000000) (ha2 : cP y ≤ 10000000) : g25 n (M x) (M y) = some (true, ()) := by
 have gs : g16 n (M y) = some (enc (bL y), ()) := GN n hn y (by omega) (by omega)
 have gt : g17 n (M y) = some (enc (bK y), ()) := GJ n hn y (by omega) (by omega)
 have gs' : g16 n (M x) = some (enc (bL y), ()) := by rw [← hs]; exact GN n hn x (by omega) (by omega)
 have gt' : g17 n (M x) = some (enc (bK y), ()) := by rw [← ht]; exact GJ n hn x (by omega) (by omega)
 dsimp only [g25, aT6]
 rw [aJ gs, aJ gt, aJ gs']
 simp only
 rw [biT (by rw [eV]; simp), aJ gt']
 simp only
 rw [biT (by rw [eV]; simp)]
 have hml : (M x).length = x.length := List.length_map _
 by_cases hx : x = []
 ·subst hx
  rw [bdF (by rw [hml]; simp), bX (by rw [← hs, ← ht]; decide), ← hs, ← ht]
  show some (gB (enc [] ++ enc []) _, ()) = _
  rw [← aX, ← AC, List.append_nil, HT Valids.nil Valids.nil]
  simp
 ·have := List.length_pos_iff.2 hx
  have c : ((M x).length : Int) > 0 := by rw [hml]; omega
  rw [bdT c]
end Go.Proofs.YticibdjilmclgaaDoorZF
