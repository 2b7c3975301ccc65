/- Plain statements about the printed functions. -/
import Derived.Test.YticibdjilmclgaaGreatDoorZPQ0
import Derived.Test.YticibdjilmclgaaGreatDoorZGA1
import Derived.Test.YticibdjilmclgaaGreatDoorZFB
import Derived.Test.YticibdjilmclgaaGreatDoorZGA0
import Derived.Lib.DecodeN
import Derived.Lib.SpaceU
import Derived.Lib.TrimAscii
import Derived.Test.YticibdjilmclgaaGreatDoorZGA2
namespace Go.Proofs.YticibdjilmclgaaGreatDoorZF
open Go
set_option linter.unusedVariables false
set_option linter.unusedSimpArgs false
section
variable {β : Type} (q75 : DenA g75_A → Option (DenR g75_R)) (q87 : DenA g87_A → Option (DenR g87_R)) (q94 : DenA g94_A → Option (DenR g94_R)) (q98 : DenA g98_A → Option (DenR g98_R))
variable {A B : List Int} {mD : Int} {p0 : AK.den (.pro (.pair (.int .i64) (.pair (.int .i64) (.pair (.int .i64) (.pair (.flt .f64) (.pair (.int .i64) (.pair (.int .i64) (.flt .f64))))))) 0)}
def Met (kr : List (Int × ByteArray) → Option β) (q : DenA g98_A → Option (DenR g98_R)) (p0 : AK.den (.pro (.pair (.int .i64) (.pair (.int .i64) (.pair (.int .i64) (.pair (.flt .f64) (.pair (.int .i64) (.pair (.int .i64) (.flt .f64))))))) 0)) (A B : List Int) (r : Option β) : Prop :=
 ∃ x y : Nat, Opt A B x y ∧ 2 * ft A B x y ≤ dst A B + 1 ∧ 2 * gt A B x y ≤ dst A B + 1 ∧ r = (q (p0, (A, (B, ((x : Int), ((y : Int), ())))))).bind fun r1 => kr r1.1
theorem Done.low {d s e : Int} {V : Int → Int} (h : Done A B mD d s e V) (j : Int) (h1 : -mD ≤ j) (h2 : j < mD) (hd : d ≤ 1000000) (hN : (A.length : Int) ≤ 1000000) : -1 ≤ V j ∧ V j ≤ 2000000 := by
 rcases h.good j h1 h2 with g | g | g
 ·omega
 ·have := g.1; have := g.bound; omega
 ·omega
theorem fstep (n : Nat) (hn : Big ≤ n) {V1 V2 : Int → Int} {v1 v2 : List Int} {d s0 e0 s e k sW eW s2 e2 : Int} {kn} {kr : List (Int × ByteArray) → Option β} {fr : Bool}
  (hM : Mid A B mD d s0 e0 s e k V1) (hk : k ≤ d - e) (hA : Arr v1 mD V1) (hA2 : Arr v2 mD V2) (hW : Done A.reverse B.reverse mD (d - 1) sW eW V2) (hm : 2 ≤ mD) (hm2 : mD ≤ 1000000) (hN : (A.length : Int) ≤ 1000000) (hNM : (B.length : Int) ≤ 1000000) (hD : 2 * d - 1 ≤ dst A B) (hDd : d ≤ dst A B) (hse : s ≤ 3000000) (hee : e ≤ 3000000) :
  Met kr q98 p0 A B (g94_15 (β := β) n q75 q87 q94 q98 kn kr p0 A B (A.length : Int) (B.length : Int) mD mD (2 * mD) v1 v2 ((A.length : Int) - B.length) fr s e s2 e2 d k) ∨
  ∃ xf s' e', g94_15 (β := β) n q75 q87 q94 q98 kn kr p0 A B (A.length : Int) (B.length : Int) mD mD (2 * mD) v1 v2 ((A.length : Int) - B.length) fr s e s2 e2 d k = kn p0 A B (A.length : Int) (B.length : Int) mD mD (2 * mD) (v1.set (mD + k).toNat xf) v2 ((A.length : Int) - B.length) fr s' e' s2 e2 d k ∧
   Ent A B d k xf ∧ pick V1 d k ≤ xf ∧ Stop A B k xf ∧ (((A.length : Int) < xf ∧ s' = s ∧ e' = e + 2) ∨ (xf ≤ A.length ∧ (B.length : Int) < xf - k ∧ s' = s + 2 ∧ e' = e) ∨ (xf ≤ A.length ∧ xf - k ≤ B.length ∧ s' = s ∧ e' = e)) ∧
   (fr = true → (dst A B : Int) = 2 * d - 1 → ∀ x y : Nat, Opt A B x y → (ft A B x y : Int) = d → (x : Int) - y ≠ k) := by
 have hs := hM.hs
 have he := hM.he
 have hd := hM.dpos
 have hdm := hM.dm
 have hkl := hM.klo
 have hpk := hM.pick_ok hk
 have hpb := hpk.bound
 have hp0 := hpk.1
 have hpk' := hpk.2.1
 obtain ⟨xf, x1, x2, x3, x4⟩ := fsnake (β := β) (A := A) (B := B) (p0 := p0) (d := d) (k := k) q75 q87 q94 q98 n (v1 := v1) (v2 := v2) (by omega) (by omega) (by omega) (by omega) (fun p0 x1 x2 v7 v8 v9 v10 v11 x12 x13 v15 v16 v17 v18 v19 v20 v21 v22 v23 v24 v25 => g94_14 n q75 q87 q94 q98 kn kr p0 x1 x2 v7 v8 v9 v10 v11 x12 x13 v15 v16 v17 v18 v19 v20 v21 v22 v23 v24 v25) mD mD (2 * mD) ((A.length : Int) - B.length) fr s e s2 e2 d (mD + k) _ (pick V1 d k) n (Nat.le_refl _) (by unfold Big at hn; omega) hpk
 have hl2 := hA2.1
 have hl1 := hA.1
 have e15 : g94_15 (β := β) n q75 q87 q94 q98 kn kr p0 A B (A.length : Int) (B.length : Int) mD mD (2 * mD) v1 v2 ((A.length : Int) - B.length) fr s e s2 e2 d k = g94_14 n q75 q87 q94 q98 kn kr p0 A B (A.length : Int) (B.length : Int) mD mD (2 * mD) v1 v2 ((A.length : Int) - B.length) fr s e s2 e2 d k (mD + k) xf (xf - k) := by
  rw [← x4]
  unfold g94_15
  rw [fpick (β := β) (A := A) (B := B) (p0 := p0) q75 q87 q94 q98 n hM hk hA hm (by omega) (by omega)]
  unfold g94_10 g94_13 g94_12
  rw [w64_id (by omega) (by omega)]
 rw [e15]
 have hxb := x2.bound
 have hx0 := x2.1
 have hxk := x2.2.1
 unfold g94_14
 rw [idx_ok (by omega) (by omega)]
 have nodet : ∀ (r : Option β), (fr = true → (dst A B : Int) = 2 * d - 1 → ∀ x y : Nat, Opt A B x y → (ft A B x y : Int) = d → (x : Int) - y ≠ k) →
   (xf ≤ A.length ∧ xf - k ≤ B.length) → r = kn p0 A B (A.length : Int) (B.length : Int) mD mD (2 * mD) (v1.set (mD + k).toNat xf) v2 ((A.length : Int) - B.length) fr s e s2 e2 d k →
   Met kr q98 p0 A B r ∨
   ∃ xf s' e', r = kn p0 A B (A.length : Int) (B.length : Int) mD mD (2 * mD) (v1.set (mD + k).toNat xf) v2 ((A.length : Int) - B.length) fr s' e' s2 e2 d k ∧
    Ent A B d k xf ∧ pick V1 d k ≤ xf ∧ Stop A B k xf ∧ (((A.length : Int) < xf ∧ s' = s ∧ e' = e + 2) ∨ (xf ≤ A.length ∧ (B.length : Int) < xf - k ∧ s' = s + 2 ∧ e' = e) ∨ (xf ≤ A.length ∧ xf - k ≤ B.length ∧ s' = s ∧ e' = e)) ∧
    (fr = true → (dst A B : Int) = 2 * d - 1 → ∀ x y : Nat, Opt A B x y → (ft A B x y : Int) = d → (x : Int) - y ≠ k) :=
  fun r h1 h2 h3 => .inr ⟨xf, s, e, h3, x2, x1, x3, .inr (.inr ⟨h2.1, h2.2, rfl, rfl⟩), h1⟩
 by_cases c1 : xf > A.length
 ·rw [bdT c1, w64_id (by omega) (by omega)]
  refine .inr ⟨xf, s, e + 2, rfl, x2, x1, x3, .inl ⟨c1, rfl, rfl⟩, fun _ _ x y ho hfo hkk => ?_⟩
  have := on_grid x2 hDd ho hfo hkk; omega
 ·rw [bdF c1]
  by_cases c2 : xf - k > B.length
  ·rw [bdT c2, w64_id (by omega) (by omega)]
   refine .inr ⟨xf, s + 2, e, rfl, x2, x1, x3, .inr (.inl ⟨by omega, c2, rfl, rfl⟩), fun _ _ x y ho hfo hkk => ?_⟩
   have := on_grid x2 hDd ho hfo hkk; omega
  ·rw [bdF c2]
   by_cases hfr : fr = false
   ·rw [biF hfr]
    exact nodet _ (by simp [hfr]) ⟨by omega, by omega⟩ rfl
   ·have hfr : fr = true := by simpa using hfr
    rw [biT hfr]
    rw [w64_id (n := mD + ((A.length : Int) - B.length)) (by omega) (by omega), w64_id (n := mD + ((A.length : Int) - B.length) - k) (by omega) (by omega)]
    have must : (dst A B : Int) = 2 * d - 1 → ∀ x y : Nat, Opt A B x y → (ft A B x y : Int) = d → (x : Int) - y = k → -mD ≤ (A.length : Int) - B.length - k ∧ (A.length : Int) - B.length - k < mD ∧ V2 ((A.length : Int) - B.length - k) ≠ -1 ∧ (A.length : Int) - V2 ((A.length : Int) - B.length - k) ≤ xf :=
     fun hDD x y ho hfo hkk => must_front hW hd hdm hDD ho hfo (hM.reach hk x2 x1 x3 x y ho hfo hkk) hkk
    by_cases c3 : mD + ((A.length : Int) - B.length) - k ≥ 0
    ·rw [bdT c3]
     by_cases c4 : mD + ((A.length : Int) - B.length) - k < 2 * mD
     ·rw [bdT c4]
      have hv := hA2.2 ((A.length : Int) - B.length - k) (by omega) (by omega)
      have hvb := hW.low ((A.length : Int) - B.length - k) (by omega) (by omega) (by omega) (by rw [List.length_reverse]; omega)
      rw [idx_ok (by omega) (by omega), idx_ok (by omega) (by omega), show mD + ((A.length : Int) - B.length) - k = mD + ((A.length : Int) - B.length - k) by omega, hv]
      by_cases c5 : V2 ((A.length : Int) - B.length - k) = -1
      ·rw [biF (by simp [c5])]
       exact nodet _ (fun _ hDD x y ho hfo hkk => (must hDD x y ho hfo hkk).2.2.1 c5) ⟨by omega, by omega⟩ rfl
      ·rw [biT (by simp [c5]), w64_id (by omega) (by omega)]
       by_cases c6 : xf ≥ (A.length : Int) - V2 ((A.length : Int) - B.length - k)
       ·rw [bdT c6]
        left
        obtain ⟨m1, m2, m3⟩ := meet_front x2 (by omega) (by omega) hW (by omega) (by omega) c5 (by omega) hD
        refine ⟨xf.toNat, (xf - k).toNat, m1, by omega, by omega, ?_⟩
        rw [Int.toNat_of_nonneg hx0, Int.toNat_of_nonneg (by omega)]
       ·rw [bdF c6]
        exact nodet _ (fun _ hDD x y ho hfo hkk => by have := (must hDD x y ho hfo hkk).2.2.2; omega) ⟨by omega, by omega⟩ rfl
     ·rw [bdF c4]
      exact nodet _ (fun _ hDD x y ho hfo hkk => by have := (must hDD x y ho hfo hkk).2.1; omega) ⟨by omega, by omega⟩ rfl
    ·rw [bdF c3]
     exact nodet _ (fun _ hDD x y ho hfo hkk => by have := (must hDD x y ho hfo hkk).1; omega) ⟨by omega, by omega⟩ rfl
theorem rstep (n : Nat) (hn : Big ≤ n) {V1 V2 : Int → Int} {v1 v2 : List Int} {d s0 e0 s e k sW eW s1 e1 : Int} {kn} {kr : List (Int × ByteArray) → Option β} {fr : Bool} (hfrd : fr = false → ((A.length : Int) - B.length) % 2 = 0)
  (hM : Mid A.reverse B.reverse mD d s0 e0 s e k V2) (hk : k ≤ d - e) (hA : Arr v2 mD V2) (hA1 : Arr v1 mD V1) (hV : Done A B mD d sW eW V1) (hm : 2 ≤ mD) (hm2 : mD ≤ 1000000) (hN : (A.length : Int) ≤ 1000000) (hNM : (B.length : Int) ≤ 1000000) (hD : fr = false → 2 * d ≤ dst A B) (hDd : d ≤ dst A B) (hse : s ≤ 3000000) (hee : e ≤ 3000000) :
  Met kr q98 p0 A B (g94_29 (β := β) n q75 q87 q94 q98 kn kr p0 A B (A.length : Int) (B.length : Int) mD mD (2 * mD) v1 v2 ((A.length : Int) - B.length) fr s1 e1 s e d k) ∨
  ∃ xf s' e', g94_29 (β := β) n q75 q87 q94 q98 kn kr p0 A B (A.length : Int) (B.length : Int) mD mD (2 * mD) v1 v2 ((A.length : Int) - B.length) fr s1 e1 s e d k = kn p0 A B (A.length : Int) (B.length : Int) mD mD (2 * mD) v1 (v2.set (mD + k).toNat xf) ((A.length : Int) - B.length) fr s1 e1 s' e' d k ∧
   Ent A.reverse B.reverse d k xf ∧ pick V2 d k ≤ xf ∧ Stop A.reverse B.reverse k xf ∧ (((A.reverse.length : Int) < xf ∧ s' = s ∧ e' = e + 2) ∨ (xf ≤ A.reverse.length ∧ (B.reverse.length : Int) < xf - k ∧ s' = s + 2 ∧ e' = e) ∨ (xf ≤ A.reverse.length ∧ xf - k ≤ B.reverse.length ∧ s' = s ∧ e' = e)) ∧
   (fr = false → (dst A B : Int) = 2 * d → ∀ x y : Nat, Opt A.reverse B.reverse x y → (ft A.reverse B.reverse x y : Int) = d → (x : Int) - y ≠ k) := by
 have hra : A.reverse.length = A.length := List.length_reverse
 have hrb : B.reverse.length = B.length := List.length_reverse
 have hrD : dst A.reverse B.reverse = dst A B := dst_rev A B
 have hs := hM.hs
 have he := hM.he
 have hd := hM.dpos
 have hdm := hM.dm
 have hkl := hM.klo
 have hkp := hM.kpar
 have hpk := hM.pick_ok hk
 have hpb := hpk.bound
 have hp0 := hpk.1
 have hpk' := hpk.2.1
 obtain ⟨xf, x1, x2, x3, x4⟩ := rsnake (β := β) (A := A) (B := B) (p0 := p0) (d := d) (k := k) q75 q87 q94 q98 n (v1 := v1) (v2 := v2) (by omega) (by omega) (by omega) (by omega) (fun p0 x1 x2 v7 v8 v9 v10 v11 x12 x13 v15 v16 v17 v18 v19 v20 v21 v22 v23 v24 v25 => g94_28 n q75 q87 q94 q98 kn kr p0 x1 x2 v7 v8 v9 v10 v11 x12 x13 v15 v16 v17 v18 v19 v20 v21 v22 v23 v24 v25) mD mD (2 * mD) ((A.length : Int) - B.length) fr s1 e1 s e d (mD + k) _ (pick V2 d k) n (Nat.le_refl _) (by unfold Big at hn; omega) hpk
 have hl2 := hA.1
 have hl1 := hA1.1
 have e15 : g94_29 (β := β) n q75 q87 q94 q98 kn kr p0 A B (A.length : Int) (B.length : Int) mD mD (2 * mD) v1 v2 ((A.length : Int) - B.length) fr s1 e1 s e d k = g94_28 n q75 q87 q94 q98 kn kr p0 A B (A.length : Int) (B.length : Int) mD mD (2 * mD) v1 v2 ((A.length : Int) - B.length) fr s1 e1 s e d k (mD + k) xf (xf - k) := by
  rw [← x4]
  unfold g94_29
  rw [rpick (β := β) (A := A) (B := B) (p0 := p0) q75 q87 q94 q98 n hM hk hA hm (by omega) (by omega)]
  unfold g94_24 g94_27 g94_26
  rw [w64_id (by omega) (by omega)]
 rw [e15]
 have hxb := x2.bound
 have hx0 := x2.1
 have hxk := x2.2.1
 unfold g94_28
 rw [idx_ok (by omega) (by omega)]
 have nodet : ∀ (r : Option β), (fr = false → (dst A B : Int) = 2 * d → ∀ x y : Nat, Opt A.reverse B.reverse x y → (ft A.reverse B.reverse x y : Int) = d → (x : Int) - y ≠ k) →
   (xf ≤ A.length ∧ xf - k ≤ B.length) → r = kn p0 A B (A.length : Int) (B.length : Int) mD mD (2 * mD) v1 (v2.set (mD + k).toNat xf) ((A.length : Int) - B.length) fr s1 e1 s e d k →
   Met kr q98 p0 A B r ∨
   ∃ xf s' e', r = kn p0 A B (A.length : Int) (B.length : Int) mD mD (2 * mD) v1 (v2.set (mD + k).toNat xf) ((A.length : Int) - B.length) fr s1 e1 s' e' d k ∧
    Ent A.reverse B.reverse d k xf ∧ pick V2 d k ≤ xf ∧ Stop A.reverse B.reverse k xf ∧ (((A.reverse.length : Int) < xf ∧ s' = s ∧ e' = e + 2) ∨ (xf ≤ A.reverse.length ∧ (B.reverse.length : Int) < xf - k ∧ s' = s + 2 ∧ e' = e) ∨ (xf ≤ A.reverse.length ∧ xf - k ≤ B.reverse.length ∧ s' = s ∧ e' = e)) ∧
    (fr = false → (dst A B : Int) = 2 * d → ∀ x y : Nat, Opt A.reverse B.reverse x y → (ft A.reverse B.reverse x y : Int) = d → (x : Int) - y ≠ k) :=
  fun r h1 h2 h3 => .inr ⟨xf, s, e, h3, x2, x1, x3, .inr (.inr ⟨by omega, by omega, rfl, rfl⟩), h1⟩
 by_cases c1 : xf > A.length
 ·rw [bdT c1, w64_id (by omega) (by omega)]
  refine .inr ⟨xf, s, e + 2, rfl, x2, x1, x3, .inl ⟨by omega, rfl, rfl⟩, fun _ _ x y ho hfo hkk => ?_⟩
  have := on_grid x2 (by omega) ho hfo hkk; omega
 ·rw [bdF c1]
  by_cases c2 : xf - k > B.length
  ·rw [bdT c2, w64_id (by omega) (by omega)]
   refine .inr ⟨xf, s + 2, e, rfl, x2, x1, x3, .inr (.inl ⟨by omega, by omega, rfl, rfl⟩), fun _ _ x y ho hfo hkk => ?_⟩
   have := on_grid x2 (by omega) ho hfo hkk; omega
  ·rw [bdF c2]
   by_cases hfr : fr = true
   ·rw [biF (by simp [hfr])]
    exact nodet _ (by simp [hfr]) ⟨by omega, by omega⟩ rfl
   ·have hfr : fr = false := by simpa using hfr
    rw [biT (by simp [hfr])]
    rw [w64_id (n := mD + ((A.length : Int) - B.length)) (by omega) (by omega), w64_id (n := mD + ((A.length : Int) - B.length) - k) (by omega) (by omega)]
    have must : (dst A B : Int) = 2 * d → ∀ x y : Nat, Opt A.reverse B.reverse x y → (ft A.reverse B.reverse x y : Int) = d → (x : Int) - y = k → -mD ≤ (A.length : Int) - B.length - k ∧ (A.length : Int) - B.length - k < mD ∧ V1 ((A.length : Int) - B.length - k) ≠ -1 ∧ (A.length : Int) - xf ≤ V1 ((A.length : Int) - B.length - k) :=
     fun hDD x y ho hfo hkk => must_back hV hd hdm hDD ho hfo (hM.reach hk x2 x1 x3 x y ho hfo hkk) hkk
    by_cases c3 : mD + ((A.length : Int) - B.length) - k ≥ 0
    ·rw [bdT c3]
     by_cases c4 : mD + ((A.length : Int) - B.length) - k < 2 * mD
     ·rw [bdT c4]
      have hv := hA1.2 ((A.length : Int) - B.length - k) (by omega) (by omega)
      have hvb := hV.low ((A.length : Int) - B.length - k) (by omega) (by omega) (by omega) (by omega)
      rw [idx_ok (by omega) (by omega), idx_ok (by omega) (by omega), show mD + ((A.length : Int) - B.length) - k = mD + ((A.length : Int) - B.length - k) by omega, hv]
      by_cases c5 : V1 ((A.length : Int) - B.length - k) = -1
      ·rw [biF (by simp [c5])]
       exact nodet _ (fun _ hDD x y ho hfo hkk => (must hDD x y ho hfo hkk).2.2.1 c5) ⟨by omega, by omega⟩ rfl
      ·rw [biT (by simp [c5]), w64_id (n := (A.length : Int) - xf) (by omega) (by omega)]
       by_cases c6 : V1 ((A.length : Int) - B.length - k) ≥ (A.length : Int) - xf
       ·rw [bdT c6]
        left
        obtain ⟨x, y, m0, m1, m2, m3, m4⟩ := meet_back x2 (by omega) (by omega) hV (by omega) (by omega) c5 (by omega) (hD hfr) (hfrd hfr) hkp
        have hD' := hD hfr
        refine ⟨x, y, m2, by omega, by omega, ?_⟩
        have hmx := m2.hx
        have hmy := m2.hy
        rw [m0, w64_id (n := mD + (x : Int)) (by omega) (by omega), w64_id (n := mD + (x : Int) - (mD + ((A.length : Int) - B.length - k))) (by omega) (by omega), show mD + (x : Int) - (mD + ((A.length : Int) - B.length - k)) = (y : Int) by omega]
       ·rw [bdF c6]
        exact nodet _ (fun _ hDD x y ho hfo hkk => by have := (must hDD x y ho hfo hkk).2.2.2; omega) ⟨by omega, by omega⟩ rfl
     ·rw [bdF c4]
      exact nodet _ (fun _ hDD x y ho hfo hkk => by have := (must hDD x y ho hfo hkk).2.1; omega) ⟨by omega, by omega⟩ rfl
    ·rw [bdF c3]
     exact nodet _ (fun _ hDD x y ho hfo hkk => by have := (must hDD x y ho hfo hkk).1; omega) ⟨by omega, by omega⟩ rfl
end
end Go.Proofs.YticibdjilmclgaaGreatDoorZF
namespace Go.Proofs.YticibdjilmclgaaGreatDoorZF
open Go
set_option linter.unusedVariables false
set_option linter.unusedSimpArgs false
section
variable {β : Type} (q75 : DenA g75_A → Option (DenR g75_R)) (q87 : DenA g87_A → Option (DenR g87_R)) (q94 : DenA g94_A → Option (DenR g94_R)) (q98 : DenA g98_A → Option (DenR g98_R))
variable {A B : List Int} {mD : Int} {p0 : AK.den (.pro (.pair (.int .i64) (.pair (.int .i64) (.pair (.int .i64) (.pair (.flt .f64) (.pair (.int .i64) (.pair (.int .i64) (.flt .f64))))))) 0)}
theorem floop (n : Nat) (hn : Big ≤ n) {V2 : Int → Int} {v2 : List Int} {d s0 e0 sW eW s2 e2 : Int} {kx} {kr : List (Int × ByteArray) → Option β} {fr : Bool}
  (hA2 : Arr v2 mD V2) (hW : Done A.reverse B.reverse mD (d - 1) sW eW V2) (hm : 2 ≤ mD) (hm2 : mD ≤ 1000000) (hN : (A.length : Int) ≤ 1000000) (hNM : (B.length : Int) ≤ 1000000) (hD : 2 * d - 1 ≤ dst A B) (hDd : d ≤ dst A B) :
  ∀ (c m : Nat) (k s e : Int) (v1 : List Int) (V1 : Int → Int), Mid A B mD d s0 e0 s e k V1 → Arr v1 mD V1 → s ≤ 3000000 → e ≤ 3000000 →
   (fr = true → (dst A B : Int) = 2 * d - 1 → ∀ x y : Nat, Opt A B x y → (ft A B x y : Int) = d → k ≤ (x : Int) - y) → (d - e - k + 2).toNat ≤ c → c < m →
   Met kr q98 p0 A B (g94_19L (β := β) n q75 q87 q94 q98 kr kx m p0 A B (A.length : Int) (B.length : Int) mD mD (2 * mD) v1 v2 ((A.length : Int) - B.length) fr s e s2 e2 d k) ∨
   ∃ s' e' v1' V1', g94_19L (β := β) n q75 q87 q94 q98 kr kx m p0 A B (A.length : Int) (B.length : Int) mD mD (2 * mD) v1 v2 ((A.length : Int) - B.length) fr s e s2 e2 d k = kx p0 A B (A.length : Int) (B.length : Int) mD mD (2 * mD) v1' v2 ((A.length : Int) - B.length) fr s' e' s2 e2 d ∧
    Arr v1' mD V1' ∧ Done A B mD d s' e' V1' ∧ s' ≤ 3000000 ∧ e' ≤ 3000000 ∧ (fr = true → (dst A B : Int) ≠ 2 * d - 1) := by
 intro c
 induction c using Nat.strongRecOn with
 | _ c ih =>
  intro m k s e v1 V1 hM hA hs3 he3 hnd hc hm1
  obtain ⟨m, rfl⟩ : ∃ m', m = m' + 1 := ⟨m - 1, by omega⟩
  have hs := hM.hs
  have he := hM.he
  have hd := hM.dpos
  have hdm := hM.dm
  have hkl := hM.klo
  rw [g94_19L.eq_2]
  dsimp only [g94_18, g94_8]
  rw [w64_id (n := d - e) (by omega) (by omega)]
  by_cases hk : k ≤ d - e
  ·rw [bdT hk]
   dsimp only [g94_16]
   rcases fstep (β := β) (p0 := p0) q75 q87 q94 q98 n hn (kn := fun p0 x1 x2 v7 v8 v9 v10 v11 x12 x13 v15 v16 v17 v18 v19 v20 v21 v22 => g94_17 n q75 q87 q94 q98 (g94_19L n q75 q87 q94 q98 kr kx m) p0 x1 x2 v7 v8 v9 v10 v11 x12 x13 v15 v16 v17 v18 v19 v20 v21 v22) (kr := kr) (fr := fr) (s2 := s2) (e2 := e2) hM hk hA hA2 hW hm hm2 hN hNM hD hDd (by omega) (by omega) with h | ⟨xf, s', e', h1, h2, h3, h4, h5, h6⟩
   ·exact .inl h
   ·rw [h1]
    dsimp only [g94_17]
    rw [w64_id (n := k + 2) (by omega) (by omega)]
    have hM' := hM.step hk hDd h2 h3 h4 h5
    refine ih (d - e' - (k + 2) + 2).toNat ?_ m (k + 2) s' e' _ _ hM' (hA.set (by omega) (by omega)) (by omega) (by omega) ?_ (Nat.le_refl _) ?_
    ·omega
    ·intro g1 g2 x y g3 g4
     have q1 := hnd g1 g2 x y g3 g4
     have q2 := h6 g1 g2 x y g3 g4
     have q3 := ft_par (A := A) (B := B) x y
     have q4 := hM.kpar
     omega
    ·omega
  ·rw [bdF hk]
   refine .inr ⟨s, e, v1, V1, rfl, hA, hM.finish hk, hs3, he3, fun g1 g2 => ?_⟩
   obtain ⟨x, y, ho, hfo⟩ := Opt.level (A := A) (B := B) d.toNat (by omega)
   have q1 := hnd g1 g2 x y ho (by omega)
   have q2 := hM.prune x y ho (by omega)
   omega
theorem rloop (n : Nat) (hn : Big ≤ n) {V1 : Int → Int} {v1 : List Int} {d s0 e0 sW eW s1 e1 : Int} {kx} {kr : List (Int × ByteArray) → Option β} {fr : Bool} (hfrd : fr = false → ((A.length : Int) - B.length) % 2 = 0)
  (hA1 : Arr v1 mD V1) (hV : Done A B mD d sW eW V1) (hm : 2 ≤ mD) (hm2 : mD ≤ 1000000) (hN : (A.length : Int) ≤ 1000000) (hNM : (B.length : Int) ≤ 1000000) (hD : fr = false → 2 * d ≤ dst A B) (hDd : d ≤ dst A B) :
  ∀ (c m : Nat) (k s e : Int) (v2 : List Int) (V2 : Int → Int), Mid A.reverse B.reverse mD d s0 e0 s e k V2 → Arr v2 mD V2 → s ≤ 3000000 → e ≤ 3000000 →
   (fr = false → (dst A B : Int) = 2 * d → ∀ x y : Nat, Opt A.reverse B.reverse x y → (ft A.reverse B.reverse x y : Int) = d → k ≤ (x : Int) - y) → (d - e - k + 2).toNat ≤ c → c < m →
   Met kr q98 p0 A B (g94_33L (β := β) n q75 q87 q94 q98 kr kx m p0 A B (A.length : Int) (B.length : Int) mD mD (2 * mD) v1 v2 ((A.length : Int) - B.length) fr s1 e1 s e d k) ∨
   ∃ s' e' v2' V2', g94_33L (β := β) n q75 q87 q94 q98 kr kx m p0 A B (A.length : Int) (B.length : Int) mD mD (2 * mD) v1 v2 ((A.length : Int) - B.length) fr s1 e1 s e d k = kx p0 A B (A.length : Int) (B.length : Int) mD mD (2 * mD) v1 v2' ((A.length : Int) - B.length) fr s1 e1 s' e' d ∧
    Arr v2' mD V2' ∧ Done A.reverse B.reverse mD d s' e' V2' ∧ s' ≤ 3000000 ∧ e' ≤ 3000000 ∧ (fr = false → (dst A B : Int) ≠ 2 * d) := by
 have hrD : dst A.reverse B.reverse = dst A B := dst_rev A B
 intro c
 induction c using Nat.strongRecOn with
 | _ c ih =>
  intro m k s e v2 V2 hM hA hs3 he3 hnd hc hm1
  obtain ⟨m, rfl⟩ : ∃ m', m = m' + 1 := ⟨m - 1, by omega⟩
  have hs := hM.hs
  have he := hM.he
  have hd := hM.dpos
  have hdm := hM.dm
  have hkl := hM.klo
  rw [g94_33L.eq_2]
  dsimp only [g94_32, g94_22]
  rw [w64_id (n := d - e) (by omega) (by omega)]
  by_cases hk : k ≤ d - e
  ·rw [bdT hk]
   dsimp only [g94_30]
   rcases rstep (β := β) (p0 := p0) q75 q87 q94 q98 n hn (kn := fun p0 x1 x2 v7 v8 v9 v10 v11 x12 x13 v15 v16 v17 v18 v19 v20 v21 v28 => g94_31 n q75 q87 q94 q98 (g94_33L n q75 q87 q94 q98 kr kx m) p0 x1 x2 v7 v8 v9 v10 v11 x12 x13 v15 v16 v17 v18 v19 v20 v21 v28) (kr := kr) (fr := fr) (s1 := s1) (e1 := e1) hfrd hM hk hA hA1 hV hm hm2 hN hNM hD hDd (by omega) (by omega) with h | ⟨xf, s', e', h1, h2, h3, h4, h5, h6⟩
   ·exact .inl h
   ·rw [h1]
    dsimp only [g94_31]
    rw [w64_id (n := k + 2) (by omega) (by omega)]
    have hM' := hM.step hk (by omega) h2 h3 h4 h5
    refine ih (d - e' - (k + 2) + 2).toNat ?_ m (k + 2) s' e' _ _ hM' (hA.set (by omega) (by omega)) (by omega) (by omega) ?_ (Nat.le_refl _) ?_
    ·omega
    ·intro g1 g2 x y g3 g4
     have q1 := hnd g1 g2 x y g3 g4
     have q2 := h6 g1 g2 x y g3 g4
     have q3 := ft_par (A := A.reverse) (B := B.reverse) x y
     have q4 := hM.kpar
     omega
    ·omega
  ·rw [bdF hk]
   refine .inr ⟨s, e, v2, V2, rfl, hA, hM.finish hk, hs3, he3, fun g1 g2 => ?_⟩
   obtain ⟨x, y, ho, hfo⟩ := Opt.level (A := A.reverse) (B := B.reverse) d.toNat (by omega)
   have q1 := hnd g1 g2 x y ho (by omega)
   have q2 := hM.prune x y ho (by omega)
   omega
theorem oloop (n : Nat) (hn : Big ≤ n) {kx} {kr : List (Int × ByteArray) → Option β} {fr : Bool} (hfrd : fr = false → ((A.length : Int) - B.length) % 2 = 0) (hfrt : fr = true → ((A.length : Int) - B.length) % 2 = 1)
  (hmD : 2 * mD = (A.length : Int) + B.length ∨ 2 * mD = (A.length : Int) + B.length + 1) (hm : 2 ≤ mD) (hm2 : mD ≤ 1000000) (hN : (A.length : Int) ≤ 1000000) (hNM : (B.length : Int) ≤ 1000000) :
  ∀ (c m : Nat) (d s1 e1 s2 e2 : Int) (v1 v2 : List Int) (V1 V2 : Int → Int), 0 ≤ d → (mD - d).toNat ≤ c → c < m → Done A B mD (d - 1) s1 e1 V1 → Done A.reverse B.reverse mD (d - 1) s2 e2 V2 → Arr v1 mD V1 → Arr v2 mD V2 →
   s1 ≤ 3000000 → e1 ≤ 3000000 → s2 ≤ 3000000 → e2 ≤ 3000000 → (fr = true → 2 * d - 1 ≤ dst A B) → (fr = false → 2 * d ≤ dst A B) →
   Met kr q98 p0 A B (g94_39L (β := β) n q75 q87 q94 q98 kr kx m p0 A B (A.length : Int) (B.length : Int) mD mD (2 * mD) v1 v2 ((A.length : Int) - B.length) fr s1 e1 s2 e2 d) ∨
   (g94_39L (β := β) n q75 q87 q94 q98 kr kx m p0 A B (A.length : Int) (B.length : Int) mD mD (2 * mD) v1 v2 ((A.length : Int) - B.length) fr s1 e1 s2 e2 d = kx A B ∧ dst A B = A.length + B.length) := by
 have hrD : dst A.reverse B.reverse = dst A B := dst_rev A B
 intro c
 induction c using Nat.strongRecOn with
 | _ c ih =>
  intro m d s1 e1 s2 e2 v1 v2 V1 V2 hd hc hm1 hV hW hA1 hA2 b1 b2 b3 b4 hDt hDf
  obtain ⟨m, rfl⟩ : ∃ m', m = m' + 1 := ⟨m - 1, by omega⟩
  have hpar := dst_par A B
  have hhi := dst_hi A B
  rw [g94_39L.eq_2]
  dsimp only [g94_38, g94_6]
  have hDD : 2 * d - 1 ≤ dst A B := by
   cases hfr : fr with
   | true => exact hDt hfr
   | false => have := hDf hfr; omega
  have hDd : d ≤ dst A B := by omega
  by_cases hdm : d < mD
  ·rw [bdT hdm]
   dsimp only [g94_36, g94_35, g94_7, g94_20, g94_19]
   have hV0 := hV.s0
   have hW0 := hW.s0
   rw [w64_id (n := 0 - d) (by omega) (by omega), w64_id (n := 0 - d + s1) (by omega) (by omega)]
   have hMV := hV.start (by omega) (by omega)
   rw [show d - 1 + 1 = d by omega] at hMV
   have hMW := hW.start (by omega) (by omega)
   rw [show d - 1 + 1 = d by omega] at hMW
   rw [show 0 - d + s1 = -d + s1 by omega]
   have hVe := hV.e0
   have hWe := hW.e0
   rcases floop (β := β) (p0 := p0) (A := A) (B := B) (mD := mD) q75 q87 q94 q98 n hn (s2 := s2) (e2 := e2) (kr := kr) (fr := fr)
    (kx := fun p0 x1 x2 v7 v8 v9 v10 v11 x12 x13 v15 v16 v17 v18 v19 v20 v21 => g94_21 n q75 q87 q94 q98 (fun p0 x1 x2 v7 v8 v9 v10 v11 x12 x13 v15 v16 v17 v18 v19 v20 v21 v28 => g94_34 n q75 q87 q94 q98 (fun p0 x1 x2 v7 v8 v9 v10 v11 x12 x13 v15 v16 v17 v18 v19 v20 v21 => g94_37 n q75 q87 q94 q98 (g94_39L n q75 q87 q94 q98 kr kx m) p0 x1 x2 v7 v8 v9 v10 v11 x12 x13 v15 v16 v17 v18 v19 v20 v21) kr p0 x1 x2 v7 v8 v9 v10 v11 x12 x13 v15 v16 v17 v18 v19 v20 v21 v28) p0 x1 x2 v7 v8 v9 v10 v11 x12 x13 v15 v16 v17 v18 v19 v20 v21)
    hA2 hW hm hm2 hN hNM hDD hDd _ n (-d + s1) s1 e1 v1 V1 hMV hA1 b1 b2 (fun _ _ x y ho hfo => by have := hMV.prune x y ho (by omega); omega) (Nat.le_refl _) (by unfold Big at hn; omega) with h | ⟨s', e', v1', V1', h1, h2, h3, h4, h5, h6⟩
   ·exact .inl h
   rw [h1]
   dsimp only [g94_21, g94_34, g94_33]
   rw [w64_id (n := 0 - d) (by omega) (by omega), w64_id (n := 0 - d + s2) (by omega) (by omega), show 0 - d + s2 = -d + s2 by omega]
   rcases rloop (β := β) (p0 := p0) (A := A) (B := B) (mD := mD) q75 q87 q94 q98 n hn (s1 := s') (e1 := e') (kr := kr) (fr := fr)
    (kx := fun p0 x1 x2 v7 v8 v9 v10 v11 x12 x13 v15 v16 v17 v18 v19 v20 v21 => g94_37 n q75 q87 q94 q98 (g94_39L n q75 q87 q94 q98 kr kx m) p0 x1 x2 v7 v8 v9 v10 v11 x12 x13 v15 v16 v17 v18 v19 v20 v21)
    hfrd h2 h3 hm hm2 hN hNM hDf hDd _ n (-d + s2) s2 e2 v2 V2 hMW hA2 b3 b4 (fun _ _ x y ho hfo => by have := hMW.prune x y ho (by omega); omega) (Nat.le_refl _) (by unfold Big at hn; omega) with h | ⟨s'', e'', v2', V2', g1, g2, g3, g4, g5, g6⟩
   ·exact .inl h
   rw [g1]
   dsimp only [g94_37]
   rw [w64_id (n := d + 1) (by omega) (by omega)]
   refine ih (mD - (d + 1)).toNat (by omega) m (d + 1) s' e' s'' e'' v1' v2' V1' V2' (by omega) (Nat.le_refl _) (by omega) (by rw [show d + 1 - 1 = d by omega]; exact h3) (by rw [show d + 1 - 1 = d by omega]; exact g3) h2 g2 h4 h5 g4 g5 ?_ ?_
   ·intro hfr
    have q1 := hDt hfr
    have q2 := h6 hfr
    have q3 := hfrt hfr
    omega
   ·intro hfr
    have q1 := hDf hfr
    have q2 := g6 hfr
    have q3 := hfrd hfr
    omega
  ·rw [bdF hdm]
   refine .inr ⟨rfl, ?_⟩
   cases hfr : fr with
   | true =>
    have q1 := hDt hfr
    have q3 := hfrt hfr
    omega
   | false =>
    have q1 := hDf hfr
    have q3 := hfrd hfr
    omega
theorem iloop (n : Nat) {kx} (N M m1 m2 L2 : Int) (L : Nat) (hL : L ≤ 4000000) : ∀ (c i m : Nat) (v1 v2 : List Int), L - i = c → i ≤ L → c < m → v1.length = L → v2.length = L → (∀ j : Nat, j < i → rd v1 (j : Int) 0 = -1 ∧ rd v2 (j : Int) 0 = -1) →
  ∃ v1' v2', g94_3L (β := β) n q75 q87 q94 q98 kx m p0 A B N M m1 m2 L2 v1 v2 (L : Int) (i : Int) = kx p0 A B N M m1 m2 L2 v1' v2' ∧ v1'.length = L ∧ v2'.length = L ∧ ∀ j : Nat, j < L → rd v1' (j : Int) 0 = -1 ∧ rd v2' (j : Int) 0 = -1 := by
 intro c
 induction c with
 | zero =>
  intro i m v1 v2 hc hi hm h1 h2 hv
  obtain ⟨m, rfl⟩ : ∃ m', m = m' + 1 := ⟨m - 1, by omega⟩
  refine ⟨v1, v2, ?_, h1, h2, fun j hj => hv j (by omega)⟩
  rw [g94_3L.eq_2, g94_2, bdF (by omega)]
 | succ c ih =>
  intro i m v1 v2 hc hi hm h1 h2 hv
  obtain ⟨m, rfl⟩ : ∃ m', m = m' + 1 := ⟨m - 1, by omega⟩
  rw [g94_3L.eq_2, g94_2, bdT (by omega), idx_ok (by omega) (by omega), idx_ok (by omega) (by omega), w64_id (by omega) (by omega)]
  have key : ∀ v : List Int, v.length = L → ∀ j : Nat, j < i + 1 → (j < i → rd v (j : Int) 0 = -1) → rd (v.set (i : Int).toNat (-1)) (j : Int) 0 = -1 := fun v hv j hj hr => by
   rw [rd_lt (by omega) (by rw [List.length_set]; omega), List.getElem_set]
   split
   ·rfl
   ·have := hr (by omega)
    rw [rd_lt (by omega) (by omega)] at this
    exact this
  exact ih (i + 1) m _ _ (by omega) (by omega) (by omega) (by rw [List.length_set]; exact h1) (by rw [List.length_set]; exact h2) fun j hj => ⟨key v1 h1 j hj fun h => (hv j h).1, key v2 h2 j hj fun h => (hv j h).2⟩
theorem bisect_ok (n : Nat) (hn : Big ≤ n) (h3 : 3 ≤ A.length + B.length) (hN : A.length ≤ 500000) (hM : B.length ≤ 500000) {kr : List (Int × ByteArray) → Option β} :
  Met kr q98 p0 A B (g94_42 (β := β) n q75 q87 q94 q98 kr p0 A B) ∨
  (g94_42 (β := β) n q75 q87 q94 q98 kr p0 A B = kr [(-1, runesBytes A), (1, runesBytes B)] ∧ dst A B = A.length + B.length) := by
 dsimp only [g94_42, g94_1]
 rw [w64_id (n := (A.length : Int) + B.length) (by omega) (by omega), w64_id (n := (A.length : Int) + B.length + 1) (by omega) (by omega)]
 obtain ⟨mN, hmN⟩ : ∃ mN : Nat, mN = (A.length + B.length + 1) / 2 := ⟨_, rfl⟩
 have e1 : ((A.length : Int) + B.length + 1).tdiv 2 = (mN : Int) := by
  rw [Int.tdiv_eq_ediv_of_nonneg (by omega)]; omega
 rw [e1, w64_id (n := (mN : Int)) (by omega) (by omega), w64_id (n := 2 * (mN : Int)) (by omega) (by omega), bnd_ok (by omega) (by omega) (by omega), roomI_ok (by omega), bnd_ok (by omega) (by omega) (by omega), roomI_ok (by omega)]
 have e2 : (2 * (mN : Int)).toNat = 2 * mN := by omega
 rw [e2, List.length_replicate]
 dsimp only [g94_4, g94_3]
 obtain ⟨v1, v2, i1, i2, i3, i4⟩ := iloop (β := β) (p0 := p0) (A := A) (B := B) q75 q87 q94 q98 n (kx := fun p0 x1 x2 v7 v8 v9 v10 v11 x12 x13 => g94_5 n q75 q87 q94 q98 (fun p0 x1 x2 v7 v8 v9 v10 v11 x12 x13 v15 v16 v17 v18 v19 v20 v21 => g94_40 n q75 q87 q94 q98 (fun x1 x2 => g94_41 n q75 q87 q94 q98 kr x1 x2) kr p0 x1 x2 v7 v8 v9 v10 v11 x12 x13 v15 v16 v17 v18 v19 v20 v21) p0 x1 x2 v7 v8 v9 v10 v11 x12 x13) (A.length : Int) (B.length : Int) (mN : Int) (mN : Int) (2 * (mN : Int)) (2 * mN) (by omega) (2 * mN) 0 n (List.replicate (2 * mN) 0) (List.replicate (2 * mN) 0) (by omega) (by omega) (by unfold Big at hn; omega) (by simp) (by simp) (fun j hj => by omega)
 rw [show ((0 : Nat) : Int) = 0 from rfl] at i1
 rw [i1]
 dsimp only [g94_5, g94_40, g94_39]
 rw [w64_id (n := (mN : Int) + 1) (by omega) (by omega), idx_ok (by omega) (by omega), idx_ok (by omega) (by omega), w64_id (n := (A.length : Int) - B.length) (by omega) (by omega)]
 have harr : ∀ v : List Int, v.length = 2 * mN → (∀ j : Nat, j < 2 * mN → rd v (j : Int) 0 = -1) → Arr (v.set ((mN : Int) + 1).toNat 0) mN (updV (fun _ => -1) 1 0) := fun v hl hv => by
  refine Arr.set (V := fun _ => -1) ⟨by omega, fun j j1 j2 => ?_⟩ (by omega) (by omega)
  have := hv ((mN : Int) + j).toNat (by omega)
  rw [Int.toNat_of_nonneg (by omega)] at this
  exact this
 have hdone : ∀ A B : List Int, Done A B (mN : Int) (0 - 1) 0 0 (updV (fun _ => -1) 1 0) := fun A B => Done.first (by omega) (fun j _ _ hj => updV_other _ hj) (updV_same _ _ _)
 have hfr : ∀ z : Int, ((z.tmod 2 != 0) = false → z % 2 = 0) ∧ ((z.tmod 2 != 0) = true → z % 2 = 1) := fun z => by
  have : z.tmod 2 = 0 ↔ z % 2 = 0 := ⟨fun h => Int.emod_eq_zero_of_dvd (Int.dvd_of_tmod_eq_zero h), fun h => Int.tmod_eq_zero_of_dvd (Int.dvd_of_emod_eq_zero h)⟩
  refine ⟨fun h => ?_, fun h => ?_⟩
  ·have h : z.tmod 2 = 0 := by simpa using h
   exact this.1 h
  ·have h : ¬ z.tmod 2 = 0 := by simpa using h
   have : z % 2 ≠ 0 := fun h' => h (this.2 h')
   omega
 rcases oloop (β := β) (p0 := p0) (A := A) (B := B) (mD := (mN : Int)) q75 q87 q94 q98 n hn (kx := fun x1 x2 => g94_41 n q75 q87 q94 q98 kr x1 x2) (kr := kr) (fr := ((A.length : Int) - B.length).tmod 2 != 0) (hfr _).1 (hfr _).2 (by omega) (by omega) (by omega) (by omega) (by omega) _ n 0 0 0 0 0 _ _ _ _ (Int.le_refl _) (Nat.le_refl _) (by unfold Big at hn; omega) (hdone A B) (hdone A.reverse B.reverse) (harr v1 i2 fun j hj => (i4 j hj).1) (harr v2 i3 fun j hj => (i4 j hj).2) (by omega) (by omega) (by omega) (by omega) (fun _ => by omega) (fun _ => by omega) with h | ⟨h1, h2⟩
 ·exact .inl h
 ·exact .inr ⟨h1, h2⟩
end
end Go.Proofs.YticibdjilmclgaaGreatDoorZF
namespace Go.Proofs.YticibdjilmclgaaGreatDoorZF
open Go
set_option linter.unusedVariables false
set_option linter.unusedSimpArgs false
theorem getD_ext {x y : List Int} (h : x.length = y.length) (hv : ∀ j, j < x.length → x.getD j 0 = y.getD j 0) : x = y := by
 apply List.ext_getElem h
 intro j h1 h2
 have := hv j h1
 simpa [List.getD, List.getElem?_eq_getElem h1, List.getElem?_eq_getElem h2] using this
theorem runesEqual_ok (n : Nat) (hn : Big ≤ n) (x y : List Int) (hx : x.length ≤ 1000000000000) : g86 n x y = some (decide (x = y), ()) := by
 dsimp only [g86, g86_6, g86_5, g86_4, g86_3, g86_1]
 by_cases hl : x.length = y.length
 ·rw [biF (by simp [hl])]
  have key : ∀ (d i m : Nat), x.length - i = d → i ≤ x.length → d < m → (∀ j, j < i → x.getD j 0 = y.getD j 0) → g86_3L n (fun v4 => @some (DenR [.dat .bool]) (v4, ())) (some (true, ())) m y x (x.length : Int) (i : Int) = some (decide (x = y), ()) := by
   intro d
   induction d with
   | zero =>
    intro i m hd hi hm hv
    obtain ⟨m, rfl⟩ : ∃ m', m = m' + 1 := ⟨m - 1, by omega⟩
    rw [g86_3L.eq_2, g86_2, bdF (by omega), decide_eq_true (getD_ext hl fun j hj => hv j (by omega))]
   | succ d ih =>
    intro i m hd hi hm hv
    obtain ⟨m, rfl⟩ : ∃ m', m = m' + 1 := ⟨m - 1, by omega⟩
    rw [g86_3L.eq_2, g86_2, bdT (by omega), idx_ok (by omega) (by omega), idx_ok (by omega) (by omega), rd_nat, rd_nat]
    by_cases e : x.getD i 0 = y.getD i 0
    ·rw [biF (by rw [e]; simp), w64_id (by omega) (by omega)]
     refine ih (i + 1) m (by omega) (by omega) (by omega) fun j hj => ?_
     by_cases hj' : j = i
     ·subst hj'; exact e
     ·exact hv j (by omega)
    ·rw [biT (by simpa using e), decide_eq_false (fun h => e (by rw [h]))]
  exact key x.length 0 n (by omega) (by omega) (by unfold Big at hn; omega) fun j hj => by omega
 ·rw [biT (by simp; omega), decide_eq_false (fun h => hl (by rw [h]))]
theorem runesIndex_ok (n : Nat) (hn : Big ≤ n) (x y : List Int) (hx : x.length ≤ 1000000000000) (hy : y.length ≤ 1000000000000) :
  (∃ u v, x = u ++ y ++ v ∧ g91 n x y = some ((u.length : Int), ())) ∨ ((∀ u v, x ≠ u ++ y ++ v) ∧ g91 n x y = some (-1, ())) := by
 dsimp only [g91, g91_6, g91_5, g91_4, g91_3, g91_1]
 rw [w64_id (n := (x.length : Int) - y.length) (by omega) (by omega)]
 have key : ∀ (d i m : Nat), x.length + 1 - i = d → d < m → (∀ j, j < i → j + y.length ≤ x.length → (x.drop j).take y.length ≠ y) →
   (∃ u v, x = u ++ y ++ v ∧ g91_3L n (fun v4 => @some (DenR [.dat (.int .i64)]) (v4, ())) (some (-1, ())) m x y ((x.length : Int) - y.length) (i : Int) = some ((u.length : Int), ())) ∨
   ((∀ u v, x ≠ u ++ y ++ v) ∧ g91_3L n (fun v4 => @some (DenR [.dat (.int .i64)]) (v4, ())) (some (-1, ())) m x y ((x.length : Int) - y.length) (i : Int) = some (-1, ())) := by
  intro d
  induction d using Nat.strongRecOn with
  | _ d ih =>
   intro i m hd hm hv
   obtain ⟨m, rfl⟩ : ∃ m', m = m' + 1 := ⟨m - 1, by omega⟩
   rw [g91_3L.eq_2, g91_2]
   by_cases h : i + y.length ≤ x.length
   ·rw [bdT (by omega), w64_id (n := (i : Int) + y.length) (by omega) (by omega), bnd_ok (by omega) (by omega) (by omega)]
    have ec : cut x (i : Int) ((i : Int) + y.length) = (x.drop i).take y.length := by
     rw [show (i : Int) + y.length = ((i + y.length : Nat) : Int) by omega, cut_nat]; congr 1; omega
    rw [ec, runesEqual_ok n hn _ _ (by rw [List.length_take, List.length_drop]; omega), Option.bind_some]
    by_cases e : (x.drop i).take y.length = y
    ·rw [biT (by simpa using e)]
     refine .inl ⟨x.take i, x.drop (i + y.length), ?_, by rw [show (x.take i).length = i by rw [List.length_take]; omega]⟩
     rw [List.append_assoc]
     conv => rhs; rw [← e]
     rw [List.length_take, List.length_drop, show min y.length (x.length - i) = y.length by omega, ← List.drop_drop, List.take_append_drop, List.take_append_drop]
    ·rw [biF (by simpa using e), w64_id (by omega) (by omega)]
     have := ih (d - 1) (by omega) (i + 1) m (by omega) (by omega) fun j hj hjl => by
      by_cases hj' : j = i
      ·subst hj'; exact e
      ·exact hv j (by omega) hjl
     rw [show ((i : Int) + 1) = ((i + 1 : Nat) : Int) by omega]
     exact this
   ·rw [bdF (by omega)]
    refine .inr ⟨fun u v hx' => ?_, rfl⟩
    have hl := congrArg List.length hx'
    simp only [List.length_append] at hl
    refine hv u.length (by omega) (by omega) ?_
    rw [hx', List.append_assoc, List.drop_left, List.take_left]
 exact key (x.length + 1) 0 n (by omega) (by unfold Big at hn; omega) fun j hj => by omega
end Go.Proofs.YticibdjilmclgaaGreatDoorZF
namespace Go.Proofs.YticibdjilmclgaaGreatDoorZF
open Go
set_option linter.unusedVariables false
set_option linter.unusedSimpArgs false
structure LD (a b : List Int) (l : List Rp) : Prop where
 ok : Ok l
 src : srcR l = a
 tgt : tgtR l = b
 ed : edR l = dst a b
 len : l.length ≤ 3 * (a.length + b.length)
 full : Full l
theorem LD.best {a b : List Int} {l : List Rp} (h : LD a b l) : Best l := by unfold Best; rw [h.src, h.tgt]; exact Nat.le_of_eq h.ed
theorem LD.of {a b : List Int} {l : List Rp} (ok : Ok l) (src : srcR l = a) (tgt : tgtR l = b) (ed : edR l ≤ dst a b) (len : l.length ≤ 3 * (a.length + b.length)) (full : Full l) : LD a b l :=
 ⟨ok, src, tgt, by have := dst_le_ed l ok.ops; rw [src, tgt] at this; omega, len, full⟩
theorem LD.merge {a b : List Int} {l : List Rp} (h : LD a b l) : LD a b (merge l) := by
 have h1 := merge_texts h.ok
 have h2 := phi_merge h.ok
 have h3 := dst_le_ed (Go.Proofs.YticibdjilmclgaaGreatDoorZF.merge l) h.ok.merge.ops
 rw [h1.1, h1.2.1, h.src, h.tgt] at h3
 have h4 := h.ed
 have h5 := h.len
 refine LD.of h.ok.merge (h1.1.trans h.src) (h1.2.1.trans h.tgt) (by omega) ?_ (merge_tidy h.ok h.full h.best).1
 unfold phi at h2
 omega
theorem dst_one : ∀ (c : Int) (v : List Int), c ∉ v → dst [c] v = 1 + v.length
 | c, [], _ => by rw [dst_nil']; rfl
 | c, b :: v, h => by
  have h1 : ¬ c = b := fun e => h (by simp [e])
  have h2 := dst_one c v fun hv => h (by simp [hv])
  rw [dst_cons, if_neg h1, dst_nil, h2, List.length_cons]; omega
def Trim (a b : List Int) : Prop := (∀ c x d y, a = c :: x → b = d :: y → c ≠ d) ∧ (∀ c x d y, a = x ++ [c] → b = y ++ [d] → c ≠ d)
theorem Trim.two {a b : List Int} (h : Trim a b) (ha : a ≠ []) (hb : b ≠ []) : 2 ≤ dst a b := by
 match a, b, ha, hb with
 | c :: x, d :: y, _, _ =>
  have hcd := h.1 c x d y rfl rfl
  rw [dst_cons, if_neg hcd]
  have k1 : dst x (d :: y) ≠ 0 := fun h0 => by
   have e := dst_zero h0
   rcases List.eq_nil_or_concat (d :: y) with g | ⟨u, q, g⟩
   ·cases g
   ·rw [List.concat_eq_append] at g
    exact h.2 q (c :: u) q u (by rw [e, g]; rfl) g rfl
  have k2 : dst (c :: x) y ≠ 0 := fun h0 => by
   have e := dst_zero h0
   rcases List.eq_nil_or_concat (c :: x) with g | ⟨u, q, g⟩
   ·cases g
   ·rw [List.concat_eq_append] at g
    exact h.2 q u q (d :: u) g (by rw [← e, g]; rfl) rfl
  omega
theorem within_ne {L S u v : List Int} (e : L = u ++ S ++ v) (hS : S ≠ []) (h1 : ∀ c x y, L = c :: x → S = c :: y → False) (h2 : ∀ c x y, L = x ++ [c] → S = y ++ [c] → False) : u ≠ [] ∧ v ≠ [] := by
 refine ⟨fun hu => ?_, fun hv => ?_⟩
 ·subst hu
  cases S with
  | nil => exact hS rfl
  | cons c y => exact h1 c (y ++ v) y (by rw [e]; simp) rfl
 ·subst hv
  rcases List.eq_nil_or_concat S with g | ⟨y, c, g⟩
  ·exact hS g
  ·rw [List.concat_eq_append] at g
   exact h2 c (u ++ y) y (by rw [e, g]; simp) g
theorem Trim.ne {a b : List Int} (h : Trim a b) : (∀ c x y, a = c :: x → b = c :: y → False) ∧ (∀ c x y, a = x ++ [c] → b = y ++ [c] → False) := ⟨fun c x y h1 h2 => h.1 c x c y h1 h2 rfl, fun c x y h1 h2 => h.2 c x c y h1 h2 rfl⟩
theorem full3 {k1 k2 k3 : Int} {u s v : List Int} (hu : u ≠ []) (hs : s ≠ []) (hv : v ≠ []) : Full [(k1, u), (k2, s), (k3, v)] := Full.cons hu (Full.cons hs (Full.cons hv Full.nil))
theorem full2 {k1 k2 : Int} {u v : List Int} (hu : u ≠ []) (hv : v ≠ []) : Full [(k1, u), (k2, v)] := Full.cons hu (Full.cons hv Full.nil)
theorem halfNone (n : Nat) (p0) (x y : List Int) (hp : p0.1 ≤ (0 : Int)) : g92 n p0 x y = some ((), ()) := by
 dsimp only [g92, g92_3, g92_1]
 rw [bdT hp]
section
variable (q75 : DenA g75_A → Option (DenR g75_R)) (q87 : DenA g87_A → Option (DenR g87_R)) (q94 : DenA g94_A → Option (DenR g94_R)) (q98 : DenA g98_A → Option (DenR g98_R))
theorem split_ok (n : Nat) (p0) {A B : List Int} {x y : Nat} (hx : x ≤ A.length) (hy : y ≤ B.length) {l1 l2 : List Rp} (h1 : q75 (p0, (A.take x, (B.take y, (false, ())))) = @some (DenR g75_R) (M l1, ())) (h2 : q75 (p0, (A.drop x, (B.drop y, (false, ())))) = @some (DenR g75_R) (M l2, ())) (hl : l1.length + l2.length ≤ 1000000) :
  g98_b n q75 q87 q94 q98 p0 A B (x : Int) (y : Int) = some (M (l1 ++ l2), ()) := by
 dsimp only [g98_b, g98_1]
 rw [bnd_ok (by omega) (by omega) (by omega), bnd_ok (by omega) (by omega) (by omega), bnd_ok (by omega) (by omega) (by omega), bnd_ok (by omega) (by omega) (by omega), cut_from, cut_from, cut_to _ _ _ (by omega), cut_to _ _ _ (by omega), Int.toNat_natCast, Int.toNat_natCast, bind_some' h1, bind_some' h2]
 simp only
 rw [roomy_ok (by unfold M; rw [List.length_map, List.length_map]; omega)]
 unfold M
 rw [List.map_append]
theorem same_way {γ : Type} (c d : Bool) (z : γ) : (bif c then (bif d then z else z) else z) = z := by cases c <;> cases d <;> rfl
theorem compute_ok (n : Nat) (hn : Big ≤ n) (p0) (hp : p0.1 ≤ (0 : Int)) {a b : List Int} (ln : Bool) (hln : ln = false ∨ a.length ≤ 100 ∨ b.length ≤ 100) (ha : Valids a) (hb : Valids b) (hla : a.length ≤ 100000) (hlb : b.length ≤ 100000) (ht : Trim a b) (hne : a ≠ [] ∨ b ≠ [])
  (hq : 2 ≤ a.length → 2 ≤ b.length → 2 ≤ dst a b → ∃ l, q94 (p0, (a, (b, ()))) = @some (DenR g94_R) (M l, ()) ∧ LD a b l) : ∃ l, g87_b n q75 q87 q94 q98 p0 a b ln = some (M l, ()) ∧ LD a b l := by
 dsimp only [g87_b, g87_3, g87_1]
 by_cases ea : a = []
 ·subst ea
  rw [biT (by simp), roomy_ok (by simp)]
  refine ⟨[(1, b)], rfl, LD.of (fun d hd => ?_) rfl (by simp [tgtR]) (by rw [dst_nil]; show b.length + 0 ≤ _; omega) ?_ (Full.cons (hne.resolve_left (fun h => h rfl)) Full.nil)⟩
  ·obtain rfl := List.mem_singleton.1 hd
   exact ⟨.inr (.inr rfl), hb⟩
  ·have : b ≠ [] := hne.resolve_left (fun h => h rfl)
   have := List.length_pos_iff.2 this
   simp; omega
 ·have pa := List.length_pos_iff.2 ea
  rw [biF (by simp; exact ea)]
  by_cases eb : b = []
  ·subst eb
   rw [biT (by simp), roomy_ok (by simp)]
   refine ⟨[(-1, a)], rfl, LD.of (fun d hd => ?_) (by simp [srcR]) rfl (by rw [dst_nil']; show a.length + 0 ≤ _; omega) ?_ (Full.cons ea Full.nil)⟩
   ·obtain rfl := List.mem_singleton.1 hd
    exact ⟨.inl rfl, ha⟩
   ·simp; omega
  ·have pb := List.length_pos_iff.2 eb
   rw [biF (by simp; exact eb)]
   have hd2 := ht.two ea eb
   have key : ∀ (L S : List Int), S.length ≤ L.length → ((L = a ∧ S = b ∧ a.length > b.length) ∨ (L = b ∧ S = a ∧ ¬ a.length > b.length)) → ∃ l, g87_2 n q75 q87 q94 q98 (fun x8 => @some (DenR [.rw (.pair (.int .i8) .str) 65]) (x8, ())) p0 a b ln L S = some (M l, ()) ∧ LD a b l := by
    intro L S hSL hcase
    have hLv : Valids L := by rcases hcase with ⟨rfl, _, _⟩ | ⟨rfl, _, _⟩ <;> assumption
    have hSv : Valids S := by rcases hcase with ⟨_, rfl, _⟩ | ⟨_, rfl, _⟩ <;> assumption
    have hLl : L.length ≤ 100000 := by rcases hcase with ⟨rfl, _, _⟩ | ⟨rfl, _, _⟩ <;> assumption
    have hSn : S ≠ [] := by rcases hcase with ⟨_, rfl, _⟩ | ⟨_, rfl, _⟩ <;> assumption
    have hSp := List.length_pos_iff.2 hSn
    unfold g87_2
    rcases runesIndex_ok n hn L S (by omega) (by omega) with ⟨u, v, e, h⟩ | ⟨hno, h⟩
    ·have hl := congrArg List.length e
     simp only [List.length_append] at hl
     have huv : Valids u ∧ Valids v := by
      rw [e] at hLv
      exact ⟨(Valids.of_append (Valids.of_append hLv).1).1, (Valids.of_append hLv).2⟩
     have c1 : cut L 0 (u.length : Int) = u := by rw [cut_from, e, Int.toNat_natCast, List.append_assoc, List.take_left]
     have c2 : cut L ((u.length : Int) + S.length) (L.length : Int) = v := by
      rw [cut_to _ _ _ (by omega), e, show ((u.length : Int) + S.length).toNat = (u ++ S).length by rw [List.length_append]; omega, List.drop_left]
     rw [h, Option.bind_some, biT (by simp)]
     have hw : w64 ((u.length : Int) + S.length) = (u.length : Int) + S.length := w64_id (by omega) (by omega)
     rcases hcase with ⟨rfl, rfl, hgt⟩ | ⟨rfl, rfl, hgt⟩
     ·rw [bdT (by omega)]
      simp only [hw]
      rw [bnd_ok (by omega) (by omega) (by omega), bnd_ok (by omega) (by omega) (by omega), c1, c2]
      have hw := within_ne e hSn ht.ne.1 ht.ne.2
      refine ⟨[(-1, u), (0, S), (-1, v)], rfl, LD.of (fun d hd => ?_) ?_ ?_ ?_ ?_ (full3 hw.1 hSn hw.2)⟩
      ·simp only [List.mem_cons, List.not_mem_nil, or_false] at hd
       rcases hd with rfl | rfl | rfl
       ·exact ⟨.inl rfl, huv.1⟩
       ·exact ⟨.inr (.inl rfl), hSv⟩
       ·exact ⟨.inl rfl, huv.2⟩
      ·show u ++ (S ++ (v ++ [])) = L; rw [e]; simp
      ·show S ++ [] = S; simp
      ·show u.length + (0 + (v.length + 0)) ≤ _
       have := (dst_lo L S).1
       omega
      ·simp; omega
     ·rw [bdF (by omega)]
      simp only [hw]
      rw [bnd_ok (by omega) (by omega) (by omega), bnd_ok (by omega) (by omega) (by omega), c1, c2]
      have hw := within_ne e hSn (fun c x y k1 k2 => ht.ne.1 c y x k2 k1) (fun c x y k1 k2 => ht.ne.2 c y x k2 k1)
      refine ⟨[(1, u), (0, S), (1, v)], rfl, LD.of (fun d hd => ?_) ?_ ?_ ?_ ?_ (full3 hw.1 hSn hw.2)⟩
      ·simp only [List.mem_cons, List.not_mem_nil, or_false] at hd
       rcases hd with rfl | rfl | rfl
       ·exact ⟨.inr (.inr rfl), huv.1⟩
       ·exact ⟨.inr (.inl rfl), hSv⟩
       ·exact ⟨.inr (.inr rfl), huv.2⟩
      ·show S ++ [] = S; simp
      ·show u ++ (S ++ (v ++ [])) = L; rw [e]; simp
      ·show u.length + (0 + (v.length + 0)) ≤ _
       have := (dst_lo S L).2
       omega
      ·simp; omega
    ·rw [h, Option.bind_some, biF (by simp)]
     by_cases h1 : S.length = 1
     ·rw [biT (by simp [h1])]
      obtain ⟨c, hc⟩ := List.length_eq_one_iff.1 h1
      have hcL : c ∉ L := fun hm => by
       obtain ⟨u, v, e⟩ := List.append_of_mem hm
       exact hno u v (by rw [e, hc]; simp)
      have hdd : dst S L = 1 + L.length := by rw [hc]; exact dst_one c L hcL
      refine ⟨[(-1, a), (1, b)], rfl, LD.of (fun d hd => ?_) ?_ ?_ ?_ ?_ (full2 ea eb)⟩
      ·simp only [List.mem_cons, List.not_mem_nil, or_false] at hd
       rcases hd with rfl | rfl
       ·exact ⟨.inl rfl, ha⟩
       ·exact ⟨.inr (.inr rfl), hb⟩
      ·show a ++ [] = a; simp
      ·show b ++ [] = b; simp
      ·show a.length + (b.length + 0) ≤ _
       rcases hcase with ⟨rfl, rfl, hgt⟩ | ⟨rfl, rfl, hgt⟩
       ·rw [dst_comm _ _ _ (Nat.le_refl _), hdd]; omega
       ·rw [hdd]; omega
      ·simp; omega
     ·rw [biF (by simp; omega), halfNone n p0 a b hp, Option.bind_some]
      have h2a : 2 ≤ a.length ∧ 2 ≤ b.length := by rcases hcase with ⟨rfl, rfl, hgt⟩ | ⟨rfl, rfl, hgt⟩ <;> omega
      obtain ⟨l, g1, g2⟩ := hq h2a.1 h2a.2 hd2
      refine ⟨l, ?_, g2⟩
      rcases hln with rfl | h | h
      ·rw [cond_false, g1]; rfl
      ·rw [bdF (by omega), g1]; cases ln <;> rfl
      ·rw [bdF (p := (b.length : Int) > 100) (by omega), same_way, g1]; rfl
   by_cases hgt : a.length > b.length
   ·rw [bdT (by omega)]
    exact key a b (by omega) (.inl ⟨rfl, rfl, hgt⟩)
   ·rw [bdF (by omega)]
    exact key b a (by omega) (.inr ⟨rfl, rfl, hgt⟩)
end
end Go.Proofs.YticibdjilmclgaaGreatDoorZF
namespace Go.Proofs.YticibdjilmclgaaGreatDoorZF
open Go
set_option linter.unusedVariables false
set_option linter.unusedSimpArgs false
theorem csl_last {x y : List Int} {c d : Int} {u v : List Int} (hx : x.take (x.length - csl x y) = u ++ [c]) (hy : y.take (y.length - csl x y) = v ++ [d]) : c ≠ d := by
 have e1 := congrArg List.reverse hx
 have e2 := congrArg List.reverse hy
 rw [List.reverse_append] at e1 e2
 have q1 : x.reverse.drop (cpl x.reverse y.reverse) = c :: u.reverse := by
  rw [List.drop_reverse]; exact e1
 have q2 : y.reverse.drop (cpl x.reverse y.reverse) = d :: v.reverse := by
  rw [List.drop_reverse]; exact e2
 exact cpl_head q1 q2
theorem trim_ok (a b : List Int) : Trim ((a.drop (cpl a b)).take ((a.drop (cpl a b)).length - csl (a.drop (cpl a b)) (b.drop (cpl a b)))) ((b.drop (cpl a b)).take ((b.drop (cpl a b)).length - csl (a.drop (cpl a b)) (b.drop (cpl a b)))) := by
 refine ⟨fun c x d y hx hy => ?_, fun c x d y hx hy => csl_last hx hy⟩
 have g1 : ∃ x', a.drop (cpl a b) = c :: x' := by
  cases h : a.drop (cpl a b) with
  | nil => rw [h] at hx; simp at hx
  | cons c' x' =>
   rw [h] at hx
   cases hn : (c' :: x').length - csl (c' :: x') (b.drop (cpl a b)) with
   | zero => rw [hn] at hx; simp at hx
   | succ k => rw [hn, List.take_succ_cons] at hx; exact ⟨x', by rw [List.cons.inj hx |>.1]⟩
 have g2 : ∃ y', b.drop (cpl a b) = d :: y' := by
  cases h : b.drop (cpl a b) with
  | nil => rw [h] at hy; simp at hy
  | cons d' y' =>
   rw [h] at hy
   cases hn : (d' :: y').length - csl (a.drop (cpl a b)) (d' :: y') with
   | zero => rw [hn] at hy; simp at hy
   | succ k => rw [hn, List.take_succ_cons] at hy; exact ⟨y', by rw [List.cons.inj hy |>.1]⟩
 obtain ⟨x', g1⟩ := g1
 obtain ⟨y', g2⟩ := g2
 exact cpl_head g1 g2
def eqPart (t : List Int) : List Rp := if t = [] then [] else [(0, t)]
theorem eqPart_full (t : List Int) : Full (eqPart t) := by
 unfold eqPart
 split
 ·exact Full.nil
 ·rename_i h; exact Full.cons h Full.nil
theorem eqPart_ok {t : List Int} (h : Valids t) : Ok (eqPart t) ∧ srcR (eqPart t) = t ∧ tgtR (eqPart t) = t ∧ edR (eqPart t) = 0 ∧ (eqPart t).length ≤ 1 := by
 unfold eqPart
 split
 ·rename_i e; subst e; exact ⟨Ok.nil, rfl, rfl, rfl, by simp⟩
 ·refine ⟨fun d hd => ?_, by simp [srcR], by simp [tgtR], by simp [edR], by simp⟩
  obtain rfl := List.mem_singleton.1 hd
  exact ⟨.inr (.inl rfl), h⟩
section
variable (q75 : DenA g75_A → Option (DenR g75_R)) (q87 : DenA g87_A → Option (DenR g87_R)) (q94 : DenA g94_A → Option (DenR g94_R)) (q98 : DenA g98_A → Option (DenR g98_R))
theorem mainR_ok (n : Nat) (hn : Big ≤ n) (p0) {a b : List Int} (ln : Bool) (ha : Valids a) (hb : Valids b) (hla : a.length ≤ 100000) (hlb : b.length ≤ 100000)
  (hq : a ≠ b → ∀ a' b' : List Int, Valids a' → Valids b' → a'.length ≤ a.length → b'.length ≤ b.length → a'.length + b'.length ≤ a.length + b.length → Trim a' b' → (a' ≠ [] ∨ b' ≠ []) → ∃ l, q87 (p0, (a', (b', (ln, ())))) = @some (DenR g87_R) (M l, ()) ∧ LD a' b' l) :
  ∃ l, g75_b n q75 q87 q94 q98 p0 a b ln = some (M l, ()) ∧ LD a b l ∧ ((a = b ∧ l = eqPart a) ∨ (a ≠ b ∧ ∃ x, LD a b x ∧ l = merge x)) := by
 dsimp only [g75_b, g75_3, g75_1]
 rw [runesEqual_ok n hn a b (by omega), Option.bind_some]
 by_cases hab : a = b
 ·subst hab
  rw [biT (by simp)]
  have hd := dst_self a
  by_cases ha0 : a = []
  ·subst ha0
   exact ⟨[], rfl, LD.of Ok.nil rfl rfl (Nat.zero_le _) (by simp) Full.nil, .inl ⟨rfl, rfl⟩⟩
  ·have := List.length_pos_iff.2 ha0
   rw [bdT (by omega), roomy_ok (by simp)]
   have he := eqPart_ok ha
   have hep : eqPart a = [(0, a)] := by unfold eqPart; rw [if_neg ha0]
   refine ⟨eqPart a, by rw [hep]; rfl, LD.of he.1 he.2.1 he.2.2.1 (by rw [he.2.2.2.1]; omega) (by omega) (eqPart_full a), .inl ⟨rfl, rfl⟩⟩
 ·rw [biF (by simpa using hab), prefix_ok n hn a b (by omega), Option.bind_some]
  have c1 := cpl_le_left a b
  have c2 := cpl_le_right a b
  have c3 := cpl_take a b
  simp only
  rw [bnd_ok (by omega) (by omega) (by omega), bnd_ok (by omega) (by omega) (by omega), bnd_ok (by omega) (by omega) (by omega)]
  have htrim := trim_ok a b
  have q1 := csl_le_left (a.drop (cpl a b)) (b.drop (cpl a b))
  have q2 := csl_le_right (a.drop (cpl a b)) (b.drop (cpl a b))
  have q3 := csl_drop (a.drop (cpl a b)) (b.drop (cpl a b))
  rw [cut_to a _ _ (by omega), cut_to b _ _ (by omega), Int.toNat_natCast, cut_from, Int.toNat_natCast]
  have ea : a = a.take (cpl a b) ++ a.drop (cpl a b) := (List.take_append_drop _ _).symm
  have eb : b = b.take (cpl a b) ++ b.drop (cpl a b) := (List.take_append_drop _ _).symm
  have la1 : (a.drop (cpl a b)).length = a.length - cpl a b := List.length_drop
  have lb1 : (b.drop (cpl a b)).length = b.length - cpl a b := List.length_drop
  have hva : Valids (a.take (cpl a b)) := ha.take _
  have hva1 : Valids (a.drop (cpl a b)) := ha.drop _
  have hvb1 : Valids (b.drop (cpl a b)) := hb.drop _
  generalize hpre : a.take (cpl a b) = pre at *
  generalize ha1 : a.drop (cpl a b) = a1 at *
  generalize hb1 : b.drop (cpl a b) = b1 at *
  generalize hs : csl a1 b1 = s at *
  rw [suffix_ok n hn a1 b1 (by omega) (by omega), Option.bind_some, hs]
  simp only
  rw [w64_id (n := (a1.length : Int) - s) (by omega) (by omega), w64_id (n := (b1.length : Int) - s) (by omega) (by omega), bnd_ok (by omega) (by omega) (by omega), bnd_ok (by omega) (by omega) (by omega), bnd_ok (by omega) (by omega) (by omega),
   cut_from, cut_from, cut_to a1 _ _ (by omega), show ((a1.length : Int) - s).toNat = a1.length - s by omega, show ((b1.length : Int) - s).toNat = b1.length - s by omega]
  have ea1 : a1 = a1.take (a1.length - s) ++ a1.drop (a1.length - s) := (List.take_append_drop _ _).symm
  have eb1 : b1 = b1.take (b1.length - s) ++ a1.drop (a1.length - s) := by rw [q3]; exact (List.take_append_drop _ _).symm
  have la2 : (a1.take (a1.length - s)).length = a1.length - s := by rw [List.length_take]; omega
  have lb2 : (b1.take (b1.length - s)).length = b1.length - s := by rw [List.length_take]; omega
  have lsf : (a1.drop (a1.length - s)).length = s := by rw [List.length_drop]; omega
  have hva2 := hva1.take (a1.length - s)
  have hvb2 := hvb1.take (b1.length - s)
  have hvsf := hva1.drop (a1.length - s)
  have lpre : pre.length = cpl a b := by rw [← hpre, List.length_take]; omega
  generalize hsf : a1.drop (a1.length - s) = sf at *
  generalize ha2 : a1.take (a1.length - s) = a2 at *
  generalize hb2 : b1.take (b1.length - s) = b2 at *
  have hdst : dst a b = dst a2 b2 := by
   rw [ea, eb, ← c3, dst_pre_same, ea1, eb1, dst_suf_same]
  have eaf : a = pre ++ (a2 ++ sf) := by rw [← ea1]; exact ea
  have ebf : b = pre ++ (b2 ++ sf) := by rw [← eb1, c3]; exact eb
  have hne : a2 ≠ [] ∨ b2 ≠ [] := by
   by_cases h : a2 = []
   ·right
    intro h2
    exact hab (by rw [eaf, ebf, h, h2])
   ·exact .inl h
  have hll : a2.length + b2.length ≤ a.length + b.length := by omega
  obtain ⟨l, g1, g2⟩ := hq hab a2 b2 hva2 hvb2 (by omega) (by omega) hll htrim hne
  rw [bind_some' g1]
  have hpo := eqPart_ok hva
  have hso := eqPart_ok hvsf
  have hlen := g2.len
  have hx : LD a b (eqPart pre ++ l ++ eqPart sf) := by
   refine LD.of ((hpo.1.append g2.ok).append hso.1) ?_ ?_ ?_ ?_ (((eqPart_full pre).append g2.full).append (eqPart_full sf))
   ·rw [srcR_append, srcR_append, hpo.2.1, hso.2.1, g2.src, eaf, List.append_assoc]
   ·rw [tgtR_append, tgtR_append, hpo.2.2.1, hso.2.2.1, g2.tgt, ebf, List.append_assoc]
   ·rw [edR_append, edR_append, hpo.2.2.2.1, hso.2.2.2.1, g2.ed, hdst]; omega
   ·have k1 : (eqPart pre).length ≤ pre.length := by
     unfold eqPart; split
     ·simp
     ·rename_i h; have := List.length_pos_iff.2 h; simp; omega
    have k2 : (eqPart sf).length ≤ sf.length := by
     unfold eqPart; split
     ·simp
     ·rename_i h; have := List.length_pos_iff.2 h; simp; omega
    rw [List.length_append, List.length_append]
    have z1 := congrArg List.length eaf
    have z2 := congrArg List.length ebf
    simp only [List.length_append] at z1 z2
    omega
  have hed := hx.ed
  have hhi := dst_hi a b
  have hxl := hx.len
  have hm : g53 n p0 (M (eqPart pre ++ l ++ eqPart sf)) = some (M (merge (eqPart pre ++ l ++ eqPart sf)), ()) := merge_ok n hn p0 _ hx.ok (by unfold phi; omega) (by rw [hx.src, hx.tgt]; omega)
  have last : ∀ z : List Rp, z = eqPart pre ++ l → g75_2 n q75 q87 q94 q98 (fun x8 => @some (DenR [.rw (.pair (.int .i8) .str) 65]) (x8, ())) p0 sf (M z) = some (M (merge (eqPart pre ++ l ++ eqPart sf)), ()) := fun z hz => by
   subst hz
   unfold g75_2
   by_cases hsf0 : sf = []
   ·rw [biF (by simp [hsf0])]
    have : eqPart sf = [] := by unfold eqPart; rw [if_pos hsf0]
    rw [this, List.append_nil] at hm ⊢
    rw [bind_some' hm]
   ·have hp := List.length_pos_iff.2 hsf0
    rw [biT (by simp [hsf0])]
    have : eqPart sf = [(0, sf)] := by unfold eqPart; rw [if_neg hsf0]
    rw [roomy_ok (by unfold M; rw [List.length_map]; simp only [List.length_append, List.length_cons, List.length_nil] at hxl ⊢; omega)]
    have e : M (eqPart pre ++ l) ++ [((0 : Int), runesBytes sf)] = M (eqPart pre ++ l ++ eqPart sf) := by
     rw [this]; unfold M; simp only [List.map_append]; rfl
    rw [e, bind_some' hm]
  refine ⟨merge (eqPart pre ++ l ++ eqPart sf), ?_, hx.merge, .inr ⟨hab, _, hx, rfl⟩⟩
  by_cases hp0 : pre = []
  ·rw [biF (by simp [hp0])]
   exact last l (by unfold eqPart; rw [if_pos hp0]; rfl)
  ·have hp := List.length_pos_iff.2 hp0
   rw [biT (by simp [hp0]), roomy_ok (by unfold M; rw [List.length_map]; simp only [List.length_append, List.length_cons, List.length_nil] at hxl ⊢; omega)]
   exact last ((0, pre) :: l) (by unfold eqPart; rw [if_neg hp0]; rfl)
end
theorem main_rec (n : Nat) (hn : Big ≤ n) (p0) (hp : p0.1 ≤ (0 : Int)) : ∀ (N m : Nat) (a b : List Int) (ln : Bool), (ln = false ∨ a.length ≤ 100 ∨ b.length ≤ 100 ∨ a = b) → a.length + b.length ≤ N → N ≤ 100000 → 4 * N + 8 ≤ m → Valids a → Valids b →
  ∃ l, (g75_rec n m).1 (p0, (a, (b, (ln, ())))) = @some (DenR g75_R) (M l, ()) ∧ LD a b l ∧ ((a = b ∧ l = eqPart a) ∨ (a ≠ b ∧ ∃ x, LD a b x ∧ l = merge x)) := by
 intro N
 induction N using Nat.strongRecOn with
 | _ N ih =>
  intro m a b ln hln hl hN hm ha hb
  obtain ⟨m, rfl⟩ : ∃ m', m = m' + 4 := ⟨m - 4, by omega⟩
  refine mainR_ok (a := a) (b := b) (ln := ln) (p0 := p0) (n := n) (hn := hn) (ha := ha) (hb := hb) (hla := by omega) (hlb := by omega) (hq := ?_) ..
  intro hab a' b' ha' hb' hla' hlb' hl' ht hne
  have hln' : ln = false ∨ a'.length ≤ 100 ∨ b'.length ≤ 100 := by
   rcases hln with h | h | h | h
   ·exact .inl h
   ·exact .inr (.inl (by omega))
   ·exact .inr (.inr (by omega))
   ·exact absurd h hab
  refine compute_ok (a := a') (b := b') (ln := ln) (hln := hln') (p0 := p0) (n := n) (hn := hn) (hp := hp) (ha := ha') (hb := hb') (hla := by omega) (hlb := by omega) (ht := ht) (hne := hne) (hq := ?_) ..
  intro h2a h2b hd2
  rcases bisect_ok (p0 := p0) (n := n) (hn := hn) (A := a') (B := b') (h3 := by omega) (hN := by omega) (hM := by omega) (kr := fun x6 => @some (DenR g94_R) (x6, ())) .. with h | ⟨h, hd⟩
  ·obtain ⟨x, y, ho, h1, h2, h3⟩ := h
   have hx := ho.hx
   have hy := ho.hy
   have hs := ho.sum
   have l1 : (a'.take x).length + (b'.take y).length < a'.length + b'.length := by
    rw [List.length_take, List.length_take]
    by_cases e : x = a'.length ∧ y = b'.length
    ·rw [e.1, e.2, ft_end] at h1; omega
    ·omega
   have l2 : (a'.drop x).length + (b'.drop y).length < a'.length + b'.length := by
    rw [List.length_drop, List.length_drop]
    by_cases e : x = 0 ∧ y = 0
    ·rw [e.1, e.2, gt_zero] at h2; omega
    ·omega
   obtain ⟨u, u1, u2, _⟩ := ih _ (by omega : (a'.take x).length + (b'.take y).length < N) m (a'.take x) (b'.take y) false (.inl rfl) (Nat.le_refl _) (by omega) (by omega) (ha'.take _) (hb'.take _)
   obtain ⟨v, v1, v2, _⟩ := ih _ (by omega : (a'.drop x).length + (b'.drop y).length < N) m (a'.drop x) (b'.drop y) false (.inl rfl) (Nat.le_refl _) (by omega) (by omega) (ha'.drop _) (hb'.drop _)
   have ul := u2.len
   have vl := v2.len
   have hsp := split_ok (n := n) (p0 := p0) (hx := hx) (hy := hy) (h1 := u1) (h2 := v1) (hl := by omega) (g75_rec n m).1 (g75_rec n m).2.1 (g75_rec n m).2.2.1 (g75_rec n m).2.2.2
   have key : LD a' b' (u ++ v) := by
    refine LD.of (u2.ok.append v2.ok) ?_ ?_ ?_ ?_ (u2.full.append v2.full)
    ·rw [srcR_append, u2.src, v2.src, List.take_append_drop]
    ·rw [tgtR_append, u2.tgt, v2.tgt, List.take_append_drop]
    ·rw [edR_append, u2.ed, v2.ed]
     rw [ft_grid hx hy, dst_rev] at hs
     unfold gt at hs
     omega
    ·rw [List.length_append]
     rw [List.length_take, List.length_take] at ul
     rw [List.length_drop, List.length_drop] at vl
     omega
   refine ⟨u ++ v, ?_, key⟩
   refine Eq.trans h3 ?_
   refine bind_some' hsp
  ·refine ⟨[(-1, a'), (1, b')], h, LD.of (fun d hd' => ?_) ?_ ?_ ?_ ?_ (full2 (List.ne_nil_of_length_pos (by omega)) (List.ne_nil_of_length_pos (by omega)))⟩
   ·simp only [List.mem_cons, List.not_mem_nil, or_false] at hd'
    rcases hd' with rfl | rfl
    ·exact ⟨.inl rfl, ha'⟩
    ·exact ⟨.inr (.inr rfl), hb'⟩
   ·show a' ++ [] = a'; simp
   ·show b' ++ [] = b'; simp
   ·show a'.length + (b'.length + 0) ≤ _; omega
   ·simp; omega
end Go.Proofs.YticibdjilmclgaaGreatDoorZF
namespace Go.Proofs.YticibdjilmclgaaGreatDoorZF
open Go
set_option linter.unusedVariables false
set_option linter.unusedSimpArgs false
theorem within_ex (n : Nat) (a b c d : Int) : ∃ x, g57 n a b c d = some (x, ()) := by
 dsimp only [g57, g57_1]
 by_cases h1 : a < b
 ·rw [bdT h1]; exact ⟨_, rfl⟩
 ·rw [bdF h1]
  by_cases h2 : a > c
  ·rw [bdT h2]; exact ⟨_, rfl⟩
  ·rw [bdF h2]; exact ⟨_, rfl⟩
theorem part_ex (n : Nat) (a : Nat) : ∃ x, g58 n a = some (x, ()) := by
 dsimp only [g58, g58_1]
 generalize (fGt .f64 a (0 : Nat) || fEq .f64 a (0 : Nat)) = c1
 generalize (fLt .f64 a (4607182418800017408 : Nat) || fEq .f64 a (4607182418800017408 : Nat)) = c2
 cases c1 <;> cases c2 <;> exact ⟨_, rfl⟩
theorem dmp_ex (n : Nat) (v) : ∃ p, g40 n (false, v) = some (p, ()) ∧ p.1 = (0 : Int) := by
 dsimp only [g40, g40_1]
 obtain ⟨x1, h1⟩ := within_ex n v.1 0 1000 4
 obtain ⟨x2, h2⟩ := within_ex n v.2.1 0 1048576 1000
 obtain ⟨x3, h3⟩ := part_ex n v.2.2.1
 obtain ⟨x4, h4⟩ := part_ex n v.2.2.2.1
 obtain ⟨x5, h5⟩ := within_ex n v.2.2.2.2.1 1 8 4
 obtain ⟨x6, h6⟩ := within_ex n v.2.2.2.2.2 32 62 32
 rw [bind_some' h1, bind_some' h2, bind_some' h3, bind_some' h4, bind_some' h5, bind_some' h6]
 exact ⟨_, rfl, rfl⟩
theorem dfMainB_ok (n : Nat) (hn : Big ≤ n) (x y : ByteArray) (ln : Bool) (hln : ln = false ∨ (runesOf x).length ≤ 100 ∨ (runesOf y).length ≤ 100 ∨ runesOf x = runesOf y) (hx : x.size ≤ 1000000000) (hy : y.size ≤ 1000000000) (hl : (runesOf x).length + (runesOf y).length ≤ 50000) :
  ∃ l, g15 n x y ln = some (M l, ()) ∧ LD (runesOf x) (runesOf y) l ∧ ((runesOf x = runesOf y ∧ l = eqPart (runesOf x)) ∨ (runesOf x ≠ runesOf y ∧ ∃ z, LD (runesOf x) (runesOf y) z ∧ l = merge z)) := by
 dsimp only [g15, g15_1, g24, g24_1, g24_2]
 obtain ⟨p, hp, hp0⟩ := dmp_ex n ((0 : Int), ((0 : Int), ((0 : Nat), ((0 : Nat), ((0 : Int), (0 : Int))))))
 rw [bind_some' hp]
 have ha := runesOf_valid x
 have hb := runesOf_valid y
 obtain ⟨l, h1, h2, h3⟩ := main_rec n hn p (Int.le_of_eq hp0) ((runesOf x).length + (runesOf y).length) n (runesOf x) (runesOf y) ln hln (Nat.le_refl _) (by omega) (by unfold Big at hn; omega) ha hb
 refine ⟨l, ?_, h2, h3⟩
 dsimp only [g41, g41_1, g59, g59_1]
 rw [room46_ok (by omega), room46_ok (by omega)]
 have h4 : g75 n p (runesOf x) (runesOf y) ln = some (M l, ()) := h1
 have hll := h2.len
 have hls : g27 n (M l) = some (M l, ()) := list_ok n hn l (by omega) h2.ok
 rw [bind_some' h4]
 simp only [Option.bind_some]
 rw [bind_some' hls]
 rfl
theorem dfMainL_ok (n : Nat) (hn : Big ≤ n) (a b : List Int) (ln : Bool) (hln : ln = false ∨ a.length ≤ 100 ∨ b.length ≤ 100 ∨ a = b) (ha : Valids a) (hb : Valids b) (hl : a.length + b.length ≤ 50000) :
  ∃ l, g15 n (enc a) (enc b) ln = some (M l, ()) ∧ LD a b l ∧ ((a = b ∧ l = eqPart a) ∨ (a ≠ b ∧ ∃ x, LD a b x ∧ l = merge x)) := by
 have e1 := enc_size_le a
 have e2 := enc_size_le b
 have := dfMainB_ok n hn (enc a) (enc b) ln (by rw [runes_enc ha, runes_enc hb]; exact hln) (by omega) (by omega) (by rw [runes_enc ha, runes_enc hb]; exact hl)
 rw [runes_enc ha, runes_enc hb] at this
 exact this
theorem dfMain_ok (n : Nat) (hn : Big ≤ n) (a b : List Int) (ha : Valids a) (hb : Valids b) (hl : a.length + b.length ≤ 50000) :
  ∃ l, g15 n (enc a) (enc b) false = some (M l, ()) ∧ LD a b l ∧ ((a = b ∧ l = eqPart a) ∨ (a ≠ b ∧ ∃ x, LD a b x ∧ l = merge x)) := dfMainL_ok n hn a b false (.inl rfl) ha hb hl
theorem dfBetween_ok (n : Nat) (hn : Big ≤ n) (u v : ByteArray) (hu : u.size ≤ 2147483647) (hv : v.size ≤ 2147483647) : ∃ l, g5 n u v = some (M l, ()) ∧ LD ((runesOf u).take 120) ((runesOf v).take 120) l ∧ (((runesOf u).take 120 = (runesOf v).take 120 ∧ l = eqPart ((runesOf u).take 120)) ∨ ((runesOf u).take 120 ≠ (runesOf v).take 120 ∧ ∃ x, LD ((runesOf u).take 120) ((runesOf v).take 120) x ∧ l = merge x)) := by
 dsimp only [g5, g5_1]
 rw [show (120 : Int) = ((120 : Nat) : Int) from rfl, clean_ok n u 120 (by omega), Option.bind_some, clean_ok n v 120 (by omega), Option.bind_some]
 have la : ((runesOf u).take 120).length ≤ 120 := by rw [List.length_take]; omega
 have lb : ((runesOf v).take 120).length ≤ 120 := by rw [List.length_take]; omega
 obtain ⟨l, g1, g2, g3⟩ := dfMain_ok n hn _ _ ((runesOf_valid u).take 120) ((runesOf_valid v).take 120) (by omega)
 exact ⟨l, by rw [bind_some' g1], g2, g3⟩
end Go.Proofs.YticibdjilmclgaaGreatDoorZF
namespace Go.Proofs.YticibdjilmclgaaGreatDoorZF
open Go
set_option linter.unusedVariables false
set_option linter.unusedSimpArgs false
def letter (c : Int) : Bool := decide ((97 ≤ c ∧ c ≤ 122) ∨ (65 ≤ c ∧ c ≤ 90) ∨ (48 ≤ c ∧ c ≤ 57))
def space (c : Int) : Bool := decide (c = 32 ∨ c = 9 ∨ c = 10 ∨ c = 13 ∨ c = 12)
def brk (c : Int) : Bool := decide (c = 10 ∨ c = 13)
def blankE (l : List Int) : Bool := decide ([10, 10] <:+ l) || decide ([10, 13, 10] <:+ l)
def scoreL (e : Bool) (a b : Int) : Int := if e = true then 5 else if (brk a || brk b) = true then 4 else if (!letter a && !space a && space b) = true then 3 else if (space a || space b) = true then 2 else if (!letter a || !letter b) = true then 1 else 0
def scoreG (x y : List Int) : Int := if x = [] ∨ y = [] then 6 else scoreL ((brk (x.getLastD 0) && blankE x) || (brk (y.headD 0) && blankE y)) (x.getLastD 0) (y.headD 0)
theorem scoreL_high {e : Bool} {a b : Int} (he : e = true → 5 ≤ (5 : Int)) (ha : 128 ≤ a) : 1 ≤ scoreL e a b := by
 have h1 : letter a = false := by unfold letter; rw [decide_eq_false]; omega
 unfold scoreL
 rw [h1]
 repeat' split
 all_goals first | omega | simp_all
theorem scoreL_two {a b : Int} (ha : 128 ≤ a) (hb : 128 ≤ b) : scoreL false a b = 1 := by
 have h1 : letter a = false := by unfold letter; rw [decide_eq_false]; omega
 have h2 : space a = false := by unfold space; rw [decide_eq_false]; omega
 have h3 : brk a = false := by unfold brk; rw [decide_eq_false]; omega
 have h4 : letter b = false := by unfold letter; rw [decide_eq_false]; omega
 have h5 : space b = false := by unfold space; rw [decide_eq_false]; omega
 have h6 : brk b = false := by unfold brk; rw [decide_eq_false]; omega
 unfold scoreL
 rw [h1, h2, h3, h4, h5, h6]
 rfl
@[reducible] def Tri := List Int × List Int × List Int
def walkR : List Int → List Int → List Int → Tri → Int → Tri
 | a, c :: s, d :: b, best, m =>
  if c = d then
   if m ≤ scoreG (a ++ [c]) (s ++ [c]) + scoreG (s ++ [c]) b then walkR (a ++ [c]) (s ++ [c]) b (a ++ [c], s ++ [c], b) (scoreG (a ++ [c]) (s ++ [c]) + scoreG (s ++ [c]) b)
   else walkR (a ++ [c]) (s ++ [c]) b best m
  else best
 | _, _, _, best, _ => best
termination_by _ _ b => b.length
def wholeJ : List Int → Nat → Nat
 | [], _ => 0
 | c :: r, k => if (Utf8.encode c).size ≤ k then 1 + wholeJ r (k - (Utf8.encode c).size) else 0
theorem wholeJ_le : ∀ (t : List Int) (k : Nat), wholeJ t k ≤ t.length
 | [], _ => Nat.le_refl _
 | c :: r, k => by
  rw [wholeJ]
  split
  ·have := wholeJ_le r (k - (Utf8.encode c).size); simp; omega
  ·omega
def startR (a s b : List Int) : Tri :=
 let j := wholeJ a.reverse (csl a s)
 (a.take (a.length - j), a.drop (a.length - j) ++ s.take (s.length - j), a.drop (a.length - j) ++ b)
def shiftR (a s b : List Int) : Tri := walkR (startR a s b).1 (startR a s b).2.1 (startR a s b).2.2 (startR a s b) (scoreG (startR a s b).1 (startR a s b).2.1 + scoreG (startR a s b).2.1 (startR a s b).2.2)
structure Moved (a s b : List Int) (t : Tri) : Prop where
 all : t.1 ++ t.2.1 ++ t.2.2 = a ++ s ++ b
 out : t.1 ++ t.2.2 = a ++ b
 len : t.2.1.length = s.length
 val : Valids a → Valids s → Valids b → Valids t.1 ∧ Valids t.2.1 ∧ Valids t.2.2
theorem Moved.refl (a s b : List Int) : Moved a s b (a, s, b) := ⟨rfl, rfl, rfl, fun h1 h2 h3 => ⟨h1, h2, h3⟩⟩
theorem Moved.trans {a s b : List Int} {t u : Tri} (h : Moved a s b t) (k : Moved t.1 t.2.1 t.2.2 u) : Moved a s b u :=
 ⟨k.all.trans h.all, k.out.trans h.out, k.len.trans h.len, fun h1 h2 h3 => let ⟨q1, q2, q3⟩ := h.val h1 h2 h3; k.val q1 q2 q3⟩
theorem Moved.step (a s b : List Int) (c : Int) : Moved a (c :: s) (c :: b) (a ++ [c], s ++ [c], b) := by
 refine ⟨by simp, by simp, by simp, fun h1 h2 h3 => ⟨h1.append ?_, h2.cons.2.append ?_, h3.cons.2⟩⟩ <;> exact fun d hd => by rw [List.mem_singleton.1 hd]; exact h2.cons.1
theorem walkR_moved (a0 s0 b0 : List Int) : ∀ (n : Nat) (a s b : List Int) (best : Tri) (m : Int), b.length = n → Moved a0 s0 b0 (a, s, b) → Moved a0 s0 b0 best → Moved a0 s0 b0 (walkR a s b best m) := by
 intro n
 induction n with
 | zero =>
  intro a s b best m hb h1 h2
  have := List.eq_nil_of_length_eq_zero hb
  subst this
  cases s <;> (unfold walkR; exact h2)
 | succ n ih =>
  intro a s b best m hb h1 h2
  match s, b, hb with
  | [], d :: b, hb => unfold walkR; exact h2
  | c :: s, d :: b, hb =>
   unfold walkR
   split
   ·rename_i e
    subst e
    have h3 := h1.trans (Moved.step a s b c)
    split
    ·exact ih _ _ _ _ _ (by simpa using hb) h3 h3
    ·exact ih _ _ _ _ _ (by simpa using hb) h3 h2
   ·exact h2
theorem csl_le_suffix {x y : List Int} {j : Nat} (h : j ≤ csl x y) : x.drop (x.length - j) = y.drop (y.length - j) := by
 have h1 := csl_le_left x y
 have h2 := csl_le_right x y
 have e := csl_drop x y
 have e1 : x.drop (x.length - j) = (x.drop (x.length - csl x y)).drop (csl x y - j) := by rw [List.drop_drop]; congr 1; omega
 have e2 : y.drop (y.length - j) = (y.drop (y.length - csl x y)).drop (csl x y - j) := by rw [List.drop_drop]; congr 1; omega
 rw [e1, e2, e]
theorem enc_one_le (c : Int) : 1 ≤ (Utf8.encode c).size := encode_pos c
theorem wholeJ_le_k : ∀ (t : List Int) (k : Nat), wholeJ t k ≤ k
 | [], _ => Nat.zero_le _
 | c :: r, k => by
  rw [wholeJ]
  split
  ·have := wholeJ_le_k r (k - (Utf8.encode c).size)
   have := encode_pos c
   omega
  ·omega
theorem startR_moved (a s b : List Int) : Moved a s b (startR a s b) := by
 unfold startR
 have hj := wholeJ_le_k a.reverse (csl a s)
 have e := csl_le_suffix hj
 have l1 := csl_le_left a s
 have l2 := csl_le_right a s
 generalize wholeJ a.reverse (csl a s) = j at *
 have ea : a.take (a.length - j) ++ a.drop (a.length - j) = a := List.take_append_drop _ _
 have es : s.take (s.length - j) ++ a.drop (a.length - j) = s := by rw [e]; exact List.take_append_drop _ _
 refine ⟨?_, ?_, ?_, fun h1 h2 h3 => ⟨h1.take _, (h1.drop _).append (h2.take _), (h1.drop _).append h3⟩⟩
 ·show a.take (a.length - j) ++ (a.drop (a.length - j) ++ s.take (s.length - j)) ++ (a.drop (a.length - j) ++ b) = _
  have : a.take (a.length - j) ++ (a.drop (a.length - j) ++ s.take (s.length - j)) ++ (a.drop (a.length - j) ++ b) = (a.take (a.length - j) ++ a.drop (a.length - j)) ++ (s.take (s.length - j) ++ a.drop (a.length - j)) ++ b := by simp only [List.append_assoc]
  rw [this, ea, es]
 ·show a.take (a.length - j) ++ (a.drop (a.length - j) ++ b) = _
  rw [← List.append_assoc, ea]
 ·show (a.drop (a.length - j) ++ s.take (s.length - j)).length = _
  rw [List.length_append, List.length_drop, List.length_take]; omega
theorem shiftR_moved (a s b : List Int) : Moved a s b (shiftR a s b) := walkR_moved a s b _ _ _ _ _ _ rfl (startR_moved a s b) (startR_moved a s b)
def lossF : List Rp → List Rp → List Rp
 | A, p :: c :: q :: R =>
  if p.1 = 0 ∧ q.1 = 0 then
   let t := shiftR p.2 c.2 q.2
   if t.1 = p.2 then lossF (p :: A) (c :: q :: R)
   else if t.1 = [] then lossF A ((c.1, t.2.1) :: (q.1, t.2.2) :: R)
   else if t.2.2 = [] then lossF A ((p.1, t.1) :: (c.1, t.2.1) :: R)
   else lossF ((p.1, t.1) :: A) ((c.1, t.2.1) :: (q.1, t.2.2) :: R)
  else lossF (p :: A) (c :: q :: R)
 | A, R => A.reverse ++ R
termination_by _ R => R.length
def lossless (x : List Rp) : List Rp := lossF [] x
def editsL : List Rp → List (Int × Nat)
 | [] => []
 | d :: l => if d.1 = 0 then editsL l else (d.1, d.2.length) :: editsL l
theorem editsL_append : ∀ x y, editsL (x ++ y) = editsL x ++ editsL y
 | [], y => rfl
 | d :: x, y => by simp only [List.cons_append, editsL]; split <;> simp [editsL_append x y]
theorem loss_inv : ∀ (k : Nat) (A R : List Rp), R.length = k → srcR (lossF A R) = srcR (A.reverse ++ R) ∧ tgtR (lossF A R) = tgtR (A.reverse ++ R) ∧ editsL (lossF A R) = editsL (A.reverse ++ R) ∧ (Ok (A.reverse ++ R) → Ok (lossF A R)) ∧ (lossF A R).length ≤ A.length + R.length ∧ (A.reverse ++ R ≠ [] → lossF A R ≠ []) := by
 intro k
 induction k using Nat.strongRecOn with
 | _ k ih =>
  intro A R hk
  match R, hk with
  | [], hk => unfold lossF; exact ⟨rfl, rfl, rfl, id, by simp, id⟩
  | [p], hk => unfold lossF; exact ⟨rfl, rfl, rfl, id, by simp, id⟩
  | [p, c], hk => unfold lossF; exact ⟨rfl, rfl, rfl, id, by simp, id⟩
  | p :: c :: q :: R, hk =>
   rw [lossF]
   have skip := ih (c :: q :: R).length (by rw [← hk]; simp) (p :: A) (c :: q :: R) rfl
   rw [List.reverse_cons, List.append_assoc, List.singleton_append] at skip
   have skip' : srcR (lossF (p :: A) (c :: q :: R)) = srcR (A.reverse ++ p :: c :: q :: R) ∧ tgtR (lossF (p :: A) (c :: q :: R)) = tgtR (A.reverse ++ p :: c :: q :: R) ∧ editsL (lossF (p :: A) (c :: q :: R)) = editsL (A.reverse ++ p :: c :: q :: R) ∧ (Ok (A.reverse ++ p :: c :: q :: R) → Ok (lossF (p :: A) (c :: q :: R))) ∧ (lossF (p :: A) (c :: q :: R)).length ≤ A.length + (p :: c :: q :: R).length ∧ (A.reverse ++ p :: c :: q :: R ≠ [] → lossF (p :: A) (c :: q :: R) ≠ []) := by
    refine ⟨skip.1, skip.2.1, skip.2.2.1, skip.2.2.2.1, ?_, skip.2.2.2.2.2⟩
    have := skip.2.2.2.2.1
    simp at this ⊢; omega
   split
   ·rename_i h
    obtain ⟨hp, hq⟩ := h
    have hm := shiftR_moved p.2 c.2 q.2
    generalize shiftR p.2 c.2 q.2 = t at *
    have ho := hm.out
    have hall := hm.all
    have hlen := hm.len
    simp only
    have key : ∀ (A' R' : List Rp), R'.length < k → A'.length + R'.length ≤ A.length + (p :: c :: q :: R).length → A'.reverse ++ R' ≠ [] →
      (srcR (A'.reverse ++ R') = srcR A.reverse ++ (t.1 ++ (if c.1 = 1 then [] else t.2.1) ++ t.2.2) ++ srcR R) → (tgtR (A'.reverse ++ R') = tgtR A.reverse ++ (t.1 ++ (if c.1 = -1 then [] else t.2.1) ++ t.2.2) ++ tgtR R) →
      editsL (A'.reverse ++ R') = editsL A.reverse ++ ((if c.1 = 0 then [] else [(c.1, t.2.1.length)]) ++ editsL R) → (Ok A → OkR (p.1, t.1) → OkR (c.1, t.2.1) → OkR (q.1, t.2.2) → Ok R → Ok (A'.reverse ++ R')) →
      srcR (lossF A' R') = srcR (A.reverse ++ p :: c :: q :: R) ∧ tgtR (lossF A' R') = tgtR (A.reverse ++ p :: c :: q :: R) ∧ editsL (lossF A' R') = editsL (A.reverse ++ p :: c :: q :: R) ∧ (Ok (A.reverse ++ p :: c :: q :: R) → Ok (lossF A' R')) ∧ (lossF A' R').length ≤ A.length + (p :: c :: q :: R).length ∧ (A.reverse ++ p :: c :: q :: R ≠ [] → lossF A' R' ≠ []) := by
     intro A' R' h1 h2 h3 h4 h5 h6 h7
     obtain ⟨i1, i2, i3, i4, i5, i6⟩ := ih R'.length h1 A' R' rfl
     refine ⟨?_, ?_, ?_, ?_, by omega, fun _ => i6 h3⟩
     ·rw [i1, h4, srcR_append]
      simp only [srcR, hp, hq, if_neg (show ¬ (0 : Int) = 1 by decide)]
      by_cases hc : c.1 = 1
      ·simp only [hc, if_true, List.append_nil, List.nil_append]
       rw [ho]; simp
      ·simp only [hc, if_false]
       rw [hall]; simp
     ·rw [i2, h5, tgtR_append]
      simp only [tgtR, hp, hq, if_neg (show ¬ (0 : Int) = -1 by decide)]
      by_cases hc : c.1 = -1
      ·simp only [hc, if_true, List.append_nil, List.nil_append]
       rw [ho]; simp
      ·simp only [hc, if_false]
       rw [hall]; simp
     ·rw [i3, h6, editsL_append]
      simp only [editsL, hp, hq, if_true, hlen]
      split <;> rfl
     ·intro hok
      have o1 := Ok.of_append hok
      have o2 := o1.2.of_cons
      have o3 := o2.2.of_cons
      have o4 := o3.2.of_cons
      have hv := hm.val o2.1.2 o3.1.2 o4.1.2
      exact i4 (h7 (by have := o1.1.reverse; rwa [List.reverse_reverse] at this) ⟨o2.1.1, hv.1⟩ ⟨o3.1.1, hv.2.1⟩ ⟨o4.1.1, hv.2.2⟩ o4.2)
    split
    ·exact skip'
    ·rename_i hne
     split
     ·rename_i h0
      refine key A _ (by rw [← hk]; simp) (by simp) (by simp) ?_ ?_ ?_ (fun a1 a2 a3 a4 a5 => a1.reverse.append (Ok.cons' a3 (Ok.cons' a4 a5)))
      ·simp only [srcR_append, srcR, hq, h0, if_neg (show ¬ (0 : Int) = 1 by decide)]; simp
      ·simp only [tgtR_append, tgtR, hq, h0, if_neg (show ¬ (0 : Int) = -1 by decide)]; simp
      ·simp only [editsL_append, editsL, hq, if_true]; split <;> simp
     ·split
      ·rename_i h0
       refine key A _ (by rw [← hk]; simp) (by simp) (by simp) ?_ ?_ ?_ (fun a1 a2 a3 a4 a5 => a1.reverse.append (Ok.cons' a2 (Ok.cons' a3 a5)))
       ·simp only [srcR_append, srcR, hp, h0, if_neg (show ¬ (0 : Int) = 1 by decide)]; simp
       ·simp only [tgtR_append, tgtR, hp, h0, if_neg (show ¬ (0 : Int) = -1 by decide)]; simp
       ·simp only [editsL_append, editsL, hp, if_true]; split <;> simp
      ·refine key _ _ (by rw [← hk]; simp) (by simp; omega) (by simp) ?_ ?_ ?_ (fun a1 a2 a3 a4 a5 => (Ok.cons' a2 a1).reverse.append (Ok.cons' a3 (Ok.cons' a4 a5)))
       ·rw [List.reverse_cons, List.append_assoc]; simp only [srcR_append, srcR, hp, hq, if_neg (show ¬ (0 : Int) = 1 by decide)]; simp
       ·rw [List.reverse_cons, List.append_assoc]; simp only [tgtR_append, tgtR, hp, hq, if_neg (show ¬ (0 : Int) = -1 by decide)]; simp
       ·rw [List.reverse_cons, List.append_assoc]; simp only [editsL_append, editsL, hp, hq, if_true]; simp; split <;> simp
   ·exact skip'
theorem lossless_inv {x : List Rp} : srcR (lossless x) = srcR x ∧ tgtR (lossless x) = tgtR x ∧ editsL (lossless x) = editsL x ∧ (Ok x → Ok (lossless x)) ∧ (lossless x).length ≤ x.length ∧ (x ≠ [] → lossless x ≠ []) := by
 have := loss_inv x.length [] x rfl
 simpa [lossless] using this
end Go.Proofs.YticibdjilmclgaaGreatDoorZF
namespace Go.Proofs.YticibdjilmclgaaGreatDoorZF
open Go
set_option linter.unusedVariables false
set_option linter.unusedSimpArgs false
theorem dec_hi (v : ByteArray) (h : 128 ≤ (v.get! 0).toNat) : 128 ≤ (Utf8.decode v 0).1 := by
 rw [Lib.decode_at]
 generalize (v.get! 0).toNat = b0 at *
 unfold Lib.decodeN
 repeat' split
 all_goals simp only
 all_goals omega
theorem dec_inner (v : ByteArray) (h : inner (v.get! 0)) : Utf8.decode v 0 = (65533, 1) := by
 unfold inner at h
 rw [Lib.decode_at]
 generalize (v.get! 0).toNat = b0 at *
 unfold Lib.decodeN
 rw [if_neg (by omega), if_neg (by omega), if_neg (by omega), if_neg (by omega)]
theorem dec_lo (v : ByteArray) (h : (v.get! 0).toNat < 128) : Utf8.decode v 0 = ((v.get! 0).toNat, 1) := dec_one v 0 _ rfl h
theorem get_head (b : UInt8) (l : List UInt8) : (ByteArray.mk (b :: l).toArray).get! 0 = b := rfl
theorem last_hi (l : List UInt8) (b : UInt8) (h : 128 ≤ b.toNat) : 128 ≤ (Lib.decodeLastL (l ++ [b])).1 := by
 have hg : (l ++ [b]).getD ((l ++ [b]).length - 1) 0 = b := by simp [List.getD]
 unfold Lib.decodeLastL
 rw [if_neg (by simp), hg, if_neg (by omega)]
 simp only
 split
 ·rename_i he
  generalize Lib.lastStart (l ++ [b]) = s at *
  unfold Lib.decodeL at he ⊢
  cases hd : (l ++ [b]).drop s with
  | nil =>
   rw [hd] at he
   have : (l ++ [b]).length ≤ s := List.drop_eq_nil_iff.1 hd
   have e0 : (Utf8.decode ⟨#[]⟩ 0).2 = 1 := by decide
   rw [show (ByteArray.mk ([] : List UInt8).toArray) = ⟨#[]⟩ from rfl, e0] at he
   omega
  | cons f t =>
   rw [hd] at he
   by_cases hf : f.toNat < 128
   ·rw [dec_lo _ (by rw [get_head]; exact hf)] at he
    have hl := congrArg List.length hd
    rw [List.length_drop] at hl
    simp only [List.length_cons] at hl
    have ht : t = [] := List.eq_nil_of_length_eq_zero (by omega)
    subst ht
    have hs : s = l.length := by simp at he; omega
    subst hs
    rw [List.drop_left] at hd
    cases hd
    omega
   ·exact dec_hi _ (by rw [get_head]; omega)
 ·show 128 ≤ Utf8.runeError; decide
def Alike (a b : Int) : Prop := a = b ∨ (128 ≤ a ∧ 128 ≤ b)
theorem high {a : Int} (h : 128 ≤ a) : letter a = false ∧ space a = false ∧ brk a = false := by
 refine ⟨?_, ?_, ?_⟩
 ·unfold letter; rw [decide_eq_false]; omega
 ·unfold space; rw [decide_eq_false]; omega
 ·unfold brk; rw [decide_eq_false]; omega
theorem Alike.cls {a b : Int} (h : Alike a b) : letter a = letter b ∧ space a = space b ∧ brk a = brk b := by
 rcases h with rfl | ⟨h1, h2⟩
 ·exact ⟨rfl, rfl, rfl⟩
 ·have k1 := high h1
  have k2 := high h2
  exact ⟨k1.1.trans k2.1.symm, k1.2.1.trans k2.2.1.symm, k1.2.2.trans k2.2.2.symm⟩
theorem scoreL_alike {e : Bool} {a b a' b' : Int} (h : Alike a a') (k : Alike b b') : scoreL e a b = scoreL e a' b' := by
 unfold scoreL
 rw [h.cls.1, h.cls.2.1, h.cls.2.2, k.cls.1, k.cls.2.1, k.cls.2.2]
theorem encode_high (r : Int) (h : 128 ≤ r) : ∃ f t, bl (Utf8.encode r) = f :: t ∧ 192 ≤ f.toNat ∧ t ≠ [] ∧ ∀ b ∈ t, inner b := by
 have tn : ∀ n : Nat, n < 256 → (UInt8.ofNat n).toNat = n := fun n h => by rw [UInt8.toNat_ofNat']; omega
 have hc : (if Utf8.valid r then r.toNat else Utf8.runeError) < 1114112 ∧ 128 ≤ (if Utf8.valid r then r.toNat else Utf8.runeError) := by
  split
  ·rename_i h
   unfold Utf8.valid at h
   simp at h
   omega
  ·decide
 unfold Utf8.encode
 simp only
 generalize (if Utf8.valid r then r.toNat else Utf8.runeError) = n at hc ⊢
 rw [if_neg (by omega)]
 by_cases h2 : n < 0x800
 ·rw [if_pos h2]
  refine ⟨UInt8.ofNat (0xC0 + n / 64), [UInt8.ofNat (0x80 + n % 64)], rfl, by rw [tn _ (by omega)]; omega, by simp, ?_⟩
  intro b hb
  simp only [List.mem_cons, List.not_mem_nil, or_false] at hb
  subst hb
  unfold inner; rw [tn _ (by omega)]; omega
 ·rw [if_neg h2]
  by_cases h3 : n < 0x10000
  ·rw [if_pos h3]
   refine ⟨UInt8.ofNat (0xE0 + n / 4096), [UInt8.ofNat (0x80 + n / 64 % 64), UInt8.ofNat (0x80 + n % 64)], rfl, by rw [tn _ (by omega)]; omega, by simp, ?_⟩
   intro b hb
   simp only [List.mem_cons, List.not_mem_nil, or_false] at hb
   rcases hb with rfl | rfl <;> (unfold inner; rw [tn _ (by omega)]; omega)
  ·rw [if_neg h3]
   refine ⟨UInt8.ofNat (0xF0 + n / 262144), [UInt8.ofNat (0x80 + n / 4096 % 64), UInt8.ofNat (0x80 + n / 64 % 64), UInt8.ofNat (0x80 + n % 64)], rfl, by rw [tn _ (by omega)]; omega, by simp, ?_⟩
   intro b hb
   simp only [List.mem_cons, List.not_mem_nil, or_false] at hb
   rcases hb with rfl | rfl | rfl <;> (unfold inner; rw [tn _ (by omega)]; omega)
theorem bytesOf_bl (z : ByteArray) : bytesOf z = (bl z).map fun b => (b.toNat : Int) := rfl
theorem bytes_enc_nil {x : List Int} : bytesOf (enc x) = [] ↔ x = [] := by
 rw [← List.length_eq_zero_iff, bytesOf_length, enc_size_zero]
theorem head_alike {b : Int} (hb : Utf8.valid b = true) (y : List Int) : ∃ f t, bytesOf (enc (b :: y)) = f :: t ∧ Alike f b := by
 have h0 := valid_nonneg hb
 rw [bytesOf_bl, bl_enc_cons]
 by_cases h : b < 128
 ·have e := encode_asc (b := b) ⟨h0.1, h⟩
  rw [bytesOf_bl] at e
  rw [List.map_append, e]
  exact ⟨b, _, rfl, .inl rfl⟩
 ·obtain ⟨f, t, e, hf, _, _⟩ := encode_high b (by omega)
  rw [e]
  exact ⟨(f.toNat : Int), _, rfl, .inr ⟨by omega, by omega⟩⟩
theorem last_alike {a : Int} (ha : Utf8.valid a = true) (u : List Int) : ∃ t l, bytesOf (enc (u ++ [a])) = t ++ [l] ∧ Alike l a := by
 have h0 := valid_nonneg ha
 rw [enc_append, bytesOf_append]
 have e0 : bytesOf (enc [a]) = bytesOf (Utf8.encode a) := by
  rw [bytesOf_bl, bl_enc_cons, enc_nil]; simp [bytesOf_bl, bl]
 rw [e0]
 by_cases h : a < 128
 ·rw [encode_asc (b := a) ⟨h0.1, h⟩]
  exact ⟨_, a, rfl, .inl rfl⟩
 ·obtain ⟨f, t, e, hf, ht, hi⟩ := encode_high a (by omega)
  rw [bytesOf_bl (Utf8.encode a), e]
  rcases List.eq_nil_or_concat t with g | ⟨t', l, g⟩
  ·exact absurd g ht
  ·rw [List.concat_eq_append] at g
   subst g
   have := hi l (by simp)
   unfold inner at this
   refine ⟨bytesOf (enc u) ++ (f :: t').map fun b => (b.toNat : Int), (l.toNat : Int), by simp, .inr ⟨by omega, by omega⟩⟩
theorem suffix_bytes {y x : List Int} (hy : Asc y) (hx : Valids x) : y <:+ bytesOf (enc x) ↔ y <:+ x := by
 constructor
 ·rintro ⟨t, ht⟩
  have h1 : ∀ b ∈ t, 0 ≤ b ∧ b < 256 := fun b hb => bytesOf_range (z := enc x) b (by rw [← ht]; simp [hb])
  have h2 : enc x = strOfNums t ++ enc y := by
   apply bytesOf_inj
   rw [bytesOf_append, bytesOf_strOfNums h1, bytes_enc hy, ht]
  obtain ⟨c, hc, _⟩ := suf_of_bytes hx hy.valids h2
  exact ⟨c, hc.symm⟩
 ·rintro ⟨c, rfl⟩
  rw [enc_append, bytesOf_append, bytes_enc hy]
  exact ⟨_, rfl⟩
theorem asc_nn : Asc [10, 10] := by intro b hb; simp at hb; omega
theorem asc_nrn : Asc [10, 13, 10] := by intro b hb; simp at hb; omega
theorem blankE_bytes {x : List Int} (hx : Valids x) : blankE (bytesOf (enc x)) = blankE x := by
 unfold blankE
 simp only [suffix_bytes asc_nn hx, suffix_bytes asc_nrn hx]
theorem scoreG_bytes {x y : List Int} (hx : Valids x) (hy : Valids y) : scoreG (bytesOf (enc x)) (bytesOf (enc y)) = scoreG x y := by
 unfold scoreG
 rw [blankE_bytes hx, blankE_bytes hy]
 by_cases h : x = [] ∨ y = []
 ·rw [if_pos h, if_pos (by rw [bytes_enc_nil, bytes_enc_nil]; exact h)]
 ·rw [if_neg h, if_neg (by rw [bytes_enc_nil, bytes_enc_nil]; exact h)]
  rcases List.eq_nil_or_concat x with g | ⟨u, a, g⟩
  ·exact absurd (.inl g) h
  ·rw [List.concat_eq_append] at g
   match y, h with
   | [], h => exact absurd (.inr rfl) h
   | b :: y, _ =>
    obtain ⟨t, l, e1, h1⟩ := last_alike (a := a) (hx a (by rw [g]; simp)) u
    obtain ⟨f, t', e2, h2⟩ := head_alike (b := b) (hy b (by simp)) y
    have k1 : (bytesOf (enc x)).getLastD 0 = l := by rw [g, e1]; simp
    have k2 : (bytesOf (enc (b :: y))).headD 0 = f := by rw [e2]; rfl
    have k3 : x.getLastD 0 = a := by rw [g]; simp
    rw [k1, k2, k3, show (b :: y).headD 0 = b from rfl, h1.cls.2.2, h2.cls.2.2]
    exact scoreL_alike h1 h2
theorem scoreG_two {x y : List Int} (hx : x ≠ []) (hy : y ≠ []) (h1 : 128 ≤ x.getLastD 0) (h2 : 128 ≤ y.headD 0) : scoreG x y = 1 := by
 unfold scoreG
 rw [if_neg (by rintro (h | h) <;> contradiction), (high h1).2.2, (high h2).2.2]
 exact scoreL_two h1 h2
theorem scoreG_ge {x y : List Int} (h1 : 128 ≤ x.getLastD 0) : 1 ≤ scoreG x y := by
 unfold scoreG
 split
 ·omega
 ·exact scoreL_high (fun _ => by omega) h1
end Go.Proofs.YticibdjilmclgaaGreatDoorZF
namespace Go.Proofs.YticibdjilmclgaaGreatDoorZF
open Go
set_option linter.unusedVariables false
set_option linter.unusedSimpArgs false
theorem nonAlnum_ok (n : Nat) (c : Int) : g62 n c = some (!letter c, ()) := by
 dsimp only [g62, g62_1, letter]
 by_cases h1 : 97 ≤ c <;> by_cases h2 : c ≤ 122 <;> by_cases h3 : 65 ≤ c <;> by_cases h4 : c ≤ 90 <;> by_cases h5 : 48 ≤ c <;> by_cases h6 : c ≤ 57 <;> first | omega | (simp [h1, h2, h3, h4, h5, h6]; done) | (simp [h1, h2, h3, h4, h5, h6]; omega)
theorem white_ok (n : Nat) (c : Int) : g63 n c = some (space c, ()) := by
 dsimp only [g63, g63_1, space]
 have e : ∀ k : Int, ¬ c = k → (c == k) = false := fun k h => beq_false_of_ne h
 by_cases h1 : c = 32
 ·subst h1; rfl
 by_cases h2 : c = 9
 ·subst h2; rfl
 by_cases h3 : c = 10
 ·subst h3; rfl
 by_cases h4 : c = 13
 ·subst h4; rfl
 by_cases h5 : c = 12
 ·subst h5; rfl
 simp [e _ h1, e _ h2, e _ h3, e _ h4, e _ h5, h1, h2, h3, h4, h5]
theorem brk_ok (n : Nat) (c : Int) : g64 n c = some (brk c, ()) := by
 dsimp only [g64, g64_1, brk]
 have e : ∀ k : Int, ¬ c = k → (c == k) = false := fun k h => beq_false_of_ne h
 by_cases h3 : c = 10
 ·subst h3; rfl
 by_cases h4 : c = 13
 ·subst h4; rfl
 simp [e _ h3, e _ h4, h3, h4]
theorem brk_space {c : Int} (h : brk c = true) : space c = true := by
 unfold brk at h; unfold space; simp at h ⊢; omega
theorem space_letter {c : Int} (h : space c = true) : letter c = false := by
 unfold space at h; unfold letter; simp at h ⊢; omega
theorem suffix_raw {X : ByteArray} {y : List Int} (hy : Asc y) : (∃ u, X = u ++ enc y) ↔ y <:+ bytesOf X := by
 constructor
 ·rintro ⟨u, rfl⟩
  rw [bytesOf_append, bytes_enc hy]
  exact ⟨_, rfl⟩
 ·rintro ⟨t, ht⟩
  have h1 : ∀ b ∈ t, 0 ≤ b ∧ b < 256 := fun b hb => bytesOf_range (z := X) b (by rw [← ht]; simp [hb])
  refine ⟨strOfNums t, ?_⟩
  apply bytesOf_inj
  rw [bytesOf_append, bytesOf_strOfNums h1, bytes_enc hy, ht]
theorem enc_two : enc [10, 10] = (⟨#[10, 10]⟩ : ByteArray) := by rw [← asc_nn.eq]; rfl
theorem enc_three : enc [10, 13, 10] = (⟨#[10, 13, 10]⟩ : ByteArray) := by rw [← asc_nrn.eq]; rfl
theorem blanklineEnd_raw (n : Nat) (X : ByteArray) (hl : X.size ≤ 1000000000000) : g65 n X = some (blankE (bytesOf X), ()) := by
 dsimp only [g65, g65_1]
 rw [← enc_two, ← enc_three, hasSuffix_raw n _ _ hl (by rw [enc_two]; decide), hasSuffix_raw n _ _ hl (by rw [enc_three]; decide)]
 unfold blankE
 have e1 : (∃ u, X = u ++ enc [10, 10]) ↔ [10, 10] <:+ bytesOf X := suffix_raw asc_nn
 have e2 : (∃ u, X = u ++ enc [10, 13, 10]) ↔ [10, 13, 10] <:+ bytesOf X := suffix_raw asc_nrn
 by_cases h : [10, 10] <:+ bytesOf X <;> by_cases h2 : [10, 13, 10] <:+ bytesOf X <;> simp [h, h2, e1, e2]
theorem readLast (n : Nat) {X : ByteArray} {t : List Int} {l : Int} (hX : bytesOf X = t ++ [l]) (hs : X.size ≤ 1000000000000) : ∃ r k, g61 n X = some (r, (k, ())) ∧ Alike r l := by
 unfold g61
 rw [if_pos (by omega)]
 refine ⟨_, _, rfl, ?_⟩
 rw [bytesOf_bl] at hX
 obtain ⟨u, v, e, h1, h2⟩ := List.map_eq_append_iff.1 hX
 obtain ⟨b, r, e2, h3, h4⟩ := List.map_eq_cons_iff.1 h2
 have hr : r = [] := List.map_eq_nil_iff.1 h4
 subst hr
 subst e2
 unfold bl at e
 rw [e]
 by_cases hb : b.toNat < 128
 ·rw [Lib.decodeLastL_ascii u b hb]; exact .inl h3
 ·have := last_hi u b (by omega)
  exact .inr ⟨by omega, by omega⟩
theorem get_zero {Y : ByteArray} {b : UInt8} {r : List UInt8} (h : bl Y = b :: r) : Y.get! 0 = b := by
 obtain ⟨⟨l⟩⟩ := Y
 unfold bl at h
 simp only at h
 subst h
 rfl
theorem readHead (n : Nat) {Y : ByteArray} {t : List Int} {f : Int} (hY : bytesOf Y = f :: t) : ∃ r k, g44 n Y = some (r, (k, ())) ∧ Alike r f := by
 unfold g44 Lib.decodeGo
 have hs : Y.size ≠ 0 := by rw [← bytesOf_length, hY]; simp
 rw [if_neg hs]
 refine ⟨_, _, rfl, ?_⟩
 rw [bytesOf_bl] at hY
 obtain ⟨b, r, e2, h3, h4⟩ := List.map_eq_cons_iff.1 hY
 have hg := get_zero e2
 by_cases hb : b.toNat < 128
 ·rw [dec_lo Y (by rw [hg]; exact hb), hg]; exact .inl h3
 ·have := dec_hi Y (by rw [hg]; omega)
  exact .inr ⟨by omega, by omega⟩
theorem score_raw (n : Nat) (X Y : ByteArray) (hl : X.size ≤ 1000000000000) (hl2 : Y.size ≤ 1000000000000) : g43 n X Y = some (scoreG (bytesOf X) (bytesOf Y), ()) := by
 dsimp only [g43, g43_8, g43_7, g43_6, g43_5, g43_4, g43_3, g43_2, g43_1]
 have lx := bytesOf_length X
 have ly := bytesOf_length Y
 rcases List.eq_nil_or_concat (bytesOf X) with g | ⟨u, a, g⟩
 ·rw [g] at lx
  rw [biT (by rw [beq_iff_eq]; simp only [List.length_nil] at lx; omega)]
  simp [scoreG, g]
 ·rw [List.concat_eq_append] at g
  cases gy : bytesOf Y with
  | nil =>
   rw [gy] at ly
   rw [g] at lx
   simp only [List.length_append, List.length_cons, List.length_nil] at lx ly
   rw [biF (by rw [beq_eq_false_iff_ne]; omega), biT (by rw [beq_iff_eq]; omega)]
   simp [scoreG]
  | cons b v =>
   rw [gy] at ly
   rw [g] at lx
   simp only [List.length_append, List.length_cons, List.length_nil] at lx ly
   rw [biF (by rw [beq_eq_false_iff_ne]; omega), biF (by rw [beq_eq_false_iff_ne]; omega)]
   obtain ⟨r1, k1, d1, h1⟩ := readLast n g hl
   obtain ⟨r2, k2, d2, h2⟩ := readHead n gy
   rw [d1, d2]
   have e5 : scoreG (u ++ [a]) (b :: v) = scoreL ((brk r1 && blankE (bytesOf X)) || (brk r2 && blankE (bytesOf Y))) r1 r2 := by
    have c1 : (u ++ [a]).getLastD 0 = a := by simp
    unfold scoreG
    rw [if_neg (by simp), c1, show (b :: v).headD 0 = b from rfl, h1.cls.2.2, h2.cls.2.2, g, gy]
    exact (scoreL_alike h1 h2).symm
   rw [g, e5]
   simp only [Option.bind_some, nonAlnum_ok, white_ok, brk_ok, blanklineEnd_raw n X hl, blanklineEnd_raw n Y hl2]
   unfold scoreL
   have c1 := @brk_space r1
   have c2 := @brk_space r2
   have c3 := @space_letter r1
   have c4 := @space_letter r2
   cases h1 : letter r1 <;> cases h2 : space r1 <;> cases h3 : brk r1 <;> cases h5 : letter r2 <;> cases h6 : space r2 <;> cases h7 : brk r2 <;> first | rfl | (cases hX : blankE (bytesOf X) <;> cases hY : blankE (bytesOf Y) <;> first | rfl | simp_all)
theorem score_enc (n : Nat) {x y : List Int} (hx : Valids x) (hy : Valids y) (hl : (enc x).size ≤ 1000000000000) (hl2 : (enc y).size ≤ 1000000000000) : g43 n (enc x) (enc y) = some (scoreG x y, ()) := by
 rw [score_raw n _ _ hl hl2, scoreG_bytes hx hy]
end Go.Proofs.YticibdjilmclgaaGreatDoorZF
namespace Go.Proofs.YticibdjilmclgaaGreatDoorZF
open Go
set_option linter.unusedVariables false
set_option linter.unusedSimpArgs false
theorem scoreG_range (x y : List Int) : 0 ≤ scoreG x y ∧ scoreG x y ≤ 6 := by
 unfold scoreG scoreL
 repeat' split
 all_goals omega
theorem baa (x y z : ByteArray) : x ++ y ++ z = x ++ (y ++ z) := ByteArray.append_assoc
theorem dec_ok (n : Nat) (v : ByteArray) : g44 n v = some (((Lib.decodeGo v).1 : Int), (((Lib.decodeGo v).2 : Int), ())) := rfl
theorem bytes_size_pos {z : ByteArray} : (z.size : Int) ≠ 0 ↔ 0 < z.size := by omega
section
variable {β : Type} (n : Nat) (kx2 : (Int × Int × Int × Nat × Int × Int × Nat) → List (Int × ByteArray) → Int → ByteArray → ByteArray → ByteArray → Option β)
theorem loss_step (m : Nat) (p0) (x1 : List (Int × ByteArray)) (v5 : Int) (A S B e X Y Z : ByteArray) (best : Int) (he : (Lib.decodeGo (e ++ S)).2 = e.size) (h1 : 1 ≤ e.size) (hA : A.size ≤ 100000000000) (hS : (e ++ S).size ≤ 100000000000) (hB : (e ++ B).size ≤ 100000000000) :
  g29_7L n kx2 (m + 1) p0 x1 v5 A (e ++ S) (e ++ B) X Y Z best =
   if best ≤ scoreG (bytesOf (A ++ e)) (bytesOf (S ++ e)) + scoreG (bytesOf (S ++ e)) (bytesOf B) then g29_7L n kx2 m p0 x1 v5 (A ++ e) (S ++ e) B (A ++ e) (S ++ e) B (scoreG (bytesOf (A ++ e)) (bytesOf (S ++ e)) + scoreG (bytesOf (S ++ e)) (bytesOf B))
   else g29_7L n kx2 m p0 x1 v5 (A ++ e) (S ++ e) B X Y Z best := by
 have s1 := size_append e S
 have s2 := size_append e B
 have s3 := size_append A e
 have s4 := size_append S e
 have r1 := scoreG_range (bytesOf (A ++ e)) (bytesOf (S ++ e))
 have r2 := scoreG_range (bytesOf (S ++ e)) (bytesOf B)
 have c1 : cutS (e ++ S) 0 (e.size : Int) = e := cutS_append_left e S
 have c2 : cutS (e ++ B) 0 (e.size : Int) = e := cutS_append_left e B
 have c3 : cutS (e ++ S) (e.size : Int) ((e ++ S).size : Int) = S := cutS_append_right e S
 have c4 : cutS (e ++ B) (e.size : Int) ((e ++ B).size : Int) = B := cutS_append_right e B
 rw [g29_7L.eq_2, g29_6]
 rw [biT (by rw [bne_iff_ne]; omega), biT (by rw [bne_iff_ne]; omega), dec_ok, Option.bind_some]
 simp only [he, c1, c2, c3, c4]
 rw [bdF (by omega), bnd_ok (by omega) (by omega) (by omega), bnd_ok (by omega) (by omega) (by omega), biF (by rw [strEq_eq]; simp), bnd_ok (by omega) (by omega) (by omega), roomy_ok (by omega), bnd_ok (by omega) (by omega) (by omega), bnd_ok (by omega) (by omega) (by omega), roomy_ok (by omega), bnd_ok (by omega) (by omega) (by omega)]
 rw [score_raw n _ _ (by omega) (by omega), Option.bind_some, score_raw n _ _ (by omega) (by omega), Option.bind_some]
 simp only
 rw [w64_id (by omega) (by omega)]
 split
 ·rename_i h; rw [bdT h]
 ·rename_i h; rw [bdF h]
theorem loss_stop (m : Nat) (p0) (x1 : List (Int × ByteArray)) (v5 : Int) (A S B X Y Z : ByteArray) (best : Int) (h : S.size = 0 ∨ B.size = 0 ∨ ((Lib.decodeGo S).2 ≤ S.size ∧ (B.size < (Lib.decodeGo S).2 ∨ cutS S 0 ((Lib.decodeGo S).2 : Int) ≠ cutS B 0 ((Lib.decodeGo S).2 : Int)))) :
  g29_7L n kx2 (m + 1) p0 x1 v5 A S B X Y Z best = kx2 p0 x1 v5 X Y Z := by
 rw [g29_7L.eq_2, g29_6]
 by_cases h1 : S.size = 0
 ·rw [biF (by rw [bne_eq_false_iff_eq]; omega)]
 ·rw [biT (by rw [bne_iff_ne]; omega)]
  by_cases h2 : B.size = 0
  ·rw [biF (by rw [bne_eq_false_iff_eq]; omega)]
  ·rw [biT (by rw [bne_iff_ne]; omega), dec_ok, Option.bind_some]
   simp only
   obtain ⟨hw, h⟩ := (h.resolve_left h1).resolve_left h2
   by_cases h3 : B.size < (Lib.decodeGo S).2
   ·rw [bdT (by omega)]
   ·rw [bdF (by omega), bnd_ok (by omega) (by omega) (by omega), bnd_ok (by omega) (by omega) (by omega), biT (by rw [strEq_eq]; simp; exact h.resolve_left h3)]
theorem walk_ok (p0) (x1 : List (Int × ByteArray)) (v5 : Int) : ∀ (k : Nat) (a s b : List Int) (X : Tri) (best : Int) (m : Nat), b.length = k → k < m → Valids a → Valids s → Valids b → (enc a).size + (enc s).size + (enc b).size ≤ 100000000000 →
  g29_7L n kx2 m p0 x1 v5 (enc a) (enc s) (enc b) (enc X.1) (enc X.2.1) (enc X.2.2) best = kx2 p0 x1 v5 (enc (walkR a s b X best).1) (enc (walkR a s b X best).2.1) (enc (walkR a s b X best).2.2) := by
 intro k
 induction k with
 | zero =>
  intro a s b X best m hb hm _ _ _ _
  obtain ⟨m, rfl⟩ : ∃ m', m = m' + 1 := ⟨m - 1, by omega⟩
  have := List.eq_nil_of_length_eq_zero hb
  subst this
  rw [loss_stop n kx2 m p0 x1 v5 _ _ _ _ _ _ best (.inr (.inl rfl))]
  cases s <;> simp only [walkR]
 | succ k ih =>
  intro a s b X best m hb hm va vs vb hsz
  obtain ⟨m, rfl⟩ : ∃ m', m = m' + 1 := ⟨m - 1, by omega⟩
  match s, b, hb, vs, vb, hsz with
  | [], d :: b, hb, vs, vb, hsz =>
   rw [loss_stop n kx2 m p0 x1 v5 _ _ _ _ _ _ best (.inl rfl)]
   simp only [walkR]
  | c :: s, d :: b, hb, vs, vb, hsz =>
   have hc := vs.cons.1
   have hd := vb.cons.1
   have dc := decode_head c s ByteArray.empty hc
   rw [ByteArray.append_empty] at dc
   have e1 : enc (c :: s) = enc [c] ++ enc s := enc_append [c] s
   have e2 : enc (d :: b) = enc [d] ++ enc b := enc_append [d] b
   have ec : (enc [c]).size = (Utf8.encode c).size := by rw [enc_size_cons]; rfl
   have pc := encode_pos c
   have hgo : Lib.decodeGo (enc (c :: s)) = (c.toNat, (Utf8.encode c).size) := by
    unfold Lib.decodeGo
    rw [if_neg (by rw [enc_size_cons]; omega), dc]
   have z1 := enc_size_cons c s
   have z2 := enc_size_cons d b
   by_cases hcd : c = d
   ·subst hcd
    have q1 : enc a ++ enc [c] = enc (a ++ [c]) := (enc_append a [c]).symm
    have q2 : enc s ++ enc [c] = enc (s ++ [c]) := (enc_append s [c]).symm
    have wa : Valids (a ++ [c]) := va.append fun x hx => by rw [List.mem_singleton.1 hx]; exact hc
    have ws : Valids (s ++ [c]) := vs.cons.2.append fun x hx => by rw [List.mem_singleton.1 hx]; exact hc
    have y1 := enc_size_append a [c]
    have y2 := enc_size_append s [c]
    rw [e1, e2, loss_step n kx2 m p0 x1 v5 _ _ _ _ _ _ _ best (by rw [← e1, hgo, ec]) (by omega) (by omega) (by rw [← e1]; omega) (by rw [← e2]; omega), q1, q2, scoreG_bytes wa ws, scoreG_bytes ws vb.cons.2]
    rw [walkR, if_pos rfl]
    split
    ·exact ih (a ++ [c]) (s ++ [c]) b (a ++ [c], s ++ [c], b) _ m (by simpa using hb) (by omega) wa ws vb.cons.2 (by omega)
    ·exact ih (a ++ [c]) (s ++ [c]) b X best m (by simpa using hb) (by omega) wa ws vb.cons.2 (by omega)
   ·rw [walkR, if_neg hcd, loss_stop n kx2 m p0 x1 v5 _ _ _ _ _ _ best]
    right; right
    rw [hgo]
    refine ⟨by show (Utf8.encode c).size ≤ _; omega, ?_⟩
    by_cases hlt : (enc (d :: b)).size < (Utf8.encode c).size
    ·exact .inl hlt
    ·right
     intro heq
     have k1 : cutS (enc (c :: s)) 0 ((Utf8.encode c).size : Int) = enc [c] := by rw [e1, ← ec]; exact cutS_append_left _ _
     rw [k1] at heq
     have k2 : enc (d :: b) = enc [c] ++ cutS (enc (d :: b)) ((Utf8.encode c).size : Int) ((enc (d :: b)).size : Int) := by
      rw [heq]
      apply bytesOf_inj
      rw [bytesOf_append, bytesOf_cutS, bytesOf_cutS, cut_from, cut_to _ _ _ (by rw [bytesOf_length]; omega), List.take_append_drop]
     have dd := decode_head d b ByteArray.empty hd
     rw [ByteArray.append_empty, k2] at dd
     have dc2 := decode_head c [] (cutS (enc (d :: b)) ((Utf8.encode c).size : Int) ((enc (d :: b)).size : Int)) hc
     rw [dd] at dc2
     have := congrArg Prod.fst dc2
     have h1 := valid_nonneg hc
     have h2 := valid_nonneg hd
     simp only at this
     omega
end
def LastHi (X : ByteArray) : Prop := ∃ t l, bytesOf X = t ++ [l] ∧ 128 ≤ l
def FirstHi (X : ByteArray) : Prop := ∃ t l, bytesOf X = l :: t ∧ 128 ≤ l
theorem LastHi.append {X : ByteArray} (Y : ByteArray) (h : LastHi X) : LastHi (Y ++ X) := by
 obtain ⟨t, l, e, hl⟩ := h
 exact ⟨bytesOf Y ++ t, l, by rw [bytesOf_append, e, List.append_assoc], hl⟩
theorem FirstHi.append {X : ByteArray} (Y : ByteArray) (h : FirstHi X) : FirstHi (X ++ Y) := by
 obtain ⟨t, l, e, hl⟩ := h
 exact ⟨t ++ bytesOf Y, l, by rw [bytesOf_append, e]; rfl, hl⟩
theorem score_hi2 {X Y : ByteArray} (h : LastHi X) (k : FirstHi Y) : scoreG (bytesOf X) (bytesOf Y) = 1 := by
 obtain ⟨t, l, e, hl⟩ := h
 obtain ⟨t', f, e', hf⟩ := k
 rw [e, e']
 exact scoreG_two (by simp) (by simp) (by simpa using hl) (by simpa using hf)
theorem score_hi1 {X Y : ByteArray} (h : LastHi X) : 1 ≤ scoreG (bytesOf X) (bytesOf Y) := by
 obtain ⟨t, l, e, hl⟩ := h
 rw [e]
 exact scoreG_ge (by simpa using hl)
def mkB (l : List UInt8) : ByteArray := ⟨l.toArray⟩
theorem mkB_cons (b : UInt8) (l : List UInt8) : mkB (b :: l) = mkB [b] ++ mkB l := by
 apply ba_ext; simp [mkB, ByteArray.data_append]
theorem bytes_mkB (l : List UInt8) : bytesOf (mkB l) = l.map fun b => (b.toNat : Int) := rfl
theorem mkB_size (l : List UInt8) : (mkB l).size = l.length := by rw [← bytesOf_length, bytes_mkB, List.length_map]
section
variable {β : Type} (n : Nat) (kx2 : (Int × Int × Int × Nat × Int × Int × Nat) → List (Int × ByteArray) → Int → ByteArray → ByteArray → ByteArray → Option β)
theorem broke_ok (m : Nat) (p0) (x1 : List (Int × ByteArray)) (v5 : Int) : ∀ (l : List UInt8) (A S B X Y Z : ByteArray), l ≠ [] → (∀ b ∈ l, inner b) → LastHi A → LastHi S → A.size + 2 * (mkB l).size + S.size + B.size ≤ 10000000000 →
  g29_7L n kx2 (l.length + m) p0 x1 v5 A (mkB l ++ S) (mkB l ++ B) X Y Z 2 = g29_7L n kx2 m p0 x1 v5 (A ++ mkB l) (S ++ mkB l) B (A ++ mkB l) (S ++ mkB l) B (scoreG (bytesOf (A ++ mkB l)) (bytesOf (S ++ mkB l)) + scoreG (bytesOf (S ++ mkB l)) (bytesOf B))
 | [], A, S, B, X, Y, Z, h, _, _, _, _ => absurd rfl h
 | b :: l, A, S, B, X, Y, Z, _, hi, hA, hS, hsz => by
  have hb := hi b (by simp)
  have hbl : LastHi (mkB [b]) := ⟨[], (b.toNat : Int), rfl, by unfold inner at hb; omega⟩
  have hgo : (Lib.decodeGo (mkB [b] ++ (mkB l ++ S))).2 = (mkB [b]).size := by
   unfold Lib.decodeGo
   have hne : (mkB [b] ++ (mkB l ++ S)).size ≠ 0 := by rw [size_append, mkB_size]; simp
   have hg : (mkB [b] ++ (mkB l ++ S)).get! 0 = b := by
    have : bl (mkB [b] ++ (mkB l ++ S)) = b :: bl (mkB l ++ S) := by rw [bl_append]; rfl
    exact get_zero this
   rw [if_neg hne, dec_inner _ (by rw [hg]; exact hb)]
   rfl
  have s1 := mkB_size (b :: l)
  have s2 := mkB_size l
  have s3 : (mkB [b]).size = 1 := rfl
  have s4 := size_append (mkB l) S
  have s5 := size_append (mkB l) B
  have s6 := size_append (mkB [b]) (mkB l ++ S)
  have s7 := size_append (mkB [b]) (mkB l ++ B)
  simp only [List.length_cons] at s1 ⊢
  rw [mkB_cons b l, baa, baa, show l.length + 1 + m = (l.length + m) + 1 by omega, loss_step n kx2 (l.length + m) p0 x1 v5 A (mkB l ++ S) (mkB l ++ B) (mkB [b]) X Y Z 2 hgo (by omega) (by omega) (by omega) (by omega)]
  have k1 : LastHi (A ++ mkB [b]) := hbl.append A
  have k2 : LastHi (S ++ mkB [b]) := hbl.append S
  by_cases hl : l = []
  ·subst hl
   have z : mkB [] = (⟨#[]⟩ : ByteArray) := rfl
   have e1 : ∀ Q : ByteArray, mkB [] ++ Q = Q := fun Q => by apply ba_ext; rw [z, ByteArray.data_append]; simp
   have e2 : ∀ Q : ByteArray, Q ++ mkB [] = Q := fun Q => by apply ba_ext; rw [z, ByteArray.data_append]; simp
   simp only [e1, e2]
   have g1 := score_hi1 (Y := S ++ mkB [b]) k1
   have g2 := score_hi1 (Y := B) k2
   rw [if_pos (by omega)]
   simp
  ·obtain ⟨c, l', e⟩ := List.exists_cons_of_ne_nil hl
   have hc : FirstHi (mkB l) := by
    subst e
    have := hi c (by simp)
    unfold inner at this
    exact ⟨l'.map fun b => (b.toNat : Int), (c.toNat : Int), rfl, by omega⟩
   have g1 : scoreG (bytesOf (A ++ mkB [b])) (bytesOf (mkB l ++ S ++ mkB [b])) = 1 := score_hi2 k1 ((hc.append S).append _)
   have g2 : scoreG (bytesOf (mkB l ++ S ++ mkB [b])) (bytesOf (mkB l ++ B)) = 1 := score_hi2 (hbl.append _) (hc.append B)
   rw [g1, g2, if_pos (by omega)]
   have := broke_ok m p0 x1 v5 l (A ++ mkB [b]) (S ++ mkB [b]) B (A ++ mkB [b]) (mkB l ++ S ++ mkB [b]) (mkB l ++ B) hl (fun b hb => hi b (by simp [hb])) k1 k2 (by rw [size_append, size_append]; omega)
   rw [baa (mkB l) S (mkB [b]), show (1 : Int) + 1 = 2 from rfl]
   rw [baa (mkB l) S (mkB [b])] at this
   rw [this, baa A, baa S]
end
end Go.Proofs.YticibdjilmclgaaGreatDoorZF
namespace Go.Proofs.YticibdjilmclgaaGreatDoorZF
open Go
set_option linter.unusedVariables false
set_option linter.unusedSimpArgs false
theorem wholeJ_append (q : List Int) : ∀ (r : List Int) (k : Nat), k ≤ (enc r.reverse).size → wholeJ (r ++ q) k = wholeJ r k
 | [], k, h => by
  have hk : k = 0 := by have : (enc []).size = 0 := rfl; simp at h; omega
  subst hk
  cases q with
  | nil => rfl
  | cons c q => have := encode_pos c; simp only [List.nil_append]; rw [show wholeJ [] 0 = 0 from rfl, wholeJ, if_neg (by omega)]
 | c :: r, k, h => by
  rw [List.reverse_cons, enc_size_append, enc_size_cons] at h
  have h0 : (enc []).size = 0 := rfl
  rw [List.cons_append, wholeJ, wholeJ]
  split
  ·rw [wholeJ_append q r _ (by omega)]
  ·rfl
theorem tail_bytes : ∀ (r : List Int) (k : Nat), Valids r → k ≤ (enc r.reverse).size → ∃ (l : List UInt8) (U : ByteArray), enc r.reverse = U ++ (mkB l ++ enc (r.reverse.drop (r.length - wholeJ r k))) ∧ (mkB l ++ enc (r.reverse.drop (r.length - wholeJ r k))).size = k ∧ (∀ b ∈ l, inner b) ∧
      U ++ mkB l = enc (r.reverse.take (r.length - wholeJ r k)) ∧ (l ≠ [] → LastHi U)
  | [], k, _, h => by
    have hk : k = 0 := by have : (enc []).size = 0 := rfl; simp at h; omega
    subst hk
    exact ⟨[], enc [], rfl, rfl, by simp, rfl, by simp⟩
  | c :: r, k, hv, h => by
    have hr := hv.cons.2
    have h0 : (enc []).size = 0 := rfl
    have e1 : enc (c :: r).reverse = enc r.reverse ++ enc [c] := by rw [List.reverse_cons, enc_append]
    have ec : (enc [c]).size = (Utf8.encode c).size := by rw [enc_size_cons]; rfl
    rw [wholeJ]
    by_cases hk : (Utf8.encode c).size ≤ k
    · rw [if_pos hk]
      have h' : k - (Utf8.encode c).size ≤ (enc r.reverse).size := by rw [e1, size_append] at h; omega
      obtain ⟨l, U, q1, q2, q3, q4, q5⟩ := tail_bytes r _ hr h'
      have hj := wholeJ_le r (k - (Utf8.encode c).size)
      generalize wholeJ r (k - (Utf8.encode c).size) = j at *
      have e2 : (c :: r).length - (1 + j) = r.length - j := by simp only [List.length_cons]; omega
      have e3 : (c :: r).reverse.drop ((c :: r).length - (1 + j)) = r.reverse.drop (r.length - j) ++ [c] := by
        rw [e2, List.reverse_cons, List.drop_append_of_le_length (by simp)]
      have e4 : (c :: r).reverse.take ((c :: r).length - (1 + j)) = r.reverse.take (r.length - j) := by
        rw [e2, List.reverse_cons, List.take_append_of_le_length (by simp)]
      refine ⟨l, U, ?_, ?_, q3, ?_, q5⟩
      · rw [e3, e1, enc_append, q1]; simp only [baa]
      · rw [e3, enc_append, ← baa, size_append, q2, ec]; omega
      · rw [e4]; exact q4
    · rw [if_neg hk]
      simp only [Nat.sub_zero]
      have e3 : (c :: r).reverse.drop (c :: r).length = [] := List.drop_of_length_le (by simp)
      have e4 : (c :: r).reverse.take (c :: r).length = (c :: r).reverse := List.take_of_length_le (by simp)
      rw [e3, e4, e1]
      have en : ∀ Q : ByteArray, Q ++ enc [] = Q := fun Q => by apply ba_ext; rw [enc_nil, ByteArray.data_append]; simp
      simp only [en]
      by_cases hk0 : k = 0
      · subst hk0
        have z : mkB [] = (⟨#[]⟩ : ByteArray) := rfl
        have e0 : ∀ Q : ByteArray, Q ++ mkB [] = Q := fun Q => by apply ba_ext; rw [z, ByteArray.data_append]; simp
        exact ⟨[], enc r.reverse ++ enc [c], by rw [e0], rfl, by simp, by rw [e0], by simp⟩
      ·
        have hc : 128 ≤ c := by
          by_cases hlt : c < 128
          · exfalso
            have h1 := valid_nonneg hv.cons.1
            have := encode_asc (b := c) ⟨h1.1, hlt⟩
            have h2 := bytesOf_length (Utf8.encode c)
            rw [this] at h2
            simp at h2
            omega
          · omega
        obtain ⟨f, t, g1, g2, g3, g4⟩ := encode_high c hc
        have hsz : (Utf8.encode c).size = t.length + 1 := by rw [← bl_length, g1]; rfl
        have hbl : bl (enc [c]) = f :: t := by rw [bl_enc_cons, g1, enc_nil]; simp [bl]
        have hsp : enc [c] = mkB (f :: t.take (t.length - k)) ++ mkB (t.drop (t.length - k)) := by
          apply bl_inj
          rw [hbl, bl_append]
          show f :: t = (f :: t.take (t.length - k)) ++ t.drop (t.length - k)
          rw [List.cons_append, List.take_append_drop]
        refine ⟨t.drop (t.length - k), enc r.reverse ++ mkB (f :: t.take (t.length - k)), ?_, ?_, fun b hb => g4 b (List.mem_of_mem_drop hb), ?_, fun _ => ?_⟩
        · rw [baa, ← hsp]
        · rw [mkB_size, List.length_drop]; omega
        · rw [baa, ← hsp]
        · refine LastHi.append _ ?_
          rcases List.eq_nil_or_concat (t.take (t.length - k)) with g | ⟨u, b, g⟩
          · rw [g]; exact ⟨[], (f.toNat : Int), rfl, by omega⟩
          · rw [List.concat_eq_append] at g
            rw [g]
            have hb := g4 b (List.mem_of_mem_take (by rw [g]; simp : b ∈ t.take (t.length - k)))
            unfold inner at hb
            exact ⟨(f :: u).map fun b => (b.toNat : Int), (b.toNat : Int), by rw [bytes_mkB]; simp, by omega⟩
section
variable {β : Type} (n : Nat) (hn : Big ≤ n) (kx2 : (Int × Int × Int × Nat × Int × Int × Nat) → List (Int × ByteArray) → Int → ByteArray → ByteArray → ByteArray → Option β)
include hn
theorem inner_ok (p0) (x1 : List (Int × ByteArray)) (v5 : Int) (a s b : List Int) (va : Valids a) (vs : Valids s) (vb : Valids b) (hla : a.length ≤ 100000000) (hls : s.length ≤ 100000000) (hlb : b.length ≤ 100000000) (A0 S0 B0 : ByteArray) (k : Nat) (hk : k = csl a s)
  (hA : enc a = A0 ++ cutS (enc s) (((enc s).size : Int) - (k : Int)) ((enc s).size : Int)) (hS : S0 = cutS (enc s) (((enc s).size : Int) - (k : Int)) ((enc s).size : Int) ++ cutS (enc s) 0 (((enc s).size : Int) - (k : Int))) (hB : B0 = cutS (enc s) (((enc s).size : Int) - (k : Int)) ((enc s).size : Int) ++ enc b) :
  g29_5 n (fun p0 x1 v5 v6 v7 v8 v11 v12 v13 v14 => g29_8 n kx2 p0 x1 v5 v6 v7 v8 v11 v12 v13 v14) p0 x1 v5 A0 S0 B0 = kx2 p0 x1 v5 (enc (shiftR a s b).1) (enc (shiftR a s b).2.1) (enc (shiftR a s b).2.2) := by
 have hB' : (4611686018427387904 : Nat) ≤ n := hn
 have l1 := csl_le_left a s
 have l2 := csl_le_right a s
 have et := csl_drop a s
 rw [← hk] at l1 l2 et
 have ea : a = a.take (a.length - k) ++ a.drop (a.length - k) := (List.take_append_drop _ _).symm
 have es : s = s.take (s.length - k) ++ a.drop (a.length - k) := by rw [et]; exact (List.take_append_drop _ _).symm
 have lt : (a.drop (a.length - k)).length = k := by rw [List.length_drop]; omega
 have hst : startR a s b = (a.take (a.length - wholeJ a.reverse k), a.drop (a.length - wholeJ a.reverse k) ++ s.take (s.length - wholeJ a.reverse k), a.drop (a.length - wholeJ a.reverse k) ++ b) := by unfold startR; rw [← hk]
 have vt : Valids (a.drop (a.length - k)) := va.drop _
 have va' : Valids (a.take (a.length - k)) := va.take _
 have vs' : Valids (s.take (s.length - k)) := vs.take _
 have hjt : wholeJ a.reverse k = wholeJ (a.drop (a.length - k)).reverse k := by
  have : a.reverse = (a.drop (a.length - k)).reverse ++ (a.take (a.length - k)).reverse := by rw [← List.reverse_append, List.take_append_drop]
  rw [this]
  refine wholeJ_append _ _ _ ?_
  rw [List.reverse_reverse]
  have := enc_size_ge (a.drop (a.length - k))
  omega
 generalize ht : a.drop (a.length - k) = t at *
 generalize ha' : a.take (a.length - k) = a' at *
 generalize hs' : s.take (s.length - k) = s' at *
 have la' : a'.length + k = a.length := by rw [ea, List.length_append, lt]
 have ls' : s'.length + k = s.length := by rw [es, List.length_append, lt]
 have hkt : k ≤ (enc t.reverse.reverse).size := by rw [List.reverse_reverse]; have := enc_size_ge t; omega
 obtain ⟨l, U, q1, q2, q3, q4, q5⟩ := tail_bytes t.reverse k (fun c hc => vt c (List.mem_reverse.1 hc)) hkt
 rw [List.reverse_reverse, List.length_reverse] at q1 q2 q4
 rw [← hjt] at q1 q2 q4
 have hj0 := wholeJ_le t.reverse k
 rw [← hjt, List.length_reverse] at hj0
 generalize wholeJ a.reverse k = j at *
 have c1 : a.take (a.length - j) = a' ++ t.take (t.length - j) := by rw [ea, List.take_append, List.take_of_length_le (by rw [List.length_append]; omega)]; congr 2; rw [List.length_append]; omega
 have c2 : a.drop (a.length - j) = t.drop (t.length - j) := by rw [ea, List.drop_append, List.drop_of_length_le (by rw [List.length_append]; omega), List.nil_append]; congr 1; rw [List.length_append]; omega
 have c3 : s.take (s.length - j) = s' ++ t.take (t.length - j) := by rw [es, List.take_append, List.take_of_length_le (by rw [List.length_append]; omega)]; congr 2; rw [List.length_append]; omega
 have hC : cutS (enc s) (((enc s).size : Int) - (k : Int)) ((enc s).size : Int) = mkB l ++ enc (t.drop (t.length - j)) := by
  have e : enc s = (enc s' ++ U) ++ (mkB l ++ enc (t.drop (t.length - j))) := by rw [es, enc_append, q1]; simp only [baa]
  have hz := size_append (enc s' ++ U) (mkB l ++ enc (t.drop (t.length - j)))
  rw [q2] at hz
  rw [e, show (((enc s' ++ U) ++ (mkB l ++ enc (t.drop (t.length - j)))).size : Int) - (k : Int) = ((enc s' ++ U).size : Int) by omega]
  exact cutS_append_right _ _
 have hC2 : cutS (enc s) 0 (((enc s).size : Int) - (k : Int)) = enc s' ++ U := by
  have e : enc s = (enc s' ++ U) ++ (mkB l ++ enc (t.drop (t.length - j))) := by rw [es, enc_append, q1]; simp only [baa]
  have hz := size_append (enc s' ++ U) (mkB l ++ enc (t.drop (t.length - j)))
  rw [q2] at hz
  rw [e, show (((enc s' ++ U) ++ (mkB l ++ enc (t.drop (t.length - j)))).size : Int) - (k : Int) = ((enc s' ++ U).size : Int) by omega]
  exact cutS_append_left _ _
 have hA0 : A0 = enc a' ++ U := by
  rw [hC] at hA
  have e : enc a = (enc a' ++ U) ++ (mkB l ++ enc (t.drop (t.length - j))) := by rw [ea, enc_append, q1]; simp only [baa]
  rw [e] at hA
  have := congrArg bytesOf hA
  rw [bytesOf_append, bytesOf_append A0] at this
  exact (bytesOf_inj (List.append_cancel_right this)).symm
 rw [hC, hC2] at hS
 rw [hC] at hB
 subst hA0 hS hB
 have e1 := enc_size_le a
 have e2 := enc_size_le s
 have e3 := enc_size_le b
 have e4 : (enc a' ++ U).size + k = (enc a).size := by
  have e : enc a = (enc a' ++ U) ++ (mkB l ++ enc (t.drop (t.length - j))) := by rw [ea, enc_append, q1]; simp only [baa]
  rw [e, size_append _ (mkB l ++ _), q2]
 have e5 : (enc s' ++ U).size + k = (enc s).size := by
  have e : enc s = (enc s' ++ U) ++ (mkB l ++ enc (t.drop (t.length - j))) := by rw [es, enc_append, q1]; simp only [baa]
  rw [e, size_append _ (mkB l ++ _), q2]
 have e6 := size_append (mkB l) (enc (t.drop (t.length - j)))
 have vA : Valids (a.take (a.length - j)) := va.take _
 have vS : Valids (a.drop (a.length - j) ++ s.take (s.length - j)) := (va.drop _).append (vs.take _)
 have vB : Valids (a.drop (a.length - j) ++ b) := (va.drop _).append vb
 have last : ∀ m, (a.drop (a.length - j) ++ b).length < m → g29_7L n kx2 m p0 x1 v5 (enc (a.take (a.length - j))) (enc (a.drop (a.length - j) ++ s.take (s.length - j))) (enc (a.drop (a.length - j) ++ b)) (enc (a.take (a.length - j))) (enc (a.drop (a.length - j) ++ s.take (s.length - j))) (enc (a.drop (a.length - j) ++ b)) (scoreG (a.take (a.length - j)) (a.drop (a.length - j) ++ s.take (s.length - j)) + scoreG (a.drop (a.length - j) ++ s.take (s.length - j)) (a.drop (a.length - j) ++ b)) = kx2 p0 x1 v5 (enc (shiftR a s b).1) (enc (shiftR a s b).2.1) (enc (shiftR a s b).2.2) := by
  intro m hm
  have y1 := enc_size_le (a.take (a.length - j))
  have y2 := enc_size_le (a.drop (a.length - j) ++ s.take (s.length - j))
  have y3 := enc_size_le (a.drop (a.length - j) ++ b)
  simp only [List.length_append, List.length_take, List.length_drop] at y1 y2 y3
  have := walk_ok n kx2 p0 x1 v5 _ (a.take (a.length - j)) (a.drop (a.length - j) ++ s.take (s.length - j)) (a.drop (a.length - j) ++ b) (a.take (a.length - j), a.drop (a.length - j) ++ s.take (s.length - j), a.drop (a.length - j) ++ b) (scoreG (a.take (a.length - j)) (a.drop (a.length - j) ++ s.take (s.length - j)) + scoreG (a.drop (a.length - j) ++ s.take (s.length - j)) (a.drop (a.length - j) ++ b)) m rfl hm vA vS vB (by omega)
  unfold shiftR
  rw [hst]
  exact this
 have hlen : (a.drop (a.length - j) ++ b).length ≤ 200000000 := by simp only [List.length_append, List.length_drop]; omega
 have z : mkB [] = (⟨#[]⟩ : ByteArray) := rfl
 have n1 : ∀ Q : ByteArray, mkB [] ++ Q = Q := fun Q => by apply ba_ext; rw [z, ByteArray.data_append]; simp
 have n2 : ∀ Q : ByteArray, Q ++ mkB [] = Q := fun Q => by apply ba_ext; rw [z, ByteArray.data_append]; simp
 have g1 : enc a' ++ U ++ mkB l = enc (a.take (a.length - j)) := by rw [baa, q4, ← enc_append, c1]
 have g2 : enc (t.drop (t.length - j)) ++ (enc s' ++ U) ++ mkB l = enc (a.drop (a.length - j) ++ s.take (s.length - j)) := by rw [baa, baa, q4, c2, c3, enc_append, enc_append]
 have g3 : enc (t.drop (t.length - j)) ++ enc b = enc (a.drop (a.length - j) ++ b) := by rw [c2, enc_append]
 unfold g29_5
 have w1 := size_append (mkB l ++ enc (t.drop (t.length - j))) (enc s' ++ U)
 have w2 := size_append (mkB l ++ enc (t.drop (t.length - j))) (enc b)
 rw [score_raw n _ _ (by omega) (by omega), Option.bind_some, score_raw n _ _ (by omega) (by omega), Option.bind_some]
 have r1 := scoreG_range (bytesOf (enc a' ++ U)) (bytesOf (mkB l ++ enc (t.drop (t.length - j)) ++ (enc s' ++ U)))
 have r2 := scoreG_range (bytesOf (mkB l ++ enc (t.drop (t.length - j)) ++ (enc s' ++ U))) (bytesOf (mkB l ++ enc (t.drop (t.length - j)) ++ enc b))
 simp only
 rw [w64_id (by omega) (by omega)]
 unfold g29_8 g29_7
 by_cases hl : l = []
 ·subst hl
  rw [n2] at g1 g2
  rw [n1, g1, g2, g3, scoreG_bytes vA vS, scoreG_bytes vS vB]
  exact last n (by omega)
 ·obtain ⟨b0, l0, hl0⟩ := List.exists_cons_of_ne_nil hl
  have hb0 := q3 b0 (by rw [hl0]; simp)
  have hF : FirstHi (mkB l) := by
   unfold inner at hb0
   rw [hl0]
   exact ⟨l0.map fun b => (b.toNat : Int), (b0.toNat : Int), rfl, by omega⟩
  have hU := q5 hl
  have hLA : LastHi (enc a' ++ U) := hU.append _
  have hLS : LastHi (enc (t.drop (t.length - j)) ++ (enc s' ++ U)) := (hU.append _).append _
  have f1 : scoreG (bytesOf (enc a' ++ U)) (bytesOf (mkB l ++ enc (t.drop (t.length - j)) ++ (enc s' ++ U))) = 1 := score_hi2 hLA ((hF.append _).append _)
  have f2 : scoreG (bytesOf (mkB l ++ enc (t.drop (t.length - j)) ++ (enc s' ++ U))) (bytesOf (mkB l ++ enc (t.drop (t.length - j)) ++ enc b)) = 1 := score_hi2 ((hU.append _).append _) ((hF.append _).append _)
  rw [f1, f2]
  obtain ⟨m, rfl⟩ : ∃ m, n = l.length + m := ⟨n - l.length, by have := mkB_size l; omega⟩
  have ml := mkB_size l
  have ys := size_append (enc (t.drop (t.length - j))) (enc s' ++ U)
  have yb := size_append (enc (t.drop (t.length - j))) (enc b)
  rw [baa (mkB l) (enc (t.drop (t.length - j))) (enc s' ++ U), baa (mkB l) (enc (t.drop (t.length - j))) (enc b), show (1 : Int) + 1 = 2 from rfl, broke_ok (l.length + m) kx2 m p0 x1 v5 l _ _ _ _ _ _ hl q3 hLA hLS (by omega), g1, g2, g3, scoreG_bytes vA vS, scoreG_bytes vS vB]
  exact last m (by omega)
end
end Go.Proofs.YticibdjilmclgaaGreatDoorZF
namespace Go.Proofs.YticibdjilmclgaaGreatDoorZF
open Go
set_option linter.unusedVariables false
set_option linter.unusedSimpArgs false
set_option maxRecDepth 100000
theorem cutS_split (X : ByteArray) (i : Int) (h0 : 0 ≤ i) (h1 : i ≤ X.size) : cutS X 0 i ++ cutS X i (X.size : Int) = X := by
 apply bytesOf_inj
 rw [bytesOf_append, bytesOf_cutS, bytesOf_cutS, cut_from, cut_to _ _ _ (by rw [bytesOf_length]; omega), List.take_append_drop]
theorem last_same (a s : List Int) : cutS (enc a) (((enc a).size : Int) - (csl a s : Int)) ((enc a).size : Int) = cutS (enc s) (((enc s).size : Int) - (csl a s : Int)) ((enc s).size : Int) := by
 have l1 := csl_le_left a s
 have l2 := csl_le_right a s
 have et := csl_drop a s
 have lt : (a.drop (a.length - csl a s)).length = csl a s := by rw [List.length_drop]; omega
 have ea : enc a = enc (a.take (a.length - csl a s)) ++ enc (a.drop (a.length - csl a s)) := by rw [← enc_append, List.take_append_drop]
 have es : enc s = enc (s.take (s.length - csl a s)) ++ enc (a.drop (a.length - csl a s)) := by rw [et, ← enc_append, List.take_append_drop]
 have hge := enc_size_ge (a.drop (a.length - csl a s))
 have key : ∀ X Y : ByteArray, csl a s ≤ Y.size → cutS (X ++ Y) (((X ++ Y).size : Int) - (csl a s : Int)) ((X ++ Y).size : Int) = cutS Y ((Y.size : Int) - (csl a s : Int)) (Y.size : Int) := fun X Y h => by
  have hz := size_append X Y
  apply bytesOf_inj
  rw [bytesOf_cutS, bytesOf_cutS, cut_to _ _ _ (by rw [bytesOf_length]; omega), cut_to _ _ _ (by rw [bytesOf_length]; omega), bytesOf_append, List.drop_append, List.drop_of_length_le (by rw [bytesOf_length]; omega), List.nil_append]
  congr 1
  rw [bytesOf_length]; omega
 have k1 := key (enc (a.take (a.length - csl a s))) (enc (a.drop (a.length - csl a s))) (by omega)
 have k2 := key (enc (s.take (s.length - csl a s))) (enc (a.drop (a.length - csl a s))) (by omega)
 rw [← ea] at k1
 rw [← es] at k2
 rw [k1, k2]
theorem commonSuffix_ok (n : Nat) (hn : Big ≤ n) (p0) (a s : List Int) (va : Valids a) (vs : Valids s) (hla : a.length ≤ 100000000) (hls : s.length ≤ 100000000) : g42 n p0 (enc a) (enc s) = some ((csl a s : Int), ()) := by
 have e1 := enc_size_le a
 have e2 := enc_size_le s
 dsimp only [g42, g42_1]
 rw [room46_ok (by omega), room46_ok (by omega), runes_enc va, runes_enc vs, suffix_ok n hn a s (by omega) (by omega), Option.bind_some]
section
variable {β : Type} (n : Nat) (hn : Big ≤ n) (kn : (Int × Int × Int × Nat × Int × Int × Nat) → List (Int × ByteArray) → Int → Option β)
include hn
theorem ten_ok (p0) (x1 : List (Int × ByteArray)) (i : Nat) (v38 : Bool) (a s b : List Int) (va : Valids a) (vs : Valids s) (vb : Valids b) (hla : a.length ≤ 100000000) (hls : s.length ≤ 100000000) (hlb : b.length ≤ 100000000) (hl : i + 2 < x1.length) (hl2 : x1.length ≤ 1000000000)
  (r0 : (rd x1 (i : Int) ((0 : Int), (⟨#[]⟩ : ByteArray))).2 = enc a) (r1 : (rd x1 ((i + 1 : Nat) : Int) ((0 : Int), (⟨#[]⟩ : ByteArray))).2 = enc s) (r2 : (rd x1 ((i + 2 : Nat) : Int) ((0 : Int), (⟨#[]⟩ : ByteArray))).2 = enc b) :
  g29_10 n kn p0 x1 ((i + 1 : Nat) : Int) v38 = g29_9 n kn p0 x1 ((i + 1 : Nat) : Int) (enc (shiftR a s b).1) (enc (shiftR a s b).2.1) (enc (shiftR a s b).2.2) := by
 have hw0 : w64 (((i + 1 : Nat) : Int) - 1) = (i : Int) := by rw [w64_id (by omega) (by omega)]; omega
 have hw2 : w64 (((i + 1 : Nat) : Int) + 1) = ((i + 2 : Nat) : Int) := by rw [w64_id (by omega) (by omega)]; omega
 have e1 := enc_size_le a
 have e2 := enc_size_le s
 have e3 := enc_size_le b
 have g1 := enc_size_ge a
 have g2 := enc_size_ge s
 have l1 := csl_le_left a s
 have l2 := csl_le_right a s
 unfold g29_10 g29_4
 rw [hw0, hw2, idx_ok (by omega) (by omega), idx_ok (by omega) (by omega), idx_ok (by omega) (by omega), r0, r1, r2, commonSuffix_ok n hn p0 a s va vs hla hls, Option.bind_some]
 simp only
 have ws : w64 (((enc s).size : Int) - (csl a s : Int)) = ((enc s).size : Int) - (csl a s : Int) := w64_id (by omega) (by omega)
 have wa : w64 (((enc a).size : Int) - (csl a s : Int)) = ((enc a).size : Int) - (csl a s : Int) := w64_id (by omega) (by omega)
 have key := fun A0 S0 B0 hA hS hB => inner_ok n hn (fun p0 x1 v5 v11 v12 v13 => g29_9 n kn p0 x1 v5 v11 v12 v13) p0 x1 ((i + 1 : Nat) : Int) a s b va vs vb hla hls hlb A0 S0 B0 (csl a s) rfl hA hS hB
 by_cases hk : (csl a s : Int) > 0
 ·rw [bdT hk, ws, wa, bnd_ok (by omega) (by omega) (by omega), bnd_ok (by omega) (by omega) (by omega), bnd_ok (by omega) (by omega) (by omega)]
  have z1 := size_cutS (z := enc s) (a := ((enc s).size : Int) - (csl a s : Int)) (b := ((enc s).size : Int)) (by omega) (by omega) (by omega)
  have z2 := size_cutS (z := enc s) (a := 0) (b := ((enc s).size : Int) - (csl a s : Int)) (by omega) (by omega) (by omega)
  rw [roomy_ok (by omega), roomy_ok (by omega)]
  refine key _ _ _ ?_ rfl rfl
  rw [← last_same a s]
  exact (cutS_split _ _ (by omega) (by omega)).symm
 ·rw [bdF hk]
  have h0 : csl a s = 0 := by omega
  have c1 : cutS (enc s) (((enc s).size : Int) - (csl a s : Int)) ((enc s).size : Int) = (⟨#[]⟩ : ByteArray) := by
   apply bytesOf_inj
   rw [bytesOf_cutS, cut_to _ _ _ (by rw [bytesOf_length]; omega), List.drop_of_length_le (by rw [bytesOf_length]; omega)]; rfl
  have c2 : cutS (enc s) 0 (((enc s).size : Int) - (csl a s : Int)) = enc s := by
   rw [h0, show ((enc s).size : Int) - ((0 : Nat) : Int) = ((enc s).size : Int) by omega]; exact cutS_all _
  have n1 : ∀ Q : ByteArray, (⟨#[]⟩ : ByteArray) ++ Q = Q := fun Q => by apply ba_ext; rw [ByteArray.data_append]; simp
  have n2 : ∀ Q : ByteArray, Q ++ (⟨#[]⟩ : ByteArray) = Q := fun Q => by apply ba_ext; rw [ByteArray.data_append]; simp
  refine key _ _ _ ?_ ?_ ?_
  ·rw [c1, n2]
  ·rw [c1, c2, n1]
  ·rw [c1, n1]
end
theorem shift_sizes {a s b : List Int} : (shiftR a s b).1.length + (shiftR a s b).2.2.length = a.length + b.length ∧ (shiftR a s b).2.1.length = s.length := by
 have h := shiftR_moved a s b
 have := congrArg List.length h.out
 simp only [List.length_append] at this
 exact ⟨this, h.len⟩
theorem size_ne_zero {x : List Int} : (((enc x).size : Int) != 0) = true ↔ x ≠ [] := by
 rw [bne_iff_ne]
 constructor
 ·rintro h rfl; exact h rfl
 ·intro h h0
  exact h (enc_size_zero.1 (by omega))
theorem loss_loop {β : Type} (n : Nat) (hn : Big ≤ n) (kx : List (Int × ByteArray) → Option β) (p0) : ∀ (k : Nat) (R A : List Rp) (m : Nat), R.length = k → k < m → Ok A → Ok R →
  A.length + R.length ≤ 1000000 → allR A + allR R ≤ 10000000 →
  g29_17L (β := β) n kx m p0 (M (A.reverse ++ R)) ((A.length + 1 : Nat) : Int) = kx (M (lossF A R)) := by
 intro k
 induction k using Nat.strongRecOn with
 | _ k ih =>
  intro R A m hk hm hA hR hl hal
  obtain ⟨m, rfl⟩ : ∃ m', m = m' + 1 := ⟨m - 1, by omega⟩
  have hlm : (M (A.reverse ++ R)).length = A.length + R.length := by rw [M_length]; simp
  have hw0 : w64 (((M (A.reverse ++ R)).length : Int) - 1) = (A.length : Int) + (R.length : Int) - 1 := by rw [w64_id (by omega) (by omega)]; omega
  rw [g29_17L.eq_2]
  unfold g29_16 g29_2
  rw [hw0]
  by_cases h3 : R.length < 3
  ·rw [bdF (by omega)]
   have : lossF A R = A.reverse ++ R := by
    match R, h3 with
    | [], _ => unfold lossF; rfl
    | [p], _ => unfold lossF; rfl
    | [p, c], _ => unfold lossF; rfl
   rw [this]
  ·obtain ⟨p, c, q, R, rfl⟩ : ∃ p c q R', R = p :: c :: q :: R' := by
    match R, h3 with
    | [], h3 => simp at h3
    | [p], h3 => simp at h3
    | [p, c], h3 => simp at h3
    | p :: c :: q :: R, _ => exact ⟨p, c, q, R, rfl⟩
   have hRl : (p :: c :: q :: R).length = R.length + 3 := rfl
   have hp := hR.of_cons.1
   have hc := hR.of_cons.2.of_cons.1
   have hq := hR.of_cons.2.of_cons.2.of_cons.1
   have hR' := hR.of_cons.2.of_cons.2.of_cons.2
   simp only [allR_cons] at hal
   have hx : M (A.reverse ++ p :: c :: q :: R) = M A.reverse ++ (p.1, enc p.2) :: (c.1, enc c.2) :: (q.1, enc q.2) :: M R := by rw [M_append]; rfl
   have hAl : (M A.reverse).length = A.length := by simp [M_length]
   have hwm : w64 (((A.length + 1 : Nat) : Int) - 1) = (A.length : Int) := by rw [w64_id (by omega) (by omega)]; omega
   have hwp : w64 (((A.length + 1 : Nat) : Int) + 1) = ((A.length + 2 : Nat) : Int) := by rw [w64_id (by omega) (by omega)]; omega
   have hwq : w64 (((A.length + 1 : Nat) : Int) + 2) = ((A.length + 3 : Nat) : Int) := by rw [w64_id (by omega) (by omega)]; omega
   have hwa : w64 ((A.length : Int) + 1) = ((A.length + 1 : Nat) : Int) := by rw [w64_id (by omega) (by omega)]; omega
   have g0 : ∀ (u : Prt) (l : List Prt), rd (M A.reverse ++ u :: l) (A.length : Int) ((0 : Int), (⟨#[]⟩ : ByteArray)) = u := fun u l => rd_mid (by rw [hAl])
   have g1 : ∀ (u v : Prt) (l : List Prt), rd (M A.reverse ++ u :: v :: l) ((A.length + 1 : Nat) : Int) ((0 : Int), (⟨#[]⟩ : ByteArray)) = v := fun u v l => by
    have : M A.reverse ++ u :: v :: l = (M A.reverse ++ [u]) ++ v :: l := by simp
    rw [this]; exact rd_mid (by simp [hAl])
   have g2 : ∀ (u v w : Prt) (l : List Prt), rd (M A.reverse ++ u :: v :: w :: l) ((A.length + 2 : Nat) : Int) ((0 : Int), (⟨#[]⟩ : ByteArray)) = w := fun u v w l => by
    have : M A.reverse ++ u :: v :: w :: l = (M A.reverse ++ [u, v]) ++ w :: l := by simp
    rw [this]; exact rd_mid (by simp [hAl])
   have s0 : ∀ (u x : Prt) (l : List Prt), (M A.reverse ++ u :: l).set (A.length : Int).toNat x = M A.reverse ++ x :: l := fun u x l => set_mid (by rw [hAl]; omega)
   have s1 : ∀ (u v x : Prt) (l : List Prt), (M A.reverse ++ u :: v :: l).set ((A.length + 1 : Nat) : Int).toNat x = M A.reverse ++ u :: x :: l := fun u v x l => by
    have : M A.reverse ++ u :: v :: l = (M A.reverse ++ [u]) ++ v :: l := by simp
    rw [this, set_mid (by simp [hAl])]; simp
   have s2 : ∀ (u v w x : Prt) (l : List Prt), (M A.reverse ++ u :: v :: w :: l).set ((A.length + 2 : Nat) : Int).toNat x = M A.reverse ++ u :: v :: x :: l := fun u v w x l => by
    have : M A.reverse ++ u :: v :: w :: l = (M A.reverse ++ [u, v]) ++ w :: l := by simp
    rw [this, set_mid (by simp [hAl]; omega)]; simp
   have ll : ∀ u v w : Prt, (M A.reverse ++ u :: v :: w :: M R).length = A.length + 3 + R.length := fun u v w => by simp [M_length]; omega
   have ll2 : ∀ v w : Prt, (M A.reverse ++ v :: w :: M R).length = A.length + 2 + R.length := fun v w => by simp [M_length]; omega
   have skip : g29_17L (β := β) n kx m p0 (M A.reverse ++ (p.1, enc p.2) :: (c.1, enc c.2) :: (q.1, enc q.2) :: M R) ((A.length + 2 : Nat) : Int) = kx (M (lossF (p :: A) (c :: q :: R))) := by
    have := ih (c :: q :: R).length (by rw [← hk]; simp) (c :: q :: R) (p :: A) m rfl (by simp at hk ⊢; omega) (Ok.cons' hp hA) hR.of_cons.2 (by simp at hl ⊢; omega) (by simp only [allR_cons]; omega)
    rw [← this]
    have e : M ((p :: A).reverse ++ c :: q :: R) = M A.reverse ++ (p.1, enc p.2) :: (c.1, enc c.2) :: (q.1, enc q.2) :: M R := by
     simp [M_append, M_cons, M_nil]
    rw [e]; rfl
   rw [bdT (by omega)]
   unfold g29_15 g29_14 g29_3
   simp only [hwm, hwp, hx, g0, g1, g2, ll]
   rw [idx_ok (by omega) (by omega)]
   have plain : ∀ v38 : Bool, v38 = false → g29_12 n (fun p0 x1 v5 => g29_13 n (g29_17L n kx m) p0 x1 v5) p0 (M A.reverse ++ (p.1, enc p.2) :: (c.1, enc c.2) :: (q.1, enc q.2) :: M R) ((A.length + 1 : Nat) : Int) v38 = kx (M (lossF (p :: A) (c :: q :: R))) := fun v38 h => by
    unfold g29_12 g29_11 g29_13
    rw [biF h]
    simp only [hwp]
    exact skip
   rw [lossF]
   by_cases hp0 : p.1 = 0
   ·rw [biT (by simpa using hp0), idx_ok (by omega) (by omega)]
    by_cases hq0 : q.1 = 0
    ·rw [if_pos ⟨hp0, hq0⟩]
     unfold g29_12
     rw [biT (by simpa using hq0)]
     rw [ten_ok n hn _ p0 _ A.length _ p.2 c.2 q.2 hp.2 hc.2 hq.2 (by omega) (by omega) (by omega) (by rw [ll]; omega) (by rw [ll]; omega) (by rw [g0]) (by rw [g1]) (by rw [g2])]
     have hmv := shiftR_moved p.2 c.2 q.2
     have hsz := @shift_sizes p.2 c.2 q.2
     generalize shiftR p.2 c.2 q.2 = t at *
     obtain ⟨v1, v2, v3⟩ := hmv.val hp.2 hc.2 hq.2
     have z1 := enc_size_le t.1
     unfold g29_9 g29_13
     simp only [hwm, hwp, hwa, g0, g1, g2, ll]
     rw [idx_ok (by omega) (by omega), strEq_enc hp.2 v1]
     by_cases he : t.1 = p.2
     ·rw [if_pos he, biF (by simp [he])]
      exact skip
     ·rw [if_neg he, biT (by simp; exact fun h => he h.symm)]
      by_cases h0 : t.1 = []
      ·
       rw [if_pos h0, biF (by have := @size_ne_zero t.1; rw [Bool.eq_false_iff]; exact fun h => (this.1 h) h0)]
       have h2 : t.2.2 ≠ [] := fun h2 => by
        have := hmv.out
        rw [h0, h2] at this
        have := (List.append_eq_nil_iff.1 this.symm).1
        exact he (by rw [h0, this])
       have hsp := splice_ok n hn (M A.reverse ++ (p.1, enc p.2) :: (c.1, enc c.2) :: (q.1, enc q.2) :: M R) [] A.length 1 (by rw [ll]; omega) (by rw [ll]; omega) (by simp)
       have ht : (M A.reverse ++ (p.1, enc p.2) :: (c.1, enc c.2) :: (q.1, enc q.2) :: M R).take A.length = M A.reverse := by rw [← hAl, List.take_left']; rfl
       have hd : (M A.reverse ++ (p.1, enc p.2) :: (c.1, enc c.2) :: (q.1, enc q.2) :: M R).drop (A.length + 1) = (c.1, enc c.2) :: (q.1, enc q.2) :: M R := by
        have : M A.reverse ++ (p.1, enc p.2) :: (c.1, enc c.2) :: (q.1, enc q.2) :: M R = (M A.reverse ++ [(p.1, enc p.2)]) ++ (c.1, enc c.2) :: (q.1, enc q.2) :: M R := by simp
        rw [this, show A.length + 1 = (M A.reverse ++ [(p.1, enc p.2)]).length by simp [hAl], List.drop_left']; rfl
       rw [ht, hd, List.append_nil] at hsp
       rw [show (1 : Int) = ((1 : Nat) : Int) from rfl, hsp, Option.bind_some]
       simp only [g0, g1, s0, s1, ll2, show ((1 : Nat) : Int) = (1 : Int) from rfl, hwa]
       rw [idx_ok (by omega) (by omega), biT (size_ne_zero.2 h2), idx_ok (by omega) (by omega)]
       have := ih ((c.1, t.2.1) :: (q.1, t.2.2) :: R).length (by rw [← hk]; simp) ((c.1, t.2.1) :: (q.1, t.2.2) :: R) A m rfl (by simp at hk ⊢; omega) hA (Ok.cons' ⟨hc.1, v2⟩ (Ok.cons' ⟨hq.1, v3⟩ hR')) (by simp at hl ⊢; omega) (by simp only [allR_cons]; omega)
       rw [← this]
       have e : M (A.reverse ++ (c.1, t.2.1) :: (q.1, t.2.2) :: R) = M A.reverse ++ (c.1, enc t.2.1) :: (q.1, enc t.2.2) :: M R := by
        simp [M_append, M_cons, M_nil]
       rw [e]
      ·rw [if_neg h0, biT (size_ne_zero.2 h0)]
       simp only [s0, g0, g1, g2, ll, s1, s2]
       rw [idx_ok (by omega) (by omega), idx_ok (by omega) (by omega)]
       by_cases h2 : t.2.2 = []
       ·rw [if_pos h2, biF (by have := @size_ne_zero t.2.2; rw [Bool.eq_false_iff]; exact fun h => (this.1 h) h2)]
        rw [hwq, bnd_ok (by omega) (by omega) (by omega), bnd_ok (by omega) (by omega) (by omega)]
        have c1 : cut (M A.reverse ++ (p.1, enc t.1) :: (c.1, enc t.2.1) :: (q.1, enc q.2) :: M R) 0 (0 + (((A.length + 2 : Nat) : Int) - 0)) = M A.reverse ++ [(p.1, enc t.1), (c.1, enc t.2.1)] := by
         rw [cut_from, show (0 + (((A.length + 2 : Nat) : Int) - 0)).toNat = (M A.reverse ++ [(p.1, enc t.1), (c.1, enc t.2.1)]).length by simp [hAl]; omega]
         have : M A.reverse ++ (p.1, enc t.1) :: (c.1, enc t.2.1) :: (q.1, enc q.2) :: M R = (M A.reverse ++ [(p.1, enc t.1), (c.1, enc t.2.1)]) ++ (q.1, enc q.2) :: M R := by simp
         rw [this]; exact List.take_left
        have c2 : cut (M A.reverse ++ (p.1, enc t.1) :: (c.1, enc t.2.1) :: (q.1, enc q.2) :: M R) ((A.length + 3 : Nat) : Int) (((A.length + 3 : Nat) : Int) + (((A.length + 3 + R.length : Nat) : Int) - ((A.length + 3 : Nat) : Int))) = M R := by
         rw [cut_to _ _ _ (by rw [ll]; omega), Int.toNat_natCast]
         have : M A.reverse ++ (p.1, enc t.1) :: (c.1, enc t.2.1) :: (q.1, enc q.2) :: M R = (M A.reverse ++ [(p.1, enc t.1), (c.1, enc t.2.1), (q.1, enc q.2)]) ++ M R := by simp
         rw [this, show A.length + 3 = (M A.reverse ++ [(p.1, enc t.1), (c.1, enc t.2.1), (q.1, enc q.2)]).length by simp [hAl], List.drop_left']; rfl
        rw [c1, c2, roomy_ok (by simp [M_length]; omega)]
        have := ih ((p.1, t.1) :: (c.1, t.2.1) :: R).length (by rw [← hk]; simp) ((p.1, t.1) :: (c.1, t.2.1) :: R) A m rfl (by simp at hk ⊢; omega) hA (Ok.cons' ⟨hp.1, v1⟩ (Ok.cons' ⟨hc.1, v2⟩ hR')) (by simp at hl ⊢; omega) (by simp only [allR_cons]; omega)
        rw [← this]
        have e : M (A.reverse ++ (p.1, t.1) :: (c.1, t.2.1) :: R) = M A.reverse ++ [(p.1, enc t.1), (c.1, enc t.2.1)] ++ M R := by
         simp [M_append, M_cons, M_nil]
        rw [e]
       ·rw [if_neg h2, biT (size_ne_zero.2 h2), idx_ok (by omega) (by omega)]
        have := ih ((c.1, t.2.1) :: (q.1, t.2.2) :: R).length (by rw [← hk]; simp) ((c.1, t.2.1) :: (q.1, t.2.2) :: R) ((p.1, t.1) :: A) m rfl (by simp at hk ⊢; omega) (Ok.cons' ⟨hp.1, v1⟩ hA) (Ok.cons' ⟨hc.1, v2⟩ (Ok.cons' ⟨hq.1, v3⟩ hR')) (by simp at hl ⊢; omega) (by simp only [allR_cons]; omega)
        rw [← this]
        have e : M (((p.1, t.1) :: A).reverse ++ (c.1, t.2.1) :: (q.1, t.2.2) :: R) = M A.reverse ++ (p.1, enc t.1) :: (c.1, enc t.2.1) :: (q.1, enc t.2.2) :: M R := by
         simp [M_append, M_cons, M_nil]
        rw [e]; rfl
    ·rw [if_neg (fun h => hq0 h.2)]
     exact plain _ (by simpa using hq0)
   ·rw [biF (by simpa using hp0), if_neg (fun h => hp0 h.1)]
    exact plain _ rfl
theorem lossless_ok (n : Nat) (hn : Big ≤ n) (p0) (x : List Rp) (hx : Ok x) (hl : x.length ≤ 1000000) (ha : allR x ≤ 10000000) : g29 n p0 (M x) = some (M (lossless x), ()) := by
 have hB : (4611686018427387904 : Nat) ≤ n := hn
 dsimp only [g29, g29_20, g29_1]
 have := loss_loop n hn (fun x1 => some (x1, ())) p0 x.length x [] n rfl (by omega) Ok.nil hx (by simpa using hl) (by simpa [allR] using ha)
 exact this
end Go.Proofs.YticibdjilmclgaaGreatDoorZF
namespace Go.Proofs.YticibdjilmclgaaGreatDoorZF
open Go
set_option linter.unusedVariables false
set_option linter.unusedSimpArgs false
theorem dfLossless_ok (n : Nat) (hn : Big ≤ n) (x : List Rp) (hx : Ok x) (hl : x.length ≤ 1000000) (ha : allR x ≤ 10000000) : g9 n (M x) = some (M (lossless x), ()) := by
 dsimp only [g9, g9_1, g17, g17_1, g17_2]
 have h1 : g30 n (M x) = some (M x, ()) := made_ok n hn x hl hx
 have hi := @lossless_inv x
 have h2 : g27 n (M (lossless x)) = some (M (lossless x), ()) := list_ok n hn (lossless x) (by have := hi.2.2.2.2.1; omega) (hi.2.2.2.1 hx)
 obtain ⟨p, hp⟩ : ∃ p, g28 n = some (p, ()) := ⟨_, rfl⟩
 rw [bind_some' hp, bind_some' h1]
 simp only
 rw [bind_some' (lossless_ok n hn p x hx hl ha)]
 simp only
 rw [bind_some' h2]
 rfl
end Go.Proofs.YticibdjilmclgaaGreatDoorZF
namespace Go.Proofs.YticibdjilmclgaaGreatDoorZF
open Go
set_option linter.unusedVariables false
set_option linter.unusedSimpArgs false
structure Flat (y : List Int) : Prop where
 asc : Asc y
 cr : ∀ b ∈ y, b ≠ 13
 two : ∀ i : Nat, ¬ (y[i]? = some 10 ∧ y[i + 1]? = some 10)
theorem Tame.flat {y : List Int} (h : Tame y) : Flat y := by
 refine ⟨h.asc, h.cr, fun i ⟨h1, h2⟩ => ?_⟩
 obtain ⟨k1, e1⟩ := List.getElem?_eq_some_iff.1 h1
 obtain ⟨k2, e2⟩ := List.getElem?_eq_some_iff.1 h2
 refine h.two (y.take i) (y.drop (i + 2)) ?_
 have : y.drop i = 10 :: 10 :: y.drop (i + 2) := by
  rw [List.drop_eq_getElem_cons k1, e1, List.drop_eq_getElem_cons k2, e2]
 rw [← this, List.take_append_drop]
theorem Flat.mid {u z v : List Int} (h : Flat (u ++ z ++ v)) : Flat z := by
 refine ⟨h.asc.sub fun b hb => by simp [hb], fun b hb => h.cr b (by simp [hb]), fun i ⟨h1, h2⟩ => h.two (u.length + i) ?_⟩
 have k1 := (List.getElem?_eq_some_iff.1 h1).1
 have k2 := (List.getElem?_eq_some_iff.1 h2).1
 constructor
 ·rw [List.append_assoc, List.getElem?_append_right (by omega), List.getElem?_append_left (by omega), show u.length + i - u.length = i by omega]; exact h1
 ·rw [List.append_assoc, List.getElem?_append_right (by omega), List.getElem?_append_left (by omega), show u.length + i + 1 - u.length = i + 1 by omega]; exact h2
theorem Flat.left {u z : List Int} (h : Flat (u ++ z)) : Flat u := Flat.mid (u := []) (v := z) h
theorem Flat.right {u z : List Int} (h : Flat (u ++ z)) : Flat z := Flat.mid (u := u) (v := []) (by rw [List.append_nil]; exact h)
theorem Flat.ins {u v : List Int} (h : Flat (u ++ v)) {c : Int} (h0 : 0 ≤ c ∧ c < 128) (h1 : c ≠ 10) (h2 : c ≠ 13) : Flat (u ++ c :: v) := by
 refine ⟨fun b hb => ?_, fun b hb => ?_, fun i ⟨k1, k2⟩ => ?_⟩
 ·rcases List.mem_append.1 hb with hb | hb
  ·exact h.asc b (by simp [hb])
  ·rcases List.mem_cons.1 hb with rfl | hb
   ·exact h0
   ·exact h.asc b (by simp [hb])
 ·rcases List.mem_append.1 hb with hb | hb
  ·exact h.cr b (by simp [hb])
  ·rcases List.mem_cons.1 hb with rfl | hb
   ·exact h2
   ·exact h.cr b (by simp [hb])
 ·by_cases a1 : i + 1 < u.length
  ·rw [List.getElem?_append_left (by omega)] at k1 k2
   exact h.two i ⟨by rw [List.getElem?_append_left (by omega)]; exact k1, by rw [List.getElem?_append_left (by omega)]; exact k2⟩
  ·by_cases a2 : i + 1 = u.length
   ·rw [List.getElem?_append_right (by omega), show i + 1 - u.length = 0 by omega] at k2
    simp at k2; exact h1 k2
   ·by_cases a3 : i = u.length
    ·rw [List.getElem?_append_right (by omega), show i - u.length = 0 by omega] at k1
     simp at k1; exact h1 k1
    ·obtain ⟨j, rfl⟩ : ∃ j, i = u.length + 1 + j := ⟨i - u.length - 1, by omega⟩
     rw [List.getElem?_append_right (by omega), show u.length + 1 + j - u.length = j + 1 by omega, List.getElem?_cons_succ] at k1
     rw [List.getElem?_append_right (by omega), show u.length + 1 + j + 1 - u.length = (j + 1) + 1 by omega, List.getElem?_cons_succ] at k2
     exact h.two (u.length + j) ⟨by rw [List.getElem?_append_right (by omega), show u.length + j - u.length = j by omega]; exact k1, by rw [List.getElem?_append_right (by omega), show u.length + j + 1 - u.length = j + 1 by omega]; exact k2⟩
theorem Flat.blankE {y : List Int} (h : Flat y) : blankE y = false := by
 unfold Go.Proofs.YticibdjilmclgaaGreatDoorZF.blankE
 rw [Bool.or_eq_false_iff]
 refine ⟨decide_eq_false ?_, decide_eq_false ?_⟩
 ·rintro ⟨t, rfl⟩
  refine h.two t.length ⟨?_, ?_⟩
  ·rw [List.getElem?_append_right (by omega)]; simp
  ·rw [List.getElem?_append_right (by omega)]; simp
 ·rintro ⟨t, rfl⟩
  exact h.cr 13 (by simp) rfl
theorem wholeJ_asc : ∀ (r : List Int) (k : Nat), Asc r → k ≤ r.length → wholeJ r k = k
 | [], k, _, h => by simp at h; subst h; rfl
 | c :: r, k, ha, h => by
  have hc := ha c (by simp)
  have e := congrArg List.length (encode_asc hc)
  rw [bytesOf_length] at e
  simp only [List.length_cons, List.length_nil] at e h
  rw [wholeJ, e]
  cases k with
  | zero => rw [if_neg (by omega)]
  | succ k => rw [if_pos (by omega), show k + 1 - (0 + 1) = k by omega, wholeJ_asc r k (ha.sub fun b hb => by simp [hb]) (by omega)]; omega
theorem startR_asc {a s b : List Int} (ha : Asc a) : startR a s b = (a.take (a.length - csl a s), s.drop (s.length - csl a s) ++ s.take (s.length - csl a s), s.drop (s.length - csl a s) ++ b) := by
 have l1 := csl_le_left a s
 unfold startR
 rw [wholeJ_asc a.reverse (csl a s) (ha.sub fun b hb => by simpa using hb) (by simpa using l1)]
 dsimp only
 rw [csl_drop a s]
theorem cutS_asc {x : List Int} (h : Asc x) (i j : Int) (h0 : 0 ≤ i) (h1 : i ≤ j) (h2 : j ≤ x.length) : cutS (enc x) i j = enc (cut x i j) := by
 have hc : Asc (cut x i j) := h.sub fun b hb => List.mem_of_mem_drop (List.mem_of_mem_take hb)
 apply bytesOf_inj
 rw [bytesOf_cutS, bytes_enc h, bytes_enc hc]
end Go.Proofs.YticibdjilmclgaaGreatDoorZF
namespace Go.Proofs.YticibdjilmclgaaGreatDoorZF
open Go
set_option linter.unusedVariables false
set_option linter.unusedSimpArgs false
theorem specSuffix_ok (n : Nat) (hn : Big ≤ n) (x y : List Int) (hx : x.length ≤ 1000000000000) (hy : y.length ≤ 1000000000000) : g31 n x y = some ((csl x y : Int), ()) := by
 have key : ∀ (d i m : Nat), x.length - i = d → i ≤ x.length → d < m → g31_3L n (fun v5 => g31_5 n (fun v4 => some (v4, ())) v5) m x y (i : Int) = some (((i + cpl (x.reverse.drop i) (y.reverse.drop i) : Nat) : Int), ()) := by
  intro d
  induction d with
  | zero =>
   intro i m hd hi hm
   obtain ⟨m, rfl⟩ : ∃ m', m = m' + 1 := ⟨m - 1, by omega⟩
   rw [g31_3L.eq_2, g31_2, bdF (by omega), cpl_end _ _ i (by simp; omega)]
   rfl
  | succ d ih =>
   intro i m hd hi hm
   obtain ⟨m, rfl⟩ : ∃ m', m = m' + 1 := ⟨m - 1, by omega⟩
   rw [g31_3L.eq_2, g31_2, bdT (by omega)]
   by_cases hy' : i < y.length
   ·rw [bdT (by omega), w64_id (n := (x.length : Int) - 1) (by omega) (by omega), w64_id (n := (y.length : Int) - 1) (by omega) (by omega), w64_id (n := (x.length : Int) - 1 - i) (by omega) (by omega), w64_id (n := (y.length : Int) - 1 - i) (by omega) (by omega), idx_ok (by omega) (by omega), idx_ok (by omega) (by omega), show (x.length : Int) - 1 - i = ((x.length - 1 - i : Nat) : Int) by omega, show (y.length : Int) - 1 - i = ((y.length - 1 - i : Nat) : Int) by omega, rd_nat, rd_nat, cpl_at x.reverse y.reverse i (by simp; omega) (by simp; omega), rev_getD x i (by omega), rev_getD y i (by omega)]
    by_cases e : x.getD (x.length - 1 - i) 0 = y.getD (y.length - 1 - i) 0
    ·rw [biT (by simpa using e), if_pos e, w64_id (by omega) (by omega)]
     have := ih (i + 1) m (by omega) (by omega) (by omega)
     rw [show ((i : Int) + 1) = ((i + 1 : Nat) : Int) by omega, this]
     congr 3; omega
    ·rw [biF (by simpa using e), if_neg e]; rfl
   ·rw [bdF (by omega), cpl_end _ _ i (by simp; omega)]; rfl
 have := key x.length 0 n (by omega) (by omega) (by unfold Big at hn; omega)
 simp only [List.drop_zero, Nat.zero_add, Int.natCast_zero] at this
 exact this
end Go.Proofs.YticibdjilmclgaaGreatDoorZF
namespace Go.Proofs.YticibdjilmclgaaGreatDoorZF
open Go
set_option linter.unusedVariables false
set_option linter.unusedSimpArgs false
theorem specLetter_ok (n : Nat) (c : Int) : g49 n c = some (letter c, ()) := by
 dsimp only [g49, g49_1, letter]
 by_cases h1 : 97 ≤ c <;> by_cases h2 : c ≤ 122 <;> by_cases h3 : 65 ≤ c <;> by_cases h4 : c ≤ 90 <;> by_cases h5 : 48 ≤ c <;> by_cases h6 : c ≤ 57 <;> first | omega | (simp [h1, h2, h3, h4, h5, h6]; done) | (simp [h1, h2, h3, h4, h5, h6]; omega)
theorem specSpace_ok (n : Nat) (c : Int) : g50 n c = some (space c, ()) := by
 dsimp only [g50, g50_1, space]
 have e : ∀ k : Int, ¬ c = k → (c == k) = false := fun k h => beq_false_of_ne h
 by_cases h1 : c = 32
 ·subst h1; rfl
 by_cases h2 : c = 9
 ·subst h2; rfl
 by_cases h3 : c = 10
 ·subst h3; rfl
 by_cases h4 : c = 13
 ·subst h4; rfl
 by_cases h5 : c = 12
 ·subst h5; rfl
 simp [e _ h1, e _ h2, e _ h3, e _ h4, e _ h5, h1, h2, h3, h4, h5]
theorem brk_eq (c : Int) : brk c = (c == 10 || c == 13) := by
 unfold brk
 by_cases h3 : c = 10 <;> by_cases h4 : c = 13 <;> simp_all
theorem last_at {u : List Int} {t : List Int} (h : Asc (u ++ t)) (i : Nat) (hi : i < t.length) (k : Int) (hk : k = ((u.length + i : Nat) : Int)) : byteAt (enc (u ++ t)) k = t[i] := by
 subst hk
 rw [Asc.byteAt h (by simp; omega), List.getElem_append_right (by omega)]
 congr 1; omega
theorem blankEndF_ok (n : Nat) (x : List Int) (hx : Flat x) (hl : x.length ≤ 1000) : g47 n (enc x) = some (false, ()) := by
 dsimp only [g47, g47_1]
 rw [hx.asc.size]
 rcases List.eq_nil_or_concat x with rfl | ⟨u, b, rfl⟩
 ·rw [bdF (by simp)]
 ·rcases List.eq_nil_or_concat u with rfl | ⟨u, a, rfl⟩
  ·rw [bdF (by simp)]
  ·simp only [List.concat_eq_append, List.append_assoc, List.cons_append, List.nil_append] at hx hl ⊢
   have hlen : (u ++ [a, b]).length = u.length + 2 := by simp
   have h13 : a ≠ 13 := hx.cr a (by simp)
   have h2 : ¬ (a = 10 ∧ b = 10) := fun ⟨h1, h2⟩ => hx.two u.length (by
    rw [List.getElem?_append_right (by omega), List.getElem?_append_right (by omega), h1, h2]; simp)
   rw [hlen] at hl ⊢
   rw [bdT (by omega), w64_id (n := ((u.length + 2 : Nat) : Int) - 1) (by omega) (by omega), w64_id (n := ((u.length + 2 : Nat) : Int) - 2) (by omega) (by omega), idx_ok (by omega) (by omega), last_at hx.asc 1 (by simp) _ (by omega), last_at hx.asc 0 (by simp) _ (by omega)]
   simp only [List.getElem_cons_succ, List.getElem_cons_zero, idx_ok (show (0 : Int) ≤ ((u.length + 2 : Nat) : Int) - 2 by omega) (show ((u.length + 2 : Nat) : Int) - 2 < ((u.length + 2 : Nat) : Int) by omega)]
   by_cases hb : b = 10
   ·rw [biT (by simp [hb]), biF (by simp; exact fun h => h2 ⟨h, hb⟩)]
    by_cases hu : ((u.length + 2 : Nat) : Int) > 2
    ·rw [bdT hu, biF (by simp [h13])]
    ·rw [bdF hu]
   ·rw [biF (by simp [hb])]
theorem tail_enc {b : Int} {t : List Int} (h : Asc (b :: t)) : cutS (enc (b :: t)) 1 ((enc (b :: t)).size : Int) = enc t := by
 have hs := h.size
 rw [cutS_asc h _ _ (by omega) (by rw [hs]; simp; omega) (by rw [hs]; omega)]
 congr 1
 rw [cut_to _ _ _ (by rw [hs]; omega)]; rfl
theorem blankBeginF_ok (n : Nat) (hn : Big ≤ n) (y : List Int) (hy : Flat y) : g48 n (enc y) = some (false, ()) := by
 obtain ⟨m, rfl⟩ : ∃ m, n = m + 2 := ⟨n - 2, by unfold Big at hn; omega⟩
 have none_ : strEq (enc []) (⟨#[]⟩ : ByteArray) = true := by rw [← enc_nil, strEq_enc Valids.nil Valids.nil]; simp
 have some_ : ∀ (c : Int) (t : List Int), Asc (c :: t) → strEq (enc (c :: t)) (⟨#[]⟩ : ByteArray) = false := fun c t h => by rw [← enc_nil, strEq_enc h.valids Valids.nil]; simp
 have at0 : ∀ (c : Int) (t : List Int), Asc (c :: t) → byteAt (enc (c :: t)) 0 = c := fun c t h => h.byteAt (i := 0) (by simp)
 dsimp only [g48, g48_6, g48_5, g48_4, g48_3, g48_1]
 rw [g48_3L.eq_2, g48_2, bdT (by omega)]
 match y, hy with
 | [], hy => rw [none_]; simp
 | b :: t, hy =>
  have hs := hy.asc.size
  simp only [List.length_cons] at hs
  have h13 : (b == 13) = false := by simp [hy.cr b (by simp)]
  rw [some_ b t hy.asc, at0 b t hy.asc, h13]
  simp only [Bool.not_false, cond_true, cond_false]
  rw [idx_ok (by omega) (by omega), idx_ok (by omega) (by omega)]
  by_cases hb : b = 10
  ·rw [biF (by simp [hb]), bnd_ok (by omega) (by omega) (by omega), tail_enc hy.asc, w64_id (by omega) (by omega), g48_3L.eq_2, g48_2, bdT (by omega)]
   match t, hy, hs with
   | [], hy, hs => rw [none_]; simp
   | c :: t, hy, hs =>
    have hy2 : Flat (c :: t) := Flat.right (u := [b]) hy
    have hs2 := hy2.asc.size
    simp only [List.length_cons] at hs2
    have c13 : (c == 13) = false := by simp [hy2.cr c (by simp)]
    have c10 : c ≠ 10 := fun h => hy.two 0 (by subst h; subst hb; simp)
    rw [some_ c t hy2.asc, at0 c t hy2.asc, c13]
    simp only [Bool.not_false, cond_true, cond_false]
    rw [idx_ok (by omega) (by omega), idx_ok (by omega) (by omega), biT (by simp [c10])]
  ·rw [biT (by simp [hb])]
theorem boundaryF_ok (n : Nat) (hn : Big ≤ n) (x y : List Int) (hx : Flat x) (hy : Flat y) (hl : x.length ≤ 1000) (hl2 : y.length ≤ 1000) : g32 n (enc x) (enc y) = some (scoreG x y, ()) := by
 dsimp only [g32, g32_7, g32_6, g32_5, g32_4, g32_3, g32_2, g32_1]
 rw [← enc_nil, strEq_enc hx.asc.valids Valids.nil, strEq_enc hy.asc.valids Valids.nil]
 rcases List.eq_nil_or_concat x with rfl | ⟨u, a, rfl⟩
 ·simp [scoreG]
 ·match y, hy with
  | [], hy => simp [scoreG]
  | b :: y, hy =>
   simp only [List.concat_eq_append] at *
   have hb0 : byteAt (enc (b :: y)) 0 = b := hy.asc.byteAt (i := 0) (by simp)
   have hs1 := hx.asc.size
   have hs2 := hy.asc.size
   simp only [List.length_cons, List.length_append, List.length_nil] at hs1 hs2 hl hl2
   rw [bdF (by simp), bdF (by simp), w64_id (by omega) (by omega), idx_ok (by omega) (by omega), idx_ok (by omega) (by omega), last_at hx.asc 0 (by simp) _ (by omega), hb0]
   have c1 : (u ++ [a]).getLastD 0 = a := by simp
   have e5 : scoreG (u ++ [a]) (b :: y) = scoreL false a b := by
    unfold scoreG
    rw [if_neg (by simp), c1, hx.blankE, hy.blankE, show (b :: y).headD 0 = b from rfl]
    simp
   rw [e5]
   simp only [blankEndF_ok n _ hx (by simp; omega), blankBeginF_ok n hn _ hy, specLetter_ok, specSpace_ok, Option.bind_some, List.getElem_cons_zero]
   have a13 : (a == 13) = false := by simp [hx.cr a (by simp)]
   have b13 : (b == 13) = false := by simp [hy.cr b (by simp)]
   unfold scoreL
   rw [brk_eq a, brk_eq b, a13, b13]
   cases h1 : (a == 10) <;> cases h2 : (b == 10) <;> cases h3 : letter a <;> cases h4 : space a <;> cases h5 : letter b <;> cases h6 : space b <;> rfl
theorem scoreG_rangeF (x y : List Int) : 0 ≤ scoreG x y ∧ scoreG x y ≤ 6 := by
 unfold scoreG scoreL
 repeat' split
 all_goals omega
theorem walkF_ok (n : Nat) (hn : Big ≤ n) (kx : ByteArray → ByteArray → ByteArray → Option (DenR g19_R)) : ∀ (k : Nat) (a s b : List Int) (X : Tri) (best : Int) (m : Nat), b.length = k → k < m → Flat (a ++ s ++ b) → (a ++ s ++ b).length ≤ 1000 →
  g19_3L n kx m (enc a) (enc s) (enc b) (enc X.1) (enc X.2.1) (enc X.2.2) best = kx (enc (walkR a s b X best).1) (enc (walkR a s b X best).2.1) (enc (walkR a s b X best).2.2) := by
 intro k
 induction k with
 | zero =>
  intro a s b X best m hb hm hf hl
  obtain ⟨m, rfl⟩ : ∃ m', m = m' + 1 := ⟨m - 1, by omega⟩
  have := List.eq_nil_of_length_eq_zero hb
  subst this
  rw [g19_3L.eq_2, g19_2]
  have e : strEq (enc []) (⟨#[]⟩ : ByteArray) = true := by rw [← enc_nil, strEq_enc Valids.nil Valids.nil]; simp
  rw [e]
  have hw : walkR a s [] X best = X := by cases s <;> simp only [walkR]
  rw [hw]
  cases strEq (enc s) (⟨#[]⟩ : ByteArray) <;> simp
 | succ k ih =>
  intro a s b X best m hb hm hf hl
  obtain ⟨m, rfl⟩ : ∃ m', m = m' + 1 := ⟨m - 1, by omega⟩
  have e : strEq (enc []) (⟨#[]⟩ : ByteArray) = true := by rw [← enc_nil, strEq_enc Valids.nil Valids.nil]; simp
  have e' : ∀ (c : Int) (t : List Int), Asc (c :: t) → strEq (enc (c :: t)) (⟨#[]⟩ : ByteArray) = false := fun c t h => by rw [← enc_nil, strEq_enc h.valids Valids.nil]; simp
  match s, b, hb, hf, hl with
  | [], d :: b, hb, hf, hl =>
   rw [g19_3L.eq_2, g19_2, e]
   simp only [walkR]; simp
  | c :: s, d :: b, hb, hf, hl =>
   have fs : Flat (c :: s) := Flat.mid (u := a) (v := d :: b) hf
   have fb : Flat (d :: b) := hf.right
   have z1 := fs.asc.size
   have z2 := fb.asc.size
   have za := hf.left.left.asc.size
   simp only [List.length_cons, List.length_append] at z1 z2 hl
   have c0 : byteAt (enc (c :: s)) 0 = c := fs.asc.byteAt (i := 0) (by simp)
   have d0 : byteAt (enc (d :: b)) 0 = d := fb.asc.byteAt (i := 0) (by simp)
   have h1 : cutS (enc (c :: s)) 0 1 = enc [c] := by rw [cutS_asc fs.asc _ _ (by omega) (by omega) (by simp; omega), cut_from]; rfl
   have o1 : (enc [c]).size = 1 := (Asc.size (fs.asc.sub fun x hx => by simp at hx; simp [hx]))
   have o2 : (enc s).size = s.length := Asc.size (fs.asc.sub fun x hx => by simp [hx])
   rw [g19_3L.eq_2, g19_2, e' c s fs.asc, e' d b fb.asc, c0, d0, h1, tail_enc fs.asc, tail_enc fb.asc]
   simp only [Bool.not_false, cond_true]
   rw [idx_ok (by omega) (by omega), idx_ok (by omega) (by omega), walkR]
   by_cases hcd : c = d
   ·subst hcd
    have hmv : a ++ [c] ++ (s ++ [c]) ++ b = a ++ (c :: s) ++ (c :: b) := by simp
    have ff : Flat (a ++ [c] ++ (s ++ [c]) ++ b) := by rw [hmv]; exact hf
    have q1 : enc a ++ enc [c] = enc (a ++ [c]) := (enc_append a [c]).symm
    have q2 : enc s ++ enc [c] = enc (s ++ [c]) := (enc_append s [c]).symm
    have r1 := scoreG_rangeF (a ++ [c]) (s ++ [c])
    have r2 := scoreG_rangeF (s ++ [c]) b
    rw [biT (by simp), if_pos rfl, bnd_ok (by omega) (by omega) (by omega), roomy_ok (by omega), bnd_ok (by omega) (by omega) (by omega), roomy_ok (by omega), bnd_ok (by omega) (by omega) (by omega), q1, q2]
    rw [boundaryF_ok n hn _ _ ff.left.left (Flat.mid (u := a ++ [c]) (v := b) ff) (by simp; omega) (by simp; omega), Option.bind_some, boundaryF_ok n hn _ _ (Flat.mid (u := a ++ [c]) (v := b) ff) ff.right (by simp; omega) (by omega), Option.bind_some]
    simp only
    rw [w64_id (by omega) (by omega)]
    split
    ·rename_i h
     rw [bdT h]
     exact ih (a ++ [c]) (s ++ [c]) b (a ++ [c], s ++ [c], b) _ m (by simpa using hb) (by omega) ff (by simp; omega)
    ·rename_i h
     rw [bdF h]
     exact ih (a ++ [c]) (s ++ [c]) b X best m (by simpa using hb) (by omega) ff (by simp; omega)
   ·rw [biF (by simp [hcd]), if_neg hcd]
theorem shiftedF_ok (n : Nat) (hn : Big ≤ n) (a s b : List Int) (hf : Flat (a ++ s ++ b)) (hl : (a ++ s ++ b).length ≤ 1000) : g19 n (enc a) (enc s) (enc b) = some (enc (shiftR a s b).1, (enc (shiftR a s b).2.1, (enc (shiftR a s b).2.2, ()))) := by
 have hB : (4611686018427387904 : Nat) ≤ n := hn
 have fa := hf.left.left
 have fs : Flat s := Flat.mid (u := a) (v := b) hf
 have fb := hf.right
 have l1 := csl_le_left a s
 have l2 := csl_le_right a s
 have za := fa.asc.size
 have zs := fs.asc.size
 have zb := fb.asc.size
 have hst := startR_asc (a := a) (s := s) (b := b) fa.asc
 have hmv := (startR_moved a s b).all
 have hml := (startR_moved a s b).len
 simp only [List.length_append] at hl
 dsimp only [g19, g19_6, g19_5, g19_4, g19_3, g19_1]
 rw [runesOk_enc n a fa.asc.valids (by omega), Option.bind_some, runesOk_enc n s fs.asc.valids (by omega), Option.bind_some, specSuffix_ok n hn a s (by omega) (by omega), Option.bind_some]
 simp only [za, zs, zb]
 have w1 : w64 ((s.length : Int) - (csl a s : Int)) = ((s.length - csl a s : Nat) : Int) := by rw [w64_id (by omega) (by omega)]; omega
 have w2 : w64 ((a.length : Int) - (csl a s : Int)) = ((a.length - csl a s : Nat) : Int) := by rw [w64_id (by omega) (by omega)]; omega
 rw [w1, w2, bnd_ok (by omega) (by omega) (by omega), bnd_ok (by omega) (by omega) (by omega), bnd_ok (by omega) (by omega) (by omega)]
 have k1 : cutS (enc s) ((s.length - csl a s : Nat) : Int) (s.length : Int) = enc (s.drop (s.length - csl a s)) := by
  rw [cutS_asc fs.asc _ _ (by omega) (by omega) (by omega), cut_to _ _ _ (by omega), Int.toNat_natCast]
 have k2 : cutS (enc s) 0 ((s.length - csl a s : Nat) : Int) = enc (s.take (s.length - csl a s)) := by
  rw [cutS_asc fs.asc _ _ (by omega) (by omega) (by omega), cut_from, Int.toNat_natCast]
 have k3 : cutS (enc a) 0 ((a.length - csl a s : Nat) : Int) = enc (a.take (a.length - csl a s)) := by
  rw [cutS_asc fa.asc _ _ (by omega) (by omega) (by omega), cut_from, Int.toNat_natCast]
 have z1 := enc_size_le (s.drop (s.length - csl a s))
 have z2 := enc_size_le (s.take (s.length - csl a s))
 simp only [List.length_drop, List.length_take] at z1 z2
 rw [k1, k2, k3, roomy_ok (by omega), roomy_ok (by omega), ← enc_append, ← enc_append]
 unfold shiftR
 rw [hst] at hmv hml ⊢
 generalize a.take (a.length - csl a s) = A0 at *
 generalize s.drop (s.length - csl a s) ++ s.take (s.length - csl a s) = S0 at *
 generalize s.drop (s.length - csl a s) ++ b = B0 at *
 simp only at hmv hml ⊢
 have ff : Flat (A0 ++ S0 ++ B0) := by rw [hmv]; exact hf
 have hlen := congrArg List.length hmv
 simp only [List.length_append] at hlen
 rw [boundaryF_ok n hn A0 S0 ff.left.left (Flat.mid (u := A0) (v := B0) ff) (by omega) (by omega), Option.bind_some, boundaryF_ok n hn S0 B0 (Flat.mid (u := A0) (v := B0) ff) ff.right (by omega) (by omega), Option.bind_some]
 have r1 := scoreG_rangeF A0 S0
 have r2 := scoreG_rangeF S0 B0
 simp only
 rw [w64_id (by omega) (by omega)]
 exact walkF_ok n hn _ B0.length A0 S0 B0 (A0, S0, B0) _ n rfl (by omega) ff (by simp only [List.length_append]; omega)
end Go.Proofs.YticibdjilmclgaaGreatDoorZF
namespace Go.Proofs.YticibdjilmclgaaGreatDoorZF
open Go
set_option linter.unusedVariables false
set_option linter.unusedSimpArgs false
set_option maxRecDepth 100000
theorem flat_three {A R : List Rp} {p c q : Rp} (hp : p.1 = 0) (hq : q.1 = 0) (hs : Flat (srcR (A.reverse ++ p :: c :: q :: R))) (ht : Flat (tgtR (A.reverse ++ p :: c :: q :: R))) : Flat (p.2 ++ c.2 ++ q.2) := by
 by_cases hc : c.1 = 1
 ·have e : tgtR (A.reverse ++ p :: c :: q :: R) = tgtR A.reverse ++ (p.2 ++ c.2 ++ q.2) ++ tgtR R := by
   rw [tgtR_append]; simp [tgtR, hp, hq, hc]
  rw [e] at ht
  exact ht.mid
 ·have e : srcR (A.reverse ++ p :: c :: q :: R) = srcR A.reverse ++ (p.2 ++ c.2 ++ q.2) ++ srcR R := by
   rw [srcR_append]; simp [srcR, hp, hq, hc]
  rw [e] at hs
  exact hs.mid
theorem shift_texts {A R : List Rp} {p c q : Rp} (hp : p.1 = 0) (hq : q.1 = 0) {t : Tri} (hm : Moved p.2 c.2 q.2 t) {A' R' : List Rp}
  (h1 : srcR (A'.reverse ++ R') = srcR A.reverse ++ (t.1 ++ (if c.1 = 1 then [] else t.2.1) ++ t.2.2) ++ srcR R) (h2 : tgtR (A'.reverse ++ R') = tgtR A.reverse ++ (t.1 ++ (if c.1 = -1 then [] else t.2.1) ++ t.2.2) ++ tgtR R) :
  srcR (A'.reverse ++ R') = srcR (A.reverse ++ p :: c :: q :: R) ∧ tgtR (A'.reverse ++ R') = tgtR (A.reverse ++ p :: c :: q :: R) := by
 have ho := hm.out
 have hall := hm.all
 constructor
 ·rw [h1, srcR_append]
  simp only [srcR, hp, hq, if_neg (show ¬ (0 : Int) = 1 by decide)]
  by_cases hc : c.1 = 1
  ·simp only [hc, if_true, List.append_nil, List.nil_append]
   rw [ho]; simp
  ·simp only [hc, if_false]
   rw [hall]; simp
 ·rw [h2, tgtR_append]
  simp only [tgtR, hp, hq, if_neg (show ¬ (0 : Int) = -1 by decide)]
  by_cases hc : c.1 = -1
  ·simp only [hc, if_true, List.append_nil, List.nil_append]
   rw [ho]; simp
  ·simp only [hc, if_false]
   rw [hall]; simp
theorem specLoss_loop (n : Nat) (hn : Big ≤ n) (kx : List (Int × ByteArray) → Option (DenR g10_R)) : ∀ (k : Nat) (R A : List Rp) (m : Nat), R.length = k → k < m → Ok A → Ok R →
  A.length + R.length ≤ 1000000 → Flat (srcR (A.reverse ++ R)) → Flat (tgtR (A.reverse ++ R)) → (srcR (A.reverse ++ R)).length ≤ 500 → (tgtR (A.reverse ++ R)).length ≤ 500 →
  g10_10L n kx m (M (A.reverse ++ R)) ((A.length + 1 : Nat) : Int) = kx (M (lossF A R)) := by
 intro k
 induction k using Nat.strongRecOn with
 | _ k ih =>
  intro R A m hk hm hA hR hl hfs hft hls hlt
  obtain ⟨m, rfl⟩ : ∃ m', m = m' + 1 := ⟨m - 1, by omega⟩
  have hlm : (M (A.reverse ++ R)).length = A.length + R.length := by rw [M_length]; simp
  have hwp : w64 (((A.length + 1 : Nat) : Int) + 1) = ((A.length + 2 : Nat) : Int) := by rw [w64_id (by omega) (by omega)]; omega
  rw [g10_10L.eq_2]
  unfold g10_9 g10_2
  rw [hwp]
  by_cases h3 : R.length < 3
  ·rw [bdF (by omega)]
   have : lossF A R = A.reverse ++ R := by
    match R, h3 with
    | [], _ => unfold lossF; rfl
    | [p], _ => unfold lossF; rfl
    | [p, c], _ => unfold lossF; rfl
   rw [this]
  ·obtain ⟨p, c, q, R, rfl⟩ : ∃ p c q R', R = p :: c :: q :: R' := by
    match R, h3 with
    | [], h3 => simp at h3
    | [p], h3 => simp at h3
    | [p, c], h3 => simp at h3
    | p :: c :: q :: R, _ => exact ⟨p, c, q, R, rfl⟩
   have hRl : (p :: c :: q :: R).length = R.length + 3 := rfl
   have hp := hR.of_cons.1
   have hc := hR.of_cons.2.of_cons.1
   have hq := hR.of_cons.2.of_cons.2.of_cons.1
   have hR' := hR.of_cons.2.of_cons.2.of_cons.2
   have hx : M (A.reverse ++ p :: c :: q :: R) = M A.reverse ++ (p.1, enc p.2) :: (c.1, enc c.2) :: (q.1, enc q.2) :: M R := by rw [M_append]; rfl
   have hAl : (M A.reverse).length = A.length := by simp [M_length]
   have hwm : w64 (((A.length + 1 : Nat) : Int) - 1) = (A.length : Int) := by rw [w64_id (by omega) (by omega)]; omega
   have hwq : w64 (((A.length + 1 : Nat) : Int) + 2) = ((A.length + 3 : Nat) : Int) := by rw [w64_id (by omega) (by omega)]; omega
   have hwa : w64 ((A.length : Int) + 1) = ((A.length + 1 : Nat) : Int) := by rw [w64_id (by omega) (by omega)]; omega
   have g0 : ∀ (u : Prt) (l : List Prt), rd (M A.reverse ++ u :: l) (A.length : Int) ((0 : Int), (⟨#[]⟩ : ByteArray)) = u := fun u l => rd_mid (by rw [hAl])
   have g1 : ∀ (u v : Prt) (l : List Prt), rd (M A.reverse ++ u :: v :: l) ((A.length + 1 : Nat) : Int) ((0 : Int), (⟨#[]⟩ : ByteArray)) = v := fun u v l => by
    have : M A.reverse ++ u :: v :: l = (M A.reverse ++ [u]) ++ v :: l := by simp
    rw [this]; exact rd_mid (by simp [hAl])
   have g2 : ∀ (u v w : Prt) (l : List Prt), rd (M A.reverse ++ u :: v :: w :: l) ((A.length + 2 : Nat) : Int) ((0 : Int), (⟨#[]⟩ : ByteArray)) = w := fun u v w l => by
    have : M A.reverse ++ u :: v :: w :: l = (M A.reverse ++ [u, v]) ++ w :: l := by simp
    rw [this]; exact rd_mid (by simp [hAl])
   have s0 : ∀ (u x : Prt) (l : List Prt), (M A.reverse ++ u :: l).set (A.length : Int).toNat x = M A.reverse ++ x :: l := fun u x l => set_mid (by rw [hAl]; omega)
   have s1 : ∀ (u v x : Prt) (l : List Prt), (M A.reverse ++ u :: v :: l).set ((A.length + 1 : Nat) : Int).toNat x = M A.reverse ++ u :: x :: l := fun u v x l => by
    have : M A.reverse ++ u :: v :: l = (M A.reverse ++ [u]) ++ v :: l := by simp
    rw [this, set_mid (by simp [hAl])]; simp
   have s2 : ∀ (u v w x : Prt) (l : List Prt), (M A.reverse ++ u :: v :: w :: l).set ((A.length + 2 : Nat) : Int).toNat x = M A.reverse ++ u :: v :: x :: l := fun u v w x l => by
    have : M A.reverse ++ u :: v :: w :: l = (M A.reverse ++ [u, v]) ++ w :: l := by simp
    rw [this, set_mid (by simp [hAl]; omega)]; simp
   have ll : ∀ u v w : Prt, (M A.reverse ++ u :: v :: w :: M R).length = A.length + 3 + R.length := fun u v w => by simp [M_length]; omega
   have ll2 : ∀ v w : Prt, (M A.reverse ++ v :: w :: M R).length = A.length + 2 + R.length := fun v w => by simp [M_length]; omega
   have hre : A.reverse ++ p :: c :: q :: R = (p :: A).reverse ++ c :: q :: R := by simp
   have skip : g10_10L n kx m (M A.reverse ++ (p.1, enc p.2) :: (c.1, enc c.2) :: (q.1, enc q.2) :: M R) ((A.length + 2 : Nat) : Int) = kx (M (lossF (p :: A) (c :: q :: R))) := by
    have := ih (c :: q :: R).length (by rw [← hk]; simp) (c :: q :: R) (p :: A) m rfl (by simp at hk ⊢; omega) (Ok.cons' hp hA) hR.of_cons.2 (by simp at hl ⊢; omega) (by rw [← hre]; exact hfs) (by rw [← hre]; exact hft) (by rw [← hre]; exact hls) (by rw [← hre]; exact hlt)
    rw [← this]
    have e : M ((p :: A).reverse ++ c :: q :: R) = M A.reverse ++ (p.1, enc p.2) :: (c.1, enc c.2) :: (q.1, enc q.2) :: M R := by
     simp [M_append, M_cons, M_nil]
    rw [e]; rfl
   rw [bdT (by omega)]
   unfold g10_7 g10_6 g10_3 g10_8
   simp only [hwm, hwp, hx, g0, g1, g2, ll]
   rw [idx_ok (by omega) (by omega), lossF]
   by_cases hp0 : p.1 = 0
   ·rw [biF (by simpa using hp0), idx_ok (by omega) (by omega)]
    by_cases hq0 : q.1 = 0
    ·rw [biF (by simpa using hq0), if_pos ⟨hp0, hq0⟩, idx_ok (by omega) (by omega), idx_ok (by omega) (by omega), idx_ok (by omega) (by omega)]
     have hf3 := flat_three hp0 hq0 hfs hft
     have hl3 : (p.2 ++ c.2 ++ q.2).length ≤ 1000 := by
      have e1 : srcR (A.reverse ++ p :: c :: q :: R) = srcR A.reverse ++ (p.2 ++ (if c.1 = 1 then [] else c.2) ++ q.2) ++ srcR R := by
       rw [srcR_append]; simp [srcR, hp0, hq0]
      have e2 : tgtR (A.reverse ++ p :: c :: q :: R) = tgtR A.reverse ++ (p.2 ++ (if c.1 = -1 then [] else c.2) ++ q.2) ++ tgtR R := by
       rw [tgtR_append]; simp [tgtR, hp0, hq0]
      rw [e1] at hls
      rw [e2] at hlt
      simp only [List.length_append] at hls hlt ⊢
      by_cases hc1 : c.1 = 1
      ·rw [if_neg (by omega)] at hlt; omega
      ·rw [if_neg hc1] at hls; omega
     rw [shiftedF_ok n hn p.2 c.2 q.2 hf3 hl3, Option.bind_some]
     have hmv := shiftR_moved p.2 c.2 q.2
     generalize shiftR p.2 c.2 q.2 = t at *
     obtain ⟨v1, v2, v3⟩ := hmv.val hp.2 hc.2 hq.2
     simp only
     rw [idx_ok (by omega) (by omega), strEq_enc v1 hp.2]
     by_cases he : t.1 = p.2
     ·rw [if_pos he, biT (by simp [he])]
      exact skip
     ·rw [if_neg he, biF (by simp [he])]
      simp only [s1, g2, ll, s2, g1, g0]
      rw [idx_ok (by omega) (by omega), idx_ok (by omega) (by omega), ← enc_nil, strEq_enc v3 Valids.nil]
      by_cases h0 : t.1 = []
      ·have h2 : t.2.2 ≠ [] := fun h2 => by
        have := hmv.out
        rw [h0, h2] at this
        have := (List.append_eq_nil_iff.1 this.symm).1
        exact he (by rw [h0, this])
       rw [if_pos h0, biF (by simp [h2])]
       unfold g10_4
       simp only [hwm, g0, s0, ll]
       rw [idx_ok (by omega) (by omega), ← enc_nil, strEq_enc v1 Valids.nil, biT (by simp [h0]), bnd_ok (by omega) (by omega) (by omega), bnd_ok (by omega) (by omega) (by omega)]
       have c1 : cut (M A.reverse ++ (p.1, enc t.1) :: (c.1, enc t.2.1) :: (q.1, enc t.2.2) :: M R) 0 (0 + ((A.length : Int) - 0)) = M A.reverse := by
        rw [cut_from, show (0 + ((A.length : Int) - 0)).toNat = (M A.reverse).length by rw [hAl]; omega]; exact List.take_left
       have c2 : cut (M A.reverse ++ (p.1, enc t.1) :: (c.1, enc t.2.1) :: (q.1, enc t.2.2) :: M R) ((A.length + 1 : Nat) : Int) (((A.length + 1 : Nat) : Int) + (((A.length + 3 + R.length : Nat) : Int) - ((A.length + 1 : Nat) : Int))) = (c.1, enc t.2.1) :: (q.1, enc t.2.2) :: M R := by
        rw [cut_to _ _ _ (by rw [ll]; omega), Int.toNat_natCast]
        have : M A.reverse ++ (p.1, enc t.1) :: (c.1, enc t.2.1) :: (q.1, enc t.2.2) :: M R = (M A.reverse ++ [(p.1, enc t.1)]) ++ (c.1, enc t.2.1) :: (q.1, enc t.2.2) :: M R := by simp
        rw [this, show A.length + 1 = (M A.reverse ++ [(p.1, enc t.1)]).length by simp [hAl]]; exact List.drop_left
       rw [c1, c2, roomy_ok (by simp [M_length]; omega)]
       unfold g10_5
       rw [← enc_nil, strEq_enc v3 Valids.nil, biF (by simp [h2])]
       simp only [hwa]
       have htx := shift_texts (A := A) (R := R) hp0 hq0 hmv (A' := A) (R' := (c.1, t.2.1) :: (q.1, t.2.2) :: R) (by simp only [srcR_append, srcR, hq0, h0, if_neg (show ¬ (0 : Int) = 1 by decide)]; simp) (by simp only [tgtR_append, tgtR, hq0, h0, if_neg (show ¬ (0 : Int) = -1 by decide)]; simp)
       have := ih ((c.1, t.2.1) :: (q.1, t.2.2) :: R).length (by rw [← hk]; simp) ((c.1, t.2.1) :: (q.1, t.2.2) :: R) A m rfl (by simp at hk ⊢; omega) hA (Ok.cons' ⟨hc.1, v2⟩ (Ok.cons' ⟨hq.1, v3⟩ hR')) (by simp at hl ⊢; omega) (by rw [htx.1]; exact hfs) (by rw [htx.2]; exact hft) (by rw [htx.1]; exact hls) (by rw [htx.2]; exact hlt)
       rw [← this]
       have e : M (A.reverse ++ (c.1, t.2.1) :: (q.1, t.2.2) :: R) = M A.reverse ++ (c.1, enc t.2.1) :: (q.1, enc t.2.2) :: M R := by
        simp [M_append, M_cons, M_nil]
       rw [e]
      ·rw [if_neg h0]
       by_cases h2 : t.2.2 = []
       ·rw [if_pos h2, biT (by simp [h2]), hwq, bnd_ok (by omega) (by omega) (by omega), bnd_ok (by omega) (by omega) (by omega)]
        have c1 : cut (M A.reverse ++ (p.1, enc p.2) :: (c.1, enc t.2.1) :: (q.1, enc t.2.2) :: M R) 0 (0 + (((A.length + 2 : Nat) : Int) - 0)) = M A.reverse ++ [(p.1, enc p.2), (c.1, enc t.2.1)] := by
         rw [cut_from, show (0 + (((A.length + 2 : Nat) : Int) - 0)).toNat = (M A.reverse ++ [(p.1, enc p.2), (c.1, enc t.2.1)]).length by simp [hAl]; omega]
         have : M A.reverse ++ (p.1, enc p.2) :: (c.1, enc t.2.1) :: (q.1, enc t.2.2) :: M R = (M A.reverse ++ [(p.1, enc p.2), (c.1, enc t.2.1)]) ++ (q.1, enc t.2.2) :: M R := by simp
         rw [this]; exact List.take_left
        have c2 : cut (M A.reverse ++ (p.1, enc p.2) :: (c.1, enc t.2.1) :: (q.1, enc t.2.2) :: M R) ((A.length + 3 : Nat) : Int) (((A.length + 3 : Nat) : Int) + (((A.length + 3 + R.length : Nat) : Int) - ((A.length + 3 : Nat) : Int))) = M R := by
         rw [cut_to _ _ _ (by rw [ll]; omega), Int.toNat_natCast]
         have : M A.reverse ++ (p.1, enc p.2) :: (c.1, enc t.2.1) :: (q.1, enc t.2.2) :: M R = (M A.reverse ++ [(p.1, enc p.2), (c.1, enc t.2.1), (q.1, enc t.2.2)]) ++ M R := by simp
         rw [this, show A.length + 3 = (M A.reverse ++ [(p.1, enc p.2), (c.1, enc t.2.1), (q.1, enc t.2.2)]).length by simp [hAl]]; exact List.drop_left
        rw [c1, c2, roomy_ok (by simp [M_length]; omega)]
        unfold g10_4
        have hflat : M A.reverse ++ [(p.1, enc p.2), (c.1, enc t.2.1)] ++ M R = M A.reverse ++ (p.1, enc p.2) :: (c.1, enc t.2.1) :: M R := by simp
        simp only [hflat, hwm, g0, s0, ll2]
        rw [idx_ok (by omega) (by omega), ← enc_nil, strEq_enc v1 Valids.nil, biF (by simp [h0])]
        unfold g10_5
        rw [← enc_nil, strEq_enc v3 Valids.nil, biT (by simp [h2])]
        simp only [hwm, hwa]
        have htx := shift_texts (A := A) (R := R) hp0 hq0 hmv (A' := A) (R' := (p.1, t.1) :: (c.1, t.2.1) :: R) (by simp only [srcR_append, srcR, hp0, h2, if_neg (show ¬ (0 : Int) = 1 by decide)]; simp) (by simp only [tgtR_append, tgtR, hp0, h2, if_neg (show ¬ (0 : Int) = -1 by decide)]; simp)
        have := ih ((p.1, t.1) :: (c.1, t.2.1) :: R).length (by rw [← hk]; simp) ((p.1, t.1) :: (c.1, t.2.1) :: R) A m rfl (by simp at hk ⊢; omega) hA (Ok.cons' ⟨hp.1, v1⟩ (Ok.cons' ⟨hc.1, v2⟩ hR')) (by simp at hl ⊢; omega) (by rw [htx.1]; exact hfs) (by rw [htx.2]; exact hft) (by rw [htx.1]; exact hls) (by rw [htx.2]; exact hlt)
        rw [← this]
        have e : M (A.reverse ++ (p.1, t.1) :: (c.1, t.2.1) :: R) = M A.reverse ++ (p.1, enc t.1) :: (c.1, enc t.2.1) :: M R := by
         simp [M_append, M_cons, M_nil]
        rw [e]
       ·rw [if_neg h2, biF (by simp [h2])]
        unfold g10_4
        simp only [hwm, g0, s0, ll]
        rw [idx_ok (by omega) (by omega), ← enc_nil, strEq_enc v1 Valids.nil, biF (by simp [h0])]
        unfold g10_5
        rw [← enc_nil, strEq_enc v3 Valids.nil, biF (by simp [h2])]
        simp only [hwp]
        have htx := shift_texts (A := A) (R := R) hp0 hq0 hmv (A' := (p.1, t.1) :: A) (R' := (c.1, t.2.1) :: (q.1, t.2.2) :: R) (by rw [List.reverse_cons, List.append_assoc]; simp only [srcR_append, srcR, hp0, hq0, if_neg (show ¬ (0 : Int) = 1 by decide)]; simp) (by rw [List.reverse_cons, List.append_assoc]; simp only [tgtR_append, tgtR, hp0, hq0, if_neg (show ¬ (0 : Int) = -1 by decide)]; simp)
        have := ih ((c.1, t.2.1) :: (q.1, t.2.2) :: R).length (by rw [← hk]; simp) ((c.1, t.2.1) :: (q.1, t.2.2) :: R) ((p.1, t.1) :: A) m rfl (by simp at hk ⊢; omega) (Ok.cons' ⟨hp.1, v1⟩ hA) (Ok.cons' ⟨hc.1, v2⟩ (Ok.cons' ⟨hq.1, v3⟩ hR')) (by simp at hl ⊢; omega) (by rw [htx.1]; exact hfs) (by rw [htx.2]; exact hft) (by rw [htx.1]; exact hls) (by rw [htx.2]; exact hlt)
        rw [← this]
        have e : M (((p.1, t.1) :: A).reverse ++ (c.1, t.2.1) :: (q.1, t.2.2) :: R) = M A.reverse ++ (p.1, enc t.1) :: (c.1, enc t.2.1) :: (q.1, enc t.2.2) :: M R := by
         simp [M_append, M_cons, M_nil]
        rw [e]; rfl
    ·rw [biT (by simpa using hq0), if_neg (fun h => hq0 h.2)]
     exact skip
   ·rw [biT (by simpa using hp0), if_neg (fun h => hp0 h.1)]
    exact skip
theorem specLossless_ok (n : Nat) (hn : Big ≤ n) (x : List Rp) (hx : Ok x) (hl : x.length ≤ 1000) (hfs : Flat (srcR x)) (hft : Flat (tgtR x)) (hls : (srcR x).length ≤ 500) (hlt : (tgtR x).length ≤ 500) : g10 n (M x) = some (M (lossless x), ()) := by
 have hB : (4611686018427387904 : Nat) ≤ n := hn
 dsimp only [g10, g10_13, g10_1]
 rw [roomy_ok (by simp [M_length]; omega), List.nil_append]
 have := specLoss_loop n hn (fun x0 => g10_12 n (fun x2 => some (x2, ())) x0) x.length x [] n rfl (by omega) Ok.nil hx (by simp; omega) (by simpa using hfs) (by simpa using hft) (by simpa using hls) (by simpa using hlt)
 exact this
end Go.Proofs.YticibdjilmclgaaGreatDoorZF
namespace Go.Proofs.YticibdjilmclgaaGreatDoorZF
open Go
set_option linter.unusedVariables false
set_option linter.unusedSimpArgs false
def nEq : List Rp → Nat
 | [] => 0
 | d :: l => (if d.1 = 0 then 1 else 0) + nEq l
def cEq : List Rp → Nat
 | [] => 0
 | d :: l => (if d.1 = 0 then d.2.length else 0) + cEq l
theorem len_split : ∀ l : List Rp, l.length = (editsL l).length + nEq l
 | [] => rfl
 | d :: l => by
  have ih := len_split l
  rw [List.length_cons, editsL, nEq]
  by_cases h : d.1 = 0
  ·rw [if_pos h, if_pos h]; omega
  ·rw [if_neg h, if_neg h, List.length_cons]; omega
theorem cnt_split : ∀ {l : List Rp}, Ops l → (srcR l).length = cEq l + (delsR l).length ∧ (tgtR l).length = cEq l + (inssR l).length ∧ edR l = (delsR l).length + (inssR l).length ∧ (editsL l).length = cdR l + ciR l
 | [], _ => ⟨rfl, rfl, rfl, rfl⟩
 | d :: l, h => by
  obtain ⟨i1, i2, i3, i4⟩ := cnt_split h.cons.2
  unfold srcR tgtR edR editsL delsR inssR cEq cdR ciR
  simp only [List.length_append, i1, i2, i3]
  rcases h.cons.1 with hd | hd | hd <;> simp [hd, i4] <;> omega
theorem cEq_pos : ∀ {l : List Rp}, 0 < cEq l → 0 < nEq l
 | [], h => h
 | d :: l, h => by
  unfold cEq at h
  unfold nEq
  split
  ·omega
  ·rename_i hd
   rw [if_neg hd] at h
   have := cEq_pos (l := l) (by omega)
   omega
theorem nEq_le : ∀ {l : List Rp}, Full l → nEq l ≤ cEq l
 | [], _ => Nat.le_refl _
 | d :: l, h => by
  have ih := nEq_le h.of_cons.2
  have := List.length_pos_iff.2 h.of_cons.1
  unfold nEq cEq
  split <;> omega
theorem edits_le : ∀ {l : List Rp}, Full l → (editsL l).length ≤ edR l
 | [], _ => Nat.le_refl _
 | d :: l, h => by
  have ih := edits_le h.of_cons.2
  have := List.length_pos_iff.2 h.of_cons.1
  unfold editsL edR
  split
  ·omega
  ·simp only [List.length_cons]; omega
def sumL : List (Int × Nat) → Nat
 | [] => 0
 | d :: l => d.2 + sumL l
theorem ed_sum : ∀ l : List Rp, edR l = sumL (editsL l)
 | [] => rfl
 | d :: l => by
  unfold edR editsL
  split
  ·rw [ed_sum l]; omega
  ·rw [ed_sum l]; rfl
theorem three_parts {z : List Rp} {a b c : Int} (ho : Ops z) (hf : Full z) (hs : srcR z = [a, b]) (ht : tgtR z = [a, c]) (he : edR z = 2) : z.length = 3 := by
 obtain ⟨i1, i2, i3, i4⟩ := cnt_split ho
 rw [hs] at i1
 rw [ht] at i2
 simp only [List.length_cons, List.length_nil] at i1 i2
 have h1 := nEq_le hf
 have h2 := @cEq_pos z
 have h3 := edits_le hf
 have h4 := len_split z
 have h5 : cdR z ≠ 0 := fun h => by have := congrArg List.length (dels_nil h); simp only [List.length_nil] at this; omega
 have h6 : ciR z ≠ 0 := fun h => by have := congrArg List.length (inss_nil h); simp only [List.length_nil] at this; omega
 omega
theorem three_loss {z : List Rp} {a b c : Int} (ho : Ok z) (hz : z.length = 3) (hs : srcR z = [a, b]) (ht : tgtR z = [a, c]) (he : edR z = 2) : (lossless z).length = 3 := by
 have hi := @lossless_inv z
 obtain ⟨i1, i2, i3, i4⟩ := cnt_split ho.ops
 obtain ⟨j1, j2, j3, j4⟩ := cnt_split (hi.2.2.2.1 ho).ops
 rw [hi.1, hs] at j1
 rw [hi.2.1, ht] at j2
 rw [hs] at i1
 rw [ht] at i2
 simp only [List.length_cons, List.length_nil] at i1 i2 j1 j2
 have e1 := ed_sum z
 have e2 := ed_sum (lossless z)
 rw [hi.2.2.1] at e2
 have h2 := @cEq_pos (lossless z)
 have h4 := len_split z
 have h5 := len_split (lossless z)
 rw [hi.2.2.1] at h5
 have h6 : cdR z ≠ 0 := fun h => by have := congrArg List.length (dels_nil h); simp only [List.length_nil] at this; omega
 have h7 : ciR z ≠ 0 := fun h => by have := congrArg List.length (inss_nil h); simp only [List.length_nil] at this; omega
 have h8 := hi.2.2.2.2.1
 omega
end Go.Proofs.YticibdjilmclgaaGreatDoorZF
namespace Go.Proofs.YticibdjilmclgaaGreatDoorZF
open Go
set_option linter.unusedVariables false
set_option linter.unusedSimpArgs false
theorem ex3_dst : dst [97, 98] [97, 99] = 2 := by
 rw [dst_cons, if_pos rfl, dst_cons, if_neg (by decide), dst_nil, dst_nil']
 rfl
theorem ex3_ok (n : Nat) (hn : Big ≤ n) : ∃ z, g5 n (⟨#[97, 98]⟩ : ByteArray) (⟨#[97, 99]⟩ : ByteArray) = some (M z, ()) ∧ LD [97, 98] [97, 99] z ∧ z.length = 3 := by
 have vex : ∀ c : Int, c = 98 ∨ c = 99 → Valids [97, c] := fun c hc => Asc.valids (by intro b hb; simp at hb; omega)
 have eab : (⟨#[97, 98]⟩ : ByteArray) = enc [97, 98] := by rw [← Asc.eq (by intro b hb; simp at hb; omega)]; rfl
 have eac : (⟨#[97, 99]⟩ : ByteArray) = enc [97, 99] := by rw [← Asc.eq (by intro b hb; simp at hb; omega)]; rfl
 obtain ⟨z, z1, z2, _⟩ := dfBetween_ok n hn (⟨#[97, 98]⟩ : ByteArray) (⟨#[97, 99]⟩ : ByteArray) (by decide) (by decide)
 rw [eab, eac, runes_enc (vex 98 (.inl rfl)), runes_enc (vex 99 (.inr rfl))] at z2
 have z2 : LD [97, 98] [97, 99] z := z2
 exact ⟨z, z1, z2, three_parts z2.ok.ops z2.full z2.src z2.tgt (by rw [z2.ed, ex3_dst])⟩
end Go.Proofs.YticibdjilmclgaaGreatDoorZF
