/- The search for the middle of a shortest way: the program's steps and loops. -/
import Derived.Test.YthkiaiilpaojnaaDoorUPB
import Derived.Test.YthkiaiilpaojnaaDoorUPLoop
import Derived.Test.YthkiaiilpaojnaaDoorUPDist
import Derived.Test.YthkiaiilpaojnaaDoorUPGrid
import Derived.Test.YthkiaiilpaojnaaDoorUPMyers
import Derived.Test.YthkiaiilpaojnaaDoorUPMeet
import Derived.Test.YthkiaiilpaojnaaDoorUPBis
import Derived.Test.YthkiaiilpaojnaaDoorUGA3
import Derived.Test.YthkiaiilpaojnaaDoorUFB
namespace Go.Proofs.YthkiaiilpaojnaaDoorUF
open Go
set_option linter.unusedVariables false
set_option linter.unusedSimpArgs false
section
variable {β : Type} (q110 : DenA g110_A → Option (DenR g110_R)) (q114 : DenA g114_A → Option (DenR g114_R)) (q136 : DenA g136_A → Option (DenR g136_R)) (q143 : DenA g143_A → Option (DenR g143_R))
variable {A B : List Int} {mD : Int} {p0 : AK.den (.pro (.pair (.int .i64) (.pair (.int .i64) (.pair (.int .i64) (.pair (.flt .f64) (.pair (.int .i64) (.pair (.int .i64) (.flt .f64))))))) 0)}
/-- The result of going on at a place on a shortest way, about halfway. -/
def Met (kr : List (Int × ByteArray) → Option β) (q : DenA g143_A → Option (DenR g143_R)) (p0 : AK.den (.pro (.pair (.int .i64) (.pair (.int .i64) (.pair (.int .i64) (.pair (.flt .f64) (.pair (.int .i64) (.pair (.int .i64) (.flt .f64))))))) 0)) (A B : List Int) (r : Option β) : Prop :=
  ∃ x y : Nat, Opt A B x y ∧ 2 * ft A B x y ≤ dst A B + 1 ∧ 2 * gt A B x y ≤ dst A B + 1 ∧ r = (q (p0, (A, (B, ((x : Int), ((y : Int), ())))))).bind fun r1 => kr r1.1
theorem Done.low {d s e : Int} {V : Int → Int} (h : Done A B mD d s e V) (j : Int) (h1 : -mD ≤ j) (h2 : j < mD) (hd : d ≤ 1000000) (hN : (A.length : Int) ≤ 1000000) : -1 ≤ V j ∧ V j ≤ 2000000 := by
  rcases h.good j h1 h2 with g | g | g
  · omega
  · have := g.1; have := g.bound; omega
  · omega
theorem fstep (n : Nat) (hn : Big ≤ n) {V1 V2 : Int → Int} {v1 v2 : List Int} {d s0 e0 s e k sW eW s2 e2 : Int} {kn} {kr : List (Int × ByteArray) → Option β} {fr : Bool}
    (hM : Mid A B mD d s0 e0 s e k V1) (hk : k ≤ d - e) (hA : Arr v1 mD V1) (hA2 : Arr v2 mD V2) (hW : Done A.reverse B.reverse mD (d - 1) sW eW V2) (hm : 2 ≤ mD) (hm2 : mD ≤ 1000000) (hN : (A.length : Int) ≤ 1000000) (hNM : (B.length : Int) ≤ 1000000) (hD : 2 * d - 1 ≤ dst A B) (hDd : d ≤ dst A B) (hse : s ≤ 3000000) (hee : e ≤ 3000000) :
    Met kr q143 p0 A B (g114_15 (β := β) n q110 q114 q136 q143 kn kr p0 A B (A.length : Int) (B.length : Int) mD mD (2 * mD) v1 v2 ((A.length : Int) - B.length) fr s e s2 e2 d k) ∨
    ∃ xf s' e', g114_15 (β := β) n q110 q114 q136 q143 kn kr p0 A B (A.length : Int) (B.length : Int) mD mD (2 * mD) v1 v2 ((A.length : Int) - B.length) fr s e s2 e2 d k = kn p0 A B (A.length : Int) (B.length : Int) mD mD (2 * mD) (v1.set (mD + k).toNat xf) v2 ((A.length : Int) - B.length) fr s' e' s2 e2 d k ∧
      Ent A B d k xf ∧ pick V1 d k ≤ xf ∧ Stop A B k xf ∧ (((A.length : Int) < xf ∧ s' = s ∧ e' = e + 2) ∨ (xf ≤ A.length ∧ (B.length : Int) < xf - k ∧ s' = s + 2 ∧ e' = e) ∨ (xf ≤ A.length ∧ xf - k ≤ B.length ∧ s' = s ∧ e' = e)) ∧
      (fr = true → (dst A B : Int) = 2 * d - 1 → ∀ x y : Nat, Opt A B x y → (ft A B x y : Int) = d → (x : Int) - y ≠ k) := by
  have hs := hM.hs
  have he := hM.he
  have hd := hM.dpos
  have hdm := hM.dm
  have hkl := hM.klo
  have hpk := hM.pick_ok hk
  have hpb := hpk.bound
  have hp0 := hpk.1
  have hpk' := hpk.2.1
  obtain ⟨xf, x1, x2, x3, x4⟩ := fsnake (β := β) (A := A) (B := B) (p0 := p0) (d := d) (k := k) q110 q114 q136 q143 n (v1 := v1) (v2 := v2) (by omega) (by omega) (by omega) (by omega) (fun p0 x1 x2 v7 v8 v9 v10 v11 x12 x13 v15 v16 v17 v18 v19 v20 v21 v22 v23 v24 v25 => g114_14 n q110 q114 q136 q143 kn kr p0 x1 x2 v7 v8 v9 v10 v11 x12 x13 v15 v16 v17 v18 v19 v20 v21 v22 v23 v24 v25) mD mD (2 * mD) ((A.length : Int) - B.length) fr s e s2 e2 d (mD + k) _ (pick V1 d k) n (Nat.le_refl _) (by unfold Big at hn; omega) hpk
  have hl2 := hA2.1
  have hl1 := hA.1
  have e15 : g114_15 (β := β) n q110 q114 q136 q143 kn kr p0 A B (A.length : Int) (B.length : Int) mD mD (2 * mD) v1 v2 ((A.length : Int) - B.length) fr s e s2 e2 d k = g114_14 n q110 q114 q136 q143 kn kr p0 A B (A.length : Int) (B.length : Int) mD mD (2 * mD) v1 v2 ((A.length : Int) - B.length) fr s e s2 e2 d k (mD + k) xf (xf - k) := by
    rw [← x4]
    unfold g114_15
    rw [fpick (β := β) (A := A) (B := B) (p0 := p0) q110 q114 q136 q143 n hM hk hA hm (by omega) (by omega)]
    unfold g114_10 g114_13 g114_12
    rw [w64_id (by omega) (by omega)]
  rw [e15]
  have hxb := x2.bound
  have hx0 := x2.1
  have hxk := x2.2.1
  unfold g114_14
  rw [idx_ok (by omega) (by omega)]
  have nodet : ∀ (r : Option β), (fr = true → (dst A B : Int) = 2 * d - 1 → ∀ x y : Nat, Opt A B x y → (ft A B x y : Int) = d → (x : Int) - y ≠ k) →
      (xf ≤ A.length ∧ xf - k ≤ B.length) → r = kn p0 A B (A.length : Int) (B.length : Int) mD mD (2 * mD) (v1.set (mD + k).toNat xf) v2 ((A.length : Int) - B.length) fr s e s2 e2 d k →
      Met kr q143 p0 A B r ∨
      ∃ xf s' e', r = kn p0 A B (A.length : Int) (B.length : Int) mD mD (2 * mD) (v1.set (mD + k).toNat xf) v2 ((A.length : Int) - B.length) fr s' e' s2 e2 d k ∧
        Ent A B d k xf ∧ pick V1 d k ≤ xf ∧ Stop A B k xf ∧ (((A.length : Int) < xf ∧ s' = s ∧ e' = e + 2) ∨ (xf ≤ A.length ∧ (B.length : Int) < xf - k ∧ s' = s + 2 ∧ e' = e) ∨ (xf ≤ A.length ∧ xf - k ≤ B.length ∧ s' = s ∧ e' = e)) ∧
        (fr = true → (dst A B : Int) = 2 * d - 1 → ∀ x y : Nat, Opt A B x y → (ft A B x y : Int) = d → (x : Int) - y ≠ k) :=
    fun r h1 h2 h3 => .inr ⟨xf, s, e, h3, x2, x1, x3, .inr (.inr ⟨h2.1, h2.2, rfl, rfl⟩), h1⟩
  by_cases c1 : xf > A.length
  · rw [bdT c1, w64_id (by omega) (by omega)]
    refine .inr ⟨xf, s, e + 2, rfl, x2, x1, x3, .inl ⟨c1, rfl, rfl⟩, fun _ _ x y ho hfo hkk => ?_⟩
    have := on_grid x2 hDd ho hfo hkk; omega
  · rw [bdF c1]
    by_cases c2 : xf - k > B.length
    · rw [bdT c2, w64_id (by omega) (by omega)]
      refine .inr ⟨xf, s + 2, e, rfl, x2, x1, x3, .inr (.inl ⟨by omega, c2, rfl, rfl⟩), fun _ _ x y ho hfo hkk => ?_⟩
      have := on_grid x2 hDd ho hfo hkk; omega
    · rw [bdF c2]
      by_cases hfr : fr = false
      · rw [biF hfr]
        exact nodet _ (by simp [hfr]) ⟨by omega, by omega⟩ rfl
      · have hfr : fr = true := by simpa using hfr
        rw [biT hfr]
        rw [w64_id (n := mD + ((A.length : Int) - B.length)) (by omega) (by omega), w64_id (n := mD + ((A.length : Int) - B.length) - k) (by omega) (by omega)]
        have must : (dst A B : Int) = 2 * d - 1 → ∀ x y : Nat, Opt A B x y → (ft A B x y : Int) = d → (x : Int) - y = k → -mD ≤ (A.length : Int) - B.length - k ∧ (A.length : Int) - B.length - k < mD ∧ V2 ((A.length : Int) - B.length - k) ≠ -1 ∧ (A.length : Int) - V2 ((A.length : Int) - B.length - k) ≤ xf :=
          fun hDD x y ho hfo hkk => must_front hW hd hdm hDD ho hfo (hM.reach hk x2 x1 x3 x y ho hfo hkk) hkk
        by_cases c3 : mD + ((A.length : Int) - B.length) - k ≥ 0
        · rw [bdT c3]
          by_cases c4 : mD + ((A.length : Int) - B.length) - k < 2 * mD
          · rw [bdT c4]
            have hv := hA2.2 ((A.length : Int) - B.length - k) (by omega) (by omega)
            have hvb := hW.low ((A.length : Int) - B.length - k) (by omega) (by omega) (by omega) (by rw [List.length_reverse]; omega)
            rw [idx_ok (by omega) (by omega), idx_ok (by omega) (by omega), show mD + ((A.length : Int) - B.length) - k = mD + ((A.length : Int) - B.length - k) by omega, hv]
            by_cases c5 : V2 ((A.length : Int) - B.length - k) = -1
            · rw [biF (by simp [c5])]
              exact nodet _ (fun _ hDD x y ho hfo hkk => (must hDD x y ho hfo hkk).2.2.1 c5) ⟨by omega, by omega⟩ rfl
            · rw [biT (by simp [c5]), w64_id (by omega) (by omega)]
              by_cases c6 : xf ≥ (A.length : Int) - V2 ((A.length : Int) - B.length - k)
              · rw [bdT c6]
                left
                obtain ⟨m1, m2, m3⟩ := meet_front x2 (by omega) (by omega) hW (by omega) (by omega) c5 (by omega) hD
                refine ⟨xf.toNat, (xf - k).toNat, m1, by omega, by omega, ?_⟩
                rw [Int.toNat_of_nonneg hx0, Int.toNat_of_nonneg (by omega)]
              · rw [bdF c6]
                exact nodet _ (fun _ hDD x y ho hfo hkk => by have := (must hDD x y ho hfo hkk).2.2.2; omega) ⟨by omega, by omega⟩ rfl
          · rw [bdF c4]
            exact nodet _ (fun _ hDD x y ho hfo hkk => by have := (must hDD x y ho hfo hkk).2.1; omega) ⟨by omega, by omega⟩ rfl
        · rw [bdF c3]
          exact nodet _ (fun _ hDD x y ho hfo hkk => by have := (must hDD x y ho hfo hkk).1; omega) ⟨by omega, by omega⟩ rfl
theorem rstep (n : Nat) (hn : Big ≤ n) {V1 V2 : Int → Int} {v1 v2 : List Int} {d s0 e0 s e k sW eW s1 e1 : Int} {kn} {kr : List (Int × ByteArray) → Option β} {fr : Bool} (hfrd : fr = false → ((A.length : Int) - B.length) % 2 = 0)
    (hM : Mid A.reverse B.reverse mD d s0 e0 s e k V2) (hk : k ≤ d - e) (hA : Arr v2 mD V2) (hA1 : Arr v1 mD V1) (hV : Done A B mD d sW eW V1) (hm : 2 ≤ mD) (hm2 : mD ≤ 1000000) (hN : (A.length : Int) ≤ 1000000) (hNM : (B.length : Int) ≤ 1000000) (hD : fr = false → 2 * d ≤ dst A B) (hDd : d ≤ dst A B) (hse : s ≤ 3000000) (hee : e ≤ 3000000) :
    Met kr q143 p0 A B (g114_29 (β := β) n q110 q114 q136 q143 kn kr p0 A B (A.length : Int) (B.length : Int) mD mD (2 * mD) v1 v2 ((A.length : Int) - B.length) fr s1 e1 s e d k) ∨
    ∃ xf s' e', g114_29 (β := β) n q110 q114 q136 q143 kn kr p0 A B (A.length : Int) (B.length : Int) mD mD (2 * mD) v1 v2 ((A.length : Int) - B.length) fr s1 e1 s e d k = kn p0 A B (A.length : Int) (B.length : Int) mD mD (2 * mD) v1 (v2.set (mD + k).toNat xf) ((A.length : Int) - B.length) fr s1 e1 s' e' d k ∧
      Ent A.reverse B.reverse d k xf ∧ pick V2 d k ≤ xf ∧ Stop A.reverse B.reverse k xf ∧ (((A.reverse.length : Int) < xf ∧ s' = s ∧ e' = e + 2) ∨ (xf ≤ A.reverse.length ∧ (B.reverse.length : Int) < xf - k ∧ s' = s + 2 ∧ e' = e) ∨ (xf ≤ A.reverse.length ∧ xf - k ≤ B.reverse.length ∧ s' = s ∧ e' = e)) ∧
      (fr = false → (dst A B : Int) = 2 * d → ∀ x y : Nat, Opt A.reverse B.reverse x y → (ft A.reverse B.reverse x y : Int) = d → (x : Int) - y ≠ k) := by
  have hra : A.reverse.length = A.length := List.length_reverse
  have hrb : B.reverse.length = B.length := List.length_reverse
  have hrD : dst A.reverse B.reverse = dst A B := dst_rev A B
  have hs := hM.hs
  have he := hM.he
  have hd := hM.dpos
  have hdm := hM.dm
  have hkl := hM.klo
  have hkp := hM.kpar
  have hpk := hM.pick_ok hk
  have hpb := hpk.bound
  have hp0 := hpk.1
  have hpk' := hpk.2.1
  obtain ⟨xf, x1, x2, x3, x4⟩ := rsnake (β := β) (A := A) (B := B) (p0 := p0) (d := d) (k := k) q110 q114 q136 q143 n (v1 := v1) (v2 := v2) (by omega) (by omega) (by omega) (by omega) (fun p0 x1 x2 v7 v8 v9 v10 v11 x12 x13 v15 v16 v17 v18 v19 v20 v21 v22 v23 v24 v25 => g114_28 n q110 q114 q136 q143 kn kr p0 x1 x2 v7 v8 v9 v10 v11 x12 x13 v15 v16 v17 v18 v19 v20 v21 v22 v23 v24 v25) mD mD (2 * mD) ((A.length : Int) - B.length) fr s1 e1 s e d (mD + k) _ (pick V2 d k) n (Nat.le_refl _) (by unfold Big at hn; omega) hpk
  have hl2 := hA.1
  have hl1 := hA1.1
  have e15 : g114_29 (β := β) n q110 q114 q136 q143 kn kr p0 A B (A.length : Int) (B.length : Int) mD mD (2 * mD) v1 v2 ((A.length : Int) - B.length) fr s1 e1 s e d k = g114_28 n q110 q114 q136 q143 kn kr p0 A B (A.length : Int) (B.length : Int) mD mD (2 * mD) v1 v2 ((A.length : Int) - B.length) fr s1 e1 s e d k (mD + k) xf (xf - k) := by
    rw [← x4]
    unfold g114_29
    rw [rpick (β := β) (A := A) (B := B) (p0 := p0) q110 q114 q136 q143 n hM hk hA hm (by omega) (by omega)]
    unfold g114_24 g114_27 g114_26
    rw [w64_id (by omega) (by omega)]
  rw [e15]
  have hxb := x2.bound
  have hx0 := x2.1
  have hxk := x2.2.1
  unfold g114_28
  rw [idx_ok (by omega) (by omega)]
  have nodet : ∀ (r : Option β), (fr = false → (dst A B : Int) = 2 * d → ∀ x y : Nat, Opt A.reverse B.reverse x y → (ft A.reverse B.reverse x y : Int) = d → (x : Int) - y ≠ k) →
      (xf ≤ A.length ∧ xf - k ≤ B.length) → r = kn p0 A B (A.length : Int) (B.length : Int) mD mD (2 * mD) v1 (v2.set (mD + k).toNat xf) ((A.length : Int) - B.length) fr s1 e1 s e d k →
      Met kr q143 p0 A B r ∨
      ∃ xf s' e', r = kn p0 A B (A.length : Int) (B.length : Int) mD mD (2 * mD) v1 (v2.set (mD + k).toNat xf) ((A.length : Int) - B.length) fr s1 e1 s' e' d k ∧
        Ent A.reverse B.reverse d k xf ∧ pick V2 d k ≤ xf ∧ Stop A.reverse B.reverse k xf ∧ (((A.reverse.length : Int) < xf ∧ s' = s ∧ e' = e + 2) ∨ (xf ≤ A.reverse.length ∧ (B.reverse.length : Int) < xf - k ∧ s' = s + 2 ∧ e' = e) ∨ (xf ≤ A.reverse.length ∧ xf - k ≤ B.reverse.length ∧ s' = s ∧ e' = e)) ∧
        (fr = false → (dst A B : Int) = 2 * d → ∀ x y : Nat, Opt A.reverse B.reverse x y → (ft A.reverse B.reverse x y : Int) = d → (x : Int) - y ≠ k) :=
    fun r h1 h2 h3 => .inr ⟨xf, s, e, h3, x2, x1, x3, .inr (.inr ⟨by omega, by omega, rfl, rfl⟩), h1⟩
  by_cases c1 : xf > A.length
  · rw [bdT c1, w64_id (by omega) (by omega)]
    refine .inr ⟨xf, s, e + 2, rfl, x2, x1, x3, .inl ⟨by omega, rfl, rfl⟩, fun _ _ x y ho hfo hkk => ?_⟩
    have := on_grid x2 (by omega) ho hfo hkk; omega
  · rw [bdF c1]
    by_cases c2 : xf - k > B.length
    · rw [bdT c2, w64_id (by omega) (by omega)]
      refine .inr ⟨xf, s + 2, e, rfl, x2, x1, x3, .inr (.inl ⟨by omega, by omega, rfl, rfl⟩), fun _ _ x y ho hfo hkk => ?_⟩
      have := on_grid x2 (by omega) ho hfo hkk; omega
    · rw [bdF c2]
      by_cases hfr : fr = true
      · rw [biF (by simp [hfr])]
        exact nodet _ (by simp [hfr]) ⟨by omega, by omega⟩ rfl
      · have hfr : fr = false := by simpa using hfr
        rw [biT (by simp [hfr])]
        rw [w64_id (n := mD + ((A.length : Int) - B.length)) (by omega) (by omega), w64_id (n := mD + ((A.length : Int) - B.length) - k) (by omega) (by omega)]
        have must : (dst A B : Int) = 2 * d → ∀ x y : Nat, Opt A.reverse B.reverse x y → (ft A.reverse B.reverse x y : Int) = d → (x : Int) - y = k → -mD ≤ (A.length : Int) - B.length - k ∧ (A.length : Int) - B.length - k < mD ∧ V1 ((A.length : Int) - B.length - k) ≠ -1 ∧ (A.length : Int) - xf ≤ V1 ((A.length : Int) - B.length - k) :=
          fun hDD x y ho hfo hkk => must_back hV hd hdm hDD ho hfo (hM.reach hk x2 x1 x3 x y ho hfo hkk) hkk
        by_cases c3 : mD + ((A.length : Int) - B.length) - k ≥ 0
        · rw [bdT c3]
          by_cases c4 : mD + ((A.length : Int) - B.length) - k < 2 * mD
          · rw [bdT c4]
            have hv := hA1.2 ((A.length : Int) - B.length - k) (by omega) (by omega)
            have hvb := hV.low ((A.length : Int) - B.length - k) (by omega) (by omega) (by omega) (by omega)
            rw [idx_ok (by omega) (by omega), idx_ok (by omega) (by omega), show mD + ((A.length : Int) - B.length) - k = mD + ((A.length : Int) - B.length - k) by omega, hv]
            by_cases c5 : V1 ((A.length : Int) - B.length - k) = -1
            · rw [biF (by simp [c5])]
              exact nodet _ (fun _ hDD x y ho hfo hkk => (must hDD x y ho hfo hkk).2.2.1 c5) ⟨by omega, by omega⟩ rfl
            · rw [biT (by simp [c5]), w64_id (n := (A.length : Int) - xf) (by omega) (by omega)]
              by_cases c6 : V1 ((A.length : Int) - B.length - k) ≥ (A.length : Int) - xf
              · rw [bdT c6]
                left
                obtain ⟨x, y, m0, m1, m2, m3, m4⟩ := meet_back x2 (by omega) (by omega) hV (by omega) (by omega) c5 (by omega) (hD hfr) (hfrd hfr) hkp
                have hD' := hD hfr
                refine ⟨x, y, m2, by omega, by omega, ?_⟩
                have hmx := m2.hx
                have hmy := m2.hy
                rw [m0, w64_id (n := mD + (x : Int)) (by omega) (by omega), w64_id (n := mD + (x : Int) - (mD + ((A.length : Int) - B.length - k))) (by omega) (by omega), show mD + (x : Int) - (mD + ((A.length : Int) - B.length - k)) = (y : Int) by omega]
              · rw [bdF c6]
                exact nodet _ (fun _ hDD x y ho hfo hkk => by have := (must hDD x y ho hfo hkk).2.2.2; omega) ⟨by omega, by omega⟩ rfl
          · rw [bdF c4]
            exact nodet _ (fun _ hDD x y ho hfo hkk => by have := (must hDD x y ho hfo hkk).2.1; omega) ⟨by omega, by omega⟩ rfl
        · rw [bdF c3]
          exact nodet _ (fun _ hDD x y ho hfo hkk => by have := (must hDD x y ho hfo hkk).1; omega) ⟨by omega, by omega⟩ rfl
end
end Go.Proofs.YthkiaiilpaojnaaDoorUF
