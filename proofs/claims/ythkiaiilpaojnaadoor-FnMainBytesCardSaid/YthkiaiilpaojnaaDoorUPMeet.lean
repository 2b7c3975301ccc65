/- The search for the middle of a shortest way: where the two sides meet. -/
import Derived.Test.YthkiaiilpaojnaaDoorUPB
import Derived.Test.YthkiaiilpaojnaaDoorUPDist
import Derived.Test.YthkiaiilpaojnaaDoorUPGrid
import Derived.Test.YthkiaiilpaojnaaDoorUPMyers
import Derived.Test.YthkiaiilpaojnaaDoorUFB
namespace Go.Proofs.YthkiaiilpaojnaaDoorUF
open Go
set_option linter.unusedVariables false
set_option linter.unusedSimpArgs false
section
variable {A B : List Int} {mD d s e k : Int} {V W : Int → Int}
theorem ent_rev {xf xr : Int} (hx0 : 0 ≤ xf) (hk0 : k ≤ xf) (hx : xf ≤ A.length) (hy : xf - k ≤ B.length) (g : Ent A.reverse B.reverse d ((A.length : Int) - B.length - k) xr) (hm : (A.length : Int) - xr ≤ xf) : (gt A B xf.toNat (xf - k).toNat : Int) ≤ d := by
  obtain ⟨g0, g1, g2⟩ := g
  have h1 := ft_rev (A := A) (B := B) (x := xf.toNat) (y := (xf - k).toNat) (by omega) (by omega)
  have h2 := ft_mono (A := A.reverse) (B := B.reverse) (A.length - xf.toNat) (B.length - (xf - k).toNat) (xr - (A.length - xf)).toNat
  rw [show A.length - xf.toNat + (xr - (A.length - xf)).toNat = xr.toNat by omega, show B.length - (xf - k).toNat + (xr - (A.length - xf)).toNat = (xr - ((A.length : Int) - B.length - k)).toNat by omega] at h2
  omega
theorem meet_front {xf : Int} (hf : Ent A B d k xf) (hx : xf ≤ A.length) (hy : xf - k ≤ B.length) (hW : Done A.reverse B.reverse mD (d - 1) s e W) (h1 : -mD ≤ (A.length : Int) - B.length - k) (h2 : (A.length : Int) - B.length - k < mD)
    (h3 : W ((A.length : Int) - B.length - k) ≠ -1) (h4 : (A.length : Int) - W ((A.length : Int) - B.length - k) ≤ xf) (hD : 2 * d - 1 ≤ dst A B) :
    Opt A B xf.toNat (xf - k).toNat ∧ (ft A B xf.toNat (xf - k).toNat : Int) ≤ d ∧ (gt A B xf.toNat (xf - k).toNat : Int) ≤ d - 1 := by
  obtain ⟨f0, f1, f2⟩ := hf
  have key : (gt A B xf.toNat (xf - k).toNat : Int) ≤ d - 1 := by
    rcases hW.good _ h1 h2 with g | g | ⟨g1, g2, g3⟩
    · exact absurd g h3
    · exact ent_rev f0 f1 hx hy g h4
    · omega
  have := ft_gt (A := A) (B := B) xf.toNat (xf - k).toNat (by omega) (by omega)
  exact ⟨⟨by omega, by omega, by omega⟩, f2, key⟩
theorem meet_back {xr : Int} (hf : Ent A.reverse B.reverse d k xr) (hx : xr ≤ A.length) (hy : xr - k ≤ B.length) (hV : Done A B mD d s e V) (h1 : -mD ≤ (A.length : Int) - B.length - k) (h2 : (A.length : Int) - B.length - k < mD)
    (h3 : V ((A.length : Int) - B.length - k) ≠ -1) (h4 : (A.length : Int) - xr ≤ V ((A.length : Int) - B.length - k)) (hD : 2 * d ≤ dst A B) (hpar : ((A.length : Int) - B.length) % 2 = 0) (hk : (k - d) % 2 = 0) :
    ∃ x y : Nat, V ((A.length : Int) - B.length - k) = x ∧ (x : Int) - y = (A.length : Int) - B.length - k ∧ Opt A B x y ∧ (ft A B x y : Int) ≤ d ∧ (gt A B x y : Int) ≤ d := by
  rcases hV.good _ h1 h2 with g | g | ⟨g1, g2, g3⟩
  · exact absurd g h3
  rotate_left
  · have := hf.2.2; omega
  obtain ⟨f0, f1, f2⟩ := hf
  generalize hj : (A.length : Int) - B.length - k = j at *
  have gE := g
  obtain ⟨g0, g1, g2⟩ := g
  -- the place of the other side, seen from here
  have q1 := ft_mono (A := A) (B := B) (A.length - xr.toNat) (B.length - (xr - k).toNat) (V j - (A.length - xr)).toNat
  rw [show A.length - xr.toNat + (V j - (A.length - xr)).toNat = (V j).toNat by omega, show B.length - (xr - k).toNat + (V j - (A.length - xr)).toNat = (V j - j).toNat by omega] at q1
  have q2 := ft_rev (A := A) (B := B) (x := A.length - xr.toNat) (y := B.length - (xr - k).toNat) (by omega) (by omega)
  rw [show A.length - (A.length - xr.toNat) = xr.toNat by omega, show B.length - (B.length - (xr - k).toNat) = (xr - k).toNat by omega] at q2
  have q3 := ft_gt (A := A) (B := B) (A.length - xr.toNat) (B.length - (xr - k).toNat) (by omega) (by omega)
  have qo : Opt A B (A.length - xr.toNat) (B.length - (xr - k).toNat) := ⟨by omega, by omega, by omega⟩
  have hVx : V j ≤ A.length := by
    refine Int.not_lt.1 fun hlt => ?_
    have := off_right (f := 0) gE (by omega) hlt qo (by omega)
    omega
  have hVy : V j - j ≤ B.length := by
    refine Int.not_lt.1 fun hlt => ?_
    have := off_down gE (by omega) hlt qo (by omega)
    omega
  have hrev : Ent A.reverse B.reverse d ((A.length : Int) - B.length - j) xr := by
    rw [show (A.length : Int) - B.length - j = k by omega]; exact ⟨f0, f1, f2⟩
  have key := ent_rev g0 g1 hVx hVy hrev h4
  have := ft_gt (A := A) (B := B) (V j).toNat (V j - j).toNat (by omega) (by omega)
  exact ⟨(V j).toNat, (V j - j).toNat, by omega, by omega, ⟨by omega, by omega, by omega⟩, g2, key⟩
/-- A place on a shortest way halfway: here the sides meet. -/
theorem must_front (hW : Done A.reverse B.reverse mD (d - 1) s e W) (hd : 0 ≤ d) (hdm : d < mD) (hD : (dst A B : Int) = 2 * d - 1) {x y : Nat} (ho : Opt A B x y) (hfd : (ft A B x y : Int) = d) {xf : Int} (hxf : (x : Int) ≤ xf) (hk : (x : Int) - y = k) :
    -mD ≤ (A.length : Int) - B.length - k ∧ (A.length : Int) - B.length - k < mD ∧ W ((A.length : Int) - B.length - k) ≠ -1 ∧ (A.length : Int) - W ((A.length : Int) - B.length - k) ≤ xf := by
  obtain ⟨h1, h2⟩ := ho.rev
  have hs := ho.sum
  have hx := ho.hx
  have hy := ho.hy
  have := hW.comp _ _ h1 (by omega)
  have hlo := ft_lo h1.hx h1.hy
  rw [show ((A.length - x : Nat) : Int) - ((B.length - y : Nat) : Int) = (A.length : Int) - B.length - k by omega] at this
  exact ⟨by omega, by omega, by omega, by omega⟩
theorem must_back (hV : Done A B mD d s e V) (hd : 0 ≤ d) (hdm : d < mD) (hD : (dst A B : Int) = 2 * d) {x y : Nat} (ho : Opt A.reverse B.reverse x y) (hfd : (ft A.reverse B.reverse x y : Int) = d) {xr : Int} (hxr : (x : Int) ≤ xr) (hk : (x : Int) - y = k) :
    -mD ≤ (A.length : Int) - B.length - k ∧ (A.length : Int) - B.length - k < mD ∧ V ((A.length : Int) - B.length - k) ≠ -1 ∧ (A.length : Int) - xr ≤ V ((A.length : Int) - B.length - k) := by
  obtain ⟨h1, h2⟩ := ho.rev
  have hs := ho.sum
  have hx := ho.hx
  have hy := ho.hy
  simp only [List.reverse_reverse, List.length_reverse] at h1 h2 hx hy
  rw [dst_rev] at hs
  have := hV.comp _ _ h1 (by omega)
  have hlo := ft_lo h1.hx h1.hy
  rw [show ((A.length - x : Nat) : Int) - ((B.length - y : Nat) : Int) = (A.length : Int) - B.length - k by omega] at this
  exact ⟨by omega, by omega, by omega, by omega⟩
/-- Where a place on a shortest way is, nothing runs off. -/
theorem on_grid {xf : Int} (hf : Ent A B d k xf) (hD : d ≤ dst A B) {x y : Nat} (ho : Opt A B x y) (hfd : (ft A B x y : Int) = d) (hk : (x : Int) - y = k) : xf ≤ A.length ∧ xf - k ≤ B.length := by
  refine ⟨Int.not_lt.1 fun hlt => ?_, Int.not_lt.1 fun hlt => ?_⟩
  · have := off_right (f := 0) hf hD hlt ho (by omega); omega
  · have := off_down hf hD hlt ho (by omega); omega
end
end Go.Proofs.YthkiaiilpaojnaaDoorUF
