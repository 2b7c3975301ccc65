/- The plain statement of FnMainBytes. -/
import Derived.Test.YthkiaiilpaojnaaDoorUPB
import Derived.Test.YthkiaiilpaojnaaDoorUPLoop
import Derived.Test.YthkiaiilpaojnaaDoorUPUtf
import Derived.Test.YthkiaiilpaojnaaDoorUPEnc
import Derived.Test.YthkiaiilpaojnaaDoorUPAsc
import Derived.Test.YthkiaiilpaojnaaDoorUPByt
import Derived.Test.YthkiaiilpaojnaaDoorUPParts
import Derived.Test.YthkiaiilpaojnaaDoorUPTexts
import Derived.Test.YthkiaiilpaojnaaDoorUPCmp
import Derived.Test.YthkiaiilpaojnaaDoorUPMerge
import Derived.Test.YthkiaiilpaojnaaDoorUPMerge2
import Derived.Test.YthkiaiilpaojnaaDoorUPDist
import Derived.Test.YthkiaiilpaojnaaDoorUPMain
import Derived.Test.YthkiaiilpaojnaaDoorUPMain2
import Derived.Test.YthkiaiilpaojnaaDoorUPDMain
import Derived.Test.YthkiaiilpaojnaaDoorUGA4
import Derived.Test.YthkiaiilpaojnaaDoorUGA5
import Derived.Test.YthkiaiilpaojnaaDoorUFB
namespace Go.Proofs.YthkiaiilpaojnaaDoorUF
open Go
set_option linter.unusedVariables false
set_option linter.unusedSimpArgs false
theorem runesAt_le (s : ByteArray) : ∀ b i, (runesAt s b i).length ≤ b
  | 0, i => Nat.le_refl _
  | b + 1, i => by
    unfold runesAt
    split
    · have := runesAt_le s b (i + (Utf8.decode s i).2); simp; omega
    · simp
theorem runesOf_le (s : ByteArray) : (runesOf s).length ≤ s.size := runesAt_le s _ _
theorem mainBytes_law (n : Nat) (hn : Big ≤ n) (x y : List Int) (ln : Bool) (hx : IsBytes x) (hy : IsBytes y) : g10 n x y ln = some (true, ()) := by
  dsimp only [g10, g10_1]
  by_cases h1 : (x.length : Int) > 2147483647
  · rw [bdT h1]
  by_cases h2 : (y.length : Int) > 2147483647
  · rw [bdF h1, bdT h2]
  have m1 : minI (x.length : Int) 100 = ((min x.length 100 : Nat) : Int) := by unfold minI; split <;> omega
  have m2 : minI (y.length : Int) 100 = ((min y.length 100 : Nat) : Int) := by unfold minI; split <;> omega
  rw [bdF h1, bdF h2, m1, m2, bnd_ok (by omega) (by omega) (by omega), bnd_ok (by omega) (by omega) (by omega), cut_from, cut_from]
  have b1 : (strOfNums (x.take ((min x.length 100 : Nat) : Int).toNat)).size ≤ 100 := by
    rw [← bytesOf_length, bytesOf_strOfNums (fun b hb => hx b (List.mem_of_mem_take hb)), List.length_take]; omega
  have b2 : (strOfNums (y.take ((min y.length 100 : Nat) : Int).toNat)).size ≤ 100 := by
    rw [← bytesOf_length, bytesOf_strOfNums (fun b hb => hy b (List.mem_of_mem_take hb)), List.length_take]; omega
  generalize strOfNums (x.take ((min x.length 100 : Nat) : Int).toNat) = X at *
  generalize strOfNums (y.take ((min y.length 100 : Nat) : Int).toNat) = Y at *
  have r1 := runesOf_le X
  have r2 := runesOf_le Y
  obtain ⟨l, g1, g2, _⟩ := dfMainB_ok n hn X Y ln (.inr (.inl (by omega))) (by omega) (by omega) (by omega)
  have hl := g2.len
  have hal := all_le (x := l)
  rw [g2.src, g2.tgt] at hal
  have gs : g34 n (M l) = some (enc (runesOf X), ()) := by rw [← g2.src]; exact source_ok n hn l (by omega) (by omega)
  have gt : g35 n (M l) = some (enc (runesOf Y), ()) := by rw [← g2.tgt]; exact target_ok n hn l (by omega) (by omega)
  rw [bind_some' g1]
  simp only
  rw [bind_some' gs, runesOk n X (by omega), Option.bind_some]
  simp only
  rw [biT (by rw [strEq_eq]; simp), bind_some' gt, runesOk n Y (by omega), Option.bind_some]
  simp only
  rw [biT (by rw [strEq_eq]; simp)]
  have hml : (M l).length = l.length := List.length_map _
  by_cases h0 : l = []
  · subst h0
    have h3 : runesOf X = [] := g2.src.symm
    have h4 : runesOf Y = [] := g2.tgt.symm
    have nil_of : ∀ Z : ByteArray, runesOf Z = [] → Z = (⟨#[]⟩ : ByteArray) := fun Z h => by
      by_cases hz : Z.size = 0
      · apply ba_ext; exact List.eq_nil_of_length_eq_zero hz
      · exfalso
        obtain ⟨k, hk⟩ : ∃ k, Z.size = k + 1 := ⟨Z.size - 1, by omega⟩
        unfold runesOf at h
        rw [hk] at h
        unfold runesAt at h
        rw [if_pos (by omega)] at h
        cases h
    rw [bdF (by rw [hml]; simp), nil_of X h3, nil_of Y h4, roomy_ok (by decide)]
    have : strEq ((⟨#[]⟩ : ByteArray) ++ (⟨#[]⟩ : ByteArray)) (⟨#[]⟩ : ByteArray) = true := by rw [strEq_eq]; simp; rfl
    rw [this]
  · have := List.length_pos_iff.2 h0
    have c : ((M l).length : Int) > 0 := by rw [hml]; omega
    rw [bdT c]
theorem FnMainBytes_pure : ∀ d, GoodA g10_A d → ∃ n, g10_f n d = some (true, ()) := fun d hd => ⟨Big, mainBytes_law Big (Nat.le_refl _) d.1 d.2.1 d.2.2.1 (GoodK.bytes hd.1).1 (GoodK.bytes hd.2.1).1⟩
end Go.Proofs.YthkiaiilpaojnaaDoorUF
