/- The plain statement of FnMainThree. -/
import Derived.Test.YticibdjilmclgaaDoorUPB
import Derived.Test.YticibdjilmclgaaDoorUPLoop
import Derived.Test.YticibdjilmclgaaDoorUPUtf
import Derived.Test.YticibdjilmclgaaDoorUPEnc
import Derived.Test.YticibdjilmclgaaDoorUPParts
import Derived.Test.YticibdjilmclgaaDoorUPTexts
import Derived.Test.YticibdjilmclgaaDoorUPEdited
import Derived.Test.YticibdjilmclgaaDoorUPMerge
import Derived.Test.YticibdjilmclgaaDoorUPMerge2
import Derived.Test.YticibdjilmclgaaDoorUPDist
import Derived.Test.YticibdjilmclgaaDoorUPTri
import Derived.Test.YticibdjilmclgaaDoorUPMain
import Derived.Test.YticibdjilmclgaaDoorUPMain2
import Derived.Test.YticibdjilmclgaaDoorUPDMain
import Derived.Test.YticibdjilmclgaaDoorUGA4
import Derived.Test.YticibdjilmclgaaDoorUFB
namespace Go.Proofs.YticibdjilmclgaaDoorUF
open Go
set_option linter.unusedVariables false
set_option linter.unusedSimpArgs false
theorem three_law (n : Nat) (hn : Big ≤ n) (x y z : ByteArray) : g3 n x y z = some (true, ()) := by
  dsimp only [g3, g3_1]
  by_cases h1 : (x.size : Int) > 2147483647
  · rw [bdT h1]
  by_cases h2 : (y.size : Int) > 2147483647
  · rw [bdF h1, bdT h2]
  by_cases h3 : (z.size : Int) > 2147483647
  · rw [bdF h1, bdF h2, bdT h3]
  rw [bdF h1, bdF h2, bdF h3, show (80 : Int) = ((80 : Nat) : Int) from rfl, clean_ok n x 80 (by omega), Option.bind_some, clean_ok n y 80 (by omega), Option.bind_some, clean_ok n z 80 (by omega), Option.bind_some]
  have va : Valids ((runesOf x).take 80) := (runesOf_valid x).take _
  have vb : Valids ((runesOf y).take 80) := (runesOf_valid y).take _
  have vc : Valids ((runesOf z).take 80) := (runesOf_valid z).take _
  have la : ((runesOf x).take 80).length ≤ 80 := by rw [List.length_take]; omega
  have lb : ((runesOf y).take 80).length ≤ 80 := by rw [List.length_take]; omega
  have lc : ((runesOf z).take 80).length ≤ 80 := by rw [List.length_take]; omega
  generalize (runesOf x).take 80 = a at *
  generalize (runesOf y).take 80 = b at *
  generalize (runesOf z).take 80 = c at *
  simp only
  obtain ⟨l, g1, g2, _⟩ := dfMain_ok n hn a b va vb (by omega)
  obtain ⟨m, k1, k2, _⟩ := dfMain_ok n hn b c vb vc (by omega)
  obtain ⟨o, j1, j2, _⟩ := dfMain_ok n hn a c va vc (by omega)
  have hl := g2.len
  have hal := all_le (x := l)
  rw [g2.src, g2.tgt] at hal
  have hm := k2.len
  have ham := all_le (x := m)
  rw [k2.src, k2.tgt] at ham
  have ho := j2.len
  have hao := all_le (x := o)
  rw [j2.src, j2.tgt] at hao
  have ge : g15 n (M l) = some ((dst a b : Int), ()) := by rw [← g2.ed]; exact edited_ok n hn l g2.ok (by omega) (by omega)
  have ke : g15 n (M m) = some ((dst b c : Int), ()) := by rw [← k2.ed]; exact edited_ok n hn m k2.ok (by omega) (by omega)
  have je : g15 n (M o) = some ((dst a c : Int), ()) := by rw [← j2.ed]; exact edited_ok n hn o j2.ok (by omega) (by omega)
  have js : g16 n (M o) = some (enc a, ()) := by rw [← j2.src]; exact source_ok n hn o (by omega) (by omega)
  have jt : g17 n (M o) = some (enc c, ()) := by rw [← j2.tgt]; exact target_ok n hn o (by omega) (by omega)
  have t1 := dst_tri a b c
  have t2 := dst_hi a b
  have t3 := dst_hi b c
  rw [bind_some' g1]
  simp only
  rw [bind_some' k1]
  simp only
  rw [bind_some' j1]
  simp only
  rw [bind_some' je]
  simp only
  rw [bind_some' ge]
  simp only
  rw [bind_some' ke]
  simp only
  have hw : w64 ((dst a b : Int) + dst b c) = (dst a b : Int) + dst b c := w64_id (by omega) (by omega)
  have hle : (dst a c : Int) ≤ (dst a b : Int) + dst b c := by omega
  rw [hw, bdT hle, bind_some' js]
  simp only
  rw [biT (by rw [strEq_eq]; simp), bind_some' jt]
  simp [strEq_eq]
theorem FnMainThree_pure : ∀ d, GoodA g3_A d → ∃ n, g3_f n d = some (true, ()) := fun d _ => ⟨Big, three_law Big (Nat.le_refl _) d.1 d.2.1 d.2.2.1⟩
end Go.Proofs.YticibdjilmclgaaDoorUF
