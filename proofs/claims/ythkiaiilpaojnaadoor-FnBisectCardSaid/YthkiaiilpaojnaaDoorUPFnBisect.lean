/- The plain statement of FnBisect. -/
import Derived.Test.YthkiaiilpaojnaaDoorUPB
import Derived.Test.YthkiaiilpaojnaaDoorUPLoop
import Derived.Test.YthkiaiilpaojnaaDoorUPUtf
import Derived.Test.YthkiaiilpaojnaaDoorUPEnc
import Derived.Test.YthkiaiilpaojnaaDoorUPAsc
import Derived.Test.YthkiaiilpaojnaaDoorUPParts
import Derived.Test.YthkiaiilpaojnaaDoorUPTexts
import Derived.Test.YthkiaiilpaojnaaDoorUPEdited
import Derived.Test.YthkiaiilpaojnaaDoorUPMerge
import Derived.Test.YthkiaiilpaojnaaDoorUPMerge2
import Derived.Test.YthkiaiilpaojnaaDoorUPDist
import Derived.Test.YthkiaiilpaojnaaDoorUPGrid
import Derived.Test.YthkiaiilpaojnaaDoorUPLeast
import Derived.Test.YthkiaiilpaojnaaDoorUPMain
import Derived.Test.YthkiaiilpaojnaaDoorUPMain2
import Derived.Test.YthkiaiilpaojnaaDoorUPBTop
import Derived.Test.YthkiaiilpaojnaaDoorUGA4
import Derived.Test.YthkiaiilpaojnaaDoorUFB
namespace Go.Proofs.YthkiaiilpaojnaaDoorUF
open Go
set_option linter.unusedVariables false
set_option linter.unusedSimpArgs false
theorem enc_xx : enc [120, 120] = (⟨#[120, 120]⟩ : ByteArray) := by rw [← Asc.eq (by intro b hb; simp at hb; omega)]; rfl
theorem enc_y : enc [121] = (⟨#[121]⟩ : ByteArray) := by rw [← Asc.eq (by intro b hb; simp at hb; omega)]; rfl
theorem bisect_law (n : Nat) (hn : Big ≤ n) (x y : ByteArray) : g8 n x y = some (true, ()) := by
  dsimp only [g8, g8_1]
  by_cases h1 : (x.size : Int) > 2147483647
  · rw [bdT h1]
  by_cases h2 : (y.size : Int) > 2147483647
  · rw [bdF h1, bdT h2]
  rw [bdF h1, bdF h2, show (60 : Int) = ((60 : Nat) : Int) from rfl, clean_ok n x 60 (by omega), Option.bind_some, clean_ok n y 60 (by omega)]
  have va : Valids ((runesOf x).take 60) := (runesOf_valid x).take _
  have vb : Valids ((runesOf y).take 60) := (runesOf_valid y).take _
  have la : ((runesOf x).take 60).length ≤ 60 := by rw [List.length_take]; omega
  have lb : ((runesOf y).take 60).length ≤ 60 := by rw [List.length_take]; omega
  generalize (runesOf x).take 60 = a at *
  generalize (runesOf y).take 60 = b at *
  have wa : Valids ([120, 120] ++ a) := Valids.append (Asc.valids (by intro b hb; simp at hb; omega)) va
  have wb : Valids ([121] ++ b) := Valids.append (Asc.valids (by intro b hb; simp at hb; omega)) vb
  have e1 := enc_size_le a
  have e2 := enc_size_le b
  simp only [Option.bind_some]
  rw [roomy_ok (by rw [← enc_xx]; have := enc_size_le [120, 120]; simp at this; omega), roomy_ok (by rw [← enc_y]; have := enc_size_le [121]; simp at this; omega), ← enc_xx, ← enc_y, ← enc_append, ← enc_append]
  have l1 : ([120, 120] ++ a).length ≤ 62 := by simp; omega
  have l2 : ([121] ++ b).length ≤ 61 := by simp; omega
  have l3 : 3 ≤ ([120, 120] ++ a).length + ([121] ++ b).length := by simp; omega
  have n1 : [120, 120] ++ a ≠ [] := by simp
  have n2 : [121] ++ b ≠ [] := by simp
  generalize [120, 120] ++ a = a at *
  generalize [121] ++ b = b at *
  obtain ⟨l, g1, g2⟩ := dfBisect_ok n hn a b wa wb n1 n2 l3 (by omega)
  have hl := g2.len
  have hal := all_le (x := l)
  rw [g2.src, g2.tgt] at hal
  have ea := enc_size_le a
  have eb := enc_size_le b
  have gs : g34 n (M l) = some (enc a, ()) := by rw [← g2.src]; exact source_ok n hn l (by omega) (by omega)
  have gt : g35 n (M l) = some (enc b, ()) := by rw [← g2.tgt]; exact target_ok n hn l (by omega) (by omega)
  have ge : g37 n (M l) = some ((dst a b : Int), ()) := by rw [← g2.ed]; exact edited_ok n hn l g2.ok (by omega) (by omega)
  rw [bind_some' g1]
  simp only
  rw [bind_some' gs]
  simp only
  rw [biT (by rw [strEq_eq]; simp), bind_some' gt]
  simp only
  rw [biT (by rw [strEq_eq]; simp), bind_some' ge, runesOk_enc n a wa (by omega), Option.bind_some, runesOk_enc n b wb (by omega), Option.bind_some]
  simp only
  rw [least_ok n hn a b (by omega) (by omega)]
  simp
theorem FnBisect_pure : ∀ d, GoodA g8_A d → ∃ n, g8_f n d = some (true, ()) := fun d _ => ⟨Big, bisect_law Big (Nat.le_refl _) d.1 d.2.1⟩
end Go.Proofs.YthkiaiilpaojnaaDoorUF
