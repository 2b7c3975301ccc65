/- The plain statement of FnMainLeast. -/
import Derived.Test.YthkiaiilpaojnaaDoorUPB
import Derived.Test.YthkiaiilpaojnaaDoorUPLoop
import Derived.Test.YthkiaiilpaojnaaDoorUPUtf
import Derived.Test.YthkiaiilpaojnaaDoorUPEnc
import Derived.Test.YthkiaiilpaojnaaDoorUPParts
import Derived.Test.YthkiaiilpaojnaaDoorUPTexts
import Derived.Test.YthkiaiilpaojnaaDoorUPEdited
import Derived.Test.YthkiaiilpaojnaaDoorUPMerge
import Derived.Test.YthkiaiilpaojnaaDoorUPMerge2
import Derived.Test.YthkiaiilpaojnaaDoorUPDist
import Derived.Test.YthkiaiilpaojnaaDoorUPGrid
import Derived.Test.YthkiaiilpaojnaaDoorUPLeast
import Derived.Test.YthkiaiilpaojnaaDoorUPMain
import Derived.Test.YthkiaiilpaojnaaDoorUPMain2
import Derived.Test.YthkiaiilpaojnaaDoorUPDMain
import Derived.Test.YthkiaiilpaojnaaDoorUGA4
import Derived.Test.YthkiaiilpaojnaaDoorUGA5
import Derived.Test.YthkiaiilpaojnaaDoorUFB
namespace Go.Proofs.YthkiaiilpaojnaaDoorUF
open Go
set_option linter.unusedVariables false
set_option linter.unusedSimpArgs false
theorem least_law (n : Nat) (hn : Big ≤ n) (x y : ByteArray) : g12 n x y = some (true, ()) := by
  dsimp only [g12, g12_1]
  by_cases h1 : (x.size : Int) > 2147483647
  · rw [bdT h1]
  by_cases h2 : (y.size : Int) > 2147483647
  · rw [bdF h1, bdT h2]
  rw [bdF h1, bdF h2, show (80 : Int) = ((80 : Nat) : Int) from rfl, clean_ok n x 80 (by omega), Option.bind_some, clean_ok n y 80 (by omega), Option.bind_some]
  have va : Valids ((runesOf x).take 80) := (runesOf_valid x).take _
  have vb : Valids ((runesOf y).take 80) := (runesOf_valid y).take _
  have la : ((runesOf x).take 80).length ≤ 80 := by rw [List.length_take]; omega
  have lb : ((runesOf y).take 80).length ≤ 80 := by rw [List.length_take]; omega
  generalize (runesOf x).take 80 = a at *
  generalize (runesOf y).take 80 = b at *
  simp only
  obtain ⟨l, g1, g2, _⟩ := dfMain_ok n hn a b va vb (by omega)
  have hl := g2.len
  have hal := all_le (x := l)
  rw [g2.src, g2.tgt] at hal
  have ea := enc_size_le a
  have eb := enc_size_le b
  have gs : g34 n (M l) = some (enc a, ()) := by rw [← g2.src]; exact source_ok n hn l (by omega) (by omega)
  have gt : g35 n (M l) = some (enc b, ()) := by rw [← g2.tgt]; exact target_ok n hn l (by omega) (by omega)
  have ge : g37 n (M l) = some ((dst a b : Int), ()) := by rw [← g2.ed]; exact edited_ok n hn l g2.ok (by omega) (by omega)
  rw [bind_some' g1]
  simp only
  rw [bind_some' gs]
  simp only
  rw [biT (by rw [strEq_eq]; simp), bind_some' gt]
  simp only
  rw [biT (by rw [strEq_eq]; simp), bind_some' ge, runesOk_enc n a va (by omega), Option.bind_some, runesOk_enc n b vb (by omega), Option.bind_some]
  simp only
  rw [least_ok n hn a b (by omega) (by omega)]
  simp
theorem FnMainLeast_pure : ∀ d, GoodA g12_A d → ∃ n, g12_f n d = some (true, ()) := fun d _ => ⟨Big, least_law Big (Nat.le_refl _) d.1 d.2.1⟩
end Go.Proofs.YthkiaiilpaojnaaDoorUF
