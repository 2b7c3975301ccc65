/- The plain statement of FnMainBack. -/
import Derived.Test.YthkiaiilpaojnaaDoorUPB
import Derived.Test.YthkiaiilpaojnaaDoorUPLoop
import Derived.Test.YthkiaiilpaojnaaDoorUPUtf
import Derived.Test.YthkiaiilpaojnaaDoorUPEnc
import Derived.Test.YthkiaiilpaojnaaDoorUPParts
import Derived.Test.YthkiaiilpaojnaaDoorUPTexts
import Derived.Test.YthkiaiilpaojnaaDoorUPEdited
import Derived.Test.YthkiaiilpaojnaaDoorUPMerge
import Derived.Test.YthkiaiilpaojnaaDoorUPMerge2
import Derived.Test.YthkiaiilpaojnaaDoorUPDist
import Derived.Test.YthkiaiilpaojnaaDoorUPMain
import Derived.Test.YthkiaiilpaojnaaDoorUPMain2
import Derived.Test.YthkiaiilpaojnaaDoorUPDMain
import Derived.Test.YthkiaiilpaojnaaDoorUGA4
import Derived.Test.YthkiaiilpaojnaaDoorUGA5
import Derived.Test.YthkiaiilpaojnaaDoorUFB
namespace Go.Proofs.YthkiaiilpaojnaaDoorUF
open Go
set_option linter.unusedVariables false
set_option linter.unusedSimpArgs false
theorem back_law (n : Nat) (hn : Big ≤ n) (x y : ByteArray) : g9 n x y = some (true, ()) := by
  dsimp only [g9, g9_1]
  by_cases h1 : (x.size : Int) > 2147483647
  · rw [bdT h1]
  by_cases h2 : (y.size : Int) > 2147483647
  · rw [bdF h1, bdT h2]
  rw [bdF h1, bdF h2, show (120 : Int) = ((120 : Nat) : Int) from rfl, clean_ok n x 120 (by omega), Option.bind_some, clean_ok n y 120 (by omega), Option.bind_some]
  have va : Valids ((runesOf x).take 120) := (runesOf_valid x).take _
  have vb : Valids ((runesOf y).take 120) := (runesOf_valid y).take _
  have la : ((runesOf x).take 120).length ≤ 120 := by rw [List.length_take]; omega
  have lb : ((runesOf y).take 120).length ≤ 120 := by rw [List.length_take]; omega
  generalize (runesOf x).take 120 = a at *
  generalize (runesOf y).take 120 = b at *
  simp only
  obtain ⟨l, g1, g2, _⟩ := dfMain_ok n hn a b va vb (by omega)
  obtain ⟨m, k1, k2, _⟩ := dfMain_ok n hn b a vb va (by omega)
  have hl := g2.len
  have hal := all_le (x := l)
  rw [g2.src, g2.tgt] at hal
  have hm := k2.len
  have ham := all_le (x := m)
  rw [k2.src, k2.tgt] at ham
  have gs : g34 n (M l) = some (enc a, ()) := by rw [← g2.src]; exact source_ok n hn l (by omega) (by omega)
  have ge : g37 n (M l) = some ((dst a b : Int), ()) := by rw [← g2.ed]; exact edited_ok n hn l g2.ok (by omega) (by omega)
  have kt : g35 n (M m) = some (enc a, ()) := by rw [← k2.tgt]; exact target_ok n hn m (by omega) (by omega)
  have ke : g37 n (M m) = some ((dst a b : Int), ()) := by rw [dst_comm _ a b (Nat.le_refl _), ← k2.ed]; exact edited_ok n hn m k2.ok (by omega) (by omega)
  rw [bind_some' g1]
  simp only
  rw [bind_some' k1]
  simp only
  rw [bind_some' ge]
  simp only
  rw [bind_some' ke]
  simp only
  rw [biT (by simp), bind_some' gs]
  simp only
  rw [biT (by rw [strEq_eq]; simp), bind_some' kt]
  simp [strEq_eq]
theorem FnMainBack_pure : ∀ d, GoodA g9_A d → ∃ n, g9_f n d = some (true, ()) := fun d _ => ⟨Big, back_law Big (Nat.le_refl _) d.1 d.2.1⟩
end Go.Proofs.YthkiaiilpaojnaaDoorUF
