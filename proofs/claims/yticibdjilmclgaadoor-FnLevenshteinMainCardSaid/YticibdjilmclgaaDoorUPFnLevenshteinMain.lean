/- The plain statement of FnLevenshteinMain. -/
import Derived.Test.YticibdjilmclgaaDoorUPB
import Derived.Test.YticibdjilmclgaaDoorUPLoop
import Derived.Test.YticibdjilmclgaaDoorUPUtf
import Derived.Test.YticibdjilmclgaaDoorUPEnc
import Derived.Test.YticibdjilmclgaaDoorUPParts
import Derived.Test.YticibdjilmclgaaDoorUPTexts
import Derived.Test.YticibdjilmclgaaDoorUPEdited
import Derived.Test.YticibdjilmclgaaDoorUPMerge
import Derived.Test.YticibdjilmclgaaDoorUPMerge2
import Derived.Test.YticibdjilmclgaaDoorUPDist
import Derived.Test.YticibdjilmclgaaDoorUPLev
import Derived.Test.YticibdjilmclgaaDoorUPMain
import Derived.Test.YticibdjilmclgaaDoorUPMain2
import Derived.Test.YticibdjilmclgaaDoorUPDMain
import Derived.Test.YticibdjilmclgaaDoorUPMade
import Derived.Test.YticibdjilmclgaaDoorUGA4
import Derived.Test.YticibdjilmclgaaDoorUGA5
import Derived.Test.YticibdjilmclgaaDoorUFB
namespace Go.Proofs.YticibdjilmclgaaDoorUF
open Go
set_option linter.unusedVariables false
set_option linter.unusedSimpArgs false
theorem lev_law (n : Nat) (hn : Big ≤ n) (x y : ByteArray) : g11 n x y = some (true, ()) := by
  dsimp only [g11, g11_1]
  by_cases h1 : (x.size : Int) > 2147483647
  · rw [bdT h1]
  by_cases h2 : (y.size : Int) > 2147483647
  · rw [bdF h1, bdT h2]
  rw [bdF h1, bdF h2, show (120 : Int) = ((120 : Nat) : Int) from rfl, clean_ok n x 120 (by omega), Option.bind_some, clean_ok n y 120 (by omega), Option.bind_some]
  have va : Valids ((runesOf x).take 120) := (runesOf_valid x).take _
  have vb : Valids ((runesOf y).take 120) := (runesOf_valid y).take _
  have la : ((runesOf x).take 120).length ≤ 120 := by rw [List.length_take]; omega
  have lb : ((runesOf y).take 120).length ≤ 120 := by rw [List.length_take]; omega
  generalize (runesOf x).take 120 = a at *
  generalize (runesOf y).take 120 = b at *
  simp only
  obtain ⟨l, g1, g2, _⟩ := dfMain_ok n hn a b va vb (by omega)
  have hl := g2.len
  have hal := all_le (x := l)
  rw [g2.src, g2.tgt] at hal
  have ea := enc_size_le a
  have eb := enc_size_le b
  have gs : g16 n (M l) = some (enc a, ()) := by rw [← g2.src]; exact source_ok n hn l (by omega) (by omega)
  have ge : g15 n (M l) = some ((edR l : Int), ()) := edited_ok n hn l g2.ok (by omega) (by omega)
  obtain ⟨p, hp⟩ : ∃ p, g42 n = some (p, ()) := ⟨_, rfl⟩
  have hmk : g46 n (M l) = some (M l, ()) := made_ok n hn l (by omega) g2.ok
  obtain ⟨v, v1, v2, v3, v4, v5⟩ := lev_ok n hn p l g2.ok (by omega) (by omega)
  have v1 : g45 n p (M l) = some (v, ()) := v1
  have gl : g32 n (M l) = some (v, ()) := by
    dsimp only [g32, g32_1]
    rw [bind_some' hp]
    simp only
    rw [bind_some' hmk]
    simp only
    rw [bind_some' v1]
  have hdi := dl_in l g2.ok.ops
  rw [g2.src, g2.tgt] at hdi
  have hel := edR_le l
  rw [bind_some' g1]
  simp only
  rw [bind_some' gl]
  simp only
  rw [bind_some' ge]
  simp only
  rw [runesOk_enc n a va (by omega), Option.bind_some, runesOk_enc n b vb (by omega), Option.bind_some]
  simp only
  have c1 : v ≤ (edR l : Int) := by omega
  have c2 : 2 * v ≥ (edR l : Int) := by omega
  have c3 : v ≥ (a.length : Int) - b.length := by omega
  have c4 : v ≥ 0 - ((a.length : Int) - b.length) := by omega
  rw [bdT c1, w64_id (n := 2 * v) (by omega) (by omega), bdT c2, w64_id (n := (a.length : Int) - b.length) (by omega) (by omega), bdT c3, w64_id (n := 0 - ((a.length : Int) - b.length)) (by omega) (by omega), bdT c4, bind_some' gs]
  simp [strEq_eq]
theorem FnLevenshteinMain_pure : ∀ d, GoodA g11_A d → ∃ n, g11_f n d = some (true, ()) := fun d _ => ⟨Big, lev_law Big (Nat.le_refl _) d.1 d.2.1⟩
end Go.Proofs.YticibdjilmclgaaDoorUF
