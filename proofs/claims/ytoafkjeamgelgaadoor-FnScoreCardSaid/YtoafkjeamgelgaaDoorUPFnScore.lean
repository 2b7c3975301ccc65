/- The plain statement of FnScore. -/
import Derived.Test.YtoafkjeamgelgaaDoorUPScore
import Derived.Test.YtoafkjeamgelgaaDoorUGA1
import Derived.Test.YtoafkjeamgelgaaDoorUFB
namespace Go.Proofs.YtoafkjeamgelgaaDoorUF
open Go
theorem score_pure (n : Nat) (hn : Big ≤ n) (x y : List Int) (hx : IsBytes x) (hy : IsBytes y) : g4 n x y = some (true, ()) := by
  dsimp only [g4, g4_1]
  by_cases h1 : (x.length : Int) > 2147483647
  · rw [bdT h1]
  · rw [bdF h1]
    by_cases h2 : (y.length : Int) > 2147483647
    · rw [bdT h2]
    · rw [bdF h2, show (20 : Int) = ((20 : Nat) : Int) from rfl, dfAscii_ok n hn x hx 20 (by omega) (by omega), dfAscii_ok n hn y hy 20 (by omega) (by omega), Option.bind_some, Option.bind_some]
      have l1 := asc_length x 20
      have l2 := asc_length y 20
      obtain ⟨z, e, ht, hz⟩ := unblank_ok n hn _ (asc_ok hy 20) (by omega)
      rw [e, Option.bind_some]
      dsimp only [g12, g12_1, g30, g30_1]
      rw [score_ok n _ z (asc_ok hx 20) ht.asc (by omega) (by omega) ht.blankE, boundary_ok n hn _ z (asc_ok hx 20) ht.asc (by omega) (by omega) fun b t hbt => ⟨fun h => ht.head t (by rw [hbt, h]), ht.cr b (by rw [hbt]; simp)⟩]
      simp
theorem FnScore_pure : ∀ d, GoodA g4_A d → ∃ n, g4_f n d = some (true, ()) := fun d h =>
  ⟨Big, score_pure Big (Nat.le_refl _) d.1 d.2.1 (GoodK.bytes h.1).1 (GoodK.bytes h.2.1).1⟩
end Go.Proofs.YtoafkjeamgelgaaDoorUF
