/- Plain statements about the printed functions. -/
import Derived.Test.YtfnjlgflbenfoaaDoorZPQ0
import Derived.Test.YtfnjlgflbenfoaaDoorZGA0
import Derived.Test.YtfnjlgflbenfoaaDoorZFB
namespace Go.Proofs.YtfnjlgflbenfoaaDoorZF
open Go
set_option linter.unusedVariables false
set_option linter.unusedSimpArgs false
theorem all_parts : ∀ {l : List Rp}, (∀ y ∈ l, y.2.length ≤ 30) → allR l ≤ 30 * l.length
 | [], _ => Nat.le_refl _
 | d :: l, h => by
  have h1 := all_parts (l := l) fun y hy => h y (by simp [hy])
  have h2 := h d (by simp)
  rw [allR_cons, List.length_cons]; omega
theorem losslessTexts_law (n : Nat) (hn : Big ≤ n) (l : List Prt) : g8 n l = some (true, ()) := by
 dsimp only [g8, g8_1]
 rcases fits_ok n hn l with ⟨h, hl, hs⟩ | h
 ·rw [h, Option.bind_some]
  have hp := parted_ok n hn l hl hs 12 (by omega)
  have ho : Ok (partsOf 12 l) := fun y hy => (partsOf_ok 12 l y hy).1
  have hlen := partsOf_length 12 l
  have hal := all_parts fun y hy => (partsOf_ok 12 l y hy).2
  generalize partsOf 12 l = x at *
  rw [show (12 : Int) = ((12 : Nat) : Int) from rfl, hp, Option.bind_some]
  simp only [Bool.not_true, cond_false]
  have hi := @lossless_inv x
  have hil := hi.2.2.2.2.1
  have h1 := dfLossless_ok n hn x ho (by omega) (by omega)
  have h2 := all_le (x := lossless x)
  rw [hi.1, hi.2.1] at h2
  have h3 := srcR_le x
  have h4 := tgtR_le x
  have hk := dfKept_ok n hn (lossless x) x hi.1 hi.2.1 hi.2.2.2.2.2 (by omega) (by omega) (by omega) (by omega)
  have e : x.map emb = M x := rfl
  rw [e, bind_some' h1]
  simp only
  rw [bind_some' hk]
 ·rw [h]; rfl
theorem FnLosslessTexts_pure : ∀ d, GoodA g8_A d → ∃ n, g8_f n d = some (true, ()) := fun d _ => ⟨Big, losslessTexts_law Big (Nat.le_refl _) d.1⟩
end Go.Proofs.YtfnjlgflbenfoaaDoorZF
