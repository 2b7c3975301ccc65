/- Plain statements about the printed functions. -/
import Derived.Test.YticibdjilmclgaaGreatDoorZPQ0
import Derived.Test.YticibdjilmclgaaGreatDoorZPQ1
import Derived.Test.YticibdjilmclgaaGreatDoorZGA2
import Derived.Test.YticibdjilmclgaaGreatDoorZFB
namespace Go.Proofs.YticibdjilmclgaaGreatDoorZF
open Go
set_option linter.unusedVariables false
set_option linter.unusedSimpArgs false
theorem losslessExact_law (n : Nat) (hn : Big ≤ n) (x y : List Int) (hx : IsBytes x) (hy : IsBytes y) : g3 n x y = some (true, ()) := by
 dsimp only [g3, g3_1]
 by_cases h1 : (x.length : Int) > 2147483647
 ·rw [bdT h1]
 by_cases h2 : (y.length : Int) > 2147483647
 ·rw [bdF h1, bdT h2]
 have lx := asc_length x 120
 have ly := asc_length y 120
 obtain ⟨a, ha, ta, la⟩ := unblank_ok n hn (asc x 120) (asc_ok hx 120) (by omega)
 obtain ⟨b, hb, tb, lb⟩ := unblank_ok n hn (asc y 120) (asc_ok hy 120) (by omega)
 rw [bdF h1, bdF h2, show (120 : Int) = ((120 : Nat) : Int) from rfl, dfAscii_ok n hn x hx 120 (by omega) (by omega), Option.bind_some]
 simp only
 rw [ha, Option.bind_some, dfAscii_ok n hn y hy 120 (by omega) (by omega), Option.bind_some]
 simp only
 rw [hb, Option.bind_some]
 simp only
 have za := ta.asc.size
 have zb := tb.asc.size
 obtain ⟨l, b1, b2, _⟩ := dfBetween_ok n hn (enc a) (enc b) (by omega) (by omega)
 rw [runes_enc ta.asc.valids, runes_enc tb.asc.valids, List.take_of_length_le (by omega), List.take_of_length_le (by omega)] at b2
 have hl := b2.len
 have hal := all_le (x := l)
 rw [b2.src, b2.tgt] at hal
 have hls := dfLossless_ok n hn l b2.ok (by omega) (by omega)
 have hsp := specLossless_ok n hn l b2.ok (by omega) (by rw [b2.src]; exact ta.flat) (by rw [b2.tgt]; exact tb.flat) (by rw [b2.src]; omega) (by rw [b2.tgt]; omega)
 rw [bind_some' b1]
 simp only
 rw [bind_some' hls]
 simp only
 rw [bind_some' hsp]
 simp only
 have hi := @lossless_inv l
 have hok := hi.2.2.2.1 b2.ok
 have hil := hi.2.2.2.2.1
 have hsame : g8 n (M (lossless l)) (M (lossless l)) = some (decide (lossless l = lossless l), ()) := same_ok n hn _ _ (by omega) hok hok
 rw [bind_some' hsame]
 simp only [decide_true, cond_true]
 obtain ⟨z, z1, z2, z4⟩ := ex3_ok n hn
 have z5 := three_loss z2.ok z4 z2.src z2.tgt (by rw [z2.ed, ex3_dst])
 have zal := all_le (x := z)
 rw [z2.src, z2.tgt] at zal
 simp only [List.length_cons, List.length_nil] at zal
 rw [bind_some' z1]
 simp only
 rw [bind_some' (dfLossless_ok n hn z z2.ok (by omega) (by omega))]
 simp only
 have zml : (M (lossless z)).length = (lossless z).length := List.length_map _
 have : ((M (lossless z)).length : Int) == 3 := by rw [beq_iff_eq, zml, z5]; rfl
 rw [this]
theorem FnLosslessExact_pure : ∀ d, GoodA g3_A d → ∃ n, g3_f n d = some (true, ()) := fun d hd => ⟨Big, losslessExact_law Big (Nat.le_refl _) d.1 d.2.1 (GoodK.bytes hd.1).1 (GoodK.bytes hd.2.1).1⟩
end Go.Proofs.YticibdjilmclgaaGreatDoorZF
