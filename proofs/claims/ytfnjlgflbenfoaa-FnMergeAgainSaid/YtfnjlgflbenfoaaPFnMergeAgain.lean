/- The plain statement of FnMergeAgain: merging what was merged changes nothing. -/
import Derived.Test.YtfnjlgflbenfoaaPB
import Derived.Test.YtfnjlgflbenfoaaPLoop
import Derived.Test.YtfnjlgflbenfoaaPUtf
import Derived.Test.YtfnjlgflbenfoaaPEnc
import Derived.Test.YtfnjlgflbenfoaaPParts
import Derived.Test.YtfnjlgflbenfoaaPTexts
import Derived.Test.YtfnjlgflbenfoaaPCmp
import Derived.Test.YtfnjlgflbenfoaaPMerge
import Derived.Test.YtfnjlgflbenfoaaPMerge2
import Derived.Test.YtfnjlgflbenfoaaPMergeW
import Derived.Test.YtfnjlgflbenfoaaPMergeA
import Derived.Test.YtfnjlgflbenfoaaPFnMergeTexts
import Derived.Test.YtfnjlgflbenfoaaGA3
import Derived.Test.YtfnjlgflbenfoaaFB
namespace Go.Proofs.YtfnjlgflbenfoaaF
open Go
set_option linter.unusedVariables false
set_option linter.unusedSimpArgs false
theorem FnMergeAgain_ok (n : Nat) (hn : Big ≤ n) (l : List Prt) : g3 n l = some (true, ()) := by
  dsimp only [g3, g3_1]
  rcases fits_ok n hn l with ⟨h, hl, hs⟩ | h
  · rw [h, Option.bind_some]
    rw [show (12 : Int) = ((12 : Nat) : Int) from rfl, parted_ok n hn l hl hs 12 (by omega)]
    simp only [Option.bind_some, Bool.not_true, cond_false]
    obtain ⟨h1, h2, h3⟩ := parts_small 12 (by omega) l
    have hm := merge_texts h3
    have hsm := merge_small h3 h1 h2
    have hlp : (partsOf 12 l).length ≤ phi (partsOf 12 l) := by unfold phi; omega
    have hph : phi (merge (partsOf 12 l)) ≤ 400000 := by
      have h5 := edR_le (merge (partsOf 12 l))
      unfold phi; omega
    rw [dfMerge_ok n hn _ h3 (by omega) (by omega), Option.bind_some, dfMerge_ok n hn _ h3.merge hph (by omega), Option.bind_some, merge_again h3, same_ok n hn _ _ (by omega) h3.merge h3.merge, Option.bind_some]
    rw [bdT rfl, kept_ok n hn _ _ h3.merge h3 hm.1 hm.2.1 (by omega) (by omega) (by omega) (by omega)]
    rfl
  · rw [h]; rfl
theorem FnMergeAgain_pure (d : DenA g3_A) (hd : GoodA g3_A d) : ∃ n, g3_f n d = some (true, ()) :=
  ⟨Big, FnMergeAgain_ok Big (Nat.le_refl _) d.1⟩
end Go.Proofs.YtfnjlgflbenfoaaF
