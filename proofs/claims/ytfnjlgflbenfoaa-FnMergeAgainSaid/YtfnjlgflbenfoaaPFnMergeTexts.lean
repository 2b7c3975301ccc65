/- The plain statements of FnMergeTexts and FnMergeFewer: merging keeps both texts; no more is edited. -/
import Derived.Test.YtfnjlgflbenfoaaPB
import Derived.Test.YtfnjlgflbenfoaaPLoop
import Derived.Test.YtfnjlgflbenfoaaPUtf
import Derived.Test.YtfnjlgflbenfoaaPEnc
import Derived.Test.YtfnjlgflbenfoaaPParts
import Derived.Test.YtfnjlgflbenfoaaPTexts
import Derived.Test.YtfnjlgflbenfoaaPCmp
import Derived.Test.YtfnjlgflbenfoaaPMerge
import Derived.Test.YtfnjlgflbenfoaaPMerge2
import Derived.Test.YtfnjlgflbenfoaaPMergeW
import Derived.Test.YtfnjlgflbenfoaaPEdited
import Derived.Test.YtfnjlgflbenfoaaGA3
import Derived.Test.YtfnjlgflbenfoaaFB
namespace Go.Proofs.YtfnjlgflbenfoaaF
open Go
set_option linter.unusedVariables false
set_option linter.unusedSimpArgs false
theorem kept_ok (n : Nat) (hn : Big ≤ n) (x y : List Rp) (hx : Ok x) (hy : Ok y) (h1 : srcR x = srcR y) (h2 : tgtR x = tgtR y) (hl : x.length ≤ 1000000) (hl2 : y.length ≤ 1000000) (ha : allR x ≤ 1000000) (ha2 : allR y ≤ 1000000) : g13 n (x.map emb) (y.map emb) = some (true, ()) := by
  dsimp only [g13, g13_1]
  have e1 := enc_size_le (srcR y)
  have e2 := enc_size_le (tgtR y)
  have e3 := srcR_le y
  have e4 := tgtR_le y
  rw [source_ok n hn y (by omega) (by omega), Option.bind_some, target_ok n hn y (by omega) (by omega), Option.bind_some, source_ok n hn x (by omega) (by omega), Option.bind_some, h1]
  simp only
  rw [biT (by rw [strEq_eq]; simp), target_ok n hn x (by omega) (by omega), Option.bind_some, h2, biT (by rw [strEq_eq]; simp)]
  by_cases h : ((x.map emb).length : Int) > 0
  · rw [bdT h]
  · rw [bdF h, roomy_ok (by omega)]
    have : x = [] := List.eq_nil_of_length_eq_zero (by rw [List.length_map] at h; omega)
    subst this
    rw [← h1, ← h2, ← enc_append, strEq_eq]
    exact congrArg (fun b => some (b, ())) (decide_eq_true rfl)
theorem merge_small {x : List Rp} (hx : Ok x) (hp : phi x ≤ 3100) (ha : allR x ≤ 3000) : (merge x).length ≤ 3100 ∧ allR (merge x) ≤ 6000 := by
  have h3 : ∀ (k : Nat) {y : List Rp}, Ok y → phi (mergeN k y) ≤ phi y := by
    intro k
    induction k with
    | zero => intro y _; exact Nat.le_refl _
    | succ k ih =>
      intro y hy
      rw [mergeN]
      have h4 := phi_slide _ [] (join1 y) false rfl
      have h5 := phi_join1 hy.ops
      have h6 : phi [] = 0 := rfl
      have h7 := ih (Ok.slide _ (A := []) (R := join1 y) (ch := false) rfl Ok.nil hy.join1)
      split
      · omega
      · omega
  have h8 := h3 (phi x + 1) hx
  have h9 : (merge x).length ≤ phi (merge x) := by unfold phi; omega
  have h10 := merge_texts hx
  have h11 := all_le (x := merge x)
  rw [h10.1, h10.2.1] at h11
  have h12 := le_all x
  unfold merge at *
  omega
theorem FnMergeTexts_ok (n : Nat) (hn : Big ≤ n) (l : List Prt) : g7 n l = some (true, ()) := by
  dsimp only [g7, g7_1]
  rcases fits_ok n hn l with ⟨h, hl, hs⟩ | h
  · rw [h, Option.bind_some]
    rw [show (12 : Int) = ((12 : Nat) : Int) from rfl, parted_ok n hn l hl hs 12 (by omega)]
    simp only [Option.bind_some, Bool.not_true, cond_false]
    obtain ⟨h1, h2, h3⟩ := parts_small 12 (by omega) l
    have hm := merge_texts h3
    have hsm := merge_small h3 h1 h2
    have hlp : (partsOf 12 l).length ≤ phi (partsOf 12 l) := by unfold phi; omega
    rw [dfMerge_ok n hn _ h3 (by omega) (by omega), Option.bind_some, kept_ok n hn _ _ h3.merge h3 hm.1 hm.2.1 (by omega) (by omega) (by omega) (by omega)]
    rfl
  · rw [h]; rfl
theorem FnMergeTexts_pure (d : DenA g7_A) (hd : GoodA g7_A d) : ∃ n, g7_f n d = some (true, ()) :=
  ⟨Big, FnMergeTexts_ok Big (Nat.le_refl _) d.1⟩
theorem FnMergeFewer_ok (n : Nat) (hn : Big ≤ n) (l : List Prt) : g5 n l = some (true, ()) := by
  dsimp only [g5, g5_1]
  rcases fits_ok n hn l with ⟨h, hl, hs⟩ | h
  · rw [h, Option.bind_some]
    rw [show (12 : Int) = ((12 : Nat) : Int) from rfl, parted_ok n hn l hl hs 12 (by omega)]
    simp only [Option.bind_some, Bool.not_true, cond_false]
    obtain ⟨h1, h2, h3⟩ := parts_small 12 (by omega) l
    have hm := merge_texts h3
    have hsm := merge_small h3 h1 h2
    have hlp : (partsOf 12 l).length ≤ phi (partsOf 12 l) := by unfold phi; omega
    rw [dfMerge_ok n hn _ h3 (by omega) (by omega), Option.bind_some, edited_ok n hn _ h3.merge (by omega) (by omega), Option.bind_some, edited_ok n hn _ h3 (by omega) (by omega), Option.bind_some]
    rw [bdT (by have := hm.2.2; show ((edR _ : Nat) : Int) ≤ ((edR _ : Nat) : Int); omega), kept_ok n hn _ _ h3.merge h3 hm.1 hm.2.1 (by omega) (by omega) (by omega) (by omega)]
    rfl
  · rw [h]; rfl
theorem FnMergeFewer_pure (d : DenA g5_A) (hd : GoodA g5_A d) : ∃ n, g5_f n d = some (true, ()) :=
  ⟨Big, FnMergeFewer_ok Big (Nat.le_refl _) d.1⟩
end Go.Proofs.YtfnjlgflbenfoaaF
