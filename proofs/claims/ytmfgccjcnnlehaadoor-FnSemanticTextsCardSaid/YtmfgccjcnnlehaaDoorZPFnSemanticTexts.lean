/- Plain statements about the printed functions. -/
import Derived.Test.YtmfgccjcnnlehaaDoorZPQ0
import Derived.Test.YtmfgccjcnnlehaaDoorZPQ1
import Derived.Test.YtmfgccjcnnlehaaDoorZGA1
import Derived.Test.YtmfgccjcnnlehaaDoorZFB
namespace Go.Proofs.YtmfgccjcnnlehaaDoorZF
open Go
set_option linter.unusedVariables false
set_option linter.unusedSimpArgs false
theorem kept2_ok (n : Nat) (hn : Big ≤ n) (x y : List Rp) (hs : srcR x = srcR y) (ht : tgtR x = tgtR y) (hl : x.length ≤ 1000000) (hl2 : y.length ≤ 1000000) (ha : allR x ≤ 10000000) (ha2 : allR y ≤ 10000000) : g37 n (M x) (M y) = some (true, ()) := by
 have gs : g40 n (M y) = some (enc (srcR y), ()) := source_ok n hn y (by omega) (by omega)
 have gt : g67 n (M y) = some (enc (tgtR y), ()) := target_ok n hn y (by omega) (by omega)
 have gs' : g40 n (M x) = some (enc (srcR y), ()) := by rw [← hs]; exact source_ok n hn x (by omega) (by omega)
 have gt' : g67 n (M x) = some (enc (tgtR y), ()) := by rw [← ht]; exact target_ok n hn x (by omega) (by omega)
 dsimp only [g37, g37_1]
 rw [bind_some' gs, bind_some' gt, bind_some' gs']
 simp only
 rw [biT (by rw [strEq_eq]; simp), bind_some' gt']
 simp only
 rw [biT (by rw [strEq_eq]; simp)]
 have hml : (M x).length = x.length := List.length_map _
 by_cases hx : x = []
 ·subst hx
  rw [bdF (by rw [hml]; simp), roomy_ok (by rw [← hs, ← ht]; decide), ← hs, ← ht]
  show some (strEq (enc [] ++ enc []) _, ()) = _
  rw [← enc_append, ← enc_nil, List.append_nil, strEq_enc Valids.nil Valids.nil]
  simp
 ·have := List.length_pos_iff.2 hx
  have c : ((M x).length : Int) > 0 := by rw [hml]; omega
  rw [bdT c]
theorem semanticTexts_law (n : Nat) (hn : Big ≤ n) (l : List Prt) : g11 n l = some (true, ()) := by
 dsimp only [g11, g11_1]
 rcases fits_ok n hn l with ⟨h, hl, hs⟩ | h
 ·rw [h, Option.bind_some]
  have hp := parted_ok n hn l hl hs 12 (by omega)
  have ho : Ok (partsOf 12 l) := fun y hy => (partsOf_ok 12 l y hy).1
  have hlen := partsOf_length 12 l
  have hal := all_parts fun y hy => (partsOf_ok 12 l y hy).2
  generalize partsOf 12 l = x at *
  rw [show (12 : Int) = ((12 : Nat) : Int) from rfl, hp, Option.bind_some]
  simp only [Bool.not_true, cond_false]
  obtain ⟨y, h1, h2, h3, h4, h5⟩ := dfSemantic_ok n hn x ho (by omega) (by omega)
  have h6 := all_le (x := y)
  rw [h3, h4] at h6
  have h7 := srcR_le x
  have h8 := tgtR_le x
  have hk := kept2_ok n hn y x h3 h4 (by omega) (by omega) (by omega) (by omega)
  have e : x.map emb = M x := rfl
  rw [e, bind_some' h1]
  simp only
  rw [bind_some' hk]
 ·rw [h]; rfl
theorem FnSemanticTexts_pure : ∀ d, GoodA g11_A d → ∃ n, g11_f n d = some (true, ()) := fun d _ => ⟨Big, semanticTexts_law Big (Nat.le_refl _) d.1⟩
end Go.Proofs.YtmfgccjcnnlehaaDoorZF
