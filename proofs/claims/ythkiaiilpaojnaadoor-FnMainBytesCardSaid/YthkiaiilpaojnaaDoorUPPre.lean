/- Whether a text begins with another. -/
import Derived.Test.YthkiaiilpaojnaaDoorUPB
import Derived.Test.YthkiaiilpaojnaaDoorUPUtf
import Derived.Test.YthkiaiilpaojnaaDoorUPEnc
import Derived.Test.YthkiaiilpaojnaaDoorUGA0
import Derived.Test.YthkiaiilpaojnaaDoorUFB
namespace Go.Proofs.YthkiaiilpaojnaaDoorUF
open Go
set_option linter.unusedVariables false
set_option linter.unusedSimpArgs false
open Classical in
theorem hasPrefix_raw (n : Nat) (x y : ByteArray) (hx : x.size ≤ 1000000000000) (hy : y.size ≤ 1000000000000) : g100 n x y = some (decide (∃ u, x = y ++ u), ()) := by
  dsimp only [g100, g100_1, g126, g126_1]
  by_cases h : y.size ≤ x.size
  · rw [bdT (by omega), bnd_ok (by omega) (by omega) (by omega), Option.bind_some]
    have e : strEq (cutS x 0 (y.size : Int)) y = decide (∃ u, x = y ++ u) := by
      rw [strEq_eq]
      congr 1
      refine propext ⟨fun h1 => ⟨cutS x (y.size : Int) (x.size : Int), ?_⟩, ?_⟩
      · apply bytesOf_inj
        rw [bytesOf_append, bytesOf_cutS, cut_to _ _ _ (by rw [bytesOf_length]; omega)]
        have : bytesOf y = (bytesOf x).take y.size := by rw [← h1, bytesOf_cutS, cut_from, h1]; simp
        rw [this, show ((y.size : Nat) : Int).toNat = y.size by omega, List.take_append_drop]
      · rintro ⟨u, hu⟩
        have := cutS_append_left y u
        rw [← hu] at this
        exact this
    rw [e]
  · rw [bdF (by omega), Option.bind_some]
    rw [decide_eq_false]
    rintro ⟨u, hu⟩
    have hs := congrArg ByteArray.size hu
    rw [size_append] at hs; omega
theorem hasPrefix_ok (n : Nat) (x y : List Int) (hx : Valids x) (hy : Valids y) (h1 : x.length ≤ 100000000000) (h2 : y.length ≤ 100000000000) : g100 n (enc x) (enc y) = some (decide (y <+: x), ()) := by
  have e1 := enc_size_le x
  have e2 := enc_size_le y
  rw [hasPrefix_raw n _ _ (by omega) (by omega)]
  congr 2
  simp only [decide_eq_decide]
  constructor
  · rintro ⟨u, hu⟩
    obtain ⟨c, hc, _⟩ := pre_of_bytes hx hy hu
    exact ⟨c, hc.symm⟩
  · rintro ⟨c, hc⟩
    exact ⟨enc c, by rw [← hc, enc_append]⟩
/-- The part ahead of a text's end; behind its beginning. -/
theorem cut_prefix {x y : List Int} (h : y <+: x) : cutS (enc x) ((enc y).size : Int) ((enc x).size : Int) = enc (x.drop y.length) ∧ (enc y).size ≤ (enc x).size := by
  obtain ⟨c, rfl⟩ := h
  have hs := enc_size_append y c
  refine ⟨?_, by omega⟩
  rw [enc_append, cutS_append_right]
  simp
end Go.Proofs.YthkiaiilpaojnaaDoorUF
