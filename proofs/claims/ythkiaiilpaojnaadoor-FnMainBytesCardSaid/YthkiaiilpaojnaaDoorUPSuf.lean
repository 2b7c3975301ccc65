/- Whether a text ends with another. -/
import Derived.Test.YthkiaiilpaojnaaDoorUPB
import Derived.Test.YthkiaiilpaojnaaDoorUPUtf
import Derived.Test.YthkiaiilpaojnaaDoorUPEnc
import Derived.Test.YthkiaiilpaojnaaDoorUGA0
import Derived.Test.YthkiaiilpaojnaaDoorUFB
namespace Go.Proofs.YthkiaiilpaojnaaDoorUF
open Go
set_option linter.unusedVariables false
set_option linter.unusedSimpArgs false
open Classical in
theorem hasSuffix_raw (n : Nat) (x y : ByteArray) (hx : x.size ≤ 1000000000000) (hy : y.size ≤ 1000000000000) : g158 n x y = some (decide (∃ u, x = u ++ y), ()) := by
  dsimp only [g158, g158_1, g177, g177_1]
  by_cases h : y.size ≤ x.size
  · rw [bdT (by omega), w64_id (by omega) (by omega), bnd_ok (by omega) (by omega) (by omega), Option.bind_some]
    have e : strEq (cutS x ((x.size : Int) - (y.size : Int)) (x.size : Int)) y = decide (∃ u, x = u ++ y) := by
      rw [strEq_eq]
      congr 1
      refine propext ⟨fun h1 => ⟨cutS x 0 ((x.size : Int) - (y.size : Int)), ?_⟩, ?_⟩
      · apply bytesOf_inj
        rw [bytesOf_append, ← h1, bytesOf_cutS, bytesOf_cutS, cut_from, cut_to _ _ _ (by rw [bytesOf_length]; omega)]
        have : ((x.size : Int) - ((cutS x ((x.size : Int) - (y.size : Int)) (x.size : Int)).size : Int)).toNat = ((x.size : Int) - (y.size : Int)).toNat := by
          rw [size_cutS (by omega) (by omega) (by omega)]; omega
        rw [this, List.take_append_drop]
      · rintro ⟨u, hu⟩
        have hs := congrArg ByteArray.size hu
        rw [size_append] at hs
        have := cutS_append_right u y
        rw [← hu] at this
        rw [show (x.size : Int) - (y.size : Int) = (u.size : Int) by omega]
        exact this
    rw [e]
  · rw [bdF (by omega), Option.bind_some]
    rw [decide_eq_false]
    rintro ⟨u, hu⟩
    have hs := congrArg ByteArray.size hu
    rw [size_append] at hs; omega
theorem hasSuffix_ok (n : Nat) (x y : List Int) (hx : Valids x) (hy : Valids y) (h1 : x.length ≤ 100000000000) (h2 : y.length ≤ 100000000000) : g158 n (enc x) (enc y) = some (decide (y <:+ x), ()) := by
  have e1 := enc_size_le x
  have e2 := enc_size_le y
  rw [hasSuffix_raw n _ _ (by omega) (by omega)]
  congr 2
  simp only [decide_eq_decide]
  constructor
  · rintro ⟨u, hu⟩
    obtain ⟨c, hc, _⟩ := suf_of_bytes hx hy hu
    exact ⟨c, hc.symm⟩
  · rintro ⟨c, hc⟩
    exact ⟨enc c, by rw [← hc, enc_append]⟩
theorem cut_suffix {x y : List Int} (h : y <:+ x) : cutS (enc x) 0 (((enc x).size : Int) - ((enc y).size : Int)) = enc (x.take (x.length - y.length)) ∧ (enc y).size ≤ (enc x).size := by
  obtain ⟨c, rfl⟩ := h
  have hs := enc_size_append c y
  refine ⟨?_, by omega⟩
  rw [show ((enc (c ++ y)).size : Int) - ((enc y).size : Int) = ((enc c).size : Int) by omega, enc_append, cutS_append_left]
  simp
end Go.Proofs.YthkiaiilpaojnaaDoorUF
