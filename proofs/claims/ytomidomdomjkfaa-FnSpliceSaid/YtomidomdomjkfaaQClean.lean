/- What Clean and Runes come to. -/
import Derived.Test.YtomidomdomjkfaaXBase
import Derived.Test.YtomidomdomjkfaaPTx8
import Derived.Test.YtomidomdomjkfaaPTx9
namespace Go.Proofs.Ytomidomdomjkfaa.PT
open Go Go.RowKit Go.Proofs.YtomidomdomjkfaaW.PrintWords
/-- The first characters of a text, as UTF-8. -/
def cln (a : ByteArray) (m : Nat) : ByteArray := runesBytes ((runesOf a).take m)
theorem runes_ok (a : ByteArray) (h : a.size ≤ 70368744177664) : spec_Runes.f a = some (runesOf a) := by simp [spec_Runes.f, h]
theorem clean_ok (a : ByteArray) (m : Nat) (h : a.size ≤ 70368744177664) : spec_Clean.f a (m : Int) = some (cln a m) := by
  unfold spec_Clean.f
  rw [runes_ok a h]
  simp only [Option.bind_some]
  have e : (mn ((runesOf a).length : Int) (m : Int)).toNat = min (runesOf a).length m := by unfold mn; split <;> omega
  rw [if_pos (by unfold mn; split <;> omega), if_pos (by unfold mn; split <;> omega), e]
  unfold cln
  congr 2
  rw [Nat.min_comm, List.take_eq_take_iff]
  omega
theorem cln_size (a : ByteArray) (m : Nat) : (cln a m).size ≤ 4 * m := by
  have := runesBytes_size ((runesOf a).take m)
  have h := List.length_take_le m (runesOf a)
  unfold cln; omega
end Go.Proofs.Ytomidomdomjkfaa.PT
