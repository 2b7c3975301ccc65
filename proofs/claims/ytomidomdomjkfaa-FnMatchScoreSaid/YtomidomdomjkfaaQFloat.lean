/- Floats that are whole numbers, and what is never NaN. -/
import Derived.Test.YtomidomdomjkfaaXBase
import Derived.Test.YtomidomdomjkfaaXFloat
import Derived.Laws.FloatBits

namespace Go.Proofs.YtomidomdomjkfaaW.PrintWords
open Go Go.RowKit Ieee
theorem sw : double.signWeight = 9223372036854775808 := by decide
theorem ir : double.infRung = 9218868437227405312 := by decide
theorem bn : double.binade = 4503599627370496 := by decide
theorem lp : double.leastPlace = -1074 := by decide
/-- The rung of a magnitude. -/
def rungD (mag : Nat) (place : Int) : Nat :=
  if mag = 0 then 0 else
  min ((max (place + mag.log2 - double.fractionBits) double.leastPlace - double.leastPlace).toNat * double.binade + Toward.even.cut false (mag <<< (place - max (place + mag.log2 - double.fractionBits) double.leastPlace).toNat) (max (place + mag.log2 - double.fractionBits) double.leastPlace - place).toNat) double.infRung
theorem nearest_word (neg : Bool) (mag : Nat) (place : Int) : double.nearest neg mag place = double.word neg (rungD mag place) := by
  unfold Format.nearest rungD
  split
  · rfl
  · cases neg <;> rfl
theorem rungD_le (mag : Nat) (place : Int) : rungD mag place ≤ 9218868437227405312 := by
  unfold rungD
  split
  · omega
  · rw [ir]; exact Nat.min_le_right _ _
theorem nearest_false (mag : Nat) (place : Int) : double.nearest false mag place = rungD mag place := by rw [nearest_word]; unfold Format.word; rw [if_neg (by decide)]
theorem nearest_true (mag : Nat) (place : Int) : double.nearest true mag place = 9223372036854775808 + rungD mag place := by rw [nearest_word]; unfold Format.word; rw [if_pos rfl, sw]
theorem abs_nearest (neg : Bool) (mag : Nat) (place : Int) : double.nearest neg mag place % 9223372036854775808 = double.nearest false mag place := by
  have := rungD_le mag place
  cases neg
  · rw [nearest_false]; omega
  · rw [nearest_false, nearest_true]; omega
/-- Not negative, and a number or infinity. -/
def Nn (d : Datum) : Prop := (∃ m p, d = .number false m p) ∨ d = .infinity false
theorem read_rung (r : Nat) (h : r ≤ 9218868437227405312) : Nn (double.read r) := by
  have e1 : r / double.signWeight % 2 = 0 := by rw [sw]; omega
  have e2 : r % double.signWeight = r := by rw [sw]; omega
  unfold Format.read
  simp only [e1, e2]
  split
  · exact .inl ⟨_, _, rfl⟩
  split
  · exact .inl ⟨_, _, rfl⟩
  split
  · exact .inr rfl
  · rename_i h1 h2 h3; rw [ir] at h2 h3; omega
theorem read_nearest (mag : Nat) (place : Int) : Nn (double.read (double.nearest false mag place)) := by rw [nearest_false]; exact read_rung _ (rungD_le _ _)
theorem write_nn {d : Datum} (h : Nn d) : Nn (double.read (double.write d)) := by
  rcases h with ⟨m, p, rfl⟩ | rfl
  · exact read_nearest m p
  · exact .inr (by decide)
theorem order_self {d : Datum} (h : Nn d) : d.order d = some .eq := by
  rcases h with ⟨m, p, rfl⟩ | rfl
  · simp [Datum.order, Int.compare_eq_eq]
  · rfl
theorem signed_nn (m u : Nat) : 0 ≤ signed false m u := by
  unfold signed
  simp only [Bool.false_eq_true, if_false]
  exact Int.natCast_nonneg _
theorem sum_nn {a b : Datum} (ha : Nn a) (hb : Nn b) : ∃ d, a.sum b = some d ∧ Nn d := by
  rcases ha with ⟨m, p, rfl⟩ | rfl <;> rcases hb with ⟨n, q, rfl⟩ | rfl
  · have h0 : ¬ (signed false m (p - min p q).toNat + signed false n (q - min p q).toNat < 0) := by
      have := signed_nn m (p - min p q).toNat
      have := signed_nn n (q - min p q).toNat
      omega
    refine ⟨.number false (signed false m (p - min p q).toNat + signed false n (q - min p q).toNat).natAbs (min p q), ?_, .inl ⟨_, _, rfl⟩⟩
    simp only [Datum.sum, Bool.and_self, decide_eq_false h0, ite_self]
  · exact ⟨_, rfl, .inr rfl⟩
  · exact ⟨_, rfl, .inr rfl⟩
  · exact ⟨_, rfl, .inr rfl⟩
theorem quo_nn {m : Nat} {p : Int} {n : Nat} {q : Int} (hn : n ≠ 0) (k : Nat) : ∃ a b, (Datum.number false m p).quotient k (.number false n q) = some (.number false a b) := by
  exact ⟨2 * ((m <<< (k + n.log2 - m.log2)) / n) + ((m <<< (k + n.log2 - m.log2)) % n != 0).toNat, p - q - ((k + n.log2 - m.log2 : Nat) : Int) - 1, by simp only [Datum.quotient, if_neg hn, Bool.xor_self]⟩
theorem log_le {n : Nat} (h0 : 0 < n) (h : n < 9007199254740992) : n.log2 ≤ 52 := by
  have := (Nat.log2_lt (by omega)).2 (show n < 2 ^ 53 from h)
  omega
theorem min_rung (l N : Nat) (hl : l ≤ 52) (h : N < 9007199254740992) : min ((l + 1022) * 4503599627370496 + N) 9218868437227405312 = (l + 1022) * 4503599627370496 + N := by omega
/-- A whole number below 2 ^ 53 is what its float stands for. -/
theorem read_int (n : Nat) (h0 : 0 < n) (h : n < 9007199254740992) : double.read (double.nearest false n 0) = .number false (n * 2 ^ (52 - n.log2)) ((n.log2 : Int) - 52) := by
  have hl := log_le h0 h
  have hlo : 2 ^ n.log2 ≤ n := Nat.log2_self_le (by omega)
  have hhi : n < 2 ^ (n.log2 + 1) := Nat.lt_log2_self
  generalize hL : n.log2 = l at hl hlo hhi
  have N1 : 4503599627370496 ≤ n * 2 ^ (52 - l) := by
    calc 4503599627370496 = 2 ^ l * 2 ^ (52 - l) := by rw [← Nat.pow_add, show l + (52 - l) = 52 by omega]
      _ ≤ n * 2 ^ (52 - l) := Nat.mul_le_mul_right _ hlo
  have N2 : n * 2 ^ (52 - l) < 9007199254740992 := by
    calc n * 2 ^ (52 - l) < 2 ^ (l + 1) * 2 ^ (52 - l) := Nat.mul_lt_mul_of_pos_right hhi (Nat.two_pow_pos _)
      _ = 9007199254740992 := by rw [← Nat.pow_add, show l + 1 + (52 - l) = 53 by omega]
  have hr : rungD n 0 = (l + 1022) * 4503599627370496 + n * 2 ^ (52 - l) := by
    unfold rungD
    rw [if_neg (by omega), hL, lp, bn, ir]
    have e0 : double.fractionBits = 52 := rfl
    rw [e0]
    have e1 : max ((0 : Int) + (l : Int) - ((52 : Nat) : Int)) (-1074) = (l : Int) - 52 := by omega
    rw [e1]
    have e2 : ((l : Int) - 52 - (-1074)).toNat = l + 1022 := by omega
    have e3 : ((0 : Int) - ((l : Int) - 52)).toNat = 52 - l := by omega
    have e4 : ((l : Int) - 52 - 0).toNat = 0 := by omega
    rw [e2, e3, e4]
    have e5 : Toward.even.cut false (n <<< (52 - l)) 0 = n * 2 ^ (52 - l) := by
      rw [Nat.shiftLeft_eq]
      simp [Toward.cut, Nat.mod_one]
    rw [e5]
    exact min_rung l _ hl N2
  rw [nearest_false, hr]
  clear hr hlo hhi hL h h0
  generalize n * 2 ^ (52 - l) = N at N1 N2
  have e1 : ((l + 1022) * 4503599627370496 + N) / double.signWeight % 2 = 0 := by rw [sw]; omega
  have e2 : ((l + 1022) * 4503599627370496 + N) % double.signWeight = (l + 1022) * 4503599627370496 + N := by rw [sw]; omega
  unfold Format.read
  simp only [e1, e2, bn, ir, lp]
  rw [if_neg (by omega), if_pos (by omega)]
  have e3 : ((l + 1022) * 4503599627370496 + N) % 4503599627370496 = N - 4503599627370496 := by omega
  have e4 : ((l + 1022) * 4503599627370496 + N) / 4503599627370496 = l + 1023 := by omega
  rw [e3, e4]
  have e5 : 4503599627370496 + (N - 4503599627370496) = N := by omega
  have e6 : (-1074 : Int) + ((l + 1023 - 1 : Nat) : Int) = (l : Int) - 52 := by omega
  rw [e5, e6]
  simp
theorem mag_pos (n : Nat) (h0 : 0 < n) (k : Nat) : n * 2 ^ k ≠ 0 := Nat.mul_ne_zero (by omega) (by have := Nat.two_pow_pos k; omega)
theorem floatOfInt_nat (n : Nat) : floatOfInt .f64 (n : Int) = double.nearest false n 0 := by
  show double.nearest (decide ((n : Int) < 0)) ((n : Int)).natAbs 0 = _
  rw [decide_eq_false (by omega), Int.natAbs_natCast]
theorem floatOfInt_abs (n : Int) : floatOfInt .f64 n % 9223372036854775808 = floatOfInt .f64 ((n.natAbs : Nat) : Int) := by
  rw [floatOfInt_nat]
  exact abs_nearest _ _ _
theorem read_small (n : Nat) (h : n < 9007199254740992) : ∃ m p, double.read (double.nearest false n 0) = .number false m p ∧ (m = 0 ↔ n = 0) := by
  rcases Nat.eq_zero_or_pos n with rfl | h0
  · exact ⟨0, -1074, by decide, by simp⟩
  · exact ⟨_, _, read_int n h0 h, by have := mag_pos n h0 (52 - n.log2); omega⟩
end Go.Proofs.YtomidomdomjkfaaW.PrintWords
