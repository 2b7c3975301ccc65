/- Plain statements about the printed functions. -/
import Derived.Test.YtmfgccjcnnlehaaDoorZPQ0
import Derived.Test.YtmfgccjcnnlehaaDoorZFB
import Derived.Laws.FloatBits
import Derived.Test.YtmfgccjcnnlehaaDoorZGA0
import Derived.Test.YtmfgccjcnnlehaaDoorZGA1
namespace Go.Proofs.YtmfgccjcnnlehaaDoorZF
open Go Ieee
set_option linter.unusedVariables false
set_option linter.unusedSimpArgs false
theorem sw : double.signWeight = 9223372036854775808 := by decide
theorem ir : double.infRung = 9218868437227405312 := by decide
theorem bn : double.binade = 4503599627370496 := by decide
theorem lp : double.leastPlace = -1074 := by decide
def rungD (mag : Nat) (place : Int) : Nat :=
 if mag = 0 then 0 else
 min ((max (place + mag.log2 - double.fractionBits) double.leastPlace - double.leastPlace).toNat * double.binade + Toward.even.cut false (mag <<< (place - max (place + mag.log2 - double.fractionBits) double.leastPlace).toNat) (max (place + mag.log2 - double.fractionBits) double.leastPlace - place).toNat) double.infRung
theorem nearest_word (neg : Bool) (mag : Nat) (place : Int) : double.nearest neg mag place = double.word neg (rungD mag place) := by
 unfold Format.nearest rungD
 split
 ·rfl
 ·cases neg <;> rfl
theorem rungD_le (mag : Nat) (place : Int) : rungD mag place ≤ 9218868437227405312 := by
 unfold rungD
 split
 ·omega
 ·rw [ir]; exact Nat.min_le_right _ _
theorem nearest_false (mag : Nat) (place : Int) : double.nearest false mag place = rungD mag place := by rw [nearest_word]; unfold Format.word; rw [if_neg (by decide)]
theorem nearest_true (mag : Nat) (place : Int) : double.nearest true mag place = 9223372036854775808 + rungD mag place := by rw [nearest_word]; unfold Format.word; rw [if_pos rfl, sw]
theorem abs_nearest (neg : Bool) (mag : Nat) (place : Int) : double.nearest neg mag place % 9223372036854775808 = double.nearest false mag place := by
 have := rungD_le mag place
 cases neg
 ·rw [nearest_false]; omega
 ·rw [nearest_false, nearest_true]; omega
def Nn (d : Datum) : Prop := (∃ m p, d = .number false m p) ∨ d = .infinity false
theorem read_rung (r : Nat) (h : r ≤ 9218868437227405312) : Nn (double.read r) := by
 have e1 : r / double.signWeight % 2 = 0 := by rw [sw]; omega
 have e2 : r % double.signWeight = r := by rw [sw]; omega
 unfold Format.read
 simp only [e1, e2]
 split
 ·exact .inl ⟨_, _, rfl⟩
 split
 ·exact .inl ⟨_, _, rfl⟩
 split
 ·exact .inr rfl
 ·rename_i h1 h2 h3; rw [ir] at h2 h3; omega
theorem read_nearest (mag : Nat) (place : Int) : Nn (double.read (double.nearest false mag place)) := by rw [nearest_false]; exact read_rung _ (rungD_le _ _)
theorem write_nn {d : Datum} (h : Nn d) : Nn (double.read (double.write d)) := by
 rcases h with ⟨m, p, rfl⟩ | rfl
 ·exact read_nearest m p
 ·exact .inr (by decide)
theorem order_self {d : Datum} (h : Nn d) : d.order d = some .eq := by
 rcases h with ⟨m, p, rfl⟩ | rfl
 ·simp [Datum.order, Int.compare_eq_eq]
 ·rfl
theorem signed_nn (m u : Nat) : 0 ≤ signed false m u := by
 unfold signed
 simp only [Bool.false_eq_true, if_false]
 exact Int.natCast_nonneg _
theorem sum_nn {a b : Datum} (ha : Nn a) (hb : Nn b) : ∃ d, a.sum b = some d ∧ Nn d := by
 rcases ha with ⟨m, p, rfl⟩ | rfl <;> rcases hb with ⟨n, q, rfl⟩ | rfl
 ·have h0 : ¬ (signed false m (p - min p q).toNat + signed false n (q - min p q).toNat < 0) := by
   have := signed_nn m (p - min p q).toNat
   have := signed_nn n (q - min p q).toNat
   omega
  refine ⟨.number false (signed false m (p - min p q).toNat + signed false n (q - min p q).toNat).natAbs (min p q), ?_, .inl ⟨_, _, rfl⟩⟩
  simp only [Datum.sum, Bool.and_self, decide_eq_false h0, ite_self]
 ·exact ⟨_, rfl, .inr rfl⟩
 ·exact ⟨_, rfl, .inr rfl⟩
 ·exact ⟨_, rfl, .inr rfl⟩
theorem quo_nn {m : Nat} {p : Int} {n : Nat} {q : Int} (hn : n ≠ 0) (k : Nat) : ∃ a b, (Datum.number false m p).quotient k (.number false n q) = some (.number false a b) := by
 exact ⟨2 * ((m <<< (k + n.log2 - m.log2)) / n) + ((m <<< (k + n.log2 - m.log2)) % n != 0).toNat, p - q - ((k + n.log2 - m.log2 : Nat) : Int) - 1, by simp only [Datum.quotient, if_neg hn, Bool.xor_self]⟩
theorem log_le {n : Nat} (h0 : 0 < n) (h : n < 9007199254740992) : n.log2 ≤ 52 := by
 have := (Nat.log2_lt (by omega)).2 (show n < 2 ^ 53 from h)
 omega
theorem min_rung (l N : Nat) (hl : l ≤ 52) (h : N < 9007199254740992) : min ((l + 1022) * 4503599627370496 + N) 9218868437227405312 = (l + 1022) * 4503599627370496 + N := by omega
theorem read_int (n : Nat) (h0 : 0 < n) (h : n < 9007199254740992) : double.read (double.nearest false n 0) = .number false (n * 2 ^ (52 - n.log2)) ((n.log2 : Int) - 52) := by
 have hl := log_le h0 h
 have hlo : 2 ^ n.log2 ≤ n := Nat.log2_self_le (by omega)
 have hhi : n < 2 ^ (n.log2 + 1) := Nat.lt_log2_self
 generalize hL : n.log2 = l at hl hlo hhi
 have N1 : 4503599627370496 ≤ n * 2 ^ (52 - l) := by
  calc 4503599627370496 = 2 ^ l * 2 ^ (52 - l) := by rw [← Nat.pow_add, show l + (52 - l) = 52 by omega]
   _ ≤ n * 2 ^ (52 - l) := Nat.mul_le_mul_right _ hlo
 have N2 : n * 2 ^ (52 - l) < 9007199254740992 := by
  calc n * 2 ^ (52 - l) < 2 ^ (l + 1) * 2 ^ (52 - l) := Nat.mul_lt_mul_of_pos_right hhi (Nat.two_pow_pos _)
   _ = 9007199254740992 := by rw [← Nat.pow_add, show l + 1 + (52 - l) = 53 by omega]
 have hr : rungD n 0 = (l + 1022) * 4503599627370496 + n * 2 ^ (52 - l) := by
  unfold rungD
  rw [if_neg (by omega), hL, lp, bn, ir]
  have e0 : double.fractionBits = 52 := rfl
  rw [e0]
  have e1 : max ((0 : Int) + (l : Int) - ((52 : Nat) : Int)) (-1074) = (l : Int) - 52 := by omega
  rw [e1]
  have e2 : ((l : Int) - 52 - (-1074)).toNat = l + 1022 := by omega
  have e3 : ((0 : Int) - ((l : Int) - 52)).toNat = 52 - l := by omega
  have e4 : ((l : Int) - 52 - 0).toNat = 0 := by omega
  rw [e2, e3, e4]
  have e5 : Toward.even.cut false (n <<< (52 - l)) 0 = n * 2 ^ (52 - l) := by
   rw [Nat.shiftLeft_eq]
   simp [Toward.cut, Nat.mod_one]
  rw [e5]
  exact min_rung l _ hl N2
 rw [nearest_false, hr]
 clear hr hlo hhi hL h h0
 generalize n * 2 ^ (52 - l) = N at N1 N2
 have e1 : ((l + 1022) * 4503599627370496 + N) / double.signWeight % 2 = 0 := by rw [sw]; omega
 have e2 : ((l + 1022) * 4503599627370496 + N) % double.signWeight = (l + 1022) * 4503599627370496 + N := by rw [sw]; omega
 unfold Format.read
 simp only [e1, e2, bn, ir, lp]
 rw [if_neg (by omega), if_pos (by omega)]
 have e3 : ((l + 1022) * 4503599627370496 + N) % 4503599627370496 = N - 4503599627370496 := by omega
 have e4 : ((l + 1022) * 4503599627370496 + N) / 4503599627370496 = l + 1023 := by omega
 rw [e3, e4]
 have e5 : 4503599627370496 + (N - 4503599627370496) = N := by omega
 have e6 : (-1074 : Int) + ((l + 1023 - 1 : Nat) : Int) = (l : Int) - 52 := by omega
 rw [e5, e6]
 simp
theorem mag_pos (n : Nat) (h0 : 0 < n) (k : Nat) : n * 2 ^ k ≠ 0 := Nat.mul_ne_zero (by omega) (by have := Nat.two_pow_pos k; omega)
theorem floatOfInt_nat (n : Nat) : floatOfInt .f64 (n : Int) = double.nearest false n 0 := by
 show double.nearest (decide ((n : Int) < 0)) ((n : Int)).natAbs 0 = _
 rw [decide_eq_false (by omega), Int.natAbs_natCast]
theorem floatOfInt_abs (n : Int) : floatOfInt .f64 n % 9223372036854775808 = floatOfInt .f64 ((n.natAbs : Nat) : Int) := by
 rw [floatOfInt_nat]
 exact abs_nearest _ _ _
theorem read_small (n : Nat) (h : n < 9007199254740992) : ∃ m p, double.read (double.nearest false n 0) = .number false m p ∧ (m = 0 ↔ n = 0) := by
 rcases Nat.eq_zero_or_pos n with rfl | h0
 ·exact ⟨0, -1074, by decide, by simp⟩
 ·exact ⟨_, _, read_int n h0 h, by have := mag_pos n h0 (52 - n.log2); omega⟩
theorem read_nat (n : Nat) (h : n < 9007199254740992) : ∃ s : Nat, double.read (floatOfInt .f64 (n : Int)) = .number false (n * 2 ^ s) (-(s : Int)) := by
 rw [floatOfInt_nat]
 rcases Nat.eq_zero_or_pos n with rfl | h0
 ·obtain ⟨k, hk⟩ : ∃ k : Nat, k = 1074 := ⟨_, rfl⟩
  exact ⟨k, by rw [Nat.zero_mul, hk]; rfl⟩
 ·have hl := log_le h0 h
  refine ⟨52 - n.log2, ?_⟩
  rw [read_int n h0 h]
  congr 1
  omega
theorem shl_mul (a s k : Nat) : (a * 2 ^ s) <<< k = a * 2 ^ (s + k) := by rw [Nat.shiftLeft_eq, Nat.mul_assoc, Nat.pow_add]
theorem order_nat (a b s t : Nat) : (Datum.number false (a * 2 ^ s) (-(s : Int))).order (.number false (b * 2 ^ t) (-(t : Int))) = some (compare (a : Int) (b : Int)) := by
 have e1 : (-(s : Int) - min (-(s : Int)) (-(t : Int))).toNat = max s t - s := by omega
 have e2 : (-(t : Int) - min (-(s : Int)) (-(t : Int))).toNat = max s t - t := by omega
 simp only [Datum.order, signed, Bool.false_eq_true, if_false, e1, e2, shl_mul]
 rw [show s + (max s t - s) = max s t by omega, show t + (max s t - t) = max s t by omega]
 have hp := Nat.two_pow_pos (max s t)
 generalize 2 ^ (max s t) = p at *
 congr 1
 rcases Nat.lt_trichotomy a b with h | h | h
 ·rw [Int.compare_eq_lt.2 (by exact_mod_cast Nat.mul_lt_mul_of_pos_right h hp), Int.compare_eq_lt.2 (by omega)]
 ·subst h; rw [Int.compare_eq_eq.2 rfl, Int.compare_eq_eq.2 rfl]
 ·rw [Int.compare_eq_gt.2 (by exact_mod_cast Nat.mul_lt_mul_of_pos_right h hp), Int.compare_eq_gt.2 (by omega)]
theorem toInt_nat (n s : Nat) : (Datum.number false (n * 2 ^ s) (-(s : Int))).toInt .zero = some (n : Int) := by
 have hp := Nat.two_pow_pos s
 simp only [Datum.toInt, Datum.integral]
 have e1 : (-(s : Int)).toNat = 0 := by omega
 have e2 : (- -(s : Int)).toNat = s := by omega
 rw [e1, e2, Nat.shiftLeft_zero]
 have : Toward.zero.cut false (n * 2 ^ s) s = n := by
  simp only [Toward.cut]
  rcases Nat.eq_zero_or_pos n with rfl | h0
  ·simp
  ·have hne : n * 2 ^ s ≠ 0 := Nat.mul_ne_zero (by omega) (by omega)
   have hle : s ≤ (n * 2 ^ s).log2 := (Nat.le_log2 hne).2 (Nat.le_mul_of_pos_left _ h0)
   rw [show min s ((n * 2 ^ s).log2 + 2) = s by omega, Nat.shiftLeft_eq, Nat.one_mul, Nat.mul_div_cancel _ hp]
   simp
 rw [this]
 simp [signed]
abbrev F64 (n : Nat) : Nat := floatOfInt .f64 (n : Int)
theorem toInt_f (n : Nat) (h : n < 9007199254740992) : floatToIntVal .f64 (F64 n) .i64 = some (n : Int) := by
 obtain ⟨s, hs⟩ := read_nat n h
 unfold floatToIntVal
 have : FloatKind.f64.decode (F64 n) = .number false (n * 2 ^ s) (-(s : Int)) := hs
 rw [this, toInt_nat]
 have h1 : IntKind.i64.min = -9223372036854775808 := rfl
 have h2 : IntKind.i64.max = 9223372036854775807 := rfl
 simp only [h1, h2]
 rw [if_pos (by omega)]
theorem pick_f (neg : Bool) (win : Ordering) (a b : Nat) (ha : a < 9007199254740992) (hb : b < 9007199254740992) : fPick neg win (F64 a) (F64 b) = if a = 0 ∧ b = 0 then F64 0 else if compare (a : Int) (b : Int) = win then F64 a else F64 b := by
 obtain ⟨s, hs⟩ := read_nat a ha
 obtain ⟨t, ht⟩ := read_nat b hb
 have d1 : FloatKind.f64.decode (F64 a) = .number false (a * 2 ^ s) (-(s : Int)) := hs
 have d2 : FloatKind.f64.decode (F64 b) = .number false (b * 2 ^ t) (-(t : Int)) := ht
 have z : ∀ (m k : Nat), (m * 2 ^ k = 0 ↔ m = 0) := fun m k => by
  have := Nat.two_pow_pos k
  constructor
  ·intro h; rcases Nat.mul_eq_zero.1 h with h | h <;> omega
  ·rintro rfl; simp
 unfold fPick
 simp only [d1, d2]
 have n1 : ∀ (m : Nat) (p : Int), (Datum.number false m p == Datum.infinity neg) = false := fun m p => by rw [beq_eq_false_iff_ne]; intro h; cases h
 have zz : ∀ (m : Nat) (p : Int), (Datum.number false m p).isZero = decide (m = 0) := fun m p => by cases m <;> simp [Datum.isZero]
 rw [n1, n1, order_nat]
 simp only [Bool.or_self, Bool.false_eq_true, if_false, Datum.isNaN, zz, Datum.neg]
 by_cases h0 : a = 0 ∧ b = 0
 ·obtain ⟨rfl, rfl⟩ := h0
  simp
 ·rw [if_neg h0]
  have : ¬ ((decide (a * 2 ^ s = 0) && decide (b * 2 ^ t = 0)) = true) := by
   simp only [Bool.and_eq_true, decide_eq_true_eq, z]; exact h0
  rw [if_neg this]
  by_cases hc : compare (a : Int) (b : Int) = win
  ·rw [if_pos (by rw [hc]; simp), if_pos hc]
  ·rw [if_neg (by simpa using hc), if_neg hc]
theorem fMax_f (a b : Nat) (ha : a < 9007199254740992) (hb : b < 9007199254740992) : fMax (F64 a) (F64 b) = F64 (max a b) := by
 unfold fMax
 rw [pick_f false .gt a b ha hb]
 split
 ·rename_i h; rw [h.1, h.2]; rfl
 ·split
  ·rename_i h; have := Int.compare_eq_gt.1 h; rw [show max a b = a by omega]
  ·rename_i h; have : ¬ (a : Int) > (b : Int) := fun h' => h (Int.compare_eq_gt.2 h'); rw [show max a b = b by omega]
theorem fMin_f (a b : Nat) (ha : a < 9007199254740992) (hb : b < 9007199254740992) : fMin (F64 a) (F64 b) = F64 (min a b) := by
 unfold fMin
 rw [pick_f true .lt a b ha hb]
 split
 ·rename_i h; rw [h.1, h.2]; rfl
 ·split
  ·rename_i h; have := Int.compare_eq_lt.1 h; rw [show min a b = a by omega]
  ·rename_i h; have : ¬ (a : Int) < (b : Int) := fun h' => h (Int.compare_eq_lt.2 h'); rw [show min a b = b by omega]
end Go.Proofs.YtmfgccjcnnlehaaDoorZF
namespace Go.Proofs.YtmfgccjcnnlehaaDoorZF
open Go Ieee
set_option linter.unusedVariables false
set_option linter.unusedSimpArgs false
theorem min_rung2 (l c : Nat) (hl : l ≤ 63) (hc : c ≤ 9007199254740992) : min ((l + 1022) * 4503599627370496 + c) 9218868437227405312 = (l + 1022) * 4503599627370496 + c := Nat.min_eq_left (by omega)
theorem rung_shape (n : Nat) (h0 : 0 < n) (h : n < 18446744073709551616) : ∃ l c : Nat, l ≤ 63 ∧ 2 ^ l ≤ n ∧ 4503599627370496 ≤ c ∧ c ≤ 9007199254740992 ∧ rungD n 0 = (l + 1022) * 4503599627370496 + c ∧ (l ≤ 52 → n < 9007199254740992) := by
 have hl : n.log2 ≤ 63 := by have := (Nat.log2_lt (by omega)).2 (show n < 2 ^ 64 from h); omega
 have hlo : 2 ^ n.log2 ≤ n := Nat.log2_self_le (by omega)
 have hhi : n < 2 ^ (n.log2 + 1) := Nat.lt_log2_self
 by_cases h52 : n.log2 ≤ 52
 ·have hn : n < 9007199254740992 := by
   have : 2 ^ (n.log2 + 1) ≤ 2 ^ 53 := Nat.pow_le_pow_right (by omega) (by omega)
   have e : (2 : Nat) ^ 53 = 9007199254740992 := rfl
   omega
  have N1 : 4503599627370496 ≤ n * 2 ^ (52 - n.log2) := by
   calc 4503599627370496 = 2 ^ n.log2 * 2 ^ (52 - n.log2) := by rw [← Nat.pow_add, show n.log2 + (52 - n.log2) = 52 by omega]
    _ ≤ n * 2 ^ (52 - n.log2) := Nat.mul_le_mul_right _ hlo
  have N2 : n * 2 ^ (52 - n.log2) < 9007199254740992 := by
   calc n * 2 ^ (52 - n.log2) < 2 ^ (n.log2 + 1) * 2 ^ (52 - n.log2) := Nat.mul_lt_mul_of_pos_right hhi (Nat.two_pow_pos _)
    _ = 9007199254740992 := by rw [← Nat.pow_add, show n.log2 + 1 + (52 - n.log2) = 53 by omega]
  refine ⟨n.log2, n * 2 ^ (52 - n.log2), hl, hlo, N1, by omega, ?_, fun _ => hn⟩
  generalize hL : n.log2 = l at *
  unfold rungD
  rw [if_neg (by omega), hL, lp, bn, ir]
  have e0 : double.fractionBits = 52 := rfl
  rw [e0]
  have e1 : max ((0 : Int) + (l : Int) - ((52 : Nat) : Int)) (-1074) = (l : Int) - 52 := by omega
  rw [e1]
  have e2 : ((l : Int) - 52 - (-1074)).toNat = l + 1022 := by omega
  have e3 : ((0 : Int) - ((l : Int) - 52)).toNat = 52 - l := by omega
  have e4 : ((l : Int) - 52 - 0).toNat = 0 := by omega
  rw [e2, e3, e4]
  have e5 : Toward.even.cut false (n <<< (52 - l)) 0 = n * 2 ^ (52 - l) := by
   rw [Nat.shiftLeft_eq]
   simp [Toward.cut, Nat.mod_one]
  rw [e5]
  exact min_rung l _ h52 N2
 ·obtain ⟨c, hc⟩ : ∃ c, c = Toward.even.cut false (n <<< 0) (n.log2 - 52) := ⟨_, rfl⟩
  have hcb : 4503599627370496 ≤ c ∧ c ≤ 9007199254740992 := by
   rw [hc, Nat.shiftLeft_zero]
   simp only [Toward.cut]
   rw [show min (n.log2 - 52) (n.log2 + 2) = n.log2 - 52 by omega, Nat.shiftLeft_eq, Nat.one_mul]
   have hp := Nat.two_pow_pos (n.log2 - 52)
   have d1 : 4503599627370496 ≤ n / 2 ^ (n.log2 - 52) := by
    rw [Nat.le_div_iff_mul_le hp]
    calc 4503599627370496 * 2 ^ (n.log2 - 52) = 2 ^ n.log2 := by rw [show (4503599627370496 : Nat) = 2 ^ 52 from rfl, ← Nat.pow_add, show 52 + (n.log2 - 52) = n.log2 by omega]
     _ ≤ n := hlo
   have d2 : n / 2 ^ (n.log2 - 52) < 9007199254740992 := by
    rw [Nat.div_lt_iff_lt_mul hp]
    calc n < 2 ^ (n.log2 + 1) := hhi
     _ = 9007199254740992 * 2 ^ (n.log2 - 52) := by rw [show (9007199254740992 : Nat) = 2 ^ 53 from rfl, ← Nat.pow_add, show 53 + (n.log2 - 52) = n.log2 + 1 by omega]
   have d3 : ∀ b : Bool, b.toNat ≤ 1 := fun b => by cases b <;> decide
   have := d3 (decide (2 ^ (n.log2 - 52) < 2 * (n % 2 ^ (n.log2 - 52))) || 2 ^ (n.log2 - 52) == 2 * (n % 2 ^ (n.log2 - 52)) && n / 2 ^ (n.log2 - 52) % 2 == 1)
   constructor <;> omega
  refine ⟨n.log2, c, hl, hlo, hcb.1, hcb.2, ?_, fun h' => absurd h' h52⟩
  generalize hL : n.log2 = l at *
  unfold rungD
  rw [if_neg (by omega), hL, lp, bn, ir]
  have e0 : double.fractionBits = 52 := rfl
  rw [e0]
  have e1 : max ((0 : Int) + (l : Int) - ((52 : Nat) : Int)) (-1074) = (l : Int) - 52 := by omega
  rw [e1]
  have e2 : ((l : Int) - 52 - (-1074)).toNat = l + 1022 := by omega
  have e3 : ((0 : Int) - ((l : Int) - 52)).toNat = 0 := by omega
  have e4 : ((l : Int) - 52 - 0).toNat = l - 52 := by omega
  rw [e2, e3, e4, ← hc]
  exact min_rung2 l c hl hcb.2
theorem read_big (n : Nat) (h : 9007199254740992 ≤ n) (h2 : n < 18446744073709551616) : ∃ m p : Nat, double.read (floatOfInt .f64 (n : Int)) = .number false m (p : Int) ∧ 4503599627370496 ≤ m ∧ 1 ≤ p := by
 obtain ⟨l, c, hl, hlo, c1, c2, hr, hle⟩ := rung_shape n (by omega) h2
 have hl2 : 53 ≤ l := by
  by_cases h' : l ≤ 52
  ·have := hle h'; omega
  ·omega
 rw [floatOfInt_nat, nearest_false, hr]
 clear hr hlo hle
 have e1 : ((l + 1022) * 4503599627370496 + c) / double.signWeight % 2 = 0 := by rw [sw]; omega
 have e2 : ((l + 1022) * 4503599627370496 + c) % double.signWeight = (l + 1022) * 4503599627370496 + c := by rw [sw]; omega
 unfold Format.read
 simp only [e1, e2, bn, ir, lp]
 rw [if_neg (by omega), if_pos (by omega)]
 refine ⟨4503599627370496 + ((l + 1022) * 4503599627370496 + c) % 4503599627370496, ((l + 1022) * 4503599627370496 + c) / 4503599627370496 - 1 - 1074, ?_, by omega, by omega⟩
 have : ((0 : Nat) == 1) = false := rfl
 rw [this]
 congr 1
 omega
theorem read_neg (n : Int) (h : n < 0) (h2 : -9223372036854775808 ≤ n) : ∃ (m : Nat) (p : Int), double.read (floatOfInt .f64 n) = .number true m p ∧ m ≠ 0 := by
 obtain ⟨k, hk⟩ : ∃ k : Nat, k = n.natAbs := ⟨_, rfl⟩
 obtain ⟨l, c, hl, hlo, c1, c2, hr, hle⟩ := rung_shape k (by omega) (by omega)
 have hf : floatOfInt .f64 n = 9223372036854775808 + ((l + 1022) * 4503599627370496 + c) := by
  show double.nearest (decide (n < 0)) n.natAbs 0 = _
  rw [decide_eq_true h, nearest_true, ← hk, hr]
 rw [hf]
 clear hr hlo hle hf
 have e1 : (9223372036854775808 + ((l + 1022) * 4503599627370496 + c)) / double.signWeight % 2 = 1 := by rw [sw]; omega
 have e2 : (9223372036854775808 + ((l + 1022) * 4503599627370496 + c)) % double.signWeight = (l + 1022) * 4503599627370496 + c := by rw [sw]; omega
 unfold Format.read
 simp only [e1, e2, bn, ir, lp]
 rw [if_neg (by omega), if_pos (by omega)]
 exact ⟨_, _, rfl, by omega⟩
theorem fpick_lt {neg : Bool} {win : Ordering} {x y m m' : Nat} {s s' : Bool} {p p' : Int} (hx : double.read x = .number s m p) (hy : double.read y = .number s' m' p') (h0 : ¬ (m = 0 ∧ m' = 0)) : fPick neg win x y = if (Datum.number s m p).order (.number s' m' p') = some win then x else y := by
 have d1 : FloatKind.f64.decode x = .number s m p := hx
 have d2 : FloatKind.f64.decode y = .number s' m' p' := hy
 unfold fPick
 simp only [d1, d2]
 have n1 : ∀ (t : Bool) (m : Nat) (p : Int), (Datum.number t m p == Datum.infinity neg) = false := fun t m p => by rw [beq_eq_false_iff_ne]; intro h; cases h
 have zz : ∀ (t : Bool) (m : Nat) (p : Int), (Datum.number t m p).isZero = decide (m = 0) := fun t m p => by cases m <;> simp [Datum.isZero]
 rw [n1, n1]
 simp only [Bool.or_self, Bool.false_eq_true, if_false, Datum.isNaN, zz]
 have : ¬ ((decide (m = 0) && decide (m' = 0)) = true) := by simpa using h0
 rw [if_neg this]
 by_cases hc : (Datum.number s m p).order (.number s' m' p') = some win
 ·rw [if_pos (by rw [hc]; simp), if_pos hc]
 ·rw [if_neg (by simpa using hc), if_neg hc]
theorem f64_zero : F64 0 = 0 := by rw [F64, floatOfInt_nat, nearest_false]; rfl
theorem clamp_f (loc : Int) (len : Nat) (h1 : -9223372036854775808 ≤ loc) (h2 : loc < 9223372036854775808) (hl : len < 1099511627776) : floatToIntVal .f64 (fMax 0 (fMin (floatOfInt .f64 loc) (F64 len))) .i64 = some (max 0 (min loc (len : Int))) := by
 obtain ⟨t, ht⟩ := read_nat len (by omega)
 have z : ∀ (m k : Nat), (m * 2 ^ k = 0 ↔ m = 0) := fun m k => by
  have := Nat.two_pow_pos k
  constructor
  ·intro h; rcases Nat.mul_eq_zero.1 h with h | h <;> omega
  ·rintro rfl; simp
 by_cases h0 : loc < 0
 ·obtain ⟨m, p, hr, hm⟩ := read_neg loc h0 h1
  have e1 : fMin (floatOfInt .f64 loc) (F64 len) = floatOfInt .f64 loc := by
   unfold fMin
   rw [fpick_lt hr ht (fun h => hm h.1), if_pos]
   simp only [Datum.order, signed, if_true, Bool.false_eq_true, if_false]
   have hp1 := Nat.two_pow_pos (p - min p (-(t : Int))).toNat
   have : 0 < m <<< (p - min p (-(t : Int))).toNat := by rw [Nat.shiftLeft_eq]; exact Nat.mul_pos (by omega) hp1
   generalize m <<< (p - min p (-(t : Int))).toNat = A at *
   generalize (len * 2 ^ t) <<< (-(t : Int) - min p (-(t : Int))).toNat = B at *
   rw [Int.compare_eq_lt.2 (by omega)]
  rw [e1]
  obtain ⟨s, hs⟩ := read_nat 0 (by omega)
  rw [show floatOfInt .f64 ((0 : Nat) : Int) = 0 from f64_zero] at hs
  have e2 : fMax 0 (floatOfInt .f64 loc) = 0 := by
   unfold fMax
   rw [fpick_lt hs hr (fun h => hm h.2), if_pos]
   simp only [Datum.order, signed, if_true, Bool.false_eq_true, if_false]
   have hp1 := Nat.two_pow_pos (p - min (-(s : Int)) p).toNat
   have : 0 < m <<< (p - min (-(s : Int)) p).toNat := by rw [Nat.shiftLeft_eq]; exact Nat.mul_pos (by omega) hp1
   generalize m <<< (p - min (-(s : Int)) p).toNat = A at *
   generalize (0 * 2 ^ s) <<< (-(s : Int) - min (-(s : Int)) p).toNat = B at *
   rw [Int.compare_eq_gt.2 (by omega)]
  rw [e2, ← f64_zero, toInt_f 0 (by omega)]
  congr 1; omega
 ·obtain ⟨k, rfl⟩ := Int.eq_ofNat_of_zero_le (show 0 ≤ loc by omega)
  have e1 : fMin (floatOfInt .f64 (k : Int)) (F64 len) = F64 (min k len) := by
   by_cases hk : k < 9007199254740992
   ·exact fMin_f k len hk (by omega)
   ·obtain ⟨m, p, hr, hm, hp⟩ := read_big k (by omega) (by omega)
    unfold fMin
    rw [fpick_lt hr ht (fun h => by omega), if_neg, show min k len = len by omega]
    simp only [Datum.order, signed, Bool.false_eq_true, if_false]
    have c1 : ((p : Int) - min (p : Int) (-(t : Int))).toNat = p + t := by omega
    have c2 : (-(t : Int) - min (p : Int) (-(t : Int))).toNat = 0 := by omega
    rw [c1, c2, Nat.shiftLeft_eq, Nat.shiftLeft_zero]
    have hp1 := Nat.two_pow_pos t
    have hp2 := Nat.two_pow_pos p
    have : len * 2 ^ t < m * 2 ^ (p + t) := by
     rw [Nat.pow_add, ← Nat.mul_assoc]
     refine Nat.mul_lt_mul_of_pos_right ?_ hp1
     calc len < m := by omega
      _ ≤ m * 2 ^ p := Nat.le_mul_of_pos_right _ hp2
    intro h
    have h := Int.compare_eq_lt.1 (Option.some.inj h)
    omega
  rw [e1, ← f64_zero, fMax_f 0 (min k len) (by omega) (by omega), toInt_f _ (by omega)]
  congr 1; omega
end Go.Proofs.YtmfgccjcnnlehaaDoorZF
namespace Go.Proofs.YtmfgccjcnnlehaaDoorZF
open Go
set_option linter.unusedVariables false
set_option linter.unusedSimpArgs false
end Go.Proofs.YtmfgccjcnnlehaaDoorZF
namespace Go.Proofs.YtmfgccjcnnlehaaDoorZF
open Go
set_option linter.unusedVariables false
set_option linter.unusedSimpArgs false
theorem GoodK.i64 {x : Int} (h : GoodK (.int .i64) x) : -9223372036854775808 ≤ x ∧ x < 9223372036854775808 := by
 have h : (Lit.int .i64 x).wf = true := h
 simp only [Lit.wf, Bool.and_eq_true, decide_eq_true_eq] at h
 have h1 : IntKind.i64.min = -9223372036854775808 := rfl
 have h2 : IntKind.i64.max = 9223372036854775807 := rfl
 omega
theorem min_call (n : Nat) (a b : Nat) : g81 n a b = some (fMin a b, ()) := rfl
theorem max_call (n : Nat) (a b : Nat) : g84 n a b = some (fMax a b, ()) := rfl
end Go.Proofs.YtmfgccjcnnlehaaDoorZF
namespace Go.Proofs.YtmfgccjcnnlehaaDoorZF
open Go Ieee
set_option linter.unusedVariables false
set_option linter.unusedSimpArgs false
theorem ovl_whole {a b : List Int} {P Q R : ByteArray} (ha : Valids a) (hb : Valids b) (h1 : enc a = P ++ Q) (h2 : enc b = Q ++ R) : ∃ x o y, a = x ++ o ∧ b = o ++ y ∧ P = enc x ∧ Q = enc o ∧ R = enc y := by
 obtain ⟨x, o, e1, e2, e3⟩ := split_at h1 (fun f t hf => by
  have hh := congrArg bl h2
  rw [bl_append, hf] at hh
  cases b with
  | nil => cases (show ([] : List UInt8) = f :: t ++ bl R from hh)
  | cons r b =>
   obtain ⟨f', t', g1, g2, _⟩ := enc_shape r
   rw [bl_enc_cons, g1] at hh
   simp only [List.cons_append, List.cons.injEq] at hh
   rw [← hh.1]; exact g2)
 subst e1
 have ho : Valids o := fun z hz => ha z (by simp [hz])
 rw [e3] at h2
 obtain ⟨y, hy, hR⟩ := pre_of_bytes hb ho h2
 exact ⟨x, o, y, rfl, hy, e2, e3, hR⟩
theorem zz_ok (n : Nat) (hn : Big ≤ n) (t p : ByteArray) (ht : t.size ≤ 1000000000) (hp : p.size ≤ 1000000000) : ∃ r : Int, g109 n t p = some (r, ()) ∧ (r = -1 ∨ (0 ≤ r ∧ r + p.size ≤ t.size ∧ cutS t r (r + p.size) = p)) := by
 have hB : (4611686018427387904 : Nat) ≤ n := hn
 dsimp only [g109, g109_6, g109_1, g109_4, g109_3]
 have key : ∀ (d i m : Nat), t.size + 1 - i = d → d < m → i ≤ t.size + 1 → ∃ r : Int, g109_3L n (fun v4 => @some (DenR [.dat (.int .i64)]) (v4, ())) (g109_5 n (fun v4 => some (v4, ()))) m t p (i : Int) = some (r, ()) ∧ (r = -1 ∨ (0 ≤ r ∧ r + p.size ≤ t.size ∧ cutS t r (r + p.size) = p)) := by
  intro d
  induction d with
  | zero =>
   intro i m hd hm hi
   obtain ⟨m, rfl⟩ : ∃ m', m = m' + 1 := ⟨m - 1, by omega⟩
   rw [g109_3L.eq_2, g109_2, w64_id (by omega) (by omega), bdF (by omega)]
   exact ⟨-1, rfl, .inl rfl⟩
  | succ d ih =>
   intro i m hd hm hi
   obtain ⟨m, rfl⟩ : ∃ m', m = m' + 1 := ⟨m - 1, by omega⟩
   rw [g109_3L.eq_2, g109_2, w64_id (n := (i : Int) + (p.size : Int)) (by omega) (by omega), w64_id (n := (i : Int) + 1) (by omega) (by omega)]
   by_cases c : (i : Int) + (p.size : Int) ≤ (t.size : Int)
   ·rw [bdT c, bnd_ok (by omega) (by omega) (by omega)]
    by_cases c2 : cutS t (i : Int) ((i : Int) + (p.size : Int)) = p
    ·rw [biT (by rw [strEq_eq]; simpa using c2)]
     exact ⟨(i : Int), rfl, .inr ⟨by omega, c, c2⟩⟩
    ·rw [biF (by rw [strEq_eq]; simpa using c2), show (i : Int) + 1 = ((i + 1 : Nat) : Int) by omega]
     exact ih (i + 1) m (by omega) (by omega) (by omega)
   ·rw [bdF c]
    exact ⟨-1, rfl, .inl rfl⟩
 exact key (t.size + 1) 0 n (by omega) (by omega) (by omega)
def Ov (X Y : List Int) (k : Nat) : Prop := k ≤ X.length ∧ k ≤ Y.length ∧ X.drop (X.length - k) = Y.take k
theorem Ov.zero (X Y : List Int) : Ov X Y 0 := ⟨Nat.zero_le _, Nat.zero_le _, by simp⟩
theorem ovl_loop (n : Nat) (hn : Big ≤ n) (v1 v2 : ByteArray) (L : Nat) (h1 : v1.size = L) (h2 : v2.size = L) (hne : v1 ≠ v2) (hL : L ≤ 100000000) :
  ∀ (d best len m : Nat), L + 1 - len = d → d < m → 1 ≤ len → len ≤ L → Ov (bytesOf v1) (bytesOf v2) best →
   ∃ k : Nat, g126_4L n (fun v10 => g126_6 n (fun v6 => @some (DenR [.dat (.int .i64)]) (v6, ())) v10) m v1 v2 (L : Int) (best : Int) (len : Int) = some ((k : Int), ()) ∧ Ov (bytesOf v1) (bytesOf v2) k := by
 have l1 := bytesOf_length v1
 have l2 := bytesOf_length v2
 have hOv : ∀ k : Nat, k ≤ L → cutS v1 ((L : Int) - (k : Int)) (L : Int) = cutS v2 0 (k : Int) → Ov (bytesOf v1) (bytesOf v2) k := fun k hk he => by
  refine ⟨by omega, by omega, ?_⟩
  have := congrArg bytesOf he
  rw [bytesOf_cutS, bytesOf_cutS, cut_to _ _ _ (by omega), cut_from] at this
  rw [show ((L : Int) - (k : Int)).toNat = (bytesOf v1).length - k by omega] at this
  exact this
 have hlt : ∀ k : Nat, k ≤ L → Ov (bytesOf v1) (bytesOf v2) k → k < L := fun k hk ho => by
  rcases Nat.lt_or_ge k L with h | h
  ·exact h
  ·exfalso
   have e := ho.2.2
   rw [show (bytesOf v1).length - k = 0 by omega, List.drop_zero, List.take_of_length_le (by omega)] at e
   exact hne (bytesOf_inj e)
 intro d
 induction d using Nat.strongRecOn with
 | _ d ih =>
  intro best len m hd hm hl1 hl2 hb
  obtain ⟨m, rfl⟩ : ∃ m', m = m' + 1 := ⟨m - 1, by omega⟩
  have hlm : len ≤ 100000000 := by omega
  have hw : w64 ((L : Int) - (len : Int)) = (L : Int) - (len : Int) := w64_id (by omega) (by omega)
  have hcs := size_cutS (z := v1) (a := (L : Int) - (len : Int)) (b := (L : Int)) (by omega) (by omega) (by omega)
  rw [g126_4L.eq_2, g126_3, h1, hw, bnd_ok (by omega) (by omega) (by omega)]
  obtain ⟨r, hr, hr2⟩ := zz_ok n hn v2 (cutS v1 ((L : Int) - (len : Int)) (L : Int)) (by omega) (by omega)
  rw [bind_some' hr]
  simp only
  rcases hr2 with rfl | ⟨r1, r2, r3⟩
  ·rw [biT (by rfl)]
   exact ⟨best, rfl, hb⟩
  ·obtain ⟨f, rfl⟩ : ∃ f : Nat, r = (f : Int) := ⟨r.toNat, by omega⟩
   rw [hcs] at r2
   rw [biF (show ((f : Int) == (-1 : Int)) = false by rw [beq_eq_false_iff_ne]; omega)]
   have hw2 : w64 ((len : Int) + (f : Int)) = ((len + f : Nat) : Int) := by rw [w64_id (by omega) (by omega)]; omega
   have hw3 : w64 (((len + f : Nat) : Int) + 1) = ((len + f + 1 : Nat) : Int) := by rw [w64_id (by omega) (by omega)]; omega
   have hw4 : w64 ((L : Int) - ((len + f : Nat) : Int)) = (L : Int) - ((len + f : Nat) : Int) := w64_id (by omega) (by omega)
   simp only [hw2, hw3, hw4]
   by_cases hf : f = 0
   ·subst hf
    rw [biT (by rfl)]
    have hov : Ov (bytesOf v1) (bytesOf v2) (len + 0) := hOv _ (by omega) (by
     rw [Nat.add_zero, ← r3, hcs]
     congr 1; omega)
    have := hlt _ (by omega) hov
    exact ih (L + 1 - (len + 0 + 1)) (by omega) (len + 0) (len + 0 + 1) m rfl (by omega) (by omega) (by omega) hov
   ·rw [biF (show ((f : Int) == (0 : Int)) = false by rw [beq_eq_false_iff_ne]; omega), bnd_ok (by omega) (by omega) (by omega), bnd_ok (by omega) (by omega) (by omega)]
    by_cases c : cutS v1 ((L : Int) - ((len + f : Nat) : Int)) (L : Int) = cutS v2 0 ((len + f : Nat) : Int)
    ·rw [biT (by rw [strEq_eq]; simpa using c)]
     have hov := hOv _ (by omega) c
     have := hlt _ (by omega) hov
     exact ih (L + 1 - (len + f + 1)) (by omega) (len + f) (len + f + 1) m rfl (by omega) (by omega) (by omega) hov
    ·rw [biF (by rw [strEq_eq]; simpa using c)]
     exact ih (L + 1 - (len + f)) (by omega) best (len + f) m rfl (by omega) (by omega) (by omega) hb
theorem overlap_bytes (n : Nat) (hn : Big ≤ n) (p0) (a b : ByteArray) (ha : a.size ≤ 100000000) (hb : b.size ≤ 100000000) : ∃ k : Nat, g126 n p0 a b = some ((k : Int), ()) ∧ Ov (bytesOf a) (bytesOf b) k := by
 have hB : (4611686018427387904 : Nat) ≤ n := hn
 have la := bytesOf_length a
 have lb := bytesOf_length b
 dsimp only [g126, g126_7, g126_1]
 by_cases c1 : a.size = 0
 ·rw [biT (by rw [beq_iff_eq]; omega)]; exact ⟨0, rfl, Ov.zero _ _⟩
 rw [biF (by rw [beq_eq_false_iff_ne]; omega)]
 by_cases c2 : b.size = 0
 ·rw [biT (by rw [beq_iff_eq]; omega)]; exact ⟨0, rfl, Ov.zero _ _⟩
 rw [biF (by rw [beq_eq_false_iff_ne]; omega)]
 have mid : ∀ (v1 v2 : ByteArray) (L : Nat), v1.size = L → v2.size = L → 0 < L → L ≤ 100000000 → L = min a.size b.size → ∃ k : Nat, g126_2 n (fun v1 v2 v9 v10 v11 => g126_5 n (fun v10 => g126_6 n (fun v6 => @some (DenR [.dat (.int .i64)]) (v6, ())) v10) v1 v2 v9 v10 v11) (fun v6 => some (v6, ())) v1 v2 (a.size : Int) (b.size : Int) = some ((k : Int), ()) ∧ Ov (bytesOf v1) (bytesOf v2) k := by
  intro v1 v2 L h1 h2 h0 hL hm
  have q1 := bytesOf_length v1
  have q2 := bytesOf_length v2
  unfold g126_2
  rw [min_call, Option.bind_some]
  simp only
  rw [show fMin (floatOfInt .f64 (a.size : Int)) (floatOfInt .f64 (b.size : Int)) = F64 (min a.size b.size) from fMin_f a.size b.size (by omega) (by omega), ← hm, toInt_f L (by omega)]
  simp only [onS]
  by_cases c : v1 = v2
  ·rw [biT (by rw [strEq_eq]; simpa using c)]
   refine ⟨L, rfl, by omega, by omega, ?_⟩
   rw [c, show (bytesOf v2).length - L = 0 by omega, List.drop_zero, List.take_of_length_le (by omega)]
  ·rw [biF (by rw [strEq_eq]; simpa using c)]
   exact ovl_loop n hn v1 v2 L h1 h2 c hL L 0 1 n (by omega) (by omega) (by omega) (by omega) (Ov.zero _ _)
 have fin : ∀ (v1 v2 : ByteArray) (k : Nat), bytesOf v1 = (bytesOf a).drop (a.size - v1.size) → bytesOf v2 = (bytesOf b).take v2.size → v1.size ≤ a.size → v2.size ≤ b.size → Ov (bytesOf v1) (bytesOf v2) k → Ov (bytesOf a) (bytesOf b) k := by
  intro v1 v2 k e1 e2 s1 s2 ho
  have q1 := bytesOf_length v1
  have q2 := bytesOf_length v2
  obtain ⟨o1, o2, o3⟩ := ho
  refine ⟨by omega, by omega, ?_⟩
  rw [q1] at o3
  rw [e1, e2, List.drop_drop, List.take_take] at o3
  rw [show a.size - v1.size + (v1.size - k) = (bytesOf a).length - k by omega, show min k v2.size = k by omega] at o3
  exact o3
 by_cases c3 : a.size > b.size
 ·rw [bdT (by omega), w64_id (by omega) (by omega), bnd_ok (by omega) (by omega) (by omega)]
  have hs := size_cutS (z := a) (a := (a.size : Int) - (b.size : Int)) (b := (a.size : Int)) (by omega) (by omega) (by omega)
  obtain ⟨k, e, ho⟩ := mid (cutS a ((a.size : Int) - (b.size : Int)) (a.size : Int)) b b.size (by omega) rfl (by omega) hb (by omega)
  refine ⟨k, e, fin _ b k ?_ ?_ (by omega) (by omega) ho⟩
  ·rw [bytesOf_cutS, cut_to _ _ _ (by omega)]; congr 1; omega
  ·rw [List.take_of_length_le (by omega)]
 ·rw [bdF (by omega)]
  by_cases c4 : a.size < b.size
  ·rw [bdT (by omega), bnd_ok (by omega) (by omega) (by omega)]
   have hs := size_cutS (z := b) (a := 0) (b := (a.size : Int)) (by omega) (by omega) (by omega)
   obtain ⟨k, e, ho⟩ := mid a (cutS b 0 (a.size : Int)) a.size rfl (by omega) (by omega) ha (by omega)
   refine ⟨k, e, fin a _ k ?_ ?_ (by omega) (by omega) ho⟩
   ·rw [Nat.sub_self, List.drop_zero]
   ·rw [bytesOf_cutS, cut_from]; congr 1; omega
  ·rw [bdF (by omega)]
   obtain ⟨k, e, ho⟩ := mid a b a.size rfl (by omega) (by omega) ha (by omega)
   refine ⟨k, e, fin a b k ?_ ?_ (by omega) (by omega) ho⟩
   ·rw [Nat.sub_self, List.drop_zero]
   ·rw [List.take_of_length_le (by omega)]
theorem overlap_ok (n : Nat) (hn : Big ≤ n) (p0) (a b : List Int) (ha : Valids a) (hb : Valids b) (la : a.length ≤ 10000000) (lb : b.length ≤ 10000000) :
  ∃ x o y, a = x ++ o ∧ b = o ++ y ∧ g126 n p0 (enc a) (enc b) = some (((enc o).size : Int), ()) := by
 have e1 := enc_size_le a
 have e2 := enc_size_le b
 obtain ⟨k, hk, o1, o2, o3⟩ := overlap_bytes n hn p0 (enc a) (enc b) (by omega) (by omega)
 have l1 := bytesOf_length (enc a)
 have l2 := bytesOf_length (enc b)
 have s1 := size_cutS (z := enc b) (a := 0) (b := (k : Int)) (by omega) (by omega) (by omega)
 have hp : enc a = cutS (enc a) 0 (((enc a).size : Int) - (k : Int)) ++ cutS (enc b) 0 (k : Int) := by
  apply bytesOf_inj
  rw [bytesOf_append, bytesOf_cutS, bytesOf_cutS, cut_from, cut_from, show ((k : Int)).toNat = k by omega, ← o3, show (((enc a).size : Int) - (k : Int)).toNat = (bytesOf (enc a)).length - k by omega, List.take_append_drop]
 have hq : enc b = cutS (enc b) 0 (k : Int) ++ cutS (enc b) (k : Int) ((enc b).size : Int) := by
  apply bytesOf_inj
  rw [bytesOf_append, bytesOf_cutS, bytesOf_cutS, cut_from, cut_to _ _ _ (by omega), List.take_append_drop]
 obtain ⟨x, o, y, q1, q2, q3, q4, q5⟩ := ovl_whole ha hb hp hq
 refine ⟨x, o, y, q1, q2, ?_⟩
 rw [hk, ← q4, s1]
 first | rfl | (congr 2; omega)
theorem half_some (c : Nat) (hc : c < 9007199254740992) : ∃ x, floatBits .quo .f64 (floatOfInt .f64 (c : Int)) (4611686018427387904 : Nat) = some x := by
 obtain ⟨m, p, h1, _⟩ := read_small c hc
 have h2 : ∃ m' p', double.read 4611686018427387904 = .number false m' p' ∧ m' ≠ 0 := ⟨_, _, rfl, by decide⟩
 obtain ⟨m', p', h2, h3⟩ := h2
 obtain ⟨q1, q2, h4⟩ := quo_nn (m := m) (p := p) (q := p') h3 (double.fractionBits + 2)
 rw [floatOfInt_nat]
 unfold floatBits Format.div
 show ∃ x, _ = some x
 simp only [FloatKind.format, h1, h2, h4]
 exact ⟨_, rfl⟩
end Go.Proofs.YtmfgccjcnnlehaaDoorZF
namespace Go.Proofs.YtmfgccjcnnlehaaDoorZF
open Go
set_option linter.unusedVariables false
set_option linter.unusedSimpArgs false
theorem count_ok (n : Nat) (hn : Big ≤ n) (t : List Int) (ht : Valids t) (hl : t.length ≤ 1000000000) : g89 n (enc t) = some ((t.length : Int), ()) := by
 have key : ∀ (v u : List Int) (m : Nat), t = u ++ v → v.length < m → g89_3L n (fun v2 => @some (DenR [.dat (.int .i64)]) (v2, ())) m (u.length : Int) (enc t) (enc u).size = some ((t.length : Int), ()) := by
  intro v
  induction v with
  | nil =>
   intro u m e hm
   obtain ⟨m, rfl⟩ : ∃ m', m = m' + 1 := ⟨m - 1, by simp at hm; omega⟩
   rw [List.append_nil] at e
   subst e
   rw [g89_3L.eq_2, g89_2]
   have : Nat.blt (enc t).size (enc t).size = false := by rw [Bool.eq_false_iff]; intro h; rw [Nat.blt_eq] at h; omega
   rw [this]; rfl
  | cons c v ih =>
   intro u m e hm
   obtain ⟨m, rfl⟩ : ∃ m', m = m' + 1 := ⟨m - 1, by omega⟩
   have hv : Utf8.valid c = true := ht c (by rw [e]; simp)
   have hs : (enc t).size = (enc u).size + ((Utf8.encode c).size + (enc v).size) := by rw [e, enc_size_append, enc_size_cons]
   have hp := encode_pos c
   have hd : (Utf8.decode (enc t) (enc u).size).2 = (Utf8.encode c).size := by
    have := decode_encode (enc u) (enc v) c hv
    rw [e, enc_append, show enc (c :: v) = Utf8.encode c ++ enc v from runesBytes_cons c v, ← ByteArray.append_assoc, this]
   rw [g89_3L.eq_2, g89_2]
   have hll := congrArg List.length e
   simp only [List.length_append, List.length_cons] at hll
   have : Nat.blt (enc u).size (enc t).size = true := by rw [Nat.blt_eq]; omega
   rw [this, cond_true, hd, w64_id (by omega) (by omega)]
   have := ih (u ++ [c]) m (by rw [e]; simp) (by simp at hm; omega)
   rw [enc_size_append, List.length_append] at this
   have e1 : (enc [c]).size = (Utf8.encode c).size := by rw [enc_size_cons]; rfl
   rw [e1] at this
   have e2 : ((u.length + [c].length : Nat) : Int) = (u.length : Int) + 1 := by simp
   rw [e2] at this
   exact this
 dsimp only [g89, g89_6, g89_5, g89_4, g89_3, g89_1]
 have := key t [] n rfl (by unfold Big at hn; omega)
 exact this
def dlR (l : List Rp) : Nat := ((l.filter fun d => d.1 == -1).map fun d => d.2.length).sum
def inR (l : List Rp) : Nat := ((l.filter fun d => d.1 == 1).map fun d => d.2.length).sum
theorem dl_in : ∀ (l : List Rp), Ops l → edR l = dlR l + inR l ∧ (srcR l).length + inR l = (tgtR l).length + dlR l
 | [], _ => ⟨rfl, rfl⟩
 | (o, t) :: l, h => by
  have ih := dl_in l h.cons.2
  unfold dlR inR at ih ⊢
  rcases h.cons.1 with e | e | e
  ·have e : o = -1 := e
   subst e
   simp [edR, srcR, tgtR] at ih ⊢; omega
  ·have e : o = 0 := e
   subst e
   simp [edR, srcR, tgtR] at ih ⊢; omega
  ·have e : o = 1 := e
   subst e
   simp [edR, srcR, tgtR] at ih ⊢; omega
structure LInv (p : List Rp) (lev ins del : Int) : Prop where
 i0 : 0 ≤ ins
 d0 : 0 ≤ del
 l0 : 0 ≤ lev
 up : lev ≤ (edR p : Int) - ins - del
 lo : (edR p : Int) - ins - del ≤ 2 * lev
 a : (dlR p : Int) - del - (inR p - ins) ≤ lev
 b : (inR p : Int) - ins - (dlR p - del) ≤ lev
end Go.Proofs.YtmfgccjcnnlehaaDoorZF
namespace Go.Proofs.YtmfgccjcnnlehaaDoorZF
open Go
set_option linter.unusedVariables false
set_option linter.unusedSimpArgs false
theorem two_at {x : List Rp} {c : Nat} (h : c + 1 < x.length) : ∃ X a b Y, x = X ++ a :: b :: Y ∧ X.length = c := by
 refine ⟨x.take c, x[c], x[c + 1], x.drop (c + 2), ?_, by rw [List.length_take]; omega⟩
 have h1 := List.drop_eq_getElem_cons (i := c) (l := x) (by omega)
 have h2 := List.drop_eq_getElem_cons (i := c + 1) (l := x) h
 rw [← h2, ← h1, List.take_append_drop]
structure Keeps (x y : List Rp) : Prop where
 ok : Ok y
 src : srcR y = srcR x
 tgt : tgtR y = tgtR x
 ne : x ≠ [] → y ≠ []
theorem ovl_phase {β : Type} (n : Nat) (hn : Big ≤ n) (p0) (kx : List Prt → Option β) : ∀ (d : Nat) (x : List Rp) (c m : Nat), x.length - (c + 1) = d → d < m → Ok x → (srcR x).length + (tgtR x).length ≤ 1000000 → 2 * x.length ≤ 1000000 + c →
  x.length ≤ 1000000 → c ≤ 2000000 → ∃ y, g98_18L n kx m p0 (M x) ((c : Int) + 1) = kx (M y) ∧ Keeps x y ∧ y.length ≤ x.length + d := by
 intro d
 induction d using Nat.strongRecOn with
 | _ d ih =>
  intro x c m hd hm hx hT hL hxl hc
  obtain ⟨m, rfl⟩ : ∃ m', m = m' + 1 := ⟨m - 1, by omega⟩
  have hml := M_length x
  rw [g98_18L.eq_2, g98_17]
  by_cases hlt : c + 1 < x.length
  ·obtain ⟨X, a, b, Y, hxe, hX⟩ := two_at hlt
   subst hxe
   have hXM := M_length X
   have hYM := M_length Y
   have hlen : (X ++ a :: b :: Y).length = c + 2 + Y.length := by simp; omega
   have hMx : M (X ++ a :: b :: Y) = M X ++ (a.1, enc a.2) :: (b.1, enc b.2) :: M Y := by rw [M_append]; rfl
   have w1 : w64 ((c : Int) + 1 - 1) = (c : Int) := by rw [w64_id (by omega) (by omega)]; omega
   have w2 : w64 ((c : Int) + 1 + 1) = (c : Int) + 2 := by rw [w64_id (by omega) (by omega)]; omega
   have w3 : w64 ((c : Int) + 2 + 1) = (c : Int) + 3 := by rw [w64_id (by omega) (by omega)]; omega
   have w4 : w64 ((c : Int) + 3 + 1) = (c : Int) + 4 := by rw [w64_id (by omega) (by omega)]; omega
   have q1 : rd (M (X ++ a :: b :: Y)) (c : Int) ((0 : Int), (⟨#[]⟩ : ByteArray)) = (a.1, enc a.2) := by rw [hMx]; exact rd_mid (by omega)
   have q2 : rd (M (X ++ a :: b :: Y)) ((c : Int) + 1) ((0 : Int), (⟨#[]⟩ : ByteArray)) = (b.1, enc b.2) := by
    rw [hMx, show M X ++ (a.1, enc a.2) :: (b.1, enc b.2) :: M Y = (M X ++ [(a.1, enc a.2)]) ++ (b.1, enc b.2) :: M Y by simp]
    exact rd_mid (by simp; omega)
   have R1 : ∀ (u z v : Prt), rd (M X ++ u :: z :: v :: M Y) (c : Int) ((0 : Int), (⟨#[]⟩ : ByteArray)) = u := fun u z v => rd_mid (by omega)
   have R2 : ∀ (u z v : Prt), rd (M X ++ u :: z :: v :: M Y) ((c : Int) + 2) ((0 : Int), (⟨#[]⟩ : ByteArray)) = v := fun u z v => by
    rw [show M X ++ u :: z :: v :: M Y = (M X ++ [u, z]) ++ v :: M Y by simp]
    exact rd_mid (by simp; omega)
   have S1 : ∀ (u z v w : Prt), (M X ++ u :: z :: v :: M Y).set ((c : Int)).toNat w = M X ++ w :: z :: v :: M Y := fun u z v w => set_mid (by omega)
   have S2 : ∀ (u z v w : Prt), (M X ++ u :: z :: v :: M Y).set ((c : Int) + 2).toNat w = M X ++ u :: z :: w :: M Y := fun u z v w => by
    rw [show M X ++ u :: z :: v :: M Y = (M X ++ [u, z]) ++ v :: M Y by simp, set_mid (by simp; omega)]
    simp
   have L1 : ∀ (u z v : Prt), ((M X ++ u :: z :: v :: M Y).length : Int) = (c : Int) + 3 + (Y.length : Int) := fun u z v => by simp; omega
   have skip1 : ∃ y, g98_18L n kx m p0 (M (X ++ a :: b :: Y)) ((c : Int) + 2) = kx (M y) ∧ Keeps (X ++ a :: b :: Y) y ∧ y.length ≤ (X ++ a :: b :: Y).length + d := by
    obtain ⟨y, h1, h2, h3⟩ := ih ((X ++ a :: b :: Y).length - (c + 1 + 1)) (by omega) _ (c + 1) m rfl (by omega) hx hT (by omega) hxl (by omega)
    exact ⟨y, by rw [show (c : Int) + 2 = ((c + 1 : Nat) : Int) + 1 by omega]; exact h1, h2, by omega⟩
   have skip2 : ∃ y, g98_18L n kx m p0 (M (X ++ a :: b :: Y)) ((c : Int) + 3) = kx (M y) ∧ Keeps (X ++ a :: b :: Y) y ∧ y.length ≤ (X ++ a :: b :: Y).length + d := by
    obtain ⟨y, h1, h2, h3⟩ := ih ((X ++ a :: b :: Y).length - (c + 2 + 1)) (by omega) _ (c + 2) m rfl (by omega) hx hT (by omega) hxl (by omega)
    exact ⟨y, by rw [show (c : Int) + 3 = ((c + 2 : Nat) : Int) + 1 by omega]; exact h1, h2, by omega⟩
   have ins : ∀ (u z v : Rp), OkR u → OkR z → OkR v → srcR [u, z, v] = srcR [a, b] → tgtR [u, z, v] = tgtR [a, b] →
     ∃ y, g98_18L n kx m p0 (M X ++ (u.1, enc u.2) :: (z.1, enc z.2) :: (v.1, enc v.2) :: M Y) ((c : Int) + 4) = kx (M y) ∧ Keeps (X ++ a :: b :: Y) y ∧ y.length ≤ (X ++ a :: b :: Y).length + d := by
    intro u z v hu hz hv hs ht
    have hox := hx.of_append
    have hoy : Ok Y := hox.2.of_cons.2.of_cons.2
    have e1 : ∀ A : List Rp, X ++ u :: z :: v :: A = X ++ [u, z, v] ++ A := fun A => by simp
    have e2 : X ++ a :: b :: Y = X ++ [a, b] ++ Y := by simp
    have s1 : srcR (X ++ u :: z :: v :: Y) = srcR (X ++ a :: b :: Y) := by rw [e1, e2, srcR_append, srcR_append, srcR_append, srcR_append, hs]
    have s2 : tgtR (X ++ u :: z :: v :: Y) = tgtR (X ++ a :: b :: Y) := by rw [e1, e2, tgtR_append, tgtR_append, tgtR_append, tgtR_append, ht]
    have hl3 : (X ++ u :: z :: v :: Y).length = c + 3 + Y.length := by simp; omega
    obtain ⟨y, h1, h2, h3⟩ := ih ((X ++ u :: z :: v :: Y).length - (c + 3 + 1)) (by omega) (X ++ u :: z :: v :: Y) (c + 3) m rfl (by omega) (hox.1.append (Ok.cons' hu (Ok.cons' hz (Ok.cons' hv hoy)))) (by rw [s1, s2]; exact hT) (by omega) (by omega) (by omega)
    refine ⟨y, ?_, ⟨h2.ok, h2.src.trans s1, h2.tgt.trans s2, fun _ => h2.ne (by simp)⟩, by omega⟩
    rw [show (c : Int) + 4 = ((c + 3 : Nat) : Int) + 1 by omega, ← h1, M_append]
    rfl
   have hsp : ∀ z : Prt, g123 n (M (X ++ a :: b :: Y)) ((c : Int) + 1) (0 : Int) [z] = some (M X ++ (a.1, enc a.2) :: z :: (b.1, enc b.2) :: M Y, ()) := fun z => by
    have := splice_ok n hn (M (X ++ a :: b :: Y)) [z] (c + 1) 0 (by omega) (by omega) (by simp)
    rw [show ((c + 1 : Nat) : Int) = (c : Int) + 1 by omega, show ((0 : Nat) : Int) = (0 : Int) from rfl] at this
    rw [this, hMx, show M X ++ (a.1, enc a.2) :: (b.1, enc b.2) :: M Y = (M X ++ [(a.1, enc a.2)]) ++ (b.1, enc b.2) :: M Y by simp, List.take_left' (by simp; omega), List.drop_left' (by simp; omega)]
    simp
   have hal := all_le (x := X ++ a :: b :: Y)
   have ha1 : a.2.length ≤ 1000000 := by have := allR_mem (l := X ++ a :: b :: Y) (d := a) (by simp); omega
   have hb1 : b.2.length ≤ 1000000 := by have := allR_mem (l := X ++ a :: b :: Y) (d := b) (by simp); omega
   have hva := (hx a (by simp)).2
   have hvb := (hx b (by simp)).2
   have z1 := enc_size_le a.2
   have z2 := enc_size_le b.2
   rw [bdT (by omega)]
   simp only [w1, w2, w3, w4, q1, q2]
   rw [idx_ok (by omega) (by omega)]
   by_cases ha : a.1 = -1
   ·rw [biT (by rw [ha]; rfl), idx_ok (by omega) (by omega)]
    by_cases hb : b.1 = 1
    ·rw [biT (by rw [hb]; rfl), idx_ok (by omega) (by omega), idx_ok (by omega) (by omega)]
     obtain ⟨xa, o, yb, i1, i2, i3⟩ := overlap_ok n hn p0 a.2 b.2 hva hvb (by omega) (by omega)
     obtain ⟨xb, o', ya, j1, j2, j3⟩ := overlap_ok n hn p0 b.2 a.2 hvb hva (by omega) (by omega)
     rw [bind_some' i3, bind_some' j3]
     obtain ⟨f1, g1⟩ := half_some a.2.length (by omega)
     obtain ⟨f2, g2⟩ := half_some b.2.length (by omega)
     have ca := count_ok n hn a.2 hva (by omega)
     have cb := count_ok n hn b.2 hvb (by omega)
     have hea : enc a.2 = enc xa ++ enc o := by rw [i1, enc_append]
     have heb : enc b.2 = enc o ++ enc yb := by rw [i2, enc_append]
     have hea' : enc a.2 = enc o' ++ enc ya := by rw [j2, enc_append]
     have heb' : enc b.2 = enc xb ++ enc o' := by rw [j1, enc_append]
     have t1 := congrArg ByteArray.size hea
     have t2 := congrArg ByteArray.size heb
     have t3 := congrArg ByteArray.size hea'
     have t4 := congrArg ByteArray.size heb'
     rw [size_append] at t1 t2 t3 t4
     have k1 : cutS (enc b.2) 0 ((enc o).size : Int) = enc o := by rw [heb]; exact cutS_append_left _ _
     have k2 : cutS (enc b.2) ((enc o).size : Int) ((enc b.2).size : Int) = enc yb := by
      have := cutS_append_right (enc o) (enc yb); rw [← heb] at this; exact this
     have u1 : w64 (((enc a.2).size : Int) - ((enc o).size : Int)) = ((enc xa).size : Int) := by rw [w64_id (by omega) (by omega)]; omega
     have k3 : cutS (enc a.2) 0 ((enc xa).size : Int) = enc xa := by rw [hea]; exact cutS_append_left _ _
     have k4 : cutS (enc a.2) 0 ((enc o').size : Int) = enc o' := by rw [hea']; exact cutS_append_left _ _
     have k5 : cutS (enc a.2) ((enc o').size : Int) ((enc a.2).size : Int) = enc ya := by
      have := cutS_append_right (enc o') (enc ya); rw [← hea'] at this; exact this
     have u2 : w64 (((enc b.2).size : Int) - ((enc o').size : Int)) = ((enc xb).size : Int) := by rw [w64_id (by omega) (by omega)]; omega
     have k6 : cutS (enc b.2) 0 ((enc xb).size : Int) = enc xb := by rw [heb']; exact cutS_append_left _ _
     have vxa : Valids xa := fun q hq => hva q (by rw [i1]; simp [hq])
     have vo : Valids o := fun q hq => hva q (by rw [i1]; simp [hq])
     have vyb : Valids yb := fun q hq => hvb q (by rw [i2]; simp [hq])
     have vxb : Valids xb := fun q hq => hvb q (by rw [j1]; simp [hq])
     have vo' : Valids o' := fun q hq => hvb q (by rw [j1]; simp [hq])
     have vya : Valids ya := fun q hq => hva q (by rw [j2]; simp [hq])
     have ins1 := ins ((-1 : Int), xa) ((0 : Int), o) ((1 : Int), yb) ⟨.inl rfl, vxa⟩ ⟨.inr (.inl rfl), vo⟩ ⟨.inr (.inr rfl), vyb⟩ (by simp [srcR, ha, hb, i1]) (by simp [tgtR, ha, hb, i2])
     have ins2 := ins ((1 : Int), xb) ((0 : Int), o') ((-1 : Int), ya) ⟨.inr (.inr rfl), vxb⟩ ⟨.inr (.inl rfl), vo'⟩ ⟨.inl rfl, vya⟩ (by simp [srcR, ha, hb, j2]) (by simp [tgtR, ha, hb, j1])
     simp only [k1, u1, u2, rd_zero rfl]
     by_cases hr : ((enc o).size : Int) ≥ ((enc o').size : Int)
     ·rw [bdT hr, bind_some' ca]
      simp only
      rw [g1]
      simp only [onS]
      cases (fGt .f64 (floatOfInt .f64 ((enc o).size : Int)) f1 || fEq .f64 (floatOfInt .f64 ((enc o).size : Int)) f1)
      ·rw [cond_false, bind_some' cb]
       simp only
       rw [g2]
       simp only [onS]
       cases (fGt .f64 (floatOfInt .f64 ((enc o).size : Int)) f2 || fEq .f64 (floatOfInt .f64 ((enc o).size : Int)) f2)
       ·rw [cond_false]; exact skip2
       ·rw [cond_true, bnd_ok (by omega) (by omega) (by omega), bind_some' (hsp _)]
        simp only [R1, R2, S1, S2, L1]
        rw [bnd_ok (by omega) (by omega) (by omega), idx_ok (by omega) (by omega), bnd_ok (by omega) (by omega) (by omega), idx_ok (by omega) (by omega), k3, k2, ha, hb]
        exact ins1
      ·rw [cond_true, bnd_ok (by omega) (by omega) (by omega), bind_some' (hsp _)]
       simp only [R1, R2, S1, S2, L1]
       rw [bnd_ok (by omega) (by omega) (by omega), idx_ok (by omega) (by omega), bnd_ok (by omega) (by omega) (by omega), idx_ok (by omega) (by omega), k3, k2, ha, hb]
       exact ins1
     ·rw [bdF hr, bind_some' ca]
      simp only
      rw [g1]
      simp only [onS]
      cases (fGt .f64 (floatOfInt .f64 ((enc o').size : Int)) f1 || fEq .f64 (floatOfInt .f64 ((enc o').size : Int)) f1)
      ·rw [cond_false, bind_some' cb]
       simp only
       rw [g2]
       simp only [onS]
       cases (fGt .f64 (floatOfInt .f64 ((enc o').size : Int)) f2 || fEq .f64 (floatOfInt .f64 ((enc o').size : Int)) f2)
       ·rw [cond_false]; exact skip2
       ·rw [cond_true, bnd_ok (by omega) (by omega) (by omega), bind_some' (hsp _)]
        simp only [R1, R2, S1, S2, L1]
        rw [idx_ok (by omega) (by omega), bnd_ok (by omega) (by omega) (by omega), idx_ok (by omega) (by omega), idx_ok (by omega) (by omega), bnd_ok (by omega) (by omega) (by omega), idx_ok (by omega) (by omega), k4, k5, k6]
        exact ins2
      ·rw [cond_true, bnd_ok (by omega) (by omega) (by omega), bind_some' (hsp _)]
       simp only [R1, R2, S1, S2, L1]
       rw [idx_ok (by omega) (by omega), bnd_ok (by omega) (by omega) (by omega), idx_ok (by omega) (by omega), idx_ok (by omega) (by omega), bnd_ok (by omega) (by omega) (by omega), idx_ok (by omega) (by omega), k4, k5, k6]
       exact ins2
    ·rw [biF (by rw [beq_eq_false_iff_ne]; exact hb)]; exact skip1
   ·rw [biF (by rw [beq_eq_false_iff_ne]; exact ha)]; exact skip1
  ·rw [bdF (by omega)]
   exact ⟨x, rfl, ⟨hx, rfl, rfl, fun h => h⟩, by omega⟩
end Go.Proofs.YtmfgccjcnnlehaaDoorZF
namespace Go.Proofs.YtmfgccjcnnlehaaDoorZF
open Go
set_option linter.unusedVariables false
set_option linter.unusedSimpArgs false
def nq : List Rp → Nat
 | [] => 0
 | d :: l => (if d.1 = 0 then 1 else 0) + nq l
theorem nq_append : ∀ x y, nq (x ++ y) = nq x + nq y
 | [], y => by simp [nq]
 | d :: x, y => by simp [nq, nq_append x y]; omega
def IX (S : List Nat) : List Int := S.map (fun i : Nat => (i : Int))
theorem IX_append (x y : List Nat) : IX (x ++ y) = IX x ++ IX y := List.map_append
theorem IX_length (S : List Nat) : (IX S).length = S.length := List.length_map _
def Link (x : List Rp) (S : List Nat) (e : List Int) : Prop := e = [] ∨ ∃ S' X Y, S = S' ++ [X.length] ∧ x = X ++ (0, e) :: Y
theorem elim_phase {β : Type} (n : Nat) (hn : Big ≤ n) (p0) (kx : _ → List Prt → Bool → Option β) (L T : Nat) (hL : L ≤ 1000) (hT : T ≤ 1000000) : ∀ (μ : Nat) (x : List Rp) (S : List Nat) (e : List Int) (v5 : Bool) (ptr a b c d m : Nat), μ = nq x * (L + 1) + (x.length - ptr) → μ < m → ptr ≤ x.length → x.length + nq x ≤ L → Ok x → (srcR x).length + (tgtR x).length ≤ T →
  (∀ i ∈ S, i < x.length) → Link x S e → Valids e → c + d ≤ allR (x.take ptr) → a + b ≤ T → S.length + μ ≤ 1000000000 →
  ∃ y w, g98_13L n kx m p0 (M x) v5 (IX S) (enc e) (ptr : Int) (a : Int) (b : Int) (c : Int) (d : Int) = kx p0 (M y) w ∧ Keeps x y ∧ y.length ≤ L := by
 intro μ
 induction μ using Nat.strongRecOn with
 | _ μ ih =>
  intro x S e v5 ptr a b c d m hμ hm hp hl hx ht hS hk he hcd hab hSl
  obtain ⟨m, rfl⟩ : ∃ m', m = m' + 1 := ⟨m - 1, by omega⟩
  have hml := M_length x
  have hal := all_le (x := x)
  have htk := allR_take x ptr
  rw [g98_13L.eq_2, g98_12, g98_2]
  by_cases hlt : ptr < x.length
  ·rw [bdT (by omega)]
   unfold g98_11 g98_10 g98_3
   have hI : ptr < (M x).length := by omega
   have m1 : (M x)[ptr] = emb x[ptr] := List.getElem_map _
   have hrd : rd (M x) (ptr : Int) ((0 : Int), (⟨#[]⟩ : ByteArray)) = (x[ptr].1, enc x[ptr].2) := by rw [rd_at hI, m1]; rfl
   have hts : allR (x.take (ptr + 1)) = allR (x.take ptr) + x[ptr].2.length := by rw [List.take_succ_eq_append_getElem hlt, allR_append, allR_cons, allR_nil]; omega
   have htk2 := allR_take x (ptr + 1)
   have hxs := List.drop_eq_getElem_cons hlt
   have hxe : x = x.take ptr ++ x[ptr] :: x.drop (ptr + 1) := by rw [← hxs, List.take_append_drop]
   have hop := hx x[ptr] (by simp)
   have wp : w64 ((ptr : Int) + 1) = ((ptr + 1 : Nat) : Int) := by rw [w64_id (by omega) (by omega)]; omega
   rw [idx_ok (by omega) (by omega), hrd]
   unfold g98_8
   dsimp only
   by_cases h0 : x[ptr].1 = 0
   ·rw [biT (by rw [h0]; rfl)]
    unfold g98_4
    dsimp only
    rw [roomy_ok (by rw [IX_length]; simp; omega), idx_ok (by omega) (by omega), hrd]
    unfold g98_9
    simp only [wp]
    have hd0 : x[ptr] = ((0 : Int), x[ptr].2) := by rw [← h0]
    obtain ⟨y, w, e1, e2, e3⟩ := ih (nq x * (L + 1) + (x.length - (ptr + 1))) (by omega) x (S ++ [ptr]) x[ptr].2 v5 (ptr + 1) c d 0 0 m rfl (by omega) (by omega) hl hx ht (fun i hi => by rcases List.mem_append.1 hi with hi | hi; exact hS i hi; rw [List.mem_singleton.1 hi]; exact hlt) (.inr ⟨S, x.take ptr, x.drop (ptr + 1), by rw [List.length_take]; congr 2; omega, by rw [← hd0]; exact hxe⟩) hop.2 (by omega) (by omega) (by simp; omega)
    refine ⟨y, w, ?_, e2, e3⟩
    rw [IX_append] at e1
    exact e1
   ·rw [biF (by rw [beq_eq_false_iff_ne]; exact h0)]
    unfold g98_7
    skip
    have hcnt := count_ok n hn x[ptr].2 hop.2 (by omega)
    have hcnte : e.length ≤ 1000000 := by
     rcases hk with rfl | ⟨S', X, Y, q1, q2⟩
     ·simp
     ·have : e.length ≤ allR x := allR_mem (l := x) (d := (0, e)) (by rw [q2]; simp)
      omega
    have hce := count_ok n hn e he (by omega)
    have six : ∀ c' d' : Nat, c' + d' ≤ allR (x.take (ptr + 1)) → ∃ y w, g98_6 n (fun p0 x1 v5 x6 v7 v8 v9 v10 v11 v12 => g98_9 n (g98_13L n kx m) p0 x1 v5 x6 v7 v8 v9 v10 v11 v12) p0 (M x) v5 (IX S) (enc e) (ptr : Int) (a : Int) (b : Int) (c' : Int) (d' : Int) = kx p0 (M y) w ∧ Keeps x y ∧ y.length ≤ L := by
     intro c' d' hcd'
     have stay : ∃ y w, g98_13L n kx m p0 (M x) v5 (IX S) (enc e) ((ptr + 1 : Nat) : Int) (a : Int) (b : Int) (c' : Int) (d' : Int) = kx p0 (M y) w ∧ Keeps x y ∧ y.length ≤ L :=
      ih (nq x * (L + 1) + (x.length - (ptr + 1))) (by omega) x S e v5 (ptr + 1) a b c' d' m rfl (by omega) (by omega) hl hx ht hS hk he hcd' hab (by omega)
     unfold g98_6
     dsimp only
     rw [max_call, Option.bind_some]
     simp only
     rw [show fMax (floatOfInt .f64 (a : Int)) (floatOfInt .f64 (b : Int)) = F64 (max a b) from fMax_f a b (by omega) (by omega), toInt_f _ (by omega)]
     simp only [onS]
     rw [max_call, Option.bind_some]
     simp only
     rw [show fMax (floatOfInt .f64 (c' : Int)) (floatOfInt .f64 (d' : Int)) = F64 (max c' d') from fMax_f c' d' (by omega) (by omega), toInt_f _ (by omega)]
     simp only [onS]
     rw [bind_some' hce]
     unfold g98_9
     simp only [wp]
     by_cases g1 : (e.length : Int) > 0
     ·rw [bdT g1, bind_some' hce]
      simp only
      by_cases g2 : (e.length : Int) ≤ ((max a b : Nat) : Int)
      ·rw [bdT g2, bind_some' hce]
       simp only
       by_cases g3 : (e.length : Int) ≤ ((max c' d' : Nat) : Int)
       ·rw [bdT g3]
        have hne : e ≠ [] := fun h => by rw [h] at g1; simp at g1
        obtain ⟨S', X, Y, q1, q2⟩ := hk.resolve_left hne
        have hSlen : (IX S).length = S'.length + 1 := by rw [IX_length, q1]; simp
        have hXl : X.length < x.length := by rw [q2]; simp
        have hSS : S'.length + 1 ≤ 1000000000 := by rw [q1, List.length_append] at hSl; simp only [List.length_cons, List.length_nil] at hSl; omega
        have wS : w64 (((IX S).length : Int) - 1) = (S'.length : Int) := by rw [hSlen, w64_id (by omega) (by omega)]; omega
        have rS : rd (IX S) (S'.length : Int) (0 : Int) = (X.length : Int) := by
         rw [q1, IX_append]
         exact rd_mid (by rw [IX_length])
        have hMx : M x = M X ++ ((0 : Int), enc e) :: M Y := by rw [q2, M_append]; rfl
        have hsp : g123 n (M x) (X.length : Int) (0 : Int) [((-1 : Int), enc e)] = some (M X ++ ((-1 : Int), enc e) :: ((0 : Int), enc e) :: M Y, ()) := by
         have := splice_ok n hn (M x) [((-1 : Int), enc e)] X.length 0 (by omega) (by omega) (by simp)
         rw [show ((0 : Nat) : Int) = (0 : Int) from rfl] at this
         rw [this, hMx, Nat.add_zero, List.take_left' (M_length X), List.drop_left' (M_length X)]
         simp
        have wX : w64 ((X.length : Int) + 1) = (X.length : Int) + 1 := w64_id (by omega) (by omega)
        have rX : rd (M X ++ ((-1 : Int), enc e) :: ((0 : Int), enc e) :: M Y) ((X.length : Int) + 1) ((0 : Int), (⟨#[]⟩ : ByteArray)) = ((0 : Int), enc e) := by
         rw [show M X ++ ((-1 : Int), enc e) :: ((0 : Int), enc e) :: M Y = (M X ++ [((-1 : Int), enc e)]) ++ ((0 : Int), enc e) :: M Y by simp]
         exact rd_mid (by simp [M_length])
        have sX : ∀ w : Prt, (M X ++ ((-1 : Int), enc e) :: ((0 : Int), enc e) :: M Y).set ((X.length : Int) + 1).toNat w = M X ++ ((-1 : Int), enc e) :: w :: M Y := fun w => by
         rw [show M X ++ ((-1 : Int), enc e) :: ((0 : Int), enc e) :: M Y = (M X ++ [((-1 : Int), enc e)]) ++ ((0 : Int), enc e) :: M Y by simp, set_mid (by simp [M_length])]
         simp
        have hlen2 : ((M X ++ ((-1 : Int), enc e) :: ((0 : Int), enc e) :: M Y).length : Int) = (x.length : Int) + 1 := by rw [q2]; simp [M_length]; omega
        simp only [wS, rS]
        rw [idx_ok (by omega) (by rw [hSlen]; omega), bind_some' hsp]
        simp only [wX, rX, sX, hlen2]
        rw [idx_ok (by omega) (by omega), bnd_ok (by omega) (by omega) (by rw [hSlen]; omega)]
        have hx' : Ok (X ++ (-1, e) :: (1, e) :: Y) := by
         have hx2 := hx
         rw [q2] at hx2
         have h1 := hx2.of_append
         exact h1.1.append (Ok.cons' ⟨.inl rfl, he⟩ (Ok.cons' ⟨.inr (.inr rfl), he⟩ h1.2.of_cons.2))
        have hMx' : M (X ++ (-1, e) :: (1, e) :: Y) = M X ++ ((-1 : Int), enc e) :: ((1 : Int), enc e) :: M Y := by rw [M_append]; rfl
        have hs' : srcR (X ++ (-1, e) :: (1, e) :: Y) = srcR x := by rw [q2, srcR_append, srcR_append]; simp [srcR]
        have ht' : tgtR (X ++ (-1, e) :: (1, e) :: Y) = tgtR x := by rw [q2, tgtR_append, tgtR_append]; simp [tgtR]
        have hq' : nq (X ++ (-1, e) :: (1, e) :: Y) + 1 = nq x := by rw [q2, nq_append, nq_append]; simp [nq]; omega
        have hl' : (X ++ (-1, e) :: (1, e) :: Y).length = x.length + 1 := by rw [q2]; simp; try omega
        have hmul : nq x * (L + 1) = nq (X ++ (-1, e) :: (1, e) :: Y) * (L + 1) + (L + 1) := by rw [← hq', Nat.succ_mul]
        have go : ∀ (S2 : List Nat) (p2 : Nat), (∀ i ∈ S2, i ∈ S) → S2.length ≤ S.length → p2 ≤ x.length → ∃ y w, g98_13L n kx m p0 (M X ++ ((-1 : Int), enc e) :: ((1 : Int), enc e) :: M Y) true (IX S2) (⟨#[]⟩ : ByteArray) (p2 : Int) (0 : Int) (0 : Int) (0 : Int) (0 : Int) = kx p0 (M y) w ∧ Keeps x y ∧ y.length ≤ L := by
         intro S2 p2 hs2 hsl2 hp2
         obtain ⟨y, w, e1, e2, e3⟩ := ih (nq (X ++ (-1, e) :: (1, e) :: Y) * (L + 1) + ((X ++ (-1, e) :: (1, e) :: Y).length - p2)) (by omega) (X ++ (-1, e) :: (1, e) :: Y) S2 [] true p2 0 0 0 0 m rfl (by omega) (by omega) (by omega) hx' (by rw [hs', ht']; exact ht) (fun i hi => by have := hS i (hs2 i hi); omega) (.inl rfl) Valids.nil (by omega) (by omega) (by omega)
         refine ⟨y, w, ?_, ⟨e2.ok, e2.src.trans hs', e2.tgt.trans ht', fun _ => e2.ne (by simp)⟩, e3⟩
         rw [hMx'] at e1
         exact e1
        rcases List.eq_nil_or_concat S' with hS' | ⟨S1, j, hS'⟩
        ·subst hS'
         rw [bdF (by simp), bdF (by simp)]
         have hc0 : cut (IX S) 0 (0 + (((([] : List Nat).length : Nat) : Int) - 0)) = IX [] := by rw [cut_take]; simp [IX]
         rw [hc0, show w64 (-1 + 1) = ((0 : Nat) : Int) from rfl]
         exact go [] 0 (fun i hi => by cases hi) (by simp) (by omega)
        ·rw [List.concat_eq_append] at hS'
         have hS'l : S'.length = S1.length + 1 := by rw [hS']; simp
         have w5 : w64 ((S'.length : Int) - 0 - 1) = (S1.length : Int) := by rw [hS'l, w64_id (by omega) (by omega)]; omega
         rw [bdT (by omega)]
         simp only [w5]
         rw [bnd_ok (by omega) (by omega) (by omega)]
         have hcut : cut (IX S) (0 + 0) (0 + 0 + ((S1.length : Int) - 0)) = IX S1 := by
          rw [show (0 : Int) + 0 = 0 from rfl, cut_take, q1, hS', show (0 + ((S1.length : Int) - 0)).toNat = S1.length by omega, List.append_assoc, IX_append]
          exact List.take_left' (IX_length S1)
         have hsub : ∀ i ∈ S1, i ∈ S := fun i hi => by rw [q1, hS']; simp [hi]
         have hsl1 : S1.length ≤ S.length := by rw [q1, hS']; simp
         rcases List.eq_nil_or_concat S1 with hS1 | ⟨S2, i, hS1⟩
         ·rw [bdF (by rw [hS1]; simp), hcut, show w64 (-1 + 1) = ((0 : Nat) : Int) from rfl]
          exact go S1 0 hsub hsl1 (by omega)
         ·rw [List.concat_eq_append] at hS1
          have hS1l : S1.length = S2.length + 1 := by rw [hS1]; simp
          have w6 : w64 ((S1.length : Int) - 0 - 1) = (S2.length : Int) := by rw [hS1l, w64_id (by omega) (by omega)]; omega
          have hi : i < x.length := hS i (by rw [q1, hS', hS1]; simp)
          have r6 : rd (IX S) (0 + 0 + (S2.length : Int)) (0 : Int) = (i : Int) := by
           rw [q1, hS', hS1, show S2 ++ [i] ++ [j] ++ [X.length] = S2 ++ i :: [j, X.length] by simp, IX_append]
           exact rd_mid (by rw [IX_length]; omega)
          rw [bdT (by omega)]
          simp only [w6, r6]
          rw [idx_ok (by omega) (by omega), hcut, show w64 ((i : Int) + 1) = ((i + 1 : Nat) : Int) by rw [w64_id (by omega) (by omega)]; omega]
          exact go S1 (i + 1) hsub hsl1 (by omega)
       ·rw [bdF g3]; exact stay
      ·rw [bdF g2]; exact stay
     ·rw [bdF g1]; exact stay
    unfold g98_5
    dsimp only
    rw [idx_ok (by omega) (by omega), hrd]
    simp only
    by_cases h1 : x[ptr].1 = 1
    ·rw [biT (by rw [h1]; rfl), idx_ok (by omega) (by omega), bind_some' hcnt]
     simp only
     rw [show w64 ((c : Int) + (x[ptr].2.length : Int)) = ((c + x[ptr].2.length : Nat) : Int) by rw [w64_id (by omega) (by omega)]; omega]
     exact six _ _ (by omega)
    ·rw [biF (by rw [beq_eq_false_iff_ne]; exact h1), idx_ok (by omega) (by omega), bind_some' hcnt]
     simp only
     rw [show w64 ((d : Int) + (x[ptr].2.length : Int)) = ((d + x[ptr].2.length : Nat) : Int) by rw [w64_id (by omega) (by omega)]; omega]
     exact six _ _ (by omega)
  ·rw [bdF (by omega)]
   exact ⟨x, v5, rfl, ⟨hx, rfl, rfl, fun h => h⟩, by omega⟩
end Go.Proofs.YtmfgccjcnnlehaaDoorZF
namespace Go.Proofs.YtmfgccjcnnlehaaDoorZF
open Go
set_option linter.unusedVariables false
set_option linter.unusedSimpArgs false
theorem merge_len' {x : List Rp} (hx : Ok x) : (merge x).length ≤ phi x := by
 have h3 : ∀ (k : Nat) {y : List Rp}, Ok y → phi (mergeN k y) ≤ phi y := by
  intro k
  induction k with
  | zero => intro y hy; exact Nat.le_refl _
  | succ k ih =>
   intro y hy
   have hj := phi_join1 hy.ops
   have hs := phi_slide _ [] (join1 y) false rfl
   have h0 : phi [] = 0 := rfl
   rw [mergeN]
   split
   ·have := ih (Ok.slide _ rfl Ok.nil hy.join1) (y := (slide [] (join1 y) false).1)
    omega
   ·omega
 have h1 := h3 (phi x + 1) hx
 have h2 : (merge x).length ≤ phi (merge x) := by unfold phi; omega
 exact Nat.le_trans h2 h1
theorem nq_le : ∀ x : List Rp, nq x ≤ x.length
 | [] => Nat.le_refl _
 | d :: x => by have := nq_le x; unfold nq; split <;> simp <;> omega
theorem semantic_ok (n : Nat) (hn : Big ≤ n) (p0) (x : List Rp) (hx : Ok x) (hl : x.length ≤ 500) (ha : allR x ≤ 100000) : ∃ y, g98 n p0 (M x) = some (M y, ()) ∧ Ok y ∧ srcR y = srcR x ∧ tgtR y = tgtR x ∧ y.length ≤ 1000000 := by
 have hB : (4611686018427387904 : Nat) ≤ n := hn
 have hml := M_length x
 have hq := nq_le x
 have hT := le_all x
 dsimp only [g98, g98_21, g98_1]
 rw [bnd_ok (by omega) (by omega) (by omega), roomI_ok (by omega)]
 unfold g98_14 g98_13
 have hmul : nq x * (x.length + nq x + 1) ≤ 500 * 1001 := Nat.mul_le_mul (by omega) (by omega)
 obtain ⟨y, w, e1, e2, e3⟩ := elim_phase n hn p0 (fun p0 x1 v5 => g98_15 n (fun p0 x1 => g98_16 n (fun p0 x1 v8 => g98_19 n (fun x1 => g98_20 n (fun x4 => some (x4, ())) x1) p0 x1 v8) p0 x1) p0 x1 v5) (x.length + nq x) 200000 (by omega) (by omega) (nq x * (x.length + nq x + 1) + (x.length - 0)) x [] [] false 0 0 0 0 0 n rfl (by omega) (by omega) (by omega) hx (by omega) (fun i hi => by cases hi) (.inl rfl) Valids.nil (by omega) (by omega) (by simp only [List.length_nil]; omega)
 have e1' : ∀ R : Option (DenR g98_R), g98_15 n (fun p0 x1 => g98_16 n (fun p0 x1 v8 => g98_19 n (fun x1 => g98_20 n (fun x4 => some (x4, ())) x1) p0 x1 v8) p0 x1) p0 (M y) w = R → g98_13L n (fun p0 x1 v5 => g98_15 n (fun p0 x1 => g98_16 n (fun p0 x1 v8 => g98_19 n (fun x1 => g98_20 n (fun x4 => some (x4, ())) x1) p0 x1 v8) p0 x1) p0 x1 v5) n p0 (M x) false (List.replicate (0 : Int).toNat (0 : Int)) (⟨#[]⟩ : ByteArray) (0 : Int) (0 : Int) (0 : Int) (0 : Int) (0 : Int) = R := fun R h => (show _ = _ from e1).trans h
 have hal := all_le (x := y)
 rw [e2.src, e2.tgt] at hal
 have tail : ∀ z : List Rp, Ok z → srcR z = srcR x → tgtR z = tgtR x → z.length ≤ 201000 → ∃ y, g98_16 n (fun p0 x1 v8 => g98_19 n (fun x1 => g98_20 n (fun x4 => @some (DenR g98_R) (x4, ())) x1) p0 x1 v8) p0 (M z) = some (M y, ()) ∧ Ok y ∧ srcR y = srcR x ∧ tgtR y = tgtR x ∧ y.length ≤ 1000000 := by
  intro z hz hs ht hzl
  have hza := all_le (x := z)
  rw [hs, ht] at hza
  have hi := @lossless_inv z
  have hil := hi.2.2.2.2.1
  unfold g98_16
  rw [bind_some' (lossless_ok n hn p0 z hz (by omega) (by omega))]
  unfold g98_19 g98_18
  obtain ⟨v, f1, f2, f3⟩ := ovl_phase n hn p0 (fun x1 => g98_20 n (fun x4 => @some (DenR g98_R) (x4, ())) x1) ((lossless z).length - (0 + 1)) (lossless z) 0 n rfl (by omega) (hi.2.2.2.1 hz) (by rw [hi.1, hi.2.1, hs, ht]; omega) (by omega) (by omega) (by omega)
  refine ⟨v, ?_, f2.ok, by rw [f2.src, hi.1, hs], by rw [f2.tgt, hi.2.1, ht], by omega⟩
  exact f1
 cases w with
 | false =>
  obtain ⟨v, f1, f2⟩ := tail y e2.ok e2.src e2.tgt (by omega)
  refine ⟨v, ?_, f2⟩
  refine e1' _ ?_
  unfold g98_15
  rw [cond_false]
  exact f1
 | true =>
  have hph : phi y ≤ 201000 := by have := edR_le y; unfold phi; omega
  have hmt := merge_texts e2.ok
  have hmlen := merge_len' e2.ok
  have hmo : g124 n p0 (M y) = @some (DenR g124_R) (M (merge y), ()) := merge_ok n hn p0 y e2.ok (by omega) (by rw [e2.src, e2.tgt]; omega)
  obtain ⟨v, f1, f2⟩ := tail (merge y) e2.ok.merge (hmt.1.trans e2.src) (hmt.2.1.trans e2.tgt) (by omega)
  refine ⟨v, ?_, f2⟩
  refine e1' _ ?_
  unfold g98_15
  rw [cond_true, bind_some' hmo]
  exact f1
theorem dfSemantic_ok (n : Nat) (hn : Big ≤ n) (x : List Rp) (hx : Ok x) (hl : x.length ≤ 500) (ha : allR x ≤ 100000) : ∃ y, g38 n (M x) = some (M y, ()) ∧ Ok y ∧ srcR y = srcR x ∧ tgtR y = tgtR x ∧ y.length ≤ 1000000 := by
 obtain ⟨p, hp⟩ : ∃ p, g44 n = some (p, ()) := ⟨_, rfl⟩
 obtain ⟨y, h1, h2, h3, h4, h5⟩ := semantic_ok n hn p x hx hl ha
 have hm : g57 n (M x) = some (M x, ()) := made_ok n hn x (by omega) hx
 have hls : g71 n (M y) = some (M y, ()) := list_ok n hn y h5 h2
 refine ⟨y, ?_, h2, h3, h4, h5⟩
 dsimp only [g38, g38_1, g68, g68_1, g68_2]
 rw [bind_some' hp, bind_some' hm]
 simp only
 rw [bind_some' h1]
 simp only
 rw [bind_some' hls]
 rfl
end Go.Proofs.YtmfgccjcnnlehaaDoorZF
