/- Plain statements about the printed functions. -/
import Derived.Test.YtoafkjeamgelgaaDoorZFB
import Derived.Test.YtoafkjeamgelgaaDoorZGA0
namespace Go.Proofs.YtoafkjeamgelgaaDoorZF
open Go
set_option linter.unusedVariables false
set_option linter.unusedSimpArgs false
def Big : Nat := 4611686018427387904
section
variable {β : Type}
theorem wu8_id {n : Int} (h0 : 0 ≤ n) (h1 : n < 256) : IntKind.u8.wrap n = n := by
 unfold IntKind.wrap; simp [IntKind.bits, IntKind.signed]; omega
theorem wi32_id {n : Int} (h0 : -2147483648 ≤ n) (h1 : n < 2147483648) : IntKind.i32.wrap n = n := by
 unfold IntKind.wrap; simp [IntKind.bits, IntKind.signed]; omega
theorem wu32_id {n : Int} (h0 : 0 ≤ n) (h1 : n < 4294967296) : IntKind.u32.wrap n = n := by
 unfold IntKind.wrap; simp [IntKind.bits, IntKind.signed]; omega
theorem idx_ok {i n : Int} {κ : Option β} (h0 : 0 ≤ i) (h1 : i < n) : idx i n κ = κ := by simp [idx, h0, h1]
theorem nneg_ok {b : Int} {κ : Option β} (h : 0 ≤ b) : nneg b κ = κ := by
 have : ¬ b < 0 := by omega
 simp [nneg, this]
theorem biT {γ : Type} {c : Bool} {x y : γ} (h : c = true) : (bif c then x else y) = x := by rw [h]; rfl
theorem bdT {γ : Type} {p : Prop} [Decidable p] {x y : γ} (h : p) : (bif decide p then x else y) = x := by rw [decide_eq_true h]; rfl
theorem bdF {γ : Type} {p : Prop} [Decidable p] {x y : γ} (h : ¬ p) : (bif decide p then x else y) = y := by rw [decide_eq_false h]; rfl
theorem bind_some' {γ δ : Type} {o : Option γ} {a : γ} {f : γ → Option δ} (h : o = some a) : o.bind f = f a := by rw [h]; rfl
end
end Go.Proofs.YtoafkjeamgelgaaDoorZF
namespace Go.Proofs.YtoafkjeamgelgaaDoorZF
open Go
set_option linter.unusedVariables false
set_option linter.unusedSimpArgs false
end Go.Proofs.YtoafkjeamgelgaaDoorZF
namespace Go.Proofs.YtoafkjeamgelgaaDoorZF
open Go Go.RowKit
set_option linter.unusedVariables false
set_option linter.unusedSimpArgs false
theorem b8 (n : Nat) (h : n < 256) : (UInt8.ofNat n).toNat = n := by rw [UInt8.toNat_ofNat']; omega
theorem dec_two (s : ByteArray) (i a b : Nat) (h0 : (s.get! i).toNat = 192 + a) (h1 : (s.get! (i + 1)).toNat = 128 + b) (hs : i + 1 < s.size) (ha : a < 32) (hb : b < 64) (hc : 128 ≤ a * 64 + b) : Utf8.decode s i = (a * 64 + b, 2) := by
 have e1 : (192 + a) / 32 = 6 := by omega
 have e2 : (192 + a) % 32 = a := by omega
 have e3 : (128 + b) / 64 = 2 := by omega
 have e4 : (128 + b) % 64 = b := by omega
 have n1 : ¬ (192 + a < 128) := by omega
 simp [Utf8.decode, h0, h1, e1, e2, e3, e4, hs, n1, hc]
theorem dec_three (s : ByteArray) (i a b c : Nat) (h0 : (s.get! i).toNat = 224 + a) (h1 : (s.get! (i + 1)).toNat = 128 + b) (h2 : (s.get! (i + 2)).toNat = 128 + c) (hs : i + 2 < s.size) (ha : a < 16) (hb : b < 64) (hc : c < 64) (hv : 2048 ≤ a * 4096 + b * 64 + c) (hw : Utf8.valid ((a * 4096 + b * 64 + c : Nat) : Int) = true) : Utf8.decode s i = (a * 4096 + b * 64 + c, 3) := by
 have e0 : (224 + a) / 32 = 7 := by omega
 have e1 : (224 + a) / 16 = 14 := by omega
 have e2 : (224 + a) % 16 = a := by omega
 have e3 : (128 + b) / 64 = 2 := by omega
 have e4 : (128 + b) % 64 = b := by omega
 have e5 : (128 + c) / 64 = 2 := by omega
 have e6 : (128 + c) % 64 = c := by omega
 have n1 : ¬ (224 + a < 128) := by omega
 have s1 : i + 1 < s.size := by omega
 simp [Utf8.decode, h0, h1, h2, e0, e1, e2, e3, e4, e5, e6, hs, s1, n1, hv]
 simpa using hw
theorem dec_four (s : ByteArray) (i a b c d : Nat) (h0 : (s.get! i).toNat = 240 + a) (h1 : (s.get! (i + 1)).toNat = 128 + b) (h2 : (s.get! (i + 2)).toNat = 128 + c) (h3 : (s.get! (i + 3)).toNat = 128 + d) (hs : i + 3 < s.size) (ha : a < 8) (hb : b < 64) (hc : c < 64) (hd : d < 64) (hv : 65536 ≤ a * 262144 + b * 4096 + c * 64 + d) (hw : Utf8.valid ((a * 262144 + b * 4096 + c * 64 + d : Nat) : Int) = true) : Utf8.decode s i = (a * 262144 + b * 4096 + c * 64 + d, 4) := by
 have e0 : (240 + a) / 32 = 7 := by omega
 have e1 : (240 + a) / 16 = 15 := by omega
 have e1' : (240 + a) / 8 = 30 := by omega
 have e2 : (240 + a) % 8 = a := by omega
 have e3 : (128 + b) / 64 = 2 := by omega
 have e4 : (128 + b) % 64 = b := by omega
 have e5 : (128 + c) / 64 = 2 := by omega
 have e6 : (128 + c) % 64 = c := by omega
 have e7 : (128 + d) / 64 = 2 := by omega
 have e8 : (128 + d) % 64 = d := by omega
 have n1 : ¬ (240 + a < 128) := by omega
 have s1 : i + 1 < s.size := by omega
 have s2 : i + 2 < s.size := by omega
 simp [Utf8.decode, h0, h1, h2, h3, e0, e1, e1', e2, e3, e4, e5, e6, e7, e8, hs, s1, s2, n1, hv]
 simpa using hw
def Valids (xs : List Int) : Prop := ∀ x ∈ xs, Utf8.valid x = true
end Go.Proofs.YtoafkjeamgelgaaDoorZF
namespace Go.Proofs.YtoafkjeamgelgaaDoorZF
open Go
set_option linter.unusedVariables false
set_option linter.unusedSimpArgs false
def bl (z : ByteArray) : List UInt8 := z.data.toList
def inner (b : UInt8) : Prop := 128 ≤ b.toNat ∧ b.toNat < 192
abbrev enc (x : List Int) : ByteArray := runesBytes x
end Go.Proofs.YtoafkjeamgelgaaDoorZF
namespace Go.Proofs.YtoafkjeamgelgaaDoorZF
open Go
set_option linter.unusedVariables false
set_option linter.unusedSimpArgs false
theorem and32 (a m : Nat) (ha : a < 4294967296) (hm : m < 4294967296) : andI .u32 (a : Int) (m : Int) = ((a &&& m : Nat) : Int) := by
 have e : (BitVec.ofInt 32 (a : Int) &&& BitVec.ofInt 32 (m : Int)).toNat = a &&& m := by
  rw [BitVec.ofInt_natCast, BitVec.ofInt_natCast, BitVec.toNat_and, BitVec.toNat_ofNat, BitVec.toNat_ofNat, Nat.mod_eq_of_lt ha, Nat.mod_eq_of_lt hm]
 have hl : a &&& m ≤ a := Nat.and_le_left
 show IntKind.u32.wrap ((BitVec.ofInt 32 (a : Int) &&& BitVec.ofInt 32 (m : Int)).toNat : Int) = _
 rw [e, wu32_id (by omega) (by omega)]
theorem and8 (a m : Nat) (ha : a < 256) (hm : m < 256) : andI .u8 (a : Int) (m : Int) = ((a &&& m : Nat) : Int) := by
 have e : (BitVec.ofInt 8 (a : Int) &&& BitVec.ofInt 8 (m : Int)).toNat = a &&& m := by
  rw [BitVec.ofInt_natCast, BitVec.ofInt_natCast, BitVec.toNat_and, BitVec.toNat_ofNat, BitVec.toNat_ofNat, Nat.mod_eq_of_lt ha, Nat.mod_eq_of_lt hm]
 have hl : a &&& m ≤ a := Nat.and_le_left
 show IntKind.u8.wrap ((BitVec.ofInt 8 (a : Int) &&& BitVec.ofInt 8 (m : Int)).toNat : Int) = _
 rw [e, wu8_id (by omega) (by omega)]
theorem or8 (a m : Nat) (ha : a < 256) (hm : m < 256) : orI .u8 (a : Int) (m : Int) = ((a ||| m : Nat) : Int) := by
 have e : (BitVec.ofInt 8 (a : Int) ||| BitVec.ofInt 8 (m : Int)).toNat = a ||| m := by
  rw [BitVec.ofInt_natCast, BitVec.ofInt_natCast, BitVec.toNat_or, BitVec.toNat_ofNat, BitVec.toNat_ofNat, Nat.mod_eq_of_lt ha, Nat.mod_eq_of_lt hm]
 have hl : a ||| m < 2 ^ 8 := Nat.or_lt_two_pow ha hm
 show IntKind.u8.wrap ((BitVec.ofInt 8 (a : Int) ||| BitVec.ofInt 8 (m : Int)).toNat : Int) = _
 rw [e, wu8_id (by omega) (by omega)]
theorem or32 (a m : Nat) (ha : a < 4294967296) (hm : m < 4294967296) : orI .u32 (a : Int) (m : Int) = ((a ||| m : Nat) : Int) := by
 have e : (BitVec.ofInt 32 (a : Int) ||| BitVec.ofInt 32 (m : Int)).toNat = a ||| m := by
  rw [BitVec.ofInt_natCast, BitVec.ofInt_natCast, BitVec.toNat_or, BitVec.toNat_ofNat, BitVec.toNat_ofNat, Nat.mod_eq_of_lt ha, Nat.mod_eq_of_lt hm]
 have hl : a ||| m < 2 ^ 32 := Nat.or_lt_two_pow ha hm
 show IntKind.u32.wrap ((BitVec.ofInt 32 (a : Int) ||| BitVec.ofInt 32 (m : Int)).toNat : Int) = _
 rw [e, wu32_id (by omega) (by omega)]
theorem or_add (k a b : Nat) (hb : b < 2 ^ k) : 2 ^ k * a ||| b = 2 ^ k * a + b := (Nat.two_pow_add_eq_or_of_lt hb a).symm
theorem mask8 (k a : Nat) (ha : a < 256) (hk : k ≤ 8) (hp : 2 ^ k ≤ 256) : andI .u8 (a : Int) ((2 ^ k - 1 : Nat) : Int) = ((a % 2 ^ k : Nat) : Int) := by
 have := Nat.two_pow_pos k
 rw [and8 a _ ha (by omega), Nat.and_two_pow_sub_one_eq_mod]
theorem lead8 (k a b : Nat) (h : 2 ^ k * a < 256) (h8 : 2 ^ k ≤ 256) (hb : b < 2 ^ k) : orI .u8 ((2 ^ k * a : Nat) : Int) (b : Int) = ((2 ^ k * a + b : Nat) : Int) := by
 rw [or8 _ _ h (by omega), or_add k a b hb]
theorem join32 (k a b : Nat) (h : 2 ^ k * a < 4294967296) (h8 : 2 ^ k ≤ 4294967296) (hb : b < 2 ^ k) : orI .u32 ((2 ^ k * a : Nat) : Int) (b : Int) = ((2 ^ k * a + b : Nat) : Int) := by
 rw [or32 _ _ h (by omega), or_add k a b hb]
theorem shr_nat (K : IntKind) (a j : Nat) (h : j ≤ K.bits) : shrI K (a : Int) (j : Int) = ((a / 2 ^ j : Nat) : Int) := by
 unfold shrI
 have e : min (j : Int).toNat K.bits = j := by rw [Int.toNat_natCast]; omega
 rw [e, Int.fdiv_eq_ediv_of_nonneg _ (Int.le_of_lt (Int.pow_pos (by decide)))]
 push_cast
 rfl
theorem shl32 (a j : Nat) (h : j ≤ 32) (hl : a * 2 ^ j < 4294967296) : shlI .u32 (a : Int) (j : Int) = ((2 ^ j * a : Nat) : Int) := by
 unfold shlI
 have e : min (j : Int).toNat (IntKind.bits .u32) = j := by rw [Int.toNat_natCast]; show min j 32 = j; omega
 have e2 : (a : Int) * 2 ^ j = ((a * 2 ^ j : Nat) : Int) := by push_cast; rfl
 rw [e, e2, wu32_id (by omega) (by omega), Nat.mul_comm]
theorem wrap8_nat (a : Nat) : IntKind.u8.wrap (a : Int) = ((a % 256 : Nat) : Int) := by
 show ((a : Int) % (2 ^ 8 : Int)) = _
 omega
theorem getBits_ok (n v c f : Nat) (hv : v < 4294967296) (hc : c ≤ 6) (hf : f ≤ 18) : g70 n (v : Int) (c : Int) (f : Int) = some (((v / 2 ^ f % 2 ^ c : Nat) : Int), ()) := by
 have h6 : 2 ^ c ≤ 64 := Nat.le_trans (Nat.pow_le_pow_right (by decide) hc) (by decide)
 have h0 := Nat.two_pow_pos c
 have hd : v / 2 ^ f ≤ v := Nat.div_le_self _ _
 have hm : v / 2 ^ f % 2 ^ c < 2 ^ c := Nat.mod_lt _ h0
 dsimp only [g70, g70_1]
 rw [nneg_ok (by omega), nneg_ok (by omega), shr_nat .u32 v f (by show f ≤ 32; omega), show (1 : Int) = ((1 : Nat) : Int) from rfl, shl32 1 c (by omega) (by omega), Nat.mul_one]
 have e : ((2 ^ c : Nat) : Int) - ((1 : Nat) : Int) = ((2 ^ c - 1 : Nat) : Int) := by omega
 rw [e, wu32_id (by omega) (by omega), and32 _ _ (by omega) (by omega), Nat.and_two_pow_sub_one_eq_mod, wrap8_nat, Nat.mod_eq_of_lt (a := v / 2 ^ f % 2 ^ c) (by omega)]
theorem get_nums (xs : List Int) (i : Nat) (h : i < xs.length) (hx : 0 ≤ xs[i] ∧ xs[i] < 256) : ((strOfNums xs).get! i).toNat = xs[i].toNat := by
 have e : (strOfNums xs).get! i = UInt8.ofNat xs[i].toNat := by
  show ((xs.map fun x => UInt8.ofNat x.toNat).toArray)[i]! = _
  simp [h]
 rw [e, b8 _ (by omega)]
theorem go_dec (xs : List Int) (h : xs ≠ []) : Lib.decodeGo (strOfNums xs) = Utf8.decode (strOfNums xs) 0 := by
 unfold Lib.decodeGo
 rw [if_neg]
 rw [strOfNums_size]
 intro h0
 exact h (List.length_eq_zero_iff.1 h0)
theorem dr2 (n a b : Nat) (ha : a < 32) (hb : b < 64) (hc : 128 ≤ a * 64 + b) : g69 n [((192 + a : Nat) : Int), ((128 + b : Nat) : Int)] = some (((a * 64 + b : Nat) : Int), (2, ())) := by
 unfold g69
 rw [if_pos ⟨by simp, by simp; omega⟩, go_dec _ (by simp), dec_two _ 0 a b (by rw [get_nums _ 0 (by simp) (by simp; omega)]; simp; omega) (by rw [get_nums _ 1 (by simp) (by simp; omega)]; simp; omega) (by rw [strOfNums_size]; simp) ha hb hc]
 rfl
theorem dr3 (n a b c : Nat) (ha : a < 16) (hb : b < 64) (hc : c < 64) (hv : 2048 ≤ a * 4096 + b * 64 + c) (hw : Utf8.valid ((a * 4096 + b * 64 + c : Nat) : Int) = true) : g69 n [((224 + a : Nat) : Int), ((128 + b : Nat) : Int), ((128 + c : Nat) : Int)] = some (((a * 4096 + b * 64 + c : Nat) : Int), (3, ())) := by
 unfold g69
 rw [if_pos ⟨by simp, by simp; omega⟩, go_dec _ (by simp), dec_three _ 0 a b c (by rw [get_nums _ 0 (by simp) (by simp; omega)]; simp; omega) (by rw [get_nums _ 1 (by simp) (by simp; omega)]; simp; omega) (by rw [get_nums _ 2 (by simp) (by simp; omega)]; simp; omega) (by rw [strOfNums_size]; simp) ha hb hc hv hw]
 rfl
theorem dr4 (n a b c d : Nat) (ha : a < 8) (hb : b < 64) (hc : c < 64) (hd : d < 64) (hv : 65536 ≤ a * 262144 + b * 4096 + c * 64 + d) (hw : Utf8.valid ((a * 262144 + b * 4096 + c * 64 + d : Nat) : Int) = true) : g69 n [((240 + a : Nat) : Int), ((128 + b : Nat) : Int), ((128 + c : Nat) : Int), ((128 + d : Nat) : Int)] = some (((a * 262144 + b * 4096 + c * 64 + d : Nat) : Int), (4, ())) := by
 unfold g69
 rw [if_pos ⟨by simp, by simp; omega⟩, go_dec _ (by simp), dec_four _ 0 a b c d (by rw [get_nums _ 0 (by simp) (by simp; omega)]; simp; omega) (by rw [get_nums _ 1 (by simp) (by simp; omega)]; simp; omega) (by rw [get_nums _ 2 (by simp) (by simp; omega)]; simp; omega) (by rw [get_nums _ 3 (by simp) (by simp; omega)]; simp; omega) (by rw [strOfNums_size]; simp) ha hb hc hd hv hw]
 rfl
def ofN (v : Nat) : Nat := if v < 55296 then v else if v < 63485 then v + 2048 else v + 2051
theorem ofN_valid {v : Nat} (h : v < 1110016) : ofN v < 1112067 ∧ (ofN v < 55296 ∨ 57343 < ofN v) ∧ ofN v ≠ 65533 := by
 unfold ofN; split
 ·omega
 ·split <;> omega
theorem valid_nat {r : Nat} (h : r < 55296 ∨ 57343 < r ∧ r < 1114112) : Utf8.valid (r : Int) = true := by
 unfold Utf8.valid; simp; omega
theorem l2 (x : Nat) (h : x < 32) : orI .u8 (192 : Int) (x : Int) = ((192 + x : Nat) : Int) := lead8 5 6 x (by decide) (by decide) h
theorem l3 (x : Nat) (h : x < 16) : orI .u8 (224 : Int) (x : Int) = ((224 + x : Nat) : Int) := lead8 4 14 x (by decide) (by decide) h
theorem l4 (x : Nat) (h : x < 8) : orI .u8 (240 : Int) (x : Int) = ((240 + x : Nat) : Int) := lead8 3 30 x (by decide) (by decide) h
theorem l1 (x : Nat) (h : x < 64) : orI .u8 (128 : Int) (x : Int) = ((128 + x : Nat) : Int) := lead8 6 2 x (by decide) (by decide) h
theorem three_ok (n w : Nat) (h0 : 2048 ≤ w) (h1 : w < 65536) (h2 : w < 55296 ∨ 57343 < w) : g69 n [orI .u8 (224 : Int) ((w / 2 ^ 12 % 2 ^ 4 : Nat) : Int), orI .u8 (128 : Int) ((w / 2 ^ 6 % 2 ^ 6 : Nat) : Int), orI .u8 (128 : Int) ((w / 2 ^ 0 % 2 ^ 6 : Nat) : Int)] = some ((w : Int), (3, ())) := by
 rw [l3 _ (by omega), l1 _ (by omega), l1 _ (by omega)]
 have e : w / 2 ^ 12 % 2 ^ 4 * 4096 + w / 2 ^ 6 % 2 ^ 6 * 64 + w / 2 ^ 0 % 2 ^ 6 = w := by omega
 rw [dr3 n _ _ _ (by omega) (by omega) (by omega) (by omega) (by rw [e]; exact valid_nat (by omega)), e]
theorem intToRune_ok (n v : Nat) (hv : v < 1110016) : g55 n (v : Int) = some ((ofN v : Int), ()) := by
 dsimp only [g55, g55_1]
 by_cases c1 : v < 128
 ·rw [bdT (by omega), wi32_id (by omega) (by omega), show ofN v = v by unfold ofN; rw [if_pos (by omega)]]
 rw [bdF (by omega)]
 by_cases c2 : v < 2048
 ·rw [bdT (by omega), show (5 : Int) = ((5 : Nat) : Int) from rfl, show (6 : Int) = ((6 : Nat) : Int) from rfl, show (0 : Int) = ((0 : Nat) : Int) from rfl, getBits_ok n v 5 6 (by omega) (by omega) (by omega), getBits_ok n v 6 0 (by omega) (by omega) (by omega)]
  simp only [Option.bind_some]
  rw [l2 _ (by omega), l1 _ (by omega)]
  have e : v / 2 ^ 6 % 2 ^ 5 * 64 + v / 2 ^ 0 % 2 ^ 6 = v := by omega
  rw [dr2 n _ _ (by omega) (by omega) (by omega), e, Option.bind_some]
  have ne : ((v : Int) == (65533 : Int)) = false := by simp; omega
  simp only [show ((2 : Int) != (2 : Int)) = false from rfl, cond_false, ne]
  rw [show ofN v = v by unfold ofN; rw [if_pos (by omega)]]
 rw [bdF (by omega)]
 by_cases c3 : v < 63485
 ·rw [bdT (by omega)]
  by_cases c4 : v < 55296
  ·rw [bdF (by omega), show (4 : Int) = ((4 : Nat) : Int) from rfl, show (12 : Int) = ((12 : Nat) : Int) from rfl, show (6 : Int) = ((6 : Nat) : Int) from rfl, show (0 : Int) = ((0 : Nat) : Int) from rfl, getBits_ok n v 4 12 (by omega) (by omega) (by omega), getBits_ok n v 6 6 (by omega) (by omega) (by omega), getBits_ok n v 6 0 (by omega) (by omega) (by omega)]
   simp only [Option.bind_some]
   rw [three_ok n v (by omega) (by omega) (by omega), Option.bind_some]
   have ne : ((v : Int) == (65533 : Int)) = false := by simp; omega
   simp only [show ((3 : Int) != (3 : Int)) = false from rfl, cond_false, ne]
   rw [show ofN v = v by unfold ofN; rw [if_pos (by omega)]]
  ·have hw : IntKind.u32.wrap ((v : Int) + 2048) = ((v + 2048 : Nat) : Int) := by rw [wu32_id (by omega) (by omega)]; omega
   rw [bdT (by omega), hw, show (4 : Int) = ((4 : Nat) : Int) from rfl, show (12 : Int) = ((12 : Nat) : Int) from rfl, show (6 : Int) = ((6 : Nat) : Int) from rfl, show (0 : Int) = ((0 : Nat) : Int) from rfl, getBits_ok n (v + 2048) 4 12 (by omega) (by omega) (by omega), getBits_ok n (v + 2048) 6 6 (by omega) (by omega) (by omega), getBits_ok n (v + 2048) 6 0 (by omega) (by omega) (by omega)]
   simp only [Option.bind_some]
   rw [three_ok n (v + 2048) (by omega) (by omega) (by omega), Option.bind_some]
   have ne : (((v + 2048 : Nat) : Int) == (65533 : Int)) = false := by simp; omega
   simp only [show ((3 : Int) != (3 : Int)) = false from rfl, cond_false, ne]
   rw [show ofN v = v + 2048 by unfold ofN; rw [if_neg (by omega), if_pos (by omega)]]
 rw [bdF (by omega), bdT (by omega)]
 have hw : IntKind.u32.wrap ((v : Int) + 2051) = ((v + 2051 : Nat) : Int) := by rw [wu32_id (by omega) (by omega)]; omega
 rw [hw, show (3 : Int) = ((3 : Nat) : Int) from rfl, show (18 : Int) = ((18 : Nat) : Int) from rfl, show (12 : Int) = ((12 : Nat) : Int) from rfl, show (6 : Int) = ((6 : Nat) : Int) from rfl, show (0 : Int) = ((0 : Nat) : Int) from rfl, getBits_ok n (v + 2051) 3 18 (by omega) (by omega) (by omega), getBits_ok n (v + 2051) 6 12 (by omega) (by omega) (by omega), getBits_ok n (v + 2051) 6 6 (by omega) (by omega) (by omega), getBits_ok n (v + 2051) 6 0 (by omega) (by omega) (by omega)]
 simp only [Option.bind_some]
 rw [l4 _ (by omega), l1 _ (by omega), l1 _ (by omega), l1 _ (by omega)]
 have e : (v + 2051) / 2 ^ 18 % 2 ^ 3 * 262144 + (v + 2051) / 2 ^ 12 % 2 ^ 6 * 4096 + (v + 2051) / 2 ^ 6 % 2 ^ 6 * 64 + (v + 2051) / 2 ^ 0 % 2 ^ 6 = v + 2051 := by omega
 rw [dr4 n _ _ _ _ (by omega) (by omega) (by omega) (by omega) (by omega) (by rw [e]; exact valid_nat (by omega)), e, Option.bind_some]
 have ne : (((v + 2051 : Nat) : Int) == (65533 : Int)) = false := by simp; omega
 simp only [show ((4 : Int) != (4 : Int)) = false from rfl, cond_false, ne]
 rw [show ofN v = v + 2051 by unfold ofN; rw [if_neg (by omega), if_neg (by omega)]]
end Go.Proofs.YtoafkjeamgelgaaDoorZF
namespace Go.Proofs.YtoafkjeamgelgaaDoorZF
open Go
set_option linter.unusedVariables false
set_option linter.unusedSimpArgs false
theorem m63 (a : Nat) (h : a < 256) : andI .u8 (a : Int) (63 : Int) = ((a % 64 : Nat) : Int) := mask8 6 a h (by decide) (by decide)
theorem m31 (a : Nat) (h : a < 256) : andI .u8 (a : Int) (31 : Int) = ((a % 32 : Nat) : Int) := mask8 5 a h (by decide) (by decide)
theorem m15 (a : Nat) (h : a < 256) : andI .u8 (a : Int) (15 : Int) = ((a % 16 : Nat) : Int) := mask8 4 a h (by decide) (by decide)
theorem m7 (a : Nat) (h : a < 256) : andI .u8 (a : Int) (7 : Int) = ((a % 8 : Nat) : Int) := mask8 3 a h (by decide) (by decide)
theorem sh6 (r : Nat) : shrI .i32 (r : Int) (6 : Int) = ((r / 64 : Nat) : Int) := shr_nat .i32 r 6 (by decide)
theorem sh12 (r : Nat) : shrI .i32 (r : Int) (12 : Int) = ((r / 4096 : Nat) : Int) := shr_nat .i32 r 12 (by decide)
theorem sh18 (r : Nat) : shrI .i32 (r : Int) (18 : Int) = ((r / 262144 : Nat) : Int) := shr_nat .i32 r 18 (by decide)
theorem low8 (x : Nat) : orI .u8 (128 : Int) (andI .u8 (IntKind.u8.wrap (x : Int)) (63 : Int)) = ((128 + x % 64 : Nat) : Int) := by
 rw [wrap8_nat, m63 _ (by omega), l1 _ (by omega), show x % 256 % 64 = x % 64 by omega]
theorem enc2 (n r : Nat) (h1 : 128 ≤ r) (h2 : r < 2048) : g71 n [0, 0, 0, 0] (r : Int) = some ((2, ()), ([((192 + r / 64 : Nat) : Int), ((128 + r % 64 : Nat) : Int), 0, 0], ())) := by
 have e : IntKind.u32.wrap (r : Int) = (r : Int) := wu32_id (by omega) (by omega)
 dsimp only [g71, g71_1, g82, g82_4, g82_1, g82_3, g82_2]
 rw [e, bdF (by omega), bdT (by omega), idx_ok (by simp) (by simp), idx_ok (by simp) (by simp), idx_ok (by simp) (by simp), sh6, wrap8_nat, l2 _ (by omega), low8, show r / 64 % 256 = r / 64 by omega]
 rfl
theorem enc3 (n r : Nat) (h1 : 2048 ≤ r) (h2 : r < 65536) (h3 : r < 55296 ∨ 57343 < r) : g71 n [0, 0, 0, 0] (r : Int) = some ((3, ()), ([((224 + r / 4096 : Nat) : Int), ((128 + r / 64 % 64 : Nat) : Int), ((128 + r % 64 : Nat) : Int), 0], ())) := by
 have e : IntKind.u32.wrap (r : Int) = (r : Int) := wu32_id (by omega) (by omega)
 dsimp only [g71, g71_1, g82, g82_4, g82_1, g82_3, g82_2]
 rw [e, bdF (by omega), bdF (by omega)]
 by_cases c : r < 55296
 ·rw [bdT (by omega), bdT (by omega), idx_ok (by simp) (by simp), idx_ok (by simp) (by simp), idx_ok (by simp) (by simp), idx_ok (by simp) (by simp), sh6, sh12, wrap8_nat (r / 4096), l3 _ (by omega), low8, low8, show r / 4096 % 256 = r / 4096 by omega]
  rfl
 ·rw [bdF (by omega), bdT (by omega), bdT (by omega), idx_ok (by simp) (by simp), idx_ok (by simp) (by simp), idx_ok (by simp) (by simp), idx_ok (by simp) (by simp), sh6, sh12, wrap8_nat (r / 4096), l3 _ (by omega), low8, low8, show r / 4096 % 256 = r / 4096 by omega]
  rfl
theorem enc4 (n r : Nat) (h1 : 65536 ≤ r) (h2 : r < 1114112) : g71 n [0, 0, 0, 0] (r : Int) = some ((4, ()), ([((240 + r / 262144 : Nat) : Int), ((128 + r / 4096 % 64 : Nat) : Int), ((128 + r / 64 % 64 : Nat) : Int), ((128 + r % 64 : Nat) : Int)], ())) := by
 have e : IntKind.u32.wrap (r : Int) = (r : Int) := wu32_id (by omega) (by omega)
 dsimp only [g71, g71_1, g82, g82_4, g82_1, g82_3, g82_2]
 rw [e, bdF (by omega), bdF (by omega), bdF (by omega), bdT (by omega), bdF (by omega), bdT (by omega), bdT (by omega), idx_ok (by simp) (by simp), idx_ok (by simp) (by simp), idx_ok (by simp) (by simp), idx_ok (by simp) (by simp), idx_ok (by simp) (by simp), sh6, sh12, sh18, wrap8_nat (r / 262144), l4 _ (by omega), low8, low8, low8, show r / 262144 % 256 = r / 262144 by omega]
 rfl
def toN (r : Nat) : Nat := if r < 57343 then r else if r < 65536 then r - 2048 else r - 2051
theorem toN_ofN {v : Nat} (h : v < 1110016) : toN (ofN v) = v := by
 unfold toN ofN; split
 ·rw [if_pos (by omega)]
 ·split
  ·rw [if_neg (by omega), if_pos (by omega)]; omega
  ·rw [if_neg (by omega), if_neg (by omega)]; omega
theorem s6 (a : Nat) (h : a < 64) : shlI .u32 (a : Int) (6 : Int) = ((64 * a : Nat) : Int) := shl32 a 6 (by decide) (by omega)
theorem s12 (a : Nat) (h : a < 64) : shlI .u32 (a : Int) (12 : Int) = ((4096 * a : Nat) : Int) := shl32 a 12 (by decide) (by omega)
theorem s18 (a : Nat) (h : a < 64) : shlI .u32 (a : Int) (18 : Int) = ((262144 * a : Nat) : Int) := shl32 a 18 (by decide) (by omega)
theorem j6 (a b : Nat) (h : a < 33554432) (hb : b < 64) : orI .u32 ((64 * a : Nat) : Int) (b : Int) = ((64 * a + b : Nat) : Int) := join32 6 a b (by omega) (by decide) hb
theorem j12 (a b : Nat) (h : a < 524288) (hb : b < 4096) : orI .u32 ((4096 * a : Nat) : Int) (b : Int) = ((4096 * a + b : Nat) : Int) := join32 12 a b (by omega) (by decide) hb
theorem j18 (a b : Nat) (h : a < 8192) (hb : b < 262144) : orI .u32 ((262144 * a : Nat) : Int) (b : Int) = ((262144 * a + b : Nat) : Int) := join32 18 a b (by omega) (by decide) hb
theorem w32n (a : Nat) (h : a < 4294967296) : IntKind.u32.wrap (a : Int) = (a : Int) := wu32_id (by omega) (by omega)
theorem p31 (x : Nat) (h : x < 32) : IntKind.u32.wrap (andI .u8 ((192 + x : Nat) : Int) (31 : Int)) = (x : Int) := by rw [m31 _ (by omega), w32n _ (by omega)]; omega
theorem p15 (x : Nat) (h : x < 16) : IntKind.u32.wrap (andI .u8 ((224 + x : Nat) : Int) (15 : Int)) = (x : Int) := by rw [m15 _ (by omega), w32n _ (by omega)]; omega
theorem p7 (x : Nat) (h : x < 8) : IntKind.u32.wrap (andI .u8 ((240 + x : Nat) : Int) (7 : Int)) = (x : Int) := by rw [m7 _ (by omega), w32n _ (by omega)]; omega
theorem p63 (x : Nat) (h : x < 64) : IntKind.u32.wrap (andI .u8 ((128 + x : Nat) : Int) (63 : Int)) = (x : Int) := by rw [m63 _ (by omega), w32n _ (by omega)]; omega
theorem runeToInt_ok (n r : Nat) (h : r < 55296 ∨ 57343 < r ∧ r < 1114112) : g56 n (r : Int) = some ((toN r : Int), ()) := by
 have e : IntKind.u32.wrap (r : Int) = (r : Int) := wu32_id (by omega) (by omega)
 dsimp only [g56, g56_1]
 rw [e]
 by_cases c1 : r < 128
 ·rw [bdT (by omega), show toN r = r by unfold toN; rw [if_pos (by omega)]]
 rw [bdF (by omega)]
 by_cases c2 : r < 2048
 ·rw [bind_some' (enc2 n r (by omega) c2)]
  simp only [show ((2 : Int) == (2 : Int)) = true from rfl, cond_true]
  rw [idx_ok (by simp) (by simp), idx_ok (by simp) (by simp)]
  simp only [show ∀ a b c d : Int, rd [a, b, c, d] 0 0 = a from fun _ _ _ _ => rfl, show ∀ a b c d : Int, rd [a, b, c, d] 1 0 = b from fun _ _ _ _ => rfl]
  rw [p31 _ (by omega), p63 _ (by omega), s6 _ (by omega), j6 _ _ (by omega) (by omega), show 64 * (r / 64) + r % 64 = r by omega, show toN r = r by unfold toN; rw [if_pos (by omega)]]
 by_cases c3 : r < 65536
 ·rw [bind_some' (enc3 n r (by omega) c3 (by omega))]
  simp only [show ((3 : Int) == (2 : Int)) = false from rfl, show ((3 : Int) == (3 : Int)) = true from rfl, cond_true, cond_false]
  rw [idx_ok (by simp) (by simp), idx_ok (by simp) (by simp), idx_ok (by simp) (by simp)]
  simp only [show ∀ a b c d : Int, rd [a, b, c, d] 0 0 = a from fun _ _ _ _ => rfl, show ∀ a b c d : Int, rd [a, b, c, d] 1 0 = b from fun _ _ _ _ => rfl, show ∀ a b c d : Int, rd [a, b, c, d] 2 0 = c from fun _ _ _ _ => rfl]
  rw [p15 _ (by omega), p63 _ (by omega), p63 _ (by omega), s12 _ (by omega), s6 _ (by omega), j12 _ _ (by omega) (by omega), show 4096 * (r / 4096) + 64 * (r / 64 % 64) = 64 * (r / 64) by omega, j6 _ _ (by omega) (by omega), show 64 * (r / 64) + r % 64 = r by omega]
  by_cases c4 : r < 57343
  ·rw [bdF (by omega), show toN r = r by unfold toN; rw [if_pos c4]]
  ·rw [bdT (by omega), wu32_id (by omega) (by omega), show toN r = r - 2048 by unfold toN; rw [if_neg c4, if_pos c3]]
   rw [show ((r : Int) - 2048) = ((r - 2048 : Nat) : Int) by omega]
 rw [bind_some' (enc4 n r (by omega) (by omega))]
 simp only [show ((4 : Int) == (2 : Int)) = false from rfl, show ((4 : Int) == (3 : Int)) = false from rfl, show ((4 : Int) == (4 : Int)) = true from rfl, cond_true, cond_false]
 rw [idx_ok (by simp) (by simp), idx_ok (by simp) (by simp), idx_ok (by simp) (by simp), idx_ok (by simp) (by simp)]
 simp only [show ∀ a b c d : Int, rd [a, b, c, d] 0 0 = a from fun _ _ _ _ => rfl, show ∀ a b c d : Int, rd [a, b, c, d] 1 0 = b from fun _ _ _ _ => rfl, show ∀ a b c d : Int, rd [a, b, c, d] 2 0 = c from fun _ _ _ _ => rfl, show ∀ a b c d : Int, rd [a, b, c, d] 3 0 = d from fun _ _ _ _ => rfl]
 rw [p7 _ (by omega), p63 _ (by omega), p63 _ (by omega), p63 _ (by omega), s18 _ (by omega), s12 _ (by omega), s6 _ (by omega), j18 _ _ (by omega) (by omega), show 262144 * (r / 262144) + 4096 * (r / 4096 % 64) = 4096 * (r / 4096) by omega, j12 _ _ (by omega) (by omega), show 4096 * (r / 4096) + 64 * (r / 64 % 64) = 64 * (r / 64) by omega, j6 _ _ (by omega) (by omega), show 64 * (r / 64) + r % 64 = r by omega, wu32_id (n := (r : Int) - 2048) (by omega) (by omega), wu32_id (by omega) (by omega), show toN r = r - 2051 by unfold toN; rw [if_neg (by omega), if_neg c3]]
 rw [show ((r : Int) - 2048 - 3) = ((r - 2051 : Nat) : Int) by omega]
end Go.Proofs.YtoafkjeamgelgaaDoorZF
