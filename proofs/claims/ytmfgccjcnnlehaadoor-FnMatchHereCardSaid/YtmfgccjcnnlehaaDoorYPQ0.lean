/- Plain statements about the printed functions. -/
import Derived.Test.YtmfgccjcnnlehaaDoorYFB
import Derived.Laws.FloatBits
import Derived.Test.YtmfgccjcnnlehaaDoorYGA0
namespace Go.Proofs.YtmfgccjcnnlehaaDoorYF
open Go
set_option linter.unusedVariables false
set_option linter.unusedSimpArgs false
def Big : Nat := 4611686018427387904
section
variable {β : Type}
theorem w64_id {n : Int} (h0 : -9223372036854775808 ≤ n) (h1 : n < 9223372036854775808) : w64 n = n := by
 unfold w64 IntKind.wrap; simp [IntKind.bits, IntKind.signed]; omega
theorem wu8_id {n : Int} (h0 : 0 ≤ n) (h1 : n < 256) : IntKind.u8.wrap n = n := by
 unfold IntKind.wrap; simp [IntKind.bits, IntKind.signed]; omega
theorem wi32_id {n : Int} (h0 : -2147483648 ≤ n) (h1 : n < 2147483648) : IntKind.i32.wrap n = n := by
 unfold IntKind.wrap; simp [IntKind.bits, IntKind.signed]; omega
theorem wi8_id {n : Int} (h0 : -128 ≤ n) (h1 : n < 128) : IntKind.i8.wrap n = n := by
 unfold IntKind.wrap; simp [IntKind.bits, IntKind.signed]; omega
theorem wu32_id {n : Int} (h0 : 0 ≤ n) (h1 : n < 4294967296) : IntKind.u32.wrap n = n := by
 unfold IntKind.wrap; simp [IntKind.bits, IntKind.signed]; omega
theorem wi64_id {n : Int} (h0 : -9223372036854775808 ≤ n) (h1 : n < 9223372036854775808) : IntKind.i64.wrap n = n := w64_id h0 h1
theorem idx_ok {i n : Int} {κ : Option β} (h0 : 0 ≤ i) (h1 : i < n) : idx i n κ = κ := by simp [idx, h0, h1]
theorem bnd_ok {a b n : Int} {κ : Option β} (h0 : 0 ≤ a) (h1 : a ≤ b) (h2 : b ≤ n) : bnd a b n κ = κ := by simp [bnd, h0, h1, h2]
theorem roomy_ok {n : Nat} {κ : Option β} (h : n ≤ 1099511627776) : roomy n κ = κ := by simp [roomy, h]
theorem roomI_ok {n : Int} {κ : Option β} (h : n ≤ 1099511627776) : roomI n κ = κ := by simp [roomI, h]
theorem room46_ok {z : ByteArray} {κ : Option β} (h : z.size ≤ 70368744177664) : room46 z κ = κ := by
 have : Nat.ble z.size 70368744177664 = true := by rw [Nat.ble_eq]; exact h
 simp [room46, this]
theorem nz_ok {b : Int} {κ : Option β} (h : b ≠ 0) : nz b κ = κ := by simp [nz, h]
theorem nneg_ok {b : Int} {κ : Option β} (h : 0 ≤ b) : nneg b κ = κ := by
 have : ¬ b < 0 := by omega
 simp [nneg, this]
theorem biT {γ : Type} {c : Bool} {x y : γ} (h : c = true) : (bif c then x else y) = x := by rw [h]; rfl
theorem biF {γ : Type} {c : Bool} {x y : γ} (h : c = false) : (bif c then x else y) = y := by rw [h]; rfl
theorem bdT {γ : Type} {p : Prop} [Decidable p] {x y : γ} (h : p) : (bif decide p then x else y) = x := by rw [decide_eq_true h]; rfl
theorem bdF {γ : Type} {p : Prop} [Decidable p] {x y : γ} (h : ¬ p) : (bif decide p then x else y) = y := by rw [decide_eq_false h]; rfl
theorem bind_some' {γ δ : Type} {o : Option γ} {a : γ} {f : γ → Option δ} (h : o = some a) : o.bind f = f a := by rw [h]; rfl
end
theorem rd_lt {α : Type} {xs : List α} {i : Int} {d : α} (h0 : 0 ≤ i) (h1 : i < xs.length) : rd xs i d = xs[i.toNat]'(by omega) := by
 unfold rd; rw [List.getD_eq_getElem?_getD, List.getElem?_eq_getElem (by omega)]; rfl
theorem rd_nat {α : Type} {xs : List α} {n : Nat} {d : α} : rd xs (n : Int) d = xs.getD n d := by simp [rd]
theorem cut_nat {α : Type} (xs : List α) (a b : Nat) : cut xs (a : Int) (b : Int) = (xs.drop a).take (b - a) := by simp [cut]
theorem cut_to {α : Type} (xs : List α) (a b : Int) (h : (xs.length : Int) ≤ b) : cut xs a b = xs.drop a.toNat := by
 unfold cut; rw [List.take_of_length_le]; rw [List.length_drop]; omega
theorem cut_from {α : Type} (xs : List α) (b : Int) : cut xs 0 b = xs.take b.toNat := by simp [cut]
theorem ba_ext {x y : ByteArray} (h : x.data.toList = y.data.toList) : x = y := by
 obtain ⟨⟨x⟩⟩ := x; obtain ⟨⟨y⟩⟩ := y; simp only at h; rw [h]
theorem bytesOf_length (z : ByteArray) : (bytesOf z).length = z.size := by unfold bytesOf; rw [List.length_map]; rfl
theorem bytesOf_inj {x y : ByteArray} (h : bytesOf x = bytesOf y) : x = y := by
 refine ba_ext ?_
 unfold bytesOf at h
 exact (List.map_inj_right (fun a b hab => UInt8.toNat_inj.1 (by exact_mod_cast hab))).1 h
theorem strEq_eq (x y : ByteArray) : strEq x y = decide (x = y) := by
 unfold strEq
 have e : ∀ z : ByteArray, z.toList = z.data.toList := fun z => by
  have key : ∀ (l : List UInt8) (k : Nat) (acc : List UInt8), (k ≤ l.length) → ByteArray.toList.loop ⟨⟨l⟩⟩ k acc = acc.reverse ++ l.drop k := by
   intro l k acc hk
   induction hj : l.length - k generalizing k acc with
   | zero =>
    unfold ByteArray.toList.loop
    have : ¬ k < (ByteArray.mk ⟨l⟩).size := by show ¬ k < l.length; omega
    rw [if_neg this, List.drop_eq_nil_of_le (by omega)]; simp
   | succ j ih =>
    unfold ByteArray.toList.loop
    have h1 : k < l.length := by omega
    have : k < (ByteArray.mk ⟨l⟩).size := h1
    rw [if_pos this, ih (k + 1) _ (by omega) (by omega)]
    have hg : (ByteArray.mk ⟨l⟩).get! k = l[k] := by
     show (Array.mk l)[k]! = l[k]
     rw [getElem!_pos (Array.mk l) k (by simpa using h1)]; simp
    rw [hg, List.drop_eq_getElem_cons h1]; simp
  obtain ⟨⟨l⟩⟩ := z
  unfold ByteArray.toList
  rw [key l 0 [] (Nat.zero_le _)]; simp
 rw [e, e]
 by_cases h : x = y
 ·subst h; simp
 ·simp only [h, decide_false]
  exact beq_false_of_ne (fun h' => h (ba_ext h'))
theorem bytesOf_append (x y : ByteArray) : bytesOf (x ++ y) = bytesOf x ++ bytesOf y := by
 unfold bytesOf; rw [ByteArray.data_append, Array.toList_append, List.map_append]
theorem size_append (x y : ByteArray) : (x ++ y).size = x.size + y.size := by rw [← bytesOf_length, bytesOf_append]; simp [bytesOf_length]
theorem bytesOf_cutS (z : ByteArray) (a b : Int) : bytesOf (cutS z a b) = cut (bytesOf z) a b := by
 unfold bytesOf cutS cut
 rw [ByteArray.data_extract, ← List.map_drop, ← List.map_take]
 congr 1
 simp [Array.toList_extract, List.extract_eq_take_drop]
theorem byteAt_rd {z : ByteArray} {i : Int} (h0 : 0 ≤ i) (h1 : i < z.size) : byteAt z i = rd (bytesOf z) i 0 := by
 have hl := bytesOf_length z
 rw [rd_lt h0 (by omega)]
 unfold byteAt bytesOf
 rw [List.getElem_map]
 congr 2
 show z.data[i.toNat]! = _
 rw [getElem!_pos z.data i.toNat (by show i.toNat < z.size; omega)]
 simp
theorem bytesOf_range {z : ByteArray} : ∀ b ∈ bytesOf z, 0 ≤ b ∧ b < 256 := by
 intro b hb
 unfold bytesOf at hb
 obtain ⟨u, _, rfl⟩ := List.mem_map.1 hb
 have := u.toNat_lt
 omega
theorem strOfNums_bytesOf (z : ByteArray) : strOfNums (bytesOf z) = z := by
 refine ba_ext ?_
 rw [strOfNums_data]; unfold bytesOf
 rw [List.map_map]
 refine (List.map_congr_left (fun u _ => ?_)).trans (List.map_id _)
 simp
theorem bytesOf_strOfNums {xs : List Int} (h : ∀ b ∈ xs, 0 ≤ b ∧ b < 256) : bytesOf (strOfNums xs) = xs := by
 unfold bytesOf
 rw [strOfNums_data, List.map_map]
 refine (List.map_congr_left (fun u hu => ?_)).trans (List.map_id _)
 have := h u hu
 simp [UInt8.toNat_ofNat']
 omega
theorem bytesOf_empty : bytesOf (⟨#[]⟩ : ByteArray) = [] := rfl
theorem size_lit (l : List UInt8) : (⟨⟨l⟩⟩ : ByteArray).size = l.length := rfl
theorem size_cutS {z : ByteArray} {a b : Int} (h0 : 0 ≤ a) (h1 : a ≤ b) (h2 : b ≤ z.size) : (cutS z a b).size = (b - a).toNat := by
 have hl := bytesOf_length z
 rw [← bytesOf_length, bytesOf_cutS, length_cut _ _ _ h1 (by omega)]; omega
theorem rd_cut {α : Type} {xs : List α} {a b i : Int} {d : α} (h0 : 0 ≤ a) (h1 : 0 ≤ i) (h2 : i < b - a) (h3 : b ≤ xs.length) : rd (cut xs a b) i d = rd xs (a + i) d := by
 unfold rd cut
 rw [List.getD_eq_getElem?_getD, List.getD_eq_getElem?_getD, List.getElem?_take, if_pos (by omega), List.getElem?_drop]
 congr 2; omega
theorem byteAt_cutS {z : ByteArray} {a b i : Int} (h0 : 0 ≤ a) (h1 : 0 ≤ i) (h2 : i < b - a) (h3 : b ≤ z.size) : byteAt (cutS z a b) i = byteAt z (a + i) := by
 have hl := bytesOf_length z
 have hs := size_cutS (z := z) h0 (show a ≤ b by omega) h3
 rw [byteAt_rd h1 (by omega), byteAt_rd (by omega) (by omega), bytesOf_cutS, rd_cut h0 h1 h2 (by omega)]
end Go.Proofs.YtmfgccjcnnlehaaDoorYF
namespace Go.Proofs.YtmfgccjcnnlehaaDoorYF
open Go
set_option linter.unusedVariables false
set_option linter.unusedSimpArgs false
theorem range_fold {α σ β : Type} (xs : List α) (F : Nat → σ → Nat → Option β) (k : σ → Option β) (step : σ → α → σ) (Inv : Nat → σ → Prop)
  (h1 : ∀ m s i (hi : i < xs.length), Inv i s → F (m + 1) s i = F m (step s xs[i]) (i + 1) ∧ Inv (i + 1) (step s xs[i]))
  (h2 : ∀ m s, Inv xs.length s → F (m + 1) s xs.length = k s) : ∀ m s, xs.length < m → Inv 0 s → F m s 0 = k (xs.foldl step s) := by
 have key : ∀ (d i m : Nat) (s : σ), xs.length - i = d → i ≤ xs.length → d < m → Inv i s → F m s i = k ((xs.drop i).foldl step s) := by
  intro d
  induction d with
  | zero =>
   intro i m s hd hi hm hs
   obtain ⟨m', rfl⟩ : ∃ m', m = m' + 1 := ⟨m - 1, by omega⟩
   obtain rfl : i = xs.length := by omega
   rw [h2 m' s hs, List.drop_length]; rfl
  | succ d ih =>
   intro i m s hd hi hm hs
   obtain ⟨m', rfl⟩ : ∃ m', m = m' + 1 := ⟨m - 1, by omega⟩
   have hl : i < xs.length := by omega
   obtain ⟨e, hs'⟩ := h1 m' s i hl hs
   rw [e, ih (i + 1) m' _ (by omega) (by omega) (by omega) hs', List.drop_eq_getElem_cons hl]; rfl
 intro m s hm hs
 have := key xs.length 0 m s (by omega) (Nat.zero_le _) hm hs
 simpa using this
theorem range_find {α β : Type} (xs : List α) (F : Nat → Nat → Option β) (kf : (i : Nat) → i < xs.length → Option β) (k : Option β) (p : Nat → α → Bool)
  (h1 : ∀ m i (hi : i < xs.length), (∀ j (hj : j < i), p j (xs[j]'(by omega)) = false) → F (m + 1) i = if p i xs[i] = true then kf i hi else F m (i + 1))
  (h2 : ∀ m, (∀ j (hj : j < xs.length), p j xs[j] = false) → F (m + 1) xs.length = k) : ∀ m, xs.length < m → (∃ i hi, p i (xs[i]'hi) = true ∧ (∀ j (hj : j < i), p j (xs[j]'(by omega)) = false) ∧ F m 0 = kf i hi) ∨ ((∀ j (hj : j < xs.length), p j xs[j] = false) ∧ F m 0 = k) := by
 have key : ∀ (d i m : Nat), xs.length - i = d → (hi : i ≤ xs.length) → d < m → (∀ j (hj : j < i), p j (xs[j]'(by omega)) = false) →
   (∃ i' hi', p i' (xs[i']'hi') = true ∧ (∀ j (hj : j < i'), p j (xs[j]'(by omega)) = false) ∧ F m i = kf i' hi') ∨ ((∀ j (hj : j < xs.length), p j xs[j] = false) ∧ F m i = k) := by
  intro d
  induction d with
  | zero =>
   intro i m hd hi hm hp
   obtain ⟨m', rfl⟩ : ∃ m', m = m' + 1 := ⟨m - 1, by omega⟩
   obtain rfl : i = xs.length := by omega
   exact .inr ⟨hp, h2 m' hp⟩
  | succ d ih =>
   intro i m hd hi hm hp
   obtain ⟨m', rfl⟩ : ∃ m', m = m' + 1 := ⟨m - 1, by omega⟩
   have hl : i < xs.length := by omega
   have e := h1 m' i hl hp
   cases hpi : p i xs[i] with
   | true => rw [hpi, if_pos rfl] at e; exact .inl ⟨i, hl, hpi, hp, e⟩
   | false =>
    rw [hpi, if_neg (by simp)] at e
    rw [e]
    refine ih (i + 1) m' (by omega) (by omega) (by omega) (fun j hj => ?_)
    by_cases hji : j = i
    ·subst hji; exact hpi
    ·exact hp j (by omega)
 intro m hm
 exact key xs.length 0 m (by omega) (Nat.zero_le _) hm (fun j hj => by omega)
theorem rd_at {α : Type} {xs : List α} {i : Nat} {d : α} (h : i < xs.length) : rd xs (i : Int) d = xs[i] := by
 rw [rd_nat, List.getD_eq_getElem?_getD, List.getElem?_eq_getElem h]; rfl
theorem rd_zero {α : Type} {x d : α} {i : Int} (h : i = 0) : rd [x] i d = x := by subst h; rfl
end Go.Proofs.YtmfgccjcnnlehaaDoorYF
namespace Go.Proofs.YtmfgccjcnnlehaaDoorYF
open Go Ieee
set_option linter.unusedVariables false
set_option linter.unusedSimpArgs false
theorem sw : double.signWeight = 9223372036854775808 := by decide
theorem ir : double.infRung = 9218868437227405312 := by decide
theorem bn : double.binade = 4503599627370496 := by decide
theorem lp : double.leastPlace = -1074 := by decide
def rungD (mag : Nat) (place : Int) : Nat :=
 if mag = 0 then 0 else
 min ((max (place + mag.log2 - double.fractionBits) double.leastPlace - double.leastPlace).toNat * double.binade + Toward.even.cut false (mag <<< (place - max (place + mag.log2 - double.fractionBits) double.leastPlace).toNat) (max (place + mag.log2 - double.fractionBits) double.leastPlace - place).toNat) double.infRung
theorem nearest_word (neg : Bool) (mag : Nat) (place : Int) : double.nearest neg mag place = double.word neg (rungD mag place) := by
 unfold Format.nearest rungD
 split
 ·rfl
 ·cases neg <;> rfl
theorem rungD_le (mag : Nat) (place : Int) : rungD mag place ≤ 9218868437227405312 := by
 unfold rungD
 split
 ·omega
 ·rw [ir]; exact Nat.min_le_right _ _
theorem nearest_false (mag : Nat) (place : Int) : double.nearest false mag place = rungD mag place := by rw [nearest_word]; unfold Format.word; rw [if_neg (by decide)]
theorem nearest_true (mag : Nat) (place : Int) : double.nearest true mag place = 9223372036854775808 + rungD mag place := by rw [nearest_word]; unfold Format.word; rw [if_pos rfl, sw]
theorem abs_nearest (neg : Bool) (mag : Nat) (place : Int) : double.nearest neg mag place % 9223372036854775808 = double.nearest false mag place := by
 have := rungD_le mag place
 cases neg
 ·rw [nearest_false]; omega
 ·rw [nearest_false, nearest_true]; omega
def Nn (d : Datum) : Prop := (∃ m p, d = .number false m p) ∨ d = .infinity false
theorem read_rung (r : Nat) (h : r ≤ 9218868437227405312) : Nn (double.read r) := by
 have e1 : r / double.signWeight % 2 = 0 := by rw [sw]; omega
 have e2 : r % double.signWeight = r := by rw [sw]; omega
 unfold Format.read
 simp only [e1, e2]
 split
 ·exact .inl ⟨_, _, rfl⟩
 split
 ·exact .inl ⟨_, _, rfl⟩
 split
 ·exact .inr rfl
 ·rename_i h1 h2 h3; rw [ir] at h2 h3; omega
theorem read_nearest (mag : Nat) (place : Int) : Nn (double.read (double.nearest false mag place)) := by rw [nearest_false]; exact read_rung _ (rungD_le _ _)
theorem write_nn {d : Datum} (h : Nn d) : Nn (double.read (double.write d)) := by
 rcases h with ⟨m, p, rfl⟩ | rfl
 ·exact read_nearest m p
 ·exact .inr (by decide)
theorem order_self {d : Datum} (h : Nn d) : d.order d = some .eq := by
 rcases h with ⟨m, p, rfl⟩ | rfl
 ·simp [Datum.order, Int.compare_eq_eq]
 ·rfl
theorem signed_nn (m u : Nat) : 0 ≤ signed false m u := by
 unfold signed
 simp only [Bool.false_eq_true, if_false]
 exact Int.natCast_nonneg _
theorem sum_nn {a b : Datum} (ha : Nn a) (hb : Nn b) : ∃ d, a.sum b = some d ∧ Nn d := by
 rcases ha with ⟨m, p, rfl⟩ | rfl <;> rcases hb with ⟨n, q, rfl⟩ | rfl
 ·have h0 : ¬ (signed false m (p - min p q).toNat + signed false n (q - min p q).toNat < 0) := by
   have := signed_nn m (p - min p q).toNat
   have := signed_nn n (q - min p q).toNat
   omega
  refine ⟨.number false (signed false m (p - min p q).toNat + signed false n (q - min p q).toNat).natAbs (min p q), ?_, .inl ⟨_, _, rfl⟩⟩
  simp only [Datum.sum, Bool.and_self, decide_eq_false h0, ite_self]
 ·exact ⟨_, rfl, .inr rfl⟩
 ·exact ⟨_, rfl, .inr rfl⟩
 ·exact ⟨_, rfl, .inr rfl⟩
theorem quo_nn {m : Nat} {p : Int} {n : Nat} {q : Int} (hn : n ≠ 0) (k : Nat) : ∃ a b, (Datum.number false m p).quotient k (.number false n q) = some (.number false a b) := by
 exact ⟨2 * ((m <<< (k + n.log2 - m.log2)) / n) + ((m <<< (k + n.log2 - m.log2)) % n != 0).toNat, p - q - ((k + n.log2 - m.log2 : Nat) : Int) - 1, by simp only [Datum.quotient, if_neg hn, Bool.xor_self]⟩
theorem log_le {n : Nat} (h0 : 0 < n) (h : n < 9007199254740992) : n.log2 ≤ 52 := by
 have := (Nat.log2_lt (by omega)).2 (show n < 2 ^ 53 from h)
 omega
theorem min_rung (l N : Nat) (hl : l ≤ 52) (h : N < 9007199254740992) : min ((l + 1022) * 4503599627370496 + N) 9218868437227405312 = (l + 1022) * 4503599627370496 + N := by omega
theorem read_int (n : Nat) (h0 : 0 < n) (h : n < 9007199254740992) : double.read (double.nearest false n 0) = .number false (n * 2 ^ (52 - n.log2)) ((n.log2 : Int) - 52) := by
 have hl := log_le h0 h
 have hlo : 2 ^ n.log2 ≤ n := Nat.log2_self_le (by omega)
 have hhi : n < 2 ^ (n.log2 + 1) := Nat.lt_log2_self
 generalize hL : n.log2 = l at hl hlo hhi
 have N1 : 4503599627370496 ≤ n * 2 ^ (52 - l) := by
  calc 4503599627370496 = 2 ^ l * 2 ^ (52 - l) := by rw [← Nat.pow_add, show l + (52 - l) = 52 by omega]
   _ ≤ n * 2 ^ (52 - l) := Nat.mul_le_mul_right _ hlo
 have N2 : n * 2 ^ (52 - l) < 9007199254740992 := by
  calc n * 2 ^ (52 - l) < 2 ^ (l + 1) * 2 ^ (52 - l) := Nat.mul_lt_mul_of_pos_right hhi (Nat.two_pow_pos _)
   _ = 9007199254740992 := by rw [← Nat.pow_add, show l + 1 + (52 - l) = 53 by omega]
 have hr : rungD n 0 = (l + 1022) * 4503599627370496 + n * 2 ^ (52 - l) := by
  unfold rungD
  rw [if_neg (by omega), hL, lp, bn, ir]
  have e0 : double.fractionBits = 52 := rfl
  rw [e0]
  have e1 : max ((0 : Int) + (l : Int) - ((52 : Nat) : Int)) (-1074) = (l : Int) - 52 := by omega
  rw [e1]
  have e2 : ((l : Int) - 52 - (-1074)).toNat = l + 1022 := by omega
  have e3 : ((0 : Int) - ((l : Int) - 52)).toNat = 52 - l := by omega
  have e4 : ((l : Int) - 52 - 0).toNat = 0 := by omega
  rw [e2, e3, e4]
  have e5 : Toward.even.cut false (n <<< (52 - l)) 0 = n * 2 ^ (52 - l) := by
   rw [Nat.shiftLeft_eq]
   simp [Toward.cut, Nat.mod_one]
  rw [e5]
  exact min_rung l _ hl N2
 rw [nearest_false, hr]
 clear hr hlo hhi hL h h0
 generalize n * 2 ^ (52 - l) = N at N1 N2
 have e1 : ((l + 1022) * 4503599627370496 + N) / double.signWeight % 2 = 0 := by rw [sw]; omega
 have e2 : ((l + 1022) * 4503599627370496 + N) % double.signWeight = (l + 1022) * 4503599627370496 + N := by rw [sw]; omega
 unfold Format.read
 simp only [e1, e2, bn, ir, lp]
 rw [if_neg (by omega), if_pos (by omega)]
 have e3 : ((l + 1022) * 4503599627370496 + N) % 4503599627370496 = N - 4503599627370496 := by omega
 have e4 : ((l + 1022) * 4503599627370496 + N) / 4503599627370496 = l + 1023 := by omega
 rw [e3, e4]
 have e5 : 4503599627370496 + (N - 4503599627370496) = N := by omega
 have e6 : (-1074 : Int) + ((l + 1023 - 1 : Nat) : Int) = (l : Int) - 52 := by omega
 rw [e5, e6]
 simp
theorem mag_pos (n : Nat) (h0 : 0 < n) (k : Nat) : n * 2 ^ k ≠ 0 := Nat.mul_ne_zero (by omega) (by have := Nat.two_pow_pos k; omega)
theorem floatOfInt_nat (n : Nat) : floatOfInt .f64 (n : Int) = double.nearest false n 0 := by
 show double.nearest (decide ((n : Int) < 0)) ((n : Int)).natAbs 0 = _
 rw [decide_eq_false (by omega), Int.natAbs_natCast]
theorem floatOfInt_abs (n : Int) : floatOfInt .f64 n % 9223372036854775808 = floatOfInt .f64 ((n.natAbs : Nat) : Int) := by
 rw [floatOfInt_nat]
 exact abs_nearest _ _ _
theorem read_small (n : Nat) (h : n < 9007199254740992) : ∃ m p, double.read (double.nearest false n 0) = .number false m p ∧ (m = 0 ↔ n = 0) := by
 rcases Nat.eq_zero_or_pos n with rfl | h0
 ·exact ⟨0, -1074, by decide, by simp⟩
 ·exact ⟨_, _, read_int n h0 h, by have := mag_pos n h0 (52 - n.log2); omega⟩
theorem read_nat (n : Nat) (h : n < 9007199254740992) : ∃ s : Nat, double.read (floatOfInt .f64 (n : Int)) = .number false (n * 2 ^ s) (-(s : Int)) := by
 rw [floatOfInt_nat]
 rcases Nat.eq_zero_or_pos n with rfl | h0
 ·obtain ⟨k, hk⟩ : ∃ k : Nat, k = 1074 := ⟨_, rfl⟩
  exact ⟨k, by rw [Nat.zero_mul, hk]; rfl⟩
 ·have hl := log_le h0 h
  refine ⟨52 - n.log2, ?_⟩
  rw [read_int n h0 h]
  congr 1
  omega
theorem shl_mul (a s k : Nat) : (a * 2 ^ s) <<< k = a * 2 ^ (s + k) := by rw [Nat.shiftLeft_eq, Nat.mul_assoc, Nat.pow_add]
theorem order_nat (a b s t : Nat) : (Datum.number false (a * 2 ^ s) (-(s : Int))).order (.number false (b * 2 ^ t) (-(t : Int))) = some (compare (a : Int) (b : Int)) := by
 have e1 : (-(s : Int) - min (-(s : Int)) (-(t : Int))).toNat = max s t - s := by omega
 have e2 : (-(t : Int) - min (-(s : Int)) (-(t : Int))).toNat = max s t - t := by omega
 simp only [Datum.order, signed, Bool.false_eq_true, if_false, e1, e2, shl_mul]
 rw [show s + (max s t - s) = max s t by omega, show t + (max s t - t) = max s t by omega]
 have hp := Nat.two_pow_pos (max s t)
 generalize 2 ^ (max s t) = p at *
 congr 1
 rcases Nat.lt_trichotomy a b with h | h | h
 ·rw [Int.compare_eq_lt.2 (by exact_mod_cast Nat.mul_lt_mul_of_pos_right h hp), Int.compare_eq_lt.2 (by omega)]
 ·subst h; rw [Int.compare_eq_eq.2 rfl, Int.compare_eq_eq.2 rfl]
 ·rw [Int.compare_eq_gt.2 (by exact_mod_cast Nat.mul_lt_mul_of_pos_right h hp), Int.compare_eq_gt.2 (by omega)]
theorem toInt_nat (n s : Nat) : (Datum.number false (n * 2 ^ s) (-(s : Int))).toInt .zero = some (n : Int) := by
 have hp := Nat.two_pow_pos s
 simp only [Datum.toInt, Datum.integral]
 have e1 : (-(s : Int)).toNat = 0 := by omega
 have e2 : (- -(s : Int)).toNat = s := by omega
 rw [e1, e2, Nat.shiftLeft_zero]
 have : Toward.zero.cut false (n * 2 ^ s) s = n := by
  simp only [Toward.cut]
  rcases Nat.eq_zero_or_pos n with rfl | h0
  ·simp
  ·have hne : n * 2 ^ s ≠ 0 := Nat.mul_ne_zero (by omega) (by omega)
   have hle : s ≤ (n * 2 ^ s).log2 := (Nat.le_log2 hne).2 (Nat.le_mul_of_pos_left _ h0)
   rw [show min s ((n * 2 ^ s).log2 + 2) = s by omega, Nat.shiftLeft_eq, Nat.one_mul, Nat.mul_div_cancel _ hp]
   simp
 rw [this]
 simp [signed]
abbrev F64 (n : Nat) : Nat := floatOfInt .f64 (n : Int)
theorem toInt_f (n : Nat) (h : n < 9007199254740992) : floatToIntVal .f64 (F64 n) .i64 = some (n : Int) := by
 obtain ⟨s, hs⟩ := read_nat n h
 unfold floatToIntVal
 have : FloatKind.f64.decode (F64 n) = .number false (n * 2 ^ s) (-(s : Int)) := hs
 rw [this, toInt_nat]
 have h1 : IntKind.i64.min = -9223372036854775808 := rfl
 have h2 : IntKind.i64.max = 9223372036854775807 := rfl
 simp only [h1, h2]
 rw [if_pos (by omega)]
theorem pick_f (neg : Bool) (win : Ordering) (a b : Nat) (ha : a < 9007199254740992) (hb : b < 9007199254740992) : fPick neg win (F64 a) (F64 b) = if a = 0 ∧ b = 0 then F64 0 else if compare (a : Int) (b : Int) = win then F64 a else F64 b := by
 obtain ⟨s, hs⟩ := read_nat a ha
 obtain ⟨t, ht⟩ := read_nat b hb
 have d1 : FloatKind.f64.decode (F64 a) = .number false (a * 2 ^ s) (-(s : Int)) := hs
 have d2 : FloatKind.f64.decode (F64 b) = .number false (b * 2 ^ t) (-(t : Int)) := ht
 have z : ∀ (m k : Nat), (m * 2 ^ k = 0 ↔ m = 0) := fun m k => by
  have := Nat.two_pow_pos k
  constructor
  ·intro h; rcases Nat.mul_eq_zero.1 h with h | h <;> omega
  ·rintro rfl; simp
 unfold fPick
 simp only [d1, d2]
 have n1 : ∀ (m : Nat) (p : Int), (Datum.number false m p == Datum.infinity neg) = false := fun m p => by rw [beq_eq_false_iff_ne]; intro h; cases h
 have zz : ∀ (m : Nat) (p : Int), (Datum.number false m p).isZero = decide (m = 0) := fun m p => by cases m <;> simp [Datum.isZero]
 rw [n1, n1, order_nat]
 simp only [Bool.or_self, Bool.false_eq_true, if_false, Datum.isNaN, zz, Datum.neg]
 by_cases h0 : a = 0 ∧ b = 0
 ·obtain ⟨rfl, rfl⟩ := h0
  simp
 ·rw [if_neg h0]
  have : ¬ ((decide (a * 2 ^ s = 0) && decide (b * 2 ^ t = 0)) = true) := by
   simp only [Bool.and_eq_true, decide_eq_true_eq, z]; exact h0
  rw [if_neg this]
  by_cases hc : compare (a : Int) (b : Int) = win
  ·rw [if_pos (by rw [hc]; simp), if_pos hc]
  ·rw [if_neg (by simpa using hc), if_neg hc]
theorem fMax_f (a b : Nat) (ha : a < 9007199254740992) (hb : b < 9007199254740992) : fMax (F64 a) (F64 b) = F64 (max a b) := by
 unfold fMax
 rw [pick_f false .gt a b ha hb]
 split
 ·rename_i h; rw [h.1, h.2]; rfl
 ·split
  ·rename_i h; have := Int.compare_eq_gt.1 h; rw [show max a b = a by omega]
  ·rename_i h; have : ¬ (a : Int) > (b : Int) := fun h' => h (Int.compare_eq_gt.2 h'); rw [show max a b = b by omega]
theorem fMin_f (a b : Nat) (ha : a < 9007199254740992) (hb : b < 9007199254740992) : fMin (F64 a) (F64 b) = F64 (min a b) := by
 unfold fMin
 rw [pick_f true .lt a b ha hb]
 split
 ·rename_i h; rw [h.1, h.2]; rfl
 ·split
  ·rename_i h; have := Int.compare_eq_lt.1 h; rw [show min a b = a by omega]
  ·rename_i h; have : ¬ (a : Int) < (b : Int) := fun h' => h (Int.compare_eq_lt.2 h'); rw [show min a b = b by omega]
end Go.Proofs.YtmfgccjcnnlehaaDoorYF
namespace Go.Proofs.YtmfgccjcnnlehaaDoorYF
open Go Ieee
set_option linter.unusedVariables false
set_option linter.unusedSimpArgs false
theorem min_rung2 (l c : Nat) (hl : l ≤ 63) (hc : c ≤ 9007199254740992) : min ((l + 1022) * 4503599627370496 + c) 9218868437227405312 = (l + 1022) * 4503599627370496 + c := Nat.min_eq_left (by omega)
theorem rung_shape (n : Nat) (h0 : 0 < n) (h : n < 18446744073709551616) : ∃ l c : Nat, l ≤ 63 ∧ 2 ^ l ≤ n ∧ 4503599627370496 ≤ c ∧ c ≤ 9007199254740992 ∧ rungD n 0 = (l + 1022) * 4503599627370496 + c ∧ (l ≤ 52 → n < 9007199254740992) := by
 have hl : n.log2 ≤ 63 := by have := (Nat.log2_lt (by omega)).2 (show n < 2 ^ 64 from h); omega
 have hlo : 2 ^ n.log2 ≤ n := Nat.log2_self_le (by omega)
 have hhi : n < 2 ^ (n.log2 + 1) := Nat.lt_log2_self
 by_cases h52 : n.log2 ≤ 52
 ·have hn : n < 9007199254740992 := by
   have : 2 ^ (n.log2 + 1) ≤ 2 ^ 53 := Nat.pow_le_pow_right (by omega) (by omega)
   have e : (2 : Nat) ^ 53 = 9007199254740992 := rfl
   omega
  have N1 : 4503599627370496 ≤ n * 2 ^ (52 - n.log2) := by
   calc 4503599627370496 = 2 ^ n.log2 * 2 ^ (52 - n.log2) := by rw [← Nat.pow_add, show n.log2 + (52 - n.log2) = 52 by omega]
    _ ≤ n * 2 ^ (52 - n.log2) := Nat.mul_le_mul_right _ hlo
  have N2 : n * 2 ^ (52 - n.log2) < 9007199254740992 := by
   calc n * 2 ^ (52 - n.log2) < 2 ^ (n.log2 + 1) * 2 ^ (52 - n.log2) := Nat.mul_lt_mul_of_pos_right hhi (Nat.two_pow_pos _)
    _ = 9007199254740992 := by rw [← Nat.pow_add, show n.log2 + 1 + (52 - n.log2) = 53 by omega]
  refine ⟨n.log2, n * 2 ^ (52 - n.log2), hl, hlo, N1, by omega, ?_, fun _ => hn⟩
  generalize hL : n.log2 = l at *
  unfold rungD
  rw [if_neg (by omega), hL, lp, bn, ir]
  have e0 : double.fractionBits = 52 := rfl
  rw [e0]
  have e1 : max ((0 : Int) + (l : Int) - ((52 : Nat) : Int)) (-1074) = (l : Int) - 52 := by omega
  rw [e1]
  have e2 : ((l : Int) - 52 - (-1074)).toNat = l + 1022 := by omega
  have e3 : ((0 : Int) - ((l : Int) - 52)).toNat = 52 - l := by omega
  have e4 : ((l : Int) - 52 - 0).toNat = 0 := by omega
  rw [e2, e3, e4]
  have e5 : Toward.even.cut false (n <<< (52 - l)) 0 = n * 2 ^ (52 - l) := by
   rw [Nat.shiftLeft_eq]
   simp [Toward.cut, Nat.mod_one]
  rw [e5]
  exact min_rung l _ h52 N2
 ·obtain ⟨c, hc⟩ : ∃ c, c = Toward.even.cut false (n <<< 0) (n.log2 - 52) := ⟨_, rfl⟩
  have hcb : 4503599627370496 ≤ c ∧ c ≤ 9007199254740992 := by
   rw [hc, Nat.shiftLeft_zero]
   simp only [Toward.cut]
   rw [show min (n.log2 - 52) (n.log2 + 2) = n.log2 - 52 by omega, Nat.shiftLeft_eq, Nat.one_mul]
   have hp := Nat.two_pow_pos (n.log2 - 52)
   have d1 : 4503599627370496 ≤ n / 2 ^ (n.log2 - 52) := by
    rw [Nat.le_div_iff_mul_le hp]
    calc 4503599627370496 * 2 ^ (n.log2 - 52) = 2 ^ n.log2 := by rw [show (4503599627370496 : Nat) = 2 ^ 52 from rfl, ← Nat.pow_add, show 52 + (n.log2 - 52) = n.log2 by omega]
     _ ≤ n := hlo
   have d2 : n / 2 ^ (n.log2 - 52) < 9007199254740992 := by
    rw [Nat.div_lt_iff_lt_mul hp]
    calc n < 2 ^ (n.log2 + 1) := hhi
     _ = 9007199254740992 * 2 ^ (n.log2 - 52) := by rw [show (9007199254740992 : Nat) = 2 ^ 53 from rfl, ← Nat.pow_add, show 53 + (n.log2 - 52) = n.log2 + 1 by omega]
   have d3 : ∀ b : Bool, b.toNat ≤ 1 := fun b => by cases b <;> decide
   have := d3 (decide (2 ^ (n.log2 - 52) < 2 * (n % 2 ^ (n.log2 - 52))) || 2 ^ (n.log2 - 52) == 2 * (n % 2 ^ (n.log2 - 52)) && n / 2 ^ (n.log2 - 52) % 2 == 1)
   constructor <;> omega
  refine ⟨n.log2, c, hl, hlo, hcb.1, hcb.2, ?_, fun h' => absurd h' h52⟩
  generalize hL : n.log2 = l at *
  unfold rungD
  rw [if_neg (by omega), hL, lp, bn, ir]
  have e0 : double.fractionBits = 52 := rfl
  rw [e0]
  have e1 : max ((0 : Int) + (l : Int) - ((52 : Nat) : Int)) (-1074) = (l : Int) - 52 := by omega
  rw [e1]
  have e2 : ((l : Int) - 52 - (-1074)).toNat = l + 1022 := by omega
  have e3 : ((0 : Int) - ((l : Int) - 52)).toNat = 0 := by omega
  have e4 : ((l : Int) - 52 - 0).toNat = l - 52 := by omega
  rw [e2, e3, e4, ← hc]
  exact min_rung2 l c hl hcb.2
theorem read_big (n : Nat) (h : 9007199254740992 ≤ n) (h2 : n < 18446744073709551616) : ∃ m p : Nat, double.read (floatOfInt .f64 (n : Int)) = .number false m (p : Int) ∧ 4503599627370496 ≤ m ∧ 1 ≤ p := by
 obtain ⟨l, c, hl, hlo, c1, c2, hr, hle⟩ := rung_shape n (by omega) h2
 have hl2 : 53 ≤ l := by
  by_cases h' : l ≤ 52
  ·have := hle h'; omega
  ·omega
 rw [floatOfInt_nat, nearest_false, hr]
 clear hr hlo hle
 have e1 : ((l + 1022) * 4503599627370496 + c) / double.signWeight % 2 = 0 := by rw [sw]; omega
 have e2 : ((l + 1022) * 4503599627370496 + c) % double.signWeight = (l + 1022) * 4503599627370496 + c := by rw [sw]; omega
 unfold Format.read
 simp only [e1, e2, bn, ir, lp]
 rw [if_neg (by omega), if_pos (by omega)]
 refine ⟨4503599627370496 + ((l + 1022) * 4503599627370496 + c) % 4503599627370496, ((l + 1022) * 4503599627370496 + c) / 4503599627370496 - 1 - 1074, ?_, by omega, by omega⟩
 have : ((0 : Nat) == 1) = false := rfl
 rw [this]
 congr 1
 omega
theorem read_neg (n : Int) (h : n < 0) (h2 : -9223372036854775808 ≤ n) : ∃ (m : Nat) (p : Int), double.read (floatOfInt .f64 n) = .number true m p ∧ m ≠ 0 := by
 obtain ⟨k, hk⟩ : ∃ k : Nat, k = n.natAbs := ⟨_, rfl⟩
 obtain ⟨l, c, hl, hlo, c1, c2, hr, hle⟩ := rung_shape k (by omega) (by omega)
 have hf : floatOfInt .f64 n = 9223372036854775808 + ((l + 1022) * 4503599627370496 + c) := by
  show double.nearest (decide (n < 0)) n.natAbs 0 = _
  rw [decide_eq_true h, nearest_true, ← hk, hr]
 rw [hf]
 clear hr hlo hle hf
 have e1 : (9223372036854775808 + ((l + 1022) * 4503599627370496 + c)) / double.signWeight % 2 = 1 := by rw [sw]; omega
 have e2 : (9223372036854775808 + ((l + 1022) * 4503599627370496 + c)) % double.signWeight = (l + 1022) * 4503599627370496 + c := by rw [sw]; omega
 unfold Format.read
 simp only [e1, e2, bn, ir, lp]
 rw [if_neg (by omega), if_pos (by omega)]
 exact ⟨_, _, rfl, by omega⟩
theorem fpick_lt {neg : Bool} {win : Ordering} {x y m m' : Nat} {s s' : Bool} {p p' : Int} (hx : double.read x = .number s m p) (hy : double.read y = .number s' m' p') (h0 : ¬ (m = 0 ∧ m' = 0)) : fPick neg win x y = if (Datum.number s m p).order (.number s' m' p') = some win then x else y := by
 have d1 : FloatKind.f64.decode x = .number s m p := hx
 have d2 : FloatKind.f64.decode y = .number s' m' p' := hy
 unfold fPick
 simp only [d1, d2]
 have n1 : ∀ (t : Bool) (m : Nat) (p : Int), (Datum.number t m p == Datum.infinity neg) = false := fun t m p => by rw [beq_eq_false_iff_ne]; intro h; cases h
 have zz : ∀ (t : Bool) (m : Nat) (p : Int), (Datum.number t m p).isZero = decide (m = 0) := fun t m p => by cases m <;> simp [Datum.isZero]
 rw [n1, n1]
 simp only [Bool.or_self, Bool.false_eq_true, if_false, Datum.isNaN, zz]
 have : ¬ ((decide (m = 0) && decide (m' = 0)) = true) := by simpa using h0
 rw [if_neg this]
 by_cases hc : (Datum.number s m p).order (.number s' m' p') = some win
 ·rw [if_pos (by rw [hc]; simp), if_pos hc]
 ·rw [if_neg (by simpa using hc), if_neg hc]
theorem f64_zero : F64 0 = 0 := by rw [F64, floatOfInt_nat, nearest_false]; rfl
theorem clamp_f (loc : Int) (len : Nat) (h1 : -9223372036854775808 ≤ loc) (h2 : loc < 9223372036854775808) (hl : len < 1099511627776) : floatToIntVal .f64 (fMax 0 (fMin (floatOfInt .f64 loc) (F64 len))) .i64 = some (max 0 (min loc (len : Int))) := by
 obtain ⟨t, ht⟩ := read_nat len (by omega)
 have z : ∀ (m k : Nat), (m * 2 ^ k = 0 ↔ m = 0) := fun m k => by
  have := Nat.two_pow_pos k
  constructor
  ·intro h; rcases Nat.mul_eq_zero.1 h with h | h <;> omega
  ·rintro rfl; simp
 by_cases h0 : loc < 0
 ·obtain ⟨m, p, hr, hm⟩ := read_neg loc h0 h1
  have e1 : fMin (floatOfInt .f64 loc) (F64 len) = floatOfInt .f64 loc := by
   unfold fMin
   rw [fpick_lt hr ht (fun h => hm h.1), if_pos]
   simp only [Datum.order, signed, if_true, Bool.false_eq_true, if_false]
   have hp1 := Nat.two_pow_pos (p - min p (-(t : Int))).toNat
   have : 0 < m <<< (p - min p (-(t : Int))).toNat := by rw [Nat.shiftLeft_eq]; exact Nat.mul_pos (by omega) hp1
   generalize m <<< (p - min p (-(t : Int))).toNat = A at *
   generalize (len * 2 ^ t) <<< (-(t : Int) - min p (-(t : Int))).toNat = B at *
   rw [Int.compare_eq_lt.2 (by omega)]
  rw [e1]
  obtain ⟨s, hs⟩ := read_nat 0 (by omega)
  rw [show floatOfInt .f64 ((0 : Nat) : Int) = 0 from f64_zero] at hs
  have e2 : fMax 0 (floatOfInt .f64 loc) = 0 := by
   unfold fMax
   rw [fpick_lt hs hr (fun h => hm h.2), if_pos]
   simp only [Datum.order, signed, if_true, Bool.false_eq_true, if_false]
   have hp1 := Nat.two_pow_pos (p - min (-(s : Int)) p).toNat
   have : 0 < m <<< (p - min (-(s : Int)) p).toNat := by rw [Nat.shiftLeft_eq]; exact Nat.mul_pos (by omega) hp1
   generalize m <<< (p - min (-(s : Int)) p).toNat = A at *
   generalize (0 * 2 ^ s) <<< (-(s : Int) - min (-(s : Int)) p).toNat = B at *
   rw [Int.compare_eq_gt.2 (by omega)]
  rw [e2, ← f64_zero, toInt_f 0 (by omega)]
  congr 1; omega
 ·obtain ⟨k, rfl⟩ := Int.eq_ofNat_of_zero_le (show 0 ≤ loc by omega)
  have e1 : fMin (floatOfInt .f64 (k : Int)) (F64 len) = F64 (min k len) := by
   by_cases hk : k < 9007199254740992
   ·exact fMin_f k len hk (by omega)
   ·obtain ⟨m, p, hr, hm, hp⟩ := read_big k (by omega) (by omega)
    unfold fMin
    rw [fpick_lt hr ht (fun h => by omega), if_neg, show min k len = len by omega]
    simp only [Datum.order, signed, Bool.false_eq_true, if_false]
    have c1 : ((p : Int) - min (p : Int) (-(t : Int))).toNat = p + t := by omega
    have c2 : (-(t : Int) - min (p : Int) (-(t : Int))).toNat = 0 := by omega
    rw [c1, c2, Nat.shiftLeft_eq, Nat.shiftLeft_zero]
    have hp1 := Nat.two_pow_pos t
    have hp2 := Nat.two_pow_pos p
    have : len * 2 ^ t < m * 2 ^ (p + t) := by
     rw [Nat.pow_add, ← Nat.mul_assoc]
     refine Nat.mul_lt_mul_of_pos_right ?_ hp1
     calc len < m := by omega
      _ ≤ m * 2 ^ p := Nat.le_mul_of_pos_right _ hp2
    intro h
    have h := Int.compare_eq_lt.1 (Option.some.inj h)
    omega
  rw [e1, ← f64_zero, fMax_f 0 (min k len) (by omega) (by omega), toInt_f _ (by omega)]
  congr 1; omega
end Go.Proofs.YtmfgccjcnnlehaaDoorYF
namespace Go.Proofs.YtmfgccjcnnlehaaDoorYF
open Go
set_option linter.unusedVariables false
set_option linter.unusedSimpArgs false
theorem within_ex' (n : Nat) (a b c d : Int) : ∃ x, g77 n a b c d = some (x, ()) := by
 dsimp only [g77, g77_1]
 by_cases h1 : a < b
 ·rw [bdT h1]; exact ⟨_, rfl⟩
 ·rw [bdF h1]
  by_cases h2 : a > c
  ·rw [bdT h2]; exact ⟨_, rfl⟩
  ·rw [bdF h2]; exact ⟨_, rfl⟩
theorem part_ex' (n : Nat) (a : Nat) : ∃ x, g78 n a = some (x, ()) := by
 dsimp only [g78, g78_1]
 generalize (fGt .f64 a (0 : Nat) || fEq .f64 a (0 : Nat)) = c1
 generalize (fLt .f64 a (4607182418800017408 : Nat) || fEq .f64 a (4607182418800017408 : Nat)) = c2
 cases c1 <;> cases c2 <;> exact ⟨_, rfl⟩
theorem dmp_any (n : Nat) (s) : ∃ p, g50 n s = some (p, ()) := by
 dsimp only [g50, g50_1]
 obtain ⟨x1, h1⟩ := within_ex' n s.2.1 0 1000 4
 obtain ⟨x2, h2⟩ := within_ex' n s.2.2.1 0 1048576 1000
 obtain ⟨x3, h3⟩ := part_ex' n s.2.2.2.1
 obtain ⟨x4, h4⟩ := part_ex' n s.2.2.2.2.1
 obtain ⟨x5, h5⟩ := within_ex' n s.2.2.2.2.2.1 1 8 4
 obtain ⟨x6, h6⟩ := within_ex' n s.2.2.2.2.2.2 32 62 32
 rw [bind_some' h1, bind_some' h2, bind_some' h3, bind_some' h4, bind_some' h5, bind_some' h6]
 cases s.1 <;> exact ⟨_, rfl⟩
theorem usable_ex (n : Nat) (s) : ∃ b, g48 n s = some (b, ()) := by
 dsimp only [g48, g48_1]
 generalize (fGt .f64 s.2.2.2.1 (0 : Nat) || fEq .f64 s.2.2.2.1 (0 : Nat)) = c1
 generalize (fLt .f64 s.2.2.2.1 (4607182418800017408 : Nat) || fEq .f64 s.2.2.2.1 (4607182418800017408 : Nat)) = c2
 generalize (fGt .f64 s.2.2.2.2.1 (0 : Nat) || fEq .f64 s.2.2.2.2.1 (0 : Nat)) = c3
 generalize (fLt .f64 s.2.2.2.2.1 (4607182418800017408 : Nat) || fEq .f64 s.2.2.2.2.1 (4607182418800017408 : Nat)) = c4
 generalize decide (s.2.1 ≥ (0 : Int)) = d1
 generalize decide (s.2.1 ≤ (1000 : Int)) = d2
 generalize decide (s.2.2.1 ≥ (0 : Int)) = d3
 generalize decide (s.2.2.1 ≤ (1048576 : Int)) = d4
 generalize decide (s.2.2.2.2.2.1 ≥ (1 : Int)) = d5
 generalize decide (s.2.2.2.2.2.1 ≤ (8 : Int)) = d6
 generalize decide (s.2.2.2.2.2.2 ≥ (32 : Int)) = d7
 cases d1
 ·exact ⟨_, rfl⟩
 cases d2
 ·exact ⟨_, rfl⟩
 cases d3
 ·exact ⟨_, rfl⟩
 cases d4
 ·exact ⟨_, rfl⟩
 cases c1
 ·exact ⟨_, rfl⟩
 cases c2
 ·exact ⟨_, rfl⟩
 cases c3
 ·exact ⟨_, rfl⟩
 cases c4
 ·exact ⟨_, rfl⟩
 cases d5
 ·exact ⟨_, rfl⟩
 cases d6
 ·exact ⟨_, rfl⟩
 cases d7
 ·exact ⟨_, rfl⟩
 exact ⟨_, rfl⟩
end Go.Proofs.YtmfgccjcnnlehaaDoorYF
namespace Go.Proofs.YtmfgccjcnnlehaaDoorYF
open Go
set_option linter.unusedVariables false
set_option linter.unusedSimpArgs false
theorem GoodK.i64 {x : Int} (h : GoodK (.int .i64) x) : -9223372036854775808 ≤ x ∧ x < 9223372036854775808 := by
 have h : (Lit.int .i64 x).wf = true := h
 simp only [Lit.wf, Bool.and_eq_true, decide_eq_true_eq] at h
 have h1 : IntKind.i64.min = -9223372036854775808 := rfl
 have h2 : IntKind.i64.max = 9223372036854775807 := rfl
 omega
theorem looked_ok (n : Nat) (s) (t p : ByteArray) : ∃ b, g17 n s t p = some (b, ()) ∧ (b = true → t.size ≤ 600 ∧ 0 < p.size ∧ (p.size : Int) ≤ s.2.2.2.2.2.2) := by
 dsimp only [g17, g17_1]
 obtain ⟨b, hb⟩ := usable_ex n s
 rw [bind_some' hb]
 cases b with
 | false => exact ⟨false, rfl, fun h => by cases h⟩
 | true =>
  simp only [cond_true]
  by_cases h1 : (t.size : Int) ≤ 600
  ·rw [bdT h1]
   by_cases h2 : (p.size : Int) > 0
   ·rw [bdT h2]
    refine ⟨_, rfl, fun h => ⟨by omega, by omega, by simpa using h⟩⟩
   ·rw [bdF h2]; exact ⟨false, rfl, fun h => by cases h⟩
  ·rw [bdF h1]; exact ⟨false, rfl, fun h => by cases h⟩
theorem min_call (n : Nat) (a b : Nat) : g81 n a b = some (fMin a b, ()) := rfl
theorem max_call (n : Nat) (a b : Nat) : g84 n a b = some (fMax a b, ()) := rfl
theorem matchMain_ok (n : Nat) (p0) (t p : ByteArray) (at_ : Int) (h1 : -9223372036854775808 ≤ at_) (h2 : at_ < 9223372036854775808) (ht : t.size ≤ 600) (hp : p.size ≤ 2147483647) (hne : t ≠ p) (h : t.size = 0 ∨ (max 0 (min at_ (t.size : Int)) + p.size ≤ t.size ∧ cutS t (max 0 (min at_ (t.size : Int))) (max 0 (min at_ (t.size : Int)) + p.size) = p)) :
  g53 n p0 t p at_ = some (if t.size = 0 then -1 else max 0 (min at_ (t.size : Int)), ()) := by
 dsimp only [g53, g53_1]
 rw [min_call, Option.bind_some, max_call, Option.bind_some]
 have hc := clamp_f at_ t.size h1 h2 (by omega)
 simp only
 rw [show floatOfInt .f64 ((t.size : Nat) : Int) = F64 t.size from rfl, hc]
 simp only [onS]
 rw [biF (by rw [strEq_eq]; simpa using hne)]
 by_cases h0 : t.size = 0
 ·rw [biT (by rw [beq_iff_eq]; omega), if_pos h0]
 ·obtain ⟨k1, k2⟩ := h.resolve_left h0
  rw [biF (by rw [beq_eq_false_iff_ne]; omega), if_neg h0, w64_id (by omega) (by omega), bdT k1, bnd_ok (by omega) (by omega) (by omega), k2, biT (by rw [strEq_eq]; simp)]
end Go.Proofs.YtmfgccjcnnlehaaDoorYF
