/- Plain statements about the printed functions. -/
import Derived.Test.YtmfgccjcnnlehaaDoorZFB
import Derived.Test.YtmfgccjcnnlehaaDoorZGA0
import Derived.Test.YtmfgccjcnnlehaaDoorZGA1
import Derived.Lib.DecodeN
import Derived.Lib.SpaceU
import Derived.Lib.TrimAscii
namespace Go.Proofs.YtmfgccjcnnlehaaDoorZF
open Go
set_option linter.unusedVariables false
set_option linter.unusedSimpArgs false
def Big : Nat := 4611686018427387904
section
variable {β : Type}
theorem w64_id {n : Int} (h0 : -9223372036854775808 ≤ n) (h1 : n < 9223372036854775808) : w64 n = n := by
 unfold w64 IntKind.wrap; simp [IntKind.bits, IntKind.signed]; omega
theorem wu8_id {n : Int} (h0 : 0 ≤ n) (h1 : n < 256) : IntKind.u8.wrap n = n := by
 unfold IntKind.wrap; simp [IntKind.bits, IntKind.signed]; omega
theorem wi32_id {n : Int} (h0 : -2147483648 ≤ n) (h1 : n < 2147483648) : IntKind.i32.wrap n = n := by
 unfold IntKind.wrap; simp [IntKind.bits, IntKind.signed]; omega
theorem wi8_id {n : Int} (h0 : -128 ≤ n) (h1 : n < 128) : IntKind.i8.wrap n = n := by
 unfold IntKind.wrap; simp [IntKind.bits, IntKind.signed]; omega
theorem wu32_id {n : Int} (h0 : 0 ≤ n) (h1 : n < 4294967296) : IntKind.u32.wrap n = n := by
 unfold IntKind.wrap; simp [IntKind.bits, IntKind.signed]; omega
theorem wi64_id {n : Int} (h0 : -9223372036854775808 ≤ n) (h1 : n < 9223372036854775808) : IntKind.i64.wrap n = n := w64_id h0 h1
theorem idx_ok {i n : Int} {κ : Option β} (h0 : 0 ≤ i) (h1 : i < n) : idx i n κ = κ := by simp [idx, h0, h1]
theorem bnd_ok {a b n : Int} {κ : Option β} (h0 : 0 ≤ a) (h1 : a ≤ b) (h2 : b ≤ n) : bnd a b n κ = κ := by simp [bnd, h0, h1, h2]
theorem roomy_ok {n : Nat} {κ : Option β} (h : n ≤ 1099511627776) : roomy n κ = κ := by simp [roomy, h]
theorem roomI_ok {n : Int} {κ : Option β} (h : n ≤ 1099511627776) : roomI n κ = κ := by simp [roomI, h]
theorem room46_ok {z : ByteArray} {κ : Option β} (h : z.size ≤ 70368744177664) : room46 z κ = κ := by
 have : Nat.ble z.size 70368744177664 = true := by rw [Nat.ble_eq]; exact h
 simp [room46, this]
theorem nz_ok {b : Int} {κ : Option β} (h : b ≠ 0) : nz b κ = κ := by simp [nz, h]
theorem nneg_ok {b : Int} {κ : Option β} (h : 0 ≤ b) : nneg b κ = κ := by
 have : ¬ b < 0 := by omega
 simp [nneg, this]
theorem biT {γ : Type} {c : Bool} {x y : γ} (h : c = true) : (bif c then x else y) = x := by rw [h]; rfl
theorem biF {γ : Type} {c : Bool} {x y : γ} (h : c = false) : (bif c then x else y) = y := by rw [h]; rfl
theorem bdT {γ : Type} {p : Prop} [Decidable p] {x y : γ} (h : p) : (bif decide p then x else y) = x := by rw [decide_eq_true h]; rfl
theorem bdF {γ : Type} {p : Prop} [Decidable p] {x y : γ} (h : ¬ p) : (bif decide p then x else y) = y := by rw [decide_eq_false h]; rfl
theorem bind_some' {γ δ : Type} {o : Option γ} {a : γ} {f : γ → Option δ} (h : o = some a) : o.bind f = f a := by rw [h]; rfl
end
theorem rd_lt {α : Type} {xs : List α} {i : Int} {d : α} (h0 : 0 ≤ i) (h1 : i < xs.length) : rd xs i d = xs[i.toNat]'(by omega) := by
 unfold rd; rw [List.getD_eq_getElem?_getD, List.getElem?_eq_getElem (by omega)]; rfl
theorem rd_nat {α : Type} {xs : List α} {n : Nat} {d : α} : rd xs (n : Int) d = xs.getD n d := by simp [rd]
theorem cut_nat {α : Type} (xs : List α) (a b : Nat) : cut xs (a : Int) (b : Int) = (xs.drop a).take (b - a) := by simp [cut]
theorem cut_to {α : Type} (xs : List α) (a b : Int) (h : (xs.length : Int) ≤ b) : cut xs a b = xs.drop a.toNat := by
 unfold cut; rw [List.take_of_length_le]; rw [List.length_drop]; omega
theorem cut_from {α : Type} (xs : List α) (b : Int) : cut xs 0 b = xs.take b.toNat := by simp [cut]
theorem ba_ext {x y : ByteArray} (h : x.data.toList = y.data.toList) : x = y := by
 obtain ⟨⟨x⟩⟩ := x; obtain ⟨⟨y⟩⟩ := y; simp only at h; rw [h]
theorem bytesOf_length (z : ByteArray) : (bytesOf z).length = z.size := by unfold bytesOf; rw [List.length_map]; rfl
theorem bytesOf_inj {x y : ByteArray} (h : bytesOf x = bytesOf y) : x = y := by
 refine ba_ext ?_
 unfold bytesOf at h
 exact (List.map_inj_right (fun a b hab => UInt8.toNat_inj.1 (by exact_mod_cast hab))).1 h
theorem strEq_eq (x y : ByteArray) : strEq x y = decide (x = y) := by
 unfold strEq
 have e : ∀ z : ByteArray, z.toList = z.data.toList := fun z => by
  have key : ∀ (l : List UInt8) (k : Nat) (acc : List UInt8), (k ≤ l.length) → ByteArray.toList.loop ⟨⟨l⟩⟩ k acc = acc.reverse ++ l.drop k := by
   intro l k acc hk
   induction hj : l.length - k generalizing k acc with
   | zero =>
    unfold ByteArray.toList.loop
    have : ¬ k < (ByteArray.mk ⟨l⟩).size := by show ¬ k < l.length; omega
    rw [if_neg this, List.drop_eq_nil_of_le (by omega)]; simp
   | succ j ih =>
    unfold ByteArray.toList.loop
    have h1 : k < l.length := by omega
    have : k < (ByteArray.mk ⟨l⟩).size := h1
    rw [if_pos this, ih (k + 1) _ (by omega) (by omega)]
    have hg : (ByteArray.mk ⟨l⟩).get! k = l[k] := by
     show (Array.mk l)[k]! = l[k]
     rw [getElem!_pos (Array.mk l) k (by simpa using h1)]; simp
    rw [hg, List.drop_eq_getElem_cons h1]; simp
  obtain ⟨⟨l⟩⟩ := z
  unfold ByteArray.toList
  rw [key l 0 [] (Nat.zero_le _)]; simp
 rw [e, e]
 by_cases h : x = y
 ·subst h; simp
 ·simp only [h, decide_false]
  exact beq_false_of_ne (fun h' => h (ba_ext h'))
theorem bytesOf_append (x y : ByteArray) : bytesOf (x ++ y) = bytesOf x ++ bytesOf y := by
 unfold bytesOf; rw [ByteArray.data_append, Array.toList_append, List.map_append]
theorem size_append (x y : ByteArray) : (x ++ y).size = x.size + y.size := by rw [← bytesOf_length, bytesOf_append]; simp [bytesOf_length]
theorem bytesOf_cutS (z : ByteArray) (a b : Int) : bytesOf (cutS z a b) = cut (bytesOf z) a b := by
 unfold bytesOf cutS cut
 rw [ByteArray.data_extract, ← List.map_drop, ← List.map_take]
 congr 1
 simp [Array.toList_extract, List.extract_eq_take_drop]
theorem byteAt_rd {z : ByteArray} {i : Int} (h0 : 0 ≤ i) (h1 : i < z.size) : byteAt z i = rd (bytesOf z) i 0 := by
 have hl := bytesOf_length z
 rw [rd_lt h0 (by omega)]
 unfold byteAt bytesOf
 rw [List.getElem_map]
 congr 2
 show z.data[i.toNat]! = _
 rw [getElem!_pos z.data i.toNat (by show i.toNat < z.size; omega)]
 simp
theorem bytesOf_range {z : ByteArray} : ∀ b ∈ bytesOf z, 0 ≤ b ∧ b < 256 := by
 intro b hb
 unfold bytesOf at hb
 obtain ⟨u, _, rfl⟩ := List.mem_map.1 hb
 have := u.toNat_lt
 omega
theorem strOfNums_bytesOf (z : ByteArray) : strOfNums (bytesOf z) = z := by
 refine ba_ext ?_
 rw [strOfNums_data]; unfold bytesOf
 rw [List.map_map]
 refine (List.map_congr_left (fun u _ => ?_)).trans (List.map_id _)
 simp
theorem bytesOf_strOfNums {xs : List Int} (h : ∀ b ∈ xs, 0 ≤ b ∧ b < 256) : bytesOf (strOfNums xs) = xs := by
 unfold bytesOf
 rw [strOfNums_data, List.map_map]
 refine (List.map_congr_left (fun u hu => ?_)).trans (List.map_id _)
 have := h u hu
 simp [UInt8.toNat_ofNat']
 omega
theorem bytesOf_empty : bytesOf (⟨#[]⟩ : ByteArray) = [] := rfl
theorem size_lit (l : List UInt8) : (⟨⟨l⟩⟩ : ByteArray).size = l.length := rfl
theorem size_cutS {z : ByteArray} {a b : Int} (h0 : 0 ≤ a) (h1 : a ≤ b) (h2 : b ≤ z.size) : (cutS z a b).size = (b - a).toNat := by
 have hl := bytesOf_length z
 rw [← bytesOf_length, bytesOf_cutS, length_cut _ _ _ h1 (by omega)]; omega
theorem rd_cut {α : Type} {xs : List α} {a b i : Int} {d : α} (h0 : 0 ≤ a) (h1 : 0 ≤ i) (h2 : i < b - a) (h3 : b ≤ xs.length) : rd (cut xs a b) i d = rd xs (a + i) d := by
 unfold rd cut
 rw [List.getD_eq_getElem?_getD, List.getD_eq_getElem?_getD, List.getElem?_take, if_pos (by omega), List.getElem?_drop]
 congr 2; omega
theorem byteAt_cutS {z : ByteArray} {a b i : Int} (h0 : 0 ≤ a) (h1 : 0 ≤ i) (h2 : i < b - a) (h3 : b ≤ z.size) : byteAt (cutS z a b) i = byteAt z (a + i) := by
 have hl := bytesOf_length z
 have hs := size_cutS (z := z) h0 (show a ≤ b by omega) h3
 rw [byteAt_rd h1 (by omega), byteAt_rd (by omega) (by omega), bytesOf_cutS, rd_cut h0 h1 h2 (by omega)]
end Go.Proofs.YtmfgccjcnnlehaaDoorZF
namespace Go.Proofs.YtmfgccjcnnlehaaDoorZF
open Go
set_option linter.unusedVariables false
set_option linter.unusedSimpArgs false
theorem range_fold {α σ β : Type} (xs : List α) (F : Nat → σ → Nat → Option β) (k : σ → Option β) (step : σ → α → σ) (Inv : Nat → σ → Prop)
  (h1 : ∀ m s i (hi : i < xs.length), Inv i s → F (m + 1) s i = F m (step s xs[i]) (i + 1) ∧ Inv (i + 1) (step s xs[i]))
  (h2 : ∀ m s, Inv xs.length s → F (m + 1) s xs.length = k s) : ∀ m s, xs.length < m → Inv 0 s → F m s 0 = k (xs.foldl step s) := by
 have key : ∀ (d i m : Nat) (s : σ), xs.length - i = d → i ≤ xs.length → d < m → Inv i s → F m s i = k ((xs.drop i).foldl step s) := by
  intro d
  induction d with
  | zero =>
   intro i m s hd hi hm hs
   obtain ⟨m', rfl⟩ : ∃ m', m = m' + 1 := ⟨m - 1, by omega⟩
   obtain rfl : i = xs.length := by omega
   rw [h2 m' s hs, List.drop_length]; rfl
  | succ d ih =>
   intro i m s hd hi hm hs
   obtain ⟨m', rfl⟩ : ∃ m', m = m' + 1 := ⟨m - 1, by omega⟩
   have hl : i < xs.length := by omega
   obtain ⟨e, hs'⟩ := h1 m' s i hl hs
   rw [e, ih (i + 1) m' _ (by omega) (by omega) (by omega) hs', List.drop_eq_getElem_cons hl]; rfl
 intro m s hm hs
 have := key xs.length 0 m s (by omega) (Nat.zero_le _) hm hs
 simpa using this
theorem range_find {α β : Type} (xs : List α) (F : Nat → Nat → Option β) (kf : (i : Nat) → i < xs.length → Option β) (k : Option β) (p : Nat → α → Bool)
  (h1 : ∀ m i (hi : i < xs.length), (∀ j (hj : j < i), p j (xs[j]'(by omega)) = false) → F (m + 1) i = if p i xs[i] = true then kf i hi else F m (i + 1))
  (h2 : ∀ m, (∀ j (hj : j < xs.length), p j xs[j] = false) → F (m + 1) xs.length = k) : ∀ m, xs.length < m → (∃ i hi, p i (xs[i]'hi) = true ∧ (∀ j (hj : j < i), p j (xs[j]'(by omega)) = false) ∧ F m 0 = kf i hi) ∨ ((∀ j (hj : j < xs.length), p j xs[j] = false) ∧ F m 0 = k) := by
 have key : ∀ (d i m : Nat), xs.length - i = d → (hi : i ≤ xs.length) → d < m → (∀ j (hj : j < i), p j (xs[j]'(by omega)) = false) →
   (∃ i' hi', p i' (xs[i']'hi') = true ∧ (∀ j (hj : j < i'), p j (xs[j]'(by omega)) = false) ∧ F m i = kf i' hi') ∨ ((∀ j (hj : j < xs.length), p j xs[j] = false) ∧ F m i = k) := by
  intro d
  induction d with
  | zero =>
   intro i m hd hi hm hp
   obtain ⟨m', rfl⟩ : ∃ m', m = m' + 1 := ⟨m - 1, by omega⟩
   obtain rfl : i = xs.length := by omega
   exact .inr ⟨hp, h2 m' hp⟩
  | succ d ih =>
   intro i m hd hi hm hp
   obtain ⟨m', rfl⟩ : ∃ m', m = m' + 1 := ⟨m - 1, by omega⟩
   have hl : i < xs.length := by omega
   have e := h1 m' i hl hp
   cases hpi : p i xs[i] with
   | true => rw [hpi, if_pos rfl] at e; exact .inl ⟨i, hl, hpi, hp, e⟩
   | false =>
    rw [hpi, if_neg (by simp)] at e
    rw [e]
    refine ih (i + 1) m' (by omega) (by omega) (by omega) (fun j hj => ?_)
    by_cases hji : j = i
    ·subst hji; exact hpi
    ·exact hp j (by omega)
 intro m hm
 exact key xs.length 0 m (by omega) (Nat.zero_le _) hm (fun j hj => by omega)
theorem rd_at {α : Type} {xs : List α} {i : Nat} {d : α} (h : i < xs.length) : rd xs (i : Int) d = xs[i] := by
 rw [rd_nat, List.getD_eq_getElem?_getD, List.getElem?_eq_getElem h]; rfl
theorem rd_zero {α : Type} {x d : α} {i : Int} (h : i = 0) : rd [x] i d = x := by subst h; rfl
end Go.Proofs.YtmfgccjcnnlehaaDoorZF
namespace Go.Proofs.YtmfgccjcnnlehaaDoorZF
open Go Go.RowKit
set_option linter.unusedVariables false
set_option linter.unusedSimpArgs false
theorem runesBytes_nil : runesBytes [] = ByteArray.empty := rfl
theorem get_mid (s e u : ByteArray) (k : Nat) (h : k < e.size) : (s ++ e ++ u).get! (s.size + k) = e.get! k := by
 have l1 : s.data.size + k < s.data.size + e.data.size + u.data.size := by have : e.size = e.data.size := rfl; omega
 have l2 : k < e.data.size := h
 show (s ++ e ++ u).data[s.data.size + k]! = e.data[k]!
 simp only [ByteArray.data_append]
 rw [getElem!_pos (s.data ++ e.data ++ u.data) _ (by simp; omega), getElem!_pos e.data k l2, Array.getElem_append_left (by simp; omega), Array.getElem_append_right (by omega)]
 congr 1; omega
theorem b8 (n : Nat) (h : n < 256) : (UInt8.ofNat n).toNat = n := by rw [UInt8.toNat_ofNat']; omega
theorem dec_one (s : ByteArray) (i a : Nat) (h0 : (s.get! i).toNat = a) (ha : a < 128) : Utf8.decode s i = (a, 1) := by
 simp [Utf8.decode, h0, ha]
theorem dec_two (s : ByteArray) (i a b : Nat) (h0 : (s.get! i).toNat = 192 + a) (h1 : (s.get! (i + 1)).toNat = 128 + b) (hs : i + 1 < s.size) (ha : a < 32) (hb : b < 64) (hc : 128 ≤ a * 64 + b) : Utf8.decode s i = (a * 64 + b, 2) := by
 have e1 : (192 + a) / 32 = 6 := by omega
 have e2 : (192 + a) % 32 = a := by omega
 have e3 : (128 + b) / 64 = 2 := by omega
 have e4 : (128 + b) % 64 = b := by omega
 have n1 : ¬ (192 + a < 128) := by omega
 simp [Utf8.decode, h0, h1, e1, e2, e3, e4, hs, n1, hc]
theorem dec_three (s : ByteArray) (i a b c : Nat) (h0 : (s.get! i).toNat = 224 + a) (h1 : (s.get! (i + 1)).toNat = 128 + b) (h2 : (s.get! (i + 2)).toNat = 128 + c) (hs : i + 2 < s.size) (ha : a < 16) (hb : b < 64) (hc : c < 64) (hv : 2048 ≤ a * 4096 + b * 64 + c) (hw : Utf8.valid ((a * 4096 + b * 64 + c : Nat) : Int) = true) : Utf8.decode s i = (a * 4096 + b * 64 + c, 3) := by
 have e0 : (224 + a) / 32 = 7 := by omega
 have e1 : (224 + a) / 16 = 14 := by omega
 have e2 : (224 + a) % 16 = a := by omega
 have e3 : (128 + b) / 64 = 2 := by omega
 have e4 : (128 + b) % 64 = b := by omega
 have e5 : (128 + c) / 64 = 2 := by omega
 have e6 : (128 + c) % 64 = c := by omega
 have n1 : ¬ (224 + a < 128) := by omega
 have s1 : i + 1 < s.size := by omega
 simp [Utf8.decode, h0, h1, h2, e0, e1, e2, e3, e4, e5, e6, hs, s1, n1, hv]
 simpa using hw
theorem dec_four (s : ByteArray) (i a b c d : Nat) (h0 : (s.get! i).toNat = 240 + a) (h1 : (s.get! (i + 1)).toNat = 128 + b) (h2 : (s.get! (i + 2)).toNat = 128 + c) (h3 : (s.get! (i + 3)).toNat = 128 + d) (hs : i + 3 < s.size) (ha : a < 8) (hb : b < 64) (hc : c < 64) (hd : d < 64) (hv : 65536 ≤ a * 262144 + b * 4096 + c * 64 + d) (hw : Utf8.valid ((a * 262144 + b * 4096 + c * 64 + d : Nat) : Int) = true) : Utf8.decode s i = (a * 262144 + b * 4096 + c * 64 + d, 4) := by
 have e0 : (240 + a) / 32 = 7 := by omega
 have e1 : (240 + a) / 16 = 15 := by omega
 have e1' : (240 + a) / 8 = 30 := by omega
 have e2 : (240 + a) % 8 = a := by omega
 have e3 : (128 + b) / 64 = 2 := by omega
 have e4 : (128 + b) % 64 = b := by omega
 have e5 : (128 + c) / 64 = 2 := by omega
 have e6 : (128 + c) % 64 = c := by omega
 have e7 : (128 + d) / 64 = 2 := by omega
 have e8 : (128 + d) % 64 = d := by omega
 have n1 : ¬ (240 + a < 128) := by omega
 have s1 : i + 1 < s.size := by omega
 have s2 : i + 2 < s.size := by omega
 simp [Utf8.decode, h0, h1, h2, h3, e0, e1, e1', e2, e3, e4, e5, e6, e7, e8, hs, s1, s2, n1, hv]
 simpa using hw
theorem decode_encode (s u : ByteArray) (r : Int) (hv : Utf8.valid r = true) : Utf8.decode (s ++ Utf8.encode r ++ u) s.size = (r.toNat, (Utf8.encode r).size) := by
 have hr : 0 ≤ r ∧ r ≤ 1114111 := by simp [Utf8.valid] at hv; omega
 have sz : ∀ e : ByteArray, (s ++ e ++ u).size = s.size + e.size + u.size := by intro e; simp [ByteArray.size_append]
 have g : ∀ (e : ByteArray) (k : Nat), k < e.size → ∀ i, i = s.size + k → (s ++ e ++ u).get! i = e.get! k := by intro e k h i hi; rw [hi]; exact get_mid s e u k h
 by_cases h1 : r.toNat < 128
 ·have e : Utf8.encode r = ⟨#[UInt8.ofNat r.toNat]⟩ := by simp [Utf8.encode, hv, h1]
  rw [e]
  refine dec_one _ _ _ ?_ h1
  refine (congrArg UInt8.toNat (g ⟨#[_]⟩ 0 (show 0 < 1 by decide) _ rfl)).trans ?_
  exact b8 _ (by omega)
 by_cases h2 : r.toNat < 2048
 ·have e : Utf8.encode r = ⟨#[UInt8.ofNat (192 + r.toNat / 64), UInt8.ofNat (128 + r.toNat % 64)]⟩ := by simp [Utf8.encode, hv, h1, h2]
  rw [e]
  refine (dec_two _ _ (r.toNat / 64) (r.toNat % 64) ?_ ?_ ?_ (by omega) (by omega) (by omega)).trans ?_
  ·exact (congrArg UInt8.toNat (g ⟨#[_, _]⟩ 0 (show 0 < 2 by decide) _ rfl)).trans (b8 _ (by omega))
  ·exact (congrArg UInt8.toNat (g ⟨#[_, _]⟩ 1 (show 1 < 2 by decide) _ rfl)).trans (b8 _ (by omega))
  ·rw [sz]; show s.size + 1 < s.size + 2 + u.size; omega
  ·congr 1; omega
 by_cases h3 : r.toNat < 65536
 ·have e : Utf8.encode r = ⟨#[UInt8.ofNat (224 + r.toNat / 4096), UInt8.ofNat (128 + r.toNat / 64 % 64), UInt8.ofNat (128 + r.toNat % 64)]⟩ := by simp [Utf8.encode, hv, h1, h2, h3]
  have q : r.toNat / 4096 * 4096 + r.toNat / 64 % 64 * 64 + r.toNat % 64 = r.toNat := by omega
  rw [e]
  refine (dec_three _ _ (r.toNat / 4096) (r.toNat / 64 % 64) (r.toNat % 64) ?_ ?_ ?_ ?_ (by omega) (by omega) (by omega) (by omega) ?_).trans ?_
  ·exact (congrArg UInt8.toNat (g ⟨#[_, _, _]⟩ 0 (show 0 < 3 by decide) _ rfl)).trans (b8 _ (by omega))
  ·exact (congrArg UInt8.toNat (g ⟨#[_, _, _]⟩ 1 (show 1 < 3 by decide) _ rfl)).trans (b8 _ (by omega))
  ·exact (congrArg UInt8.toNat (g ⟨#[_, _, _]⟩ 2 (show 2 < 3 by decide) _ rfl)).trans (b8 _ (by omega))
  ·rw [sz]; show s.size + 2 < s.size + 3 + u.size; omega
  ·rw [q, Int.toNat_of_nonneg hr.1]; exact hv
  ·rw [q]; rfl
 ·have e : Utf8.encode r = ⟨#[UInt8.ofNat (240 + r.toNat / 262144), UInt8.ofNat (128 + r.toNat / 4096 % 64), UInt8.ofNat (128 + r.toNat / 64 % 64), UInt8.ofNat (128 + r.toNat % 64)]⟩ := by simp [Utf8.encode, hv, h1, h2, h3]
  have q : r.toNat / 262144 * 262144 + r.toNat / 4096 % 64 * 4096 + r.toNat / 64 % 64 * 64 + r.toNat % 64 = r.toNat := by omega
  rw [e]
  refine (dec_four _ _ (r.toNat / 262144) (r.toNat / 4096 % 64) (r.toNat / 64 % 64) (r.toNat % 64) ?_ ?_ ?_ ?_ ?_ (by omega) (by omega) (by omega) (by omega) (by omega) ?_).trans ?_
  ·exact (congrArg UInt8.toNat (g ⟨#[_, _, _, _]⟩ 0 (show 0 < 4 by decide) _ rfl)).trans (b8 _ (by omega))
  ·exact (congrArg UInt8.toNat (g ⟨#[_, _, _, _]⟩ 1 (show 1 < 4 by decide) _ rfl)).trans (b8 _ (by omega))
  ·exact (congrArg UInt8.toNat (g ⟨#[_, _, _, _]⟩ 2 (show 2 < 4 by decide) _ rfl)).trans (b8 _ (by omega))
  ·exact (congrArg UInt8.toNat (g ⟨#[_, _, _, _]⟩ 3 (show 3 < 4 by decide) _ rfl)).trans (b8 _ (by omega))
  ·rw [sz]; show s.size + 3 < s.size + 4 + u.size; omega
  ·rw [q, Int.toNat_of_nonneg hr.1]; exact hv
  ·rw [q]; rfl
theorem encode_pos (r : Int) : 1 ≤ (Utf8.encode r).size := by
 unfold Utf8.encode
 simp only
 repeat' split
 all_goals simp [ByteArray.size]
theorem foldl_enc (ns : List Int) : ∀ s : ByteArray, ns.foldl (fun r n => r ++ Utf8.encode n) s = s ++ runesBytes ns := by
 induction ns with
 | nil => intro s; simp [runesBytes]
 | cons n ns ih =>
  intro s
  unfold runesBytes
  simp only [List.foldl_cons]
  rw [ih, ih (ByteArray.empty ++ _)]
  simp [ByteArray.append_assoc]
theorem runesBytes_cons (n : Int) (ns : List Int) : runesBytes (n :: ns) = Utf8.encode n ++ runesBytes ns := by
 conv => lhs; unfold runesBytes
 rw [List.foldl_cons, foldl_enc]; simp
theorem runesBytes_append (x y : List Int) : runesBytes (x ++ y) = runesBytes x ++ runesBytes y := by
 conv => lhs; unfold runesBytes
 rw [List.foldl_append, foldl_enc]; rfl
def Valids (xs : List Int) : Prop := ∀ x ∈ xs, Utf8.valid x = true
theorem runesAt_back : ∀ (xs : List Int) (s : ByteArray) (b : Nat), Valids xs → (runesBytes xs).size ≤ b → runesAt (s ++ runesBytes xs) b s.size = xs
 | [], s, b, _, _ => by
  cases b with
  | zero => rfl
  | succ b => unfold runesAt; rw [if_neg]; simp [runesBytes]
 | x :: xs, s, b, hv, hb => by
  have hp := encode_pos x
  rw [runesBytes_cons] at hb ⊢
  rw [ByteArray.size_append] at hb
  obtain ⟨b, rfl⟩ : ∃ b', b = b' + 1 := ⟨b - 1, by omega⟩
  have hx : Utf8.valid x = true := hv x (by simp)
  have hr : 0 ≤ x := by simp [Utf8.valid] at hx; omega
  unfold runesAt
  rw [if_pos (by simp [ByteArray.size_append]; omega), ← ByteArray.append_assoc, decode_encode s (runesBytes xs) x hx]
  have e : s.size + (Utf8.encode x).size = (s ++ Utf8.encode x).size := by rw [ByteArray.size_append]
  show ((x.toNat : Nat) : Int) :: runesAt _ b (s.size + (Utf8.encode x).size) = _
  rw [e, runesAt_back xs (s ++ Utf8.encode x) b (fun y hy => hv y (by simp [hy])) (by omega)]
  rw [Int.toNat_of_nonneg hr]
theorem runes_back (xs : List Int) (h : Valids xs) : runesOf (runesBytes xs) = xs := by
 have := runesAt_back xs ByteArray.empty (runesBytes xs).size h (Nat.le_refl _)
 simpa [runesOf] using this
theorem runesBytes_inj {x y : List Int} (hx : Valids x) (hy : Valids y) (h : runesBytes x = runesBytes y) : x = y := by
 rw [← runes_back x hx, ← runes_back y hy, h]
theorem decode_valid (s : ByteArray) (i : Nat) : Utf8.valid ((Utf8.decode s i).1 : Int) = true := by
 unfold Utf8.decode
 simp only [Nat.add_zero]
 split
 ·rename_i h; simp [Utf8.valid]; omega
 split
 ·split
  ·rename_i h1 h2; simp only [Utf8.valid]; simp; omega
  ·decide
 split
 ·split
  ·rename_i h1 h2; simp at h2; exact h2.2
  ·decide
 split
 ·split
  ·rename_i h1 h2; simp at h2; exact h2.2
  ·decide
 ·decide
theorem runesAt_valid (s : ByteArray) : ∀ b i, Valids (runesAt s b i)
 | 0, _ => by intro x hx; simp [runesAt] at hx
 | b + 1, i => by
  intro x hx
  unfold runesAt at hx
  split at hx
  ·rcases List.mem_cons.1 hx with rfl | hx
   ·exact decode_valid s i
   ·exact runesAt_valid s b _ x hx
  ·simp at hx
theorem runesOf_valid (s : ByteArray) : Valids (runesOf s) := runesAt_valid s _ _
theorem Valids.take {x : List Int} (h : Valids x) (n : Nat) : Valids (x.take n) := fun y hy => h y (List.mem_of_mem_take hy)
theorem Valids.drop {x : List Int} (h : Valids x) (n : Nat) : Valids (x.drop n) := fun y hy => h y (List.mem_of_mem_drop hy)
theorem Valids.append {x y : List Int} (h : Valids x) (k : Valids y) : Valids (x ++ y) := fun z hz => (List.mem_append.1 hz).elim (h z) (k z)
end Go.Proofs.YtmfgccjcnnlehaaDoorZF
namespace Go.Proofs.YtmfgccjcnnlehaaDoorZF
open Go
set_option linter.unusedVariables false
set_option linter.unusedSimpArgs false
def bl (z : ByteArray) : List UInt8 := z.data.toList
theorem bl_append (x y : ByteArray) : bl (x ++ y) = bl x ++ bl y := by unfold bl; rw [ByteArray.data_append, Array.toList_append]
theorem bl_length (z : ByteArray) : (bl z).length = z.size := rfl
theorem bl_inj {x y : ByteArray} (h : bl x = bl y) : x = y := ba_ext h
def inner (b : UInt8) : Prop := 128 ≤ b.toNat ∧ b.toNat < 192
theorem enc_shape (r : Int) : ∃ f t, bl (Utf8.encode r) = f :: t ∧ ¬ inner f ∧ ∀ b ∈ t, inner b := by
 have tn : ∀ n : Nat, n < 256 → (UInt8.ofNat n).toNat = n := fun n h => by rw [UInt8.toNat_ofNat']; omega
 have hc : (if Utf8.valid r then r.toNat else Utf8.runeError) < 1114112 := by
  split
  ·rename_i h
   unfold Utf8.valid at h
   simp at h
   omega
  ·decide
 unfold Utf8.encode
 simp only
 generalize (if Utf8.valid r then r.toNat else Utf8.runeError) = n at hc ⊢
 by_cases h1 : n < 0x80
 ·rw [if_pos h1]
  exact ⟨UInt8.ofNat n, [], rfl, by unfold inner; rw [tn n (by omega)]; omega, by simp⟩
 ·rw [if_neg h1]
  by_cases h2 : n < 0x800
  ·rw [if_pos h2]
   refine ⟨UInt8.ofNat (0xC0 + n / 64), [UInt8.ofNat (0x80 + n % 64)], rfl, by unfold inner; rw [tn _ (by omega)]; omega, ?_⟩
   intro b hb
   simp only [List.mem_cons, List.not_mem_nil, or_false] at hb
   subst hb
   unfold inner; rw [tn _ (by omega)]; omega
  ·rw [if_neg h2]
   by_cases h3 : n < 0x10000
   ·rw [if_pos h3]
    refine ⟨UInt8.ofNat (0xE0 + n / 4096), [UInt8.ofNat (0x80 + n / 64 % 64), UInt8.ofNat (0x80 + n % 64)], rfl, by unfold inner; rw [tn _ (by omega)]; omega, ?_⟩
    intro b hb
    simp only [List.mem_cons, List.not_mem_nil, or_false] at hb
    rcases hb with rfl | rfl <;> (unfold inner; rw [tn _ (by omega)]; omega)
   ·rw [if_neg h3]
    refine ⟨UInt8.ofNat (0xF0 + n / 262144), [UInt8.ofNat (0x80 + n / 4096 % 64), UInt8.ofNat (0x80 + n / 64 % 64), UInt8.ofNat (0x80 + n % 64)], rfl, by unfold inner; rw [tn _ (by omega)]; omega, ?_⟩
    intro b hb
    simp only [List.mem_cons, List.not_mem_nil, or_false] at hb
    rcases hb with rfl | rfl | rfl <;> (unfold inner; rw [tn _ (by omega)]; omega)
abbrev enc (x : List Int) : ByteArray := runesBytes x
theorem bl_enc_cons (r : Int) (x : List Int) : bl (enc (r :: x)) = bl (Utf8.encode r) ++ bl (enc x) := by
 show bl (runesBytes (r :: x)) = _
 rw [runesBytes_cons, bl_append]
theorem enc_append (x y : List Int) : enc (x ++ y) = enc x ++ enc y := runesBytes_append x y
theorem enc_nil : enc [] = (⟨#[]⟩ : ByteArray) := rfl
theorem enc_size_append (x y : List Int) : (enc (x ++ y)).size = (enc x).size + (enc y).size := by rw [enc_append, size_append]
theorem enc_size_cons (r : Int) (x : List Int) : (enc (r :: x)).size = (Utf8.encode r).size + (enc x).size := by
 have := bl_enc_cons r x
 rw [← bl_length, this, List.length_append, bl_length, bl_length]
theorem enc_size_ge : ∀ x : List Int, x.length ≤ (enc x).size
 | [] => Nat.zero_le _
 | r :: x => by
  have h1 := encode_pos r
  have h2 := enc_size_ge x
  rw [enc_size_cons, List.length_cons]; omega
theorem enc_size_le (x : List Int) : (enc x).size ≤ 4 * x.length := runesBytes_size_le x
theorem enc_size_zero {x : List Int} : (enc x).size = 0 ↔ x = [] := by
 constructor
 ·intro h
  have := enc_size_ge x
  exact List.eq_nil_of_length_eq_zero (by omega)
 ·rintro rfl; rfl
theorem enc_inj {x y : List Int} (hx : Valids x) (hy : Valids y) : enc x = enc y ↔ x = y := ⟨runesBytes_inj hx hy, fun h => by rw [h]⟩
theorem runes_enc {x : List Int} (hx : Valids x) : runesOf (enc x) = x := runes_back x hx
theorem Valids.nil : Valids [] := fun x hx => by cases hx
theorem Valids.cons {r : Int} {x : List Int} (h : Valids (r :: x)) : Utf8.valid r = true ∧ Valids x := ⟨h r (by simp), fun y hy => h y (by simp [hy])⟩
theorem decode_head (r : Int) (x : List Int) (u : ByteArray) (hr : Utf8.valid r = true) : Utf8.decode (enc (r :: x) ++ u) 0 = (r.toNat, (Utf8.encode r).size) := by
 have := decode_encode ByteArray.empty (enc x ++ u) r hr
 have e : enc (r :: x) ++ u = ByteArray.empty ++ Utf8.encode r ++ (enc x ++ u) := by
  apply bl_inj
  simp only [bl_append, bl_enc_cons, List.append_assoc]
  rfl
 rw [e]; exact this
theorem valid_nonneg {r : Int} (h : Utf8.valid r = true) : 0 ≤ r ∧ r < 1114112 := by unfold Utf8.valid at h; simp at h; omega
theorem pre_of_bytes : ∀ {a b : List Int} {u : ByteArray}, Valids a → Valids b → enc a = enc b ++ u → ∃ c, a = b ++ c ∧ u = enc c
 | a, [], u, ha, hb, h => ⟨a, rfl, by
   have := congrArg bl h
   rw [bl_append] at this
   exact (bl_inj (this.trans rfl)).symm⟩
 | [], r :: b, u, ha, hb, h => by
  have := congrArg bl h
  obtain ⟨f, t, h1, _⟩ := enc_shape r
  rw [bl_append, bl_enc_cons, h1] at this
  cases this
 | s :: a, r :: b, u, ha, hb, h => by
  have h1 := decode_head s a ByteArray.empty ha.cons.1
  have h2 := decode_head r b u hb.cons.1
  have e : enc (s :: a) ++ ByteArray.empty = enc (s :: a) := by apply bl_inj; rw [bl_append]; show _ ++ [] = _; simp
  rw [e, h] at h1
  rw [h1] at h2
  have hs := valid_nonneg ha.cons.1
  have hr := valid_nonneg hb.cons.1
  have hsr : s = r := by have := (Prod.mk.inj h2).1; omega
  subst hsr
  have h3 : enc a = enc b ++ u := by
   have := congrArg bl h
   rw [bl_append, bl_enc_cons, bl_enc_cons, List.append_assoc] at this
   have := List.append_cancel_left this
   exact bl_inj (this.trans (bl_append _ _).symm)
  obtain ⟨c, hc, hu⟩ := pre_of_bytes ha.cons.2 hb.cons.2 h3
  exact ⟨c, by rw [hc]; rfl, hu⟩
theorem split_at : ∀ {a : List Int} {u v : ByteArray}, enc a = u ++ v → (∀ f t, bl v = f :: t → ¬ inner f) → ∃ b c, a = b ++ c ∧ u = enc b ∧ v = enc c
 | [], u, v, h, hv => by
  have := congrArg bl h
  rw [bl_append] at this
  have h1 : bl u = [] ∧ bl v = [] := by
   have : bl u ++ bl v = [] := this.symm.trans rfl
   simpa using this
  exact ⟨[], [], rfl, bl_inj (h1.1.trans rfl), bl_inj (h1.2.trans rfl)⟩
 | r :: a, u, v, h, hv => by
  by_cases hu : bl u = []
  ·refine ⟨[], r :: a, rfl, bl_inj (hu.trans rfl), ?_⟩
   apply bl_inj
   have := congrArg bl h
   rw [bl_append, hu] at this
   exact this.symm
  ·have hh := congrArg bl h
   rw [bl_append, bl_enc_cons] at hh
   obtain ⟨f, t, h1, h2, h3⟩ := enc_shape r
   rcases List.append_eq_append_iff.1 hh with ⟨w, hw1, hw2⟩ | ⟨w, hw1, hw2⟩
   ·
    obtain ⟨b, c, e1, e2, e3⟩ := split_at (a := a) (u := ⟨⟨w⟩⟩) (v := v) (by apply bl_inj; rw [bl_append]; exact hw2) hv
    refine ⟨r :: b, c, by rw [e1]; rfl, ?_, e3⟩
    apply bl_inj
    rw [hw1, bl_enc_cons, ← e2]; rfl
   ·cases w with
    | nil =>
     obtain ⟨b, c, e1, e2, e3⟩ := split_at (a := a) (u := ⟨⟨[]⟩⟩) (v := v) (by apply bl_inj; rw [bl_append]; exact hw2.symm) hv
     refine ⟨r :: b, c, by rw [e1]; rfl, ?_, e3⟩
     apply bl_inj
     rw [bl_enc_cons, ← e2, hw1, List.append_nil]
     show bl u = bl u ++ []
     simp
    | cons x w =>
     exfalso
     have hx := hv x (w ++ bl (enc a)) hw2
     rw [h1] at hw1
     cases hbu : bl u with
     | nil => exact hu hbu
     | cons y l =>
      rw [hbu] at hw1
      simp only [List.cons_append, List.cons.injEq] at hw1
      exact hx (h3 x (by rw [hw1.2]; simp))
theorem suf_of_bytes {a b : List Int} {u : ByteArray} (ha : Valids a) (hb : Valids b) (h : enc a = u ++ enc b) : ∃ c, a = c ++ b ∧ u = enc c := by
 obtain ⟨c, d, h1, h2, h3⟩ := split_at h (fun f t hf => by
  cases b with
  | nil => cases (show ([] : List UInt8) = f :: t from hf)
  | cons r b =>
   obtain ⟨f', t', g1, g2, _⟩ := enc_shape r
   rw [bl_enc_cons, g1] at hf
   simp only [List.cons_append, List.cons.injEq] at hf
   rw [← hf.1]; exact g2)
 subst h1
 have : b = d := runesBytes_inj hb (fun x hx => ha x (by simp [hx])) h3
 subst this
 exact ⟨c, rfl, h2⟩
theorem cutS_append_left (x y : ByteArray) : cutS (x ++ y) 0 (x.size : Int) = x := by
 apply bytesOf_inj
 rw [bytesOf_cutS, bytesOf_append, cut_from]
 simp [← bytesOf_length]
theorem cutS_append_right (x y : ByteArray) : cutS (x ++ y) (x.size : Int) ((x ++ y).size : Int) = y := by
 apply bytesOf_inj
 rw [bytesOf_cutS, bytesOf_append, cut_to _ _ _ (by rw [← bytesOf_length, bytesOf_append]; simp)]
 simp [← bytesOf_length]
theorem cutS_all (x : ByteArray) : cutS x 0 (x.size : Int) = x := by
 apply bytesOf_inj
 rw [bytesOf_cutS, cut_from]
 simp [← bytesOf_length]
theorem strEq_enc {x y : List Int} (hx : Valids x) (hy : Valids y) : strEq (enc x) (enc y) = decide (x = y) := by
 rw [strEq_eq]; congr 1; exact propext (enc_inj hx hy)
end Go.Proofs.YtmfgccjcnnlehaaDoorZF
namespace Go.Proofs.YtmfgccjcnnlehaaDoorZF
open Go
set_option linter.unusedVariables false
set_option linter.unusedSimpArgs false
def Asc (l : List Int) : Prop := ∀ b ∈ l, 0 ≤ b ∧ b < 128
theorem Asc.valids {l : List Int} (h : Asc l) : Valids l := fun b hb => by
 have := h b hb
 unfold Utf8.valid; simp; omega
theorem Asc.nil : Asc [] := fun b hb => by cases hb
theorem Asc.append {x y : List Int} (hx : Asc x) (hy : Asc y) : Asc (x ++ y) := fun b hb => (List.mem_append.1 hb).elim (hx b) (hy b)
theorem Asc.take {x : List Int} (hx : Asc x) (k : Nat) : Asc (x.take k) := fun b hb => hx b (List.mem_of_mem_take hb)
theorem Asc.drop {x : List Int} (hx : Asc x) (k : Nat) : Asc (x.drop k) := fun b hb => hx b (List.mem_of_mem_drop hb)
theorem Asc.sub {x y : List Int} (hx : Asc x) (h : ∀ b ∈ y, b ∈ x) : Asc y := fun b hb => hx b (h b hb)
theorem encode_asc {b : Int} (h : 0 ≤ b ∧ b < 128) : bytesOf (Utf8.encode b) = [b] := by
 obtain ⟨k, rfl⟩ := Int.eq_ofNat_of_zero_le h.1
 have hk : k < 128 := by omega
 have hv : Utf8.valid (k : Int) = true := by unfold Utf8.valid; simp; omega
 unfold Utf8.encode
 simp only [hv, if_true, Int.ofNat_eq_natCast, Int.toNat_natCast, hk]
 simp [bytesOf]
 omega
theorem bytes_enc : ∀ {l : List Int}, Asc l → bytesOf (enc l) = l
 | [], _ => rfl
 | b :: l, h => by
  show bytesOf (runesBytes (b :: l)) = _
  rw [runesBytes_cons, bytesOf_append, encode_asc (h b (by simp))]
  have : bytesOf (enc l) = l := bytes_enc fun c hc => h c (by simp [hc])
  show [b] ++ bytesOf (enc l) = _
  rw [this]; rfl
theorem Asc.eq {l : List Int} (h : Asc l) : strOfNums l = enc l := by
 apply bytesOf_inj
 rw [bytes_enc h, bytesOf_strOfNums fun b hb => by have := h b hb; omega]
theorem Asc.size {l : List Int} (h : Asc l) : (enc l).size = l.length := by rw [← bytesOf_length, bytes_enc h]
theorem Asc.byteAt {l : List Int} (h : Asc l) {i : Nat} (hi : i < l.length) : byteAt (enc l) (i : Int) = l[i] := by
 rw [byteAt_rd (by omega) (by rw [h.size]; omega), bytes_enc h, rd_at hi]
theorem Asc.bl {l : List Int} (h : Asc l) : bl (enc l) = l.map fun b => UInt8.ofNat b.toNat := by
 have := h.eq
 rw [← this]
 exact strOfNums_data l
end Go.Proofs.YtmfgccjcnnlehaaDoorZF
namespace Go.Proofs.YtmfgccjcnnlehaaDoorZF
open Go
set_option linter.unusedVariables false
set_option linter.unusedSimpArgs false
@[reducible] def Prt := Int × ByteArray
@[reducible] def Rp := Int × List Int
def emb (d : Rp) : Prt := (d.1, enc d.2)
def OkR (d : Rp) : Prop := (d.1 = -1 ∨ d.1 = 0 ∨ d.1 = 1) ∧ Valids d.2
theorem clean_ok (n : Nat) (a : ByteArray) (m : Nat) (h : a.size ≤ 70368744177664) : g14 n a (m : Int) = some (enc ((runesOf a).take m), ()) := by
 have hl := runesOf_length a
 dsimp only [g14, g14_1, g43, g43_1]
 rw [room46_ok h, Option.bind_some]
 have e : minI ((runesOf a).length : Int) (m : Int) = ((min (runesOf a).length m : Nat) : Int) := by unfold minI; split <;> omega
 dsimp only
 rw [e, bnd_ok (by omega) (by omega) (by omega), cut_from]
 congr 3
 rw [show (0 + (((min (runesOf a).length m : Nat) : Int) - 0)).toNat = min (runesOf a).length m by omega, Nat.min_comm, List.take_eq_take_iff]
 omega
theorem runesOk (n : Nat) (a : ByteArray) (h : a.size ≤ 70368744177664) : g43 n a = some (runesOf a, ()) := by
 dsimp only [g43, g43_1]; rw [room46_ok h]
theorem runesOk_enc (n : Nat) (x : List Int) (hx : Valids x) (h : (enc x).size ≤ 70368744177664) : g43 n (enc x) = some (x, ()) := by
 rw [runesOk n _ h, runes_enc hx]
theorem list_ok (n : Nat) (hn : Big ≤ n) (xs : List Rp) (hl : xs.length ≤ 1000000) (ho : ∀ y ∈ xs, OkR y) : g71 n (xs.map emb) = some (xs.map emb, ()) := by
 have hB : (4611686018427387904 : Nat) ≤ n := hn
 dsimp only [g71, g71_6, g71_1, g71_4, g71_3, g71_5]
 have e := range_fold (xs.map emb) (fun m s i => g71_3L n (fun x4 => some (x4, ())) m s (xs.map emb) ((xs.map emb).length : Int) (i : Int)) (fun s => some (s, ())) (fun s x => s ++ [x]) (fun i s => s.length = i)
  (fun m s i hi hs => by
   have hi' : i < xs.length := by simpa using hi
   refine ⟨?_, by simp [hs]⟩
   have hlm : (xs.map emb).length = xs.length := List.length_map _
   have hop := (ho xs[i] (by simp)).1
   have hg : (xs.map emb)[i] = emb xs[i] := List.getElem_map _
   rw [g71_3L.eq_2, g71_2, bdT (by omega), idx_ok (by omega) (by omega)]
   simp only [rd_at hi, rd_zero rfl]
   have hw : w64 (emb xs[i]).1 = (emb xs[i]).1 := w64_id (by show _ ≤ xs[i].1; omega) (by show xs[i].1 < _; omega)
   rw [hg, hw, roomy_ok (by simp only [List.length_cons, List.length_nil]; omega), w64_id (by omega) (by omega)]
   rfl)
  (fun m s hs => by rw [g71_3L.eq_2, g71_2, bdF (by omega)]) n [] (by simp; omega) rfl
 refine Eq.trans e ?_
 have hf : ∀ (l : List Prt) (s : List Prt), l.foldl (fun s x => s ++ [x]) s = s ++ l := by
  intro l
  induction l with
  | nil => intro s; simp
  | cons x l ih => intro s; rw [List.foldl_cons, ih]; simp
 rw [hf]; rfl
end Go.Proofs.YtmfgccjcnnlehaaDoorZF
namespace Go.Proofs.YtmfgccjcnnlehaaDoorZF
open Go
set_option linter.unusedVariables false
set_option linter.unusedSimpArgs false
def fitsB (x : Prt) : Bool := decide (x.2.size ≤ 2147483647)
theorem fits2_ok (n : Nat) (x : Prt) : g54 n x = some (fitsB x, ()) := by
 dsimp only [g54, g54_1]
 unfold fitsB
 by_cases h : (x.2.size : Int) > 2147483647
 ·rw [bdT h, decide_eq_false (by omega)]
 ·rw [bdF h, decide_eq_true (by omega)]
theorem fits_ok (n : Nat) (hn : Big ≤ n) (xs : List Prt) : (g24 n xs = some (true, ()) ∧ xs.length ≤ 2147483647 ∧ ∀ y ∈ xs, y.2.size ≤ 2147483647) ∨ g24 n xs = some (false, ()) := by
 dsimp only [g24, g24_6, g24_1]
 by_cases h : (xs.length : Int) > 2147483647
 ·rw [bdT h]; exact .inr rfl
 ·rw [bdF h]
  have hB : (4611686018427387904 : Nat) ≤ n := hn
  have h1 : ∀ m i (hi : i < xs.length), (∀ j (hj : j < i), (fun (_ : Nat) x => !fitsB x) j (xs[j]'(by omega)) = false) →
    g24_3L n (fun v2 => some (v2, ())) (g24_5 n (fun v2 => some (v2, ()))) (m + 1) xs (xs.length : Int) (i : Int) = if (fun (_ : Nat) x => !fitsB x) i xs[i] = true then (fun _ _ => some (false, ())) i hi else g24_3L n (fun v2 => some (v2, ())) (g24_5 n (fun v2 => some (v2, ()))) m xs (xs.length : Int) ((i + 1 : Nat) : Int) := by
   intro m i hi _
   rw [g24_3L.eq_2, g24_2, bdT (by omega), idx_ok (by omega) (by omega), rd_zero rfl, rd_at hi, fits2_ok, Option.bind_some]
   cases hfb : fitsB xs[i] with
   | true =>
    rw [if_neg (by simp [hfb])]
    show g24_3L n (fun v2 => some (v2, ())) (g24_5 n (fun v2 => some (v2, ()))) m xs (xs.length : Int) (w64 ((i : Int) + 1)) = _
    rw [w64_id (by omega) (by omega)]; rfl
   | false => rw [if_pos (by simp [hfb])]; rfl
  rcases range_find xs (fun m i => g24_3L n (fun v2 => some (v2, ())) (g24_5 n (fun v2 => some (v2, ()))) m xs (xs.length : Int) (i : Int)) (fun _ _ => some (false, ())) (some (true, ())) (fun _ x => !fitsB x) h1 (fun m _ => by rw [g24_3L.eq_2, g24_2, bdF (by omega)]; rfl) n (by omega) with ⟨i, hi, _, _, e⟩ | ⟨hall, e⟩
  ·exact .inr e
  ·refine .inl ⟨e, by omega, fun y hy => ?_⟩
   obtain ⟨i, hi, rfl⟩ := List.getElem_of_mem hy
   have := hall i hi
   simpa [fitsB] using this
def opOf (n : Int) : Int := if Int.tmod n 3 = 2 then -1 else if Int.tmod n 3 = -2 then 1 else Int.tmod n 3
theorem tmod3 (n : Int) : Int.tmod n 3 = -2 ∨ Int.tmod n 3 = -1 ∨ Int.tmod n 3 = 0 ∨ Int.tmod n 3 = 1 ∨ Int.tmod n 3 = 2 := by
 have h1 := Int.tmod_lt_of_pos n (show (0 : Int) < 3 by omega)
 have h2 := Int.lt_tmod_of_pos n (show (0 : Int) < 3 by omega)
 omega
theorem opOf_range (n : Int) : opOf n = -1 ∨ opOf n = 0 ∨ opOf n = 1 := by
 unfold opOf
 rcases tmod3 n with h | h | h | h | h <;> simp [h]
def partOf (y : Prt) : Rp := (opOf y.1, (runesOf y.2).take 30)
def partsOf (m : Nat) (xs : List Prt) : List Rp := (xs.take m).map partOf
theorem partsOf_ok (m : Nat) (xs : List Prt) : ∀ y ∈ partsOf m xs, OkR y ∧ y.2.length ≤ 30 := by
 intro y hy
 obtain ⟨z, _, rfl⟩ := List.mem_map.1 hy
 exact ⟨⟨opOf_range _, (runesOf_valid _).take _⟩, List.length_take_le _ _⟩
theorem partsOf_length (m : Nat) (xs : List Prt) : (partsOf m xs).length ≤ m := by simp [partsOf]; omega
theorem parted_ok (n : Nat) (hn : Big ≤ n) (xs : List Prt) (hl : xs.length ≤ 2147483647) (hs : ∀ y ∈ xs, y.2.size ≤ 2147483647) (m : Nat) (hm : m ≤ 1000000) : g36 n xs (m : Int) = some ((partsOf m xs).map emb, ()) := by
 have hB : (4611686018427387904 : Nat) ≤ n := hn
 dsimp only [g36, g36_6, g36_1, g36_4, g36_3, g36_5]
 have key : ∀ (d i g : Nat), min m xs.length - i = d → i ≤ min m xs.length → d < g → g36_3L n (fun x4 => some (x4, ())) g xs (m : Int) ((partsOf i xs).map emb) (i : Int) = some ((partsOf m xs).map emb, ()) := by
  intro d
  induction d with
  | zero =>
   intro i g hd hi hg
   obtain ⟨g, rfl⟩ : ∃ g', g = g' + 1 := ⟨g - 1, by omega⟩
   rw [g36_3L.eq_2, g36_2]
   have e : partsOf i xs = partsOf m xs := by unfold partsOf; congr 1; rw [List.take_eq_take_iff]; omega
   by_cases h : i < xs.length
   ·rw [bdT (by omega), bdF (by omega), e]
   ·rw [bdF (by omega), e]
  | succ d ih =>
   intro i g hd hi hg
   obtain ⟨g, rfl⟩ : ∃ g', g = g' + 1 := ⟨g - 1, by omega⟩
   have hi' : i < xs.length := by omega
   have := ih (i + 1) g (by omega) (by omega) (by omega)
   have hstep : (partsOf (i + 1) xs).map emb = (partsOf i xs).map emb ++ [(opOf xs[i].1, enc ((runesOf xs[i].2).take 30))] := by
    unfold partsOf
    rw [List.take_succ_eq_append_getElem hi', List.map_append, List.map_append]; rfl
   have hlen : ((partsOf i xs).map emb).length ≤ m := by rw [List.length_map]; have := partsOf_length i xs; omega
   have hsz := hs xs[i] (by simp)
   rw [g36_3L.eq_2, g36_2, bdT (by omega), bdT (by omega), idx_ok (by omega) (by omega)]
   simp only [rd_at hi']
   rw [show (30 : Int) = ((30 : Nat) : Int) from rfl, clean_ok n _ 30 (by omega)]
   simp only [Option.bind_some]
   have hw : w64 ((i : Int) + 1) = ((i + 1 : Nat) : Int) := by rw [w64_id (by omega) (by omega)]; omega
   rw [hw]
   rw [hstep] at this
   unfold opOf at this
   rcases tmod3 xs[i].1 with h | h | h | h | h
   all_goals
    rw [h] at this ⊢
    simp only [show ((-2 : Int) = 2) = False by simp, show ((-1 : Int) = 2) = False by simp, show ((0 : Int) = 2) = False by simp, show ((1 : Int) = 2) = False by simp, show ((-1 : Int) = -2) = False by simp, show ((0 : Int) = -2) = False by simp, show ((1 : Int) = -2) = False by simp, if_true, if_false, if_pos, if_neg, not_false_eq_true] at this
    simp only [show ((-2 : Int) == 2) = false from rfl, show ((-2 : Int) == -2) = true from rfl, show ((2 : Int) == 2) = true from rfl, show ((-1 : Int) == 2) = false from rfl, show ((-1 : Int) == -2) = false from rfl, show ((0 : Int) == 2) = false from rfl, show ((0 : Int) == -2) = false from rfl, show ((1 : Int) == 2) = false from rfl, show ((1 : Int) == -2) = false from rfl, cond_true, cond_false]
    rw [idx_ok (by omega) (by omega), roomy_ok (by simp only [List.length_append, List.length_cons, List.length_nil]; omega)]
    exact this
 exact key (min m xs.length) 0 n (by omega) (by omega) (by omega)
end Go.Proofs.YtmfgccjcnnlehaaDoorZF
namespace Go.Proofs.YtmfgccjcnnlehaaDoorZF
open Go
set_option linter.unusedVariables false
set_option linter.unusedSimpArgs false
def M (l : List Rp) : List Prt := l.map emb
theorem M_append (x y : List Rp) : M (x ++ y) = M x ++ M y := List.map_append
theorem M_cons (d : Rp) (x : List Rp) : M (d :: x) = (d.1, enc d.2) :: M x := rfl
theorem M_length (x : List Rp) : (M x).length = x.length := List.length_map _
theorem M_nil : M [] = [] := rfl
theorem rd_mid {α : Type} {X : List α} {d : α} {Y : List α} {i : Int} {z : α} (h : i = X.length) : rd (X ++ d :: Y) i z = d := by
 subst h; rw [rd_nat, List.getD_eq_getElem?_getD, List.getElem?_append_right (Nat.le_refl _)]; simp
theorem set_mid {α : Type} {X : List α} {d v : α} {Y : List α} {i : Nat} (h : i = X.length) : (X ++ d :: Y).set i v = X ++ v :: Y := by
 subst h; rw [List.set_append_right _ _ (Nat.le_refl _)]; simp
theorem cut_take {α : Type} (x : List α) (b : Int) : cut x 0 b = x.take b.toNat := cut_from x b
def Fits (n : Nat) : Prop := n ≤ 1000000000
theorem emb_size (d : Rp) : (emb d).2.size ≤ 4 * d.2.length := enc_size_le d.2
end Go.Proofs.YtmfgccjcnnlehaaDoorZF
namespace Go.Proofs.YtmfgccjcnnlehaaDoorZF
open Go
set_option linter.unusedVariables false
set_option linter.unusedSimpArgs false
theorem operation_ok (n : Nat) (v : Int) (h : v = -1 ∨ v = 0 ∨ v = 1) : g92 n v = some (v, ()) := by
 rcases h with rfl | rfl | rfl <;> rfl
theorem made_ok (n : Nat) (hn : Big ≤ n) (xs : List Rp) (hl : xs.length ≤ 1000000) (ho : ∀ y ∈ xs, OkR y) : g57 n (xs.map emb) = some (xs.map emb, ()) := by
 have hB : (4611686018427387904 : Nat) ≤ n := hn
 dsimp only [g57, g57_6, g57_1, g57_4, g57_3, g57_5]
 have e := range_fold (xs.map emb) (fun m s i => g57_3L n (fun x4 => some (x4, ())) m s (xs.map emb) ((xs.map emb).length : Int) (i : Int)) (fun s => some (s, ())) (fun s x => s ++ [x]) (fun i s => s.length = i)
  (fun m s i hi hs => by
   have hi' : i < xs.length := by simpa using hi
   refine ⟨?_, by simp [hs]⟩
   have hlm : (xs.map emb).length = xs.length := List.length_map _
   have hop := (ho xs[i] (by simp)).1
   have hg : (xs.map emb)[i] = emb xs[i] := List.getElem_map _
   rw [g57_3L.eq_2, g57_2, bdT (by omega), idx_ok (by omega) (by omega)]
   simp only [rd_at hi, rd_zero rfl]
   rw [hg, operation_ok n (emb xs[i]).1 hop, Option.bind_some, roomy_ok (by simp only [List.length_cons, List.length_nil]; omega), w64_id (by omega) (by omega)]
   rfl)
  (fun m s hs => by rw [g57_3L.eq_2, g57_2, bdF (by omega)]) n [] (by simp; omega) rfl
 refine Eq.trans e ?_
 have hf : ∀ (l : List Prt) (s : List Prt), l.foldl (fun s x => s ++ [x]) s = s ++ l := by
  intro l
  induction l with
  | nil => intro s; simp
  | cons x l ih => intro s; rw [List.foldl_cons, ih]; simp
 rw [hf]; rfl
end Go.Proofs.YtmfgccjcnnlehaaDoorZF
namespace Go.Proofs.YtmfgccjcnnlehaaDoorZF
open Go
set_option linter.unusedVariables false
set_option linter.unusedSimpArgs false
def srcR : List Rp → List Int
 | [] => []
 | d :: l => (if d.1 = 1 then [] else d.2) ++ srcR l
def tgtR : List Rp → List Int
 | [] => []
 | d :: l => (if d.1 = -1 then [] else d.2) ++ tgtR l
def edR : List Rp → Nat
 | [] => 0
 | d :: l => (if d.1 = 0 then 0 else d.2.length) + edR l
theorem srcR_append : ∀ x y, srcR (x ++ y) = srcR x ++ srcR y
 | [], y => rfl
 | d :: x, y => by simp [srcR, srcR_append x y]
theorem tgtR_append : ∀ x y, tgtR (x ++ y) = tgtR x ++ tgtR y
 | [], y => rfl
 | d :: x, y => by simp [tgtR, tgtR_append x y]
theorem edR_append : ∀ x y, edR (x ++ y) = edR x + edR y
 | [], y => by simp [edR]
 | d :: x, y => by simp [edR, edR_append x y]; omega
def allR (l : List Rp) : Nat := (l.map fun d => d.2.length).sum
theorem allR_nil : allR [] = 0 := rfl
theorem allR_cons (d : Rp) (l : List Rp) : allR (d :: l) = d.2.length + allR l := by simp [allR]
theorem allR_append (x y : List Rp) : allR (x ++ y) = allR x + allR y := by simp [allR]
theorem allR_mem {d : Rp} : ∀ {l : List Rp}, d ∈ l → d.2.length ≤ allR l
 | e :: l, h => by
  rw [allR_cons]
  rcases List.mem_cons.1 h with rfl | h
  ·omega
  ·have := allR_mem h; omega
theorem allR_take (l : List Rp) (i : Nat) : allR (l.take i) ≤ allR l := by
 have := allR_append (l.take i) (l.drop i)
 rw [List.take_append_drop] at this; omega
theorem srcR_valid : ∀ {l : List Rp}, (∀ y ∈ l, OkR y) → Valids (srcR l)
 | [], _ => Valids.nil
 | d :: l, h => by
  unfold srcR
  refine Valids.append ?_ (srcR_valid fun y hy => h y (by simp [hy]))
  split
  ·exact Valids.nil
  ·exact (h d (by simp)).2
theorem tgtR_valid : ∀ {l : List Rp}, (∀ y ∈ l, OkR y) → Valids (tgtR l)
 | [], _ => Valids.nil
 | d :: l, h => by
  unfold tgtR
  refine Valids.append ?_ (tgtR_valid fun y hy => h y (by simp [hy]))
  split
  ·exact Valids.nil
  ·exact (h d (by simp)).2
theorem srcR_le : ∀ l : List Rp, (srcR l).length ≤ allR l
 | [] => Nat.le_refl _
 | d :: l => by have := srcR_le l; rw [allR_cons]; unfold srcR; split <;> simp <;> omega
theorem tgtR_le : ∀ l : List Rp, (tgtR l).length ≤ allR l
 | [] => Nat.le_refl _
 | d :: l => by have := tgtR_le l; rw [allR_cons]; unfold tgtR; split <;> simp <;> omega
theorem edR_le : ∀ l : List Rp, edR l ≤ allR l
 | [] => Nat.le_refl _
 | d :: l => by have := edR_le l; rw [allR_cons]; unfold edR; split <;> omega
theorem source_ok (n : Nat) (hn : Big ≤ n) (xs : List Rp) (hl : xs.length ≤ 1000000000) (ha : allR xs ≤ 1000000000) : g40 n (xs.map emb) = some (enc (srcR xs), ()) := by
 have hB : (4611686018427387904 : Nat) ≤ n := hn
 have key : ∀ (d i m : Nat), xs.length - i = d → i ≤ xs.length → d < m → g40_3L n (fun x => some (x, ())) m (enc (srcR (xs.take i))) (xs.map emb) ((xs.map emb).length : Int) (i : Int) = some (enc (srcR xs), ()) := by
  intro d
  have hlm : (xs.map emb).length = xs.length := List.length_map _
  induction d with
  | zero =>
   intro i m hd hi hm
   obtain ⟨m, rfl⟩ : ∃ m', m = m' + 1 := ⟨m - 1, by omega⟩
   rw [g40_3L.eq_2, g40_2, bdF (by omega), List.take_of_length_le (by omega)]
  | succ d ih =>
   intro i m hd hi hm
   obtain ⟨m, rfl⟩ : ∃ m', m = m' + 1 := ⟨m - 1, by omega⟩
   have hi' : i < xs.length := by omega
   have hI : i < (xs.map emb).length := by omega
   have := ih (i + 1) m (by omega) (by omega) (by omega)
   have hs : srcR (xs.take (i + 1)) = srcR (xs.take i) ++ (if xs[i].1 = 1 then [] else xs[i].2) := by
    rw [List.take_succ_eq_append_getElem hi', srcR_append]; simp [srcR]
   have hsz1 := enc_size_le (srcR (xs.take i))
   have hsz2 := enc_size_le xs[i].2
   have hq1 := srcR_le (xs.take i)
   have hq2 := allR_take xs i
   have hq3 := allR_mem (List.getElem_mem hi')
   rw [g40_3L.eq_2, g40_2, bdT (by omega), idx_ok (by omega) (by omega)]
   simp only [rd_at hI, rd_zero rfl, List.getElem_map]
   rw [hs] at this
   have hw : w64 ((i : Int) + 1) = ((i + 1 : Nat) : Int) := by rw [w64_id (by omega) (by omega)]; omega
   rw [hw]
   by_cases h : xs[i].1 = 1
   ·rw [if_pos h, List.append_nil] at this
    rw [biF (by show (xs[i].1 != 1) = false; simp [h])]
    exact this
   ·rw [if_neg h, enc_append] at this
    rw [biT (by show (xs[i].1 != 1) = true; simp [h]), roomy_ok (by show _ + (enc xs[i].2).size ≤ _; omega)]
    exact this
 have := key xs.length 0 n (by omega) (Nat.zero_le _) (by omega)
 exact this
theorem target_ok (n : Nat) (hn : Big ≤ n) (xs : List Rp) (hl : xs.length ≤ 1000000000) (ha : allR xs ≤ 1000000000) : g67 n (xs.map emb) = some (enc (tgtR xs), ()) := by
 have hB : (4611686018427387904 : Nat) ≤ n := hn
 have key : ∀ (d i m : Nat), xs.length - i = d → i ≤ xs.length → d < m → g67_3L n (fun x => some (x, ())) m (enc (tgtR (xs.take i))) (xs.map emb) ((xs.map emb).length : Int) (i : Int) = some (enc (tgtR xs), ()) := by
  intro d
  have hlm : (xs.map emb).length = xs.length := List.length_map _
  induction d with
  | zero =>
   intro i m hd hi hm
   obtain ⟨m, rfl⟩ : ∃ m', m = m' + 1 := ⟨m - 1, by omega⟩
   rw [g67_3L.eq_2, g67_2, bdF (by omega), List.take_of_length_le (by omega)]
  | succ d ih =>
   intro i m hd hi hm
   obtain ⟨m, rfl⟩ : ∃ m', m = m' + 1 := ⟨m - 1, by omega⟩
   have hi' : i < xs.length := by omega
   have hI : i < (xs.map emb).length := by omega
   have := ih (i + 1) m (by omega) (by omega) (by omega)
   have hs : tgtR (xs.take (i + 1)) = tgtR (xs.take i) ++ (if xs[i].1 = -1 then [] else xs[i].2) := by
    rw [List.take_succ_eq_append_getElem hi', tgtR_append]; simp [tgtR]
   have hsz1 := enc_size_le (tgtR (xs.take i))
   have hsz2 := enc_size_le xs[i].2
   have hq1 := tgtR_le (xs.take i)
   have hq2 := allR_take xs i
   have hq3 := allR_mem (List.getElem_mem hi')
   rw [g67_3L.eq_2, g67_2, bdT (by omega), idx_ok (by omega) (by omega)]
   simp only [rd_at hI, rd_zero rfl, List.getElem_map]
   rw [hs] at this
   have hw : w64 ((i : Int) + 1) = ((i + 1 : Nat) : Int) := by rw [w64_id (by omega) (by omega)]; omega
   rw [hw]
   by_cases h : xs[i].1 = -1
   ·rw [if_pos h, List.append_nil] at this
    rw [biF (by show (xs[i].1 != -1) = false; simp [h])]
    exact this
   ·rw [if_neg h, enc_append] at this
    rw [biT (by show (xs[i].1 != -1) = true; simp [h]), roomy_ok (by show _ + (enc xs[i].2).size ≤ _; omega)]
    exact this
 have := key xs.length 0 n (by omega) (Nat.zero_le _) (by omega)
 exact this
end Go.Proofs.YtmfgccjcnnlehaaDoorZF
namespace Go.Proofs.YtmfgccjcnnlehaaDoorZF
open Go
set_option linter.unusedVariables false
set_option linter.unusedSimpArgs false
def cpl : List Int → List Int → Nat
 | a :: x, b :: y => if a = b then cpl x y + 1 else 0
 | _, _ => 0
def csl (x y : List Int) : Nat := cpl x.reverse y.reverse
theorem cpl_le_left : ∀ x y, cpl x y ≤ x.length
 | [], _ => by simp [cpl]
 | a :: x, [] => by simp [cpl]
 | a :: x, b :: y => by have := cpl_le_left x y; simp only [cpl]; split <;> simp <;> omega
theorem cpl_le_right : ∀ x y, cpl x y ≤ y.length
 | [], _ => by simp [cpl]
 | a :: x, [] => by simp [cpl]
 | a :: x, b :: y => by have := cpl_le_right x y; simp only [cpl]; split <;> simp <;> omega
theorem csl_le_left (x y) : csl x y ≤ x.length := by have := cpl_le_left x.reverse y.reverse; simpa [csl] using this
theorem csl_le_right (x y) : csl x y ≤ y.length := by have := cpl_le_right x.reverse y.reverse; simpa [csl] using this
theorem drop_cons (x : List Int) (n : Nat) (h : n < x.length) : x.drop n = x.getD n 0 :: x.drop (n + 1) := by
 rw [List.drop_eq_getElem_cons h]; simp [List.getD, List.getElem?_eq_getElem h]
theorem cpl_at (x y : List Int) (n : Nat) (hx : n < x.length) (hy : n < y.length) : cpl (x.drop n) (y.drop n) = if x.getD n 0 = y.getD n 0 then cpl (x.drop (n + 1)) (y.drop (n + 1)) + 1 else 0 := by
 rw [drop_cons x n hx, drop_cons y n hy]; rfl
theorem cpl_end (x y : List Int) (n : Nat) (h : x.length ≤ n ∨ y.length ≤ n) : cpl (x.drop n) (y.drop n) = 0 := by
 rcases h with h | h
 ·rw [List.drop_eq_nil_of_le h]; rfl
 ·rw [List.drop_eq_nil_of_le h]; cases x.drop n <;> rfl
theorem rev_getD (x : List Int) (n : Nat) (h : n < x.length) : x.reverse.getD n 0 = x.getD (x.length - 1 - n) 0 := by
 simp [List.getD, List.getElem?_reverse h]
theorem cpl_take : ∀ x y : List Int, x.take (cpl x y) = y.take (cpl x y)
 | [], y => by simp [cpl]
 | a :: x, [] => by simp [cpl]
 | a :: x, b :: y => by
  simp only [cpl]
  split
  ·rename_i h; subst h; simp [cpl_take x y]
  ·simp
theorem cpl_head : ∀ {x y : List Int} {a b : Int} {x' y' : List Int}, x.drop (cpl x y) = a :: x' → y.drop (cpl x y) = b :: y' → a ≠ b
 | [], y, a, b, x', y', h, _ => by simp [cpl] at h
 | c :: x, [], a, b, x', y', _, h => by simp [cpl] at h
 | c :: x, d :: y, a, b, x', y', h, k => by
  simp only [cpl] at h k
  split at h
  ·rename_i e
   rw [if_pos e] at k
   simp only [List.drop_succ_cons] at h k
   exact cpl_head h k
  ·rename_i e
   rw [if_neg e] at k
   simp only [List.drop_zero, List.cons.injEq] at h k
   rw [← h.1, ← k.1]; exact e
theorem csl_drop (x y : List Int) : x.drop (x.length - csl x y) = y.drop (y.length - csl x y) := by
 have := congrArg List.reverse (cpl_take x.reverse y.reverse)
 rw [List.reverse_take, List.reverse_take] at this
 simpa [csl] using this
theorem cpl_comm : ∀ x y : List Int, cpl x y = cpl y x
 | [], [] => rfl
 | [], _ :: _ => rfl
 | _ :: _, [] => rfl
 | a :: x, b :: y => by
  simp only [cpl]
  by_cases h : a = b
  ·rw [if_pos h, if_pos h.symm, cpl_comm x y]
  ·rw [if_neg h, if_neg (fun e => h e.symm)]
theorem csl_comm (x y : List Int) : csl x y = csl y x := cpl_comm _ _
end Go.Proofs.YtmfgccjcnnlehaaDoorZF
namespace Go.Proofs.YtmfgccjcnnlehaaDoorZF
open Go
set_option linter.unusedVariables false
set_option linter.unusedSimpArgs false
theorem suffix_loop {β : Type} (n : Nat) (k : Int → Option β) (x y : List Int) (hx : x.length ≤ 1000000000000) (hy : y.length ≤ 1000000000000) : ∀ (d i m : Nat), x.length - i = d → d < m → i ≤ x.length → i ≤ y.length →
  g152_3L n k m x y ((x.length : Int) - i) ((y.length : Int) - i) (i : Int) = k ((i + cpl (x.reverse.drop i) (y.reverse.drop i) : Nat) : Int) := by
 intro d
 induction d using Nat.strongRecOn with
 | _ d ih =>
  intro i m hd hm hix hiy
  obtain ⟨m, rfl⟩ : ∃ m', m = m' + 1 := ⟨m - 1, by omega⟩
  rw [g152_3L.eq_2, g152_2]
  rw [w64_id (n := (x.length : Int) - i - 1) (by omega) (by omega), w64_id (n := (y.length : Int) - i - 1) (by omega) (by omega)]
  by_cases h : i < x.length
  ·rw [bdF (by omega)]
   by_cases h2 : i < y.length
   ·rw [bdF (by omega), idx_ok (by omega) (by omega), idx_ok (by omega) (by omega)]
    rw [show (x.length : Int) - i - 1 = ((x.length - 1 - i : Nat) : Int) by omega, show (y.length : Int) - i - 1 = ((y.length - 1 - i : Nat) : Int) by omega, rd_nat, rd_nat, cpl_at _ _ i (by simpa using h) (by simpa using h2), rev_getD x i h, rev_getD y i h2]
    by_cases e : x.getD (x.length - 1 - i) 0 = y.getD (y.length - 1 - i) 0
    ·rw [if_pos e, biF (by rw [e]; simp), w64_id (by omega) (by omega)]
     have := ih (d - 1) (by omega) (i + 1) m (by omega) (by omega) (by omega) (by omega)
     rw [show (x.length : Int) - ((i + 1 : Nat) : Int) = ((x.length - 1 - i : Nat) : Int) by omega, show (y.length : Int) - ((i + 1 : Nat) : Int) = ((y.length - 1 - i : Nat) : Int) by omega] at this
     rw [show ((i : Int) + 1) = ((i + 1 : Nat) : Int) by omega, this]
     congr 2; omega
    ·rw [if_neg e, biT (by simpa using e)]; rfl
   ·rw [bdT (by omega), cpl_end _ _ i (by simp; omega)]; rfl
  ·rw [bdT (by omega), cpl_end _ _ i (by simp; omega)]; rfl
theorem suffix_ok (n : Nat) (hn : Big ≤ n) (x y : List Int) (hx : x.length ≤ 1000000000000) (hy : y.length ≤ 1000000000000) : g152 n x y = some ((csl x y : Int), ()) := by
 have := suffix_loop n (fun v => some (v, ())) x y hx hy x.length 0 n (by omega) (by unfold Big at hn; omega) (by omega) (by omega)
 simp only [List.drop_zero, Nat.zero_add, Int.natCast_zero, Int.sub_zero] at this
 exact this
end Go.Proofs.YtmfgccjcnnlehaaDoorZF
namespace Go.Proofs.YtmfgccjcnnlehaaDoorZF
open Go
set_option linter.unusedVariables false
set_option linter.unusedSimpArgs false
def delsR : List Rp → List Int
 | [] => []
 | d :: l => (if d.1 = -1 then d.2 else []) ++ delsR l
def inssR : List Rp → List Int
 | [] => []
 | d :: l => (if d.1 = 1 then d.2 else []) ++ inssR l
def cdR : List Rp → Nat
 | [] => 0
 | d :: l => (if d.1 = -1 then 1 else 0) + cdR l
def ciR : List Rp → Nat
 | [] => 0
 | d :: l => (if d.1 = 1 then 1 else 0) + ciR l
theorem delsR_append : ∀ x y, delsR (x ++ y) = delsR x ++ delsR y
 | [], y => rfl
 | d :: x, y => by simp [delsR, delsR_append x y]
theorem inssR_append : ∀ x y, inssR (x ++ y) = inssR x ++ inssR y
 | [], y => rfl
 | d :: x, y => by simp [inssR, inssR_append x y]
theorem cdR_append : ∀ x y, cdR (x ++ y) = cdR x + cdR y
 | [], y => by simp [cdR]
 | d :: x, y => by simp [cdR, cdR_append x y]; omega
theorem ciR_append : ∀ x y, ciR (x ++ y) = ciR x + ciR y
 | [], y => by simp [ciR]
 | d :: x, y => by simp [ciR, ciR_append x y]; omega
def Eds (P : List Rp) : Prop := ∀ d ∈ P, d.1 = -1 ∨ d.1 = 1
theorem cd_ci : ∀ {P : List Rp}, Eds P → cdR P + ciR P = P.length
 | [], _ => rfl
 | d :: P, h => by
  have ih := cd_ci (P := P) fun e he => h e (by simp [he])
  rcases h d (by simp) with hd | hd <;> simp [cdR, ciR, hd] <;> omega
theorem dels_le : ∀ P : List Rp, (delsR P).length + (inssR P).length ≤ edR P
 | [] => Nat.le_refl _
 | d :: P => by
  have ih := dels_le P
  simp only [delsR, inssR, edR, List.length_append]
  by_cases h1 : d.1 = -1
  ·rw [if_pos h1, if_neg (by omega), if_neg (by omega)]; simp; omega
  ·rw [if_neg h1]
   by_cases h2 : d.1 = 1
   ·rw [if_pos h2, if_neg (by omega)]; simp; omega
   ·rw [if_neg h2]; simp; split <;> omega
theorem dels_nil : ∀ {P : List Rp}, cdR P = 0 → delsR P = []
 | [], _ => rfl
 | d :: P, h => by
  unfold cdR at h
  unfold delsR
  split at h
  ·omega
  ·rename_i hd; rw [if_neg hd, dels_nil (by omega)]; rfl
theorem inss_nil : ∀ {P : List Rp}, ciR P = 0 → inssR P = []
 | [], _ => rfl
 | d :: P, h => by
  unfold ciR at h
  unfold inssR
  split at h
  ·omega
  ·rename_i hd; rw [if_neg hd, inss_nil (by omega)]; rfl
def pushE (u : List Int) : List Rp → List Rp
 | (k, s) :: A => if k = 0 then (0, s ++ u) :: A else (0, u) :: (k, s) :: A
 | [] => [(0, u)]
structure Fac where
 A : List Rp
 td : List Int
 ti : List Int
 t : List Int
def fac (A : List Rp) (td ti t : List Int) : Fac :=
 let c := cpl ti td
 let s := csl (ti.drop c) (td.drop c)
 ⟨if c = 0 then A else pushE (ti.take c) A, (td.drop c).take ((td.drop c).length - s), (ti.drop c).take ((ti.drop c).length - s), (ti.drop c).drop ((ti.drop c).length - s) ++ t⟩
def stepE (A P : List Rp) (t : List Int) : List Rp :=
 if 1 < P.length then
  if cdR P = 0 then (0, t) :: (1, inssR P) :: A
  else if ciR P = 0 then (0, t) :: (-1, delsR P) :: A
  else let f := fac A (delsR P) (inssR P) t; (0, f.t) :: (1, f.ti) :: (-1, f.td) :: f.A
 else if P = [] then pushE t A
 else (0, t) :: (P.reverse ++ A)
def run1 : List Rp → List Rp → List Rp → List Rp × List Rp
 | A, P, [] => (A, P)
 | A, P, d :: R => if d.1 = 0 then run1 (stepE A P d.2) [] R else run1 A (P ++ [d]) R
def chop : List Rp → List Rp
 | (k, s) :: A => if s = [] then A else (k, s) :: A
 | [] => []
def join1 (x : List Rp) : List Rp := (chop (stepE (run1 [] [] x).1 (run1 [] [] x).2 [])).reverse
def slide : List Rp → List Rp → Bool → List Rp × Bool
 | A, p :: c :: q :: R, ch =>
  if p.1 = 0 ∧ q.1 = 0 then
   if p.2 <:+ c.2 then slide ((c.1, p.2 ++ c.2.take (c.2.length - p.2.length)) :: A) ((q.1, p.2 ++ q.2) :: R) true
   else if q.2 <+: c.2 then slide ((p.1, p.2 ++ q.2) :: A) ((c.1, c.2.drop q.2.length ++ q.2) :: R) true
   else slide (p :: A) (c :: q :: R) ch
  else slide (p :: A) (c :: q :: R) ch
 | A, R, ch => (A.reverse ++ R, ch)
termination_by _ R _ => R.length
def phi (x : List Rp) : Nat := edR x + x.length
theorem phi_append (x y : List Rp) : phi (x ++ y) = phi x + phi y := by unfold phi; rw [edR_append, List.length_append]; omega
theorem edR_reverse : ∀ x : List Rp, edR x.reverse = edR x
 | [] => rfl
 | d :: x => by rw [List.reverse_cons, edR_append, edR_reverse x]; simp [edR]; omega
theorem phi_reverse (x : List Rp) : phi x.reverse = phi x := by unfold phi; rw [edR_reverse, List.length_reverse]
theorem phi_cons (d : Rp) (x : List Rp) : phi (d :: x) = (if d.1 = 0 then 0 else d.2.length) + 1 + phi x := by unfold phi; simp only [edR, List.length_cons]; omega
theorem edR_pushE (u : List Int) : ∀ A : List Rp, edR (pushE u A) = edR A
 | [] => rfl
 | (k, s) :: A => by
  rw [pushE]
  split
  ·rename_i h; subst h; simp [edR]
  ·simp [edR]
theorem phi_pushE (u : List Int) : ∀ A : List Rp, phi (pushE u A) ≤ phi A + 1 := fun A => by
 unfold phi; rw [edR_pushE]
 cases A with
 | nil => simp [pushE]
 | cons d A => obtain ⟨k, s⟩ := d; rw [pushE]; split <;> simp <;> omega
def Hd (A : List Rp) : Prop := A = [] ∨ ∃ s A', A = (0, s) :: A'
theorem phi_pushE_hd (u : List Int) {A : List Rp} (h : Hd A) (hA : A ≠ []) : phi (pushE u A) = phi A := by
 obtain ⟨s, A', rfl⟩ := h.resolve_left hA
 simp [pushE, phi, edR]
theorem edR_fac (A : List Rp) (td ti t : List Int) : edR (fac A td ti t).A = edR A := by
 unfold fac; simp only; split
 ·rfl
 ·exact edR_pushE _ _
theorem phi_stepE {A P : List Rp} (hP : Eds P) (t : List Int) : phi (stepE A P t) ≤ phi A + phi P + 1 := by
 have hd := dels_le P
 have hc := cd_ci hP
 unfold stepE
 by_cases h1 : 1 < P.length
 ·rw [if_pos h1]
  by_cases h2 : cdR P = 0
  ·rw [if_pos h2, phi_cons, phi_cons]; simp only [phi]; simp; omega
  ·rw [if_neg h2]
   by_cases h3 : ciR P = 0
   ·rw [if_pos h3, phi_cons, phi_cons]; simp only [phi]; simp; omega
   ·rw [if_neg h3]
    simp only [phi_cons]
    have hA : phi (fac A (delsR P) (inssR P) t).A ≤ phi A + min 1 (cpl (inssR P) (delsR P)) := by
     unfold fac; simp only
     by_cases hc0 : cpl (inssR P) (delsR P) = 0
     ·rw [if_pos hc0]; omega
     ·rw [if_neg hc0]
      have := phi_pushE ((inssR P).take (cpl (inssR P) (delsR P))) A
      omega
    have hl := cpl_le_left (inssR P) (delsR P)
    have hr := cpl_le_right (inssR P) (delsR P)
    have e1 : (fac A (delsR P) (inssR P) t).td.length ≤ (delsR P).length - cpl (inssR P) (delsR P) := by unfold fac; simp only [List.length_take, List.length_drop]; omega
    have e2 : (fac A (delsR P) (inssR P) t).ti.length ≤ (inssR P).length - cpl (inssR P) (delsR P) := by unfold fac; simp only [List.length_take, List.length_drop]; omega
    simp only [phi] at hA ⊢
    simp
    omega
 ·rw [if_neg h1]
  by_cases h2 : P = []
  ·rw [if_pos h2]
   have := phi_pushE t A
   omega
  ·rw [if_neg h2, phi_cons, phi_append, phi_reverse]; simp; omega
def Ops (x : List Rp) : Prop := ∀ d ∈ x, d.1 = -1 ∨ d.1 = 0 ∨ d.1 = 1
theorem Eds.snoc {P : List Rp} {d : Rp} (hP : Eds P) (h : d.1 = -1 ∨ d.1 = 0 ∨ d.1 = 1) (h0 : d.1 ≠ 0) : Eds (P ++ [d]) := fun e he => by
 rcases List.mem_append.1 he with he | he
 ·exact hP e he
 ·rw [List.mem_singleton.1 he]; omega
theorem Eds.nil : Eds [] := fun e he => by cases he
theorem Ops.cons {d : Rp} {x : List Rp} (h : Ops (d :: x)) : (d.1 = -1 ∨ d.1 = 0 ∨ d.1 = 1) ∧ Ops x := ⟨h d (by simp), fun e he => h e (by simp [he])⟩
theorem phi_run1 : ∀ (R A P : List Rp), Eds P → Ops R → phi (run1 A P R).1 + phi (run1 A P R).2 ≤ phi A + phi P + phi R ∧ Eds (run1 A P R).2
 | [], A, P, hP, _ => ⟨by simp [run1, phi, edR], hP⟩
 | d :: R, A, P, hP, hR => by
  rw [run1]
  split
  ·rename_i h0
   have h1 := phi_run1 R (stepE A P d.2) [] Eds.nil hR.cons.2
   have h2 := phi_stepE (A := A) hP d.2
   refine ⟨?_, h1.2⟩
   have h1 := h1.1
   rw [phi_cons, if_pos h0]
   have : phi [] = 0 := rfl
   omega
  ·rename_i h0
   have h1 := phi_run1 R A (P ++ [d]) (hP.snoc hR.cons.1 h0) hR.cons.2
   refine ⟨?_, h1.2⟩
   have h1 := h1.1
   rw [phi_append] at h1
   have : phi [d] = (if d.1 = 0 then 0 else d.2.length) + 1 := by rw [phi_cons]; rfl
   rw [phi_cons]
   omega
theorem phi_chop_le : ∀ A : List Rp, phi (chop A) ≤ phi A
 | [] => Nat.le_refl _
 | (k, s) :: A => by rw [chop]; split <;> simp only [phi_cons] <;> omega
theorem phi_chop_stepE {A P : List Rp} (hP : Eds P) : phi (chop (stepE A P [])) ≤ phi A + phi P := by
 have hd := dels_le P
 have hc := cd_ci hP
 unfold stepE
 by_cases h1 : 1 < P.length
 ·rw [if_pos h1]
  by_cases h2 : cdR P = 0
  ·rw [if_pos h2, chop, if_pos rfl, phi_cons]; simp only [phi]; simp; omega
  ·rw [if_neg h2]
   by_cases h3 : ciR P = 0
   ·rw [if_pos h3, chop, if_pos rfl, phi_cons]; simp only [phi]; simp; omega
   ·rw [if_neg h3]
    simp only
    have hA : phi (fac A (delsR P) (inssR P) []).A ≤ phi A + min 1 (cpl (inssR P) (delsR P)) := by
     unfold fac; simp only
     by_cases hc0 : cpl (inssR P) (delsR P) = 0
     ·rw [if_pos hc0]; omega
     ·rw [if_neg hc0]
      have := phi_pushE ((inssR P).take (cpl (inssR P) (delsR P))) A
      omega
    have hl := cpl_le_left (inssR P) (delsR P)
    have hr := cpl_le_right (inssR P) (delsR P)
    have hl2 := csl_le_left ((inssR P).drop (cpl (inssR P) (delsR P))) ((delsR P).drop (cpl (inssR P) (delsR P)))
    have hr2 := csl_le_right ((inssR P).drop (cpl (inssR P) (delsR P))) ((delsR P).drop (cpl (inssR P) (delsR P)))
    simp only [List.length_drop] at hl2 hr2
    have e1 : (fac A (delsR P) (inssR P) []).td.length + csl ((inssR P).drop (cpl (inssR P) (delsR P))) ((delsR P).drop (cpl (inssR P) (delsR P))) = (delsR P).length - cpl (inssR P) (delsR P) := by unfold fac; simp only [List.length_take, List.length_drop]; omega
    have e2 : (fac A (delsR P) (inssR P) []).ti.length + csl ((inssR P).drop (cpl (inssR P) (delsR P))) ((delsR P).drop (cpl (inssR P) (delsR P))) = (inssR P).length - cpl (inssR P) (delsR P) := by unfold fac; simp only [List.length_take, List.length_drop]; omega
    have e3 : (fac A (delsR P) (inssR P) []).t.length = csl ((inssR P).drop (cpl (inssR P) (delsR P))) ((delsR P).drop (cpl (inssR P) (delsR P))) := by unfold fac; simp only [List.length_append, List.length_drop, List.length_nil]; omega
    rw [chop]
    split
    ·simp only [phi_cons]; simp only [phi] at hA ⊢; simp; omega
    ·rename_i hne
     have : 1 ≤ (fac A (delsR P) (inssR P) []).t.length := by
      cases hq : (fac A (delsR P) (inssR P) []).t with
      | nil => exact absurd hq hne
      | cons _ _ => simp
     simp only [phi_cons]; simp only [phi] at hA ⊢; simp; omega
 ·rw [if_neg h1]
  by_cases h2 : P = []
  ·rw [if_pos h2]
   subst h2
   cases A with
   | nil => simp [pushE, chop, phi, edR]
   | cons d A =>
    obtain ⟨k, s⟩ := d
    rw [pushE]
    split
    ·rename_i h; subst h
     have := phi_chop_le ((0, s ++ []) :: A)
     rw [List.append_nil] at this ⊢
     exact Nat.le_trans this (Nat.le_add_right _ _)
    ·rw [chop, if_pos rfl]; exact Nat.le_add_right _ _
  ·rw [if_neg h2, chop, if_pos rfl, phi_append, phi_reverse]; omega
theorem phi_join1 {x : List Rp} (hx : Ops x) : phi (join1 x) ≤ phi x := by
 unfold join1
 rw [phi_reverse]
 have h := phi_run1 x [] [] Eds.nil hx
 have h1 := phi_chop_stepE (A := (run1 [] [] x).1) h.2
 have : phi [] = 0 := rfl
 omega
theorem phi_slide : ∀ (k : Nat) (A R : List Rp) (ch : Bool), R.length = k → phi (slide A R ch).1 + (if (slide A R ch).2 = true ∧ ch = false then 1 else 0) ≤ phi A + phi R := by
 intro k
 induction k using Nat.strongRecOn with
 | _ k ih =>
  intro A R ch hk
  match R, hk with
  | [], hk => unfold slide; rw [phi_append, phi_reverse]; cases ch <;> simp
  | [p], hk => unfold slide; rw [phi_append, phi_reverse]; cases ch <;> simp
  | [p, c], hk => unfold slide; rw [phi_append, phi_reverse]; cases ch <;> simp
  | p :: c :: q :: R, hk =>
   rw [slide]
   have e : phi (p :: c :: q :: R) = (if p.1 = 0 then 0 else p.2.length) + 1 + ((if c.1 = 0 then 0 else c.2.length) + 1 + ((if q.1 = 0 then 0 else q.2.length) + 1 + phi R)) := by simp only [phi_cons]
   have skip : phi (slide (p :: A) (c :: q :: R) ch).1 + (if (slide (p :: A) (c :: q :: R) ch).2 = true ∧ ch = false then 1 else 0) ≤ phi A + phi (p :: c :: q :: R) := by
    have := ih (c :: q :: R).length (by rw [← hk]; simp) (p :: A) (c :: q :: R) ch rfl
    simp only [phi_cons] at this ⊢
    omega
   split
   ·rename_i h
    obtain ⟨h1, h2⟩ := h
    rw [e, if_pos h1, if_pos h2]
    split
    ·rename_i hs
     have hl := hs.length_le
     have := ih (((q.1, p.2 ++ q.2) :: R) : List Rp).length (by rw [← hk]; simp) ((c.1, p.2 ++ c.2.take (c.2.length - p.2.length)) :: A) ((q.1, p.2 ++ q.2) :: R) true rfl
     simp only [phi_cons] at this
     rw [if_pos h2] at this
     simp only [Bool.true_eq_false, and_false, if_false, Nat.add_zero, List.length_append, List.length_take] at this
     have hb : (if (slide ((c.1, p.2 ++ c.2.take (c.2.length - p.2.length)) :: A) ((q.1, p.2 ++ q.2) :: R) true).2 = true ∧ ch = false then 1 else 0) ≤ 1 := by split <;> omega
     have hm : (if c.1 = 0 then 0 else p.2.length + min (c.2.length - p.2.length) c.2.length) = (if c.1 = 0 then 0 else c.2.length) := by split <;> omega
     rw [hm] at this
     omega
    ·split
     ·rename_i hs
      have hl := hs.length_le
      have := ih (((c.1, c.2.drop q.2.length ++ q.2) :: R) : List Rp).length (by rw [← hk]; simp) ((p.1, p.2 ++ q.2) :: A) ((c.1, c.2.drop q.2.length ++ q.2) :: R) true rfl
      simp only [phi_cons] at this
      rw [if_pos h1] at this
      simp only [Bool.true_eq_false, and_false, if_false, Nat.add_zero, List.length_append, List.length_drop] at this
      have hb : (if (slide ((p.1, p.2 ++ q.2) :: A) ((c.1, c.2.drop q.2.length ++ q.2) :: R) true).2 = true ∧ ch = false then 1 else 0) ≤ 1 := by split <;> omega
      have hm : (if c.1 = 0 then 0 else c.2.length - q.2.length + q.2.length) = (if c.1 = 0 then 0 else c.2.length) := by split <;> omega
      rw [hm] at this
      omega
     ·rw [if_pos h1, if_pos h2] at e; rw [← e]; exact skip
   ·exact skip
def mergeN : Nat → List Rp → List Rp
 | 0, x => x
 | k + 1, x => if (slide [] (join1 x) false).2 = true then mergeN k (slide [] (join1 x) false).1 else (slide [] (join1 x) false).1
def merge (x : List Rp) : List Rp := mergeN (phi x + 1) x
end Go.Proofs.YtmfgccjcnnlehaaDoorZF
namespace Go.Proofs.YtmfgccjcnnlehaaDoorZF
open Go
set_option linter.unusedVariables false
set_option linter.unusedSimpArgs false
def Ok (x : List Rp) : Prop := ∀ d ∈ x, OkR d
theorem Ok.nil : Ok [] := fun d h => by cases h
theorem Ok.append {x y : List Rp} (h : Ok x) (k : Ok y) : Ok (x ++ y) := fun d hd => (List.mem_append.1 hd).elim (h d) (k d)
theorem Ok.cons' {d : Rp} {x : List Rp} (h : OkR d) (k : Ok x) : Ok (d :: x) := fun e he => (List.mem_cons.1 he).elim (fun e => by rw [e]; exact h) (k e)
theorem Ok.of_append {x y : List Rp} (h : Ok (x ++ y)) : Ok x ∧ Ok y := ⟨fun d hd => h d (List.mem_append.2 (.inl hd)), fun d hd => h d (List.mem_append.2 (.inr hd))⟩
theorem Ok.of_cons {d : Rp} {x : List Rp} (h : Ok (d :: x)) : OkR d ∧ Ok x := ⟨h d (by simp), fun e he => h e (by simp [he])⟩
theorem Ok.reverse {x : List Rp} (h : Ok x) : Ok x.reverse := fun d hd => h d (List.mem_reverse.1 hd)
theorem Ok.ops {x : List Rp} (h : Ok x) : Ops x := fun d hd => (h d hd).1
theorem Valids.of_append {x y : List Int} (h : Valids (x ++ y)) : Valids x ∧ Valids y := ⟨fun d hd => h d (by simp [hd]), fun d hd => h d (by simp [hd])⟩
theorem dels_valid : ∀ {P : List Rp}, Ok P → Valids (delsR P) ∧ Valids (inssR P)
 | [], _ => ⟨Valids.nil, Valids.nil⟩
 | d :: P, h => by
  have ih := dels_valid h.of_cons.2
  have hd := h.of_cons.1.2
  unfold delsR inssR
  refine ⟨Valids.append ?_ ih.1, Valids.append ?_ ih.2⟩ <;> split <;> first | exact hd | exact Valids.nil
theorem Ok.pushE {u : List Int} (hu : Valids u) : ∀ {A : List Rp}, Ok A → Ok (pushE u A)
 | [], _ => Ok.cons' ⟨.inr (.inl rfl), hu⟩ Ok.nil
 | (k, s) :: A, h => by
  rw [Go.Proofs.YtmfgccjcnnlehaaDoorZF.pushE]
  split
  ·exact Ok.cons' ⟨.inr (.inl rfl), h.of_cons.1.2.append hu⟩ h.of_cons.2
  ·exact Ok.cons' ⟨.inr (.inl rfl), hu⟩ h
theorem Ok.stepE {A P : List Rp} {t : List Int} (hA : Ok A) (hP : Ok P) (ht : Valids t) : Ok (stepE A P t) := by
 have hd := dels_valid hP
 unfold Go.Proofs.YtmfgccjcnnlehaaDoorZF.stepE
 split
 ·split
  ·exact Ok.cons' ⟨.inr (.inl rfl), ht⟩ (Ok.cons' ⟨.inr (.inr rfl), hd.2⟩ hA)
  ·split
   ·exact Ok.cons' ⟨.inr (.inl rfl), ht⟩ (Ok.cons' ⟨.inl rfl, hd.1⟩ hA)
   ·simp only
    have h1 : Ok (fac A (delsR P) (inssR P) t).A := by
     unfold fac; simp only; split
     ·exact hA
     ·exact Ok.pushE (hd.2.take _) hA
    refine Ok.cons' ⟨.inr (.inl rfl), ?_⟩ (Ok.cons' ⟨.inr (.inr rfl), ?_⟩ (Ok.cons' ⟨.inl rfl, ?_⟩ h1)) <;> unfold fac <;> simp only
    ·exact ((hd.2.drop _).drop _).append ht
    ·exact (hd.2.drop _).take _
    ·exact (hd.1.drop _).take _
 ·split
  ·exact Ok.pushE ht hA
  ·exact Ok.cons' ⟨.inr (.inl rfl), ht⟩ (hP.reverse.append hA)
theorem Ok.run1 : ∀ {R A P : List Rp}, Ok A → Ok P → Ok R → Ok (run1 A P R).1 ∧ Ok (run1 A P R).2
 | [], A, P, hA, hP, _ => ⟨hA, hP⟩
 | d :: R, A, P, hA, hP, hR => by
  rw [Go.Proofs.YtmfgccjcnnlehaaDoorZF.run1]
  split
  ·exact Ok.run1 (hA.stepE hP hR.of_cons.1.2) Ok.nil hR.of_cons.2
  ·exact Ok.run1 hA (hP.append (Ok.cons' hR.of_cons.1 Ok.nil)) hR.of_cons.2
theorem Ok.chop : ∀ {A : List Rp}, Ok A → Ok (chop A)
 | [], _ => Ok.nil
 | (k, s) :: A, h => by
  rw [Go.Proofs.YtmfgccjcnnlehaaDoorZF.chop]; split
  ·exact h.of_cons.2
  ·exact h
theorem Ok.join1 {x : List Rp} (h : Ok x) : Ok (join1 x) := by
 have := Ok.run1 Ok.nil Ok.nil h
 exact (Ok.chop (this.1.stepE this.2 Valids.nil)).reverse
theorem Ok.slide : ∀ (k : Nat) {A R : List Rp} {ch : Bool}, R.length = k → Ok A → Ok R → Ok (slide A R ch).1 := by
 intro k
 induction k using Nat.strongRecOn with
 | _ k ih =>
  intro A R ch hk hA hR
  match R, hk, hR with
  | [], hk, hR => unfold Go.Proofs.YtmfgccjcnnlehaaDoorZF.slide; exact hA.reverse.append hR
  | [p], hk, hR => unfold Go.Proofs.YtmfgccjcnnlehaaDoorZF.slide; exact hA.reverse.append hR
  | [p, c], hk, hR => unfold Go.Proofs.YtmfgccjcnnlehaaDoorZF.slide; exact hA.reverse.append hR
  | p :: c :: q :: R, hk, hR =>
   rw [Go.Proofs.YtmfgccjcnnlehaaDoorZF.slide]
   have hp := hR.of_cons.1
   have hc := hR.of_cons.2.of_cons.1
   have hq := hR.of_cons.2.of_cons.2.of_cons.1
   have hR' := hR.of_cons.2.of_cons.2.of_cons.2
   have skip := ih (c :: q :: R).length (by rw [← hk]; simp) (A := p :: A) (R := c :: q :: R) (ch := ch) rfl (Ok.cons' hp hA) hR.of_cons.2
   split
   ·split
    ·exact ih (((q.1, p.2 ++ q.2) :: R) : List Rp).length (by rw [← hk]; simp) rfl (Ok.cons' ⟨hc.1, hp.2.append (hc.2.take _)⟩ hA) (Ok.cons' ⟨hq.1, hp.2.append hq.2⟩ hR')
    ·split
     ·exact ih (((c.1, c.2.drop q.2.length ++ q.2) :: R) : List Rp).length (by rw [← hk]; simp) rfl (Ok.cons' ⟨hp.1, hp.2.append hq.2⟩ hA) (Ok.cons' ⟨hc.1, (hc.2.drop _).append hq.2⟩ hR')
     ·exact skip
   ·exact skip
theorem Ok.mergeN : ∀ (k : Nat) {x : List Rp}, Ok x → Ok (mergeN k x)
 | 0, x, h => h
 | k + 1, x, h => by
  have := Ok.slide (Go.Proofs.YtmfgccjcnnlehaaDoorZF.join1 x).length (A := []) (R := Go.Proofs.YtmfgccjcnnlehaaDoorZF.join1 x) (ch := false) rfl Ok.nil h.join1
  rw [Go.Proofs.YtmfgccjcnnlehaaDoorZF.mergeN]
  split
  ·exact Ok.mergeN k this
  ·exact this
theorem Ok.merge {x : List Rp} (h : Ok x) : Ok (merge x) := Ok.mergeN _ h
theorem src_eds : ∀ {P : List Rp}, Eds P → srcR P = delsR P ∧ tgtR P = inssR P
 | [], _ => ⟨rfl, rfl⟩
 | d :: P, h => by
  have ih := src_eds (P := P) fun e he => h e (by simp [he])
  unfold srcR tgtR delsR inssR
  rw [ih.1, ih.2]
  rcases h d (by simp) with hd | hd <;> simp [hd]
theorem src_pushE (u : List Int) : ∀ A : List Rp, srcR (pushE u A).reverse = srcR A.reverse ++ u ∧ tgtR (pushE u A).reverse = tgtR A.reverse ++ u
 | [] => by simp [pushE, srcR, tgtR]
 | (k, s) :: A => by
  rw [pushE]
  split
  ·rename_i h; subst h
   simp [srcR_append, tgtR_append, srcR, tgtR]
  ·simp [srcR_append, tgtR_append, srcR, tgtR]
theorem fac_texts (A : List Rp) (td ti t : List Int) : srcR (fac A td ti t).A.reverse ++ (fac A td ti t).td ++ (fac A td ti t).t = srcR A.reverse ++ td ++ t ∧ tgtR (fac A td ti t).A.reverse ++ (fac A td ti t).ti ++ (fac A td ti t).t = tgtR A.reverse ++ ti ++ t := by
 have h1 := cpl_take ti td
 have h2 := csl_drop (ti.drop (cpl ti td)) (td.drop (cpl ti td))
 unfold fac
 simp only
 generalize cpl ti td = c at *
 generalize csl (ti.drop c) (td.drop c) = s at *
 have hA : srcR (if c = 0 then A else pushE (ti.take c) A).reverse = srcR A.reverse ++ ti.take c ∧ tgtR (if c = 0 then A else pushE (ti.take c) A).reverse = tgtR A.reverse ++ ti.take c := by
  split
  ·rename_i h; subst h; simp
  ·exact src_pushE _ _
 rw [hA.1, hA.2]
 constructor
 ·rw [h1, h2, ← List.append_assoc]
  have : (td.drop c).take ((td.drop c).length - s) ++ (td.drop c).drop ((td.drop c).length - s) = td.drop c := List.take_append_drop _ _
  rw [List.append_assoc (srcR A.reverse ++ td.take c), this, List.append_assoc (srcR A.reverse), List.take_append_drop]
 ·rw [← List.append_assoc]
  have : (ti.drop c).take ((ti.drop c).length - s) ++ (ti.drop c).drop ((ti.drop c).length - s) = ti.drop c := List.take_append_drop _ _
  rw [List.append_assoc (tgtR A.reverse ++ ti.take c), this, List.append_assoc (tgtR A.reverse), List.take_append_drop]
theorem stepE_texts {A P : List Rp} (hP : Eds P) (t : List Int) : srcR (stepE A P t).reverse = srcR A.reverse ++ srcR P ++ t ∧ tgtR (stepE A P t).reverse = tgtR A.reverse ++ tgtR P ++ t := by
 have he := src_eds hP
 rw [he.1, he.2]
 unfold stepE
 split
 ·split
  ·rename_i h
   rw [dels_nil h]
   simp [srcR_append, tgtR_append, srcR, tgtR]
  ·split
   ·rename_i h
    rw [inss_nil h]
    simp [srcR_append, tgtR_append, srcR, tgtR]
   ·have := fac_texts A (delsR P) (inssR P) t
    rw [← this.1, ← this.2]
    simp [srcR_append, tgtR_append, srcR, tgtR]
 ·split
  ·rename_i h; subst h
   simpa [delsR, inssR] using src_pushE t A
  ·simp [srcR_append, tgtR_append, srcR, tgtR, he.1, he.2]
theorem run1_texts : ∀ (R A P : List Rp), Eds P → Ops R → srcR ((run1 A P R).1.reverse ++ (run1 A P R).2) = srcR (A.reverse ++ P ++ R) ∧ tgtR ((run1 A P R).1.reverse ++ (run1 A P R).2) = tgtR (A.reverse ++ P ++ R)
 | [], A, P, _, _ => by simp [run1]
 | d :: R, A, P, hP, hR => by
  rw [run1]
  split
  ·rename_i h0
   have ih := run1_texts R (stepE A P d.2) [] Eds.nil hR.cons.2
   have h1 := stepE_texts (A := A) hP d.2
   rw [ih.1, ih.2]
   simp [srcR_append, tgtR_append, srcR, tgtR, h1.1, h1.2, h0]
  ·rename_i h0
   have ih := run1_texts R A (P ++ [d]) (hP.snoc hR.cons.1 h0) hR.cons.2
   rw [ih.1, ih.2]
   simp
theorem chop_texts : ∀ A : List Rp, srcR (chop A).reverse = srcR A.reverse ∧ tgtR (chop A).reverse = tgtR A.reverse
 | [] => ⟨rfl, rfl⟩
 | (k, s) :: A => by
  rw [chop]; split
  ·rename_i h; subst h; simp [srcR_append, tgtR_append, srcR, tgtR]
  ·exact ⟨rfl, rfl⟩
theorem join1_texts {x : List Rp} (hx : Ops x) : srcR (join1 x) = srcR x ∧ tgtR (join1 x) = tgtR x := by
 have h1 := run1_texts x [] [] Eds.nil hx
 have h2 := (phi_run1 x [] [] Eds.nil hx).2
 have h3 := stepE_texts (A := (run1 [] [] x).1) h2 []
 have h4 := chop_texts (stepE (run1 [] [] x).1 (run1 [] [] x).2 [])
 unfold join1
 rw [h4.1, h4.2, h3.1, h3.2]
 simp only [srcR_append, tgtR_append, List.reverse_nil, List.nil_append] at h1
 rw [List.append_nil, List.append_nil, h1.1, h1.2]
 exact ⟨rfl, rfl⟩
theorem suffix_take {p c : List Int} (h : p <:+ c) : c.take (c.length - p.length) ++ p = c := by
 obtain ⟨x, rfl⟩ := h
 simp
theorem prefix_drop {q c : List Int} (h : q <+: c) : q ++ c.drop q.length = c := by
 obtain ⟨x, rfl⟩ := h
 simp
theorem slide_texts : ∀ (k : Nat) (A R : List Rp) (ch : Bool), R.length = k → srcR (slide A R ch).1 = srcR (A.reverse ++ R) ∧ tgtR (slide A R ch).1 = tgtR (A.reverse ++ R) ∧ edR (slide A R ch).1 = edR (A.reverse ++ R) := by
 intro k
 induction k using Nat.strongRecOn with
 | _ k ih =>
  intro A R ch hk
  match R, hk with
  | [], hk => unfold slide; exact ⟨rfl, rfl, rfl⟩
  | [p], hk => unfold slide; exact ⟨rfl, rfl, rfl⟩
  | [p, c], hk => unfold slide; exact ⟨rfl, rfl, rfl⟩
  | p :: c :: q :: R, hk =>
   rw [slide]
   have skip := ih (c :: q :: R).length (by rw [← hk]; simp) (p :: A) (c :: q :: R) ch rfl
   rw [List.reverse_cons, List.append_assoc, List.singleton_append] at skip
   split
   ·rename_i h
    obtain ⟨h1, h2⟩ := h
    split
    ·rename_i hs
     have e := suffix_take hs
     have := ih (((q.1, p.2 ++ q.2) :: R) : List Rp).length (by rw [← hk]; simp) ((c.1, p.2 ++ c.2.take (c.2.length - p.2.length)) :: A) ((q.1, p.2 ++ q.2) :: R) true rfl
     rw [this.1, this.2.1, this.2.2]
     have hl := hs.length_le
     simp only [srcR_append, tgtR_append, edR_append, srcR, tgtR, edR, List.reverse_cons, h1, h2, List.append_assoc]
     have hlen : (p.2 ++ c.2.take (c.2.length - p.2.length)).length = c.2.length := by simp; omega
     refine ⟨?_, ?_, ?_⟩
     ·by_cases hc : c.1 = 1
      ·simp [hc]
      ·simp only [hc, if_false]
       have : p.2 ++ (List.take (c.2.length - p.2.length) c.2 ++ (p.2 ++ (q.2 ++ srcR R))) = p.2 ++ ((List.take (c.2.length - p.2.length) c.2 ++ p.2) ++ (q.2 ++ srcR R)) := by simp
       simp [this, e]
     ·by_cases hc : c.1 = -1
      ·simp [hc]
      ·simp only [hc, if_false]
       have : p.2 ++ (List.take (c.2.length - p.2.length) c.2 ++ (p.2 ++ (q.2 ++ tgtR R))) = p.2 ++ ((List.take (c.2.length - p.2.length) c.2 ++ p.2) ++ (q.2 ++ tgtR R)) := by simp
       simp [this, e]
     ·rw [hlen]; simp
    ·split
     ·rename_i hs
      have e := prefix_drop hs
      have := ih (((c.1, c.2.drop q.2.length ++ q.2) :: R) : List Rp).length (by rw [← hk]; simp) ((p.1, p.2 ++ q.2) :: A) ((c.1, c.2.drop q.2.length ++ q.2) :: R) true rfl
      rw [this.1, this.2.1, this.2.2]
      have hl := hs.length_le
      simp only [srcR_append, tgtR_append, edR_append, srcR, tgtR, edR, List.reverse_cons, h1, h2, List.append_assoc]
      have hlen : (c.2.drop q.2.length ++ q.2).length = c.2.length := by simp; omega
      refine ⟨?_, ?_, ?_⟩
      ·by_cases hc : c.1 = 1
       ·simp [hc]
       ·simp only [hc, if_false]
        have : p.2 ++ (q.2 ++ (List.drop q.2.length c.2 ++ (q.2 ++ srcR R))) = p.2 ++ ((q.2 ++ List.drop q.2.length c.2) ++ (q.2 ++ srcR R)) := by simp
        simp [this, e]
      ·by_cases hc : c.1 = -1
       ·simp [hc]
       ·simp only [hc, if_false]
        have : p.2 ++ (q.2 ++ (List.drop q.2.length c.2 ++ (q.2 ++ tgtR R))) = p.2 ++ ((q.2 ++ List.drop q.2.length c.2) ++ (q.2 ++ tgtR R)) := by simp
        simp [this, e]
      ·rw [hlen]; simp
     ·exact skip
   ·exact skip
theorem ed_stepE {A P : List Rp} (hP : Eds P) (t : List Int) : edR (stepE A P t) ≤ edR A + edR P := by
 have hd := dels_le P
 unfold stepE
 split
 ·split
  ·simp [edR]; omega
  ·split
   ·simp [edR]; omega
   ·simp only [edR]
    rw [edR_fac]
    have e1 : (fac A (delsR P) (inssR P) t).td.length ≤ (delsR P).length := by unfold fac; simp only [List.length_take, List.length_drop]; omega
    have e2 : (fac A (delsR P) (inssR P) t).ti.length ≤ (inssR P).length := by unfold fac; simp only [List.length_take, List.length_drop]; omega
    simp; omega
 ·split
  ·rw [edR_pushE]; omega
  ·simp [edR, edR_append, edR_reverse]; omega
theorem ed_run1 : ∀ (R A P : List Rp), Eds P → Ops R → edR (run1 A P R).1 + edR (run1 A P R).2 ≤ edR A + edR P + edR R
 | [], A, P, _, _ => by simp [run1, edR]
 | d :: R, A, P, hP, hR => by
  rw [run1]
  split
  ·rename_i h0
   have ih := ed_run1 R (stepE A P d.2) [] Eds.nil hR.cons.2
   have h1 := ed_stepE (A := A) hP d.2
   simp only [edR] at ih ⊢
   omega
  ·rename_i h0
   have ih := ed_run1 R A (P ++ [d]) (hP.snoc hR.cons.1 h0) hR.cons.2
   rw [edR_append] at ih
   simp only [edR] at ih ⊢
   omega
theorem ed_chop : ∀ A : List Rp, edR (chop A) ≤ edR A
 | [] => Nat.le_refl _
 | (k, s) :: A => by rw [chop]; split <;> simp only [edR] <;> omega
theorem ed_join1 {x : List Rp} (hx : Ops x) : edR (join1 x) ≤ edR x := by
 have h1 := ed_run1 x [] [] Eds.nil hx
 have h2 := (phi_run1 x [] [] Eds.nil hx).2
 have h3 := ed_stepE (A := (run1 [] [] x).1) h2 []
 have h4 := ed_chop (stepE (run1 [] [] x).1 (run1 [] [] x).2 [])
 unfold join1
 rw [edR_reverse]
 simp only [edR] at h1
 omega
theorem mergeN_texts : ∀ (k : Nat) {x : List Rp}, Ok x → srcR (mergeN k x) = srcR x ∧ tgtR (mergeN k x) = tgtR x ∧ edR (mergeN k x) ≤ edR x
 | 0, x, _ => ⟨rfl, rfl, Nat.le_refl _⟩
 | k + 1, x, h => by
  have h1 := join1_texts h.ops
  have h2 := slide_texts _ [] (join1 x) false rfl
  have h3 := ed_join1 h.ops
  have h4 := Ok.slide (join1 x).length (A := []) (R := join1 x) (ch := false) rfl Ok.nil h.join1
  simp only [List.reverse_nil, List.nil_append] at h2
  rw [mergeN]
  split
  ·have ih := mergeN_texts k h4
   rw [ih.1, ih.2.1, h2.1, h2.2.1, h1.1, h1.2]
   exact ⟨rfl, rfl, by have := ih.2.2; rw [h2.2.2] at this; omega⟩
  ·rw [h2.1, h2.2.1, h2.2.2, h1.1, h1.2]; exact ⟨rfl, rfl, h3⟩
theorem merge_texts {x : List Rp} (h : Ok x) : srcR (merge x) = srcR x ∧ tgtR (merge x) = tgtR x ∧ edR (merge x) ≤ edR x := mergeN_texts _ h
theorem all_le : ∀ {x : List Rp}, allR x ≤ (srcR x).length + (tgtR x).length
 | [] => Nat.le_refl _
 | d :: x => by
  have := all_le (x := x)
  rw [allR_cons]
  unfold srcR tgtR
  simp only [List.length_append]
  by_cases h1 : d.1 = 1
  ·rw [if_pos h1, if_neg (by omega)]; simp; omega
  ·rw [if_neg h1]; omega
theorem le_all : ∀ x : List Rp, (srcR x).length + (tgtR x).length ≤ 2 * allR x := fun x => by
 have := srcR_le x; have := tgtR_le x; omega
end Go.Proofs.YtmfgccjcnnlehaaDoorZF
namespace Go.Proofs.YtmfgccjcnnlehaaDoorZF
open Go
set_option linter.unusedVariables false
set_option linter.unusedSimpArgs false
def letter (c : Int) : Bool := decide ((97 ≤ c ∧ c ≤ 122) ∨ (65 ≤ c ∧ c ≤ 90) ∨ (48 ≤ c ∧ c ≤ 57))
def space (c : Int) : Bool := decide (c = 32 ∨ c = 9 ∨ c = 10 ∨ c = 13 ∨ c = 12)
def brk (c : Int) : Bool := decide (c = 10 ∨ c = 13)
def blankE (l : List Int) : Bool := decide ([10, 10] <:+ l) || decide ([10, 13, 10] <:+ l)
def scoreL (e : Bool) (a b : Int) : Int := if e = true then 5 else if (brk a || brk b) = true then 4 else if (!letter a && !space a && space b) = true then 3 else if (space a || space b) = true then 2 else if (!letter a || !letter b) = true then 1 else 0
def scoreG (x y : List Int) : Int := if x = [] ∨ y = [] then 6 else scoreL ((brk (x.getLastD 0) && blankE x) || (brk (y.headD 0) && blankE y)) (x.getLastD 0) (y.headD 0)
theorem scoreL_high {e : Bool} {a b : Int} (he : e = true → 5 ≤ (5 : Int)) (ha : 128 ≤ a) : 1 ≤ scoreL e a b := by
 have h1 : letter a = false := by unfold letter; rw [decide_eq_false]; omega
 unfold scoreL
 rw [h1]
 repeat' split
 all_goals first | omega | simp_all
theorem scoreL_two {a b : Int} (ha : 128 ≤ a) (hb : 128 ≤ b) : scoreL false a b = 1 := by
 have h1 : letter a = false := by unfold letter; rw [decide_eq_false]; omega
 have h2 : space a = false := by unfold space; rw [decide_eq_false]; omega
 have h3 : brk a = false := by unfold brk; rw [decide_eq_false]; omega
 have h4 : letter b = false := by unfold letter; rw [decide_eq_false]; omega
 have h5 : space b = false := by unfold space; rw [decide_eq_false]; omega
 have h6 : brk b = false := by unfold brk; rw [decide_eq_false]; omega
 unfold scoreL
 rw [h1, h2, h3, h4, h5, h6]
 rfl
@[reducible] def Tri := List Int × List Int × List Int
def walkR : List Int → List Int → List Int → Tri → Int → Tri
 | a, c :: s, d :: b, best, m =>
  if c = d then
   if m ≤ scoreG (a ++ [c]) (s ++ [c]) + scoreG (s ++ [c]) b then walkR (a ++ [c]) (s ++ [c]) b (a ++ [c], s ++ [c], b) (scoreG (a ++ [c]) (s ++ [c]) + scoreG (s ++ [c]) b)
   else walkR (a ++ [c]) (s ++ [c]) b best m
  else best
 | _, _, _, best, _ => best
termination_by _ _ b => b.length
def wholeJ : List Int → Nat → Nat
 | [], _ => 0
 | c :: r, k => if (Utf8.encode c).size ≤ k then 1 + wholeJ r (k - (Utf8.encode c).size) else 0
theorem wholeJ_le : ∀ (t : List Int) (k : Nat), wholeJ t k ≤ t.length
 | [], _ => Nat.le_refl _
 | c :: r, k => by
  rw [wholeJ]
  split
  ·have := wholeJ_le r (k - (Utf8.encode c).size); simp; omega
  ·omega
def startR (a s b : List Int) : Tri :=
 let j := wholeJ a.reverse (csl a s)
 (a.take (a.length - j), a.drop (a.length - j) ++ s.take (s.length - j), a.drop (a.length - j) ++ b)
def shiftR (a s b : List Int) : Tri := walkR (startR a s b).1 (startR a s b).2.1 (startR a s b).2.2 (startR a s b) (scoreG (startR a s b).1 (startR a s b).2.1 + scoreG (startR a s b).2.1 (startR a s b).2.2)
structure Moved (a s b : List Int) (t : Tri) : Prop where
 all : t.1 ++ t.2.1 ++ t.2.2 = a ++ s ++ b
 out : t.1 ++ t.2.2 = a ++ b
 len : t.2.1.length = s.length
 val : Valids a → Valids s → Valids b → Valids t.1 ∧ Valids t.2.1 ∧ Valids t.2.2
theorem Moved.refl (a s b : List Int) : Moved a s b (a, s, b) := ⟨rfl, rfl, rfl, fun h1 h2 h3 => ⟨h1, h2, h3⟩⟩
theorem Moved.trans {a s b : List Int} {t u : Tri} (h : Moved a s b t) (k : Moved t.1 t.2.1 t.2.2 u) : Moved a s b u :=
 ⟨k.all.trans h.all, k.out.trans h.out, k.len.trans h.len, fun h1 h2 h3 => let ⟨q1, q2, q3⟩ := h.val h1 h2 h3; k.val q1 q2 q3⟩
theorem Moved.step (a s b : List Int) (c : Int) : Moved a (c :: s) (c :: b) (a ++ [c], s ++ [c], b) := by
 refine ⟨by simp, by simp, by simp, fun h1 h2 h3 => ⟨h1.append ?_, h2.cons.2.append ?_, h3.cons.2⟩⟩ <;> exact fun d hd => by rw [List.mem_singleton.1 hd]; exact h2.cons.1
theorem walkR_moved (a0 s0 b0 : List Int) : ∀ (n : Nat) (a s b : List Int) (best : Tri) (m : Int), b.length = n → Moved a0 s0 b0 (a, s, b) → Moved a0 s0 b0 best → Moved a0 s0 b0 (walkR a s b best m) := by
 intro n
 induction n with
 | zero =>
  intro a s b best m hb h1 h2
  have := List.eq_nil_of_length_eq_zero hb
  subst this
  cases s <;> (unfold walkR; exact h2)
 | succ n ih =>
  intro a s b best m hb h1 h2
  match s, b, hb with
  | [], d :: b, hb => unfold walkR; exact h2
  | c :: s, d :: b, hb =>
   unfold walkR
   split
   ·rename_i e
    subst e
    have h3 := h1.trans (Moved.step a s b c)
    split
    ·exact ih _ _ _ _ _ (by simpa using hb) h3 h3
    ·exact ih _ _ _ _ _ (by simpa using hb) h3 h2
   ·exact h2
theorem csl_le_suffix {x y : List Int} {j : Nat} (h : j ≤ csl x y) : x.drop (x.length - j) = y.drop (y.length - j) := by
 have h1 := csl_le_left x y
 have h2 := csl_le_right x y
 have e := csl_drop x y
 have e1 : x.drop (x.length - j) = (x.drop (x.length - csl x y)).drop (csl x y - j) := by rw [List.drop_drop]; congr 1; omega
 have e2 : y.drop (y.length - j) = (y.drop (y.length - csl x y)).drop (csl x y - j) := by rw [List.drop_drop]; congr 1; omega
 rw [e1, e2, e]
theorem enc_one_le (c : Int) : 1 ≤ (Utf8.encode c).size := encode_pos c
theorem wholeJ_le_k : ∀ (t : List Int) (k : Nat), wholeJ t k ≤ k
 | [], _ => Nat.zero_le _
 | c :: r, k => by
  rw [wholeJ]
  split
  ·have := wholeJ_le_k r (k - (Utf8.encode c).size)
   have := encode_pos c
   omega
  ·omega
theorem startR_moved (a s b : List Int) : Moved a s b (startR a s b) := by
 unfold startR
 have hj := wholeJ_le_k a.reverse (csl a s)
 have e := csl_le_suffix hj
 have l1 := csl_le_left a s
 have l2 := csl_le_right a s
 generalize wholeJ a.reverse (csl a s) = j at *
 have ea : a.take (a.length - j) ++ a.drop (a.length - j) = a := List.take_append_drop _ _
 have es : s.take (s.length - j) ++ a.drop (a.length - j) = s := by rw [e]; exact List.take_append_drop _ _
 refine ⟨?_, ?_, ?_, fun h1 h2 h3 => ⟨h1.take _, (h1.drop _).append (h2.take _), (h1.drop _).append h3⟩⟩
 ·show a.take (a.length - j) ++ (a.drop (a.length - j) ++ s.take (s.length - j)) ++ (a.drop (a.length - j) ++ b) = _
  have : a.take (a.length - j) ++ (a.drop (a.length - j) ++ s.take (s.length - j)) ++ (a.drop (a.length - j) ++ b) = (a.take (a.length - j) ++ a.drop (a.length - j)) ++ (s.take (s.length - j) ++ a.drop (a.length - j)) ++ b := by simp only [List.append_assoc]
  rw [this, ea, es]
 ·show a.take (a.length - j) ++ (a.drop (a.length - j) ++ b) = _
  rw [← List.append_assoc, ea]
 ·show (a.drop (a.length - j) ++ s.take (s.length - j)).length = _
  rw [List.length_append, List.length_drop, List.length_take]; omega
theorem shiftR_moved (a s b : List Int) : Moved a s b (shiftR a s b) := walkR_moved a s b _ _ _ _ _ _ rfl (startR_moved a s b) (startR_moved a s b)
def lossF : List Rp → List Rp → List Rp
 | A, p :: c :: q :: R =>
  if p.1 = 0 ∧ q.1 = 0 then
   let t := shiftR p.2 c.2 q.2
   if t.1 = p.2 then lossF (p :: A) (c :: q :: R)
   else if t.1 = [] then lossF A ((c.1, t.2.1) :: (q.1, t.2.2) :: R)
   else if t.2.2 = [] then lossF A ((p.1, t.1) :: (c.1, t.2.1) :: R)
   else lossF ((p.1, t.1) :: A) ((c.1, t.2.1) :: (q.1, t.2.2) :: R)
  else lossF (p :: A) (c :: q :: R)
 | A, R => A.reverse ++ R
termination_by _ R => R.length
def lossless (x : List Rp) : List Rp := lossF [] x
def editsL : List Rp → List (Int × Nat)
 | [] => []
 | d :: l => if d.1 = 0 then editsL l else (d.1, d.2.length) :: editsL l
theorem editsL_append : ∀ x y, editsL (x ++ y) = editsL x ++ editsL y
 | [], y => rfl
 | d :: x, y => by simp only [List.cons_append, editsL]; split <;> simp [editsL_append x y]
theorem loss_inv : ∀ (k : Nat) (A R : List Rp), R.length = k → srcR (lossF A R) = srcR (A.reverse ++ R) ∧ tgtR (lossF A R) = tgtR (A.reverse ++ R) ∧ editsL (lossF A R) = editsL (A.reverse ++ R) ∧ (Ok (A.reverse ++ R) → Ok (lossF A R)) ∧ (lossF A R).length ≤ A.length + R.length ∧ (A.reverse ++ R ≠ [] → lossF A R ≠ []) := by
 intro k
 induction k using Nat.strongRecOn with
 | _ k ih =>
  intro A R hk
  match R, hk with
  | [], hk => unfold lossF; exact ⟨rfl, rfl, rfl, id, by simp, id⟩
  | [p], hk => unfold lossF; exact ⟨rfl, rfl, rfl, id, by simp, id⟩
  | [p, c], hk => unfold lossF; exact ⟨rfl, rfl, rfl, id, by simp, id⟩
  | p :: c :: q :: R, hk =>
   rw [lossF]
   have skip := ih (c :: q :: R).length (by rw [← hk]; simp) (p :: A) (c :: q :: R) rfl
   rw [List.reverse_cons, List.append_assoc, List.singleton_append] at skip
   have skip' : srcR (lossF (p :: A) (c :: q :: R)) = srcR (A.reverse ++ p :: c :: q :: R) ∧ tgtR (lossF (p :: A) (c :: q :: R)) = tgtR (A.reverse ++ p :: c :: q :: R) ∧ editsL (lossF (p :: A) (c :: q :: R)) = editsL (A.reverse ++ p :: c :: q :: R) ∧ (Ok (A.reverse ++ p :: c :: q :: R) → Ok (lossF (p :: A) (c :: q :: R))) ∧ (lossF (p :: A) (c :: q :: R)).length ≤ A.length + (p :: c :: q :: R).length ∧ (A.reverse ++ p :: c :: q :: R ≠ [] → lossF (p :: A) (c :: q :: R) ≠ []) := by
    refine ⟨skip.1, skip.2.1, skip.2.2.1, skip.2.2.2.1, ?_, skip.2.2.2.2.2⟩
    have := skip.2.2.2.2.1
    simp at this ⊢; omega
   split
   ·rename_i h
    obtain ⟨hp, hq⟩ := h
    have hm := shiftR_moved p.2 c.2 q.2
    generalize shiftR p.2 c.2 q.2 = t at *
    have ho := hm.out
    have hall := hm.all
    have hlen := hm.len
    simp only
    have key : ∀ (A' R' : List Rp), R'.length < k → A'.length + R'.length ≤ A.length + (p :: c :: q :: R).length → A'.reverse ++ R' ≠ [] →
      (srcR (A'.reverse ++ R') = srcR A.reverse ++ (t.1 ++ (if c.1 = 1 then [] else t.2.1) ++ t.2.2) ++ srcR R) → (tgtR (A'.reverse ++ R') = tgtR A.reverse ++ (t.1 ++ (if c.1 = -1 then [] else t.2.1) ++ t.2.2) ++ tgtR R) →
      editsL (A'.reverse ++ R') = editsL A.reverse ++ ((if c.1 = 0 then [] else [(c.1, t.2.1.length)]) ++ editsL R) → (Ok A → OkR (p.1, t.1) → OkR (c.1, t.2.1) → OkR (q.1, t.2.2) → Ok R → Ok (A'.reverse ++ R')) →
      srcR (lossF A' R') = srcR (A.reverse ++ p :: c :: q :: R) ∧ tgtR (lossF A' R') = tgtR (A.reverse ++ p :: c :: q :: R) ∧ editsL (lossF A' R') = editsL (A.reverse ++ p :: c :: q :: R) ∧ (Ok (A.reverse ++ p :: c :: q :: R) → Ok (lossF A' R')) ∧ (lossF A' R').length ≤ A.length + (p :: c :: q :: R).length ∧ (A.reverse ++ p :: c :: q :: R ≠ [] → lossF A' R' ≠ []) := by
     intro A' R' h1 h2 h3 h4 h5 h6 h7
     obtain ⟨i1, i2, i3, i4, i5, i6⟩ := ih R'.length h1 A' R' rfl
     refine ⟨?_, ?_, ?_, ?_, by omega, fun _ => i6 h3⟩
     ·rw [i1, h4, srcR_append]
      simp only [srcR, hp, hq, if_neg (show ¬ (0 : Int) = 1 by decide)]
      by_cases hc : c.1 = 1
      ·simp only [hc, if_true, List.append_nil, List.nil_append]
       rw [ho]; simp
      ·simp only [hc, if_false]
       rw [hall]; simp
     ·rw [i2, h5, tgtR_append]
      simp only [tgtR, hp, hq, if_neg (show ¬ (0 : Int) = -1 by decide)]
      by_cases hc : c.1 = -1
      ·simp only [hc, if_true, List.append_nil, List.nil_append]
       rw [ho]; simp
      ·simp only [hc, if_false]
       rw [hall]; simp
     ·rw [i3, h6, editsL_append]
      simp only [editsL, hp, hq, if_true, hlen]
      split <;> rfl
     ·intro hok
      have o1 := Ok.of_append hok
      have o2 := o1.2.of_cons
      have o3 := o2.2.of_cons
      have o4 := o3.2.of_cons
      have hv := hm.val o2.1.2 o3.1.2 o4.1.2
      exact i4 (h7 (by have := o1.1.reverse; rwa [List.reverse_reverse] at this) ⟨o2.1.1, hv.1⟩ ⟨o3.1.1, hv.2.1⟩ ⟨o4.1.1, hv.2.2⟩ o4.2)
    split
    ·exact skip'
    ·rename_i hne
     split
     ·rename_i h0
      refine key A _ (by rw [← hk]; simp) (by simp) (by simp) ?_ ?_ ?_ (fun a1 a2 a3 a4 a5 => a1.reverse.append (Ok.cons' a3 (Ok.cons' a4 a5)))
      ·simp only [srcR_append, srcR, hq, h0, if_neg (show ¬ (0 : Int) = 1 by decide)]; simp
      ·simp only [tgtR_append, tgtR, hq, h0, if_neg (show ¬ (0 : Int) = -1 by decide)]; simp
      ·simp only [editsL_append, editsL, hq, if_true]; split <;> simp
     ·split
      ·rename_i h0
       refine key A _ (by rw [← hk]; simp) (by simp) (by simp) ?_ ?_ ?_ (fun a1 a2 a3 a4 a5 => a1.reverse.append (Ok.cons' a2 (Ok.cons' a3 a5)))
       ·simp only [srcR_append, srcR, hp, h0, if_neg (show ¬ (0 : Int) = 1 by decide)]; simp
       ·simp only [tgtR_append, tgtR, hp, h0, if_neg (show ¬ (0 : Int) = -1 by decide)]; simp
       ·simp only [editsL_append, editsL, hp, if_true]; split <;> simp
      ·refine key _ _ (by rw [← hk]; simp) (by simp; omega) (by simp) ?_ ?_ ?_ (fun a1 a2 a3 a4 a5 => (Ok.cons' a2 a1).reverse.append (Ok.cons' a3 (Ok.cons' a4 a5)))
       ·rw [List.reverse_cons, List.append_assoc]; simp only [srcR_append, srcR, hp, hq, if_neg (show ¬ (0 : Int) = 1 by decide)]; simp
       ·rw [List.reverse_cons, List.append_assoc]; simp only [tgtR_append, tgtR, hp, hq, if_neg (show ¬ (0 : Int) = -1 by decide)]; simp
       ·rw [List.reverse_cons, List.append_assoc]; simp only [editsL_append, editsL, hp, hq, if_true]; simp; split <;> simp
   ·exact skip'
theorem lossless_inv {x : List Rp} : srcR (lossless x) = srcR x ∧ tgtR (lossless x) = tgtR x ∧ editsL (lossless x) = editsL x ∧ (Ok x → Ok (lossless x)) ∧ (lossless x).length ≤ x.length ∧ (x ≠ [] → lossless x ≠ []) := by
 have := loss_inv x.length [] x rfl
 simpa [lossless] using this
end Go.Proofs.YtmfgccjcnnlehaaDoorZF
namespace Go.Proofs.YtmfgccjcnnlehaaDoorZF
open Go
set_option linter.unusedVariables false
set_option linter.unusedSimpArgs false
open Classical in
theorem hasSuffix_raw (n : Nat) (x y : ByteArray) (hx : x.size ≤ 1000000000000) (hy : y.size ≤ 1000000000000) : g153 n x y = some (decide (∃ u, x = u ++ y), ()) := by
 dsimp only [g153, g153_1, g176, g176_1]
 by_cases h : y.size ≤ x.size
 ·rw [bdT (by omega), w64_id (by omega) (by omega), bnd_ok (by omega) (by omega) (by omega), Option.bind_some]
  have e : strEq (cutS x ((x.size : Int) - (y.size : Int)) (x.size : Int)) y = decide (∃ u, x = u ++ y) := by
   rw [strEq_eq]
   congr 1
   refine propext ⟨fun h1 => ⟨cutS x 0 ((x.size : Int) - (y.size : Int)), ?_⟩, ?_⟩
   ·apply bytesOf_inj
    rw [bytesOf_append, ← h1, bytesOf_cutS, bytesOf_cutS, cut_from, cut_to _ _ _ (by rw [bytesOf_length]; omega)]
    have : ((x.size : Int) - ((cutS x ((x.size : Int) - (y.size : Int)) (x.size : Int)).size : Int)).toNat = ((x.size : Int) - (y.size : Int)).toNat := by
     rw [size_cutS (by omega) (by omega) (by omega)]; omega
    rw [this, List.take_append_drop]
   ·rintro ⟨u, hu⟩
    have hs := congrArg ByteArray.size hu
    rw [size_append] at hs
    have := cutS_append_right u y
    rw [← hu] at this
    rw [show (x.size : Int) - (y.size : Int) = (u.size : Int) by omega]
    exact this
  rw [e]
 ·rw [bdF (by omega), Option.bind_some]
  rw [decide_eq_false]
  rintro ⟨u, hu⟩
  have hs := congrArg ByteArray.size hu
  rw [size_append] at hs; omega
theorem hasSuffix_ok (n : Nat) (x y : List Int) (hx : Valids x) (hy : Valids y) (h1 : x.length ≤ 100000000000) (h2 : y.length ≤ 100000000000) : g153 n (enc x) (enc y) = some (decide (y <:+ x), ()) := by
 have e1 := enc_size_le x
 have e2 := enc_size_le y
 rw [hasSuffix_raw n _ _ (by omega) (by omega)]
 congr 2
 simp only [decide_eq_decide]
 constructor
 ·rintro ⟨u, hu⟩
  obtain ⟨c, hc, _⟩ := suf_of_bytes hx hy hu
  exact ⟨c, hc.symm⟩
 ·rintro ⟨c, hc⟩
  exact ⟨enc c, by rw [← hc, enc_append]⟩
theorem cut_suffix {x y : List Int} (h : y <:+ x) : cutS (enc x) 0 (((enc x).size : Int) - ((enc y).size : Int)) = enc (x.take (x.length - y.length)) ∧ (enc y).size ≤ (enc x).size := by
 obtain ⟨c, rfl⟩ := h
 have hs := enc_size_append c y
 refine ⟨?_, by omega⟩
 rw [show ((enc (c ++ y)).size : Int) - ((enc y).size : Int) = ((enc c).size : Int) by omega, enc_append, cutS_append_left]
 simp
end Go.Proofs.YtmfgccjcnnlehaaDoorZF
namespace Go.Proofs.YtmfgccjcnnlehaaDoorZF
open Go
set_option linter.unusedVariables false
set_option linter.unusedSimpArgs false
theorem pasted_fit {α : Type} (xs ys : List α) (o : Nat) (l : Int) (hl : l.toNat = xs.length - o) (h : o + ys.length ≤ xs.length) : pasted xs (o : Int) l ys = xs.take o ++ ys ++ xs.drop (o + ys.length) := by
 unfold pasted
 have : min l.toNat ys.length = ys.length := by omega
 rw [this, List.take_length]; simp
theorem pasted_fit' {α : Type} (xs ys : List α) (o l : Int) (ho : 0 ≤ o) (hl : l = xs.length - o) (h : o + ys.length ≤ xs.length) : pasted xs o l ys = xs.take o.toNat ++ ys ++ xs.drop (o.toNat + ys.length) := by
 have := pasted_fit xs ys o.toNat l (by omega) (by omega)
 rwa [show ((o.toNat : Nat) : Int) = o by omega] at this
theorem length_pasted {α : Type} (xs ys : List α) (o l : Int) (ho : 0 ≤ o) (hl : l = xs.length - o) (h : o + ys.length ≤ xs.length) : (pasted xs o l ys).length = xs.length := by
 rw [pasted_fit' xs ys o l ho hl h]; simp; omega
abbrev Dif := Int × ByteArray
abbrev dz : Dif := ((0 : Int), (⟨#[]⟩ : ByteArray))
theorem clear_loop {β : Type} (n : Nat) (k : List Dif → Int → Option β) (e o l : Int) (he : 0 ≤ e) (ho : e ≤ o) (hl : 0 ≤ l) : ∀ (d i m : Nat) (xs : List Dif), l.toNat - i = d → i ≤ l.toNat → d < m → l < 1000000000000 → ∃ ys, ys.take e.toNat = xs.take e.toNat ∧ ys.length = xs.length ∧ g123_4L n k m xs e o l l (i : Int) = k ys e := by
 intro d
 induction d with
 | zero =>
  intro i m xs hd hi hm hb
  obtain ⟨m, rfl⟩ : ∃ m', m = m' + 1 := ⟨m - 1, by omega⟩
  refine ⟨xs, rfl, rfl, ?_⟩
  rw [g123_4L.eq_2, g123_3, bdF (by omega)]
 | succ d ih =>
  intro i m xs hd hi hm hb
  obtain ⟨m, rfl⟩ : ∃ m', m = m' + 1 := ⟨m - 1, by omega⟩
  obtain ⟨ys, h1, h2, h3⟩ := ih (i + 1) m (xs.set (o + i).toNat dz) (by omega) (by omega) (by omega) hb
  refine ⟨ys, h1.trans ?_, h2.trans (by simp), ?_⟩
  ·rw [List.take_set, List.set_eq_of_length_le (by simp; omega)]
  ·rw [g123_4L.eq_2, g123_3, bdT (by omega), idx_ok (by omega) (by omega), w64_id (by omega) (by omega)]
   exact h3
theorem grow_loop {β : Type} (n : Nat) (k : List Dif → Int → Int → List Dif → Option β) (a b : Int) (es : List Dif) (need : Nat) (hneed : need < 1000000000000) : ∀ (d m : Nat) (xs : List Dif), need - xs.length = d → xs.length ≤ need → d < m →
  g123_12L n k m xs a b es (need : Int) = k (xs ++ List.replicate d dz) a b es := by
 intro d
 induction d with
 | zero =>
  intro m xs hd hi hm
  obtain ⟨m, rfl⟩ : ∃ m', m = m' + 1 := ⟨m - 1, by omega⟩
  rw [g123_12L.eq_2, g123_11, bdF (by omega)]; simp
 | succ d ih =>
  intro m xs hd hi hm
  obtain ⟨m, rfl⟩ : ∃ m', m = m' + 1 := ⟨m - 1, by omega⟩
  rw [g123_12L.eq_2, g123_11, bdT (by omega), roomy_ok (by simp; omega), ih m (xs ++ [dz]) (by simp; omega) (by simp; omega) (by omega)]
  simp [List.replicate_succ]
theorem splice_ok (n : Nat) (hn : Big ≤ n) (xs es : List Dif) (i a : Nat) (h : i + a ≤ xs.length) (hx : xs.length ≤ 100000000000) (he : es.length ≤ 100000000000) :
  g123 n xs (i : Int) (a : Int) es = some (xs.take i ++ es ++ xs.drop (i + a), ()) := by
 dsimp only [g123, g123_15, g123_1]
 by_cases h1 : es.length = a
 ·rw [biT (by simp; omega), bnd_ok (by omega) (by omega) (by omega), Int.add_zero, pasted_fit' _ _ _ _ (by omega) (by omega) (by omega), h1]
  simp
 ·rw [biF (by simp; omega)]
  dsimp only [g123_9]
  by_cases h2 : es.length < a
  ·rw [bdT (by omega)]
   dsimp only [g123_7, g123_2]
   have e1 : pasted xs ((i : Int) + 0) ((xs.length : Int) - i) es = xs.take i ++ es ++ xs.drop (i + es.length) := by
    rw [Int.add_zero, pasted_fit' _ _ _ _ (by omega) (by omega) (by omega)]; simp
   have l1 : (pasted xs ((i : Int) + 0) ((xs.length : Int) - i) es).length = xs.length := length_pasted _ _ _ _ (by omega) (by omega) (by omega)
   simp only [w64_id (n := (i : Int) + (es.length : Int)) (by omega) (by omega), w64_id (n := (i : Int) + (a : Int)) (by omega) (by omega)]
   generalize hP : pasted xs ((i : Int) + 0) ((xs.length : Int) - i) es = Q at e1 l1
   have hc : cut Q ((i : Int) + (a : Int)) ((i : Int) + (a : Int) + ((Q.length : Int) - ((i : Int) + (a : Int)))) = Q.drop (i + a) := by
    rw [cut_to _ _ _ (by omega)]; congr 1
   have hcd : Q.drop (i + a) = xs.drop (i + a) := by
    rw [e1, List.append_assoc, List.drop_append, List.drop_append]
    simp only [List.length_take, List.drop_drop]
    rw [List.drop_eq_nil_of_le (by simp; omega), List.drop_eq_nil_of_le (by omega)]
    simp only [List.nil_append]
    congr 1; omega
   rw [hc, hcd]
   have e2 : pasted Q ((i : Int) + (es.length : Int) + 0) ((Q.length : Int) - ((i : Int) + (es.length : Int))) (xs.drop (i + a)) = Q.take (i + es.length) ++ xs.drop (i + a) ++ Q.drop (i + es.length + (xs.length - (i + a))) := by
    rw [Int.add_zero, pasted_fit' _ _ _ _ (by omega) (by omega) (by simp; omega)]
    have : ((i : Int) + (es.length : Int)).toNat = i + es.length := by omega
    rw [this]; simp
   have l2 : (pasted Q ((i : Int) + (es.length : Int) + 0) ((Q.length : Int) - ((i : Int) + (es.length : Int))) (xs.drop (i + a))).length = xs.length := by
    rw [length_pasted _ _ _ _ (by omega) (by omega) (by simp; omega), l1]
   have e3 : Q.take (i + es.length) = xs.take i ++ es := by
    rw [e1]
    have : (xs.take i ++ es).length = i + es.length := by simp; omega
    rw [← this, List.take_left']; rfl
   rw [e3] at e2
   generalize pasted Q ((i : Int) + (es.length : Int) + 0) ((Q.length : Int) - ((i : Int) + (es.length : Int))) (xs.drop (i + a)) = R at e2 l2
   rw [l2, l1, w64_id (n := (xs.length : Int) - (a : Int)) (by omega) (by omega), w64_id (n := (xs.length : Int) - (a : Int) + (es.length : Int)) (by omega) (by omega)]
   rw [bnd_ok (by omega) (by omega) (by omega), bnd_ok (by omega) (by omega) (by omega), bnd_ok (by omega) (by omega) (by omega), bnd_ok (by omega) (by omega) (by omega)]
   dsimp only [g123_5, g123_4]
   obtain ⟨ys, h4, h5, h6⟩ := clear_loop n (fun x0 v9 => g123_6 n (fun x8 => some (x8, ())) x0 v9) ((xs.length : Int) - a + es.length) ((xs.length : Int) - a + es.length) ((xs.length : Int) - ((xs.length : Int) - a + es.length)) (by omega) (by omega) (by omega) ((xs.length : Int) - ((xs.length : Int) - a + es.length)).toNat 0 n R (by omega) (by omega) (by unfold Big at hn; omega) (by omega)
   refine Eq.trans h6 ?_
   dsimp only [g123_6]
   rw [bnd_ok (by omega) (by omega) (by omega)]
   have hcut : cut ys 0 (0 + ((xs.length : Int) - a + es.length - 0)) = R.take ((xs.length : Int) - a + es.length).toNat := by
    rw [cut_from, ← h4]; congr 1; omega
   rw [hcut, e2]
   have hlen : (xs.take i ++ es ++ xs.drop (i + a)).length = ((xs.length : Int) - a + es.length).toNat := by simp; omega
   rw [← hlen, List.take_left']
   rfl
  ·rw [bdF (by omega)]
   dsimp only [g123_8, g123_10, g123_13, g123_12]
   rw [w64_id (n := (xs.length : Int) - (a : Int)) (by omega) (by omega), w64_id (n := (xs.length : Int) - (a : Int) + (es.length : Int)) (by omega) (by omega)]
   have hneed : (xs.length : Int) - (a : Int) + (es.length : Int) = ((xs.length - a + es.length : Nat) : Int) := by omega
   refine Eq.trans (b := g123_12L n (fun x0 v1 v2 x3 => g123_14 n (fun x8 => some (x8, ())) x0 v1 v2 x3) n xs (i : Int) (a : Int) es ((xs.length - a + es.length : Nat) : Int)) (by rw [hneed]) ?_
   rw [grow_loop n _ (i : Int) (a : Int) es (xs.length - a + es.length) (by omega) (es.length - a) n xs (by omega) (by omega) (by unfold Big at hn; omega)]
   dsimp only [g123_14]
   generalize hG : xs ++ List.replicate (es.length - a) dz = G
   have lG : G.length = xs.length + (es.length - a) := by rw [← hG]; simp
   simp only [w64_id (n := (i : Int) + (es.length : Int)) (by omega) (by omega), w64_id (n := (i : Int) + (a : Int)) (by omega) (by omega)]
   have hc : cut G ((i : Int) + (a : Int)) ((i : Int) + (a : Int) + ((G.length : Int) - ((i : Int) + (a : Int)))) = G.drop (i + a) := by
    rw [cut_to _ _ _ (by omega)]; congr 1
   rw [hc]
   have e2 : pasted G ((i : Int) + (es.length : Int) + 0) ((G.length : Int) - ((i : Int) + (es.length : Int))) (G.drop (i + a)) = G.take (i + es.length) ++ xs.drop (i + a) := by
    unfold pasted
    have hm : min ((G.length : Int) - ((i : Int) + (es.length : Int))).toNat (G.drop (i + a)).length = xs.length - (i + a) := by simp; omega
    rw [hm, Int.add_zero, show ((i : Int) + (es.length : Int)).toNat = i + es.length by omega, show G.drop (i + es.length + (xs.length - (i + a))) = [] from List.drop_eq_nil_of_le (by omega), List.append_nil]
    congr 1
    rw [← hG, List.drop_append, List.take_append_of_le_length (by simp), List.take_of_length_le (by simp)]
   have l2 : (pasted G ((i : Int) + (es.length : Int) + 0) ((G.length : Int) - ((i : Int) + (es.length : Int))) (G.drop (i + a))).length = G.length := by
    rw [e2]; simp; omega
   rw [bnd_ok (by omega) (by omega) (by omega), bnd_ok (by omega) (by omega) (by omega), bnd_ok (by omega) (by omega) (by omega)]
   simp only [Int.add_zero] at e2 l2 ⊢
   rw [pasted_fit' _ _ _ _ (by omega) rfl (by rw [l2]; omega), e2]
   have h7 : (G.take (i + es.length) ++ xs.drop (i + a)).take (i : Int).toNat = xs.take i := by
    rw [List.take_append_of_le_length (by simp; omega), List.take_take, ← hG, List.take_append_of_le_length (by simp; omega)]
    congr 1; omega
   have h8 : (G.take (i + es.length) ++ xs.drop (i + a)).drop ((i : Int).toNat + es.length) = xs.drop (i + a) := by
    have : (G.take (i + es.length)).length = (i : Int).toNat + es.length := by simp; omega
    rw [← this, List.drop_left']; rfl
   rw [h7, h8]
end Go.Proofs.YtmfgccjcnnlehaaDoorZF
namespace Go.Proofs.YtmfgccjcnnlehaaDoorZF
open Go
set_option linter.unusedVariables false
set_option linter.unusedSimpArgs false
theorem dec_hi (v : ByteArray) (h : 128 ≤ (v.get! 0).toNat) : 128 ≤ (Utf8.decode v 0).1 := by
 rw [Lib.decode_at]
 generalize (v.get! 0).toNat = b0 at *
 unfold Lib.decodeN
 repeat' split
 all_goals simp only
 all_goals omega
theorem dec_inner (v : ByteArray) (h : inner (v.get! 0)) : Utf8.decode v 0 = (65533, 1) := by
 unfold inner at h
 rw [Lib.decode_at]
 generalize (v.get! 0).toNat = b0 at *
 unfold Lib.decodeN
 rw [if_neg (by omega), if_neg (by omega), if_neg (by omega), if_neg (by omega)]
theorem dec_lo (v : ByteArray) (h : (v.get! 0).toNat < 128) : Utf8.decode v 0 = ((v.get! 0).toNat, 1) := dec_one v 0 _ rfl h
theorem get_head (b : UInt8) (l : List UInt8) : (ByteArray.mk (b :: l).toArray).get! 0 = b := rfl
theorem last_hi (l : List UInt8) (b : UInt8) (h : 128 ≤ b.toNat) : 128 ≤ (Lib.decodeLastL (l ++ [b])).1 := by
 have hg : (l ++ [b]).getD ((l ++ [b]).length - 1) 0 = b := by simp [List.getD]
 unfold Lib.decodeLastL
 rw [if_neg (by simp), hg, if_neg (by omega)]
 simp only
 split
 ·rename_i he
  generalize Lib.lastStart (l ++ [b]) = s at *
  unfold Lib.decodeL at he ⊢
  cases hd : (l ++ [b]).drop s with
  | nil =>
   rw [hd] at he
   have : (l ++ [b]).length ≤ s := List.drop_eq_nil_iff.1 hd
   have e0 : (Utf8.decode ⟨#[]⟩ 0).2 = 1 := by decide
   rw [show (ByteArray.mk ([] : List UInt8).toArray) = ⟨#[]⟩ from rfl, e0] at he
   omega
  | cons f t =>
   rw [hd] at he
   by_cases hf : f.toNat < 128
   ·rw [dec_lo _ (by rw [get_head]; exact hf)] at he
    have hl := congrArg List.length hd
    rw [List.length_drop] at hl
    simp only [List.length_cons] at hl
    have ht : t = [] := List.eq_nil_of_length_eq_zero (by omega)
    subst ht
    have hs : s = l.length := by simp at he; omega
    subst hs
    rw [List.drop_left] at hd
    cases hd
    omega
   ·exact dec_hi _ (by rw [get_head]; omega)
 ·show 128 ≤ Utf8.runeError; decide
def Alike (a b : Int) : Prop := a = b ∨ (128 ≤ a ∧ 128 ≤ b)
theorem high {a : Int} (h : 128 ≤ a) : letter a = false ∧ space a = false ∧ brk a = false := by
 refine ⟨?_, ?_, ?_⟩
 ·unfold letter; rw [decide_eq_false]; omega
 ·unfold space; rw [decide_eq_false]; omega
 ·unfold brk; rw [decide_eq_false]; omega
theorem Alike.cls {a b : Int} (h : Alike a b) : letter a = letter b ∧ space a = space b ∧ brk a = brk b := by
 rcases h with rfl | ⟨h1, h2⟩
 ·exact ⟨rfl, rfl, rfl⟩
 ·have k1 := high h1
  have k2 := high h2
  exact ⟨k1.1.trans k2.1.symm, k1.2.1.trans k2.2.1.symm, k1.2.2.trans k2.2.2.symm⟩
theorem scoreL_alike {e : Bool} {a b a' b' : Int} (h : Alike a a') (k : Alike b b') : scoreL e a b = scoreL e a' b' := by
 unfold scoreL
 rw [h.cls.1, h.cls.2.1, h.cls.2.2, k.cls.1, k.cls.2.1, k.cls.2.2]
theorem encode_high (r : Int) (h : 128 ≤ r) : ∃ f t, bl (Utf8.encode r) = f :: t ∧ 192 ≤ f.toNat ∧ t ≠ [] ∧ ∀ b ∈ t, inner b := by
 have tn : ∀ n : Nat, n < 256 → (UInt8.ofNat n).toNat = n := fun n h => by rw [UInt8.toNat_ofNat']; omega
 have hc : (if Utf8.valid r then r.toNat else Utf8.runeError) < 1114112 ∧ 128 ≤ (if Utf8.valid r then r.toNat else Utf8.runeError) := by
  split
  ·rename_i h
   unfold Utf8.valid at h
   simp at h
   omega
  ·decide
 unfold Utf8.encode
 simp only
 generalize (if Utf8.valid r then r.toNat else Utf8.runeError) = n at hc ⊢
 rw [if_neg (by omega)]
 by_cases h2 : n < 0x800
 ·rw [if_pos h2]
  refine ⟨UInt8.ofNat (0xC0 + n / 64), [UInt8.ofNat (0x80 + n % 64)], rfl, by rw [tn _ (by omega)]; omega, by simp, ?_⟩
  intro b hb
  simp only [List.mem_cons, List.not_mem_nil, or_false] at hb
  subst hb
  unfold inner; rw [tn _ (by omega)]; omega
 ·rw [if_neg h2]
  by_cases h3 : n < 0x10000
  ·rw [if_pos h3]
   refine ⟨UInt8.ofNat (0xE0 + n / 4096), [UInt8.ofNat (0x80 + n / 64 % 64), UInt8.ofNat (0x80 + n % 64)], rfl, by rw [tn _ (by omega)]; omega, by simp, ?_⟩
   intro b hb
   simp only [List.mem_cons, List.not_mem_nil, or_false] at hb
   rcases hb with rfl | rfl <;> (unfold inner; rw [tn _ (by omega)]; omega)
  ·rw [if_neg h3]
   refine ⟨UInt8.ofNat (0xF0 + n / 262144), [UInt8.ofNat (0x80 + n / 4096 % 64), UInt8.ofNat (0x80 + n / 64 % 64), UInt8.ofNat (0x80 + n % 64)], rfl, by rw [tn _ (by omega)]; omega, by simp, ?_⟩
   intro b hb
   simp only [List.mem_cons, List.not_mem_nil, or_false] at hb
   rcases hb with rfl | rfl | rfl <;> (unfold inner; rw [tn _ (by omega)]; omega)
theorem bytesOf_bl (z : ByteArray) : bytesOf z = (bl z).map fun b => (b.toNat : Int) := rfl
theorem bytes_enc_nil {x : List Int} : bytesOf (enc x) = [] ↔ x = [] := by
 rw [← List.length_eq_zero_iff, bytesOf_length, enc_size_zero]
theorem head_alike {b : Int} (hb : Utf8.valid b = true) (y : List Int) : ∃ f t, bytesOf (enc (b :: y)) = f :: t ∧ Alike f b := by
 have h0 := valid_nonneg hb
 rw [bytesOf_bl, bl_enc_cons]
 by_cases h : b < 128
 ·have e := encode_asc (b := b) ⟨h0.1, h⟩
  rw [bytesOf_bl] at e
  rw [List.map_append, e]
  exact ⟨b, _, rfl, .inl rfl⟩
 ·obtain ⟨f, t, e, hf, _, _⟩ := encode_high b (by omega)
  rw [e]
  exact ⟨(f.toNat : Int), _, rfl, .inr ⟨by omega, by omega⟩⟩
theorem last_alike {a : Int} (ha : Utf8.valid a = true) (u : List Int) : ∃ t l, bytesOf (enc (u ++ [a])) = t ++ [l] ∧ Alike l a := by
 have h0 := valid_nonneg ha
 rw [enc_append, bytesOf_append]
 have e0 : bytesOf (enc [a]) = bytesOf (Utf8.encode a) := by
  rw [bytesOf_bl, bl_enc_cons, enc_nil]; simp [bytesOf_bl, bl]
 rw [e0]
 by_cases h : a < 128
 ·rw [encode_asc (b := a) ⟨h0.1, h⟩]
  exact ⟨_, a, rfl, .inl rfl⟩
 ·obtain ⟨f, t, e, hf, ht, hi⟩ := encode_high a (by omega)
  rw [bytesOf_bl (Utf8.encode a), e]
  rcases List.eq_nil_or_concat t with g | ⟨t', l, g⟩
  ·exact absurd g ht
  ·rw [List.concat_eq_append] at g
   subst g
   have := hi l (by simp)
   unfold inner at this
   refine ⟨bytesOf (enc u) ++ (f :: t').map fun b => (b.toNat : Int), (l.toNat : Int), by simp, .inr ⟨by omega, by omega⟩⟩
theorem suffix_bytes {y x : List Int} (hy : Asc y) (hx : Valids x) : y <:+ bytesOf (enc x) ↔ y <:+ x := by
 constructor
 ·rintro ⟨t, ht⟩
  have h1 : ∀ b ∈ t, 0 ≤ b ∧ b < 256 := fun b hb => bytesOf_range (z := enc x) b (by rw [← ht]; simp [hb])
  have h2 : enc x = strOfNums t ++ enc y := by
   apply bytesOf_inj
   rw [bytesOf_append, bytesOf_strOfNums h1, bytes_enc hy, ht]
  obtain ⟨c, hc, _⟩ := suf_of_bytes hx hy.valids h2
  exact ⟨c, hc.symm⟩
 ·rintro ⟨c, rfl⟩
  rw [enc_append, bytesOf_append, bytes_enc hy]
  exact ⟨_, rfl⟩
theorem asc_nn : Asc [10, 10] := by intro b hb; simp at hb; omega
theorem asc_nrn : Asc [10, 13, 10] := by intro b hb; simp at hb; omega
theorem blankE_bytes {x : List Int} (hx : Valids x) : blankE (bytesOf (enc x)) = blankE x := by
 unfold blankE
 simp only [suffix_bytes asc_nn hx, suffix_bytes asc_nrn hx]
theorem scoreG_bytes {x y : List Int} (hx : Valids x) (hy : Valids y) : scoreG (bytesOf (enc x)) (bytesOf (enc y)) = scoreG x y := by
 unfold scoreG
 rw [blankE_bytes hx, blankE_bytes hy]
 by_cases h : x = [] ∨ y = []
 ·rw [if_pos h, if_pos (by rw [bytes_enc_nil, bytes_enc_nil]; exact h)]
 ·rw [if_neg h, if_neg (by rw [bytes_enc_nil, bytes_enc_nil]; exact h)]
  rcases List.eq_nil_or_concat x with g | ⟨u, a, g⟩
  ·exact absurd (.inl g) h
  ·rw [List.concat_eq_append] at g
   match y, h with
   | [], h => exact absurd (.inr rfl) h
   | b :: y, _ =>
    obtain ⟨t, l, e1, h1⟩ := last_alike (a := a) (hx a (by rw [g]; simp)) u
    obtain ⟨f, t', e2, h2⟩ := head_alike (b := b) (hy b (by simp)) y
    have k1 : (bytesOf (enc x)).getLastD 0 = l := by rw [g, e1]; simp
    have k2 : (bytesOf (enc (b :: y))).headD 0 = f := by rw [e2]; rfl
    have k3 : x.getLastD 0 = a := by rw [g]; simp
    rw [k1, k2, k3, show (b :: y).headD 0 = b from rfl, h1.cls.2.2, h2.cls.2.2]
    exact scoreL_alike h1 h2
theorem scoreG_two {x y : List Int} (hx : x ≠ []) (hy : y ≠ []) (h1 : 128 ≤ x.getLastD 0) (h2 : 128 ≤ y.headD 0) : scoreG x y = 1 := by
 unfold scoreG
 rw [if_neg (by rintro (h | h) <;> contradiction), (high h1).2.2, (high h2).2.2]
 exact scoreL_two h1 h2
theorem scoreG_ge {x y : List Int} (h1 : 128 ≤ x.getLastD 0) : 1 ≤ scoreG x y := by
 unfold scoreG
 split
 ·omega
 ·exact scoreL_high (fun _ => by omega) h1
end Go.Proofs.YtmfgccjcnnlehaaDoorZF
namespace Go.Proofs.YtmfgccjcnnlehaaDoorZF
open Go
set_option linter.unusedVariables false
set_option linter.unusedSimpArgs false
theorem nonAlnum_ok (n : Nat) (c : Int) : g179 n c = some (!letter c, ()) := by
 dsimp only [g179, g179_1, letter]
 by_cases h1 : 97 ≤ c <;> by_cases h2 : c ≤ 122 <;> by_cases h3 : 65 ≤ c <;> by_cases h4 : c ≤ 90 <;> by_cases h5 : 48 ≤ c <;> by_cases h6 : c ≤ 57 <;> first | omega | (simp [h1, h2, h3, h4, h5, h6]; done) | (simp [h1, h2, h3, h4, h5, h6]; omega)
theorem white_ok (n : Nat) (c : Int) : g180 n c = some (space c, ()) := by
 dsimp only [g180, g180_1, space]
 have e : ∀ k : Int, ¬ c = k → (c == k) = false := fun k h => beq_false_of_ne h
 by_cases h1 : c = 32
 ·subst h1; rfl
 by_cases h2 : c = 9
 ·subst h2; rfl
 by_cases h3 : c = 10
 ·subst h3; rfl
 by_cases h4 : c = 13
 ·subst h4; rfl
 by_cases h5 : c = 12
 ·subst h5; rfl
 simp [e _ h1, e _ h2, e _ h3, e _ h4, e _ h5, h1, h2, h3, h4, h5]
theorem brk_ok (n : Nat) (c : Int) : g181 n c = some (brk c, ()) := by
 dsimp only [g181, g181_1, brk]
 have e : ∀ k : Int, ¬ c = k → (c == k) = false := fun k h => beq_false_of_ne h
 by_cases h3 : c = 10
 ·subst h3; rfl
 by_cases h4 : c = 13
 ·subst h4; rfl
 simp [e _ h3, e _ h4, h3, h4]
theorem brk_space {c : Int} (h : brk c = true) : space c = true := by
 unfold brk at h; unfold space; simp at h ⊢; omega
theorem space_letter {c : Int} (h : space c = true) : letter c = false := by
 unfold space at h; unfold letter; simp at h ⊢; omega
theorem suffix_raw {X : ByteArray} {y : List Int} (hy : Asc y) : (∃ u, X = u ++ enc y) ↔ y <:+ bytesOf X := by
 constructor
 ·rintro ⟨u, rfl⟩
  rw [bytesOf_append, bytes_enc hy]
  exact ⟨_, rfl⟩
 ·rintro ⟨t, ht⟩
  have h1 : ∀ b ∈ t, 0 ≤ b ∧ b < 256 := fun b hb => bytesOf_range (z := X) b (by rw [← ht]; simp [hb])
  refine ⟨strOfNums t, ?_⟩
  apply bytesOf_inj
  rw [bytesOf_append, bytesOf_strOfNums h1, bytes_enc hy, ht]
theorem enc_two : enc [10, 10] = (⟨#[10, 10]⟩ : ByteArray) := by rw [← asc_nn.eq]; rfl
theorem enc_three : enc [10, 13, 10] = (⟨#[10, 13, 10]⟩ : ByteArray) := by rw [← asc_nrn.eq]; rfl
theorem blanklineEnd_raw (n : Nat) (X : ByteArray) (hl : X.size ≤ 1000000000000) : g182 n X = some (blankE (bytesOf X), ()) := by
 dsimp only [g182, g182_1]
 rw [← enc_two, ← enc_three, hasSuffix_raw n _ _ hl (by rw [enc_two]; decide), hasSuffix_raw n _ _ hl (by rw [enc_three]; decide)]
 unfold blankE
 have e1 : (∃ u, X = u ++ enc [10, 10]) ↔ [10, 10] <:+ bytesOf X := suffix_raw asc_nn
 have e2 : (∃ u, X = u ++ enc [10, 13, 10]) ↔ [10, 13, 10] <:+ bytesOf X := suffix_raw asc_nrn
 by_cases h : [10, 10] <:+ bytesOf X <;> by_cases h2 : [10, 13, 10] <:+ bytesOf X <;> simp [h, h2, e1, e2]
theorem readLast (n : Nat) {X : ByteArray} {t : List Int} {l : Int} (hX : bytesOf X = t ++ [l]) (hs : X.size ≤ 1000000000000) : ∃ r k, g178 n X = some (r, (k, ())) ∧ Alike r l := by
 unfold g178
 rw [if_pos (by omega)]
 refine ⟨_, _, rfl, ?_⟩
 rw [bytesOf_bl] at hX
 obtain ⟨u, v, e, h1, h2⟩ := List.map_eq_append_iff.1 hX
 obtain ⟨b, r, e2, h3, h4⟩ := List.map_eq_cons_iff.1 h2
 have hr : r = [] := List.map_eq_nil_iff.1 h4
 subst hr
 subst e2
 unfold bl at e
 rw [e]
 by_cases hb : b.toNat < 128
 ·rw [Lib.decodeLastL_ascii u b hb]; exact .inl h3
 ·have := last_hi u b (by omega)
  exact .inr ⟨by omega, by omega⟩
theorem get_zero {Y : ByteArray} {b : UInt8} {r : List UInt8} (h : bl Y = b :: r) : Y.get! 0 = b := by
 obtain ⟨⟨l⟩⟩ := Y
 unfold bl at h
 simp only at h
 subst h
 rfl
theorem readHead (n : Nat) {Y : ByteArray} {t : List Int} {f : Int} (hY : bytesOf Y = f :: t) : ∃ r k, g114 n Y = some (r, (k, ())) ∧ Alike r f := by
 unfold g114 Lib.decodeGo
 have hs : Y.size ≠ 0 := by rw [← bytesOf_length, hY]; simp
 rw [if_neg hs]
 refine ⟨_, _, rfl, ?_⟩
 rw [bytesOf_bl] at hY
 obtain ⟨b, r, e2, h3, h4⟩ := List.map_eq_cons_iff.1 hY
 have hg := get_zero e2
 by_cases hb : b.toNat < 128
 ·rw [dec_lo Y (by rw [hg]; exact hb), hg]; exact .inl h3
 ·have := dec_hi Y (by rw [hg]; omega)
  exact .inr ⟨by omega, by omega⟩
theorem score_raw (n : Nat) (X Y : ByteArray) (hl : X.size ≤ 1000000000000) (hl2 : Y.size ≤ 1000000000000) : g156 n X Y = some (scoreG (bytesOf X) (bytesOf Y), ()) := by
 dsimp only [g156, g156_8, g156_7, g156_6, g156_5, g156_4, g156_3, g156_2, g156_1]
 have lx := bytesOf_length X
 have ly := bytesOf_length Y
 rcases List.eq_nil_or_concat (bytesOf X) with g | ⟨u, a, g⟩
 ·rw [g] at lx
  rw [biT (by rw [beq_iff_eq]; simp only [List.length_nil] at lx; omega)]
  simp [scoreG, g]
 ·rw [List.concat_eq_append] at g
  cases gy : bytesOf Y with
  | nil =>
   rw [gy] at ly
   rw [g] at lx
   simp only [List.length_append, List.length_cons, List.length_nil] at lx ly
   rw [biF (by rw [beq_eq_false_iff_ne]; omega), biT (by rw [beq_iff_eq]; omega)]
   simp [scoreG]
  | cons b v =>
   rw [gy] at ly
   rw [g] at lx
   simp only [List.length_append, List.length_cons, List.length_nil] at lx ly
   rw [biF (by rw [beq_eq_false_iff_ne]; omega), biF (by rw [beq_eq_false_iff_ne]; omega)]
   obtain ⟨r1, k1, d1, h1⟩ := readLast n g hl
   obtain ⟨r2, k2, d2, h2⟩ := readHead n gy
   rw [d1, d2]
   have e5 : scoreG (u ++ [a]) (b :: v) = scoreL ((brk r1 && blankE (bytesOf X)) || (brk r2 && blankE (bytesOf Y))) r1 r2 := by
    have c1 : (u ++ [a]).getLastD 0 = a := by simp
    unfold scoreG
    rw [if_neg (by simp), c1, show (b :: v).headD 0 = b from rfl, h1.cls.2.2, h2.cls.2.2, g, gy]
    exact (scoreL_alike h1 h2).symm
   rw [g, e5]
   simp only [Option.bind_some, nonAlnum_ok, white_ok, brk_ok, blanklineEnd_raw n X hl, blanklineEnd_raw n Y hl2]
   unfold scoreL
   have c1 := @brk_space r1
   have c2 := @brk_space r2
   have c3 := @space_letter r1
   have c4 := @space_letter r2
   cases h1 : letter r1 <;> cases h2 : space r1 <;> cases h3 : brk r1 <;> cases h5 : letter r2 <;> cases h6 : space r2 <;> cases h7 : brk r2 <;> first | rfl | (cases hX : blankE (bytesOf X) <;> cases hY : blankE (bytesOf Y) <;> first | rfl | simp_all)
theorem score_enc (n : Nat) {x y : List Int} (hx : Valids x) (hy : Valids y) (hl : (enc x).size ≤ 1000000000000) (hl2 : (enc y).size ≤ 1000000000000) : g156 n (enc x) (enc y) = some (scoreG x y, ()) := by
 rw [score_raw n _ _ hl hl2, scoreG_bytes hx hy]
end Go.Proofs.YtmfgccjcnnlehaaDoorZF
namespace Go.Proofs.YtmfgccjcnnlehaaDoorZF
open Go
set_option linter.unusedVariables false
set_option linter.unusedSimpArgs false
theorem scoreG_range (x y : List Int) : 0 ≤ scoreG x y ∧ scoreG x y ≤ 6 := by
 unfold scoreG scoreL
 repeat' split
 all_goals omega
theorem baa (x y z : ByteArray) : x ++ y ++ z = x ++ (y ++ z) := ByteArray.append_assoc
theorem dec_ok (n : Nat) (v : ByteArray) : g114 n v = some (((Lib.decodeGo v).1 : Int), (((Lib.decodeGo v).2 : Int), ())) := rfl
theorem bytes_size_pos {z : ByteArray} : (z.size : Int) ≠ 0 ↔ 0 < z.size := by omega
section
variable {β : Type} (n : Nat) (kx2 : (Int × Int × Int × Nat × Int × Int × Nat) → List (Int × ByteArray) → Int → ByteArray → ByteArray → ByteArray → Option β)
theorem loss_step (m : Nat) (p0) (x1 : List (Int × ByteArray)) (v5 : Int) (A S B e X Y Z : ByteArray) (best : Int) (he : (Lib.decodeGo (e ++ S)).2 = e.size) (h1 : 1 ≤ e.size) (hA : A.size ≤ 100000000000) (hS : (e ++ S).size ≤ 100000000000) (hB : (e ++ B).size ≤ 100000000000) :
  g125_7L n kx2 (m + 1) p0 x1 v5 A (e ++ S) (e ++ B) X Y Z best =
   if best ≤ scoreG (bytesOf (A ++ e)) (bytesOf (S ++ e)) + scoreG (bytesOf (S ++ e)) (bytesOf B) then g125_7L n kx2 m p0 x1 v5 (A ++ e) (S ++ e) B (A ++ e) (S ++ e) B (scoreG (bytesOf (A ++ e)) (bytesOf (S ++ e)) + scoreG (bytesOf (S ++ e)) (bytesOf B))
   else g125_7L n kx2 m p0 x1 v5 (A ++ e) (S ++ e) B X Y Z best := by
 have s1 := size_append e S
 have s2 := size_append e B
 have s3 := size_append A e
 have s4 := size_append S e
 have r1 := scoreG_range (bytesOf (A ++ e)) (bytesOf (S ++ e))
 have r2 := scoreG_range (bytesOf (S ++ e)) (bytesOf B)
 have c1 : cutS (e ++ S) 0 (e.size : Int) = e := cutS_append_left e S
 have c2 : cutS (e ++ B) 0 (e.size : Int) = e := cutS_append_left e B
 have c3 : cutS (e ++ S) (e.size : Int) ((e ++ S).size : Int) = S := cutS_append_right e S
 have c4 : cutS (e ++ B) (e.size : Int) ((e ++ B).size : Int) = B := cutS_append_right e B
 rw [g125_7L.eq_2, g125_6]
 rw [biT (by rw [bne_iff_ne]; omega), biT (by rw [bne_iff_ne]; omega), dec_ok, Option.bind_some]
 simp only [he, c1, c2, c3, c4]
 rw [bdF (by omega), bnd_ok (by omega) (by omega) (by omega), bnd_ok (by omega) (by omega) (by omega), biF (by rw [strEq_eq]; simp), bnd_ok (by omega) (by omega) (by omega), roomy_ok (by omega), bnd_ok (by omega) (by omega) (by omega), bnd_ok (by omega) (by omega) (by omega), roomy_ok (by omega), bnd_ok (by omega) (by omega) (by omega)]
 rw [score_raw n _ _ (by omega) (by omega), Option.bind_some, score_raw n _ _ (by omega) (by omega), Option.bind_some]
 simp only
 rw [w64_id (by omega) (by omega)]
 split
 ·rename_i h; rw [bdT h]
 ·rename_i h; rw [bdF h]
theorem loss_stop (m : Nat) (p0) (x1 : List (Int × ByteArray)) (v5 : Int) (A S B X Y Z : ByteArray) (best : Int) (h : S.size = 0 ∨ B.size = 0 ∨ ((Lib.decodeGo S).2 ≤ S.size ∧ (B.size < (Lib.decodeGo S).2 ∨ cutS S 0 ((Lib.decodeGo S).2 : Int) ≠ cutS B 0 ((Lib.decodeGo S).2 : Int)))) :
  g125_7L n kx2 (m + 1) p0 x1 v5 A S B X Y Z best = kx2 p0 x1 v5 X Y Z := by
 rw [g125_7L.eq_2, g125_6]
 by_cases h1 : S.size = 0
 ·rw [biF (by rw [bne_eq_false_iff_eq]; omega)]
 ·rw [biT (by rw [bne_iff_ne]; omega)]
  by_cases h2 : B.size = 0
  ·rw [biF (by rw [bne_eq_false_iff_eq]; omega)]
  ·rw [biT (by rw [bne_iff_ne]; omega), dec_ok, Option.bind_some]
   simp only
   obtain ⟨hw, h⟩ := (h.resolve_left h1).resolve_left h2
   by_cases h3 : B.size < (Lib.decodeGo S).2
   ·rw [bdT (by omega)]
   ·rw [bdF (by omega), bnd_ok (by omega) (by omega) (by omega), bnd_ok (by omega) (by omega) (by omega), biT (by rw [strEq_eq]; simp; exact h.resolve_left h3)]
theorem walk_ok (p0) (x1 : List (Int × ByteArray)) (v5 : Int) : ∀ (k : Nat) (a s b : List Int) (X : Tri) (best : Int) (m : Nat), b.length = k → k < m → Valids a → Valids s → Valids b → (enc a).size + (enc s).size + (enc b).size ≤ 100000000000 →
  g125_7L n kx2 m p0 x1 v5 (enc a) (enc s) (enc b) (enc X.1) (enc X.2.1) (enc X.2.2) best = kx2 p0 x1 v5 (enc (walkR a s b X best).1) (enc (walkR a s b X best).2.1) (enc (walkR a s b X best).2.2) := by
 intro k
 induction k with
 | zero =>
  intro a s b X best m hb hm _ _ _ _
  obtain ⟨m, rfl⟩ : ∃ m', m = m' + 1 := ⟨m - 1, by omega⟩
  have := List.eq_nil_of_length_eq_zero hb
  subst this
  rw [loss_stop n kx2 m p0 x1 v5 _ _ _ _ _ _ best (.inr (.inl rfl))]
  cases s <;> simp only [walkR]
 | succ k ih =>
  intro a s b X best m hb hm va vs vb hsz
  obtain ⟨m, rfl⟩ : ∃ m', m = m' + 1 := ⟨m - 1, by omega⟩
  match s, b, hb, vs, vb, hsz with
  | [], d :: b, hb, vs, vb, hsz =>
   rw [loss_stop n kx2 m p0 x1 v5 _ _ _ _ _ _ best (.inl rfl)]
   simp only [walkR]
  | c :: s, d :: b, hb, vs, vb, hsz =>
   have hc := vs.cons.1
   have hd := vb.cons.1
   have dc := decode_head c s ByteArray.empty hc
   rw [ByteArray.append_empty] at dc
   have e1 : enc (c :: s) = enc [c] ++ enc s := enc_append [c] s
   have e2 : enc (d :: b) = enc [d] ++ enc b := enc_append [d] b
   have ec : (enc [c]).size = (Utf8.encode c).size := by rw [enc_size_cons]; rfl
   have pc := encode_pos c
   have hgo : Lib.decodeGo (enc (c :: s)) = (c.toNat, (Utf8.encode c).size) := by
    unfold Lib.decodeGo
    rw [if_neg (by rw [enc_size_cons]; omega), dc]
   have z1 := enc_size_cons c s
   have z2 := enc_size_cons d b
   by_cases hcd : c = d
   ·subst hcd
    have q1 : enc a ++ enc [c] = enc (a ++ [c]) := (enc_append a [c]).symm
    have q2 : enc s ++ enc [c] = enc (s ++ [c]) := (enc_append s [c]).symm
    have wa : Valids (a ++ [c]) := va.append fun x hx => by rw [List.mem_singleton.1 hx]; exact hc
    have ws : Valids (s ++ [c]) := vs.cons.2.append fun x hx => by rw [List.mem_singleton.1 hx]; exact hc
    have y1 := enc_size_append a [c]
    have y2 := enc_size_append s [c]
    rw [e1, e2, loss_step n kx2 m p0 x1 v5 _ _ _ _ _ _ _ best (by rw [← e1, hgo, ec]) (by omega) (by omega) (by rw [← e1]; omega) (by rw [← e2]; omega), q1, q2, scoreG_bytes wa ws, scoreG_bytes ws vb.cons.2]
    rw [walkR, if_pos rfl]
    split
    ·exact ih (a ++ [c]) (s ++ [c]) b (a ++ [c], s ++ [c], b) _ m (by simpa using hb) (by omega) wa ws vb.cons.2 (by omega)
    ·exact ih (a ++ [c]) (s ++ [c]) b X best m (by simpa using hb) (by omega) wa ws vb.cons.2 (by omega)
   ·rw [walkR, if_neg hcd, loss_stop n kx2 m p0 x1 v5 _ _ _ _ _ _ best]
    right; right
    rw [hgo]
    refine ⟨by show (Utf8.encode c).size ≤ _; omega, ?_⟩
    by_cases hlt : (enc (d :: b)).size < (Utf8.encode c).size
    ·exact .inl hlt
    ·right
     intro heq
     have k1 : cutS (enc (c :: s)) 0 ((Utf8.encode c).size : Int) = enc [c] := by rw [e1, ← ec]; exact cutS_append_left _ _
     rw [k1] at heq
     have k2 : enc (d :: b) = enc [c] ++ cutS (enc (d :: b)) ((Utf8.encode c).size : Int) ((enc (d :: b)).size : Int) := by
      rw [heq]
      apply bytesOf_inj
      rw [bytesOf_append, bytesOf_cutS, bytesOf_cutS, cut_from, cut_to _ _ _ (by rw [bytesOf_length]; omega), List.take_append_drop]
     have dd := decode_head d b ByteArray.empty hd
     rw [ByteArray.append_empty, k2] at dd
     have dc2 := decode_head c [] (cutS (enc (d :: b)) ((Utf8.encode c).size : Int) ((enc (d :: b)).size : Int)) hc
     rw [dd] at dc2
     have := congrArg Prod.fst dc2
     have h1 := valid_nonneg hc
     have h2 := valid_nonneg hd
     simp only at this
     omega
end
def LastHi (X : ByteArray) : Prop := ∃ t l, bytesOf X = t ++ [l] ∧ 128 ≤ l
def FirstHi (X : ByteArray) : Prop := ∃ t l, bytesOf X = l :: t ∧ 128 ≤ l
theorem LastHi.append {X : ByteArray} (Y : ByteArray) (h : LastHi X) : LastHi (Y ++ X) := by
 obtain ⟨t, l, e, hl⟩ := h
 exact ⟨bytesOf Y ++ t, l, by rw [bytesOf_append, e, List.append_assoc], hl⟩
theorem FirstHi.append {X : ByteArray} (Y : ByteArray) (h : FirstHi X) : FirstHi (X ++ Y) := by
 obtain ⟨t, l, e, hl⟩ := h
 exact ⟨t ++ bytesOf Y, l, by rw [bytesOf_append, e]; rfl, hl⟩
theorem score_hi2 {X Y : ByteArray} (h : LastHi X) (k : FirstHi Y) : scoreG (bytesOf X) (bytesOf Y) = 1 := by
 obtain ⟨t, l, e, hl⟩ := h
 obtain ⟨t', f, e', hf⟩ := k
 rw [e, e']
 exact scoreG_two (by simp) (by simp) (by simpa using hl) (by simpa using hf)
theorem score_hi1 {X Y : ByteArray} (h : LastHi X) : 1 ≤ scoreG (bytesOf X) (bytesOf Y) := by
 obtain ⟨t, l, e, hl⟩ := h
 rw [e]
 exact scoreG_ge (by simpa using hl)
def mkB (l : List UInt8) : ByteArray := ⟨l.toArray⟩
theorem mkB_cons (b : UInt8) (l : List UInt8) : mkB (b :: l) = mkB [b] ++ mkB l := by
 apply ba_ext; simp [mkB, ByteArray.data_append]
theorem bytes_mkB (l : List UInt8) : bytesOf (mkB l) = l.map fun b => (b.toNat : Int) := rfl
theorem mkB_size (l : List UInt8) : (mkB l).size = l.length := by rw [← bytesOf_length, bytes_mkB, List.length_map]
section
variable {β : Type} (n : Nat) (kx2 : (Int × Int × Int × Nat × Int × Int × Nat) → List (Int × ByteArray) → Int → ByteArray → ByteArray → ByteArray → Option β)
theorem broke_ok (m : Nat) (p0) (x1 : List (Int × ByteArray)) (v5 : Int) : ∀ (l : List UInt8) (A S B X Y Z : ByteArray), l ≠ [] → (∀ b ∈ l, inner b) → LastHi A → LastHi S → A.size + 2 * (mkB l).size + S.size + B.size ≤ 10000000000 →
  g125_7L n kx2 (l.length + m) p0 x1 v5 A (mkB l ++ S) (mkB l ++ B) X Y Z 2 = g125_7L n kx2 m p0 x1 v5 (A ++ mkB l) (S ++ mkB l) B (A ++ mkB l) (S ++ mkB l) B (scoreG (bytesOf (A ++ mkB l)) (bytesOf (S ++ mkB l)) + scoreG (bytesOf (S ++ mkB l)) (bytesOf B))
 | [], A, S, B, X, Y, Z, h, _, _, _, _ => absurd rfl h
 | b :: l, A, S, B, X, Y, Z, _, hi, hA, hS, hsz => by
  have hb := hi b (by simp)
  have hbl : LastHi (mkB [b]) := ⟨[], (b.toNat : Int), rfl, by unfold inner at hb; omega⟩
  have hgo : (Lib.decodeGo (mkB [b] ++ (mkB l ++ S))).2 = (mkB [b]).size := by
   unfold Lib.decodeGo
   have hne : (mkB [b] ++ (mkB l ++ S)).size ≠ 0 := by rw [size_append, mkB_size]; simp
   have hg : (mkB [b] ++ (mkB l ++ S)).get! 0 = b := by
    have : bl (mkB [b] ++ (mkB l ++ S)) = b :: bl (mkB l ++ S) := by rw [bl_append]; rfl
    exact get_zero this
   rw [if_neg hne, dec_inner _ (by rw [hg]; exact hb)]
   rfl
  have s1 := mkB_size (b :: l)
  have s2 := mkB_size l
  have s3 : (mkB [b]).size = 1 := rfl
  have s4 := size_append (mkB l) S
  have s5 := size_append (mkB l) B
  have s6 := size_append (mkB [b]) (mkB l ++ S)
  have s7 := size_append (mkB [b]) (mkB l ++ B)
  simp only [List.length_cons] at s1 ⊢
  rw [mkB_cons b l, baa, baa, show l.length + 1 + m = (l.length + m) + 1 by omega, loss_step n kx2 (l.length + m) p0 x1 v5 A (mkB l ++ S) (mkB l ++ B) (mkB [b]) X Y Z 2 hgo (by omega) (by omega) (by omega) (by omega)]
  have k1 : LastHi (A ++ mkB [b]) := hbl.append A
  have k2 : LastHi (S ++ mkB [b]) := hbl.append S
  by_cases hl : l = []
  ·subst hl
   have z : mkB [] = (⟨#[]⟩ : ByteArray) := rfl
   have e1 : ∀ Q : ByteArray, mkB [] ++ Q = Q := fun Q => by apply ba_ext; rw [z, ByteArray.data_append]; simp
   have e2 : ∀ Q : ByteArray, Q ++ mkB [] = Q := fun Q => by apply ba_ext; rw [z, ByteArray.data_append]; simp
   simp only [e1, e2]
   have g1 := score_hi1 (Y := S ++ mkB [b]) k1
   have g2 := score_hi1 (Y := B) k2
   rw [if_pos (by omega)]
   simp
  ·obtain ⟨c, l', e⟩ := List.exists_cons_of_ne_nil hl
   have hc : FirstHi (mkB l) := by
    subst e
    have := hi c (by simp)
    unfold inner at this
    exact ⟨l'.map fun b => (b.toNat : Int), (c.toNat : Int), rfl, by omega⟩
   have g1 : scoreG (bytesOf (A ++ mkB [b])) (bytesOf (mkB l ++ S ++ mkB [b])) = 1 := score_hi2 k1 ((hc.append S).append _)
   have g2 : scoreG (bytesOf (mkB l ++ S ++ mkB [b])) (bytesOf (mkB l ++ B)) = 1 := score_hi2 (hbl.append _) (hc.append B)
   rw [g1, g2, if_pos (by omega)]
   have := broke_ok m p0 x1 v5 l (A ++ mkB [b]) (S ++ mkB [b]) B (A ++ mkB [b]) (mkB l ++ S ++ mkB [b]) (mkB l ++ B) hl (fun b hb => hi b (by simp [hb])) k1 k2 (by rw [size_append, size_append]; omega)
   rw [baa (mkB l) S (mkB [b]), show (1 : Int) + 1 = 2 from rfl]
   rw [baa (mkB l) S (mkB [b])] at this
   rw [this, baa A, baa S]
end
end Go.Proofs.YtmfgccjcnnlehaaDoorZF
namespace Go.Proofs.YtmfgccjcnnlehaaDoorZF
open Go
set_option linter.unusedVariables false
set_option linter.unusedSimpArgs false
theorem wholeJ_append (q : List Int) : ∀ (r : List Int) (k : Nat), k ≤ (enc r.reverse).size → wholeJ (r ++ q) k = wholeJ r k
 | [], k, h => by
  have hk : k = 0 := by have : (enc []).size = 0 := rfl; simp at h; omega
  subst hk
  cases q with
  | nil => rfl
  | cons c q => have := encode_pos c; simp only [List.nil_append]; rw [show wholeJ [] 0 = 0 from rfl, wholeJ, if_neg (by omega)]
 | c :: r, k, h => by
  rw [List.reverse_cons, enc_size_append, enc_size_cons] at h
  have h0 : (enc []).size = 0 := rfl
  rw [List.cons_append, wholeJ, wholeJ]
  split
  ·rw [wholeJ_append q r _ (by omega)]
  ·rfl
theorem tail_bytes : ∀ (r : List Int) (k : Nat), Valids r → k ≤ (enc r.reverse).size → ∃ (l : List UInt8) (U : ByteArray), enc r.reverse = U ++ (mkB l ++ enc (r.reverse.drop (r.length - wholeJ r k))) ∧ (mkB l ++ enc (r.reverse.drop (r.length - wholeJ r k))).size = k ∧ (∀ b ∈ l, inner b) ∧
      U ++ mkB l = enc (r.reverse.take (r.length - wholeJ r k)) ∧ (l ≠ [] → LastHi U)
  | [], k, _, h => by
    have hk : k = 0 := by have : (enc []).size = 0 := rfl; simp at h; omega
    subst hk
    exact ⟨[], enc [], rfl, rfl, by simp, rfl, by simp⟩
  | c :: r, k, hv, h => by
    have hr := hv.cons.2
    have h0 : (enc []).size = 0 := rfl
    have e1 : enc (c :: r).reverse = enc r.reverse ++ enc [c] := by rw [List.reverse_cons, enc_append]
    have ec : (enc [c]).size = (Utf8.encode c).size := by rw [enc_size_cons]; rfl
    rw [wholeJ]
    by_cases hk : (Utf8.encode c).size ≤ k
    · rw [if_pos hk]
      have h' : k - (Utf8.encode c).size ≤ (enc r.reverse).size := by rw [e1, size_append] at h; omega
      obtain ⟨l, U, q1, q2, q3, q4, q5⟩ := tail_bytes r _ hr h'
      have hj := wholeJ_le r (k - (Utf8.encode c).size)
      generalize wholeJ r (k - (Utf8.encode c).size) = j at *
      have e2 : (c :: r).length - (1 + j) = r.length - j := by simp only [List.length_cons]; omega
      have e3 : (c :: r).reverse.drop ((c :: r).length - (1 + j)) = r.reverse.drop (r.length - j) ++ [c] := by
        rw [e2, List.reverse_cons, List.drop_append_of_le_length (by simp)]
      have e4 : (c :: r).reverse.take ((c :: r).length - (1 + j)) = r.reverse.take (r.length - j) := by
        rw [e2, List.reverse_cons, List.take_append_of_le_length (by simp)]
      refine ⟨l, U, ?_, ?_, q3, ?_, q5⟩
      · rw [e3, e1, enc_append, q1]; simp only [baa]
      · rw [e3, enc_append, ← baa, size_append, q2, ec]; omega
      · rw [e4]; exact q4
    · rw [if_neg hk]
      simp only [Nat.sub_zero]
      have e3 : (c :: r).reverse.drop (c :: r).length = [] := List.drop_of_length_le (by simp)
      have e4 : (c :: r).reverse.take (c :: r).length = (c :: r).reverse := List.take_of_length_le (by simp)
      rw [e3, e4, e1]
      have en : ∀ Q : ByteArray, Q ++ enc [] = Q := fun Q => by apply ba_ext; rw [enc_nil, ByteArray.data_append]; simp
      simp only [en]
      by_cases hk0 : k = 0
      · subst hk0
        have z : mkB [] = (⟨#[]⟩ : ByteArray) := rfl
        have e0 : ∀ Q : ByteArray, Q ++ mkB [] = Q := fun Q => by apply ba_ext; rw [z, ByteArray.data_append]; simp
        exact ⟨[], enc r.reverse ++ enc [c], by rw [e0], rfl, by simp, by rw [e0], by simp⟩
      ·
        have hc : 128 ≤ c := by
          by_cases hlt : c < 128
          · exfalso
            have h1 := valid_nonneg hv.cons.1
            have := encode_asc (b := c) ⟨h1.1, hlt⟩
            have h2 := bytesOf_length (Utf8.encode c)
            rw [this] at h2
            simp at h2
            omega
          · omega
        obtain ⟨f, t, g1, g2, g3, g4⟩ := encode_high c hc
        have hsz : (Utf8.encode c).size = t.length + 1 := by rw [← bl_length, g1]; rfl
        have hbl : bl (enc [c]) = f :: t := by rw [bl_enc_cons, g1, enc_nil]; simp [bl]
        have hsp : enc [c] = mkB (f :: t.take (t.length - k)) ++ mkB (t.drop (t.length - k)) := by
          apply bl_inj
          rw [hbl, bl_append]
          show f :: t = (f :: t.take (t.length - k)) ++ t.drop (t.length - k)
          rw [List.cons_append, List.take_append_drop]
        refine ⟨t.drop (t.length - k), enc r.reverse ++ mkB (f :: t.take (t.length - k)), ?_, ?_, fun b hb => g4 b (List.mem_of_mem_drop hb), ?_, fun _ => ?_⟩
        · rw [baa, ← hsp]
        · rw [mkB_size, List.length_drop]; omega
        · rw [baa, ← hsp]
        · refine LastHi.append _ ?_
          rcases List.eq_nil_or_concat (t.take (t.length - k)) with g | ⟨u, b, g⟩
          · rw [g]; exact ⟨[], (f.toNat : Int), rfl, by omega⟩
          · rw [List.concat_eq_append] at g
            rw [g]
            have hb := g4 b (List.mem_of_mem_take (by rw [g]; simp : b ∈ t.take (t.length - k)))
            unfold inner at hb
            exact ⟨(f :: u).map fun b => (b.toNat : Int), (b.toNat : Int), by rw [bytes_mkB]; simp, by omega⟩
section
variable {β : Type} (n : Nat) (hn : Big ≤ n) (kx2 : (Int × Int × Int × Nat × Int × Int × Nat) → List (Int × ByteArray) → Int → ByteArray → ByteArray → ByteArray → Option β)
include hn
theorem inner_ok (p0) (x1 : List (Int × ByteArray)) (v5 : Int) (a s b : List Int) (va : Valids a) (vs : Valids s) (vb : Valids b) (hla : a.length ≤ 100000000) (hls : s.length ≤ 100000000) (hlb : b.length ≤ 100000000) (A0 S0 B0 : ByteArray) (k : Nat) (hk : k = csl a s)
  (hA : enc a = A0 ++ cutS (enc s) (((enc s).size : Int) - (k : Int)) ((enc s).size : Int)) (hS : S0 = cutS (enc s) (((enc s).size : Int) - (k : Int)) ((enc s).size : Int) ++ cutS (enc s) 0 (((enc s).size : Int) - (k : Int))) (hB : B0 = cutS (enc s) (((enc s).size : Int) - (k : Int)) ((enc s).size : Int) ++ enc b) :
  g125_5 n (fun p0 x1 v5 v6 v7 v8 v11 v12 v13 v14 => g125_8 n kx2 p0 x1 v5 v6 v7 v8 v11 v12 v13 v14) p0 x1 v5 A0 S0 B0 = kx2 p0 x1 v5 (enc (shiftR a s b).1) (enc (shiftR a s b).2.1) (enc (shiftR a s b).2.2) := by
 have hB' : (4611686018427387904 : Nat) ≤ n := hn
 have l1 := csl_le_left a s
 have l2 := csl_le_right a s
 have et := csl_drop a s
 rw [← hk] at l1 l2 et
 have ea : a = a.take (a.length - k) ++ a.drop (a.length - k) := (List.take_append_drop _ _).symm
 have es : s = s.take (s.length - k) ++ a.drop (a.length - k) := by rw [et]; exact (List.take_append_drop _ _).symm
 have lt : (a.drop (a.length - k)).length = k := by rw [List.length_drop]; omega
 have hst : startR a s b = (a.take (a.length - wholeJ a.reverse k), a.drop (a.length - wholeJ a.reverse k) ++ s.take (s.length - wholeJ a.reverse k), a.drop (a.length - wholeJ a.reverse k) ++ b) := by unfold startR; rw [← hk]
 have vt : Valids (a.drop (a.length - k)) := va.drop _
 have va' : Valids (a.take (a.length - k)) := va.take _
 have vs' : Valids (s.take (s.length - k)) := vs.take _
 have hjt : wholeJ a.reverse k = wholeJ (a.drop (a.length - k)).reverse k := by
  have : a.reverse = (a.drop (a.length - k)).reverse ++ (a.take (a.length - k)).reverse := by rw [← List.reverse_append, List.take_append_drop]
  rw [this]
  refine wholeJ_append _ _ _ ?_
  rw [List.reverse_reverse]
  have := enc_size_ge (a.drop (a.length - k))
  omega
 generalize ht : a.drop (a.length - k) = t at *
 generalize ha' : a.take (a.length - k) = a' at *
 generalize hs' : s.take (s.length - k) = s' at *
 have la' : a'.length + k = a.length := by rw [ea, List.length_append, lt]
 have ls' : s'.length + k = s.length := by rw [es, List.length_append, lt]
 have hkt : k ≤ (enc t.reverse.reverse).size := by rw [List.reverse_reverse]; have := enc_size_ge t; omega
 obtain ⟨l, U, q1, q2, q3, q4, q5⟩ := tail_bytes t.reverse k (fun c hc => vt c (List.mem_reverse.1 hc)) hkt
 rw [List.reverse_reverse, List.length_reverse] at q1 q2 q4
 rw [← hjt] at q1 q2 q4
 have hj0 := wholeJ_le t.reverse k
 rw [← hjt, List.length_reverse] at hj0
 generalize wholeJ a.reverse k = j at *
 have c1 : a.take (a.length - j) = a' ++ t.take (t.length - j) := by rw [ea, List.take_append, List.take_of_length_le (by rw [List.length_append]; omega)]; congr 2; rw [List.length_append]; omega
 have c2 : a.drop (a.length - j) = t.drop (t.length - j) := by rw [ea, List.drop_append, List.drop_of_length_le (by rw [List.length_append]; omega), List.nil_append]; congr 1; rw [List.length_append]; omega
 have c3 : s.take (s.length - j) = s' ++ t.take (t.length - j) := by rw [es, List.take_append, List.take_of_length_le (by rw [List.length_append]; omega)]; congr 2; rw [List.length_append]; omega
 have hC : cutS (enc s) (((enc s).size : Int) - (k : Int)) ((enc s).size : Int) = mkB l ++ enc (t.drop (t.length - j)) := by
  have e : enc s = (enc s' ++ U) ++ (mkB l ++ enc (t.drop (t.length - j))) := by rw [es, enc_append, q1]; simp only [baa]
  have hz := size_append (enc s' ++ U) (mkB l ++ enc (t.drop (t.length - j)))
  rw [q2] at hz
  rw [e, show (((enc s' ++ U) ++ (mkB l ++ enc (t.drop (t.length - j)))).size : Int) - (k : Int) = ((enc s' ++ U).size : Int) by omega]
  exact cutS_append_right _ _
 have hC2 : cutS (enc s) 0 (((enc s).size : Int) - (k : Int)) = enc s' ++ U := by
  have e : enc s = (enc s' ++ U) ++ (mkB l ++ enc (t.drop (t.length - j))) := by rw [es, enc_append, q1]; simp only [baa]
  have hz := size_append (enc s' ++ U) (mkB l ++ enc (t.drop (t.length - j)))
  rw [q2] at hz
  rw [e, show (((enc s' ++ U) ++ (mkB l ++ enc (t.drop (t.length - j)))).size : Int) - (k : Int) = ((enc s' ++ U).size : Int) by omega]
  exact cutS_append_left _ _
 have hA0 : A0 = enc a' ++ U := by
  rw [hC] at hA
  have e : enc a = (enc a' ++ U) ++ (mkB l ++ enc (t.drop (t.length - j))) := by rw [ea, enc_append, q1]; simp only [baa]
  rw [e] at hA
  have := congrArg bytesOf hA
  rw [bytesOf_append, bytesOf_append A0] at this
  exact (bytesOf_inj (List.append_cancel_right this)).symm
 rw [hC, hC2] at hS
 rw [hC] at hB
 subst hA0 hS hB
 have e1 := enc_size_le a
 have e2 := enc_size_le s
 have e3 := enc_size_le b
 have e4 : (enc a' ++ U).size + k = (enc a).size := by
  have e : enc a = (enc a' ++ U) ++ (mkB l ++ enc (t.drop (t.length - j))) := by rw [ea, enc_append, q1]; simp only [baa]
  rw [e, size_append _ (mkB l ++ _), q2]
 have e5 : (enc s' ++ U).size + k = (enc s).size := by
  have e : enc s = (enc s' ++ U) ++ (mkB l ++ enc (t.drop (t.length - j))) := by rw [es, enc_append, q1]; simp only [baa]
  rw [e, size_append _ (mkB l ++ _), q2]
 have e6 := size_append (mkB l) (enc (t.drop (t.length - j)))
 have vA : Valids (a.take (a.length - j)) := va.take _
 have vS : Valids (a.drop (a.length - j) ++ s.take (s.length - j)) := (va.drop _).append (vs.take _)
 have vB : Valids (a.drop (a.length - j) ++ b) := (va.drop _).append vb
 have last : ∀ m, (a.drop (a.length - j) ++ b).length < m → g125_7L n kx2 m p0 x1 v5 (enc (a.take (a.length - j))) (enc (a.drop (a.length - j) ++ s.take (s.length - j))) (enc (a.drop (a.length - j) ++ b)) (enc (a.take (a.length - j))) (enc (a.drop (a.length - j) ++ s.take (s.length - j))) (enc (a.drop (a.length - j) ++ b)) (scoreG (a.take (a.length - j)) (a.drop (a.length - j) ++ s.take (s.length - j)) + scoreG (a.drop (a.length - j) ++ s.take (s.length - j)) (a.drop (a.length - j) ++ b)) = kx2 p0 x1 v5 (enc (shiftR a s b).1) (enc (shiftR a s b).2.1) (enc (shiftR a s b).2.2) := by
  intro m hm
  have y1 := enc_size_le (a.take (a.length - j))
  have y2 := enc_size_le (a.drop (a.length - j) ++ s.take (s.length - j))
  have y3 := enc_size_le (a.drop (a.length - j) ++ b)
  simp only [List.length_append, List.length_take, List.length_drop] at y1 y2 y3
  have := walk_ok n kx2 p0 x1 v5 _ (a.take (a.length - j)) (a.drop (a.length - j) ++ s.take (s.length - j)) (a.drop (a.length - j) ++ b) (a.take (a.length - j), a.drop (a.length - j) ++ s.take (s.length - j), a.drop (a.length - j) ++ b) (scoreG (a.take (a.length - j)) (a.drop (a.length - j) ++ s.take (s.length - j)) + scoreG (a.drop (a.length - j) ++ s.take (s.length - j)) (a.drop (a.length - j) ++ b)) m rfl hm vA vS vB (by omega)
  unfold shiftR
  rw [hst]
  exact this
 have hlen : (a.drop (a.length - j) ++ b).length ≤ 200000000 := by simp only [List.length_append, List.length_drop]; omega
 have z : mkB [] = (⟨#[]⟩ : ByteArray) := rfl
 have n1 : ∀ Q : ByteArray, mkB [] ++ Q = Q := fun Q => by apply ba_ext; rw [z, ByteArray.data_append]; simp
 have n2 : ∀ Q : ByteArray, Q ++ mkB [] = Q := fun Q => by apply ba_ext; rw [z, ByteArray.data_append]; simp
 have g1 : enc a' ++ U ++ mkB l = enc (a.take (a.length - j)) := by rw [baa, q4, ← enc_append, c1]
 have g2 : enc (t.drop (t.length - j)) ++ (enc s' ++ U) ++ mkB l = enc (a.drop (a.length - j) ++ s.take (s.length - j)) := by rw [baa, baa, q4, c2, c3, enc_append, enc_append]
 have g3 : enc (t.drop (t.length - j)) ++ enc b = enc (a.drop (a.length - j) ++ b) := by rw [c2, enc_append]
 unfold g125_5
 have w1 := size_append (mkB l ++ enc (t.drop (t.length - j))) (enc s' ++ U)
 have w2 := size_append (mkB l ++ enc (t.drop (t.length - j))) (enc b)
 rw [score_raw n _ _ (by omega) (by omega), Option.bind_some, score_raw n _ _ (by omega) (by omega), Option.bind_some]
 have r1 := scoreG_range (bytesOf (enc a' ++ U)) (bytesOf (mkB l ++ enc (t.drop (t.length - j)) ++ (enc s' ++ U)))
 have r2 := scoreG_range (bytesOf (mkB l ++ enc (t.drop (t.length - j)) ++ (enc s' ++ U))) (bytesOf (mkB l ++ enc (t.drop (t.length - j)) ++ enc b))
 simp only
 rw [w64_id (by omega) (by omega)]
 unfold g125_8 g125_7
 by_cases hl : l = []
 ·subst hl
  rw [n2] at g1 g2
  rw [n1, g1, g2, g3, scoreG_bytes vA vS, scoreG_bytes vS vB]
  exact last n (by omega)
 ·obtain ⟨b0, l0, hl0⟩ := List.exists_cons_of_ne_nil hl
  have hb0 := q3 b0 (by rw [hl0]; simp)
  have hF : FirstHi (mkB l) := by
   unfold inner at hb0
   rw [hl0]
   exact ⟨l0.map fun b => (b.toNat : Int), (b0.toNat : Int), rfl, by omega⟩
  have hU := q5 hl
  have hLA : LastHi (enc a' ++ U) := hU.append _
  have hLS : LastHi (enc (t.drop (t.length - j)) ++ (enc s' ++ U)) := (hU.append _).append _
  have f1 : scoreG (bytesOf (enc a' ++ U)) (bytesOf (mkB l ++ enc (t.drop (t.length - j)) ++ (enc s' ++ U))) = 1 := score_hi2 hLA ((hF.append _).append _)
  have f2 : scoreG (bytesOf (mkB l ++ enc (t.drop (t.length - j)) ++ (enc s' ++ U))) (bytesOf (mkB l ++ enc (t.drop (t.length - j)) ++ enc b)) = 1 := score_hi2 ((hU.append _).append _) ((hF.append _).append _)
  rw [f1, f2]
  obtain ⟨m, rfl⟩ : ∃ m, n = l.length + m := ⟨n - l.length, by have := mkB_size l; omega⟩
  have ml := mkB_size l
  have ys := size_append (enc (t.drop (t.length - j))) (enc s' ++ U)
  have yb := size_append (enc (t.drop (t.length - j))) (enc b)
  rw [baa (mkB l) (enc (t.drop (t.length - j))) (enc s' ++ U), baa (mkB l) (enc (t.drop (t.length - j))) (enc b), show (1 : Int) + 1 = 2 from rfl, broke_ok (l.length + m) kx2 m p0 x1 v5 l _ _ _ _ _ _ hl q3 hLA hLS (by omega), g1, g2, g3, scoreG_bytes vA vS, scoreG_bytes vS vB]
  exact last m (by omega)
end
end Go.Proofs.YtmfgccjcnnlehaaDoorZF
namespace Go.Proofs.YtmfgccjcnnlehaaDoorZF
open Go
set_option linter.unusedVariables false
set_option linter.unusedSimpArgs false
set_option maxRecDepth 100000
theorem cutS_split (X : ByteArray) (i : Int) (h0 : 0 ≤ i) (h1 : i ≤ X.size) : cutS X 0 i ++ cutS X i (X.size : Int) = X := by
 apply bytesOf_inj
 rw [bytesOf_append, bytesOf_cutS, bytesOf_cutS, cut_from, cut_to _ _ _ (by rw [bytesOf_length]; omega), List.take_append_drop]
theorem last_same (a s : List Int) : cutS (enc a) (((enc a).size : Int) - (csl a s : Int)) ((enc a).size : Int) = cutS (enc s) (((enc s).size : Int) - (csl a s : Int)) ((enc s).size : Int) := by
 have l1 := csl_le_left a s
 have l2 := csl_le_right a s
 have et := csl_drop a s
 have lt : (a.drop (a.length - csl a s)).length = csl a s := by rw [List.length_drop]; omega
 have ea : enc a = enc (a.take (a.length - csl a s)) ++ enc (a.drop (a.length - csl a s)) := by rw [← enc_append, List.take_append_drop]
 have es : enc s = enc (s.take (s.length - csl a s)) ++ enc (a.drop (a.length - csl a s)) := by rw [et, ← enc_append, List.take_append_drop]
 have hge := enc_size_ge (a.drop (a.length - csl a s))
 have key : ∀ X Y : ByteArray, csl a s ≤ Y.size → cutS (X ++ Y) (((X ++ Y).size : Int) - (csl a s : Int)) ((X ++ Y).size : Int) = cutS Y ((Y.size : Int) - (csl a s : Int)) (Y.size : Int) := fun X Y h => by
  have hz := size_append X Y
  apply bytesOf_inj
  rw [bytesOf_cutS, bytesOf_cutS, cut_to _ _ _ (by rw [bytesOf_length]; omega), cut_to _ _ _ (by rw [bytesOf_length]; omega), bytesOf_append, List.drop_append, List.drop_of_length_le (by rw [bytesOf_length]; omega), List.nil_append]
  congr 1
  rw [bytesOf_length]; omega
 have k1 := key (enc (a.take (a.length - csl a s))) (enc (a.drop (a.length - csl a s))) (by omega)
 have k2 := key (enc (s.take (s.length - csl a s))) (enc (a.drop (a.length - csl a s))) (by omega)
 rw [← ea] at k1
 rw [← es] at k2
 rw [k1, k2]
theorem commonSuffix_ok (n : Nat) (hn : Big ≤ n) (p0) (a s : List Int) (va : Valids a) (vs : Valids s) (hla : a.length ≤ 100000000) (hls : s.length ≤ 100000000) : g155 n p0 (enc a) (enc s) = some ((csl a s : Int), ()) := by
 have e1 := enc_size_le a
 have e2 := enc_size_le s
 dsimp only [g155, g155_1]
 rw [room46_ok (by omega), room46_ok (by omega), runes_enc va, runes_enc vs, suffix_ok n hn a s (by omega) (by omega), Option.bind_some]
section
variable {β : Type} (n : Nat) (hn : Big ≤ n) (kn : (Int × Int × Int × Nat × Int × Int × Nat) → List (Int × ByteArray) → Int → Option β)
include hn
theorem ten_ok (p0) (x1 : List (Int × ByteArray)) (i : Nat) (v38 : Bool) (a s b : List Int) (va : Valids a) (vs : Valids s) (vb : Valids b) (hla : a.length ≤ 100000000) (hls : s.length ≤ 100000000) (hlb : b.length ≤ 100000000) (hl : i + 2 < x1.length) (hl2 : x1.length ≤ 1000000000)
  (r0 : (rd x1 (i : Int) ((0 : Int), (⟨#[]⟩ : ByteArray))).2 = enc a) (r1 : (rd x1 ((i + 1 : Nat) : Int) ((0 : Int), (⟨#[]⟩ : ByteArray))).2 = enc s) (r2 : (rd x1 ((i + 2 : Nat) : Int) ((0 : Int), (⟨#[]⟩ : ByteArray))).2 = enc b) :
  g125_10 n kn p0 x1 ((i + 1 : Nat) : Int) v38 = g125_9 n kn p0 x1 ((i + 1 : Nat) : Int) (enc (shiftR a s b).1) (enc (shiftR a s b).2.1) (enc (shiftR a s b).2.2) := by
 have hw0 : w64 (((i + 1 : Nat) : Int) - 1) = (i : Int) := by rw [w64_id (by omega) (by omega)]; omega
 have hw2 : w64 (((i + 1 : Nat) : Int) + 1) = ((i + 2 : Nat) : Int) := by rw [w64_id (by omega) (by omega)]; omega
 have e1 := enc_size_le a
 have e2 := enc_size_le s
 have e3 := enc_size_le b
 have g1 := enc_size_ge a
 have g2 := enc_size_ge s
 have l1 := csl_le_left a s
 have l2 := csl_le_right a s
 unfold g125_10 g125_4
 rw [hw0, hw2, idx_ok (by omega) (by omega), idx_ok (by omega) (by omega), idx_ok (by omega) (by omega), r0, r1, r2, commonSuffix_ok n hn p0 a s va vs hla hls, Option.bind_some]
 simp only
 have ws : w64 (((enc s).size : Int) - (csl a s : Int)) = ((enc s).size : Int) - (csl a s : Int) := w64_id (by omega) (by omega)
 have wa : w64 (((enc a).size : Int) - (csl a s : Int)) = ((enc a).size : Int) - (csl a s : Int) := w64_id (by omega) (by omega)
 have key := fun A0 S0 B0 hA hS hB => inner_ok n hn (fun p0 x1 v5 v11 v12 v13 => g125_9 n kn p0 x1 v5 v11 v12 v13) p0 x1 ((i + 1 : Nat) : Int) a s b va vs vb hla hls hlb A0 S0 B0 (csl a s) rfl hA hS hB
 by_cases hk : (csl a s : Int) > 0
 ·rw [bdT hk, ws, wa, bnd_ok (by omega) (by omega) (by omega), bnd_ok (by omega) (by omega) (by omega), bnd_ok (by omega) (by omega) (by omega)]
  have z1 := size_cutS (z := enc s) (a := ((enc s).size : Int) - (csl a s : Int)) (b := ((enc s).size : Int)) (by omega) (by omega) (by omega)
  have z2 := size_cutS (z := enc s) (a := 0) (b := ((enc s).size : Int) - (csl a s : Int)) (by omega) (by omega) (by omega)
  rw [roomy_ok (by omega), roomy_ok (by omega)]
  refine key _ _ _ ?_ rfl rfl
  rw [← last_same a s]
  exact (cutS_split _ _ (by omega) (by omega)).symm
 ·rw [bdF hk]
  have h0 : csl a s = 0 := by omega
  have c1 : cutS (enc s) (((enc s).size : Int) - (csl a s : Int)) ((enc s).size : Int) = (⟨#[]⟩ : ByteArray) := by
   apply bytesOf_inj
   rw [bytesOf_cutS, cut_to _ _ _ (by rw [bytesOf_length]; omega), List.drop_of_length_le (by rw [bytesOf_length]; omega)]; rfl
  have c2 : cutS (enc s) 0 (((enc s).size : Int) - (csl a s : Int)) = enc s := by
   rw [h0, show ((enc s).size : Int) - ((0 : Nat) : Int) = ((enc s).size : Int) by omega]; exact cutS_all _
  have n1 : ∀ Q : ByteArray, (⟨#[]⟩ : ByteArray) ++ Q = Q := fun Q => by apply ba_ext; rw [ByteArray.data_append]; simp
  have n2 : ∀ Q : ByteArray, Q ++ (⟨#[]⟩ : ByteArray) = Q := fun Q => by apply ba_ext; rw [ByteArray.data_append]; simp
  refine key _ _ _ ?_ ?_ ?_
  ·rw [c1, n2]
  ·rw [c1, c2, n1]
  ·rw [c1, n1]
end
theorem shift_sizes {a s b : List Int} : (shiftR a s b).1.length + (shiftR a s b).2.2.length = a.length + b.length ∧ (shiftR a s b).2.1.length = s.length := by
 have h := shiftR_moved a s b
 have := congrArg List.length h.out
 simp only [List.length_append] at this
 exact ⟨this, h.len⟩
theorem size_ne_zero {x : List Int} : (((enc x).size : Int) != 0) = true ↔ x ≠ [] := by
 rw [bne_iff_ne]
 constructor
 ·rintro h rfl; exact h rfl
 ·intro h h0
  exact h (enc_size_zero.1 (by omega))
theorem loss_loop {β : Type} (n : Nat) (hn : Big ≤ n) (kx : List (Int × ByteArray) → Option β) (p0) : ∀ (k : Nat) (R A : List Rp) (m : Nat), R.length = k → k < m → Ok A → Ok R →
  A.length + R.length ≤ 1000000 → allR A + allR R ≤ 10000000 →
  g125_17L (β := β) n kx m p0 (M (A.reverse ++ R)) ((A.length + 1 : Nat) : Int) = kx (M (lossF A R)) := by
 intro k
 induction k using Nat.strongRecOn with
 | _ k ih =>
  intro R A m hk hm hA hR hl hal
  obtain ⟨m, rfl⟩ : ∃ m', m = m' + 1 := ⟨m - 1, by omega⟩
  have hlm : (M (A.reverse ++ R)).length = A.length + R.length := by rw [M_length]; simp
  have hw0 : w64 (((M (A.reverse ++ R)).length : Int) - 1) = (A.length : Int) + (R.length : Int) - 1 := by rw [w64_id (by omega) (by omega)]; omega
  rw [g125_17L.eq_2]
  unfold g125_16 g125_2
  rw [hw0]
  by_cases h3 : R.length < 3
  ·rw [bdF (by omega)]
   have : lossF A R = A.reverse ++ R := by
    match R, h3 with
    | [], _ => unfold lossF; rfl
    | [p], _ => unfold lossF; rfl
    | [p, c], _ => unfold lossF; rfl
   rw [this]
  ·obtain ⟨p, c, q, R, rfl⟩ : ∃ p c q R', R = p :: c :: q :: R' := by
    match R, h3 with
    | [], h3 => simp at h3
    | [p], h3 => simp at h3
    | [p, c], h3 => simp at h3
    | p :: c :: q :: R, _ => exact ⟨p, c, q, R, rfl⟩
   have hRl : (p :: c :: q :: R).length = R.length + 3 := rfl
   have hp := hR.of_cons.1
   have hc := hR.of_cons.2.of_cons.1
   have hq := hR.of_cons.2.of_cons.2.of_cons.1
   have hR' := hR.of_cons.2.of_cons.2.of_cons.2
   simp only [allR_cons] at hal
   have hx : M (A.reverse ++ p :: c :: q :: R) = M A.reverse ++ (p.1, enc p.2) :: (c.1, enc c.2) :: (q.1, enc q.2) :: M R := by rw [M_append]; rfl
   have hAl : (M A.reverse).length = A.length := by simp [M_length]
   have hwm : w64 (((A.length + 1 : Nat) : Int) - 1) = (A.length : Int) := by rw [w64_id (by omega) (by omega)]; omega
   have hwp : w64 (((A.length + 1 : Nat) : Int) + 1) = ((A.length + 2 : Nat) : Int) := by rw [w64_id (by omega) (by omega)]; omega
   have hwq : w64 (((A.length + 1 : Nat) : Int) + 2) = ((A.length + 3 : Nat) : Int) := by rw [w64_id (by omega) (by omega)]; omega
   have hwa : w64 ((A.length : Int) + 1) = ((A.length + 1 : Nat) : Int) := by rw [w64_id (by omega) (by omega)]; omega
   have g0 : ∀ (u : Prt) (l : List Prt), rd (M A.reverse ++ u :: l) (A.length : Int) ((0 : Int), (⟨#[]⟩ : ByteArray)) = u := fun u l => rd_mid (by rw [hAl])
   have g1 : ∀ (u v : Prt) (l : List Prt), rd (M A.reverse ++ u :: v :: l) ((A.length + 1 : Nat) : Int) ((0 : Int), (⟨#[]⟩ : ByteArray)) = v := fun u v l => by
    have : M A.reverse ++ u :: v :: l = (M A.reverse ++ [u]) ++ v :: l := by simp
    rw [this]; exact rd_mid (by simp [hAl])
   have g2 : ∀ (u v w : Prt) (l : List Prt), rd (M A.reverse ++ u :: v :: w :: l) ((A.length + 2 : Nat) : Int) ((0 : Int), (⟨#[]⟩ : ByteArray)) = w := fun u v w l => by
    have : M A.reverse ++ u :: v :: w :: l = (M A.reverse ++ [u, v]) ++ w :: l := by simp
    rw [this]; exact rd_mid (by simp [hAl])
   have s0 : ∀ (u x : Prt) (l : List Prt), (M A.reverse ++ u :: l).set (A.length : Int).toNat x = M A.reverse ++ x :: l := fun u x l => set_mid (by rw [hAl]; omega)
   have s1 : ∀ (u v x : Prt) (l : List Prt), (M A.reverse ++ u :: v :: l).set ((A.length + 1 : Nat) : Int).toNat x = M A.reverse ++ u :: x :: l := fun u v x l => by
    have : M A.reverse ++ u :: v :: l = (M A.reverse ++ [u]) ++ v :: l := by simp
    rw [this, set_mid (by simp [hAl])]; simp
   have s2 : ∀ (u v w x : Prt) (l : List Prt), (M A.reverse ++ u :: v :: w :: l).set ((A.length + 2 : Nat) : Int).toNat x = M A.reverse ++ u :: v :: x :: l := fun u v w x l => by
    have : M A.reverse ++ u :: v :: w :: l = (M A.reverse ++ [u, v]) ++ w :: l := by simp
    rw [this, set_mid (by simp [hAl]; omega)]; simp
   have ll : ∀ u v w : Prt, (M A.reverse ++ u :: v :: w :: M R).length = A.length + 3 + R.length := fun u v w => by simp [M_length]; omega
   have ll2 : ∀ v w : Prt, (M A.reverse ++ v :: w :: M R).length = A.length + 2 + R.length := fun v w => by simp [M_length]; omega
   have skip : g125_17L (β := β) n kx m p0 (M A.reverse ++ (p.1, enc p.2) :: (c.1, enc c.2) :: (q.1, enc q.2) :: M R) ((A.length + 2 : Nat) : Int) = kx (M (lossF (p :: A) (c :: q :: R))) := by
    have := ih (c :: q :: R).length (by rw [← hk]; simp) (c :: q :: R) (p :: A) m rfl (by simp at hk ⊢; omega) (Ok.cons' hp hA) hR.of_cons.2 (by simp at hl ⊢; omega) (by simp only [allR_cons]; omega)
    rw [← this]
    have e : M ((p :: A).reverse ++ c :: q :: R) = M A.reverse ++ (p.1, enc p.2) :: (c.1, enc c.2) :: (q.1, enc q.2) :: M R := by
     simp [M_append, M_cons, M_nil]
    rw [e]; rfl
   rw [bdT (by omega)]
   unfold g125_15 g125_14 g125_3
   simp only [hwm, hwp, hx, g0, g1, g2, ll]
   rw [idx_ok (by omega) (by omega)]
   have plain : ∀ v38 : Bool, v38 = false → g125_12 n (fun p0 x1 v5 => g125_13 n (g125_17L n kx m) p0 x1 v5) p0 (M A.reverse ++ (p.1, enc p.2) :: (c.1, enc c.2) :: (q.1, enc q.2) :: M R) ((A.length + 1 : Nat) : Int) v38 = kx (M (lossF (p :: A) (c :: q :: R))) := fun v38 h => by
    unfold g125_12 g125_11 g125_13
    rw [biF h]
    simp only [hwp]
    exact skip
   rw [lossF]
   by_cases hp0 : p.1 = 0
   ·rw [biT (by simpa using hp0), idx_ok (by omega) (by omega)]
    by_cases hq0 : q.1 = 0
    ·rw [if_pos ⟨hp0, hq0⟩]
     unfold g125_12
     rw [biT (by simpa using hq0)]
     rw [ten_ok n hn _ p0 _ A.length _ p.2 c.2 q.2 hp.2 hc.2 hq.2 (by omega) (by omega) (by omega) (by rw [ll]; omega) (by rw [ll]; omega) (by rw [g0]) (by rw [g1]) (by rw [g2])]
     have hmv := shiftR_moved p.2 c.2 q.2
     have hsz := @shift_sizes p.2 c.2 q.2
     generalize shiftR p.2 c.2 q.2 = t at *
     obtain ⟨v1, v2, v3⟩ := hmv.val hp.2 hc.2 hq.2
     have z1 := enc_size_le t.1
     unfold g125_9 g125_13
     simp only [hwm, hwp, hwa, g0, g1, g2, ll]
     rw [idx_ok (by omega) (by omega), strEq_enc hp.2 v1]
     by_cases he : t.1 = p.2
     ·rw [if_pos he, biF (by simp [he])]
      exact skip
     ·rw [if_neg he, biT (by simp; exact fun h => he h.symm)]
      by_cases h0 : t.1 = []
      ·
       rw [if_pos h0, biF (by have := @size_ne_zero t.1; rw [Bool.eq_false_iff]; exact fun h => (this.1 h) h0)]
       have h2 : t.2.2 ≠ [] := fun h2 => by
        have := hmv.out
        rw [h0, h2] at this
        have := (List.append_eq_nil_iff.1 this.symm).1
        exact he (by rw [h0, this])
       have hsp := splice_ok n hn (M A.reverse ++ (p.1, enc p.2) :: (c.1, enc c.2) :: (q.1, enc q.2) :: M R) [] A.length 1 (by rw [ll]; omega) (by rw [ll]; omega) (by simp)
       have ht : (M A.reverse ++ (p.1, enc p.2) :: (c.1, enc c.2) :: (q.1, enc q.2) :: M R).take A.length = M A.reverse := by rw [← hAl, List.take_left']; rfl
       have hd : (M A.reverse ++ (p.1, enc p.2) :: (c.1, enc c.2) :: (q.1, enc q.2) :: M R).drop (A.length + 1) = (c.1, enc c.2) :: (q.1, enc q.2) :: M R := by
        have : M A.reverse ++ (p.1, enc p.2) :: (c.1, enc c.2) :: (q.1, enc q.2) :: M R = (M A.reverse ++ [(p.1, enc p.2)]) ++ (c.1, enc c.2) :: (q.1, enc q.2) :: M R := by simp
        rw [this, show A.length + 1 = (M A.reverse ++ [(p.1, enc p.2)]).length by simp [hAl], List.drop_left']; rfl
       rw [ht, hd, List.append_nil] at hsp
       rw [show (1 : Int) = ((1 : Nat) : Int) from rfl, hsp, Option.bind_some]
       simp only [g0, g1, s0, s1, ll2, show ((1 : Nat) : Int) = (1 : Int) from rfl, hwa]
       rw [idx_ok (by omega) (by omega), biT (size_ne_zero.2 h2), idx_ok (by omega) (by omega)]
       have := ih ((c.1, t.2.1) :: (q.1, t.2.2) :: R).length (by rw [← hk]; simp) ((c.1, t.2.1) :: (q.1, t.2.2) :: R) A m rfl (by simp at hk ⊢; omega) hA (Ok.cons' ⟨hc.1, v2⟩ (Ok.cons' ⟨hq.1, v3⟩ hR')) (by simp at hl ⊢; omega) (by simp only [allR_cons]; omega)
       rw [← this]
       have e : M (A.reverse ++ (c.1, t.2.1) :: (q.1, t.2.2) :: R) = M A.reverse ++ (c.1, enc t.2.1) :: (q.1, enc t.2.2) :: M R := by
        simp [M_append, M_cons, M_nil]
       rw [e]
      ·rw [if_neg h0, biT (size_ne_zero.2 h0)]
       simp only [s0, g0, g1, g2, ll, s1, s2]
       rw [idx_ok (by omega) (by omega), idx_ok (by omega) (by omega)]
       by_cases h2 : t.2.2 = []
       ·rw [if_pos h2, biF (by have := @size_ne_zero t.2.2; rw [Bool.eq_false_iff]; exact fun h => (this.1 h) h2)]
        rw [hwq, bnd_ok (by omega) (by omega) (by omega), bnd_ok (by omega) (by omega) (by omega)]
        have c1 : cut (M A.reverse ++ (p.1, enc t.1) :: (c.1, enc t.2.1) :: (q.1, enc q.2) :: M R) 0 (0 + (((A.length + 2 : Nat) : Int) - 0)) = M A.reverse ++ [(p.1, enc t.1), (c.1, enc t.2.1)] := by
         rw [cut_from, show (0 + (((A.length + 2 : Nat) : Int) - 0)).toNat = (M A.reverse ++ [(p.1, enc t.1), (c.1, enc t.2.1)]).length by simp [hAl]; omega]
         have : M A.reverse ++ (p.1, enc t.1) :: (c.1, enc t.2.1) :: (q.1, enc q.2) :: M R = (M A.reverse ++ [(p.1, enc t.1), (c.1, enc t.2.1)]) ++ (q.1, enc q.2) :: M R := by simp
         rw [this]; exact List.take_left
        have c2 : cut (M A.reverse ++ (p.1, enc t.1) :: (c.1, enc t.2.1) :: (q.1, enc q.2) :: M R) ((A.length + 3 : Nat) : Int) (((A.length + 3 : Nat) : Int) + (((A.length + 3 + R.length : Nat) : Int) - ((A.length + 3 : Nat) : Int))) = M R := by
         rw [cut_to _ _ _ (by rw [ll]; omega), Int.toNat_natCast]
         have : M A.reverse ++ (p.1, enc t.1) :: (c.1, enc t.2.1) :: (q.1, enc q.2) :: M R = (M A.reverse ++ [(p.1, enc t.1), (c.1, enc t.2.1), (q.1, enc q.2)]) ++ M R := by simp
         rw [this, show A.length + 3 = (M A.reverse ++ [(p.1, enc t.1), (c.1, enc t.2.1), (q.1, enc q.2)]).length by simp [hAl], List.drop_left']; rfl
        rw [c1, c2, roomy_ok (by simp [M_length]; omega)]
        have := ih ((p.1, t.1) :: (c.1, t.2.1) :: R).length (by rw [← hk]; simp) ((p.1, t.1) :: (c.1, t.2.1) :: R) A m rfl (by simp at hk ⊢; omega) hA (Ok.cons' ⟨hp.1, v1⟩ (Ok.cons' ⟨hc.1, v2⟩ hR')) (by simp at hl ⊢; omega) (by simp only [allR_cons]; omega)
        rw [← this]
        have e : M (A.reverse ++ (p.1, t.1) :: (c.1, t.2.1) :: R) = M A.reverse ++ [(p.1, enc t.1), (c.1, enc t.2.1)] ++ M R := by
         simp [M_append, M_cons, M_nil]
        rw [e]
       ·rw [if_neg h2, biT (size_ne_zero.2 h2), idx_ok (by omega) (by omega)]
        have := ih ((c.1, t.2.1) :: (q.1, t.2.2) :: R).length (by rw [← hk]; simp) ((c.1, t.2.1) :: (q.1, t.2.2) :: R) ((p.1, t.1) :: A) m rfl (by simp at hk ⊢; omega) (Ok.cons' ⟨hp.1, v1⟩ hA) (Ok.cons' ⟨hc.1, v2⟩ (Ok.cons' ⟨hq.1, v3⟩ hR')) (by simp at hl ⊢; omega) (by simp only [allR_cons]; omega)
        rw [← this]
        have e : M (((p.1, t.1) :: A).reverse ++ (c.1, t.2.1) :: (q.1, t.2.2) :: R) = M A.reverse ++ (p.1, enc t.1) :: (c.1, enc t.2.1) :: (q.1, enc t.2.2) :: M R := by
         simp [M_append, M_cons, M_nil]
        rw [e]; rfl
    ·rw [if_neg (fun h => hq0 h.2)]
     exact plain _ (by simpa using hq0)
   ·rw [biF (by simpa using hp0), if_neg (fun h => hp0 h.1)]
    exact plain _ rfl
theorem lossless_ok (n : Nat) (hn : Big ≤ n) (p0) (x : List Rp) (hx : Ok x) (hl : x.length ≤ 1000000) (ha : allR x ≤ 10000000) : g125 n p0 (M x) = some (M (lossless x), ()) := by
 have hB : (4611686018427387904 : Nat) ≤ n := hn
 dsimp only [g125, g125_20, g125_1]
 have := loss_loop n hn (fun x1 => some (x1, ())) p0 x.length x [] n rfl (by omega) Ok.nil hx (by simpa using hl) (by simpa [allR] using ha)
 exact this
end Go.Proofs.YtmfgccjcnnlehaaDoorZF
namespace Go.Proofs.YtmfgccjcnnlehaaDoorZF
open Go
set_option linter.unusedVariables false
set_option linter.unusedSimpArgs false
theorem dfKept_ok (n : Nat) (hn : Big ≤ n) (x y : List Rp) (hs : srcR x = srcR y) (ht : tgtR x = tgtR y) (h0 : y ≠ [] → x ≠ []) (hl : x.length ≤ 1000000) (hl2 : y.length ≤ 1000000) (ha : allR x ≤ 10000000) (ha2 : allR y ≤ 10000000) : g37 n (M x) (M y) = some (true, ()) := by
 have gs : g40 n (M y) = some (enc (srcR y), ()) := source_ok n hn y (by omega) (by omega)
 have gt : g67 n (M y) = some (enc (tgtR y), ()) := target_ok n hn y (by omega) (by omega)
 have gs' : g40 n (M x) = some (enc (srcR y), ()) := by rw [← hs]; exact source_ok n hn x (by omega) (by omega)
 have gt' : g67 n (M x) = some (enc (tgtR y), ()) := by rw [← ht]; exact target_ok n hn x (by omega) (by omega)
 dsimp only [g37, g37_1]
 rw [bind_some' gs, bind_some' gt, bind_some' gs']
 simp only
 rw [biT (by rw [strEq_eq]; simp), bind_some' gt']
 simp only
 rw [biT (by rw [strEq_eq]; simp)]
 have hml : (M x).length = x.length := List.length_map _
 by_cases hx : x = []
 ·have hy : y = [] := Classical.byContradiction fun h => h0 h hx
  subst hx; subst hy
  rw [bdF (by rw [hml]; simp), roomy_ok (by decide), show enc (srcR []) = enc [] from rfl, show enc (tgtR []) = enc [] from rfl, ← enc_append, ← enc_nil, List.append_nil, strEq_enc Valids.nil Valids.nil]
  simp
 ·have := List.length_pos_iff.2 hx
  have c : ((M x).length : Int) > 0 := by rw [hml]; omega
  rw [bdT c]
end Go.Proofs.YtmfgccjcnnlehaaDoorZF
namespace Go.Proofs.YtmfgccjcnnlehaaDoorZF
open Go
set_option linter.unusedVariables false
set_option linter.unusedSimpArgs false
theorem all_parts : ∀ {l : List Rp}, (∀ y ∈ l, y.2.length ≤ 30) → allR l ≤ 30 * l.length
 | [], _ => Nat.le_refl _
 | d :: l, h => by
  have h1 := all_parts (l := l) fun y hy => h y (by simp [hy])
  have h2 := h d (by simp)
  rw [allR_cons, List.length_cons]; omega
end Go.Proofs.YtmfgccjcnnlehaaDoorZF
namespace Go.Proofs.YtmfgccjcnnlehaaDoorZF
open Go
set_option linter.unusedVariables false
set_option linter.unusedSimpArgs false
theorem prefix_loop {β : Type} (n : Nat) (k : Int → Option β) (x y : List Int) (hx : x.length ≤ 1000000000000) : ∀ (d i m : Nat), x.length - i = d → d < m → g151_3L n k k m x y (i : Int) = k ((i + cpl (x.drop i) (y.drop i) : Nat) : Int) := by
 intro d
 induction d using Nat.strongRecOn with
 | _ d ih =>
  intro i m hd hm
  obtain ⟨m, rfl⟩ : ∃ m', m = m' + 1 := ⟨m - 1, by omega⟩
  rw [g151_3L.eq_2, g151_2]
  by_cases h : i < x.length
  ·rw [bdT (by omega)]
   by_cases h2 : i < y.length
   ·rw [bdT (by omega), idx_ok (by omega) (by omega), idx_ok (by omega) (by omega), rd_nat, rd_nat, cpl_at x y i h h2]
    by_cases e : x.getD i 0 = y.getD i 0
    ·rw [if_pos e, biF (by rw [e]; simp), w64_id (by omega) (by omega)]
     have := ih (d - 1) (by omega) (i + 1) m (by omega) (by omega)
     rw [show ((i : Int) + 1) = ((i + 1 : Nat) : Int) by omega, this]
     congr 2; omega
    ·rw [if_neg e, biT (by simpa using e)]; rfl
   ·rw [bdF (by omega), cpl_end x y i (by omega)]; rfl
  ·rw [bdF (by omega), cpl_end x y i (by omega)]; rfl
theorem prefix_ok (n : Nat) (hn : Big ≤ n) (x y : List Int) (hx : x.length ≤ 1000000000000) : g151 n x y = some ((cpl x y : Int), ()) := by
 have := prefix_loop n (fun v => some (v, ())) x y hx x.length 0 n (by omega) (by unfold Big at hn; omega)
 simp only [List.drop_zero, Nat.zero_add] at this
 exact this
end Go.Proofs.YtmfgccjcnnlehaaDoorZF
namespace Go.Proofs.YtmfgccjcnnlehaaDoorZF
open Go
set_option linter.unusedVariables false
set_option linter.unusedSimpArgs false
set_option maxRecDepth 100000
theorem fac_ok {β : Type} (n : Nat) (hn : Big ≤ n) (q : DenA g124_A → Option (DenR g124_R)) (kn) (p0) (A P R : List Rp) (t td ti : List Int) (cd ci : Nat) (b : Bool)
  (hA : Hd A) (hcd : cd ≠ 0) (hci : ci ≠ 0) (hP : cd + ci = P.length) (ht : t.length ≤ 1000000000) (htd : td.length ≤ 1000000000) (hti : ti.length ≤ 1000000000) (hl : A.length + P.length + R.length ≤ 1000000000) (hAs : allR A ≤ 1000000000) :
  g124_10 (β := β) n q kn p0 (M (A.reverse ++ P ++ (0, t) :: R)) ((A.length + P.length : Nat) : Int) (cd : Int) (ci : Int) td ti b =
   kn p0 (M ((fac A td ti t).A.reverse ++ P ++ (0, (fac A td ti t).t) :: R)) (((fac A td ti t).A.length + P.length : Nat) : Int) (cd : Int) (ci : Int) (fac A td ti t).td (fac A td ti t).ti := by
 have hc1 := cpl_le_left ti td
 have hc2 := cpl_le_right ti td
 have hs1 := csl_le_left (ti.drop (cpl ti td)) (td.drop (cpl ti td))
 have hs2 := csl_le_right (ti.drop (cpl ti td)) (td.drop (cpl ti td))
 simp only [List.length_drop] at hs1 hs2
 have hze := enc_size_le t
 unfold g124_10
 rw [biT (by simp; omega), biT (by simp; omega), prefix_ok n hn ti td (by omega), Option.bind_some]
 have hI0 : w64 (w64 (((A.length + P.length : Nat) : Int) - cd) - ci) = (A.length : Int) := by
  rw [w64_id (n := ((A.length + P.length : Nat) : Int) - cd) (by omega) (by omega), w64_id (by omega) (by omega)]; omega
 rw [hI0]
 have hx1 : M (A.reverse ++ P ++ (0, t) :: R) = M (A.reverse ++ P) ++ ((0 : Int), enc t) :: M R := by rw [M_append, M_cons]
 have hlm : (M (A.reverse ++ P ++ (0, t) :: R)).length = A.length + P.length + 1 + R.length := by rw [M_length]; simp; omega
 have hl1 : (M (A.reverse ++ P)).length = A.length + P.length := by rw [M_length]; simp
 by_cases hc : cpl ti td = 0
 ·
  have hf : fac A td ti t = ⟨A, td.take (td.length - csl ti td), ti.take (ti.length - csl ti td), ti.drop (ti.length - csl ti td) ++ t⟩ := by
   unfold fac; simp only [hc, if_true, List.drop_zero]
  rw [hc] at hs1 hs2
  simp only [List.drop_zero, Nat.sub_zero] at hs1 hs2
  rw [biF (by simp [hc]), suffix_ok n hn ti td (by omega) (by omega), Option.bind_some, hf]
  simp only
  by_cases hs : csl ti td = 0
  ·rw [biF (by simp [hs]), hs]
   simp
  ·rw [biT (by simpa using hs)]
   have hzd := enc_size_le (ti.drop (ti.length - csl ti td))
   have hw1 : w64 ((ti.length : Int) - (csl ti td : Int)) = ((ti.length - csl ti td : Nat) : Int) := by rw [w64_id (by omega) (by omega)]; omega
   have hw2 : w64 ((td.length : Int) - (csl ti td : Int)) = ((td.length - csl ti td : Nat) : Int) := by rw [w64_id (by omega) (by omega)]; omega
   simp only [hw1, hw2]
   have hrd : rd (M (A.reverse ++ P ++ (0, t) :: R)) ((A.length + P.length : Nat) : Int) ((0 : Int), (⟨#[]⟩ : ByteArray)) = ((0 : Int), enc t) := by rw [hx1]; exact rd_mid (by rw [hl1])
   rw [hrd]
   have hcut1 : cut ti ((ti.length - csl ti td : Nat) : Int) (((ti.length - csl ti td : Nat) : Int) + ((ti.length : Int) - ((ti.length - csl ti td : Nat) : Int))) = ti.drop (ti.length - csl ti td) := by
    rw [cut_to _ _ _ (by omega)]; congr 1
   have hcut2 : cut td 0 (0 + (((td.length - csl ti td : Nat) : Int) - 0)) = td.take (td.length - csl ti td) := by rw [cut_from]; congr 1; omega
   have hcut3 : cut ti 0 (0 + (((ti.length - csl ti td : Nat) : Int) - 0)) = ti.take (ti.length - csl ti td) := by rw [cut_from]; congr 1; omega
   rw [hcut1, hcut2, hcut3]
   simp only [List.length_drop] at hzd
   rw [bnd_ok (by omega) (by omega) (by omega), idx_ok (by omega) (by omega), roomy_ok (by show (enc _).size + (enc t).size ≤ _; omega), idx_ok (by omega) (by omega), bnd_ok (by omega) (by omega) (by omega), bnd_ok (by omega) (by omega) (by omega)]
   have hset : (M (A.reverse ++ P ++ (0, t) :: R)).set ((A.length + P.length : Nat) : Int).toNat ((0 : Int), enc (ti.drop (ti.length - csl ti td)) ++ enc t) = M (A.reverse ++ P ++ (0, ti.drop (ti.length - csl ti td) ++ t) :: R) := by
    rw [hx1, set_mid (by rw [hl1]; omega)]; simp only [M_append, M_cons, enc_append]
   show kn p0 ((M (A.reverse ++ P ++ (0, t) :: R)).set ((A.length + P.length : Nat) : Int).toNat ((0 : Int), enc (ti.drop (ti.length - csl ti td)) ++ enc t)) _ _ _ _ _ = _
   rw [hset]
 ·
  rw [biT (by simpa using hc)]
  have hzp := enc_size_le (ti.take (cpl ti td))
  simp only [List.length_take] at hzp
  have hcutP : cut ti 0 (0 + (((cpl ti td : Nat) : Int) - 0)) = ti.take (cpl ti td) := by rw [cut_from]; congr 1; omega
  have hcutI : cut ti ((cpl ti td : Nat) : Int) (((cpl ti td : Nat) : Int) + ((ti.length : Int) - ((cpl ti td : Nat) : Int))) = ti.drop (cpl ti td) := by rw [cut_to _ _ _ (by omega)]; congr 1
  have hcutD : cut td ((cpl ti td : Nat) : Int) (((cpl ti td : Nat) : Int) + ((td.length : Int) - ((cpl ti td : Nat) : Int))) = td.drop (cpl ti td) := by rw [cut_to _ _ _ (by omega)]; congr 1
  simp only [hcutP, hcutI, hcutD]
  rw [suffix_ok n hn (ti.drop (cpl ti td)) (td.drop (cpl ti td)) (by simp; omega) (by simp; omega)]
  simp only [Option.bind_some]
  generalize hS : csl (ti.drop (cpl ti td)) (td.drop (cpl ti td)) = s at hs1 hs2
  generalize hC : cpl ti td = c at *
  have hw1 : w64 ((ti.length : Int) - (c : Int) - (s : Int)) = ((ti.length - c - s : Nat) : Int) := by rw [w64_id (by omega) (by omega)]; omega
  have hw2 : w64 ((td.length : Int) - (c : Int) - (s : Int)) = ((td.length - c - s : Nat) : Int) := by rw [w64_id (by omega) (by omega)]; omega
  have hcut1 : cut ti ((c : Int) + ((ti.length - c - s : Nat) : Int)) ((c : Int) + ((ti.length - c - s : Nat) : Int) + ((ti.length : Int) - (c : Int) - ((ti.length - c - s : Nat) : Int))) = (ti.drop c).drop ((ti.drop c).length - s) := by
   rw [cut_to _ _ _ (by omega), List.drop_drop, List.length_drop]; congr 1 <;> omega
  have hcut2 : cut td ((c : Int) + 0) ((c : Int) + 0 + (((td.length - c - s : Nat) : Int) - 0)) = (td.drop c).take ((td.drop c).length - s) := by
   unfold cut; rw [List.length_drop, show ((c : Int) + 0).toNat = c by omega, show ((c : Int) + 0 + (((td.length - c - s : Nat) : Int) - 0)).toNat - c = td.length - c - s by omega]
  have hcut3 : cut ti ((c : Int) + 0) ((c : Int) + 0 + (((ti.length - c - s : Nat) : Int) - 0)) = (ti.drop c).take ((ti.drop c).length - s) := by
   unfold cut; rw [List.length_drop, show ((c : Int) + 0).toNat = c by omega, show ((c : Int) + 0 + (((ti.length - c - s : Nat) : Int) - 0)).toNat - c = ti.length - c - s by omega]
  have hzd : (enc ((ti.drop c).drop ((ti.drop c).length - s))).size ≤ 4 * ti.length := Nat.le_trans (enc_size_le _) (by simp only [List.length_drop]; omega)
  have hf : fac A td ti t = ⟨pushE (ti.take c) A, (td.drop c).take ((td.drop c).length - s), (ti.drop c).take ((ti.drop c).length - s), (ti.drop c).drop ((ti.drop c).length - s) ++ t⟩ := by
   unfold fac; simp only [hC, hS, if_neg hc]
  simp only [hw1, hw2, hcut1, hcut2, hcut3]
  rw [hf]
  have hs0 : s = 0 → (ti.drop c).take ((ti.drop c).length - s) = ti.drop c ∧ (td.drop c).take ((td.drop c).length - s) = td.drop c ∧ (ti.drop c).drop ((ti.drop c).length - s) = [] := by
   rintro rfl; exact ⟨List.take_of_length_le (by simp), List.take_of_length_le (by simp), List.drop_eq_nil_of_le (by simp)⟩
  rcases hA with rfl | ⟨s0, A', rfl⟩
  ·
   have e1 : M ([].reverse ++ P ++ (0, t) :: R) = M P ++ ((0 : Int), enc t) :: M R := by simp [M_append, M_cons]
   have hw3 : w64 (((0 + P.length : Nat) : Int) + 1) = ((1 + P.length : Nat) : Int) := by rw [w64_id (by omega) (by omega)]; omega
   rw [bdF (by simp)]
   simp only [List.length_nil, hw3, e1]
   have hlm' : ([((0 : Int), runesBytes (ti.take c))] ++ (M P ++ ((0 : Int), enc t) :: M R)).length = 1 + P.length + 1 + R.length := by simp [M_length]; omega
   have hrd : rd ([((0 : Int), runesBytes (ti.take c))] ++ (M P ++ ((0 : Int), enc t) :: M R)) ((1 + P.length : Nat) : Int) ((0 : Int), (⟨#[]⟩ : ByteArray)) = ((0 : Int), enc t) := by
    rw [← List.append_assoc]; exact rd_mid (by simp [M_length]; omega)
   have hset : ∀ v, ([((0 : Int), runesBytes (ti.take c))] ++ (M P ++ ((0 : Int), enc t) :: M R)).set ((1 + P.length : Nat) : Int).toNat v = ([((0 : Int), runesBytes (ti.take c))] ++ M P) ++ v :: M R := by
    intro v; rw [← List.append_assoc]; exact set_mid (by simp [M_length]; omega)
   rw [bnd_ok (by omega) (by omega) (by omega), roomy_ok (by simp [M_length]; omega), bnd_ok (by omega) (by omega) (by omega), bnd_ok (by omega) (by omega) (by omega)]
   simp only [hrd, hset]
   by_cases hs : s = 0
   ·rw [biF (by simp [hs])]
    obtain ⟨g1, g2, g3⟩ := hs0 hs
    rw [g1, g2, g3]
    simp [pushE, M_append, M_cons, M_nil, enc]
   ·rw [biT (by simpa using hs), bnd_ok (by omega) (by omega) (by omega), idx_ok (by omega) (by omega), roomy_ok (by show (enc _).size + (enc t).size ≤ _; omega), idx_ok (by omega) (by omega), bnd_ok (by omega) (by omega) (by omega), bnd_ok (by omega) (by omega) (by omega)]
    simp only [pushE, List.reverse_cons, List.reverse_nil, List.nil_append, M_append, M_cons, M_nil, List.length_cons, List.length_nil, Nat.zero_add]
    rw [enc_append]
  ·
   have e1 : M (((0, s0) :: A').reverse ++ P ++ (0, t) :: R) = M A'.reverse ++ ((0 : Int), enc s0) :: (M P ++ ((0 : Int), enc t) :: M R) := by simp [M_append, M_cons, M_nil]
   have hlen : ((0, s0) :: A' : List Rp).length = A'.length + 1 := rfl
   have hw3 : w64 ((((0, s0) :: A' : List Rp).length : Int) - 1) = (A'.length : Int) := by rw [w64_id (by omega) (by omega)]; omega
   have hza := enc_size_le s0
   have hsa : s0.length ≤ 1000000000 := by rw [allR_cons] at hAs; simp only at hAs; omega
   rw [bdT (by omega)]
   simp only [hw3, e1]
   have hrd : rd (M A'.reverse ++ ((0 : Int), enc s0) :: (M P ++ ((0 : Int), enc t) :: M R)) (A'.length : Int) ((0 : Int), (⟨#[]⟩ : ByteArray)) = ((0 : Int), enc s0) := rd_mid (by simp [M_length])
   have hset : ∀ v, (M A'.reverse ++ ((0 : Int), enc s0) :: (M P ++ ((0 : Int), enc t) :: M R)).set (A'.length : Int).toNat v = M A'.reverse ++ v :: (M P ++ ((0 : Int), enc t) :: M R) := fun v => set_mid (by simp [M_length])
   have hlm2 : ∀ v : Prt, (M A'.reverse ++ v :: (M P ++ ((0 : Int), enc t) :: M R)).length = A'.length + 1 + P.length + 1 + R.length := by intro v; simp [M_length]; omega
   simp only [hrd, hset, hlm2]
   have hrd2 : ∀ v : Prt, rd (M A'.reverse ++ v :: (M P ++ ((0 : Int), enc t) :: M R)) ((((0, s0) :: A' : List Rp).length + P.length : Nat) : Int) ((0 : Int), (⟨#[]⟩ : ByteArray)) = ((0 : Int), enc t) := by
    intro v
    have : M A'.reverse ++ v :: (M P ++ ((0 : Int), enc t) :: M R) = (M A'.reverse ++ v :: M P) ++ ((0 : Int), enc t) :: M R := by simp
    rw [this]; exact rd_mid (by simp [M_length]; omega)
   have hset2 : ∀ v u : Prt, (M A'.reverse ++ v :: (M P ++ ((0 : Int), enc t) :: M R)).set ((((0, s0) :: A' : List Rp).length + P.length : Nat) : Int).toNat u = M A'.reverse ++ v :: (M P ++ u :: M R) := by
    intro v u
    have : M A'.reverse ++ v :: (M P ++ ((0 : Int), enc t) :: M R) = (M A'.reverse ++ v :: M P) ++ ((0 : Int), enc t) :: M R := by simp
    rw [this, set_mid (by simp [M_length]; omega)]; simp
   simp only [hrd2, hset2]
   rw [idx_ok (by omega) (by omega), biT (by rfl), idx_ok (by omega) (by omega), bnd_ok (by omega) (by omega) (by omega), roomy_ok (by show (enc s0).size + (enc _).size ≤ _; omega), idx_ok (by omega) (by omega), bnd_ok (by omega) (by omega) (by omega), bnd_ok (by omega) (by omega) (by omega)]
   by_cases hs : s = 0
   ·rw [biF (by simp [hs])]
    obtain ⟨g1, g2, g3⟩ := hs0 hs
    rw [g1, g2, g3]
    simp only [pushE, if_true, List.reverse_cons, M_append, M_cons, M_nil, List.length_cons, enc_append, List.nil_append, List.append_assoc, List.singleton_append, List.cons_append]
   ·rw [biT (by simpa using hs), bnd_ok (by omega) (by omega) (by omega), idx_ok (by omega) (by omega), roomy_ok (by show (enc _).size + (enc t).size ≤ _; omega), idx_ok (by omega) (by omega), bnd_ok (by omega) (by omega) (by omega), bnd_ok (by omega) (by omega) (by omega)]
    simp only [pushE, if_true, List.reverse_cons, M_append, M_cons, M_nil, List.length_cons, enc_append, List.nil_append, List.append_assoc, List.singleton_append, List.cons_append]
end Go.Proofs.YtmfgccjcnnlehaaDoorZF
namespace Go.Proofs.YtmfgccjcnnlehaaDoorZF
open Go
set_option linter.unusedVariables false
set_option linter.unusedSimpArgs false
open Classical in
theorem hasPrefix_raw (n : Nat) (x y : ByteArray) (hx : x.size ≤ 1000000000000) (hy : y.size ≤ 1000000000000) : g154 n x y = some (decide (∃ u, x = y ++ u), ()) := by
 dsimp only [g154, g154_1, g177, g177_1]
 by_cases h : y.size ≤ x.size
 ·rw [bdT (by omega), bnd_ok (by omega) (by omega) (by omega), Option.bind_some]
  have e : strEq (cutS x 0 (y.size : Int)) y = decide (∃ u, x = y ++ u) := by
   rw [strEq_eq]
   congr 1
   refine propext ⟨fun h1 => ⟨cutS x (y.size : Int) (x.size : Int), ?_⟩, ?_⟩
   ·apply bytesOf_inj
    rw [bytesOf_append, bytesOf_cutS, cut_to _ _ _ (by rw [bytesOf_length]; omega)]
    have : bytesOf y = (bytesOf x).take y.size := by rw [← h1, bytesOf_cutS, cut_from, h1]; simp
    rw [this, show ((y.size : Nat) : Int).toNat = y.size by omega, List.take_append_drop]
   ·rintro ⟨u, hu⟩
    have := cutS_append_left y u
    rw [← hu] at this
    exact this
  rw [e]
 ·rw [bdF (by omega), Option.bind_some]
  rw [decide_eq_false]
  rintro ⟨u, hu⟩
  have hs := congrArg ByteArray.size hu
  rw [size_append] at hs; omega
theorem hasPrefix_ok (n : Nat) (x y : List Int) (hx : Valids x) (hy : Valids y) (h1 : x.length ≤ 100000000000) (h2 : y.length ≤ 100000000000) : g154 n (enc x) (enc y) = some (decide (y <+: x), ()) := by
 have e1 := enc_size_le x
 have e2 := enc_size_le y
 rw [hasPrefix_raw n _ _ (by omega) (by omega)]
 congr 2
 simp only [decide_eq_decide]
 constructor
 ·rintro ⟨u, hu⟩
  obtain ⟨c, hc, _⟩ := pre_of_bytes hx hy hu
  exact ⟨c, hc.symm⟩
 ·rintro ⟨c, hc⟩
  exact ⟨enc c, by rw [← hc, enc_append]⟩
theorem cut_prefix {x y : List Int} (h : y <+: x) : cutS (enc x) ((enc y).size : Int) ((enc x).size : Int) = enc (x.drop y.length) ∧ (enc y).size ≤ (enc x).size := by
 obtain ⟨c, rfl⟩ := h
 have hs := enc_size_append y c
 refine ⟨?_, by omega⟩
 rw [enc_append, cutS_append_right]
 simp
end Go.Proofs.YtmfgccjcnnlehaaDoorZF
namespace Go.Proofs.YtmfgccjcnnlehaaDoorZF
open Go
set_option linter.unusedVariables false
set_option linter.unusedSimpArgs false
set_option maxRecDepth 100000
theorem all_pushE (u : List Int) : ∀ A : List Rp, allR (pushE u A) = allR A + u.length
 | [] => by simp [pushE, allR]
 | (k, s) :: A => by
  rw [pushE]; split
  ·simp [allR_cons]; omega
  ·simp [allR_cons]; omega
theorem all_reverse : ∀ A : List Rp, allR A.reverse = allR A
 | [] => rfl
 | d :: A => by rw [List.reverse_cons, allR_append, all_reverse A]; simp [allR]; omega
theorem dels_all : ∀ P : List Rp, (delsR P).length + (inssR P).length ≤ allR P := fun P => Nat.le_trans (dels_le P) (edR_le P)
theorem all_stepE {A P : List Rp} (t : List Int) : allR (stepE A P t) ≤ allR A + allR P + t.length := by
 have hd := dels_all P
 unfold stepE
 split
 ·split
  ·simp only [allR_cons]; omega
  ·split
   ·simp only [allR_cons]; omega
   ·simp only [allR_cons]
    have hl := cpl_le_left (inssR P) (delsR P)
    have hr := cpl_le_right (inssR P) (delsR P)
    have hl2 := csl_le_left ((inssR P).drop (cpl (inssR P) (delsR P))) ((delsR P).drop (cpl (inssR P) (delsR P)))
    have hr2 := csl_le_right ((inssR P).drop (cpl (inssR P) (delsR P))) ((delsR P).drop (cpl (inssR P) (delsR P)))
    have e0 : allR (fac A (delsR P) (inssR P) t).A ≤ allR A + cpl (inssR P) (delsR P) := by
     unfold fac; simp only; split
     ·omega
     ·rw [all_pushE, List.length_take]; omega
    unfold fac at e0 ⊢
    simp only at e0 ⊢
    simp only [List.length_take, List.length_drop, List.length_append] at *
    omega
 ·split
  ·rw [all_pushE]; omega
  ·simp only [allR_cons, allR_append, all_reverse]; omega
theorem Hd.stepE (A P : List Rp) (t : List Int) (hA : Hd A) : Hd (stepE A P t) := by
 unfold Go.Proofs.YtmfgccjcnnlehaaDoorZF.stepE
 split
 ·split
  ·exact .inr ⟨_, _, rfl⟩
  ·split
   ·exact .inr ⟨_, _, rfl⟩
   ·exact .inr ⟨_, _, rfl⟩
 ·split
  ·rcases hA with rfl | ⟨s, A', rfl⟩
   ·exact .inr ⟨_, _, rfl⟩
   ·exact .inr ⟨s ++ t, A', by simp [pushE]⟩
  ·exact .inr ⟨_, _, rfl⟩
theorem ne_stepE {A P : List Rp} {t : List Int} : (stepE A P t) ≠ [] := by
 unfold Go.Proofs.YtmfgccjcnnlehaaDoorZF.stepE
 split
 ·split
  ·simp
  ·split <;> simp
 ·split
  ·cases A with
   | nil => simp [pushE]
   | cons d A => obtain ⟨k, s⟩ := d; rw [pushE]; split <;> simp
  ·simp
theorem splits_ok {β : Type} (n : Nat) (hn : Big ≤ n) (q : DenA g124_A → Option (DenR g124_R)) (kn) (p0) (A P R : List Rp) (t : List Int) (b : Bool)
  (hA : Hd A) (hP : Eds P) (hOP : Ok P) (h1 : 1 < P.length) (hl : A.length + P.length + R.length ≤ 1000000000) (hs : allR A + allR P + t.length ≤ 1000000000) :
  g124_14 (β := β) n q kn p0 (M (A.reverse ++ P ++ (0, t) :: R)) ((A.length + P.length : Nat) : Int) (cdR P : Int) (ciR P : Int) (delsR P) (inssR P) b =
   kn p0 (M ((stepE A P t).reverse ++ R)) ((stepE A P t).length : Int) := by
 have hc := cd_ci hP
 have hd := dels_all P
 dsimp only [g124_14]
 have splice_at : ∀ (A P : List Rp) (t : List Int) (es : List Rp), A.length + P.length + R.length ≤ 1000000010 → es.length ≤ 2 → g123 n (M (A.reverse ++ P ++ (0, t) :: R)) (A.length : Int) (P.length : Int) (M es) = some (M (A.reverse ++ es ++ (0, t) :: R), ()) := by
  intro A P t es h1 h2
  rw [splice_ok n hn _ _ A.length P.length (by simp [M_length]) (by simp [M_length]; omega) (by simp [M_length]; omega)]
  have e1 : (M (A.reverse ++ P ++ (0, t) :: R)).take A.length = M A.reverse := by
   rw [M_append, M_append, List.append_assoc]
   have : (M A.reverse).length = A.length := by simp [M_length]
   rw [← this, List.take_left']; rfl
  have e2 : (M (A.reverse ++ P ++ (0, t) :: R)).drop (A.length + P.length) = M ((0, t) :: R) := by
   rw [M_append]
   have : (M (A.reverse ++ P)).length = A.length + P.length := by simp [M_length]
   rw [← this, List.drop_left']; rfl
  rw [e1, e2]
  simp [M_append]
 by_cases hcd : cdR P = 0
 ·
  have hst : stepE A P t = (0, t) :: (1, inssR P) :: A := by unfold stepE; rw [if_pos h1, if_pos hcd]
  rw [hst]
  unfold g124_10
  rw [biF (by simp [hcd])]
  dsimp only [g124_11]
  rw [biT (by simp [hcd])]
  have hw1 : w64 (((A.length + P.length : Nat) : Int) - (ciR P : Int)) = (A.length : Int) := by rw [w64_id (by omega) (by omega)]; omega
  have hw2 : w64 ((cdR P : Int) + (ciR P : Int)) = (P.length : Int) := by rw [w64_id (by omega) (by omega)]; omega
  rw [hw1, hw2]
  have := splice_at A P t [(1, inssR P)] (by omega) (by simp)
  rw [show [((1 : Int), runesBytes (inssR P))] = M [(1, inssR P)] from rfl, this, Option.bind_some]
  dsimp only [g124_12]
  have hw3 : w64 (((A.length + P.length : Nat) : Int) - (cdR P : Int)) = ((A.length + P.length : Nat) : Int) := by rw [w64_id (by omega) (by omega)]; omega
  have hw4 : w64 ((A.length : Int) + 1) = ((A.length + 1 : Nat) : Int) := by rw [w64_id (by omega) (by omega)]; omega
  have hw5 : w64 (((A.length + 1 : Nat) : Int) + 1) = ((A.length + 2 : Nat) : Int) := by rw [w64_id (by omega) (by omega)]; omega
  rw [biF (by simp [hcd]), hw3, hw1, hw4]
  dsimp only [g124_13]
  rw [biT (by simp; omega), hw5]
  simp only [List.reverse_cons, List.append_assoc, List.singleton_append, List.cons_append, List.nil_append]
  rfl
 ·by_cases hci : ciR P = 0
  ·
   have hst : stepE A P t = (0, t) :: (-1, delsR P) :: A := by unfold stepE; rw [if_pos h1, if_neg hcd, if_pos hci]
   rw [hst]
   unfold g124_10
   rw [biT (by simpa using hcd), biF (by simp [hci])]
   dsimp only [g124_11]
   have hw1 : w64 (((A.length + P.length : Nat) : Int) - (cdR P : Int)) = (A.length : Int) := by rw [w64_id (by omega) (by omega)]; omega
   have hw2 : w64 ((cdR P : Int) + (ciR P : Int)) = (P.length : Int) := by rw [w64_id (by omega) (by omega)]; omega
   rw [biF (by simpa using hcd), biT (by simp [hci]), hw1, hw2]
   have := splice_at A P t [(-1, delsR P)] (by omega) (by simp)
   rw [show [((-1 : Int), runesBytes (delsR P))] = M [(-1, delsR P)] from rfl, this, Option.bind_some]
   dsimp only [g124_12]
   have hw3 : w64 ((A.length : Int) - (ciR P : Int)) = (A.length : Int) := by rw [w64_id (by omega) (by omega)]; omega
   have hw4 : w64 ((A.length : Int) + 1) = ((A.length + 1 : Nat) : Int) := by rw [w64_id (by omega) (by omega)]; omega
   have hw5 : w64 (((A.length + 1 : Nat) : Int) + 1) = ((A.length + 2 : Nat) : Int) := by rw [w64_id (by omega) (by omega)]; omega
   rw [biT (by simpa using hcd), hw1, hw3, hw4, hw5]
   dsimp only [g124_13]
   rw [biF (by simp [hci])]
   simp only [List.reverse_cons, List.append_assoc, List.singleton_append, List.cons_append, List.nil_append]
   rfl
  ·
   have hst : stepE A P t = (0, (fac A (delsR P) (inssR P) t).t) :: (1, (fac A (delsR P) (inssR P) t).ti) :: (-1, (fac A (delsR P) (inssR P) t).td) :: (fac A (delsR P) (inssR P) t).A := by unfold stepE; rw [if_pos h1, if_neg hcd, if_neg hci]
   rw [fac_ok n hn q _ p0 A P R t (delsR P) (inssR P) (cdR P) (ciR P) b hA hcd hci hc (by omega) (by omega) (by omega) hl (by omega), hst]
   have hfl : (fac A (delsR P) (inssR P) t).A.length ≤ A.length + 1 := by
    unfold fac; simp only; split
    ·omega
    ·cases A with
     | nil => simp [pushE]
     | cons d A => obtain ⟨k, s⟩ := d; rw [pushE]; split <;> simp
   generalize fac A (delsR P) (inssR P) t = f at hfl ⊢
   dsimp only [g124_11]
   have hw1 : w64 (((f.A.length + P.length : Nat) : Int) - (cdR P : Int)) = ((f.A.length + ciR P : Nat) : Int) := by rw [w64_id (by omega) (by omega)]; omega
   have hw1' : w64 (((f.A.length + ciR P : Nat) : Int) - (ciR P : Int)) = (f.A.length : Int) := by rw [w64_id (by omega) (by omega)]; omega
   have hw2 : w64 ((cdR P : Int) + (ciR P : Int)) = (P.length : Int) := by rw [w64_id (by omega) (by omega)]; omega
   rw [biF (by simpa using hcd), biF (by simpa using hci), hw1, hw1', hw2]
   have := splice_at f.A P f.t [(-1, f.td), (1, f.ti)] (by omega) (by simp)
   rw [show [((-1 : Int), runesBytes f.td), ((1 : Int), runesBytes f.ti)] = M [(-1, f.td), (1, f.ti)] from rfl, this, Option.bind_some]
   dsimp only [g124_12]
   have hw4 : w64 ((f.A.length : Int) + 1) = ((f.A.length + 1 : Nat) : Int) := by rw [w64_id (by omega) (by omega)]; omega
   have hw5 : w64 (((f.A.length + 1 : Nat) : Int) + 1) = ((f.A.length + 2 : Nat) : Int) := by rw [w64_id (by omega) (by omega)]; omega
   have hw6 : w64 (((f.A.length + 2 : Nat) : Int) + 1) = ((f.A.length + 3 : Nat) : Int) := by rw [w64_id (by omega) (by omega)]; omega
   rw [biT (by simpa using hcd), hw1, hw1', hw4, hw5]
   dsimp only [g124_13]
   rw [biT (by simpa using hci), hw6]
   simp only [List.reverse_cons, List.append_assoc, List.singleton_append, List.cons_append, List.nil_append]
   rfl
theorem loop1_ok {β : Type} (n : Nat) (hn : Big ≤ n) (q : DenA g124_A → Option (DenR g124_R)) (kx) (p0) : ∀ (R A P : List Rp) (m : Nat), R.length < m → Hd A → Eds P → Ok P → Ok R →
    phi A + phi P + phi R ≤ 1000000000 → allR A + allR P + allR R ≤ 1000000000 →
    g124_30L (β := β) n q kx m p0 (M (A.reverse ++ P ++ R)) ((A.length + P.length : Nat) : Int) (cdR P : Int) (ciR P : Int) (delsR P) (inssR P) = kx p0 (M ((run1 A P R).1.reverse ++ (run1 A P R).2))
  | [], A, P, m, hm, hA, hP, hOP, hR, hph, hal => by
    obtain ⟨m, rfl⟩ : ∃ m', m = m' + 1 := ⟨m - 1, by omega⟩
    rw [g124_30L.eq_2]
    dsimp only [g124_29, g124_2]
    rw [bdF (by simp [M_length])]
    simp [run1]
  | d :: R, A, P, m, hm, hA, hP, hOP, hR, hph, hal => by
    obtain ⟨m, rfl⟩ : ∃ m', m = m' + 1 := ⟨m - 1, by simp at hm; omega⟩
    have hlA : A.length ≤ phi A := by unfold phi; omega
    have hlP : P.length ≤ phi P := by unfold phi; omega
    have hlR : R.length + 1 ≤ phi (d :: R) := by unfold phi; simp
    have hc := cd_ci hP
    have hdl := dels_all P
    have hx : M (A.reverse ++ P ++ d :: R) = M (A.reverse ++ P) ++ (d.1, enc d.2) :: M R := by rw [M_append, M_cons]
    have hl1 : (M (A.reverse ++ P)).length = A.length + P.length := by rw [M_length]; simp
    have hlm : (M (A.reverse ++ P ++ d :: R)).length = A.length + P.length + 1 + R.length := by rw [M_length]; simp; omega
    have hrd : rd (M (A.reverse ++ P ++ d :: R)) ((A.length + P.length : Nat) : Int) ((0 : Int), (⟨#[]⟩ : ByteArray)) = (d.1, enc d.2) := by rw [hx]; exact rd_mid (by rw [hl1])
    have hop := hR.of_cons.1
    have hsz := enc_size_le d.2
    have had := hal
    rw [allR_cons] at had
    have hz1 : ((A.length + P.length : Nat) : Int) < (((M (A.reverse ++ P ++ d :: R)).length : Nat) : Int) := by omega
    have hw1 : w64 (((A.length + P.length : Nat) : Int) + 1) = ((A.length + (P.length + 1) : Nat) : Int) := by rw [w64_id (by omega) (by omega)]; omega
    rw [g124_30L.eq_2]
    dsimp only [g124_29, g124_2]
    rw [bdT hz1]
    dsimp only [g124_28, g124_27, g124_3]
    rw [idx_ok (by omega) hz1, hrd]
    dsimp only [g124_26, g124_25, g124_4, g124_24]
    by_cases h1 : d.1 = 1
    ·
      have hd0 : d.1 ≠ 0 := by omega
      have e1 : delsR (P ++ [d]) = delsR P := by rw [delsR_append]; simp [delsR, h1]
      have e2 : inssR (P ++ [d]) = inssR P ++ d.2 := by rw [inssR_append]; simp [inssR, h1]
      have e3 : cdR (P ++ [d]) = cdR P := by rw [cdR_append]; simp [cdR, h1]
      have e4 : ciR (P ++ [d]) = ciR P + 1 := by rw [ciR_append]; simp [ciR, h1]
      have ih := loop1_ok n hn q kx p0 R A (P ++ [d]) m (by simp at hm; omega) hA (hP.snoc hop.1 hd0) (hOP.append (Ok.cons' hop Ok.nil)) hR.of_cons.2
        (by rw [phi_append]; have h3 : phi (d :: R) = phi [d] + phi R := by rw [← phi_append]; rfl
            omega) (by rw [allR_append]; have h3 : allR (d :: R) = allR [d] + allR R := by rw [← allR_append]; rfl
                       omega)
      rw [e1, e2, e3, e4] at ih
      rw [biT (by simp [h1])]
      dsimp only [g124_5]
      rw [idx_ok (by omega) hz1, hrd]
      simp only
      rw [room46_ok (by omega), runes_enc hop.2, roomy_ok (by omega), hw1, w64_id (by omega) (by omega)]
      have hrun : run1 A P (d :: R) = run1 A (P ++ [d]) R := by rw [run1, if_neg hd0]
      rw [hrun, ← ih]
      simp
    · rw [biF (by simpa using h1)]
      dsimp only [g124_23, g124_6, g124_22]
      by_cases h2 : d.1 = -1
      ·
        have hd0 : d.1 ≠ 0 := by omega
        have e1 : delsR (P ++ [d]) = delsR P ++ d.2 := by rw [delsR_append]; simp [delsR, h2]
        have e2 : inssR (P ++ [d]) = inssR P := by rw [inssR_append]; simp [inssR, h2]
        have e3 : cdR (P ++ [d]) = cdR P + 1 := by rw [cdR_append]; simp [cdR, h2]
        have e4 : ciR (P ++ [d]) = ciR P := by rw [ciR_append]; simp [ciR, h2]
        have ih := loop1_ok n hn q kx p0 R A (P ++ [d]) m (by simp at hm; omega) hA (hP.snoc hop.1 hd0) (hOP.append (Ok.cons' hop Ok.nil)) hR.of_cons.2
          (by rw [phi_append]; have h3 : phi (d :: R) = phi [d] + phi R := by rw [← phi_append]; rfl
              omega) (by rw [allR_append]; have h3 : allR (d :: R) = allR [d] + allR R := by rw [← allR_append]; rfl
                         omega)
        rw [e1, e2, e3, e4] at ih
        rw [biT (by simp [h2])]
        dsimp only [g124_7]
        rw [idx_ok (by omega) hz1, hrd]
        simp only
        rw [room46_ok (by omega), runes_enc hop.2, roomy_ok (by omega), hw1, w64_id (by omega) (by omega)]
        have hrun : run1 A P (d :: R) = run1 A (P ++ [d]) R := by rw [run1, if_neg hd0]
        rw [hrun, ← ih]
        simp
      ·
        have h0 : d.1 = 0 := by have := hop.1; omega
        obtain ⟨k0, t⟩ := d
        simp only at h0
        subst h0
        rw [biF (by simp)]
        dsimp only [g124_21, g124_8, g124_20]
        rw [biT (by simp)]
        dsimp only [g124_18, g124_9, g124_16]
        have hw2 : w64 ((cdR P : Int) + (ciR P : Int)) = (P.length : Int) := by rw [w64_id (by omega) (by omega)]; omega
        rw [hw2]
        have hphi := phi_stepE (A := A) hP t
        have halls := all_stepE (A := A) (P := P) t
        simp only at had hsz
        have hrun : run1 A P ((0, t) :: R) = run1 (stepE A P t) [] R := by rw [run1, if_pos rfl]
        have hphR : phi ((0, t) :: R) = 1 + phi R := by rw [phi_cons]; simp
        have ih := loop1_ok n hn q kx p0 R (stepE A P t) [] m (by simp at hm; omega) (Hd.stepE A P t hA) Eds.nil Ok.nil hR.of_cons.2 (by have : phi [] = 0 := rfl; omega) (by have : allR [] = 0 := rfl; omega)
        simp only [List.append_nil, List.length_nil, Nat.add_zero, cdR, ciR, delsR, inssR] at ih
        rw [hrun, ← ih]
        by_cases hp : 1 < P.length
        · rw [bdT (by omega)]
          rw [splits_ok n hn q _ p0 A P R t _ hA hP hOP hp (by omega) (by omega)]
          rfl
        · rw [bdF (by omega)]
          dsimp only [g124_15]
          by_cases hv : A.length + P.length = 0
          ·
            have hA0 : A = [] := List.eq_nil_of_length_eq_zero (by omega)
            have hP0 : P = [] := List.eq_nil_of_length_eq_zero (by omega)
            subst hA0; subst hP0
            rw [biF (by simp), hw1]
            have : stepE [] [] t = [(0, t)] := by simp [stepE, pushE]
            rw [this]
            rfl
          · rw [biT (by simp; omega)]
            have hw3 : w64 (((A.length + P.length : Nat) : Int) - 1) = ((A.length + P.length - 1 : Nat) : Int) := by rw [w64_id (by omega) (by omega)]; omega
            rw [hw3, idx_ok (by omega) (by omega)]
            by_cases hP0 : P = []
            ·
              subst hP0
              rcases hA with rfl | ⟨s0, A', rfl⟩
              · simp at hv
              have hza := enc_size_le s0
              have hsa := had
              rw [allR_cons] at hsa
              simp only at hsa
              have e1 : M (((0, s0) :: A').reverse ++ [] ++ (0, t) :: R) = M A'.reverse ++ ((0 : Int), enc s0) :: (((0 : Int), enc t) :: M R) := by simp [M_append, M_cons, M_nil]
              have hlA' : ((((0, s0) :: A' : List Rp).length + ([] : List Rp).length - 1 : Nat) : Int) = (A'.length : Int) := by simp
              have hlA2 : ((((0, s0) :: A' : List Rp).length + ([] : List Rp).length : Nat) : Int) = ((A'.length + 1 : Nat) : Int) := by simp
              rw [hlA', hlA2]
              simp only [e1]
              have hrd1 : rd (M A'.reverse ++ ((0 : Int), enc s0) :: (((0 : Int), enc t) :: M R)) (A'.length : Int) ((0 : Int), (⟨#[]⟩ : ByteArray)) = ((0 : Int), enc s0) := rd_mid (by simp [M_length])
              have hrd2 : rd (M A'.reverse ++ ((0 : Int), enc s0) :: (((0 : Int), enc t) :: M R)) ((A'.length + 1 : Nat) : Int) ((0 : Int), (⟨#[]⟩ : ByteArray)) = ((0 : Int), enc t) := by
                have : M A'.reverse ++ ((0 : Int), enc s0) :: (((0 : Int), enc t) :: M R) = (M A'.reverse ++ [((0 : Int), enc s0)]) ++ ((0 : Int), enc t) :: M R := by simp
                rw [this]; exact rd_mid (by simp [M_length])
              have hset : ∀ v, (M A'.reverse ++ ((0 : Int), enc s0) :: (((0 : Int), enc t) :: M R)).set (A'.length : Int).toNat v = M A'.reverse ++ v :: (((0 : Int), enc t) :: M R) := fun v => set_mid (by simp [M_length])
              simp only [hrd1, hrd2, hset]
              have hll : (M A'.reverse ++ ((0 : Int), enc s0) :: (((0 : Int), enc t) :: M R)).length = A'.length + 2 + R.length := by simp [M_length]; omega
              have hll2 : ∀ v : Prt, (M A'.reverse ++ v :: (((0 : Int), enc t) :: M R)).length = A'.length + 2 + R.length := by intro v; simp [M_length]; omega
              have hlA3 : ((0, s0) :: A' : List Rp).length = A'.length + 1 := rfl
              rw [biT (by rfl), idx_ok (by omega) (by omega), idx_ok (by omega) (by omega), roomy_ok (by show (enc s0).size + (enc t).size ≤ _; omega), idx_ok (by omega) (by omega)]
              have hw4 : w64 (((A'.length + 1 : Nat) : Int) + 1) = ((A'.length + 2 : Nat) : Int) := by rw [w64_id (by omega) (by omega)]; omega
              simp only [hw4, hll2]
              have hc1 : ∀ v : Prt, cut (M A'.reverse ++ v :: (((0 : Int), enc t) :: M R)) 0 (0 + (((A'.length + 1 : Nat) : Int) - 0)) = M A'.reverse ++ [v] := by
                intro v
                rw [cut_from, show (0 + (((A'.length + 1 : Nat) : Int) - 0)).toNat = (M A'.reverse ++ [v]).length by simp [M_length]]
                have : M A'.reverse ++ v :: (((0 : Int), enc t) :: M R) = (M A'.reverse ++ [v]) ++ (((0 : Int), enc t) :: M R) := by simp
                rw [this, List.take_left']; rfl
              have hc2 : ∀ v : Prt, cut (M A'.reverse ++ v :: (((0 : Int), enc t) :: M R)) ((A'.length + 2 : Nat) : Int) (((A'.length + 2 : Nat) : Int) + (((A'.length + 2 + R.length : Nat) : Int) - ((A'.length + 2 : Nat) : Int))) = M R := by
                intro v
                rw [cut_to _ _ _ (by rw [hll2]; omega), show (((A'.length + 2 : Nat) : Int)).toNat = (M A'.reverse ++ [v, ((0 : Int), enc t)]).length by simp [M_length]; omega]
                have : M A'.reverse ++ v :: (((0 : Int), enc t) :: M R) = (M A'.reverse ++ [v, ((0 : Int), enc t)]) ++ M R := by simp
                rw [this, List.drop_left']; rfl
              simp only [hc1, hc2]
              rw [bnd_ok (by omega) (by omega) (by omega), bnd_ok (by omega) (by omega) (by omega), roomy_ok (by simp [M_length]; omega)]
              have hst : stepE ((0, s0) :: A') [] t = (0, s0 ++ t) :: A' := by simp [stepE, pushE]
              rw [hst]
              simp only [g124_17, List.reverse_cons, M_append, M_cons, M_nil, enc_append, List.length_cons, List.append_assoc, List.singleton_append]
              rfl
            ·
              have hPl : P.length = 1 := by
                have : P.length ≠ 0 := fun h => hP0 (List.eq_nil_of_length_eq_zero h)
                omega
              obtain ⟨e, rfl⟩ : ∃ e, P = [e] := by
                match P, hPl with
                | [e], _ => exact ⟨e, rfl⟩
              have hrd1 : rd (M (A.reverse ++ [e] ++ (0, t) :: R)) ((A.length + [e].length - 1 : Nat) : Int) ((0 : Int), (⟨#[]⟩ : ByteArray)) = (e.1, enc e.2) := by
                have : M (A.reverse ++ [e] ++ (0, t) :: R) = M A.reverse ++ (e.1, enc e.2) :: M ((0, t) :: R) := by simp [M_append, M_cons, M_nil]
                rw [this]; exact rd_mid (by simp [M_length])
              have he := hP e (by simp)
              rw [hrd1, biF (by show (e.1 == 0) = false; rcases he with h | h <;> rw [h] <;> rfl), hw1]
              have hst : stepE A [e] t = (0, t) :: e :: A := by simp [stepE]
              rw [hst]
              simp only [g124_17, List.reverse_cons, List.length_cons, List.length_nil, List.append_assoc, List.singleton_append]
              rfl
end Go.Proofs.YtmfgccjcnnlehaaDoorZF
namespace Go.Proofs.YtmfgccjcnnlehaaDoorZF
open Go
set_option linter.unusedVariables false
set_option linter.unusedSimpArgs false
set_option maxRecDepth 100000
theorem loop2_ok {β : Type} (n : Nat) (hn : Big ≤ n) (q0 : DenA g124_A → Option (DenR g124_R)) (kx) (p0) : ∀ (k : Nat) (R A : List Rp) (ch : Bool) (m : Nat), R.length = k → k < m → Ok A → Ok R →
  A.length + R.length ≤ 1000000000 → allR A + allR R ≤ 1000000000 →
  g124_35L (β := β) n q0 kx m p0 (M (A.reverse ++ R)) ((A.length + 1 : Nat) : Int) ch = kx p0 (M (slide A R ch).1) (slide A R ch).2 := by
 intro k
 induction k using Nat.strongRecOn with
 | _ k ih =>
  intro R A ch m hk hm hA hR hl hal
  obtain ⟨m, rfl⟩ : ∃ m', m = m' + 1 := ⟨m - 1, by omega⟩
  have hlm : (M (A.reverse ++ R)).length = A.length + R.length := by rw [M_length]; simp
  have hw0 : w64 (((M (A.reverse ++ R)).length : Int) - 1) = (A.length : Int) + (R.length : Int) - 1 := by rw [w64_id (by omega) (by omega)]; omega
  rw [g124_35L.eq_2]
  unfold g124_34
  rw [hw0]
  by_cases h3 : R.length < 3
  ·rw [bdF (by omega)]
   have : slide A R ch = (A.reverse ++ R, ch) := by
    match R, h3 with
    | [], _ => unfold slide; rfl
    | [p], _ => unfold slide; rfl
    | [p, c], _ => unfold slide; rfl
   rw [this]
  ·obtain ⟨p, c, q, R, rfl⟩ : ∃ p c q R', R = p :: c :: q :: R' := by
    match R, h3 with
    | [], h3 => simp at h3
    | [p], h3 => simp at h3
    | [p, c], h3 => simp at h3
    | p :: c :: q :: R, _ => exact ⟨p, c, q, R, rfl⟩
   ·skip
    have hRl : (p :: c :: q :: R).length = R.length + 3 := rfl
    have hp := hR.of_cons.1
    have hc := hR.of_cons.2.of_cons.1
    have hq := hR.of_cons.2.of_cons.2.of_cons.1
    have hR' := hR.of_cons.2.of_cons.2.of_cons.2
    simp only [allR_cons] at hal
    have hzp := enc_size_le p.2
    have hzc := enc_size_le c.2
    have hzq := enc_size_le q.2
    have hx : M (A.reverse ++ p :: c :: q :: R) = M A.reverse ++ (p.1, enc p.2) :: (c.1, enc c.2) :: (q.1, enc q.2) :: M R := by rw [M_append]; rfl
    have hAl : (M A.reverse).length = A.length := by simp [M_length]
    have hwm : w64 (((A.length + 1 : Nat) : Int) - 1) = (A.length : Int) := by rw [w64_id (by omega) (by omega)]; omega
    have hwp : w64 (((A.length + 1 : Nat) : Int) + 1) = ((A.length + 2 : Nat) : Int) := by rw [w64_id (by omega) (by omega)]; omega
    have g0 : ∀ u v w : Prt, rd (M A.reverse ++ u :: v :: w :: M R) (A.length : Int) ((0 : Int), (⟨#[]⟩ : ByteArray)) = u := fun u v w => rd_mid (by rw [hAl])
    have g1 : ∀ u v w : Prt, rd (M A.reverse ++ u :: v :: w :: M R) ((A.length + 1 : Nat) : Int) ((0 : Int), (⟨#[]⟩ : ByteArray)) = v := fun u v w => by
     have : M A.reverse ++ u :: v :: w :: M R = (M A.reverse ++ [u]) ++ v :: w :: M R := by simp
     rw [this]; exact rd_mid (by simp [hAl])
    have g2 : ∀ u v w : Prt, rd (M A.reverse ++ u :: v :: w :: M R) ((A.length + 2 : Nat) : Int) ((0 : Int), (⟨#[]⟩ : ByteArray)) = w := fun u v w => by
     have : M A.reverse ++ u :: v :: w :: M R = (M A.reverse ++ [u, v]) ++ w :: M R := by simp
     rw [this]; exact rd_mid (by simp [hAl])
    have s0 : ∀ u v w x : Prt, (M A.reverse ++ u :: v :: w :: M R).set (A.length : Int).toNat x = M A.reverse ++ x :: v :: w :: M R := fun u v w x => set_mid (by rw [hAl]; omega)
    have s1 : ∀ u v w x : Prt, (M A.reverse ++ u :: v :: w :: M R).set ((A.length + 1 : Nat) : Int).toNat x = M A.reverse ++ u :: x :: w :: M R := fun u v w x => by
     have : M A.reverse ++ u :: v :: w :: M R = (M A.reverse ++ [u]) ++ v :: w :: M R := by simp
     rw [this, set_mid (by simp [hAl])]; simp
    have s2 : ∀ u v w x : Prt, (M A.reverse ++ u :: v :: w :: M R).set ((A.length + 2 : Nat) : Int).toNat x = M A.reverse ++ u :: v :: x :: M R := fun u v w x => by
     have : M A.reverse ++ u :: v :: w :: M R = (M A.reverse ++ [u, v]) ++ w :: M R := by simp
     rw [this, set_mid (by simp [hAl]; omega)]; simp
    have ll : ∀ u v w : Prt, (M A.reverse ++ u :: v :: w :: M R).length = A.length + 3 + R.length := fun u v w => by simp [M_length]; omega
    have skip : g124_35L (β := β) n q0 kx m p0 (M A.reverse ++ (p.1, enc p.2) :: (c.1, enc c.2) :: (q.1, enc q.2) :: M R) ((A.length + 2 : Nat) : Int) ch = kx p0 (M (slide (p :: A) (c :: q :: R) ch).1) (slide (p :: A) (c :: q :: R) ch).2 := by
     have := ih (c :: q :: R).length (by rw [← hk]; simp) (c :: q :: R) (p :: A) ch m rfl (by simp at hk ⊢; omega) (Ok.cons' hp hA) hR.of_cons.2 (by simp at hl ⊢; omega) (by simp only [allR_cons]; omega)
     rw [← this]
     have e : M ((p :: A).reverse ++ c :: q :: R) = M A.reverse ++ (p.1, enc p.2) :: (c.1, enc c.2) :: (q.1, enc q.2) :: M R := by
      simp [M_append, M_cons, M_nil]
     rw [e]; rfl
    rw [bdT (by omega)]
    simp only [hwm, hwp, hx, g0, g1, g2, ll]
    rw [idx_ok (by omega) (by omega), idx_ok (by omega) (by omega), idx_ok (by omega) (by omega), idx_ok (by omega) (by omega)]
    rw [slide]
    by_cases hp0 : p.1 = 0
    ·rw [biT (by simpa using hp0)]
     by_cases hq0 : q.1 = 0
     ·rw [biT (by simpa using hq0), if_pos ⟨hp0, hq0⟩, hasSuffix_ok n _ _ hc.2 hp.2 (by omega) (by omega), Option.bind_some]
      by_cases hs : p.2 <:+ c.2
      ·
       rw [if_pos hs, biT (by simpa using hs)]
       obtain ⟨e1, e2⟩ := cut_suffix hs
       have hwc : w64 (((enc c.2).size : Int) - ((enc p.2).size : Int)) = ((enc c.2).size : Int) - ((enc p.2).size : Int) := w64_id (by omega) (by omega)
       have hzt := enc_size_le (c.2.take (c.2.length - p.2.length))
       simp only [List.length_take] at hzt
       simp only [hwc, e1, s1, ll, g0, g1, g2, s2]
       simp (disch := omega) only [idx_ok, bnd_ok, roomy_ok]
       have hsp := splice_ok n hn (M A.reverse ++ (p.1, enc p.2) :: (c.1, enc p.2 ++ enc (c.2.take (c.2.length - p.2.length))) :: (q.1, enc p.2 ++ enc q.2) :: M R) [] A.length 1 (by rw [ll]; omega) (by rw [ll]; omega) (by simp)
       have ht : (M A.reverse ++ (p.1, enc p.2) :: (c.1, enc p.2 ++ enc (c.2.take (c.2.length - p.2.length))) :: (q.1, enc p.2 ++ enc q.2) :: M R).take A.length = M A.reverse := by rw [← hAl, List.take_left']; rfl
       have hd : (M A.reverse ++ (p.1, enc p.2) :: (c.1, enc p.2 ++ enc (c.2.take (c.2.length - p.2.length))) :: (q.1, enc p.2 ++ enc q.2) :: M R).drop (A.length + 1) = (c.1, enc p.2 ++ enc (c.2.take (c.2.length - p.2.length))) :: (q.1, enc p.2 ++ enc q.2) :: M R := by
        have : M A.reverse ++ (p.1, enc p.2) :: (c.1, enc p.2 ++ enc (c.2.take (c.2.length - p.2.length))) :: (q.1, enc p.2 ++ enc q.2) :: M R = (M A.reverse ++ [(p.1, enc p.2)]) ++ (c.1, enc p.2 ++ enc (c.2.take (c.2.length - p.2.length))) :: (q.1, enc p.2 ++ enc q.2) :: M R := by simp
        rw [this, show A.length + 1 = (M A.reverse ++ [(p.1, enc p.2)]).length by simp [hAl], List.drop_left']; rfl
       rw [ht, hd] at hsp
       rw [show (1 : Int) = ((1 : Nat) : Int) from rfl, hsp, Option.bind_some]
       have := ih (((q.1, p.2 ++ q.2) :: R : List Rp)).length (by rw [← hk]; simp) ((q.1, p.2 ++ q.2) :: R) ((c.1, p.2 ++ c.2.take (c.2.length - p.2.length)) :: A) true m rfl (by simp at hk ⊢; omega)
        (Ok.cons' ⟨hc.1, hp.2.append (hc.2.take _)⟩ hA) (Ok.cons' ⟨hq.1, hp.2.append hq.2⟩ hR') (by simp at hl ⊢; omega) (by have := hs.length_le; simp only [allR_cons, List.length_append, List.length_take]; omega)
       rw [← this]
       have e : M (((c.1, p.2 ++ c.2.take (c.2.length - p.2.length)) :: A).reverse ++ (q.1, p.2 ++ q.2) :: R) = M A.reverse ++ [] ++ (c.1, enc p.2 ++ enc (c.2.take (c.2.length - p.2.length))) :: (q.1, enc p.2 ++ enc q.2) :: M R := by
        simp [M_append, M_cons, M_nil, enc_append]
       rw [e]; rfl
      ·rw [if_neg hs, biF (by simpa using hs), idx_ok (by omega) (by omega), idx_ok (by omega) (by omega), hasPrefix_ok n _ _ hc.2 hq.2 (by omega) (by omega), Option.bind_some]
       by_cases hs2 : q.2 <+: c.2
       ·
        rw [if_pos hs2, biT (by simpa using hs2)]
        obtain ⟨e1, e2⟩ := cut_prefix hs2
        have hzt := enc_size_le (c.2.drop q.2.length)
        simp only [List.length_drop] at hzt
        simp only [s0, ll, g0, g1, g2, s1, e1]
        simp (disch := omega) only [idx_ok, bnd_ok, roomy_ok]
        have hsp := splice_ok n hn (M A.reverse ++ (p.1, enc p.2 ++ enc q.2) :: (c.1, enc (c.2.drop q.2.length) ++ enc q.2) :: (q.1, enc q.2) :: M R) [] (A.length + 2) 1 (by rw [ll]; omega) (by rw [ll]; omega) (by simp)
        have hre : M A.reverse ++ (p.1, enc p.2 ++ enc q.2) :: (c.1, enc (c.2.drop q.2.length) ++ enc q.2) :: (q.1, enc q.2) :: M R = (M A.reverse ++ [(p.1, enc p.2 ++ enc q.2), (c.1, enc (c.2.drop q.2.length) ++ enc q.2)]) ++ (q.1, enc q.2) :: M R := by simp
        have ht : (M A.reverse ++ (p.1, enc p.2 ++ enc q.2) :: (c.1, enc (c.2.drop q.2.length) ++ enc q.2) :: (q.1, enc q.2) :: M R).take (A.length + 2) = M A.reverse ++ [(p.1, enc p.2 ++ enc q.2), (c.1, enc (c.2.drop q.2.length) ++ enc q.2)] := by
         rw [hre, show A.length + 2 = (M A.reverse ++ [(p.1, enc p.2 ++ enc q.2), (c.1, enc (c.2.drop q.2.length) ++ enc q.2)]).length by simp [hAl], List.take_left']; rfl
        have hd : (M A.reverse ++ (p.1, enc p.2 ++ enc q.2) :: (c.1, enc (c.2.drop q.2.length) ++ enc q.2) :: (q.1, enc q.2) :: M R).drop (A.length + 2 + 1) = M R := by
         have : M A.reverse ++ (p.1, enc p.2 ++ enc q.2) :: (c.1, enc (c.2.drop q.2.length) ++ enc q.2) :: (q.1, enc q.2) :: M R = (M A.reverse ++ [(p.1, enc p.2 ++ enc q.2), (c.1, enc (c.2.drop q.2.length) ++ enc q.2), (q.1, enc q.2)]) ++ M R := by simp
         rw [this, show A.length + 2 + 1 = (M A.reverse ++ [(p.1, enc p.2 ++ enc q.2), (c.1, enc (c.2.drop q.2.length) ++ enc q.2), (q.1, enc q.2)]).length by simp [hAl], List.drop_left']; rfl
        rw [ht, hd] at hsp
        rw [show (1 : Int) = ((1 : Nat) : Int) from rfl, hsp, Option.bind_some]
        have := ih (((c.1, c.2.drop q.2.length ++ q.2) :: R : List Rp)).length (by rw [← hk]; simp) ((c.1, c.2.drop q.2.length ++ q.2) :: R) ((p.1, p.2 ++ q.2) :: A) true m rfl (by simp at hk ⊢; omega)
         (Ok.cons' ⟨hp.1, hp.2.append hq.2⟩ hA) (Ok.cons' ⟨hc.1, (hc.2.drop _).append hq.2⟩ hR') (by simp at hl ⊢; omega) (by have := hs2.length_le; simp only [allR_cons, List.length_append, List.length_drop]; omega)
        rw [← this]
        have e : M (((p.1, p.2 ++ q.2) :: A).reverse ++ (c.1, c.2.drop q.2.length ++ q.2) :: R) = M A.reverse ++ [(p.1, enc p.2 ++ enc q.2), (c.1, enc (c.2.drop q.2.length) ++ enc q.2)] ++ [] ++ M R := by
         simp [M_append, M_cons, M_nil, enc_append]
        rw [e]; rfl
       ·rw [if_neg hs2, biF (by simpa using hs2)]
        exact skip
     ·rw [biF (by simpa using hq0), if_neg (fun h => hq0 h.2)]
      exact skip
    ·rw [biF (by simpa using hp0), if_neg (fun h => hp0 h.1)]
     exact skip
theorem all_texts {x : List Rp} : allR x ≤ (srcR x).length + (tgtR x).length := all_le
theorem merge_body (n : Nat) (hn : Big ≤ n) (q0 : DenA g124_A → Option (DenR g124_R)) (p0) (x : List Rp) (hx : Ok x) (hph : phi x ≤ 100000000) (hal : allR x ≤ 100000000) :
  g124_b n q0 p0 (M x) = if (slide [] (join1 x) false).2 = true then (q0 (p0, (M (slide [] (join1 x) false).1, ()))).bind (fun r => some (r.1, ())) else some (M (slide [] (join1 x) false).1, ()) := by
 have hB : (4611686018427387904 : Nat) ≤ n := hn
 have hlx : x.length ≤ phi x := by unfold phi; omega
 dsimp only [g124_b, g124_38, g124_1]
 rw [roomy_ok (by simp [M_length]; omega)]
 dsimp only [g124_31, g124_30]
 have hx0 : Ok (x ++ [(0, [])]) := hx.append (Ok.cons' ⟨.inr (.inl rfl), Valids.nil⟩ Ok.nil)
 have e0 : M x ++ [((0 : Int), (⟨#[]⟩ : ByteArray))] = M ([].reverse ++ [] ++ (x ++ [(0, [])])) := by simp [M_append, M_cons, M_nil]; rfl
 have hp0 : phi (x ++ [(0, [])]) = phi x + 1 := by rw [phi_append]; rfl
 have ha0 : allR (x ++ [(0, [])]) = allR x := by rw [allR_append]; rfl
 have h1 := loop1_ok (β := DenR g124_R) n hn q0 (fun p0 x1 => g124_32 n q0 (fun p0 x1 => g124_33 n q0 (fun p0 x1 v5 v14 => g124_36 n q0 (fun p0 x1 v14 => g124_37 n q0 (fun x4 => some (x4, ())) p0 x1 v14) p0 x1 v5 v14) p0 x1) p0 x1) p0 (x ++ [(0, [])]) [] [] n (by simp; omega) (.inl rfl) Eds.nil Ok.nil hx0 (by have : phi [] = 0 := rfl; omega) (by have : allR [] = 0 := rfl; omega)
 rw [e0]
 refine Eq.trans h1 ?_
 have hrun : (run1 [] [] (x ++ [(0, [])])).1 = stepE (run1 [] [] x).1 (run1 [] [] x).2 [] ∧ (run1 [] [] (x ++ [(0, [])])).2 = [] := by
  have key : ∀ (R A P : List Rp), run1 A P (R ++ [(0, [])]) = (stepE (run1 A P R).1 (run1 A P R).2 [], []) := by
   intro R
   induction R with
   | nil => intro A P; rfl
   | cons d R ih => intro A P; rw [List.cons_append, run1, run1]; split <;> exact ih _ _
  rw [key]; exact ⟨rfl, rfl⟩
 rw [hrun.1, hrun.2, List.append_nil]
 have hne := ne_stepE (A := (run1 [] [] x).1) (P := (run1 [] [] x).2) (t := [])
 have hok : Ok (stepE (run1 [] [] x).1 (run1 [] [] x).2 []) := (Ok.run1 Ok.nil Ok.nil hx).1.stepE (Ok.run1 Ok.nil Ok.nil hx).2 Valids.nil
 have hphs : phi (stepE (run1 [] [] x).1 (run1 [] [] x).2 []) ≤ phi x + 1 := by
  have h2 := phi_run1 x [] [] Eds.nil hx.ops
  have h3 := phi_stepE (A := (run1 [] [] x).1) h2.2 []
  have : phi [] = 0 := rfl
  omega
 have hjoin : join1 x = (chop (stepE (run1 [] [] x).1 (run1 [] [] x).2 [])).reverse := rfl
 have hokj := hx.join1
 have hphj := phi_join1 hx.ops
 have haj : allR (join1 x) ≤ 2 * allR x := by
  have h2 := join1_texts hx.ops
  have h3 := all_le (x := join1 x)
  rw [h2.1, h2.2] at h3
  have := le_all x
  omega
 have hlj : (join1 x).length ≤ phi (join1 x) := by unfold phi; omega
 have second : g124_33 n q0 (fun p0 x1 v5 v14 => g124_36 n q0 (fun p0 x1 v14 => g124_37 n q0 (fun x4 => some (x4, ())) p0 x1 v14) p0 x1 v5 v14) p0 (M (join1 x)) = if (slide [] (join1 x) false).2 = true then (q0 (p0, (M (slide [] (join1 x) false).1, ()))).bind (fun r => some (r.1, ())) else some (M (slide [] (join1 x) false).1, ()) := by
  dsimp only [g124_33, g124_36, g124_35]
  have h4 := loop2_ok (β := DenR g124_R) n hn q0 (fun p0 x1 v14 => g124_37 n q0 (fun x4 => some (x4, ())) p0 x1 v14) p0 (join1 x).length (join1 x) [] false n rfl (by omega) Ok.nil hokj (by simp; omega) (by have : allR [] = 0 := rfl; omega)
  refine Eq.trans h4 ?_
  dsimp only [g124_37]
  cases (slide [] (join1 x) false).2 with
  | true => rfl
  | false => rfl
 rw [hjoin] at second ⊢
 generalize stepE (run1 [] [] x).1 (run1 [] [] x).2 [] = y at *
 rw [← second]
 match y, hne, hok, hphs with
 | (k0, s) :: A, _, hok, hphs =>
  have hlA : A.length + 1 ≤ phi ((k0, s) :: A) := by unfold phi; simp
  have hrev : M ((k0, s) :: A).reverse = M A.reverse ++ [(k0, enc s)] := by simp [M_append, M_cons, M_nil]
  have hll : (M ((k0, s) :: A).reverse).length = A.length + 1 := by simp [M_length]
  dsimp only [g124_32]
  have hw : w64 (((M ((k0, s) :: A).reverse).length : Int) - 1) = (A.length : Int) := by rw [w64_id (by omega) (by omega)]; omega
  rw [hw, idx_ok (by omega) (by omega)]
  have hrd : rd (M ((k0, s) :: A).reverse) (A.length : Int) ((0 : Int), (⟨#[]⟩ : ByteArray)) = (k0, enc s) := by rw [hrev]; exact rd_mid (by simp [M_length])
  rw [hrd]
  by_cases hs : s = []
  ·rw [biT (by subst hs; rfl), bnd_ok (by omega) (by omega) (by omega)]
   have hcut : cut (M ((k0, s) :: A).reverse) 0 (0 + ((A.length : Int) - 0)) = M A.reverse := by
    rw [cut_from, hrev, show (0 + ((A.length : Int) - 0)).toNat = (M A.reverse).length by simp [M_length], List.take_left']; rfl
   rw [hcut]
   have : chop ((k0, s) :: A) = A := by rw [chop, if_pos hs]
   rw [this]
   rfl
  ·rw [biF (by
    have := enc_size_zero (x := s)
    have : (enc s).size ≠ 0 := fun h => hs (this.1 h)
    have h0 : ((enc s).size : Int) ≠ 0 := by omega
    show (((enc s).size : Int) == 0) = false
    exact beq_false_of_ne h0)]
   have : chop ((k0, s) :: A) = (k0, s) :: A := by rw [chop, if_neg hs]
   rw [this]
   rfl
theorem slide_phi {x : List Rp} (hx : Ops x) (h : (slide [] (join1 x) false).2 = true) : phi (slide [] (join1 x) false).1 < phi x := by
 have h1 := phi_slide _ [] (join1 x) false rfl
 have h2 := phi_join1 hx
 rw [if_pos ⟨h, rfl⟩] at h1
 have : phi [] = 0 := rfl
 omega
theorem mergeN_stable : ∀ (k j : Nat) {x : List Rp}, Ok x → phi x < k → phi x < j → mergeN k x = mergeN j x
 | 0, _, x, _, h, _ => by omega
 | _ + 1, 0, x, _, _, h => by omega
 | k + 1, j + 1, x, hx, hk, hj => by
  rw [mergeN, mergeN]
  split
  ·rename_i h
   have := slide_phi hx.ops h
   exact mergeN_stable k j (Ok.slide _ rfl Ok.nil hx.join1) (by omega) (by omega)
  ·rfl
theorem merge_rec (n : Nat) (hn : Big ≤ n) (p0) : ∀ (k : Nat) (x : List Rp), Ok x → phi x < k → phi x ≤ 100000000 → (srcR x).length + (tgtR x).length ≤ 100000000 → g124_rec n k (p0, (M x, ())) = some (M (merge x), ()) := by
 intro k
 induction k with
 | zero => intro x _ h; omega
 | succ k ih =>
  intro x hx hk hph hal
  have h1 := merge_body n hn (g124_rec n k) p0 x hx hph (Nat.le_trans all_le hal)
  refine Eq.trans (show _ = g124_b n (g124_rec n k) p0 (M x) from rfl) ?_
  rw [h1]
  have hst := mergeN_stable (phi x + 1) (phi x + 1 + 1) hx (by omega) (by omega)
  unfold merge
  rw [hst, mergeN]
  have hjt := join1_texts hx.ops
  have hst2 := slide_texts _ [] (join1 x) false rfl
  simp only [List.reverse_nil, List.nil_append] at hst2
  split
  ·rename_i h
   have h2 := slide_phi hx.ops h
   have h3 : Ok (slide [] (join1 x) false).1 := Ok.slide _ rfl Ok.nil hx.join1
   have h4 := ih _ h3 (by omega) (by omega) (by rw [hst2.1, hst2.2.1, hjt.1, hjt.2]; exact hal)
   rw [h4]
   refine (show _ = some (M (merge (slide [] (join1 x) false).1), ()) from rfl).trans ?_
   unfold merge
   rw [mergeN_stable (phi (slide [] (join1 x) false).1 + 1) (phi x + 1) h3 (by omega) (by omega)]
  ·rfl
theorem merge_ok (n : Nat) (hn : Big ≤ n) (p0) (x : List Rp) (hx : Ok x) (hph : phi x ≤ 100000000) (hal : (srcR x).length + (tgtR x).length ≤ 100000000) : g124 n p0 (M x) = some (M (merge x), ()) :=
 merge_rec n hn p0 n x hx (by unfold Big at hn; omega) hph hal
end Go.Proofs.YtmfgccjcnnlehaaDoorZF
