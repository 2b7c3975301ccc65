/- Plain statements about the printed functions. -/
import Derived.Test.YtoafkjeamgelgaaDoorZFB
import Derived.Test.YtoafkjeamgelgaaDoorZGA0
namespace Go.Proofs.YtoafkjeamgelgaaDoorZF
open Go
set_option linter.unusedVariables false
set_option linter.unusedSimpArgs false
def Big : Nat := 4611686018427387904
section
variable {β : Type}
theorem w64_id {n : Int} (h0 : -9223372036854775808 ≤ n) (h1 : n < 9223372036854775808) : w64 n = n := by
 unfold w64 IntKind.wrap; simp [IntKind.bits, IntKind.signed]; omega
theorem wu8_id {n : Int} (h0 : 0 ≤ n) (h1 : n < 256) : IntKind.u8.wrap n = n := by
 unfold IntKind.wrap; simp [IntKind.bits, IntKind.signed]; omega
theorem wi32_id {n : Int} (h0 : -2147483648 ≤ n) (h1 : n < 2147483648) : IntKind.i32.wrap n = n := by
 unfold IntKind.wrap; simp [IntKind.bits, IntKind.signed]; omega
theorem wi8_id {n : Int} (h0 : -128 ≤ n) (h1 : n < 128) : IntKind.i8.wrap n = n := by
 unfold IntKind.wrap; simp [IntKind.bits, IntKind.signed]; omega
theorem wu32_id {n : Int} (h0 : 0 ≤ n) (h1 : n < 4294967296) : IntKind.u32.wrap n = n := by
 unfold IntKind.wrap; simp [IntKind.bits, IntKind.signed]; omega
theorem wi64_id {n : Int} (h0 : -9223372036854775808 ≤ n) (h1 : n < 9223372036854775808) : IntKind.i64.wrap n = n := w64_id h0 h1
theorem idx_ok {i n : Int} {κ : Option β} (h0 : 0 ≤ i) (h1 : i < n) : idx i n κ = κ := by simp [idx, h0, h1]
theorem bnd_ok {a b n : Int} {κ : Option β} (h0 : 0 ≤ a) (h1 : a ≤ b) (h2 : b ≤ n) : bnd a b n κ = κ := by simp [bnd, h0, h1, h2]
theorem roomy_ok {n : Nat} {κ : Option β} (h : n ≤ 1099511627776) : roomy n κ = κ := by simp [roomy, h]
theorem roomI_ok {n : Int} {κ : Option β} (h : n ≤ 1099511627776) : roomI n κ = κ := by simp [roomI, h]
theorem room46_ok {z : ByteArray} {κ : Option β} (h : z.size ≤ 70368744177664) : room46 z κ = κ := by
 have : Nat.ble z.size 70368744177664 = true := by rw [Nat.ble_eq]; exact h
 simp [room46, this]
theorem nz_ok {b : Int} {κ : Option β} (h : b ≠ 0) : nz b κ = κ := by simp [nz, h]
theorem nneg_ok {b : Int} {κ : Option β} (h : 0 ≤ b) : nneg b κ = κ := by
 have : ¬ b < 0 := by omega
 simp [nneg, this]
theorem biT {γ : Type} {c : Bool} {x y : γ} (h : c = true) : (bif c then x else y) = x := by rw [h]; rfl
theorem biF {γ : Type} {c : Bool} {x y : γ} (h : c = false) : (bif c then x else y) = y := by rw [h]; rfl
theorem bdT {γ : Type} {p : Prop} [Decidable p] {x y : γ} (h : p) : (bif decide p then x else y) = x := by rw [decide_eq_true h]; rfl
theorem bdF {γ : Type} {p : Prop} [Decidable p] {x y : γ} (h : ¬ p) : (bif decide p then x else y) = y := by rw [decide_eq_false h]; rfl
theorem bind_some' {γ δ : Type} {o : Option γ} {a : γ} {f : γ → Option δ} (h : o = some a) : o.bind f = f a := by rw [h]; rfl
end
theorem rd_lt {α : Type} {xs : List α} {i : Int} {d : α} (h0 : 0 ≤ i) (h1 : i < xs.length) : rd xs i d = xs[i.toNat]'(by omega) := by
 unfold rd; rw [List.getD_eq_getElem?_getD, List.getElem?_eq_getElem (by omega)]; rfl
theorem rd_nat {α : Type} {xs : List α} {n : Nat} {d : α} : rd xs (n : Int) d = xs.getD n d := by simp [rd]
theorem cut_nat {α : Type} (xs : List α) (a b : Nat) : cut xs (a : Int) (b : Int) = (xs.drop a).take (b - a) := by simp [cut]
theorem cut_to {α : Type} (xs : List α) (a b : Int) (h : (xs.length : Int) ≤ b) : cut xs a b = xs.drop a.toNat := by
 unfold cut; rw [List.take_of_length_le]; rw [List.length_drop]; omega
theorem cut_from {α : Type} (xs : List α) (b : Int) : cut xs 0 b = xs.take b.toNat := by simp [cut]
theorem ba_ext {x y : ByteArray} (h : x.data.toList = y.data.toList) : x = y := by
 obtain ⟨⟨x⟩⟩ := x; obtain ⟨⟨y⟩⟩ := y; simp only at h; rw [h]
theorem bytesOf_length (z : ByteArray) : (bytesOf z).length = z.size := by unfold bytesOf; rw [List.length_map]; rfl
theorem bytesOf_inj {x y : ByteArray} (h : bytesOf x = bytesOf y) : x = y := by
 refine ba_ext ?_
 unfold bytesOf at h
 exact (List.map_inj_right (fun a b hab => UInt8.toNat_inj.1 (by exact_mod_cast hab))).1 h
theorem strEq_eq (x y : ByteArray) : strEq x y = decide (x = y) := by
 unfold strEq
 have e : ∀ z : ByteArray, z.toList = z.data.toList := fun z => by
  have key : ∀ (l : List UInt8) (k : Nat) (acc : List UInt8), (k ≤ l.length) → ByteArray.toList.loop ⟨⟨l⟩⟩ k acc = acc.reverse ++ l.drop k := by
   intro l k acc hk
   induction hj : l.length - k generalizing k acc with
   | zero =>
    unfold ByteArray.toList.loop
    have : ¬ k < (ByteArray.mk ⟨l⟩).size := by show ¬ k < l.length; omega
    rw [if_neg this, List.drop_eq_nil_of_le (by omega)]; simp
   | succ j ih =>
    unfold ByteArray.toList.loop
    have h1 : k < l.length := by omega
    have : k < (ByteArray.mk ⟨l⟩).size := h1
    rw [if_pos this, ih (k + 1) _ (by omega) (by omega)]
    have hg : (ByteArray.mk ⟨l⟩).get! k = l[k] := by
     show (Array.mk l)[k]! = l[k]
     rw [getElem!_pos (Array.mk l) k (by simpa using h1)]; simp
    rw [hg, List.drop_eq_getElem_cons h1]; simp
  obtain ⟨⟨l⟩⟩ := z
  unfold ByteArray.toList
  rw [key l 0 [] (Nat.zero_le _)]; simp
 rw [e, e]
 by_cases h : x = y
 ·subst h; simp
 ·simp only [h, decide_false]
  exact beq_false_of_ne (fun h' => h (ba_ext h'))
theorem bytesOf_append (x y : ByteArray) : bytesOf (x ++ y) = bytesOf x ++ bytesOf y := by
 unfold bytesOf; rw [ByteArray.data_append, Array.toList_append, List.map_append]
theorem size_append (x y : ByteArray) : (x ++ y).size = x.size + y.size := by rw [← bytesOf_length, bytesOf_append]; simp [bytesOf_length]
theorem bytesOf_cutS (z : ByteArray) (a b : Int) : bytesOf (cutS z a b) = cut (bytesOf z) a b := by
 unfold bytesOf cutS cut
 rw [ByteArray.data_extract, ← List.map_drop, ← List.map_take]
 congr 1
 simp [Array.toList_extract, List.extract_eq_take_drop]
theorem byteAt_rd {z : ByteArray} {i : Int} (h0 : 0 ≤ i) (h1 : i < z.size) : byteAt z i = rd (bytesOf z) i 0 := by
 have hl := bytesOf_length z
 rw [rd_lt h0 (by omega)]
 unfold byteAt bytesOf
 rw [List.getElem_map]
 congr 2
 show z.data[i.toNat]! = _
 rw [getElem!_pos z.data i.toNat (by show i.toNat < z.size; omega)]
 simp
theorem bytesOf_range {z : ByteArray} : ∀ b ∈ bytesOf z, 0 ≤ b ∧ b < 256 := by
 intro b hb
 unfold bytesOf at hb
 obtain ⟨u, _, rfl⟩ := List.mem_map.1 hb
 have := u.toNat_lt
 omega
theorem strOfNums_bytesOf (z : ByteArray) : strOfNums (bytesOf z) = z := by
 refine ba_ext ?_
 rw [strOfNums_data]; unfold bytesOf
 rw [List.map_map]
 refine (List.map_congr_left (fun u _ => ?_)).trans (List.map_id _)
 simp
theorem bytesOf_strOfNums {xs : List Int} (h : ∀ b ∈ xs, 0 ≤ b ∧ b < 256) : bytesOf (strOfNums xs) = xs := by
 unfold bytesOf
 rw [strOfNums_data, List.map_map]
 refine (List.map_congr_left (fun u hu => ?_)).trans (List.map_id _)
 have := h u hu
 simp [UInt8.toNat_ofNat']
 omega
theorem bytesOf_empty : bytesOf (⟨#[]⟩ : ByteArray) = [] := rfl
theorem size_lit (l : List UInt8) : (⟨⟨l⟩⟩ : ByteArray).size = l.length := rfl
theorem size_cutS {z : ByteArray} {a b : Int} (h0 : 0 ≤ a) (h1 : a ≤ b) (h2 : b ≤ z.size) : (cutS z a b).size = (b - a).toNat := by
 have hl := bytesOf_length z
 rw [← bytesOf_length, bytesOf_cutS, length_cut _ _ _ h1 (by omega)]; omega
theorem rd_cut {α : Type} {xs : List α} {a b i : Int} {d : α} (h0 : 0 ≤ a) (h1 : 0 ≤ i) (h2 : i < b - a) (h3 : b ≤ xs.length) : rd (cut xs a b) i d = rd xs (a + i) d := by
 unfold rd cut
 rw [List.getD_eq_getElem?_getD, List.getD_eq_getElem?_getD, List.getElem?_take, if_pos (by omega), List.getElem?_drop]
 congr 2; omega
theorem byteAt_cutS {z : ByteArray} {a b i : Int} (h0 : 0 ≤ a) (h1 : 0 ≤ i) (h2 : i < b - a) (h3 : b ≤ z.size) : byteAt (cutS z a b) i = byteAt z (a + i) := by
 have hl := bytesOf_length z
 have hs := size_cutS (z := z) h0 (show a ≤ b by omega) h3
 rw [byteAt_rd h1 (by omega), byteAt_rd (by omega) (by omega), bytesOf_cutS, rd_cut h0 h1 h2 (by omega)]
end Go.Proofs.YtoafkjeamgelgaaDoorZF
namespace Go.Proofs.YtoafkjeamgelgaaDoorZF
open Go
set_option linter.unusedVariables false
set_option linter.unusedSimpArgs false
theorem range_fold {α σ β : Type} (xs : List α) (F : Nat → σ → Nat → Option β) (k : σ → Option β) (step : σ → α → σ) (Inv : Nat → σ → Prop)
  (h1 : ∀ m s i (hi : i < xs.length), Inv i s → F (m + 1) s i = F m (step s xs[i]) (i + 1) ∧ Inv (i + 1) (step s xs[i]))
  (h2 : ∀ m s, Inv xs.length s → F (m + 1) s xs.length = k s) : ∀ m s, xs.length < m → Inv 0 s → F m s 0 = k (xs.foldl step s) := by
 have key : ∀ (d i m : Nat) (s : σ), xs.length - i = d → i ≤ xs.length → d < m → Inv i s → F m s i = k ((xs.drop i).foldl step s) := by
  intro d
  induction d with
  | zero =>
   intro i m s hd hi hm hs
   obtain ⟨m', rfl⟩ : ∃ m', m = m' + 1 := ⟨m - 1, by omega⟩
   obtain rfl : i = xs.length := by omega
   rw [h2 m' s hs, List.drop_length]; rfl
  | succ d ih =>
   intro i m s hd hi hm hs
   obtain ⟨m', rfl⟩ : ∃ m', m = m' + 1 := ⟨m - 1, by omega⟩
   have hl : i < xs.length := by omega
   obtain ⟨e, hs'⟩ := h1 m' s i hl hs
   rw [e, ih (i + 1) m' _ (by omega) (by omega) (by omega) hs', List.drop_eq_getElem_cons hl]; rfl
 intro m s hm hs
 have := key xs.length 0 m s (by omega) (Nat.zero_le _) hm hs
 simpa using this
theorem range_find {α β : Type} (xs : List α) (F : Nat → Nat → Option β) (kf : (i : Nat) → i < xs.length → Option β) (k : Option β) (p : Nat → α → Bool)
  (h1 : ∀ m i (hi : i < xs.length), (∀ j (hj : j < i), p j (xs[j]'(by omega)) = false) → F (m + 1) i = if p i xs[i] = true then kf i hi else F m (i + 1))
  (h2 : ∀ m, (∀ j (hj : j < xs.length), p j xs[j] = false) → F (m + 1) xs.length = k) : ∀ m, xs.length < m → (∃ i hi, p i (xs[i]'hi) = true ∧ (∀ j (hj : j < i), p j (xs[j]'(by omega)) = false) ∧ F m 0 = kf i hi) ∨ ((∀ j (hj : j < xs.length), p j xs[j] = false) ∧ F m 0 = k) := by
 have key : ∀ (d i m : Nat), xs.length - i = d → (hi : i ≤ xs.length) → d < m → (∀ j (hj : j < i), p j (xs[j]'(by omega)) = false) →
   (∃ i' hi', p i' (xs[i']'hi') = true ∧ (∀ j (hj : j < i'), p j (xs[j]'(by omega)) = false) ∧ F m i = kf i' hi') ∨ ((∀ j (hj : j < xs.length), p j xs[j] = false) ∧ F m i = k) := by
  intro d
  induction d with
  | zero =>
   intro i m hd hi hm hp
   obtain ⟨m', rfl⟩ : ∃ m', m = m' + 1 := ⟨m - 1, by omega⟩
   obtain rfl : i = xs.length := by omega
   exact .inr ⟨hp, h2 m' hp⟩
  | succ d ih =>
   intro i m hd hi hm hp
   obtain ⟨m', rfl⟩ : ∃ m', m = m' + 1 := ⟨m - 1, by omega⟩
   have hl : i < xs.length := by omega
   have e := h1 m' i hl hp
   cases hpi : p i xs[i] with
   | true => rw [hpi, if_pos rfl] at e; exact .inl ⟨i, hl, hpi, hp, e⟩
   | false =>
    rw [hpi, if_neg (by simp)] at e
    rw [e]
    refine ih (i + 1) m' (by omega) (by omega) (by omega) (fun j hj => ?_)
    by_cases hji : j = i
    ·subst hji; exact hpi
    ·exact hp j (by omega)
 intro m hm
 exact key xs.length 0 m (by omega) (Nat.zero_le _) hm (fun j hj => by omega)
theorem rd_at {α : Type} {xs : List α} {i : Nat} {d : α} (h : i < xs.length) : rd xs (i : Int) d = xs[i] := by
 rw [rd_nat, List.getD_eq_getElem?_getD, List.getElem?_eq_getElem h]; rfl
theorem rd_zero {α : Type} {x d : α} {i : Int} (h : i = 0) : rd [x] i d = x := by subst h; rfl
end Go.Proofs.YtoafkjeamgelgaaDoorZF
namespace Go.Proofs.YtoafkjeamgelgaaDoorZF
open Go Go.RowKit
set_option linter.unusedVariables false
set_option linter.unusedSimpArgs false
theorem runesBytes_nil : runesBytes [] = ByteArray.empty := rfl
theorem get_mid (s e u : ByteArray) (k : Nat) (h : k < e.size) : (s ++ e ++ u).get! (s.size + k) = e.get! k := by
 have l1 : s.data.size + k < s.data.size + e.data.size + u.data.size := by have : e.size = e.data.size := rfl; omega
 have l2 : k < e.data.size := h
 show (s ++ e ++ u).data[s.data.size + k]! = e.data[k]!
 simp only [ByteArray.data_append]
 rw [getElem!_pos (s.data ++ e.data ++ u.data) _ (by simp; omega), getElem!_pos e.data k l2, Array.getElem_append_left (by simp; omega), Array.getElem_append_right (by omega)]
 congr 1; omega
theorem b8 (n : Nat) (h : n < 256) : (UInt8.ofNat n).toNat = n := by rw [UInt8.toNat_ofNat']; omega
theorem dec_one (s : ByteArray) (i a : Nat) (h0 : (s.get! i).toNat = a) (ha : a < 128) : Utf8.decode s i = (a, 1) := by
 simp [Utf8.decode, h0, ha]
theorem dec_two (s : ByteArray) (i a b : Nat) (h0 : (s.get! i).toNat = 192 + a) (h1 : (s.get! (i + 1)).toNat = 128 + b) (hs : i + 1 < s.size) (ha : a < 32) (hb : b < 64) (hc : 128 ≤ a * 64 + b) : Utf8.decode s i = (a * 64 + b, 2) := by
 have e1 : (192 + a) / 32 = 6 := by omega
 have e2 : (192 + a) % 32 = a := by omega
 have e3 : (128 + b) / 64 = 2 := by omega
 have e4 : (128 + b) % 64 = b := by omega
 have n1 : ¬ (192 + a < 128) := by omega
 simp [Utf8.decode, h0, h1, e1, e2, e3, e4, hs, n1, hc]
theorem dec_three (s : ByteArray) (i a b c : Nat) (h0 : (s.get! i).toNat = 224 + a) (h1 : (s.get! (i + 1)).toNat = 128 + b) (h2 : (s.get! (i + 2)).toNat = 128 + c) (hs : i + 2 < s.size) (ha : a < 16) (hb : b < 64) (hc : c < 64) (hv : 2048 ≤ a * 4096 + b * 64 + c) (hw : Utf8.valid ((a * 4096 + b * 64 + c : Nat) : Int) = true) : Utf8.decode s i = (a * 4096 + b * 64 + c, 3) := by
 have e0 : (224 + a) / 32 = 7 := by omega
 have e1 : (224 + a) / 16 = 14 := by omega
 have e2 : (224 + a) % 16 = a := by omega
 have e3 : (128 + b) / 64 = 2 := by omega
 have e4 : (128 + b) % 64 = b := by omega
 have e5 : (128 + c) / 64 = 2 := by omega
 have e6 : (128 + c) % 64 = c := by omega
 have n1 : ¬ (224 + a < 128) := by omega
 have s1 : i + 1 < s.size := by omega
 simp [Utf8.decode, h0, h1, h2, e0, e1, e2, e3, e4, e5, e6, hs, s1, n1, hv]
 simpa using hw
theorem dec_four (s : ByteArray) (i a b c d : Nat) (h0 : (s.get! i).toNat = 240 + a) (h1 : (s.get! (i + 1)).toNat = 128 + b) (h2 : (s.get! (i + 2)).toNat = 128 + c) (h3 : (s.get! (i + 3)).toNat = 128 + d) (hs : i + 3 < s.size) (ha : a < 8) (hb : b < 64) (hc : c < 64) (hd : d < 64) (hv : 65536 ≤ a * 262144 + b * 4096 + c * 64 + d) (hw : Utf8.valid ((a * 262144 + b * 4096 + c * 64 + d : Nat) : Int) = true) : Utf8.decode s i = (a * 262144 + b * 4096 + c * 64 + d, 4) := by
 have e0 : (240 + a) / 32 = 7 := by omega
 have e1 : (240 + a) / 16 = 15 := by omega
 have e1' : (240 + a) / 8 = 30 := by omega
 have e2 : (240 + a) % 8 = a := by omega
 have e3 : (128 + b) / 64 = 2 := by omega
 have e4 : (128 + b) % 64 = b := by omega
 have e5 : (128 + c) / 64 = 2 := by omega
 have e6 : (128 + c) % 64 = c := by omega
 have e7 : (128 + d) / 64 = 2 := by omega
 have e8 : (128 + d) % 64 = d := by omega
 have n1 : ¬ (240 + a < 128) := by omega
 have s1 : i + 1 < s.size := by omega
 have s2 : i + 2 < s.size := by omega
 simp [Utf8.decode, h0, h1, h2, h3, e0, e1, e1', e2, e3, e4, e5, e6, e7, e8, hs, s1, s2, n1, hv]
 simpa using hw
theorem decode_encode (s u : ByteArray) (r : Int) (hv : Utf8.valid r = true) : Utf8.decode (s ++ Utf8.encode r ++ u) s.size = (r.toNat, (Utf8.encode r).size) := by
 have hr : 0 ≤ r ∧ r ≤ 1114111 := by simp [Utf8.valid] at hv; omega
 have sz : ∀ e : ByteArray, (s ++ e ++ u).size = s.size + e.size + u.size := by intro e; simp [ByteArray.size_append]
 have g : ∀ (e : ByteArray) (k : Nat), k < e.size → ∀ i, i = s.size + k → (s ++ e ++ u).get! i = e.get! k := by intro e k h i hi; rw [hi]; exact get_mid s e u k h
 by_cases h1 : r.toNat < 128
 ·have e : Utf8.encode r = ⟨#[UInt8.ofNat r.toNat]⟩ := by simp [Utf8.encode, hv, h1]
  rw [e]
  refine dec_one _ _ _ ?_ h1
  refine (congrArg UInt8.toNat (g ⟨#[_]⟩ 0 (show 0 < 1 by decide) _ rfl)).trans ?_
  exact b8 _ (by omega)
 by_cases h2 : r.toNat < 2048
 ·have e : Utf8.encode r = ⟨#[UInt8.ofNat (192 + r.toNat / 64), UInt8.ofNat (128 + r.toNat % 64)]⟩ := by simp [Utf8.encode, hv, h1, h2]
  rw [e]
  refine (dec_two _ _ (r.toNat / 64) (r.toNat % 64) ?_ ?_ ?_ (by omega) (by omega) (by omega)).trans ?_
  ·exact (congrArg UInt8.toNat (g ⟨#[_, _]⟩ 0 (show 0 < 2 by decide) _ rfl)).trans (b8 _ (by omega))
  ·exact (congrArg UInt8.toNat (g ⟨#[_, _]⟩ 1 (show 1 < 2 by decide) _ rfl)).trans (b8 _ (by omega))
  ·rw [sz]; show s.size + 1 < s.size + 2 + u.size; omega
  ·congr 1; omega
 by_cases h3 : r.toNat < 65536
 ·have e : Utf8.encode r = ⟨#[UInt8.ofNat (224 + r.toNat / 4096), UInt8.ofNat (128 + r.toNat / 64 % 64), UInt8.ofNat (128 + r.toNat % 64)]⟩ := by simp [Utf8.encode, hv, h1, h2, h3]
  have q : r.toNat / 4096 * 4096 + r.toNat / 64 % 64 * 64 + r.toNat % 64 = r.toNat := by omega
  rw [e]
  refine (dec_three _ _ (r.toNat / 4096) (r.toNat / 64 % 64) (r.toNat % 64) ?_ ?_ ?_ ?_ (by omega) (by omega) (by omega) (by omega) ?_).trans ?_
  ·exact (congrArg UInt8.toNat (g ⟨#[_, _, _]⟩ 0 (show 0 < 3 by decide) _ rfl)).trans (b8 _ (by omega))
  ·exact (congrArg UInt8.toNat (g ⟨#[_, _, _]⟩ 1 (show 1 < 3 by decide) _ rfl)).trans (b8 _ (by omega))
  ·exact (congrArg UInt8.toNat (g ⟨#[_, _, _]⟩ 2 (show 2 < 3 by decide) _ rfl)).trans (b8 _ (by omega))
  ·rw [sz]; show s.size + 2 < s.size + 3 + u.size; omega
  ·rw [q, Int.toNat_of_nonneg hr.1]; exact hv
  ·rw [q]; rfl
 ·have e : Utf8.encode r = ⟨#[UInt8.ofNat (240 + r.toNat / 262144), UInt8.ofNat (128 + r.toNat / 4096 % 64), UInt8.ofNat (128 + r.toNat / 64 % 64), UInt8.ofNat (128 + r.toNat % 64)]⟩ := by simp [Utf8.encode, hv, h1, h2, h3]
  have q : r.toNat / 262144 * 262144 + r.toNat / 4096 % 64 * 4096 + r.toNat / 64 % 64 * 64 + r.toNat % 64 = r.toNat := by omega
  rw [e]
  refine (dec_four _ _ (r.toNat / 262144) (r.toNat / 4096 % 64) (r.toNat / 64 % 64) (r.toNat % 64) ?_ ?_ ?_ ?_ ?_ (by omega) (by omega) (by omega) (by omega) (by omega) ?_).trans ?_
  ·exact (congrArg UInt8.toNat (g ⟨#[_, _, _, _]⟩ 0 (show 0 < 4 by decide) _ rfl)).trans (b8 _ (by omega))
  ·exact (congrArg UInt8.toNat (g ⟨#[_, _, _, _]⟩ 1 (show 1 < 4 by decide) _ rfl)).trans (b8 _ (by omega))
  ·exact (congrArg UInt8.toNat (g ⟨#[_, _, _, _]⟩ 2 (show 2 < 4 by decide) _ rfl)).trans (b8 _ (by omega))
  ·exact (congrArg UInt8.toNat (g ⟨#[_, _, _, _]⟩ 3 (show 3 < 4 by decide) _ rfl)).trans (b8 _ (by omega))
  ·rw [sz]; show s.size + 3 < s.size + 4 + u.size; omega
  ·rw [q, Int.toNat_of_nonneg hr.1]; exact hv
  ·rw [q]; rfl
theorem encode_pos (r : Int) : 1 ≤ (Utf8.encode r).size := by
 unfold Utf8.encode
 simp only
 repeat' split
 all_goals simp [ByteArray.size]
theorem foldl_enc (ns : List Int) : ∀ s : ByteArray, ns.foldl (fun r n => r ++ Utf8.encode n) s = s ++ runesBytes ns := by
 induction ns with
 | nil => intro s; simp [runesBytes]
 | cons n ns ih =>
  intro s
  unfold runesBytes
  simp only [List.foldl_cons]
  rw [ih, ih (ByteArray.empty ++ _)]
  simp [ByteArray.append_assoc]
theorem runesBytes_cons (n : Int) (ns : List Int) : runesBytes (n :: ns) = Utf8.encode n ++ runesBytes ns := by
 conv => lhs; unfold runesBytes
 rw [List.foldl_cons, foldl_enc]; simp
theorem runesBytes_append (x y : List Int) : runesBytes (x ++ y) = runesBytes x ++ runesBytes y := by
 conv => lhs; unfold runesBytes
 rw [List.foldl_append, foldl_enc]; rfl
def Valids (xs : List Int) : Prop := ∀ x ∈ xs, Utf8.valid x = true
theorem runesAt_back : ∀ (xs : List Int) (s : ByteArray) (b : Nat), Valids xs → (runesBytes xs).size ≤ b → runesAt (s ++ runesBytes xs) b s.size = xs
 | [], s, b, _, _ => by
  cases b with
  | zero => rfl
  | succ b => unfold runesAt; rw [if_neg]; simp [runesBytes]
 | x :: xs, s, b, hv, hb => by
  have hp := encode_pos x
  rw [runesBytes_cons] at hb ⊢
  rw [ByteArray.size_append] at hb
  obtain ⟨b, rfl⟩ : ∃ b', b = b' + 1 := ⟨b - 1, by omega⟩
  have hx : Utf8.valid x = true := hv x (by simp)
  have hr : 0 ≤ x := by simp [Utf8.valid] at hx; omega
  unfold runesAt
  rw [if_pos (by simp [ByteArray.size_append]; omega), ← ByteArray.append_assoc, decode_encode s (runesBytes xs) x hx]
  have e : s.size + (Utf8.encode x).size = (s ++ Utf8.encode x).size := by rw [ByteArray.size_append]
  show ((x.toNat : Nat) : Int) :: runesAt _ b (s.size + (Utf8.encode x).size) = _
  rw [e, runesAt_back xs (s ++ Utf8.encode x) b (fun y hy => hv y (by simp [hy])) (by omega)]
  rw [Int.toNat_of_nonneg hr]
theorem runes_back (xs : List Int) (h : Valids xs) : runesOf (runesBytes xs) = xs := by
 have := runesAt_back xs ByteArray.empty (runesBytes xs).size h (Nat.le_refl _)
 simpa [runesOf] using this
theorem runesBytes_inj {x y : List Int} (hx : Valids x) (hy : Valids y) (h : runesBytes x = runesBytes y) : x = y := by
 rw [← runes_back x hx, ← runes_back y hy, h]
theorem decode_valid (s : ByteArray) (i : Nat) : Utf8.valid ((Utf8.decode s i).1 : Int) = true := by
 unfold Utf8.decode
 simp only [Nat.add_zero]
 split
 ·rename_i h; simp [Utf8.valid]; omega
 split
 ·split
  ·rename_i h1 h2; simp only [Utf8.valid]; simp; omega
  ·decide
 split
 ·split
  ·rename_i h1 h2; simp at h2; exact h2.2
  ·decide
 split
 ·split
  ·rename_i h1 h2; simp at h2; exact h2.2
  ·decide
 ·decide
theorem runesAt_valid (s : ByteArray) : ∀ b i, Valids (runesAt s b i)
 | 0, _ => by intro x hx; simp [runesAt] at hx
 | b + 1, i => by
  intro x hx
  unfold runesAt at hx
  split at hx
  ·rcases List.mem_cons.1 hx with rfl | hx
   ·exact decode_valid s i
   ·exact runesAt_valid s b _ x hx
  ·simp at hx
theorem runesOf_valid (s : ByteArray) : Valids (runesOf s) := runesAt_valid s _ _
theorem Valids.take {x : List Int} (h : Valids x) (n : Nat) : Valids (x.take n) := fun y hy => h y (List.mem_of_mem_take hy)
theorem Valids.drop {x : List Int} (h : Valids x) (n : Nat) : Valids (x.drop n) := fun y hy => h y (List.mem_of_mem_drop hy)
theorem Valids.append {x y : List Int} (h : Valids x) (k : Valids y) : Valids (x ++ y) := fun z hz => (List.mem_append.1 hz).elim (h z) (k z)
end Go.Proofs.YtoafkjeamgelgaaDoorZF
namespace Go.Proofs.YtoafkjeamgelgaaDoorZF
open Go
set_option linter.unusedVariables false
set_option linter.unusedSimpArgs false
def bl (z : ByteArray) : List UInt8 := z.data.toList
theorem bl_append (x y : ByteArray) : bl (x ++ y) = bl x ++ bl y := by unfold bl; rw [ByteArray.data_append, Array.toList_append]
theorem bl_length (z : ByteArray) : (bl z).length = z.size := rfl
theorem bl_inj {x y : ByteArray} (h : bl x = bl y) : x = y := ba_ext h
def inner (b : UInt8) : Prop := 128 ≤ b.toNat ∧ b.toNat < 192
theorem enc_shape (r : Int) : ∃ f t, bl (Utf8.encode r) = f :: t ∧ ¬ inner f ∧ ∀ b ∈ t, inner b := by
 have tn : ∀ n : Nat, n < 256 → (UInt8.ofNat n).toNat = n := fun n h => by rw [UInt8.toNat_ofNat']; omega
 have hc : (if Utf8.valid r then r.toNat else Utf8.runeError) < 1114112 := by
  split
  ·rename_i h
   unfold Utf8.valid at h
   simp at h
   omega
  ·decide
 unfold Utf8.encode
 simp only
 generalize (if Utf8.valid r then r.toNat else Utf8.runeError) = n at hc ⊢
 by_cases h1 : n < 0x80
 ·rw [if_pos h1]
  exact ⟨UInt8.ofNat n, [], rfl, by unfold inner; rw [tn n (by omega)]; omega, by simp⟩
 ·rw [if_neg h1]
  by_cases h2 : n < 0x800
  ·rw [if_pos h2]
   refine ⟨UInt8.ofNat (0xC0 + n / 64), [UInt8.ofNat (0x80 + n % 64)], rfl, by unfold inner; rw [tn _ (by omega)]; omega, ?_⟩
   intro b hb
   simp only [List.mem_cons, List.not_mem_nil, or_false] at hb
   subst hb
   unfold inner; rw [tn _ (by omega)]; omega
  ·rw [if_neg h2]
   by_cases h3 : n < 0x10000
   ·rw [if_pos h3]
    refine ⟨UInt8.ofNat (0xE0 + n / 4096), [UInt8.ofNat (0x80 + n / 64 % 64), UInt8.ofNat (0x80 + n % 64)], rfl, by unfold inner; rw [tn _ (by omega)]; omega, ?_⟩
    intro b hb
    simp only [List.mem_cons, List.not_mem_nil, or_false] at hb
    rcases hb with rfl | rfl <;> (unfold inner; rw [tn _ (by omega)]; omega)
   ·rw [if_neg h3]
    refine ⟨UInt8.ofNat (0xF0 + n / 262144), [UInt8.ofNat (0x80 + n / 4096 % 64), UInt8.ofNat (0x80 + n / 64 % 64), UInt8.ofNat (0x80 + n % 64)], rfl, by unfold inner; rw [tn _ (by omega)]; omega, ?_⟩
    intro b hb
    simp only [List.mem_cons, List.not_mem_nil, or_false] at hb
    rcases hb with rfl | rfl | rfl <;> (unfold inner; rw [tn _ (by omega)]; omega)
abbrev enc (x : List Int) : ByteArray := runesBytes x
theorem bl_enc_cons (r : Int) (x : List Int) : bl (enc (r :: x)) = bl (Utf8.encode r) ++ bl (enc x) := by
 show bl (runesBytes (r :: x)) = _
 rw [runesBytes_cons, bl_append]
theorem enc_append (x y : List Int) : enc (x ++ y) = enc x ++ enc y := runesBytes_append x y
theorem enc_nil : enc [] = (⟨#[]⟩ : ByteArray) := rfl
theorem enc_size_append (x y : List Int) : (enc (x ++ y)).size = (enc x).size + (enc y).size := by rw [enc_append, size_append]
theorem enc_size_cons (r : Int) (x : List Int) : (enc (r :: x)).size = (Utf8.encode r).size + (enc x).size := by
 have := bl_enc_cons r x
 rw [← bl_length, this, List.length_append, bl_length, bl_length]
theorem enc_size_ge : ∀ x : List Int, x.length ≤ (enc x).size
 | [] => Nat.zero_le _
 | r :: x => by
  have h1 := encode_pos r
  have h2 := enc_size_ge x
  rw [enc_size_cons, List.length_cons]; omega
theorem enc_size_le (x : List Int) : (enc x).size ≤ 4 * x.length := runesBytes_size_le x
theorem enc_size_zero {x : List Int} : (enc x).size = 0 ↔ x = [] := by
 constructor
 ·intro h
  have := enc_size_ge x
  exact List.eq_nil_of_length_eq_zero (by omega)
 ·rintro rfl; rfl
theorem enc_inj {x y : List Int} (hx : Valids x) (hy : Valids y) : enc x = enc y ↔ x = y := ⟨runesBytes_inj hx hy, fun h => by rw [h]⟩
theorem runes_enc {x : List Int} (hx : Valids x) : runesOf (enc x) = x := runes_back x hx
theorem Valids.nil : Valids [] := fun x hx => by cases hx
theorem Valids.cons {r : Int} {x : List Int} (h : Valids (r :: x)) : Utf8.valid r = true ∧ Valids x := ⟨h r (by simp), fun y hy => h y (by simp [hy])⟩
theorem decode_head (r : Int) (x : List Int) (u : ByteArray) (hr : Utf8.valid r = true) : Utf8.decode (enc (r :: x) ++ u) 0 = (r.toNat, (Utf8.encode r).size) := by
 have := decode_encode ByteArray.empty (enc x ++ u) r hr
 have e : enc (r :: x) ++ u = ByteArray.empty ++ Utf8.encode r ++ (enc x ++ u) := by
  apply bl_inj
  simp only [bl_append, bl_enc_cons, List.append_assoc]
  rfl
 rw [e]; exact this
theorem valid_nonneg {r : Int} (h : Utf8.valid r = true) : 0 ≤ r ∧ r < 1114112 := by unfold Utf8.valid at h; simp at h; omega
theorem pre_of_bytes : ∀ {a b : List Int} {u : ByteArray}, Valids a → Valids b → enc a = enc b ++ u → ∃ c, a = b ++ c ∧ u = enc c
 | a, [], u, ha, hb, h => ⟨a, rfl, by
   have := congrArg bl h
   rw [bl_append] at this
   exact (bl_inj (this.trans rfl)).symm⟩
 | [], r :: b, u, ha, hb, h => by
  have := congrArg bl h
  obtain ⟨f, t, h1, _⟩ := enc_shape r
  rw [bl_append, bl_enc_cons, h1] at this
  cases this
 | s :: a, r :: b, u, ha, hb, h => by
  have h1 := decode_head s a ByteArray.empty ha.cons.1
  have h2 := decode_head r b u hb.cons.1
  have e : enc (s :: a) ++ ByteArray.empty = enc (s :: a) := by apply bl_inj; rw [bl_append]; show _ ++ [] = _; simp
  rw [e, h] at h1
  rw [h1] at h2
  have hs := valid_nonneg ha.cons.1
  have hr := valid_nonneg hb.cons.1
  have hsr : s = r := by have := (Prod.mk.inj h2).1; omega
  subst hsr
  have h3 : enc a = enc b ++ u := by
   have := congrArg bl h
   rw [bl_append, bl_enc_cons, bl_enc_cons, List.append_assoc] at this
   have := List.append_cancel_left this
   exact bl_inj (this.trans (bl_append _ _).symm)
  obtain ⟨c, hc, hu⟩ := pre_of_bytes ha.cons.2 hb.cons.2 h3
  exact ⟨c, by rw [hc]; rfl, hu⟩
theorem split_at : ∀ {a : List Int} {u v : ByteArray}, enc a = u ++ v → (∀ f t, bl v = f :: t → ¬ inner f) → ∃ b c, a = b ++ c ∧ u = enc b ∧ v = enc c
 | [], u, v, h, hv => by
  have := congrArg bl h
  rw [bl_append] at this
  have h1 : bl u = [] ∧ bl v = [] := by
   have : bl u ++ bl v = [] := this.symm.trans rfl
   simpa using this
  exact ⟨[], [], rfl, bl_inj (h1.1.trans rfl), bl_inj (h1.2.trans rfl)⟩
 | r :: a, u, v, h, hv => by
  by_cases hu : bl u = []
  ·refine ⟨[], r :: a, rfl, bl_inj (hu.trans rfl), ?_⟩
   apply bl_inj
   have := congrArg bl h
   rw [bl_append, hu] at this
   exact this.symm
  ·have hh := congrArg bl h
   rw [bl_append, bl_enc_cons] at hh
   obtain ⟨f, t, h1, h2, h3⟩ := enc_shape r
   rcases List.append_eq_append_iff.1 hh with ⟨w, hw1, hw2⟩ | ⟨w, hw1, hw2⟩
   ·
    obtain ⟨b, c, e1, e2, e3⟩ := split_at (a := a) (u := ⟨⟨w⟩⟩) (v := v) (by apply bl_inj; rw [bl_append]; exact hw2) hv
    refine ⟨r :: b, c, by rw [e1]; rfl, ?_, e3⟩
    apply bl_inj
    rw [hw1, bl_enc_cons, ← e2]; rfl
   ·cases w with
    | nil =>
     obtain ⟨b, c, e1, e2, e3⟩ := split_at (a := a) (u := ⟨⟨[]⟩⟩) (v := v) (by apply bl_inj; rw [bl_append]; exact hw2.symm) hv
     refine ⟨r :: b, c, by rw [e1]; rfl, ?_, e3⟩
     apply bl_inj
     rw [bl_enc_cons, ← e2, hw1, List.append_nil]
     show bl u = bl u ++ []
     simp
    | cons x w =>
     exfalso
     have hx := hv x (w ++ bl (enc a)) hw2
     rw [h1] at hw1
     cases hbu : bl u with
     | nil => exact hu hbu
     | cons y l =>
      rw [hbu] at hw1
      simp only [List.cons_append, List.cons.injEq] at hw1
      exact hx (h3 x (by rw [hw1.2]; simp))
theorem suf_of_bytes {a b : List Int} {u : ByteArray} (ha : Valids a) (hb : Valids b) (h : enc a = u ++ enc b) : ∃ c, a = c ++ b ∧ u = enc c := by
 obtain ⟨c, d, h1, h2, h3⟩ := split_at h (fun f t hf => by
  cases b with
  | nil => cases (show ([] : List UInt8) = f :: t from hf)
  | cons r b =>
   obtain ⟨f', t', g1, g2, _⟩ := enc_shape r
   rw [bl_enc_cons, g1] at hf
   simp only [List.cons_append, List.cons.injEq] at hf
   rw [← hf.1]; exact g2)
 subst h1
 have : b = d := runesBytes_inj hb (fun x hx => ha x (by simp [hx])) h3
 subst this
 exact ⟨c, rfl, h2⟩
theorem cutS_append_left (x y : ByteArray) : cutS (x ++ y) 0 (x.size : Int) = x := by
 apply bytesOf_inj
 rw [bytesOf_cutS, bytesOf_append, cut_from]
 simp [← bytesOf_length]
theorem cutS_append_right (x y : ByteArray) : cutS (x ++ y) (x.size : Int) ((x ++ y).size : Int) = y := by
 apply bytesOf_inj
 rw [bytesOf_cutS, bytesOf_append, cut_to _ _ _ (by rw [← bytesOf_length, bytesOf_append]; simp)]
 simp [← bytesOf_length]
theorem cutS_all (x : ByteArray) : cutS x 0 (x.size : Int) = x := by
 apply bytesOf_inj
 rw [bytesOf_cutS, cut_from]
 simp [← bytesOf_length]
theorem strEq_enc {x y : List Int} (hx : Valids x) (hy : Valids y) : strEq (enc x) (enc y) = decide (x = y) := by
 rw [strEq_eq]; congr 1; exact propext (enc_inj hx hy)
end Go.Proofs.YtoafkjeamgelgaaDoorZF
namespace Go.Proofs.YtoafkjeamgelgaaDoorZF
open Go
set_option linter.unusedVariables false
set_option linter.unusedSimpArgs false
def Asc (l : List Int) : Prop := ∀ b ∈ l, 0 ≤ b ∧ b < 128
theorem Asc.valids {l : List Int} (h : Asc l) : Valids l := fun b hb => by
 have := h b hb
 unfold Utf8.valid; simp; omega
theorem Asc.nil : Asc [] := fun b hb => by cases hb
theorem Asc.append {x y : List Int} (hx : Asc x) (hy : Asc y) : Asc (x ++ y) := fun b hb => (List.mem_append.1 hb).elim (hx b) (hy b)
theorem Asc.take {x : List Int} (hx : Asc x) (k : Nat) : Asc (x.take k) := fun b hb => hx b (List.mem_of_mem_take hb)
theorem Asc.drop {x : List Int} (hx : Asc x) (k : Nat) : Asc (x.drop k) := fun b hb => hx b (List.mem_of_mem_drop hb)
theorem Asc.sub {x y : List Int} (hx : Asc x) (h : ∀ b ∈ y, b ∈ x) : Asc y := fun b hb => hx b (h b hb)
theorem encode_asc {b : Int} (h : 0 ≤ b ∧ b < 128) : bytesOf (Utf8.encode b) = [b] := by
 obtain ⟨k, rfl⟩ := Int.eq_ofNat_of_zero_le h.1
 have hk : k < 128 := by omega
 have hv : Utf8.valid (k : Int) = true := by unfold Utf8.valid; simp; omega
 unfold Utf8.encode
 simp only [hv, if_true, Int.ofNat_eq_natCast, Int.toNat_natCast, hk]
 simp [bytesOf]
 omega
theorem bytes_enc : ∀ {l : List Int}, Asc l → bytesOf (enc l) = l
 | [], _ => rfl
 | b :: l, h => by
  show bytesOf (runesBytes (b :: l)) = _
  rw [runesBytes_cons, bytesOf_append, encode_asc (h b (by simp))]
  have : bytesOf (enc l) = l := bytes_enc fun c hc => h c (by simp [hc])
  show [b] ++ bytesOf (enc l) = _
  rw [this]; rfl
theorem Asc.eq {l : List Int} (h : Asc l) : strOfNums l = enc l := by
 apply bytesOf_inj
 rw [bytes_enc h, bytesOf_strOfNums fun b hb => by have := h b hb; omega]
theorem Asc.size {l : List Int} (h : Asc l) : (enc l).size = l.length := by rw [← bytesOf_length, bytes_enc h]
theorem Asc.byteAt {l : List Int} (h : Asc l) {i : Nat} (hi : i < l.length) : byteAt (enc l) (i : Int) = l[i] := by
 rw [byteAt_rd (by omega) (by rw [h.size]; omega), bytes_enc h, rd_at hi]
theorem Asc.bl {l : List Int} (h : Asc l) : bl (enc l) = l.map fun b => UInt8.ofNat b.toNat := by
 have := h.eq
 rw [← this]
 exact strOfNums_data l
end Go.Proofs.YtoafkjeamgelgaaDoorZF
namespace Go.Proofs.YtoafkjeamgelgaaDoorZF
open Go
set_option linter.unusedVariables false
def IsBytes (x : List Int) : Prop := ∀ b ∈ x, 0 ≤ b ∧ b < 256
theorem GoodK.bytes {e : TypeId} {x : List Int} (h : GoodK (.sl e (.int .u8)) x) : IsBytes x ∧ x.length ≤ maxLen := ⟨fun b hb => by
 have h : (Lit.int .u8 b).wf = true := h.2 b hb
 simp only [Lit.wf, Bool.and_eq_true, decide_eq_true_eq] at h
 have h1 : IntKind.u8.min = 0 := rfl
 have h2 : IntKind.u8.max = 255 := rfl
 omega, h.1⟩
end Go.Proofs.YtoafkjeamgelgaaDoorZF
namespace Go.Proofs.YtoafkjeamgelgaaDoorZF
open Go
set_option linter.unusedVariables false
set_option linter.unusedSimpArgs false
def asc (x : List Int) (k : Nat) : List Int := (x.take k).map fun b => b.tmod 128
theorem asc_ok {x : List Int} (h : IsBytes x) (k : Nat) : Asc (asc x k) := fun b hb => by
 unfold asc at hb
 obtain ⟨c, hc, rfl⟩ := List.mem_map.1 hb
 have := h c (List.mem_of_mem_take hc)
 rw [Int.tmod_eq_emod_of_nonneg this.1]
 omega
theorem asc_length (x : List Int) (k : Nat) : (asc x k).length ≤ k := by unfold asc; rw [List.length_map, List.length_take]; omega
theorem dfAscii_ok (n : Nat) (hn : Big ≤ n) (x : List Int) (hx : IsBytes x) (k : Nat) (hk : k ≤ 1000) (hl : x.length ≤ 2147483647) : g9 n x (k : Int) = some (enc (asc x k), ()) := by
 have key : ∀ (d i m : Nat), min x.length k - i = d → i ≤ min x.length k → d < m → g9_3L n (fun x5 => some (strOfNums x5, ())) m x (k : Int) (asc x i) (i : Int) = some (enc (asc x k), ()) := by
  intro d
  induction d with
  | zero =>
   intro i m hd hi hm
   obtain ⟨m, rfl⟩ : ∃ m', m = m' + 1 := ⟨m - 1, by omega⟩
   have e : asc x i = asc x k := by
    unfold asc
    congr 1
    by_cases hc : x.length ≤ k
    ·rw [List.take_of_length_le (by omega), List.take_of_length_le hc]
    ·obtain rfl : i = k := by omega
     rfl
   rw [g9_3L.eq_2, g9_2]
   by_cases hc : (i : Int) < (x.length : Int)
   ·rw [bdT hc, bdF (by omega), e, (asc_ok hx k).eq]
   ·rw [bdF hc, e, (asc_ok hx k).eq]
  | succ d ih =>
   intro i m hd hi hm
   obtain ⟨m, rfl⟩ : ∃ m', m = m' + 1 := ⟨m - 1, by omega⟩
   have hl2 := asc_length x i
   have hi2 : i < x.length := by omega
   have e : asc x i ++ [(rd x (i : Int) (0 : Int)).tmod (128 : Int)] = asc x (i + 1) := by
    unfold asc
    rw [rd_at hi2, List.take_succ_eq_append_getElem hi2, List.map_append]; rfl
   rw [g9_3L.eq_2, g9_2, bdT (by omega), bdT (by omega), idx_ok (by omega) (by omega), roomy_ok (by simp; omega), e, w64_id (by omega) (by omega)]
   exact ih (i + 1) m (by omega) (by omega) (by omega)
 dsimp only [g9, g9_6, g9_5, g9_4, g9_3, g9_1]
 have := key (min x.length k) 0 n (by omega) (by omega) (by unfold Big at hn; omega)
 simpa [asc] using this
structure Tame (y : List Int) : Prop where
 asc : Asc y
 cr : ∀ b ∈ y, b ≠ 13
 head : ∀ t, y ≠ 10 :: t
 two : ∀ u v, y ≠ u ++ 10 :: 10 :: v
structure UnInv (i L : Nat) (y : List Int) : Prop where
 len : y.length = L
 asc : Asc y
 cr : ∀ j (h : j < y.length), j < i → y[j] ≠ 13
 head : ∀ (h : 0 < y.length), 0 < i → y[0] ≠ 10
 two : ∀ j (h : j + 1 < y.length), j + 1 < i → ¬ (y[j] = 10 ∧ y[j + 1] = 10)
theorem UnInv.tame {L : Nat} {y : List Int} (h : UnInv L L y) : Tame y := by
 have hl := h.len
 refine ⟨h.asc, fun b hb => ?_, fun t e => ?_, fun u v e => ?_⟩
 ·obtain ⟨j, hj, rfl⟩ := List.getElem_of_mem hb
  exact h.cr j hj (by omega)
 ·subst e
  have : 0 < (10 :: t).length := by simp
  exact h.head this (by omega) rfl
 ·subst e
  have h1 : u.length + 1 < (u ++ 10 :: 10 :: v).length := by simp
  refine h.two u.length h1 (by omega) ⟨?_, ?_⟩
  ·simp
  ·rw [List.getElem_append_right (by omega)]; simp
end Go.Proofs.YtoafkjeamgelgaaDoorZF
