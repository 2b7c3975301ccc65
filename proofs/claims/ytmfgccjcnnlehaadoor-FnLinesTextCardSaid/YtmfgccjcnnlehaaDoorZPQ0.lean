/- Plain statements about the printed functions. -/
import Derived.Test.YtmfgccjcnnlehaaDoorZFB
import Derived.Test.YtmfgccjcnnlehaaDoorZGA0
import Derived.Lib.Join
namespace Go.Proofs.YtmfgccjcnnlehaaDoorZF
open Go
set_option linter.unusedVariables false
set_option linter.unusedSimpArgs false
def Big : Nat := 4611686018427387904
section
variable {β : Type}
theorem w64_id {n : Int} (h0 : -9223372036854775808 ≤ n) (h1 : n < 9223372036854775808) : w64 n = n := by
 unfold w64 IntKind.wrap; simp [IntKind.bits, IntKind.signed]; omega
theorem wu8_id {n : Int} (h0 : 0 ≤ n) (h1 : n < 256) : IntKind.u8.wrap n = n := by
 unfold IntKind.wrap; simp [IntKind.bits, IntKind.signed]; omega
theorem wi32_id {n : Int} (h0 : -2147483648 ≤ n) (h1 : n < 2147483648) : IntKind.i32.wrap n = n := by
 unfold IntKind.wrap; simp [IntKind.bits, IntKind.signed]; omega
theorem wu32_id {n : Int} (h0 : 0 ≤ n) (h1 : n < 4294967296) : IntKind.u32.wrap n = n := by
 unfold IntKind.wrap; simp [IntKind.bits, IntKind.signed]; omega
theorem idx_ok {i n : Int} {κ : Option β} (h0 : 0 ≤ i) (h1 : i < n) : idx i n κ = κ := by simp [idx, h0, h1]
theorem bnd_ok {a b n : Int} {κ : Option β} (h0 : 0 ≤ a) (h1 : a ≤ b) (h2 : b ≤ n) : bnd a b n κ = κ := by simp [bnd, h0, h1, h2]
theorem roomy_ok {n : Nat} {κ : Option β} (h : n ≤ 1099511627776) : roomy n κ = κ := by simp [roomy, h]
theorem roomI_ok {n : Int} {κ : Option β} (h : n ≤ 1099511627776) : roomI n κ = κ := by simp [roomI, h]
theorem room46_ok {z : ByteArray} {κ : Option β} (h : z.size ≤ 70368744177664) : room46 z κ = κ := by
 have : Nat.ble z.size 70368744177664 = true := by rw [Nat.ble_eq]; exact h
 simp [room46, this]
theorem nneg_ok {b : Int} {κ : Option β} (h : 0 ≤ b) : nneg b κ = κ := by
 have : ¬ b < 0 := by omega
 simp [nneg, this]
theorem biT {γ : Type} {c : Bool} {x y : γ} (h : c = true) : (bif c then x else y) = x := by rw [h]; rfl
theorem biF {γ : Type} {c : Bool} {x y : γ} (h : c = false) : (bif c then x else y) = y := by rw [h]; rfl
theorem bdT {γ : Type} {p : Prop} [Decidable p] {x y : γ} (h : p) : (bif decide p then x else y) = x := by rw [decide_eq_true h]; rfl
theorem bdF {γ : Type} {p : Prop} [Decidable p] {x y : γ} (h : ¬ p) : (bif decide p then x else y) = y := by rw [decide_eq_false h]; rfl
theorem bind_some' {γ δ : Type} {o : Option γ} {a : γ} {f : γ → Option δ} (h : o = some a) : o.bind f = f a := by rw [h]; rfl
end
theorem rd_lt {α : Type} {xs : List α} {i : Int} {d : α} (h0 : 0 ≤ i) (h1 : i < xs.length) : rd xs i d = xs[i.toNat]'(by omega) := by
 unfold rd; rw [List.getD_eq_getElem?_getD, List.getElem?_eq_getElem (by omega)]; rfl
theorem rd_nat {α : Type} {xs : List α} {n : Nat} {d : α} : rd xs (n : Int) d = xs.getD n d := by simp [rd]
theorem cut_from {α : Type} (xs : List α) (b : Int) : cut xs 0 b = xs.take b.toNat := by simp [cut]
theorem ba_ext {x y : ByteArray} (h : x.data.toList = y.data.toList) : x = y := by
 obtain ⟨⟨x⟩⟩ := x; obtain ⟨⟨y⟩⟩ := y; simp only at h; rw [h]
theorem bytesOf_length (z : ByteArray) : (bytesOf z).length = z.size := by unfold bytesOf; rw [List.length_map]; rfl
theorem bytesOf_inj {x y : ByteArray} (h : bytesOf x = bytesOf y) : x = y := by
 refine ba_ext ?_
 unfold bytesOf at h
 exact (List.map_inj_right (fun a b hab => UInt8.toNat_inj.1 (by exact_mod_cast hab))).1 h
theorem strEq_eq (x y : ByteArray) : strEq x y = decide (x = y) := by
 unfold strEq
 have e : ∀ z : ByteArray, z.toList = z.data.toList := fun z => by
  have key : ∀ (l : List UInt8) (k : Nat) (acc : List UInt8), (k ≤ l.length) → ByteArray.toList.loop ⟨⟨l⟩⟩ k acc = acc.reverse ++ l.drop k := by
   intro l k acc hk
   induction hj : l.length - k generalizing k acc with
   | zero =>
    unfold ByteArray.toList.loop
    have : ¬ k < (ByteArray.mk ⟨l⟩).size := by show ¬ k < l.length; omega
    rw [if_neg this, List.drop_eq_nil_of_le (by omega)]; simp
   | succ j ih =>
    unfold ByteArray.toList.loop
    have h1 : k < l.length := by omega
    have : k < (ByteArray.mk ⟨l⟩).size := h1
    rw [if_pos this, ih (k + 1) _ (by omega) (by omega)]
    have hg : (ByteArray.mk ⟨l⟩).get! k = l[k] := by
     show (Array.mk l)[k]! = l[k]
     rw [getElem!_pos (Array.mk l) k (by simpa using h1)]; simp
    rw [hg, List.drop_eq_getElem_cons h1]; simp
  obtain ⟨⟨l⟩⟩ := z
  unfold ByteArray.toList
  rw [key l 0 [] (Nat.zero_le _)]; simp
 rw [e, e]
 by_cases h : x = y
 ·subst h; simp
 ·simp only [h, decide_false]
  exact beq_false_of_ne (fun h' => h (ba_ext h'))
theorem bytesOf_append (x y : ByteArray) : bytesOf (x ++ y) = bytesOf x ++ bytesOf y := by
 unfold bytesOf; rw [ByteArray.data_append, Array.toList_append, List.map_append]
theorem size_append (x y : ByteArray) : (x ++ y).size = x.size + y.size := by rw [← bytesOf_length, bytesOf_append]; simp [bytesOf_length]
theorem bytesOf_cutS (z : ByteArray) (a b : Int) : bytesOf (cutS z a b) = cut (bytesOf z) a b := by
 unfold bytesOf cutS cut
 rw [ByteArray.data_extract, ← List.map_drop, ← List.map_take]
 congr 1
 simp [Array.toList_extract, List.extract_eq_take_drop]
theorem byteAt_rd {z : ByteArray} {i : Int} (h0 : 0 ≤ i) (h1 : i < z.size) : byteAt z i = rd (bytesOf z) i 0 := by
 have hl := bytesOf_length z
 rw [rd_lt h0 (by omega)]
 unfold byteAt bytesOf
 rw [List.getElem_map]
 congr 2
 show z.data[i.toNat]! = _
 rw [getElem!_pos z.data i.toNat (by show i.toNat < z.size; omega)]
 simp
theorem size_cutS {z : ByteArray} {a b : Int} (h0 : 0 ≤ a) (h1 : a ≤ b) (h2 : b ≤ z.size) : (cutS z a b).size = (b - a).toNat := by
 have hl := bytesOf_length z
 rw [← bytesOf_length, bytesOf_cutS, length_cut _ _ _ h1 (by omega)]; omega
theorem rd_cut {α : Type} {xs : List α} {a b i : Int} {d : α} (h0 : 0 ≤ a) (h1 : 0 ≤ i) (h2 : i < b - a) (h3 : b ≤ xs.length) : rd (cut xs a b) i d = rd xs (a + i) d := by
 unfold rd cut
 rw [List.getD_eq_getElem?_getD, List.getD_eq_getElem?_getD, List.getElem?_take, if_pos (by omega), List.getElem?_drop]
 congr 2; omega
theorem byteAt_cutS {z : ByteArray} {a b i : Int} (h0 : 0 ≤ a) (h1 : 0 ≤ i) (h2 : i < b - a) (h3 : b ≤ z.size) : byteAt (cutS z a b) i = byteAt z (a + i) := by
 have hl := bytesOf_length z
 have hs := size_cutS (z := z) h0 (show a ≤ b by omega) h3
 rw [byteAt_rd h1 (by omega), byteAt_rd (by omega) (by omega), bytesOf_cutS, rd_cut h0 h1 h2 (by omega)]
end Go.Proofs.YtmfgccjcnnlehaaDoorZF
namespace Go.Proofs.YtmfgccjcnnlehaaDoorZF
open Go
set_option linter.unusedVariables false
set_option linter.unusedSimpArgs false
theorem range_fold {α σ β : Type} (xs : List α) (F : Nat → σ → Nat → Option β) (k : σ → Option β) (step : σ → α → σ) (Inv : Nat → σ → Prop)
  (h1 : ∀ m s i (hi : i < xs.length), Inv i s → F (m + 1) s i = F m (step s xs[i]) (i + 1) ∧ Inv (i + 1) (step s xs[i]))
  (h2 : ∀ m s, Inv xs.length s → F (m + 1) s xs.length = k s) : ∀ m s, xs.length < m → Inv 0 s → F m s 0 = k (xs.foldl step s) := by
 have key : ∀ (d i m : Nat) (s : σ), xs.length - i = d → i ≤ xs.length → d < m → Inv i s → F m s i = k ((xs.drop i).foldl step s) := by
  intro d
  induction d with
  | zero =>
   intro i m s hd hi hm hs
   obtain ⟨m', rfl⟩ : ∃ m', m = m' + 1 := ⟨m - 1, by omega⟩
   obtain rfl : i = xs.length := by omega
   rw [h2 m' s hs, List.drop_length]; rfl
  | succ d ih =>
   intro i m s hd hi hm hs
   obtain ⟨m', rfl⟩ : ∃ m', m = m' + 1 := ⟨m - 1, by omega⟩
   have hl : i < xs.length := by omega
   obtain ⟨e, hs'⟩ := h1 m' s i hl hs
   rw [e, ih (i + 1) m' _ (by omega) (by omega) (by omega) hs', List.drop_eq_getElem_cons hl]; rfl
 intro m s hm hs
 have := key xs.length 0 m s (by omega) (Nat.zero_le _) hm hs
 simpa using this
theorem rd_at {α : Type} {xs : List α} {i : Nat} {d : α} (h : i < xs.length) : rd xs (i : Int) d = xs[i] := by
 rw [rd_nat, List.getD_eq_getElem?_getD, List.getElem?_eq_getElem h]; rfl
theorem rd_zero {α : Type} {x d : α} {i : Int} (h : i = 0) : rd [x] i d = x := by subst h; rfl
end Go.Proofs.YtmfgccjcnnlehaaDoorZF
namespace Go.Proofs.YtmfgccjcnnlehaaDoorZF
open Go Go.RowKit
set_option linter.unusedVariables false
set_option linter.unusedSimpArgs false
theorem get_mid (s e u : ByteArray) (k : Nat) (h : k < e.size) : (s ++ e ++ u).get! (s.size + k) = e.get! k := by
 have l1 : s.data.size + k < s.data.size + e.data.size + u.data.size := by have : e.size = e.data.size := rfl; omega
 have l2 : k < e.data.size := h
 show (s ++ e ++ u).data[s.data.size + k]! = e.data[k]!
 simp only [ByteArray.data_append]
 rw [getElem!_pos (s.data ++ e.data ++ u.data) _ (by simp; omega), getElem!_pos e.data k l2, Array.getElem_append_left (by simp; omega), Array.getElem_append_right (by omega)]
 congr 1; omega
theorem b8 (n : Nat) (h : n < 256) : (UInt8.ofNat n).toNat = n := by rw [UInt8.toNat_ofNat']; omega
theorem dec_one (s : ByteArray) (i a : Nat) (h0 : (s.get! i).toNat = a) (ha : a < 128) : Utf8.decode s i = (a, 1) := by
 simp [Utf8.decode, h0, ha]
theorem dec_two (s : ByteArray) (i a b : Nat) (h0 : (s.get! i).toNat = 192 + a) (h1 : (s.get! (i + 1)).toNat = 128 + b) (hs : i + 1 < s.size) (ha : a < 32) (hb : b < 64) (hc : 128 ≤ a * 64 + b) : Utf8.decode s i = (a * 64 + b, 2) := by
 have e1 : (192 + a) / 32 = 6 := by omega
 have e2 : (192 + a) % 32 = a := by omega
 have e3 : (128 + b) / 64 = 2 := by omega
 have e4 : (128 + b) % 64 = b := by omega
 have n1 : ¬ (192 + a < 128) := by omega
 simp [Utf8.decode, h0, h1, e1, e2, e3, e4, hs, n1, hc]
theorem dec_three (s : ByteArray) (i a b c : Nat) (h0 : (s.get! i).toNat = 224 + a) (h1 : (s.get! (i + 1)).toNat = 128 + b) (h2 : (s.get! (i + 2)).toNat = 128 + c) (hs : i + 2 < s.size) (ha : a < 16) (hb : b < 64) (hc : c < 64) (hv : 2048 ≤ a * 4096 + b * 64 + c) (hw : Utf8.valid ((a * 4096 + b * 64 + c : Nat) : Int) = true) : Utf8.decode s i = (a * 4096 + b * 64 + c, 3) := by
 have e0 : (224 + a) / 32 = 7 := by omega
 have e1 : (224 + a) / 16 = 14 := by omega
 have e2 : (224 + a) % 16 = a := by omega
 have e3 : (128 + b) / 64 = 2 := by omega
 have e4 : (128 + b) % 64 = b := by omega
 have e5 : (128 + c) / 64 = 2 := by omega
 have e6 : (128 + c) % 64 = c := by omega
 have n1 : ¬ (224 + a < 128) := by omega
 have s1 : i + 1 < s.size := by omega
 simp [Utf8.decode, h0, h1, h2, e0, e1, e2, e3, e4, e5, e6, hs, s1, n1, hv]
 simpa using hw
theorem dec_four (s : ByteArray) (i a b c d : Nat) (h0 : (s.get! i).toNat = 240 + a) (h1 : (s.get! (i + 1)).toNat = 128 + b) (h2 : (s.get! (i + 2)).toNat = 128 + c) (h3 : (s.get! (i + 3)).toNat = 128 + d) (hs : i + 3 < s.size) (ha : a < 8) (hb : b < 64) (hc : c < 64) (hd : d < 64) (hv : 65536 ≤ a * 262144 + b * 4096 + c * 64 + d) (hw : Utf8.valid ((a * 262144 + b * 4096 + c * 64 + d : Nat) : Int) = true) : Utf8.decode s i = (a * 262144 + b * 4096 + c * 64 + d, 4) := by
 have e0 : (240 + a) / 32 = 7 := by omega
 have e1 : (240 + a) / 16 = 15 := by omega
 have e1' : (240 + a) / 8 = 30 := by omega
 have e2 : (240 + a) % 8 = a := by omega
 have e3 : (128 + b) / 64 = 2 := by omega
 have e4 : (128 + b) % 64 = b := by omega
 have e5 : (128 + c) / 64 = 2 := by omega
 have e6 : (128 + c) % 64 = c := by omega
 have e7 : (128 + d) / 64 = 2 := by omega
 have e8 : (128 + d) % 64 = d := by omega
 have n1 : ¬ (240 + a < 128) := by omega
 have s1 : i + 1 < s.size := by omega
 have s2 : i + 2 < s.size := by omega
 simp [Utf8.decode, h0, h1, h2, h3, e0, e1, e1', e2, e3, e4, e5, e6, e7, e8, hs, s1, s2, n1, hv]
 simpa using hw
theorem decode_encode (s u : ByteArray) (r : Int) (hv : Utf8.valid r = true) : Utf8.decode (s ++ Utf8.encode r ++ u) s.size = (r.toNat, (Utf8.encode r).size) := by
 have hr : 0 ≤ r ∧ r ≤ 1114111 := by simp [Utf8.valid] at hv; omega
 have sz : ∀ e : ByteArray, (s ++ e ++ u).size = s.size + e.size + u.size := by intro e; simp [ByteArray.size_append]
 have g : ∀ (e : ByteArray) (k : Nat), k < e.size → ∀ i, i = s.size + k → (s ++ e ++ u).get! i = e.get! k := by intro e k h i hi; rw [hi]; exact get_mid s e u k h
 by_cases h1 : r.toNat < 128
 ·have e : Utf8.encode r = ⟨#[UInt8.ofNat r.toNat]⟩ := by simp [Utf8.encode, hv, h1]
  rw [e]
  refine dec_one _ _ _ ?_ h1
  refine (congrArg UInt8.toNat (g ⟨#[_]⟩ 0 (show 0 < 1 by decide) _ rfl)).trans ?_
  exact b8 _ (by omega)
 by_cases h2 : r.toNat < 2048
 ·have e : Utf8.encode r = ⟨#[UInt8.ofNat (192 + r.toNat / 64), UInt8.ofNat (128 + r.toNat % 64)]⟩ := by simp [Utf8.encode, hv, h1, h2]
  rw [e]
  refine (dec_two _ _ (r.toNat / 64) (r.toNat % 64) ?_ ?_ ?_ (by omega) (by omega) (by omega)).trans ?_
  ·exact (congrArg UInt8.toNat (g ⟨#[_, _]⟩ 0 (show 0 < 2 by decide) _ rfl)).trans (b8 _ (by omega))
  ·exact (congrArg UInt8.toNat (g ⟨#[_, _]⟩ 1 (show 1 < 2 by decide) _ rfl)).trans (b8 _ (by omega))
  ·rw [sz]; show s.size + 1 < s.size + 2 + u.size; omega
  ·congr 1; omega
 by_cases h3 : r.toNat < 65536
 ·have e : Utf8.encode r = ⟨#[UInt8.ofNat (224 + r.toNat / 4096), UInt8.ofNat (128 + r.toNat / 64 % 64), UInt8.ofNat (128 + r.toNat % 64)]⟩ := by simp [Utf8.encode, hv, h1, h2, h3]
  have q : r.toNat / 4096 * 4096 + r.toNat / 64 % 64 * 64 + r.toNat % 64 = r.toNat := by omega
  rw [e]
  refine (dec_three _ _ (r.toNat / 4096) (r.toNat / 64 % 64) (r.toNat % 64) ?_ ?_ ?_ ?_ (by omega) (by omega) (by omega) (by omega) ?_).trans ?_
  ·exact (congrArg UInt8.toNat (g ⟨#[_, _, _]⟩ 0 (show 0 < 3 by decide) _ rfl)).trans (b8 _ (by omega))
  ·exact (congrArg UInt8.toNat (g ⟨#[_, _, _]⟩ 1 (show 1 < 3 by decide) _ rfl)).trans (b8 _ (by omega))
  ·exact (congrArg UInt8.toNat (g ⟨#[_, _, _]⟩ 2 (show 2 < 3 by decide) _ rfl)).trans (b8 _ (by omega))
  ·rw [sz]; show s.size + 2 < s.size + 3 + u.size; omega
  ·rw [q, Int.toNat_of_nonneg hr.1]; exact hv
  ·rw [q]; rfl
 ·have e : Utf8.encode r = ⟨#[UInt8.ofNat (240 + r.toNat / 262144), UInt8.ofNat (128 + r.toNat / 4096 % 64), UInt8.ofNat (128 + r.toNat / 64 % 64), UInt8.ofNat (128 + r.toNat % 64)]⟩ := by simp [Utf8.encode, hv, h1, h2, h3]
  have q : r.toNat / 262144 * 262144 + r.toNat / 4096 % 64 * 4096 + r.toNat / 64 % 64 * 64 + r.toNat % 64 = r.toNat := by omega
  rw [e]
  refine (dec_four _ _ (r.toNat / 262144) (r.toNat / 4096 % 64) (r.toNat / 64 % 64) (r.toNat % 64) ?_ ?_ ?_ ?_ ?_ (by omega) (by omega) (by omega) (by omega) (by omega) ?_).trans ?_
  ·exact (congrArg UInt8.toNat (g ⟨#[_, _, _, _]⟩ 0 (show 0 < 4 by decide) _ rfl)).trans (b8 _ (by omega))
  ·exact (congrArg UInt8.toNat (g ⟨#[_, _, _, _]⟩ 1 (show 1 < 4 by decide) _ rfl)).trans (b8 _ (by omega))
  ·exact (congrArg UInt8.toNat (g ⟨#[_, _, _, _]⟩ 2 (show 2 < 4 by decide) _ rfl)).trans (b8 _ (by omega))
  ·exact (congrArg UInt8.toNat (g ⟨#[_, _, _, _]⟩ 3 (show 3 < 4 by decide) _ rfl)).trans (b8 _ (by omega))
  ·rw [sz]; show s.size + 3 < s.size + 4 + u.size; omega
  ·rw [q, Int.toNat_of_nonneg hr.1]; exact hv
  ·rw [q]; rfl
theorem encode_pos (r : Int) : 1 ≤ (Utf8.encode r).size := by
 unfold Utf8.encode
 simp only
 repeat' split
 all_goals simp [ByteArray.size]
theorem foldl_enc (ns : List Int) : ∀ s : ByteArray, ns.foldl (fun r n => r ++ Utf8.encode n) s = s ++ runesBytes ns := by
 induction ns with
 | nil => intro s; simp [runesBytes]
 | cons n ns ih =>
  intro s
  unfold runesBytes
  simp only [List.foldl_cons]
  rw [ih, ih (ByteArray.empty ++ _)]
  simp [ByteArray.append_assoc]
theorem runesBytes_cons (n : Int) (ns : List Int) : runesBytes (n :: ns) = Utf8.encode n ++ runesBytes ns := by
 conv => lhs; unfold runesBytes
 rw [List.foldl_cons, foldl_enc]; simp
def Valids (xs : List Int) : Prop := ∀ x ∈ xs, Utf8.valid x = true
theorem runesAt_back : ∀ (xs : List Int) (s : ByteArray) (b : Nat), Valids xs → (runesBytes xs).size ≤ b → runesAt (s ++ runesBytes xs) b s.size = xs
 | [], s, b, _, _ => by
  cases b with
  | zero => rfl
  | succ b => unfold runesAt; rw [if_neg]; simp [runesBytes]
 | x :: xs, s, b, hv, hb => by
  have hp := encode_pos x
  rw [runesBytes_cons] at hb ⊢
  rw [ByteArray.size_append] at hb
  obtain ⟨b, rfl⟩ : ∃ b', b = b' + 1 := ⟨b - 1, by omega⟩
  have hx : Utf8.valid x = true := hv x (by simp)
  have hr : 0 ≤ x := by simp [Utf8.valid] at hx; omega
  unfold runesAt
  rw [if_pos (by simp [ByteArray.size_append]; omega), ← ByteArray.append_assoc, decode_encode s (runesBytes xs) x hx]
  have e : s.size + (Utf8.encode x).size = (s ++ Utf8.encode x).size := by rw [ByteArray.size_append]
  show ((x.toNat : Nat) : Int) :: runesAt _ b (s.size + (Utf8.encode x).size) = _
  rw [e, runesAt_back xs (s ++ Utf8.encode x) b (fun y hy => hv y (by simp [hy])) (by omega)]
  rw [Int.toNat_of_nonneg hr]
theorem runes_back (xs : List Int) (h : Valids xs) : runesOf (runesBytes xs) = xs := by
 have := runesAt_back xs ByteArray.empty (runesBytes xs).size h (Nat.le_refl _)
 simpa [runesOf] using this
theorem decode_valid (s : ByteArray) (i : Nat) : Utf8.valid ((Utf8.decode s i).1 : Int) = true := by
 unfold Utf8.decode
 simp only [Nat.add_zero]
 split
 ·rename_i h; simp [Utf8.valid]; omega
 split
 ·split
  ·rename_i h1 h2; simp only [Utf8.valid]; simp; omega
  ·decide
 split
 ·split
  ·rename_i h1 h2; simp at h2; exact h2.2
  ·decide
 split
 ·split
  ·rename_i h1 h2; simp at h2; exact h2.2
  ·decide
 ·decide
theorem runesAt_valid (s : ByteArray) : ∀ b i, Valids (runesAt s b i)
 | 0, _ => by intro x hx; simp [runesAt] at hx
 | b + 1, i => by
  intro x hx
  unfold runesAt at hx
  split at hx
  ·rcases List.mem_cons.1 hx with rfl | hx
   ·exact decode_valid s i
   ·exact runesAt_valid s b _ x hx
  ·simp at hx
theorem runesOf_valid (s : ByteArray) : Valids (runesOf s) := runesAt_valid s _ _
theorem Valids.take {x : List Int} (h : Valids x) (n : Nat) : Valids (x.take n) := fun y hy => h y (List.mem_of_mem_take hy)
theorem Valids.drop {x : List Int} (h : Valids x) (n : Nat) : Valids (x.drop n) := fun y hy => h y (List.mem_of_mem_drop hy)
end Go.Proofs.YtmfgccjcnnlehaaDoorZF
namespace Go.Proofs.YtmfgccjcnnlehaaDoorZF
open Go
set_option linter.unusedVariables false
set_option linter.unusedSimpArgs false
def bl (z : ByteArray) : List UInt8 := z.data.toList
theorem bl_length (z : ByteArray) : (bl z).length = z.size := rfl
theorem bl_inj {x y : ByteArray} (h : bl x = bl y) : x = y := ba_ext h
def inner (b : UInt8) : Prop := 128 ≤ b.toNat ∧ b.toNat < 192
abbrev enc (x : List Int) : ByteArray := runesBytes x
theorem enc_size_le (x : List Int) : (enc x).size ≤ 4 * x.length := runesBytes_size_le x
theorem runes_enc {x : List Int} (hx : Valids x) : runesOf (enc x) = x := runes_back x hx
theorem Valids.nil : Valids [] := fun x hx => by cases hx
theorem Valids.cons {r : Int} {x : List Int} (h : Valids (r :: x)) : Utf8.valid r = true ∧ Valids x := ⟨h r (by simp), fun y hy => h y (by simp [hy])⟩
end Go.Proofs.YtmfgccjcnnlehaaDoorZF
namespace Go.Proofs.YtmfgccjcnnlehaaDoorZF
open Go
set_option linter.unusedVariables false
set_option linter.unusedSimpArgs false
@[reducible] def Prt := Int × ByteArray
@[reducible] def Rp := Int × List Int
def emb (d : Rp) : Prt := (d.1, enc d.2)
def OkR (d : Rp) : Prop := (d.1 = -1 ∨ d.1 = 0 ∨ d.1 = 1) ∧ Valids d.2
theorem clean_ok (n : Nat) (a : ByteArray) (m : Nat) (h : a.size ≤ 70368744177664) : g14 n a (m : Int) = some (enc ((runesOf a).take m), ()) := by
 have hl := runesOf_length a
 dsimp only [g14, g14_1, g43, g43_1]
 rw [room46_ok h, Option.bind_some]
 have e : minI ((runesOf a).length : Int) (m : Int) = ((min (runesOf a).length m : Nat) : Int) := by unfold minI; split <;> omega
 dsimp only
 rw [e, bnd_ok (by omega) (by omega) (by omega), cut_from]
 congr 3
 rw [show (0 + (((min (runesOf a).length m : Nat) : Int) - 0)).toNat = min (runesOf a).length m by omega, Nat.min_comm, List.take_eq_take_iff]
 omega
theorem list_ok (n : Nat) (hn : Big ≤ n) (xs : List Rp) (hl : xs.length ≤ 1000000) (ho : ∀ y ∈ xs, OkR y) : g71 n (xs.map emb) = some (xs.map emb, ()) := by
 have hB : (4611686018427387904 : Nat) ≤ n := hn
 dsimp only [g71, g71_6, g71_1, g71_4, g71_3, g71_5]
 have e := range_fold (xs.map emb) (fun m s i => g71_3L n (fun x4 => some (x4, ())) m s (xs.map emb) ((xs.map emb).length : Int) (i : Int)) (fun s => some (s, ())) (fun s x => s ++ [x]) (fun i s => s.length = i)
  (fun m s i hi hs => by
   have hi' : i < xs.length := by simpa using hi
   refine ⟨?_, by simp [hs]⟩
   have hlm : (xs.map emb).length = xs.length := List.length_map _
   have hop := (ho xs[i] (by simp)).1
   have hg : (xs.map emb)[i] = emb xs[i] := List.getElem_map _
   rw [g71_3L.eq_2, g71_2, bdT (by omega), idx_ok (by omega) (by omega)]
   simp only [rd_at hi, rd_zero rfl]
   have hw : w64 (emb xs[i]).1 = (emb xs[i]).1 := w64_id (by show _ ≤ xs[i].1; omega) (by show xs[i].1 < _; omega)
   rw [hg, hw, roomy_ok (by simp only [List.length_cons, List.length_nil]; omega), w64_id (by omega) (by omega)]
   rfl)
  (fun m s hs => by rw [g71_3L.eq_2, g71_2, bdF (by omega)]) n [] (by simp; omega) rfl
 refine Eq.trans e ?_
 have hf : ∀ (l : List Prt) (s : List Prt), l.foldl (fun s x => s ++ [x]) s = s ++ l := by
  intro l
  induction l with
  | nil => intro s; simp
  | cons x l ih => intro s; rw [List.foldl_cons, ih]; simp
 rw [hf]; rfl
end Go.Proofs.YtmfgccjcnnlehaaDoorZF
namespace Go.Proofs.YtmfgccjcnnlehaaDoorZF
open Go
set_option linter.unusedVariables false
set_option linter.unusedSimpArgs false
theorem operation_ok (n : Nat) (v : Int) (h : v = -1 ∨ v = 0 ∨ v = 1) : g92 n v = some (v, ()) := by
 rcases h with rfl | rfl | rfl <;> rfl
theorem made_ok (n : Nat) (hn : Big ≤ n) (xs : List Rp) (hl : xs.length ≤ 1000000) (ho : ∀ y ∈ xs, OkR y) : g57 n (xs.map emb) = some (xs.map emb, ()) := by
 have hB : (4611686018427387904 : Nat) ≤ n := hn
 dsimp only [g57, g57_6, g57_1, g57_4, g57_3, g57_5]
 have e := range_fold (xs.map emb) (fun m s i => g57_3L n (fun x4 => some (x4, ())) m s (xs.map emb) ((xs.map emb).length : Int) (i : Int)) (fun s => some (s, ())) (fun s x => s ++ [x]) (fun i s => s.length = i)
  (fun m s i hi hs => by
   have hi' : i < xs.length := by simpa using hi
   refine ⟨?_, by simp [hs]⟩
   have hlm : (xs.map emb).length = xs.length := List.length_map _
   have hop := (ho xs[i] (by simp)).1
   have hg : (xs.map emb)[i] = emb xs[i] := List.getElem_map _
   rw [g57_3L.eq_2, g57_2, bdT (by omega), idx_ok (by omega) (by omega)]
   simp only [rd_at hi, rd_zero rfl]
   rw [hg, operation_ok n (emb xs[i]).1 hop, Option.bind_some, roomy_ok (by simp only [List.length_cons, List.length_nil]; omega), w64_id (by omega) (by omega)]
   rfl)
  (fun m s hs => by rw [g57_3L.eq_2, g57_2, bdF (by omega)]) n [] (by simp; omega) rfl
 refine Eq.trans e ?_
 have hf : ∀ (l : List Prt) (s : List Prt), l.foldl (fun s x => s ++ [x]) s = s ++ l := by
  intro l
  induction l with
  | nil => intro s; simp
  | cons x l ih => intro s; rw [List.foldl_cons, ih]; simp
 rw [hf]; rfl
end Go.Proofs.YtmfgccjcnnlehaaDoorZF
namespace Go.Proofs.YtmfgccjcnnlehaaDoorZF
open Go
set_option linter.unusedVariables false
set_option linter.unusedSimpArgs false
theorem and32 (a m : Nat) (ha : a < 4294967296) (hm : m < 4294967296) : andI .u32 (a : Int) (m : Int) = ((a &&& m : Nat) : Int) := by
 have e : (BitVec.ofInt 32 (a : Int) &&& BitVec.ofInt 32 (m : Int)).toNat = a &&& m := by
  rw [BitVec.ofInt_natCast, BitVec.ofInt_natCast, BitVec.toNat_and, BitVec.toNat_ofNat, BitVec.toNat_ofNat, Nat.mod_eq_of_lt ha, Nat.mod_eq_of_lt hm]
 have hl : a &&& m ≤ a := Nat.and_le_left
 show IntKind.u32.wrap ((BitVec.ofInt 32 (a : Int) &&& BitVec.ofInt 32 (m : Int)).toNat : Int) = _
 rw [e, wu32_id (by omega) (by omega)]
theorem and8 (a m : Nat) (ha : a < 256) (hm : m < 256) : andI .u8 (a : Int) (m : Int) = ((a &&& m : Nat) : Int) := by
 have e : (BitVec.ofInt 8 (a : Int) &&& BitVec.ofInt 8 (m : Int)).toNat = a &&& m := by
  rw [BitVec.ofInt_natCast, BitVec.ofInt_natCast, BitVec.toNat_and, BitVec.toNat_ofNat, BitVec.toNat_ofNat, Nat.mod_eq_of_lt ha, Nat.mod_eq_of_lt hm]
 have hl : a &&& m ≤ a := Nat.and_le_left
 show IntKind.u8.wrap ((BitVec.ofInt 8 (a : Int) &&& BitVec.ofInt 8 (m : Int)).toNat : Int) = _
 rw [e, wu8_id (by omega) (by omega)]
theorem or8 (a m : Nat) (ha : a < 256) (hm : m < 256) : orI .u8 (a : Int) (m : Int) = ((a ||| m : Nat) : Int) := by
 have e : (BitVec.ofInt 8 (a : Int) ||| BitVec.ofInt 8 (m : Int)).toNat = a ||| m := by
  rw [BitVec.ofInt_natCast, BitVec.ofInt_natCast, BitVec.toNat_or, BitVec.toNat_ofNat, BitVec.toNat_ofNat, Nat.mod_eq_of_lt ha, Nat.mod_eq_of_lt hm]
 have hl : a ||| m < 2 ^ 8 := Nat.or_lt_two_pow ha hm
 show IntKind.u8.wrap ((BitVec.ofInt 8 (a : Int) ||| BitVec.ofInt 8 (m : Int)).toNat : Int) = _
 rw [e, wu8_id (by omega) (by omega)]
theorem or32 (a m : Nat) (ha : a < 4294967296) (hm : m < 4294967296) : orI .u32 (a : Int) (m : Int) = ((a ||| m : Nat) : Int) := by
 have e : (BitVec.ofInt 32 (a : Int) ||| BitVec.ofInt 32 (m : Int)).toNat = a ||| m := by
  rw [BitVec.ofInt_natCast, BitVec.ofInt_natCast, BitVec.toNat_or, BitVec.toNat_ofNat, BitVec.toNat_ofNat, Nat.mod_eq_of_lt ha, Nat.mod_eq_of_lt hm]
 have hl : a ||| m < 2 ^ 32 := Nat.or_lt_two_pow ha hm
 show IntKind.u32.wrap ((BitVec.ofInt 32 (a : Int) ||| BitVec.ofInt 32 (m : Int)).toNat : Int) = _
 rw [e, wu32_id (by omega) (by omega)]
theorem or_add (k a b : Nat) (hb : b < 2 ^ k) : 2 ^ k * a ||| b = 2 ^ k * a + b := (Nat.two_pow_add_eq_or_of_lt hb a).symm
theorem mask8 (k a : Nat) (ha : a < 256) (hk : k ≤ 8) (hp : 2 ^ k ≤ 256) : andI .u8 (a : Int) ((2 ^ k - 1 : Nat) : Int) = ((a % 2 ^ k : Nat) : Int) := by
 have := Nat.two_pow_pos k
 rw [and8 a _ ha (by omega), Nat.and_two_pow_sub_one_eq_mod]
theorem lead8 (k a b : Nat) (h : 2 ^ k * a < 256) (h8 : 2 ^ k ≤ 256) (hb : b < 2 ^ k) : orI .u8 ((2 ^ k * a : Nat) : Int) (b : Int) = ((2 ^ k * a + b : Nat) : Int) := by
 rw [or8 _ _ h (by omega), or_add k a b hb]
theorem join32 (k a b : Nat) (h : 2 ^ k * a < 4294967296) (h8 : 2 ^ k ≤ 4294967296) (hb : b < 2 ^ k) : orI .u32 ((2 ^ k * a : Nat) : Int) (b : Int) = ((2 ^ k * a + b : Nat) : Int) := by
 rw [or32 _ _ h (by omega), or_add k a b hb]
theorem shr_nat (K : IntKind) (a j : Nat) (h : j ≤ K.bits) : shrI K (a : Int) (j : Int) = ((a / 2 ^ j : Nat) : Int) := by
 unfold shrI
 have e : min (j : Int).toNat K.bits = j := by rw [Int.toNat_natCast]; omega
 rw [e, Int.fdiv_eq_ediv_of_nonneg _ (Int.le_of_lt (Int.pow_pos (by decide)))]
 push_cast
 rfl
theorem shl32 (a j : Nat) (h : j ≤ 32) (hl : a * 2 ^ j < 4294967296) : shlI .u32 (a : Int) (j : Int) = ((2 ^ j * a : Nat) : Int) := by
 unfold shlI
 have e : min (j : Int).toNat (IntKind.bits .u32) = j := by rw [Int.toNat_natCast]; show min j 32 = j; omega
 have e2 : (a : Int) * 2 ^ j = ((a * 2 ^ j : Nat) : Int) := by push_cast; rfl
 rw [e, e2, wu32_id (by omega) (by omega), Nat.mul_comm]
theorem wrap8_nat (a : Nat) : IntKind.u8.wrap (a : Int) = ((a % 256 : Nat) : Int) := by
 show ((a : Int) % (2 ^ 8 : Int)) = _
 omega
theorem getBits_ok (n v c f : Nat) (hv : v < 4294967296) (hc : c ≤ 6) (hf : f ≤ 18) : g166 n (v : Int) (c : Int) (f : Int) = some (((v / 2 ^ f % 2 ^ c : Nat) : Int), ()) := by
 have h6 : 2 ^ c ≤ 64 := Nat.le_trans (Nat.pow_le_pow_right (by decide) hc) (by decide)
 have h0 := Nat.two_pow_pos c
 have hd : v / 2 ^ f ≤ v := Nat.div_le_self _ _
 have hm : v / 2 ^ f % 2 ^ c < 2 ^ c := Nat.mod_lt _ h0
 dsimp only [g166, g166_1]
 rw [nneg_ok (by omega), nneg_ok (by omega), shr_nat .u32 v f (by show f ≤ 32; omega), show (1 : Int) = ((1 : Nat) : Int) from rfl, shl32 1 c (by omega) (by omega), Nat.mul_one]
 have e : ((2 ^ c : Nat) : Int) - ((1 : Nat) : Int) = ((2 ^ c - 1 : Nat) : Int) := by omega
 rw [e, wu32_id (by omega) (by omega), and32 _ _ (by omega) (by omega), Nat.and_two_pow_sub_one_eq_mod, wrap8_nat, Nat.mod_eq_of_lt (a := v / 2 ^ f % 2 ^ c) (by omega)]
theorem get_nums (xs : List Int) (i : Nat) (h : i < xs.length) (hx : 0 ≤ xs[i] ∧ xs[i] < 256) : ((strOfNums xs).get! i).toNat = xs[i].toNat := by
 have e : (strOfNums xs).get! i = UInt8.ofNat xs[i].toNat := by
  show ((xs.map fun x => UInt8.ofNat x.toNat).toArray)[i]! = _
  simp [h]
 rw [e, b8 _ (by omega)]
theorem go_dec (xs : List Int) (h : xs ≠ []) : Lib.decodeGo (strOfNums xs) = Utf8.decode (strOfNums xs) 0 := by
 unfold Lib.decodeGo
 rw [if_neg]
 rw [strOfNums_size]
 intro h0
 exact h (List.length_eq_zero_iff.1 h0)
theorem dr2 (n a b : Nat) (ha : a < 32) (hb : b < 64) (hc : 128 ≤ a * 64 + b) : g165 n [((192 + a : Nat) : Int), ((128 + b : Nat) : Int)] = some (((a * 64 + b : Nat) : Int), (2, ())) := by
 unfold g165
 rw [if_pos ⟨by simp, by simp; omega⟩, go_dec _ (by simp), dec_two _ 0 a b (by rw [get_nums _ 0 (by simp) (by simp; omega)]; simp; omega) (by rw [get_nums _ 1 (by simp) (by simp; omega)]; simp; omega) (by rw [strOfNums_size]; simp) ha hb hc]
 rfl
theorem dr3 (n a b c : Nat) (ha : a < 16) (hb : b < 64) (hc : c < 64) (hv : 2048 ≤ a * 4096 + b * 64 + c) (hw : Utf8.valid ((a * 4096 + b * 64 + c : Nat) : Int) = true) : g165 n [((224 + a : Nat) : Int), ((128 + b : Nat) : Int), ((128 + c : Nat) : Int)] = some (((a * 4096 + b * 64 + c : Nat) : Int), (3, ())) := by
 unfold g165
 rw [if_pos ⟨by simp, by simp; omega⟩, go_dec _ (by simp), dec_three _ 0 a b c (by rw [get_nums _ 0 (by simp) (by simp; omega)]; simp; omega) (by rw [get_nums _ 1 (by simp) (by simp; omega)]; simp; omega) (by rw [get_nums _ 2 (by simp) (by simp; omega)]; simp; omega) (by rw [strOfNums_size]; simp) ha hb hc hv hw]
 rfl
theorem dr4 (n a b c d : Nat) (ha : a < 8) (hb : b < 64) (hc : c < 64) (hd : d < 64) (hv : 65536 ≤ a * 262144 + b * 4096 + c * 64 + d) (hw : Utf8.valid ((a * 262144 + b * 4096 + c * 64 + d : Nat) : Int) = true) : g165 n [((240 + a : Nat) : Int), ((128 + b : Nat) : Int), ((128 + c : Nat) : Int), ((128 + d : Nat) : Int)] = some (((a * 262144 + b * 4096 + c * 64 + d : Nat) : Int), (4, ())) := by
 unfold g165
 rw [if_pos ⟨by simp, by simp; omega⟩, go_dec _ (by simp), dec_four _ 0 a b c d (by rw [get_nums _ 0 (by simp) (by simp; omega)]; simp; omega) (by rw [get_nums _ 1 (by simp) (by simp; omega)]; simp; omega) (by rw [get_nums _ 2 (by simp) (by simp; omega)]; simp; omega) (by rw [get_nums _ 3 (by simp) (by simp; omega)]; simp; omega) (by rw [strOfNums_size]; simp) ha hb hc hd hv hw]
 rfl
def ofN (v : Nat) : Nat := if v < 55296 then v else if v < 63485 then v + 2048 else v + 2051
theorem ofN_valid {v : Nat} (h : v < 1110016) : ofN v < 1112067 ∧ (ofN v < 55296 ∨ 57343 < ofN v) ∧ ofN v ≠ 65533 := by
 unfold ofN; split
 ·omega
 ·split <;> omega
theorem valid_nat {r : Nat} (h : r < 55296 ∨ 57343 < r ∧ r < 1114112) : Utf8.valid (r : Int) = true := by
 unfold Utf8.valid; simp; omega
theorem l2 (x : Nat) (h : x < 32) : orI .u8 (192 : Int) (x : Int) = ((192 + x : Nat) : Int) := lead8 5 6 x (by decide) (by decide) h
theorem l3 (x : Nat) (h : x < 16) : orI .u8 (224 : Int) (x : Int) = ((224 + x : Nat) : Int) := lead8 4 14 x (by decide) (by decide) h
theorem l4 (x : Nat) (h : x < 8) : orI .u8 (240 : Int) (x : Int) = ((240 + x : Nat) : Int) := lead8 3 30 x (by decide) (by decide) h
theorem l1 (x : Nat) (h : x < 64) : orI .u8 (128 : Int) (x : Int) = ((128 + x : Nat) : Int) := lead8 6 2 x (by decide) (by decide) h
theorem three_ok (n w : Nat) (h0 : 2048 ≤ w) (h1 : w < 65536) (h2 : w < 55296 ∨ 57343 < w) : g165 n [orI .u8 (224 : Int) ((w / 2 ^ 12 % 2 ^ 4 : Nat) : Int), orI .u8 (128 : Int) ((w / 2 ^ 6 % 2 ^ 6 : Nat) : Int), orI .u8 (128 : Int) ((w / 2 ^ 0 % 2 ^ 6 : Nat) : Int)] = some ((w : Int), (3, ())) := by
 rw [l3 _ (by omega), l1 _ (by omega), l1 _ (by omega)]
 have e : w / 2 ^ 12 % 2 ^ 4 * 4096 + w / 2 ^ 6 % 2 ^ 6 * 64 + w / 2 ^ 0 % 2 ^ 6 = w := by omega
 rw [dr3 n _ _ _ (by omega) (by omega) (by omega) (by omega) (by rw [e]; exact valid_nat (by omega)), e]
theorem intToRune_ok (n v : Nat) (hv : v < 1110016) : g131 n (v : Int) = some ((ofN v : Int), ()) := by
 dsimp only [g131, g131_1]
 by_cases c1 : v < 128
 ·rw [bdT (by omega), wi32_id (by omega) (by omega), show ofN v = v by unfold ofN; rw [if_pos (by omega)]]
 rw [bdF (by omega)]
 by_cases c2 : v < 2048
 ·rw [bdT (by omega), show (5 : Int) = ((5 : Nat) : Int) from rfl, show (6 : Int) = ((6 : Nat) : Int) from rfl, show (0 : Int) = ((0 : Nat) : Int) from rfl, getBits_ok n v 5 6 (by omega) (by omega) (by omega), getBits_ok n v 6 0 (by omega) (by omega) (by omega)]
  simp only [Option.bind_some]
  rw [l2 _ (by omega), l1 _ (by omega)]
  have e : v / 2 ^ 6 % 2 ^ 5 * 64 + v / 2 ^ 0 % 2 ^ 6 = v := by omega
  rw [dr2 n _ _ (by omega) (by omega) (by omega), e, Option.bind_some]
  have ne : ((v : Int) == (65533 : Int)) = false := by simp; omega
  simp only [show ((2 : Int) != (2 : Int)) = false from rfl, cond_false, ne]
  rw [show ofN v = v by unfold ofN; rw [if_pos (by omega)]]
 rw [bdF (by omega)]
 by_cases c3 : v < 63485
 ·rw [bdT (by omega)]
  by_cases c4 : v < 55296
  ·rw [bdF (by omega), show (4 : Int) = ((4 : Nat) : Int) from rfl, show (12 : Int) = ((12 : Nat) : Int) from rfl, show (6 : Int) = ((6 : Nat) : Int) from rfl, show (0 : Int) = ((0 : Nat) : Int) from rfl, getBits_ok n v 4 12 (by omega) (by omega) (by omega), getBits_ok n v 6 6 (by omega) (by omega) (by omega), getBits_ok n v 6 0 (by omega) (by omega) (by omega)]
   simp only [Option.bind_some]
   rw [three_ok n v (by omega) (by omega) (by omega), Option.bind_some]
   have ne : ((v : Int) == (65533 : Int)) = false := by simp; omega
   simp only [show ((3 : Int) != (3 : Int)) = false from rfl, cond_false, ne]
   rw [show ofN v = v by unfold ofN; rw [if_pos (by omega)]]
  ·have hw : IntKind.u32.wrap ((v : Int) + 2048) = ((v + 2048 : Nat) : Int) := by rw [wu32_id (by omega) (by omega)]; omega
   rw [bdT (by omega), hw, show (4 : Int) = ((4 : Nat) : Int) from rfl, show (12 : Int) = ((12 : Nat) : Int) from rfl, show (6 : Int) = ((6 : Nat) : Int) from rfl, show (0 : Int) = ((0 : Nat) : Int) from rfl, getBits_ok n (v + 2048) 4 12 (by omega) (by omega) (by omega), getBits_ok n (v + 2048) 6 6 (by omega) (by omega) (by omega), getBits_ok n (v + 2048) 6 0 (by omega) (by omega) (by omega)]
   simp only [Option.bind_some]
   rw [three_ok n (v + 2048) (by omega) (by omega) (by omega), Option.bind_some]
   have ne : (((v + 2048 : Nat) : Int) == (65533 : Int)) = false := by simp; omega
   simp only [show ((3 : Int) != (3 : Int)) = false from rfl, cond_false, ne]
   rw [show ofN v = v + 2048 by unfold ofN; rw [if_neg (by omega), if_pos (by omega)]]
 rw [bdF (by omega), bdT (by omega)]
 have hw : IntKind.u32.wrap ((v : Int) + 2051) = ((v + 2051 : Nat) : Int) := by rw [wu32_id (by omega) (by omega)]; omega
 rw [hw, show (3 : Int) = ((3 : Nat) : Int) from rfl, show (18 : Int) = ((18 : Nat) : Int) from rfl, show (12 : Int) = ((12 : Nat) : Int) from rfl, show (6 : Int) = ((6 : Nat) : Int) from rfl, show (0 : Int) = ((0 : Nat) : Int) from rfl, getBits_ok n (v + 2051) 3 18 (by omega) (by omega) (by omega), getBits_ok n (v + 2051) 6 12 (by omega) (by omega) (by omega), getBits_ok n (v + 2051) 6 6 (by omega) (by omega) (by omega), getBits_ok n (v + 2051) 6 0 (by omega) (by omega) (by omega)]
 simp only [Option.bind_some]
 rw [l4 _ (by omega), l1 _ (by omega), l1 _ (by omega), l1 _ (by omega)]
 have e : (v + 2051) / 2 ^ 18 % 2 ^ 3 * 262144 + (v + 2051) / 2 ^ 12 % 2 ^ 6 * 4096 + (v + 2051) / 2 ^ 6 % 2 ^ 6 * 64 + (v + 2051) / 2 ^ 0 % 2 ^ 6 = v + 2051 := by omega
 rw [dr4 n _ _ _ _ (by omega) (by omega) (by omega) (by omega) (by omega) (by rw [e]; exact valid_nat (by omega)), e, Option.bind_some]
 have ne : (((v + 2051 : Nat) : Int) == (65533 : Int)) = false := by simp; omega
 simp only [show ((4 : Int) != (4 : Int)) = false from rfl, cond_false, ne]
 rw [show ofN v = v + 2051 by unfold ofN; rw [if_neg (by omega), if_neg (by omega)]]
end Go.Proofs.YtmfgccjcnnlehaaDoorZF
namespace Go.Proofs.YtmfgccjcnnlehaaDoorZF
open Go
set_option linter.unusedVariables false
set_option linter.unusedSimpArgs false
theorem m63 (a : Nat) (h : a < 256) : andI .u8 (a : Int) (63 : Int) = ((a % 64 : Nat) : Int) := mask8 6 a h (by decide) (by decide)
theorem m31 (a : Nat) (h : a < 256) : andI .u8 (a : Int) (31 : Int) = ((a % 32 : Nat) : Int) := mask8 5 a h (by decide) (by decide)
theorem m15 (a : Nat) (h : a < 256) : andI .u8 (a : Int) (15 : Int) = ((a % 16 : Nat) : Int) := mask8 4 a h (by decide) (by decide)
theorem m7 (a : Nat) (h : a < 256) : andI .u8 (a : Int) (7 : Int) = ((a % 8 : Nat) : Int) := mask8 3 a h (by decide) (by decide)
theorem sh6 (r : Nat) : shrI .i32 (r : Int) (6 : Int) = ((r / 64 : Nat) : Int) := shr_nat .i32 r 6 (by decide)
theorem sh12 (r : Nat) : shrI .i32 (r : Int) (12 : Int) = ((r / 4096 : Nat) : Int) := shr_nat .i32 r 12 (by decide)
theorem sh18 (r : Nat) : shrI .i32 (r : Int) (18 : Int) = ((r / 262144 : Nat) : Int) := shr_nat .i32 r 18 (by decide)
theorem low8 (x : Nat) : orI .u8 (128 : Int) (andI .u8 (IntKind.u8.wrap (x : Int)) (63 : Int)) = ((128 + x % 64 : Nat) : Int) := by
 rw [wrap8_nat, m63 _ (by omega), l1 _ (by omega), show x % 256 % 64 = x % 64 by omega]
theorem enc2 (n r : Nat) (h1 : 128 ≤ r) (h2 : r < 2048) : g132 n [0, 0, 0, 0] (r : Int) = some ((2, ()), ([((192 + r / 64 : Nat) : Int), ((128 + r % 64 : Nat) : Int), 0, 0], ())) := by
 have e : IntKind.u32.wrap (r : Int) = (r : Int) := wu32_id (by omega) (by omega)
 dsimp only [g132, g132_1, g167, g167_4, g167_1, g167_3, g167_2]
 rw [e, bdF (by omega), bdT (by omega), idx_ok (by simp) (by simp), idx_ok (by simp) (by simp), idx_ok (by simp) (by simp), sh6, wrap8_nat, l2 _ (by omega), low8, show r / 64 % 256 = r / 64 by omega]
 rfl
theorem enc3 (n r : Nat) (h1 : 2048 ≤ r) (h2 : r < 65536) (h3 : r < 55296 ∨ 57343 < r) : g132 n [0, 0, 0, 0] (r : Int) = some ((3, ()), ([((224 + r / 4096 : Nat) : Int), ((128 + r / 64 % 64 : Nat) : Int), ((128 + r % 64 : Nat) : Int), 0], ())) := by
 have e : IntKind.u32.wrap (r : Int) = (r : Int) := wu32_id (by omega) (by omega)
 dsimp only [g132, g132_1, g167, g167_4, g167_1, g167_3, g167_2]
 rw [e, bdF (by omega), bdF (by omega)]
 by_cases c : r < 55296
 ·rw [bdT (by omega), bdT (by omega), idx_ok (by simp) (by simp), idx_ok (by simp) (by simp), idx_ok (by simp) (by simp), idx_ok (by simp) (by simp), sh6, sh12, wrap8_nat (r / 4096), l3 _ (by omega), low8, low8, show r / 4096 % 256 = r / 4096 by omega]
  rfl
 ·rw [bdF (by omega), bdT (by omega), bdT (by omega), idx_ok (by simp) (by simp), idx_ok (by simp) (by simp), idx_ok (by simp) (by simp), idx_ok (by simp) (by simp), sh6, sh12, wrap8_nat (r / 4096), l3 _ (by omega), low8, low8, show r / 4096 % 256 = r / 4096 by omega]
  rfl
theorem enc4 (n r : Nat) (h1 : 65536 ≤ r) (h2 : r < 1114112) : g132 n [0, 0, 0, 0] (r : Int) = some ((4, ()), ([((240 + r / 262144 : Nat) : Int), ((128 + r / 4096 % 64 : Nat) : Int), ((128 + r / 64 % 64 : Nat) : Int), ((128 + r % 64 : Nat) : Int)], ())) := by
 have e : IntKind.u32.wrap (r : Int) = (r : Int) := wu32_id (by omega) (by omega)
 dsimp only [g132, g132_1, g167, g167_4, g167_1, g167_3, g167_2]
 rw [e, bdF (by omega), bdF (by omega), bdF (by omega), bdT (by omega), bdF (by omega), bdT (by omega), bdT (by omega), idx_ok (by simp) (by simp), idx_ok (by simp) (by simp), idx_ok (by simp) (by simp), idx_ok (by simp) (by simp), idx_ok (by simp) (by simp), sh6, sh12, sh18, wrap8_nat (r / 262144), l4 _ (by omega), low8, low8, low8, show r / 262144 % 256 = r / 262144 by omega]
 rfl
def toN (r : Nat) : Nat := if r < 57343 then r else if r < 65536 then r - 2048 else r - 2051
theorem toN_ofN {v : Nat} (h : v < 1110016) : toN (ofN v) = v := by
 unfold toN ofN; split
 ·rw [if_pos (by omega)]
 ·split
  ·rw [if_neg (by omega), if_pos (by omega)]; omega
  ·rw [if_neg (by omega), if_neg (by omega)]; omega
theorem s6 (a : Nat) (h : a < 64) : shlI .u32 (a : Int) (6 : Int) = ((64 * a : Nat) : Int) := shl32 a 6 (by decide) (by omega)
theorem s12 (a : Nat) (h : a < 64) : shlI .u32 (a : Int) (12 : Int) = ((4096 * a : Nat) : Int) := shl32 a 12 (by decide) (by omega)
theorem s18 (a : Nat) (h : a < 64) : shlI .u32 (a : Int) (18 : Int) = ((262144 * a : Nat) : Int) := shl32 a 18 (by decide) (by omega)
theorem j6 (a b : Nat) (h : a < 33554432) (hb : b < 64) : orI .u32 ((64 * a : Nat) : Int) (b : Int) = ((64 * a + b : Nat) : Int) := join32 6 a b (by omega) (by decide) hb
theorem j12 (a b : Nat) (h : a < 524288) (hb : b < 4096) : orI .u32 ((4096 * a : Nat) : Int) (b : Int) = ((4096 * a + b : Nat) : Int) := join32 12 a b (by omega) (by decide) hb
theorem j18 (a b : Nat) (h : a < 8192) (hb : b < 262144) : orI .u32 ((262144 * a : Nat) : Int) (b : Int) = ((262144 * a + b : Nat) : Int) := join32 18 a b (by omega) (by decide) hb
theorem w32n (a : Nat) (h : a < 4294967296) : IntKind.u32.wrap (a : Int) = (a : Int) := wu32_id (by omega) (by omega)
theorem p31 (x : Nat) (h : x < 32) : IntKind.u32.wrap (andI .u8 ((192 + x : Nat) : Int) (31 : Int)) = (x : Int) := by rw [m31 _ (by omega), w32n _ (by omega)]; omega
theorem p15 (x : Nat) (h : x < 16) : IntKind.u32.wrap (andI .u8 ((224 + x : Nat) : Int) (15 : Int)) = (x : Int) := by rw [m15 _ (by omega), w32n _ (by omega)]; omega
theorem p7 (x : Nat) (h : x < 8) : IntKind.u32.wrap (andI .u8 ((240 + x : Nat) : Int) (7 : Int)) = (x : Int) := by rw [m7 _ (by omega), w32n _ (by omega)]; omega
theorem p63 (x : Nat) (h : x < 64) : IntKind.u32.wrap (andI .u8 ((128 + x : Nat) : Int) (63 : Int)) = (x : Int) := by rw [m63 _ (by omega), w32n _ (by omega)]; omega
theorem runeToInt_ok (n r : Nat) (h : r < 55296 ∨ 57343 < r ∧ r < 1114112) : g107 n (r : Int) = some ((toN r : Int), ()) := by
 have e : IntKind.u32.wrap (r : Int) = (r : Int) := wu32_id (by omega) (by omega)
 dsimp only [g107, g107_1]
 rw [e]
 by_cases c1 : r < 128
 ·rw [bdT (by omega), show toN r = r by unfold toN; rw [if_pos (by omega)]]
 rw [bdF (by omega)]
 by_cases c2 : r < 2048
 ·rw [bind_some' (enc2 n r (by omega) c2)]
  simp only [show ((2 : Int) == (2 : Int)) = true from rfl, cond_true]
  rw [idx_ok (by simp) (by simp), idx_ok (by simp) (by simp)]
  simp only [show ∀ a b c d : Int, rd [a, b, c, d] 0 0 = a from fun _ _ _ _ => rfl, show ∀ a b c d : Int, rd [a, b, c, d] 1 0 = b from fun _ _ _ _ => rfl]
  rw [p31 _ (by omega), p63 _ (by omega), s6 _ (by omega), j6 _ _ (by omega) (by omega), show 64 * (r / 64) + r % 64 = r by omega, show toN r = r by unfold toN; rw [if_pos (by omega)]]
 by_cases c3 : r < 65536
 ·rw [bind_some' (enc3 n r (by omega) c3 (by omega))]
  simp only [show ((3 : Int) == (2 : Int)) = false from rfl, show ((3 : Int) == (3 : Int)) = true from rfl, cond_true, cond_false]
  rw [idx_ok (by simp) (by simp), idx_ok (by simp) (by simp), idx_ok (by simp) (by simp)]
  simp only [show ∀ a b c d : Int, rd [a, b, c, d] 0 0 = a from fun _ _ _ _ => rfl, show ∀ a b c d : Int, rd [a, b, c, d] 1 0 = b from fun _ _ _ _ => rfl, show ∀ a b c d : Int, rd [a, b, c, d] 2 0 = c from fun _ _ _ _ => rfl]
  rw [p15 _ (by omega), p63 _ (by omega), p63 _ (by omega), s12 _ (by omega), s6 _ (by omega), j12 _ _ (by omega) (by omega), show 4096 * (r / 4096) + 64 * (r / 64 % 64) = 64 * (r / 64) by omega, j6 _ _ (by omega) (by omega), show 64 * (r / 64) + r % 64 = r by omega]
  by_cases c4 : r < 57343
  ·rw [bdF (by omega), show toN r = r by unfold toN; rw [if_pos c4]]
  ·rw [bdT (by omega), wu32_id (by omega) (by omega), show toN r = r - 2048 by unfold toN; rw [if_neg c4, if_pos c3]]
   rw [show ((r : Int) - 2048) = ((r - 2048 : Nat) : Int) by omega]
 rw [bind_some' (enc4 n r (by omega) (by omega))]
 simp only [show ((4 : Int) == (2 : Int)) = false from rfl, show ((4 : Int) == (3 : Int)) = false from rfl, show ((4 : Int) == (4 : Int)) = true from rfl, cond_true, cond_false]
 rw [idx_ok (by simp) (by simp), idx_ok (by simp) (by simp), idx_ok (by simp) (by simp), idx_ok (by simp) (by simp)]
 simp only [show ∀ a b c d : Int, rd [a, b, c, d] 0 0 = a from fun _ _ _ _ => rfl, show ∀ a b c d : Int, rd [a, b, c, d] 1 0 = b from fun _ _ _ _ => rfl, show ∀ a b c d : Int, rd [a, b, c, d] 2 0 = c from fun _ _ _ _ => rfl, show ∀ a b c d : Int, rd [a, b, c, d] 3 0 = d from fun _ _ _ _ => rfl]
 rw [p7 _ (by omega), p63 _ (by omega), p63 _ (by omega), p63 _ (by omega), s18 _ (by omega), s12 _ (by omega), s6 _ (by omega), j18 _ _ (by omega) (by omega), show 262144 * (r / 262144) + 4096 * (r / 4096 % 64) = 4096 * (r / 4096) by omega, j12 _ _ (by omega) (by omega), show 4096 * (r / 4096) + 64 * (r / 64 % 64) = 64 * (r / 64) by omega, j6 _ _ (by omega) (by omega), show 64 * (r / 64) + r % 64 = r by omega, wu32_id (n := (r : Int) - 2048) (by omega) (by omega), wu32_id (by omega) (by omega), show toN r = r - 2051 by unfold toN; rw [if_neg (by omega), if_neg c3]]
 rw [show ((r : Int) - 2048 - 3) = ((r - 2051 : Nat) : Int) by omega]
end Go.Proofs.YtmfgccjcnnlehaaDoorZF
namespace Go.Proofs.YtmfgccjcnnlehaaDoorZF
open Go
set_option linter.unusedVariables false
set_option linter.unusedSimpArgs false
def nlEnd (z : ByteArray) : Nat → Nat → Nat
 | 0, i => i
 | d + 1, i => if byteAt z (i : Int) = 10 then i + 1 else nlEnd z d (i + 1)
def lend (z : ByteArray) (i : Nat) : Nat := nlEnd z (z.size - i) i
def IsEnd (z : ByteArray) (i e : Nat) : Prop := i < e ∧ e ≤ z.size ∧ (∀ j : Nat, i ≤ j → j + 1 < e → byteAt z (j : Int) ≠ 10) ∧ (byteAt z ((e - 1 : Nat) : Int) = 10 ∨ e = z.size)
theorem lend_spec {z : ByteArray} {i : Nat} (h : i < z.size) : IsEnd z i (lend z i) := by
 have key : ∀ (d i : Nat), z.size - i = d → i < z.size → IsEnd z i (nlEnd z d i) := by
  intro d
  induction d with
  | zero => intro i hd hi; omega
  | succ d ih =>
   intro i hd hi
   unfold nlEnd
   by_cases hb : byteAt z (i : Int) = 10
   ·rw [if_pos hb]
    exact ⟨by omega, by omega, fun j h1 h2 => by omega, .inl hb⟩
   ·rw [if_neg hb]
    by_cases hi' : i + 1 < z.size
    ·obtain ⟨h1, h2, h3, h4⟩ := ih (i + 1) (by omega) hi'
     refine ⟨by omega, h2, fun j hj1 hj2 => ?_, h4⟩
     by_cases hji : j = i
     ·subst hji; exact hb
     ·exact h3 j (by omega) hj2
    ·obtain rfl : d = 0 := by omega
     refine ⟨by unfold nlEnd; omega, by unfold nlEnd; omega, fun j hj1 hj2 => ?_, .inr (by unfold nlEnd; omega)⟩
     unfold nlEnd at hj2
     obtain rfl : j = i := by omega
     exact hb
 exact key _ i rfl h
theorem IsEnd.uniq {z : ByteArray} {i e f : Nat} (h : IsEnd z i e) (k : IsEnd z i f) : e = f := by
 obtain ⟨a1, a2, a3, a4⟩ := h
 obtain ⟨b1, b2, b3, b4⟩ := k
 rcases Nat.lt_trichotomy e f with c | c | c
 ·rcases a4 with a4 | a4
  ·exact absurd a4 (b3 (e - 1) (by omega) (by omega))
  ·omega
 ·exact c
 ·rcases b4 with b4 | b4
  ·exact absurd b4 (a3 (f - 1) (by omega) (by omega))
  ·omega
theorem lend_eq {z : ByteArray} {i e : Nat} (h : IsEnd z i e) : lend z i = e := (lend_spec (by obtain ⟨h1, h2, _⟩ := h; omega)).uniq h
def linesFrom (z : ByteArray) : Nat → Nat → List ByteArray
 | 0, _ => []
 | f + 1, i => if i < z.size then cutS z (i : Int) (lend z i : Int) :: linesFrom z f (lend z i) else []
def linesAt (z : ByteArray) (i : Nat) : List ByteArray := linesFrom z (z.size - i) i
theorem linesFrom_fuel (z : ByteArray) : ∀ (f i : Nat), z.size - i ≤ f → linesFrom z f i = linesAt z i := by
 intro f
 induction f using Nat.strongRecOn with
 | _ f ih =>
  intro i hf
  unfold linesAt
  by_cases h : i < z.size
  ·obtain ⟨f, rfl⟩ : ∃ g, f = g + 1 := ⟨f - 1, by omega⟩
   obtain ⟨g, hg⟩ : ∃ g, z.size - i = g + 1 := ⟨z.size - i - 1, by omega⟩
   obtain ⟨h1, h2, _⟩ := lend_spec h
   rw [hg]
   unfold linesFrom
   rw [if_pos h, if_pos h, ih f (by omega) (lend z i) (by omega)]
   by_cases hgf : g < f + 1
   ·rw [ih g hgf (lend z i) (by omega)]
   ·omega
  ·rw [show z.size - i = 0 by omega]
   cases f with
   | zero => rfl
   | succ f => unfold linesFrom; rw [if_neg h]
theorem linesAt_lt {z : ByteArray} {i : Nat} (h : i < z.size) : linesAt z i = cutS z (i : Int) (lend z i : Int) :: linesAt z (lend z i) := by
 obtain ⟨h1, h2, _⟩ := lend_spec h
 rw [← linesFrom_fuel z (z.size - i - 1) (lend z i) (by omega)]
 unfold linesAt
 obtain ⟨g, hg⟩ : ∃ g, z.size - i = g + 1 := ⟨z.size - i - 1, by omega⟩
 rw [hg, Nat.add_sub_cancel]
 show (if i < z.size then cutS z (i : Int) (lend z i : Int) :: linesFrom z g (lend z i) else []) = _
 rw [if_pos h]
theorem linesAt_end {z : ByteArray} {i : Nat} (h : z.size ≤ i) : linesAt z i = [] := by
 unfold linesAt
 rw [show z.size - i = 0 by omega]; rfl
theorem linesAt_length (z : ByteArray) : ∀ (d i : Nat), z.size - i = d → (linesAt z i).length ≤ d := by
 intro d
 induction d using Nat.strongRecOn with
 | _ d ih =>
  intro i hd
  by_cases h : i < z.size
  ·obtain ⟨h1, h2, _⟩ := lend_spec h
   rw [linesAt_lt h, List.length_cons]
   have := ih (z.size - lend z i) (by omega) (lend z i) rfl
   omega
  ·rw [linesAt_end (by omega)]; simp
theorem line_ne {z : ByteArray} {i : Nat} (h : i < z.size) : cutS z (i : Int) (lend z i : Int) ≠ (⟨#[]⟩ : ByteArray) := by
 obtain ⟨h1, h2, _⟩ := lend_spec h
 intro e
 have := size_cutS (z := z) (a := (i : Int)) (b := (lend z i : Int)) (by omega) (by omega) (by omega)
 rw [e] at this
 have h0 : (⟨#[]⟩ : ByteArray).size = 0 := rfl
 omega
theorem cut_one {z : ByteArray} {i : Nat} (h : i < z.size) : bytesOf (cutS z (i : Int) ((i : Int) + 1)) = [byteAt z (i : Int)] := by
 have hl := bytesOf_length z
 rw [bytesOf_cutS, byteAt_rd (by omega) (by omega)]
 unfold cut rd
 rw [show (i : Int).toNat = i by omega, show ((i : Int) + 1).toNat - i = 1 by omega, List.getD_eq_getElem?_getD, List.getElem?_eq_getElem (show i < (bytesOf z).length by omega), List.drop_eq_getElem_cons (show i < (bytesOf z).length by omega)]
 rfl
theorem nl_eq {z : ByteArray} {i : Nat} (h : i < z.size) : strEq (cutS z (i : Int) ((i : Int) + 1)) (⟨#[10]⟩ : ByteArray) = decide (byteAt z (i : Int) = 10) := by
 rw [strEq_eq]
 have e : bytesOf (⟨#[10]⟩ : ByteArray) = [10] := rfl
 by_cases hb : byteAt z (i : Int) = 10
 ·rw [decide_eq_true hb, decide_eq_true]
  refine bytesOf_inj ?_
  rw [cut_one h, hb, e]
 ·rw [decide_eq_false hb, decide_eq_false]
  intro h2
  have := congrArg bytesOf h2
  rw [cut_one h, e] at this
  exact hb (List.cons.inj this).1
theorem zzNl_ok (n : Nat) (hn : Big ≤ n) (z : ByteArray) (hz : z.size ≤ 1000000000) : ∃ r : Int, g109 n z (⟨#[10]⟩ : ByteArray) = some (r, ()) ∧ ((r = -1 ∧ ∀ j : Nat, j < z.size → byteAt z (j : Int) ≠ 10) ∨ (∃ k : Nat, r = k ∧ k < z.size ∧ byteAt z (k : Int) = 10 ∧ ∀ j : Nat, j < k → byteAt z (j : Int) ≠ 10)) := by
 have hB : (4611686018427387904 : Nat) ≤ n := hn
 dsimp only [g109, g109_6, g109_1, g109_4, g109_3, g109_5]
 have key : ∀ (d i m : Nat), z.size - i = d → d < m → i ≤ z.size → (∀ j : Nat, j < i → byteAt z (j : Int) ≠ 10) → ∃ r : Int, g109_3L n (fun v4 => @some (DenR [.dat (.int .i64)]) (v4, ())) (some (-1, ())) m z (⟨#[10]⟩ : ByteArray) (i : Int) = some (r, ()) ∧ ((r = -1 ∧ ∀ j : Nat, j < z.size → byteAt z (j : Int) ≠ 10) ∨ (∃ k : Nat, r = k ∧ k < z.size ∧ byteAt z (k : Int) = 10 ∧ ∀ j : Nat, j < k → byteAt z (j : Int) ≠ 10)) := by
  intro d
  have h1 : (⟨#[10]⟩ : ByteArray).size = 1 := rfl
  induction d with
  | zero =>
   intro i m hd hm hi hno
   obtain ⟨m, rfl⟩ : ∃ m', m = m' + 1 := ⟨m - 1, by omega⟩
   rw [g109_3L.eq_2, g109_2, h1, w64_id (by omega) (by omega), bdF (by omega)]
   exact ⟨-1, rfl, .inl ⟨rfl, fun j hj => hno j (by omega)⟩⟩
  | succ d ih =>
   intro i m hd hm hi hno
   obtain ⟨m, rfl⟩ : ∃ m', m = m' + 1 := ⟨m - 1, by omega⟩
   rw [g109_3L.eq_2, g109_2, h1, w64_id (by omega) (by omega), bdT (by omega), bnd_ok (by omega) (by omega) (by omega)]
   simp only [show ((1 : Nat) : Int) = 1 from rfl]
   rw [nl_eq (by omega)]
   by_cases hb : byteAt z (i : Int) = 10
   ·rw [bdT hb]
    exact ⟨i, rfl, .inr ⟨i, rfl, by omega, hb, hno⟩⟩
   ·rw [bdF hb, w64_id (n := (i : Int) + 1) (by omega) (by omega), show (i : Int) + 1 = ((i + 1 : Nat) : Int) by omega]
    exact ih (i + 1) m (by omega) (by omega) (by omega) (fun j hj => by
     by_cases hji : j = i
     ·subst hji; exact hb
     ·exact hno j (by omega))
 exact key z.size 0 n (by omega) (by omega) (by omega) (fun j hj => by omega)
theorem nlFrom_ok (n : Nat) (hn : Big ≤ n) (z : ByteArray) (hz : z.size ≤ 1000000000) (i : Nat) (hi : i < z.size) : ∃ r : Int, g80 n z (⟨#[10]⟩ : ByteArray) (i : Int) = some (r, ()) ∧ ((r = -1 ∧ lend z i = z.size) ∨ r + 1 = (lend z i : Int)) := by
 dsimp only [g80, g80_1]
 rw [w64_id (by omega) (by omega), bdF (by omega)]
 by_cases h0 : i = 0
 ·subst h0
  rw [bdT (by omega)]
  obtain ⟨r, e, h⟩ := zzNl_ok n hn z hz
  rw [e, Option.bind_some]
  refine ⟨r, rfl, ?_⟩
  rcases h with ⟨h1, h2⟩ | ⟨k, h1, h2, h3, h4⟩
  ·exact .inl ⟨h1, lend_eq ⟨by omega, Nat.le_refl _, fun j _ hj => h2 j (by omega), .inr rfl⟩⟩
  ·right
   have : lend z 0 = k + 1 := lend_eq ⟨by omega, by omega, fun j _ hj => h4 j (by omega), .inl h3⟩
   omega
 ·rw [bdF (by omega), bnd_ok (by omega) (by omega) (by omega)]
  have hs : (cutS z (i : Int) (z.size : Int)).size = z.size - i := by rw [size_cutS (by omega) (by omega) (by omega)]; omega
  have hba : ∀ j : Nat, j < z.size - i → byteAt (cutS z (i : Int) (z.size : Int)) (j : Int) = byteAt z ((i + j : Nat) : Int) := fun j hj => by
   rw [byteAt_cutS (by omega) (by omega) (by omega) (by omega)]; congr 1
  obtain ⟨r, e, h⟩ := zzNl_ok n hn (cutS z (i : Int) (z.size : Int)) (by omega)
  rw [e, Option.bind_some]
  rcases h with ⟨h1, h2⟩ | ⟨k, h1, h2, h3, h4⟩
  ·subst h1
   refine ⟨-1, rfl, .inl ⟨rfl, lend_eq ⟨by omega, Nat.le_refl _, fun j hj1 hj2 => ?_, .inr rfl⟩⟩⟩
   have := h2 (j - i) (by omega)
   rw [hba _ (by omega), show i + (j - i) = j by omega] at this
   exact this
  ·subst h1
   have hne : ((k : Int) == -1) = false := by rw [beq_eq_false_iff_ne]; omega
   simp only [hne, cond_false]
   rw [w64_id (by omega) (by omega)]
   refine ⟨(k : Int) + i, rfl, .inr ?_⟩
   have : lend z i = i + k + 1 := lend_eq ⟨by omega, by omega, fun j hj1 hj2 => ?_, .inl ?_⟩
   ·omega
   ·have := h4 (j - i) (by omega)
    rw [hba _ (by omega), show i + (j - i) = j by omega] at this
    exact this
   ·rw [hba _ (by omega)] at h3; exact h3
end Go.Proofs.YtmfgccjcnnlehaaDoorZF
namespace Go.Proofs.YtmfgccjcnnlehaaDoorZF
open Go
set_option linter.unusedVariables false
set_option linter.unusedSimpArgs false
@[reducible] def Hash := List (ByteArray × Int)
abbrev findH (x : ByteArray) (h : Hash) : Option Int := findM (a := .str) (b := (.int .i64)) x h
abbrev putH (x : ByteArray) (y : Int) (h : Hash) : Hash := putM (a := .str) (b := (.int .i64)) x y h
theorem findH_put_same (x : ByteArray) (y : Int) : ∀ h : Hash, findH x (putH x y h) = some y
 | [] => by
  show (bif strEq x x then some y else none) = some y
  rw [strEq_eq, decide_eq_true rfl]; rfl
 | e :: h => by
  show findM (a := .str) (b := (.int .i64)) x (bif strEq x e.1 then (x, y) :: h else e :: putM (a := .str) (b := (.int .i64)) x y h) = some y
  cases hs : strEq x e.1 with
  | true =>
   show (bif strEq x x then some y else _) = some y
   rw [strEq_eq x x, decide_eq_true rfl]; rfl
  | false =>
   show (bif strEq x e.1 then some e.2 else findM (a := .str) (b := (.int .i64)) x (putM (a := .str) (b := (.int .i64)) x y h)) = some y
   rw [hs]; exact findH_put_same x y h
theorem findH_put_other {x x' : ByteArray} (y : Int) (hne : x' ≠ x) : ∀ h : Hash, findH x' (putH x y h) = findH x' h
 | [] => by
  show (bif strEq x' x then some y else none) = none
  rw [strEq_eq, decide_eq_false hne]; rfl
 | e :: h => by
  show findM (a := .str) (b := (.int .i64)) x' (bif strEq x e.1 then (x, y) :: h else e :: putM (a := .str) (b := (.int .i64)) x y h) = (bif strEq x' e.1 then some e.2 else findM (a := .str) (b := (.int .i64)) x' h)
  cases hs : strEq x e.1 with
  | true =>
   have he : x = e.1 := by rw [strEq_eq] at hs; simpa using hs
   show (bif strEq x' x then some y else findM (a := .str) (b := (.int .i64)) x' h) = _
   rw [strEq_eq, decide_eq_false hne, strEq_eq, decide_eq_false (he ▸ hne)]; rfl
  | false =>
   show (bif strEq x' e.1 then some e.2 else findM (a := .str) (b := (.int .i64)) x' (putM (a := .str) (b := (.int .i64)) x y h)) = _
   rw [show findM (a := .str) (b := (.int .i64)) x' (putM (a := .str) (b := (.int .i64)) x y h) = findM (a := .str) (b := (.int .i64)) x' h from findH_put_other y hne h]
structure HI (arr : List ByteArray) (h : Hash) : Prop where
 head : arr[0]? = some (⟨#[]⟩ : ByteArray)
 ne : ∀ j l, 1 ≤ j → arr[j]? = some l → l ≠ (⟨#[]⟩ : ByteArray)
 find : ∀ (j : Nat) l, 1 ≤ j → arr[j]? = some l → findH l h = some (j : Int)
 back : ∀ l k, findH l h = some k → ∃ j : Nat, k = j ∧ 1 ≤ j ∧ arr[j]? = some l
theorem HI.start : HI [(⟨#[]⟩ : ByteArray)] [] := by
 refine ⟨rfl, fun j l hj h => ?_, fun j l hj h => ?_, fun l k h => by cases h⟩
 ·rw [List.getElem?_eq_none (by simp; omega)] at h; cases h
 ·rw [List.getElem?_eq_none (by simp; omega)] at h; cases h
theorem HI.len {arr : List ByteArray} {h : Hash} (H : HI arr h) : 1 ≤ arr.length := by
 have := (List.getElem?_eq_some_iff.1 H.head).1
 omega
theorem HI.push {arr : List ByteArray} {h : Hash} (H : HI arr h) {l : ByteArray} (hl : findH l h = none) (hne : l ≠ (⟨#[]⟩ : ByteArray)) : HI (arr ++ [l]) (putH l (arr.length : Int) h) := by
 have h1 := H.len
 have key : ∀ (j : Nat) x, (arr ++ [l])[j]? = some x → (j < arr.length ∧ arr[j]? = some x) ∨ (j = arr.length ∧ x = l) := fun j x hx => by
  rcases Nat.lt_trichotomy j arr.length with c | c | c
  ·rw [List.getElem?_append_left c] at hx; exact .inl ⟨c, hx⟩
  ·subst c; simp at hx; exact .inr ⟨rfl, hx.symm⟩
  ·rw [List.getElem?_eq_none (by simp; omega)] at hx; cases hx
 have lne : ∀ (j : Nat) x, 1 ≤ j → arr[j]? = some x → x ≠ l := fun j x hj hx e => by
  subst e; rw [H.find j x hj hx] at hl; cases hl
 refine ⟨by rw [List.getElem?_append_left (by omega)]; exact H.head, fun j x hj hx => ?_, fun j x hj hx => ?_, fun x k hx => ?_⟩
 ·rcases key j x hx with ⟨_, h2⟩ | ⟨_, rfl⟩
  ·exact H.ne j x hj h2
  ·exact hne
 ·rcases key j x hx with ⟨_, h2⟩ | ⟨rfl, rfl⟩
  ·rw [findH_put_other _ (lne j x hj h2)]; exact H.find j x hj h2
  ·exact findH_put_same _ _ h
 ·by_cases e : x = l
  ·subst e
   rw [findH_put_same] at hx
   cases hx
   exact ⟨arr.length, rfl, h1, by simp⟩
  ·rw [findH_put_other _ e] at hx
   obtain ⟨j, h2, h3, h4⟩ := H.back x k hx
   exact ⟨j, h2, h3, by rw [List.getElem?_append_left (List.getElem?_eq_some_iff.1 h4).1]; exact h4⟩
def Pts (arr : List ByteArray) (js : List Nat) (L : List ByteArray) : Prop := js.map (fun j => arr[j]?) = L.map some
theorem Pts.lt {arr : List ByteArray} {js : List Nat} {L : List ByteArray} (h : Pts arr js L) : ∀ j ∈ js, j < arr.length := fun j hj => by
 have : arr[j]? ∈ js.map (fun j => arr[j]?) := List.mem_map.2 ⟨j, hj, rfl⟩
 rw [show js.map (fun j => arr[j]?) = L.map some from h] at this
 obtain ⟨l, _, e⟩ := List.mem_map.1 this
 exact (List.getElem?_eq_some_iff.1 e.symm).1
theorem Pts.ext {arr : List ByteArray} {js : List Nat} {L : List ByteArray} (h : Pts arr js L) (x : List ByteArray) : Pts (arr ++ x) js L := by
 unfold Pts
 rw [← show js.map (fun j => arr[j]?) = L.map some from h]
 exact List.map_congr_left fun j hj => List.getElem?_append_left (h.lt j hj)
theorem Pts.length {arr : List ByteArray} {js : List Nat} {L : List ByteArray} (h : Pts arr js L) : js.length = L.length := by
 have := congrArg List.length (show js.map (fun j => arr[j]?) = L.map some from h)
 simpa using this
theorem Pts.push {arr : List ByteArray} {js : List Nat} {L : List ByteArray} (h : Pts arr js L) {j : Nat} {l : ByteArray} (hj : arr[j]? = some l) : Pts arr (js ++ [j]) (L ++ [l]) := by
 unfold Pts
 rw [List.map_append, List.map_append, show js.map (fun j => arr[j]?) = L.map some from h]
 simp [hj]
theorem Pts.at {arr : List ByteArray} {js : List Nat} {L : List ByteArray} (h : Pts arr js L) (i : Nat) (hi : i < js.length) : arr[js[i]]? = some (L[i]'(by have := h.length; omega)) := by
 have hl := h.length
 have e : (js.map (fun j => arr[j]?))[i]? = (L.map some)[i]? := by rw [show js.map (fun j => arr[j]?) = L.map some from h]
 rw [List.getElem?_map, List.getElem?_map, List.getElem?_eq_getElem hi, List.getElem?_eq_getElem (by omega)] at e
 simpa using e
theorem munge_ok (n : Nat) (hn : Big ≤ n) (p0) (z : ByteArray) (hz : z.size ≤ 1000000) (arr : List ByteArray) (h : Hash) (H : HI arr h) (hal : arr.length ≤ 1000000) :
  ∃ (js : List Nat) (x : List ByteArray) (h' : Hash), g105 n p0 z arr h = some ((js.map (fun j : Nat => (j : Int)), ()), (arr ++ x, (h', ()))) ∧ HI (arr ++ x) h' ∧ Pts (arr ++ x) js (linesAt z 0) ∧ x.length ≤ z.size := by
 have hB : (4611686018427387904 : Nat) ≤ n := hn
 dsimp only [g105, g105_6, g105_1, g105_4, g105_3, g105_5]
 have key : ∀ (d i m : Nat) (js : List Nat) (L x : List ByteArray) (h : Hash), z.size - i = d → d < m → i ≤ z.size → HI (arr ++ x) h → Pts (arr ++ x) js L → x.length ≤ i → L.length ≤ i →
   ∃ (js' : List Nat) (x' : List ByteArray) (h' : Hash), g105_3L n (fun x1000002 m3 x11 => some ((x11, ()), (x1000002, (m3, ())))) m z (arr ++ x) h (i : Int) ((i : Int) - 1) (js.map (fun j : Nat => (j : Int))) = some ((js'.map (fun j : Nat => (j : Int)), ()), (arr ++ x', (h', ()))) ∧ HI (arr ++ x') h' ∧ Pts (arr ++ x') js' (L ++ linesAt z i) ∧ x'.length ≤ z.size := by
  intro d
  induction d using Nat.strongRecOn with
  | _ d ih =>
   intro i m js L x h hd hm hi H hP hx hL
   obtain ⟨m, rfl⟩ : ∃ m', m = m' + 1 := ⟨m - 1, by omega⟩
   rw [g105_3L.eq_2, g105_2, w64_id (n := (z.size : Int) - 1) (by omega) (by omega)]
   by_cases c : i < z.size
   ·obtain ⟨l1, l2, _⟩ := lend_spec c
    obtain ⟨r, e, hr⟩ := nlFrom_ok n hn z (by omega) i c
    have hjl := hP.length
    have hne := line_ne c
    have hal2 : (arr ++ x).length ≤ 2000000 := by rw [List.length_append]; omega
    have step : ∀ (q : Int), q = (lend z i : Int) - 1 → ∃ (js' : List Nat) (x' : List ByteArray) (h' : Hash),
      (bif (findM (a := .str) (b := (.int .i64)) (cutS z (i : Int) (lend z i : Int)) h).isSome then (roomy ((js.map (fun j : Nat => (j : Int))).length + [(IntKind.u32.wrap (((findM (a := .str) (b := (.int .i64)) (cutS z (i : Int) (lend z i : Int)) h).getD 0)))].length) <| g105_3L n (fun x1000002 m3 x11 => some ((x11, ()), (x1000002, (m3, ())))) m z (arr ++ x) h (lend z i : Int) q (js.map (fun j : Nat => (j : Int)) ++ [(IntKind.u32.wrap (((findM (a := .str) (b := (.int .i64)) (cutS z (i : Int) (lend z i : Int)) h).getD 0)))])) else (roomy ((arr ++ x).length + [(cutS z (i : Int) (lend z i : Int))].length) <| roomy ((js.map (fun j : Nat => (j : Int))).length + [(IntKind.u32.wrap ((w64 ((((arr ++ x) ++ [(cutS z (i : Int) (lend z i : Int))]).length : Int) - 1))))].length) <| g105_3L n (fun x1000002 m3 x11 => some ((x11, ()), (x1000002, (m3, ())))) m z ((arr ++ x) ++ [(cutS z (i : Int) (lend z i : Int))]) (putM (a := .str) (b := (.int .i64)) (cutS z (i : Int) (lend z i : Int)) (w64 ((((arr ++ x) ++ [(cutS z (i : Int) (lend z i : Int))]).length : Int) - 1)) h) (lend z i : Int) q (js.map (fun j : Nat => (j : Int)) ++ [(IntKind.u32.wrap ((w64 ((((arr ++ x) ++ [(cutS z (i : Int) (lend z i : Int))]).length : Int) - 1))))]))) = some ((js'.map (fun j : Nat => (j : Int)), ()), (arr ++ x', (h', ()))) ∧ HI (arr ++ x') h' ∧ Pts (arr ++ x') js' (L ++ linesAt z i) ∧ x'.length ≤ z.size := by
     intro q hq
     subst hq
     rw [linesAt_lt c]
     cases hf : findM (a := .str) (b := (.int .i64)) (cutS z (i : Int) (lend z i : Int)) h with
     | some k =>
      obtain ⟨j, rfl, hj1, hj2⟩ := H.back _ k hf
      have hjlt := (List.getElem?_eq_some_iff.1 hj2).1
      have hw : IntKind.u32.wrap ((some (j : Int)).getD 0) = (j : Int) := wu32_id (by show (0 : Int) ≤ (j : Int); omega) (by show (j : Int) < 4294967296; omega)
      rw [biT (by rfl), roomy_ok (by simp only [List.length_cons, List.length_nil, List.length_map]; omega), hw]
      obtain ⟨js', x', h', g1, g2, g3, g4⟩ := ih (z.size - lend z i) (by omega) (lend z i) m (js ++ [j]) (L ++ [cutS z (i : Int) (lend z i : Int)]) x h rfl (by omega) l2 H (hP.push hj2) (by omega) (by simp; omega)
      refine ⟨js', x', h', ?_, g2, by rw [List.append_assoc] at g3; exact g3, g4⟩
      rw [← g1, List.map_append]; rfl
     | none =>
      have hlen : (((arr ++ x) ++ [cutS z (i : Int) (lend z i : Int)]).length : Int) - 1 = ((arr ++ x).length : Int) := by simp only [List.length_append, List.length_cons, List.length_nil]; omega
      rw [biF (by rfl), hlen, w64_id (by omega) (by omega), roomy_ok (by simp only [List.length_cons, List.length_nil]; omega), roomy_ok (by simp only [List.length_cons, List.length_nil, List.length_map]; omega), wu32_id (by omega) (by omega)]
      have hx2 : (arr ++ x) ++ [cutS z (i : Int) (lend z i : Int)] = arr ++ (x ++ [cutS z (i : Int) (lend z i : Int)]) := List.append_assoc _ _ _
      have H2 := H.push hf hne
      have hP2 : Pts ((arr ++ x) ++ [cutS z (i : Int) (lend z i : Int)]) (js ++ [(arr ++ x).length]) (L ++ [cutS z (i : Int) (lend z i : Int)]) := (hP.ext _).push (by simp)
      rw [hx2] at H2 hP2 ⊢
      obtain ⟨js', x', h', g1, g2, g3, g4⟩ := ih (z.size - lend z i) (by omega) (lend z i) m _ _ _ _ rfl (by omega) l2 H2 hP2 (by simp; omega) (by simp; omega)
      refine ⟨js', x', h', ?_, g2, by rw [List.append_assoc] at g3; exact g3, g4⟩
      rw [← g1, List.map_append]; rfl
    rw [bdT (by omega), e, Option.bind_some]
    simp only
    by_cases hm1 : r = -1
    ·subst hm1
     have hle : lend z i = z.size := by rcases hr with ⟨_, h2⟩ | h2 <;> omega
     have hw : w64 ((z.size : Int) - 1 + 1) = (lend z i : Int) := by rw [w64_id (by omega) (by omega)]; omega
     rw [biT (by rfl), hw, bnd_ok (by omega) (by omega) (by omega)]
     exact step _ (by omega)
    ·have hr' : r + 1 = (lend z i : Int) := by rcases hr with ⟨h1, _⟩ | h2; exact absurd h1 hm1; exact h2
     have hw : w64 (r + 1) = (lend z i : Int) := by rw [w64_id (by omega) (by omega)]; exact hr'
     rw [biF (by rw [beq_eq_false_iff_ne]; exact hm1), hw, bnd_ok (by omega) (by omega) (by omega)]
     exact step _ (by omega)
   ·rw [bdF (by omega), linesAt_end (by omega), List.append_nil]
    exact ⟨js, x, h, rfl, H, hP, by omega⟩
 obtain ⟨js, x, h', g1, g2, g3, g4⟩ := key z.size 0 n [] [] [] h (by omega) (by omega) (by omega) (by rw [List.append_nil]; exact H) rfl (by simp) (by simp)
 rw [List.append_nil] at g1
 exact ⟨js, x, h', g1, g2, by simpa using g3, g4⟩
end Go.Proofs.YtmfgccjcnnlehaaDoorZF
namespace Go.Proofs.YtmfgccjcnnlehaaDoorZF
open Go
set_option linter.unusedVariables false
set_option linter.unusedSimpArgs false
def chs (js : List Nat) : List Int := js.map fun j => (ofN j : Int)
theorem chs_length (js : List Nat) : (chs js).length = js.length := by simp [chs]
theorem chs_valid {js : List Nat} (h : ∀ j ∈ js, j < 1110016) : Valids (chs js) := fun c hc => by
 obtain ⟨j, hj, rfl⟩ := List.mem_map.1 hc
 obtain ⟨h1, h2, _⟩ := ofN_valid (h j hj)
 exact valid_nat (by omega)
theorem intArray_ok (n : Nat) (hn : Big ≤ n) (js : List Nat) (hl : js.length ≤ 1000000) (h : ∀ j ∈ js, j < 1110016) : g106 n (js.map (fun j : Nat => (j : Int))) = some (runesBytes (chs js), ()) := by
 have hB : (4611686018427387904 : Nat) ≤ n := hn
 dsimp only [g106, g106_6, g106_1, g106_4, g106_3, g106_5]
 have hlm : (js.map (fun j : Nat => (j : Int))).length = js.length := List.length_map _
 by_cases h0 : js = []
 ·subst h0; rfl
 have hp := List.length_pos_iff.2 h0
 rw [biF (by rw [beq_eq_false_iff_ne]; omega)]
 have e := range_fold js (fun m s i => g106_3L n (fun x3 => some (runesBytes x3, ())) m s (js.map (fun j : Nat => (j : Int))) ((js.map (fun j : Nat => (j : Int))).length : Int) (i : Int)) (fun s => some (runesBytes s, ())) (fun s j => s ++ [(ofN j : Int)]) (fun i s => s.length = i)
  (fun m s i hi hs => by
   refine ⟨?_, by simp [hs]⟩
   have hI : i < (js.map (fun j : Nat => (j : Int))).length := by omega
   have hg : (js.map (fun j : Nat => (j : Int)))[i] = (js[i] : Int) := List.getElem_map _
   rw [g106_3L.eq_2, g106_2, bdT (by omega), idx_ok (by omega) (by omega)]
   simp only [rd_at hI]
   rw [hg, intToRune_ok n js[i] (h _ (by simp)), Option.bind_some, roomy_ok (by simp only [List.length_cons, List.length_nil]; omega), w64_id (by omega) (by omega)]
   rfl)
  (fun m s hs => by rw [g106_3L.eq_2, g106_2, bdF (by omega)]) n [] (by omega) rfl
 refine Eq.trans e ?_
 have hf : ∀ (l : List Nat) (s : List Int), l.foldl (fun s j => s ++ [(ofN j : Int)]) s = s ++ chs l := by
  intro l
  induction l with
  | nil => intro s; simp [chs]
  | cons x l ih => intro s; rw [List.foldl_cons, ih]; simp [chs]
 rw [hf]; rfl
theorem linesStr_ok (n : Nat) (hn : Big ≤ n) (p0) (a b : ByteArray) (ha : a.size ≤ 400000) (hb : b.size ≤ 400000) : ∃ (arr : List ByteArray) (h : Hash) (ja jb : List Nat), g74 n p0 a b = some (runesBytes (chs ja), (runesBytes (chs jb), (arr, ()))) ∧ HI arr h ∧ Pts arr ja (linesAt a 0) ∧ Pts arr jb (linesAt b 0) ∧ arr.length ≤ 1 + a.size + b.size := by
 dsimp only [g74, g74_1]
 obtain ⟨ja, x, h1, e1, H1, P1, l1⟩ := munge_ok n hn p0 a (by omega) _ _ HI.start (by simp)
 obtain ⟨jb, y, h2, e2, H2, P2, l2⟩ := munge_ok n hn p0 b (by omega) _ _ H1 (by simp; omega)
 have hla := linesAt_length a a.size 0 rfl
 have hlb := linesAt_length b b.size 0 rfl
 have P1' := P1.ext y
 have hja : ∀ j ∈ ja, j < 1110016 := fun j hj => by have := P1.lt j hj; simp at this; omega
 have hjb : ∀ j ∈ jb, j < 1110016 := fun j hj => by have := P2.lt j hj; simp at this; omega
 rw [bind_some' e1]
 simp only
 rw [bind_some' e2]
 simp only
 rw [intArray_ok n hn ja (by rw [P1.length]; omega) hja, Option.bind_some, intArray_ok n hn jb (by rw [P2.length]; omega) hjb, Option.bind_some]
 exact ⟨_, h2, ja, jb, rfl, H2, P1', P2, by simp; omega⟩
end Go.Proofs.YtmfgccjcnnlehaaDoorZF
namespace Go.Proofs.YtmfgccjcnnlehaaDoorZF
open Go
set_option linter.unusedVariables false
set_option linter.unusedSimpArgs false
def cat (xs : List ByteArray) : ByteArray := ⟨(Lib.join (xs.map (·.data.toList)) []).toArray⟩
theorem join_flat (xs : List (List UInt8)) : Lib.join xs [] = xs.flatten := by
 cases xs with
 | nil => rfl
 | cons x r =>
  rw [Lib.join_cons]
  unfold Lib.joinTail
  simp
theorem bl_cat (xs : List ByteArray) : bl (cat xs) = (xs.map bl).flatten := by
 show (Lib.join (xs.map (·.data.toList)) []) = _
 rw [join_flat]; rfl
theorem bl_cutS (z : ByteArray) (i e : Nat) : bl (cutS z (i : Int) (e : Int)) = ((bl z).drop i).take (e - i) := by
 unfold bl cutS
 rw [ByteArray.data_extract]
 simp [Array.toList_extract, List.extract_eq_take_drop]
theorem bl_lines (z : ByteArray) : ∀ (d i : Nat), z.size - i = d → i ≤ z.size → ((linesAt z i).map bl).flatten = (bl z).drop i := by
 intro d
 induction d using Nat.strongRecOn with
 | _ d ih =>
  intro i hd hi
  by_cases c : i < z.size
  ·obtain ⟨h1, h2, _⟩ := lend_spec c
   rw [linesAt_lt c, List.map_cons, List.flatten_cons, ih (z.size - lend z i) (by omega) (lend z i) rfl h2, bl_cutS]
   have : (bl z).drop (lend z i) = ((bl z).drop i).drop (lend z i - i) := by rw [List.drop_drop]; congr 1; omega
   rw [this, List.take_append_drop]
  ·rw [linesAt_end (by omega)]
   have hl := bl_length z
   rw [List.drop_eq_nil_of_le (by omega)]; rfl
theorem cat_lines (z : ByteArray) : cat (linesAt z 0) = z := by
 refine bl_inj ?_
 rw [bl_cat, bl_lines z z.size 0 rfl (by omega)]; rfl
end Go.Proofs.YtmfgccjcnnlehaaDoorZF
namespace Go.Proofs.YtmfgccjcnnlehaaDoorZF
open Go
set_option linter.unusedVariables false
set_option linter.unusedSimpArgs false
theorem fill_set {α γ : Type} (xs : List α) (f : α → γ) (e : γ) (i : Nat) (hi : i < xs.length) : ((xs.take i).map f ++ List.replicate (xs.length - i) e).set i (f xs[i]) = (xs.take (i + 1)).map f ++ List.replicate (xs.length - (i + 1)) e := by
 have hl : ((xs.take i).map f).length = i := by rw [List.length_map, List.length_take]; omega
 obtain ⟨k, hk⟩ : ∃ k, xs.length - i = k + 1 := ⟨xs.length - i - 1, by omega⟩
 rw [List.set_append_right _ _ (by omega), hl, Nat.sub_self, hk, List.replicate_succ, List.set_cons_zero, List.take_succ_eq_append_getElem hi, List.map_append, List.append_assoc, show xs.length - (i + 1) = k by omega]
 rfl
def lns (arr : List ByteArray) (js : List Nat) : List ByteArray := js.map fun j => arr.getD j (⟨#[]⟩ : ByteArray)
theorem lns_length (arr : List ByteArray) (js : List Nat) : (lns arr js).length = js.length := by simp [lns]
theorem Pts.lns {arr : List ByteArray} {js : List Nat} {L : List ByteArray} (h : Pts arr js L) : lns arr js = L := by
 have e : (Go.Proofs.YtmfgccjcnnlehaaDoorZF.lns arr js).map some = L.map some := by
  rw [← show js.map (fun j => arr[j]?) = L.map some from h]
  unfold Go.Proofs.YtmfgccjcnnlehaaDoorZF.lns
  rw [List.map_map]
  refine List.map_congr_left fun j hj => ?_
  have hlt := h.lt j hj
  show some (arr.getD j _) = arr[j]?
  rw [List.getD_eq_getElem?_getD, List.getElem?_eq_getElem hlt]; rfl
 exact (List.map_inj_right (fun a b hab => Option.some.inj hab)).1 e
theorem join_ok (n : Nat) (xs : List ByteArray) (hl : xs.length ≤ 1000000000) (hs : (cat xs).size ≤ 1000000000) : g108 n xs (⟨#[]⟩ : ByteArray) = some (cat xs, ()) := by
 unfold g108
 have h : (Lib.join (xs.map (·.data.toList)) (⟨#[]⟩ : ByteArray).data.toList).length = (cat xs).size := rfl
 rw [if_pos ⟨by omega, by rw [h]; omega⟩]
 rfl
section
variable {n : Nat}
theorem ctlIn (hB : (4611686018427387904 : Nat) ≤ n) {β : Type} (kx2) (arr : List ByteArray) (ha : arr.length ≤ 1110016) (s p x17 v18 v19) (js : List Nat) (hl : js.length ≤ 1000000) (hj : ∀ j ∈ js, j < arr.length) (M : Nat) (hM : js.length < M) :
  g76_5L (β := β) n kx2 M arr s p (List.replicate js.length (⟨#[]⟩ : ByteArray)) x17 v18 v19 (chs js) ((chs js).length : Int) 0 = kx2 arr s p (lns arr js) x17 v18 v19 := by
 have hc := chs_length js
 have key : ∀ (d i m : Nat), js.length - i = d → d < m → i ≤ js.length → g76_5L (β := β) n kx2 m arr s p ((js.take i).map (fun j => arr.getD j (⟨#[]⟩ : ByteArray)) ++ List.replicate (js.length - i) (⟨#[]⟩ : ByteArray)) x17 v18 v19 (chs js) ((chs js).length : Int) (i : Int) = kx2 arr s p (lns arr js) x17 v18 v19 := by
  intro d
  induction d with
  | zero =>
   intro i m hd hm hi
   obtain ⟨m, rfl⟩ : ∃ m', m = m' + 1 := ⟨m - 1, by omega⟩
   rw [g76_5L.eq_2, g76_4, bdF (by omega), List.take_of_length_le (by omega), hd, List.replicate_zero, List.append_nil]
   rfl
  | succ d ih =>
   intro i m hd hm hi
   obtain ⟨m, rfl⟩ : ∃ m', m = m' + 1 := ⟨m - 1, by omega⟩
   have hi' : i < js.length := by omega
   have hI : i < (chs js).length := by omega
   have hg : (chs js)[i] = (ofN js[i] : Int) := List.getElem_map _
   have hlt := hj js[i] (by simp)
   have hv := ofN_valid (v := js[i]) (by omega)
   have next := ih (i + 1) m (by omega) (by omega) (by omega)
   have hrt : g107 n (ofN js[i] : Int) = some ((js[i] : Int), ()) := by rw [runeToInt_ok n (ofN js[i]) (by omega), toN_ofN (by omega)]
   have hsz : ((js.take i).map (fun j => arr.getD j (⟨#[]⟩ : ByteArray)) ++ List.replicate (js.length - i) (⟨#[]⟩ : ByteArray)).length = js.length := by simp; omega
   rw [g76_5L.eq_2, g76_4, bdT (by omega), idx_ok (by omega) (by omega), rd_at hI, hg, bind_some' hrt]
   simp only
   rw [idx_ok (by omega) (by omega), idx_ok (by omega) (by omega), rd_at hlt, Int.toNat_natCast, w64_id (by omega) (by omega)]
   have hf : arr[js[i]] = (fun j => arr.getD j (⟨#[]⟩ : ByteArray)) js[i] := by
    show _ = arr.getD js[i] _
    rw [List.getD_eq_getElem?_getD, List.getElem?_eq_getElem hlt]; rfl
   rw [hf, fill_set js (fun j => arr.getD j (⟨#[]⟩ : ByteArray)) (⟨#[]⟩ : ByteArray) i hi', show (i : Int) + 1 = ((i + 1 : Nat) : Int) by omega]
   exact next
 exact key js.length 0 M (by omega) hM (by omega)
theorem ctl_ok (hn : Big ≤ n) (p0) (arr : List ByteArray) (ha : arr.length ≤ 1110016) (DL : List (Int × List Nat)) (hD : DL.length ≤ 1000000) (hd : ∀ d ∈ DL, d.2.length ≤ 1000000 ∧ (∀ j ∈ d.2, j < arr.length) ∧ (cat (lns arr d.2)).size ≤ 1000000000) :
  g76 n p0 (DL.map fun d => (d.1, enc (chs d.2))) arr = some (DL.map fun d => (d.1, cat (lns arr d.2)), ()) := by
 have hB : (4611686018427387904 : Nat) ≤ n := hn
 have hlm : (DL.map fun d => (d.1, enc (chs d.2))).length = DL.length := List.length_map _
 dsimp only [g76, g76_15, g76_1, g76_13, g76_12, g76_14]
 rw [bnd_ok (by omega) (by omega) (by omega), roomI_ok (by omega)]
 have e := range_fold DL (fun m s i => g76_12L n (fun x6 => some (x6, ())) m arr s (DL.map fun d => (d.1, enc (chs d.2))) ((DL.map fun d => (d.1, enc (chs d.2))).length : Int) (i : Int)) (fun s => some (s, ())) (fun s d => s ++ [(d.1, cat (lns arr d.2))]) (fun i s => s.length = i)
  (fun m s i hi hs => by
   refine ⟨?_, by simp [hs]⟩
   have hI : i < (DL.map fun d => (d.1, enc (chs d.2))).length := by omega
   have hg : (DL.map fun d => (d.1, enc (chs d.2)))[i] = (DL[i].1, enc (chs DL[i].2)) := List.getElem_map _
   obtain ⟨h1, h2, h3⟩ := hd DL[i] (by simp)
   have hc := chs_length DL[i].2
   have hv : Valids (chs DL[i].2) := chs_valid fun j hj => by have := h2 j hj; omega
   have hsz := enc_size_le (chs DL[i].2)
   rw [g76_12L.eq_2, g76_11, g76_2, bdT (by omega)]
   dsimp only [g76_9, g76_8, g76_3, g76_10, g76_6, g76_5]
   rw [idx_ok (by omega) (by omega)]
   simp only [rd_zero, rd_at hI, hg]
   rw [runes_enc hv, room46_ok (by omega), bnd_ok (by omega) (by omega) (by omega), roomI_ok (by omega), Int.toNat_natCast, hc, ← hc]
   rw [show List.replicate (chs DL[i].2).length (⟨#[]⟩ : ByteArray) = List.replicate DL[i].2.length (⟨#[]⟩ : ByteArray) by rw [hc]]
   rw [ctlIn hB _ arr ha _ _ _ _ _ DL[i].2 h1 h2 n (by omega)]
   dsimp only [g76_7]
   rw [join_ok n (lns arr DL[i].2) (by rw [lns_length]; omega) h3, Option.bind_some, roomy_ok (by simp only [List.length_cons, List.length_nil]; omega), w64_id (by omega) (by omega)]
   rfl)
  (fun m s hs => by rw [g76_12L.eq_2, g76_11, g76_2, bdF (by omega)]) n [] (by omega) rfl
 refine Eq.trans e ?_
 have hf : ∀ (l : List (Int × List Nat)) (s : List Prt), l.foldl (fun s d => s ++ [(d.1, cat (lns arr d.2))]) s = s ++ l.map fun d => (d.1, cat (lns arr d.2)) := by
  intro l
  induction l with
  | nil => intro s; simp
  | cons x l ih => intro s; rw [List.foldl_cons, ih]; simp
 rw [hf]; rfl
end
end Go.Proofs.YtmfgccjcnnlehaaDoorZF
