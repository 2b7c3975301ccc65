/- Plain statements about the printed functions. -/
import Derived.Test.YtopcfcpbcilfaaaGreatDoorYFB
import Derived.Test.YtopcfcpbcilfaaaGreatDoorYGA0
namespace Go.Proofs.YtopcfcpbcilfaaaGreatDoorYF
open Go
set_option linter.unusedVariables false
set_option linter.unusedSimpArgs false
def Big : Nat := 4611686018427387904
section
variable {β : Type}
theorem w64_id {n : Int} (h0 : -9223372036854775808 ≤ n) (h1 : n < 9223372036854775808) : w64 n = n := by
 unfold w64 IntKind.wrap; simp [IntKind.bits, IntKind.signed]; omega
theorem wu8_id {n : Int} (h0 : 0 ≤ n) (h1 : n < 256) : IntKind.u8.wrap n = n := by
 unfold IntKind.wrap; simp [IntKind.bits, IntKind.signed]; omega
theorem wi32_id {n : Int} (h0 : -2147483648 ≤ n) (h1 : n < 2147483648) : IntKind.i32.wrap n = n := by
 unfold IntKind.wrap; simp [IntKind.bits, IntKind.signed]; omega
theorem wi8_id {n : Int} (h0 : -128 ≤ n) (h1 : n < 128) : IntKind.i8.wrap n = n := by
 unfold IntKind.wrap; simp [IntKind.bits, IntKind.signed]; omega
theorem wu32_id {n : Int} (h0 : 0 ≤ n) (h1 : n < 4294967296) : IntKind.u32.wrap n = n := by
 unfold IntKind.wrap; simp [IntKind.bits, IntKind.signed]; omega
theorem wi64_id {n : Int} (h0 : -9223372036854775808 ≤ n) (h1 : n < 9223372036854775808) : IntKind.i64.wrap n = n := w64_id h0 h1
theorem idx_ok {i n : Int} {κ : Option β} (h0 : 0 ≤ i) (h1 : i < n) : idx i n κ = κ := by simp [idx, h0, h1]
theorem bnd_ok {a b n : Int} {κ : Option β} (h0 : 0 ≤ a) (h1 : a ≤ b) (h2 : b ≤ n) : bnd a b n κ = κ := by simp [bnd, h0, h1, h2]
theorem roomy_ok {n : Nat} {κ : Option β} (h : n ≤ 1099511627776) : roomy n κ = κ := by simp [roomy, h]
theorem roomI_ok {n : Int} {κ : Option β} (h : n ≤ 1099511627776) : roomI n κ = κ := by simp [roomI, h]
theorem room46_ok {z : ByteArray} {κ : Option β} (h : z.size ≤ 70368744177664) : room46 z κ = κ := by
 have : Nat.ble z.size 70368744177664 = true := by rw [Nat.ble_eq]; exact h
 simp [room46, this]
theorem nz_ok {b : Int} {κ : Option β} (h : b ≠ 0) : nz b κ = κ := by simp [nz, h]
theorem nneg_ok {b : Int} {κ : Option β} (h : 0 ≤ b) : nneg b κ = κ := by
 have : ¬ b < 0 := by omega
 simp [nneg, this]
theorem biT {γ : Type} {c : Bool} {x y : γ} (h : c = true) : (bif c then x else y) = x := by rw [h]; rfl
theorem biF {γ : Type} {c : Bool} {x y : γ} (h : c = false) : (bif c then x else y) = y := by rw [h]; rfl
theorem bdT {γ : Type} {p : Prop} [Decidable p] {x y : γ} (h : p) : (bif decide p then x else y) = x := by rw [decide_eq_true h]; rfl
theorem bdF {γ : Type} {p : Prop} [Decidable p] {x y : γ} (h : ¬ p) : (bif decide p then x else y) = y := by rw [decide_eq_false h]; rfl
theorem bind_some' {γ δ : Type} {o : Option γ} {a : γ} {f : γ → Option δ} (h : o = some a) : o.bind f = f a := by rw [h]; rfl
end
theorem rd_lt {α : Type} {xs : List α} {i : Int} {d : α} (h0 : 0 ≤ i) (h1 : i < xs.length) : rd xs i d = xs[i.toNat]'(by omega) := by
 unfold rd; rw [List.getD_eq_getElem?_getD, List.getElem?_eq_getElem (by omega)]; rfl
theorem rd_nat {α : Type} {xs : List α} {n : Nat} {d : α} : rd xs (n : Int) d = xs.getD n d := by simp [rd]
theorem cut_nat {α : Type} (xs : List α) (a b : Nat) : cut xs (a : Int) (b : Int) = (xs.drop a).take (b - a) := by simp [cut]
theorem cut_to {α : Type} (xs : List α) (a b : Int) (h : (xs.length : Int) ≤ b) : cut xs a b = xs.drop a.toNat := by
 unfold cut; rw [List.take_of_length_le]; rw [List.length_drop]; omega
theorem cut_from {α : Type} (xs : List α) (b : Int) : cut xs 0 b = xs.take b.toNat := by simp [cut]
theorem ba_ext {x y : ByteArray} (h : x.data.toList = y.data.toList) : x = y := by
 obtain ⟨⟨x⟩⟩ := x; obtain ⟨⟨y⟩⟩ := y; simp only at h; rw [h]
theorem bytesOf_length (z : ByteArray) : (bytesOf z).length = z.size := by unfold bytesOf; rw [List.length_map]; rfl
theorem bytesOf_inj {x y : ByteArray} (h : bytesOf x = bytesOf y) : x = y := by
 refine ba_ext ?_
 unfold bytesOf at h
 exact (List.map_inj_right (fun a b hab => UInt8.toNat_inj.1 (by exact_mod_cast hab))).1 h
theorem strEq_eq (x y : ByteArray) : strEq x y = decide (x = y) := by
 unfold strEq
 have e : ∀ z : ByteArray, z.toList = z.data.toList := fun z => by
  have key : ∀ (l : List UInt8) (k : Nat) (acc : List UInt8), (k ≤ l.length) → ByteArray.toList.loop ⟨⟨l⟩⟩ k acc = acc.reverse ++ l.drop k := by
   intro l k acc hk
   induction hj : l.length - k generalizing k acc with
   | zero =>
    unfold ByteArray.toList.loop
    have : ¬ k < (ByteArray.mk ⟨l⟩).size := by show ¬ k < l.length; omega
    rw [if_neg this, List.drop_eq_nil_of_le (by omega)]; simp
   | succ j ih =>
    unfold ByteArray.toList.loop
    have h1 : k < l.length := by omega
    have : k < (ByteArray.mk ⟨l⟩).size := h1
    rw [if_pos this, ih (k + 1) _ (by omega) (by omega)]
    have hg : (ByteArray.mk ⟨l⟩).get! k = l[k] := by
     show (Array.mk l)[k]! = l[k]
     rw [getElem!_pos (Array.mk l) k (by simpa using h1)]; simp
    rw [hg, List.drop_eq_getElem_cons h1]; simp
  obtain ⟨⟨l⟩⟩ := z
  unfold ByteArray.toList
  rw [key l 0 [] (Nat.zero_le _)]; simp
 rw [e, e]
 by_cases h : x = y
 ·subst h; simp
 ·simp only [h, decide_false]
  exact beq_false_of_ne (fun h' => h (ba_ext h'))
theorem bytesOf_append (x y : ByteArray) : bytesOf (x ++ y) = bytesOf x ++ bytesOf y := by
 unfold bytesOf; rw [ByteArray.data_append, Array.toList_append, List.map_append]
theorem size_append (x y : ByteArray) : (x ++ y).size = x.size + y.size := by rw [← bytesOf_length, bytesOf_append]; simp [bytesOf_length]
theorem bytesOf_cutS (z : ByteArray) (a b : Int) : bytesOf (cutS z a b) = cut (bytesOf z) a b := by
 unfold bytesOf cutS cut
 rw [ByteArray.data_extract, ← List.map_drop, ← List.map_take]
 congr 1
 simp [Array.toList_extract, List.extract_eq_take_drop]
theorem byteAt_rd {z : ByteArray} {i : Int} (h0 : 0 ≤ i) (h1 : i < z.size) : byteAt z i = rd (bytesOf z) i 0 := by
 have hl := bytesOf_length z
 rw [rd_lt h0 (by omega)]
 unfold byteAt bytesOf
 rw [List.getElem_map]
 congr 2
 show z.data[i.toNat]! = _
 rw [getElem!_pos z.data i.toNat (by show i.toNat < z.size; omega)]
 simp
theorem bytesOf_range {z : ByteArray} : ∀ b ∈ bytesOf z, 0 ≤ b ∧ b < 256 := by
 intro b hb
 unfold bytesOf at hb
 obtain ⟨u, _, rfl⟩ := List.mem_map.1 hb
 have := u.toNat_lt
 omega
theorem strOfNums_bytesOf (z : ByteArray) : strOfNums (bytesOf z) = z := by
 refine ba_ext ?_
 rw [strOfNums_data]; unfold bytesOf
 rw [List.map_map]
 refine (List.map_congr_left (fun u _ => ?_)).trans (List.map_id _)
 simp
theorem bytesOf_strOfNums {xs : List Int} (h : ∀ b ∈ xs, 0 ≤ b ∧ b < 256) : bytesOf (strOfNums xs) = xs := by
 unfold bytesOf
 rw [strOfNums_data, List.map_map]
 refine (List.map_congr_left (fun u hu => ?_)).trans (List.map_id _)
 have := h u hu
 simp [UInt8.toNat_ofNat']
 omega
theorem bytesOf_empty : bytesOf (⟨#[]⟩ : ByteArray) = [] := rfl
theorem size_lit (l : List UInt8) : (⟨⟨l⟩⟩ : ByteArray).size = l.length := rfl
theorem size_cutS {z : ByteArray} {a b : Int} (h0 : 0 ≤ a) (h1 : a ≤ b) (h2 : b ≤ z.size) : (cutS z a b).size = (b - a).toNat := by
 have hl := bytesOf_length z
 rw [← bytesOf_length, bytesOf_cutS, length_cut _ _ _ h1 (by omega)]; omega
theorem rd_cut {α : Type} {xs : List α} {a b i : Int} {d : α} (h0 : 0 ≤ a) (h1 : 0 ≤ i) (h2 : i < b - a) (h3 : b ≤ xs.length) : rd (cut xs a b) i d = rd xs (a + i) d := by
 unfold rd cut
 rw [List.getD_eq_getElem?_getD, List.getD_eq_getElem?_getD, List.getElem?_take, if_pos (by omega), List.getElem?_drop]
 congr 2; omega
theorem byteAt_cutS {z : ByteArray} {a b i : Int} (h0 : 0 ≤ a) (h1 : 0 ≤ i) (h2 : i < b - a) (h3 : b ≤ z.size) : byteAt (cutS z a b) i = byteAt z (a + i) := by
 have hl := bytesOf_length z
 have hs := size_cutS (z := z) h0 (show a ≤ b by omega) h3
 rw [byteAt_rd h1 (by omega), byteAt_rd (by omega) (by omega), bytesOf_cutS, rd_cut h0 h1 h2 (by omega)]
end Go.Proofs.YtopcfcpbcilfaaaGreatDoorYF
namespace Go.Proofs.YtopcfcpbcilfaaaGreatDoorYF
open Go
set_option linter.unusedVariables false
set_option linter.unusedSimpArgs false
theorem range_fold {α σ β : Type} (xs : List α) (F : Nat → σ → Nat → Option β) (k : σ → Option β) (step : σ → α → σ) (Inv : Nat → σ → Prop)
  (h1 : ∀ m s i (hi : i < xs.length), Inv i s → F (m + 1) s i = F m (step s xs[i]) (i + 1) ∧ Inv (i + 1) (step s xs[i]))
  (h2 : ∀ m s, Inv xs.length s → F (m + 1) s xs.length = k s) : ∀ m s, xs.length < m → Inv 0 s → F m s 0 = k (xs.foldl step s) := by
 have key : ∀ (d i m : Nat) (s : σ), xs.length - i = d → i ≤ xs.length → d < m → Inv i s → F m s i = k ((xs.drop i).foldl step s) := by
  intro d
  induction d with
  | zero =>
   intro i m s hd hi hm hs
   obtain ⟨m', rfl⟩ : ∃ m', m = m' + 1 := ⟨m - 1, by omega⟩
   obtain rfl : i = xs.length := by omega
   rw [h2 m' s hs, List.drop_length]; rfl
  | succ d ih =>
   intro i m s hd hi hm hs
   obtain ⟨m', rfl⟩ : ∃ m', m = m' + 1 := ⟨m - 1, by omega⟩
   have hl : i < xs.length := by omega
   obtain ⟨e, hs'⟩ := h1 m' s i hl hs
   rw [e, ih (i + 1) m' _ (by omega) (by omega) (by omega) hs', List.drop_eq_getElem_cons hl]; rfl
 intro m s hm hs
 have := key xs.length 0 m s (by omega) (Nat.zero_le _) hm hs
 simpa using this
theorem range_find {α β : Type} (xs : List α) (F : Nat → Nat → Option β) (kf : (i : Nat) → i < xs.length → Option β) (k : Option β) (p : Nat → α → Bool)
  (h1 : ∀ m i (hi : i < xs.length), (∀ j (hj : j < i), p j (xs[j]'(by omega)) = false) → F (m + 1) i = if p i xs[i] = true then kf i hi else F m (i + 1))
  (h2 : ∀ m, (∀ j (hj : j < xs.length), p j xs[j] = false) → F (m + 1) xs.length = k) : ∀ m, xs.length < m → (∃ i hi, p i (xs[i]'hi) = true ∧ (∀ j (hj : j < i), p j (xs[j]'(by omega)) = false) ∧ F m 0 = kf i hi) ∨ ((∀ j (hj : j < xs.length), p j xs[j] = false) ∧ F m 0 = k) := by
 have key : ∀ (d i m : Nat), xs.length - i = d → (hi : i ≤ xs.length) → d < m → (∀ j (hj : j < i), p j (xs[j]'(by omega)) = false) →
   (∃ i' hi', p i' (xs[i']'hi') = true ∧ (∀ j (hj : j < i'), p j (xs[j]'(by omega)) = false) ∧ F m i = kf i' hi') ∨ ((∀ j (hj : j < xs.length), p j xs[j] = false) ∧ F m i = k) := by
  intro d
  induction d with
  | zero =>
   intro i m hd hi hm hp
   obtain ⟨m', rfl⟩ : ∃ m', m = m' + 1 := ⟨m - 1, by omega⟩
   obtain rfl : i = xs.length := by omega
   exact .inr ⟨hp, h2 m' hp⟩
  | succ d ih =>
   intro i m hd hi hm hp
   obtain ⟨m', rfl⟩ : ∃ m', m = m' + 1 := ⟨m - 1, by omega⟩
   have hl : i < xs.length := by omega
   have e := h1 m' i hl hp
   cases hpi : p i xs[i] with
   | true => rw [hpi, if_pos rfl] at e; exact .inl ⟨i, hl, hpi, hp, e⟩
   | false =>
    rw [hpi, if_neg (by simp)] at e
    rw [e]
    refine ih (i + 1) m' (by omega) (by omega) (by omega) (fun j hj => ?_)
    by_cases hji : j = i
    ·subst hji; exact hpi
    ·exact hp j (by omega)
 intro m hm
 exact key xs.length 0 m (by omega) (Nat.zero_le _) hm (fun j hj => by omega)
theorem rd_at {α : Type} {xs : List α} {i : Nat} {d : α} (h : i < xs.length) : rd xs (i : Int) d = xs[i] := by
 rw [rd_nat, List.getD_eq_getElem?_getD, List.getElem?_eq_getElem h]; rfl
theorem rd_zero {α : Type} {x d : α} {i : Int} (h : i = 0) : rd [x] i d = x := by subst h; rfl
end Go.Proofs.YtopcfcpbcilfaaaGreatDoorYF
namespace Go.Proofs.YtopcfcpbcilfaaaGreatDoorYF
open Go
set_option linter.unusedVariables false
set_option linter.unusedSimpArgs false
theorem within_ex' (n : Nat) (a b c d : Int) : ∃ x, g62 n a b c d = some (x, ()) := by
 dsimp only [g62, g62_1]
 by_cases h1 : a < b
 ·rw [bdT h1]; exact ⟨_, rfl⟩
 ·rw [bdF h1]
  by_cases h2 : a > c
  ·rw [bdT h2]; exact ⟨_, rfl⟩
  ·rw [bdF h2]; exact ⟨_, rfl⟩
theorem part_ex' (n : Nat) (a : Nat) : ∃ x, g63 n a = some (x, ()) := by
 dsimp only [g63, g63_1]
 generalize (fGt .f64 a (0 : Nat) || fEq .f64 a (0 : Nat)) = c1
 generalize (fLt .f64 a (4607182418800017408 : Nat) || fEq .f64 a (4607182418800017408 : Nat)) = c2
 cases c1 <;> cases c2 <;> exact ⟨_, rfl⟩
theorem dmp_any (n : Nat) (s) : ∃ p, g42 n s = some (p, ()) := by
 dsimp only [g42, g42_1]
 obtain ⟨x1, h1⟩ := within_ex' n s.2.1 0 1000 4
 obtain ⟨x2, h2⟩ := within_ex' n s.2.2.1 0 1048576 1000
 obtain ⟨x3, h3⟩ := part_ex' n s.2.2.2.1
 obtain ⟨x4, h4⟩ := part_ex' n s.2.2.2.2.1
 obtain ⟨x5, h5⟩ := within_ex' n s.2.2.2.2.2.1 1 8 4
 obtain ⟨x6, h6⟩ := within_ex' n s.2.2.2.2.2.2 32 62 32
 rw [bind_some' h1, bind_some' h2, bind_some' h3, bind_some' h4, bind_some' h5, bind_some' h6]
 cases s.1 <;> exact ⟨_, rfl⟩
theorem usable_ex (n : Nat) (s) : ∃ b, g17 n s = some (b, ()) := by
 dsimp only [g17, g17_1]
 generalize (fGt .f64 s.2.2.2.1 (0 : Nat) || fEq .f64 s.2.2.2.1 (0 : Nat)) = c1
 generalize (fLt .f64 s.2.2.2.1 (4607182418800017408 : Nat) || fEq .f64 s.2.2.2.1 (4607182418800017408 : Nat)) = c2
 generalize (fGt .f64 s.2.2.2.2.1 (0 : Nat) || fEq .f64 s.2.2.2.2.1 (0 : Nat)) = c3
 generalize (fLt .f64 s.2.2.2.2.1 (4607182418800017408 : Nat) || fEq .f64 s.2.2.2.2.1 (4607182418800017408 : Nat)) = c4
 generalize decide (s.2.1 ≥ (0 : Int)) = d1
 generalize decide (s.2.1 ≤ (1000 : Int)) = d2
 generalize decide (s.2.2.1 ≥ (0 : Int)) = d3
 generalize decide (s.2.2.1 ≤ (1048576 : Int)) = d4
 generalize decide (s.2.2.2.2.2.1 ≥ (1 : Int)) = d5
 generalize decide (s.2.2.2.2.2.1 ≤ (8 : Int)) = d6
 generalize decide (s.2.2.2.2.2.2 ≥ (32 : Int)) = d7
 cases d1
 ·exact ⟨_, rfl⟩
 cases d2
 ·exact ⟨_, rfl⟩
 cases d3
 ·exact ⟨_, rfl⟩
 cases d4
 ·exact ⟨_, rfl⟩
 cases c1
 ·exact ⟨_, rfl⟩
 cases c2
 ·exact ⟨_, rfl⟩
 cases c3
 ·exact ⟨_, rfl⟩
 cases c4
 ·exact ⟨_, rfl⟩
 cases d5
 ·exact ⟨_, rfl⟩
 cases d6
 ·exact ⟨_, rfl⟩
 cases d7
 ·exact ⟨_, rfl⟩
 exact ⟨_, rfl⟩
end Go.Proofs.YtopcfcpbcilfaaaGreatDoorYF
