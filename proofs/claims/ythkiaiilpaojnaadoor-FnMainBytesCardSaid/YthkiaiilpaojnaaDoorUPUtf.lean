/- UTF-8: what was written is read back, character by character. -/
import Derived.Test.YthkiaiilpaojnaaDoorUPB
import Derived.Test.YthkiaiilpaojnaaDoorUFB
namespace Go.Proofs.YthkiaiilpaojnaaDoorUF
open Go Go.RowKit
set_option linter.unusedVariables false
set_option linter.unusedSimpArgs false
theorem runesBytes_nil : runesBytes [] = ByteArray.empty := rfl
theorem get_mid (s e u : ByteArray) (k : Nat) (h : k < e.size) : (s ++ e ++ u).get! (s.size + k) = e.get! k := by
  have l1 : s.data.size + k < s.data.size + e.data.size + u.data.size := by have : e.size = e.data.size := rfl; omega
  have l2 : k < e.data.size := h
  show (s ++ e ++ u).data[s.data.size + k]! = e.data[k]!
  simp only [ByteArray.data_append]
  rw [getElem!_pos (s.data ++ e.data ++ u.data) _ (by simp; omega), getElem!_pos e.data k l2, Array.getElem_append_left (by simp; omega), Array.getElem_append_right (by omega)]
  congr 1; omega
theorem b8 (n : Nat) (h : n < 256) : (UInt8.ofNat n).toNat = n := by rw [UInt8.toNat_ofNat']; omega
theorem dec_one (s : ByteArray) (i a : Nat) (h0 : (s.get! i).toNat = a) (ha : a < 128) : Utf8.decode s i = (a, 1) := by
  simp [Utf8.decode, h0, ha]
theorem dec_two (s : ByteArray) (i a b : Nat) (h0 : (s.get! i).toNat = 192 + a) (h1 : (s.get! (i + 1)).toNat = 128 + b) (hs : i + 1 < s.size) (ha : a < 32) (hb : b < 64) (hc : 128 ≤ a * 64 + b) : Utf8.decode s i = (a * 64 + b, 2) := by
  have e1 : (192 + a) / 32 = 6 := by omega
  have e2 : (192 + a) % 32 = a := by omega
  have e3 : (128 + b) / 64 = 2 := by omega
  have e4 : (128 + b) % 64 = b := by omega
  have n1 : ¬ (192 + a < 128) := by omega
  simp [Utf8.decode, h0, h1, e1, e2, e3, e4, hs, n1, hc]
theorem dec_three (s : ByteArray) (i a b c : Nat) (h0 : (s.get! i).toNat = 224 + a) (h1 : (s.get! (i + 1)).toNat = 128 + b) (h2 : (s.get! (i + 2)).toNat = 128 + c) (hs : i + 2 < s.size) (ha : a < 16) (hb : b < 64) (hc : c < 64) (hv : 2048 ≤ a * 4096 + b * 64 + c) (hw : Utf8.valid ((a * 4096 + b * 64 + c : Nat) : Int) = true) : Utf8.decode s i = (a * 4096 + b * 64 + c, 3) := by
  have e0 : (224 + a) / 32 = 7 := by omega
  have e1 : (224 + a) / 16 = 14 := by omega
  have e2 : (224 + a) % 16 = a := by omega
  have e3 : (128 + b) / 64 = 2 := by omega
  have e4 : (128 + b) % 64 = b := by omega
  have e5 : (128 + c) / 64 = 2 := by omega
  have e6 : (128 + c) % 64 = c := by omega
  have n1 : ¬ (224 + a < 128) := by omega
  have s1 : i + 1 < s.size := by omega
  simp [Utf8.decode, h0, h1, h2, e0, e1, e2, e3, e4, e5, e6, hs, s1, n1, hv]
  simpa using hw
theorem dec_four (s : ByteArray) (i a b c d : Nat) (h0 : (s.get! i).toNat = 240 + a) (h1 : (s.get! (i + 1)).toNat = 128 + b) (h2 : (s.get! (i + 2)).toNat = 128 + c) (h3 : (s.get! (i + 3)).toNat = 128 + d) (hs : i + 3 < s.size) (ha : a < 8) (hb : b < 64) (hc : c < 64) (hd : d < 64) (hv : 65536 ≤ a * 262144 + b * 4096 + c * 64 + d) (hw : Utf8.valid ((a * 262144 + b * 4096 + c * 64 + d : Nat) : Int) = true) : Utf8.decode s i = (a * 262144 + b * 4096 + c * 64 + d, 4) := by
  have e0 : (240 + a) / 32 = 7 := by omega
  have e1 : (240 + a) / 16 = 15 := by omega
  have e1' : (240 + a) / 8 = 30 := by omega
  have e2 : (240 + a) % 8 = a := by omega
  have e3 : (128 + b) / 64 = 2 := by omega
  have e4 : (128 + b) % 64 = b := by omega
  have e5 : (128 + c) / 64 = 2 := by omega
  have e6 : (128 + c) % 64 = c := by omega
  have e7 : (128 + d) / 64 = 2 := by omega
  have e8 : (128 + d) % 64 = d := by omega
  have n1 : ¬ (240 + a < 128) := by omega
  have s1 : i + 1 < s.size := by omega
  have s2 : i + 2 < s.size := by omega
  simp [Utf8.decode, h0, h1, h2, h3, e0, e1, e1', e2, e3, e4, e5, e6, e7, e8, hs, s1, s2, n1, hv]
  simpa using hw
theorem decode_encode (s u : ByteArray) (r : Int) (hv : Utf8.valid r = true) : Utf8.decode (s ++ Utf8.encode r ++ u) s.size = (r.toNat, (Utf8.encode r).size) := by
  have hr : 0 ≤ r ∧ r ≤ 1114111 := by simp [Utf8.valid] at hv; omega
  have sz : ∀ e : ByteArray, (s ++ e ++ u).size = s.size + e.size + u.size := by intro e; simp [ByteArray.size_append]
  have g : ∀ (e : ByteArray) (k : Nat), k < e.size → ∀ i, i = s.size + k → (s ++ e ++ u).get! i = e.get! k := by intro e k h i hi; rw [hi]; exact get_mid s e u k h
  by_cases h1 : r.toNat < 128
  · have e : Utf8.encode r = ⟨#[UInt8.ofNat r.toNat]⟩ := by simp [Utf8.encode, hv, h1]
    rw [e]
    refine dec_one _ _ _ ?_ h1
    refine (congrArg UInt8.toNat (g ⟨#[_]⟩ 0 (show 0 < 1 by decide) _ rfl)).trans ?_
    exact b8 _ (by omega)
  by_cases h2 : r.toNat < 2048
  · have e : Utf8.encode r = ⟨#[UInt8.ofNat (192 + r.toNat / 64), UInt8.ofNat (128 + r.toNat % 64)]⟩ := by simp [Utf8.encode, hv, h1, h2]
    rw [e]
    refine (dec_two _ _ (r.toNat / 64) (r.toNat % 64) ?_ ?_ ?_ (by omega) (by omega) (by omega)).trans ?_
    · exact (congrArg UInt8.toNat (g ⟨#[_, _]⟩ 0 (show 0 < 2 by decide) _ rfl)).trans (b8 _ (by omega))
    · exact (congrArg UInt8.toNat (g ⟨#[_, _]⟩ 1 (show 1 < 2 by decide) _ rfl)).trans (b8 _ (by omega))
    · rw [sz]; show s.size + 1 < s.size + 2 + u.size; omega
    · congr 1; omega
  by_cases h3 : r.toNat < 65536
  · have e : Utf8.encode r = ⟨#[UInt8.ofNat (224 + r.toNat / 4096), UInt8.ofNat (128 + r.toNat / 64 % 64), UInt8.ofNat (128 + r.toNat % 64)]⟩ := by simp [Utf8.encode, hv, h1, h2, h3]
    have q : r.toNat / 4096 * 4096 + r.toNat / 64 % 64 * 64 + r.toNat % 64 = r.toNat := by omega
    rw [e]
    refine (dec_three _ _ (r.toNat / 4096) (r.toNat / 64 % 64) (r.toNat % 64) ?_ ?_ ?_ ?_ (by omega) (by omega) (by omega) (by omega) ?_).trans ?_
    · exact (congrArg UInt8.toNat (g ⟨#[_, _, _]⟩ 0 (show 0 < 3 by decide) _ rfl)).trans (b8 _ (by omega))
    · exact (congrArg UInt8.toNat (g ⟨#[_, _, _]⟩ 1 (show 1 < 3 by decide) _ rfl)).trans (b8 _ (by omega))
    · exact (congrArg UInt8.toNat (g ⟨#[_, _, _]⟩ 2 (show 2 < 3 by decide) _ rfl)).trans (b8 _ (by omega))
    · rw [sz]; show s.size + 2 < s.size + 3 + u.size; omega
    · rw [q, Int.toNat_of_nonneg hr.1]; exact hv
    · rw [q]; rfl
  · have e : Utf8.encode r = ⟨#[UInt8.ofNat (240 + r.toNat / 262144), UInt8.ofNat (128 + r.toNat / 4096 % 64), UInt8.ofNat (128 + r.toNat / 64 % 64), UInt8.ofNat (128 + r.toNat % 64)]⟩ := by simp [Utf8.encode, hv, h1, h2, h3]
    have q : r.toNat / 262144 * 262144 + r.toNat / 4096 % 64 * 4096 + r.toNat / 64 % 64 * 64 + r.toNat % 64 = r.toNat := by omega
    rw [e]
    refine (dec_four _ _ (r.toNat / 262144) (r.toNat / 4096 % 64) (r.toNat / 64 % 64) (r.toNat % 64) ?_ ?_ ?_ ?_ ?_ (by omega) (by omega) (by omega) (by omega) (by omega) ?_).trans ?_
    · exact (congrArg UInt8.toNat (g ⟨#[_, _, _, _]⟩ 0 (show 0 < 4 by decide) _ rfl)).trans (b8 _ (by omega))
    · exact (congrArg UInt8.toNat (g ⟨#[_, _, _, _]⟩ 1 (show 1 < 4 by decide) _ rfl)).trans (b8 _ (by omega))
    · exact (congrArg UInt8.toNat (g ⟨#[_, _, _, _]⟩ 2 (show 2 < 4 by decide) _ rfl)).trans (b8 _ (by omega))
    · exact (congrArg UInt8.toNat (g ⟨#[_, _, _, _]⟩ 3 (show 3 < 4 by decide) _ rfl)).trans (b8 _ (by omega))
    · rw [sz]; show s.size + 3 < s.size + 4 + u.size; omega
    · rw [q, Int.toNat_of_nonneg hr.1]; exact hv
    · rw [q]; rfl
theorem encode_pos (r : Int) : 1 ≤ (Utf8.encode r).size := by
  unfold Utf8.encode
  simp only
  repeat' split
  all_goals simp [ByteArray.size]
theorem foldl_enc (ns : List Int) : ∀ s : ByteArray, ns.foldl (fun r n => r ++ Utf8.encode n) s = s ++ runesBytes ns := by
  induction ns with
  | nil => intro s; simp [runesBytes]
  | cons n ns ih =>
    intro s
    unfold runesBytes
    simp only [List.foldl_cons]
    rw [ih, ih (ByteArray.empty ++ _)]
    simp [ByteArray.append_assoc]
theorem runesBytes_cons (n : Int) (ns : List Int) : runesBytes (n :: ns) = Utf8.encode n ++ runesBytes ns := by
  conv => lhs; unfold runesBytes
  rw [List.foldl_cons, foldl_enc]; simp
theorem runesBytes_append (x y : List Int) : runesBytes (x ++ y) = runesBytes x ++ runesBytes y := by
  conv => lhs; unfold runesBytes
  rw [List.foldl_append, foldl_enc]; rfl
def Valids (xs : List Int) : Prop := ∀ x ∈ xs, Utf8.valid x = true
theorem runesAt_back : ∀ (xs : List Int) (s : ByteArray) (b : Nat), Valids xs → (runesBytes xs).size ≤ b → runesAt (s ++ runesBytes xs) b s.size = xs
  | [], s, b, _, _ => by
    cases b with
    | zero => rfl
    | succ b => unfold runesAt; rw [if_neg]; simp [runesBytes]
  | x :: xs, s, b, hv, hb => by
    have hp := encode_pos x
    rw [runesBytes_cons] at hb ⊢
    rw [ByteArray.size_append] at hb
    obtain ⟨b, rfl⟩ : ∃ b', b = b' + 1 := ⟨b - 1, by omega⟩
    have hx : Utf8.valid x = true := hv x (by simp)
    have hr : 0 ≤ x := by simp [Utf8.valid] at hx; omega
    unfold runesAt
    rw [if_pos (by simp [ByteArray.size_append]; omega), ← ByteArray.append_assoc, decode_encode s (runesBytes xs) x hx]
    have e : s.size + (Utf8.encode x).size = (s ++ Utf8.encode x).size := by rw [ByteArray.size_append]
    show ((x.toNat : Nat) : Int) :: runesAt _ b (s.size + (Utf8.encode x).size) = _
    rw [e, runesAt_back xs (s ++ Utf8.encode x) b (fun y hy => hv y (by simp [hy])) (by omega)]
    rw [Int.toNat_of_nonneg hr]
theorem runes_back (xs : List Int) (h : Valids xs) : runesOf (runesBytes xs) = xs := by
  have := runesAt_back xs ByteArray.empty (runesBytes xs).size h (Nat.le_refl _)
  simpa [runesOf] using this
theorem runesBytes_inj {x y : List Int} (hx : Valids x) (hy : Valids y) (h : runesBytes x = runesBytes y) : x = y := by
  rw [← runes_back x hx, ← runes_back y hy, h]
theorem decode_valid (s : ByteArray) (i : Nat) : Utf8.valid ((Utf8.decode s i).1 : Int) = true := by
  unfold Utf8.decode
  simp only [Nat.add_zero]
  split
  · rename_i h; simp [Utf8.valid]; omega
  split
  · split
    · rename_i h1 h2; simp only [Utf8.valid]; simp; omega
    · decide
  split
  · split
    · rename_i h1 h2; simp at h2; exact h2.2
    · decide
  split
  · split
    · rename_i h1 h2; simp at h2; exact h2.2
    · decide
  · decide
theorem runesAt_valid (s : ByteArray) : ∀ b i, Valids (runesAt s b i)
  | 0, _ => by intro x hx; simp [runesAt] at hx
  | b + 1, i => by
    intro x hx
    unfold runesAt at hx
    split at hx
    · rcases List.mem_cons.1 hx with rfl | hx
      · exact decode_valid s i
      · exact runesAt_valid s b _ x hx
    · simp at hx
theorem runesOf_valid (s : ByteArray) : Valids (runesOf s) := runesAt_valid s _ _
theorem Valids.take {x : List Int} (h : Valids x) (n : Nat) : Valids (x.take n) := fun y hy => h y (List.mem_of_mem_take hy)
theorem Valids.drop {x : List Int} (h : Valids x) (n : Nat) : Valids (x.drop n) := fun y hy => h y (List.mem_of_mem_drop hy)
theorem Valids.append {x y : List Int} (h : Valids x) (k : Valids y) : Valids (x ++ y) := fun z hz => (List.mem_append.1 hz).elim (h z) (k z)
end Go.Proofs.YthkiaiilpaojnaaDoorUF
