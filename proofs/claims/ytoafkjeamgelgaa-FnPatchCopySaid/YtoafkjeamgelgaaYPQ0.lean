/- Plain statements about the printed functions. -/
import Derived.Test.YtoafkjeamgelgaaYFB
import Derived.Test.YtoafkjeamgelgaaYGA0
import Derived.Test.YtoafkjeamgelgaaYGA1
namespace Go.Proofs.YtoafkjeamgelgaaYF
open Go
set_option linter.unusedVariables false
set_option linter.unusedSimpArgs false
def Big : Nat := 4611686018427387904
section
variable {β : Type}
theorem w64_id {n : Int} (h0 : -9223372036854775808 ≤ n) (h1 : n < 9223372036854775808) : w64 n = n := by
 unfold w64 IntKind.wrap; simp [IntKind.bits, IntKind.signed]; omega
theorem idx_ok {i n : Int} {κ : Option β} (h0 : 0 ≤ i) (h1 : i < n) : idx i n κ = κ := by simp [idx, h0, h1]
theorem bnd_ok {a b n : Int} {κ : Option β} (h0 : 0 ≤ a) (h1 : a ≤ b) (h2 : b ≤ n) : bnd a b n κ = κ := by simp [bnd, h0, h1, h2]
theorem roomy_ok {n : Nat} {κ : Option β} (h : n ≤ 1099511627776) : roomy n κ = κ := by simp [roomy, h]
theorem room46_ok {z : ByteArray} {κ : Option β} (h : z.size ≤ 70368744177664) : room46 z κ = κ := by
 have : Nat.ble z.size 70368744177664 = true := by rw [Nat.ble_eq]; exact h
 simp [room46, this]
theorem biF {γ : Type} {c : Bool} {x y : γ} (h : c = false) : (bif c then x else y) = y := by rw [h]; rfl
theorem bdT {γ : Type} {p : Prop} [Decidable p] {x y : γ} (h : p) : (bif decide p then x else y) = x := by rw [decide_eq_true h]; rfl
theorem bdF {γ : Type} {p : Prop} [Decidable p] {x y : γ} (h : ¬ p) : (bif decide p then x else y) = y := by rw [decide_eq_false h]; rfl
end
theorem rd_nat {α : Type} {xs : List α} {n : Nat} {d : α} : rd xs (n : Int) d = xs.getD n d := by simp [rd]
theorem cut_from {α : Type} (xs : List α) (b : Int) : cut xs 0 b = xs.take b.toNat := by simp [cut]
theorem ba_ext {x y : ByteArray} (h : x.data.toList = y.data.toList) : x = y := by
 obtain ⟨⟨x⟩⟩ := x; obtain ⟨⟨y⟩⟩ := y; simp only at h; rw [h]
theorem strEq_eq (x y : ByteArray) : strEq x y = decide (x = y) := by
 unfold strEq
 have e : ∀ z : ByteArray, z.toList = z.data.toList := fun z => by
  have key : ∀ (l : List UInt8) (k : Nat) (acc : List UInt8), (k ≤ l.length) → ByteArray.toList.loop ⟨⟨l⟩⟩ k acc = acc.reverse ++ l.drop k := by
   intro l k acc hk
   induction hj : l.length - k generalizing k acc with
   | zero =>
    unfold ByteArray.toList.loop
    have : ¬ k < (ByteArray.mk ⟨l⟩).size := by show ¬ k < l.length; omega
    rw [if_neg this, List.drop_eq_nil_of_le (by omega)]; simp
   | succ j ih =>
    unfold ByteArray.toList.loop
    have h1 : k < l.length := by omega
    have : k < (ByteArray.mk ⟨l⟩).size := h1
    rw [if_pos this, ih (k + 1) _ (by omega) (by omega)]
    have hg : (ByteArray.mk ⟨l⟩).get! k = l[k] := by
     show (Array.mk l)[k]! = l[k]
     rw [getElem!_pos (Array.mk l) k (by simpa using h1)]; simp
    rw [hg, List.drop_eq_getElem_cons h1]; simp
  obtain ⟨⟨l⟩⟩ := z
  unfold ByteArray.toList
  rw [key l 0 [] (Nat.zero_le _)]; simp
 rw [e, e]
 by_cases h : x = y
 ·subst h; simp
 ·simp only [h, decide_false]
  exact beq_false_of_ne (fun h' => h (ba_ext h'))
end Go.Proofs.YtoafkjeamgelgaaYF
namespace Go.Proofs.YtoafkjeamgelgaaYF
open Go
set_option linter.unusedVariables false
set_option linter.unusedSimpArgs false
theorem range_fold {α σ β : Type} (xs : List α) (F : Nat → σ → Nat → Option β) (k : σ → Option β) (step : σ → α → σ) (Inv : Nat → σ → Prop)
  (h1 : ∀ m s i (hi : i < xs.length), Inv i s → F (m + 1) s i = F m (step s xs[i]) (i + 1) ∧ Inv (i + 1) (step s xs[i]))
  (h2 : ∀ m s, Inv xs.length s → F (m + 1) s xs.length = k s) : ∀ m s, xs.length < m → Inv 0 s → F m s 0 = k (xs.foldl step s) := by
 have key : ∀ (d i m : Nat) (s : σ), xs.length - i = d → i ≤ xs.length → d < m → Inv i s → F m s i = k ((xs.drop i).foldl step s) := by
  intro d
  induction d with
  | zero =>
   intro i m s hd hi hm hs
   obtain ⟨m', rfl⟩ : ∃ m', m = m' + 1 := ⟨m - 1, by omega⟩
   obtain rfl : i = xs.length := by omega
   rw [h2 m' s hs, List.drop_length]; rfl
  | succ d ih =>
   intro i m s hd hi hm hs
   obtain ⟨m', rfl⟩ : ∃ m', m = m' + 1 := ⟨m - 1, by omega⟩
   have hl : i < xs.length := by omega
   obtain ⟨e, hs'⟩ := h1 m' s i hl hs
   rw [e, ih (i + 1) m' _ (by omega) (by omega) (by omega) hs', List.drop_eq_getElem_cons hl]; rfl
 intro m s hm hs
 have := key xs.length 0 m s (by omega) (Nat.zero_le _) hm hs
 simpa using this
theorem range_find {α β : Type} (xs : List α) (F : Nat → Nat → Option β) (kf : (i : Nat) → i < xs.length → Option β) (k : Option β) (p : Nat → α → Bool)
  (h1 : ∀ m i (hi : i < xs.length), (∀ j (hj : j < i), p j (xs[j]'(by omega)) = false) → F (m + 1) i = if p i xs[i] = true then kf i hi else F m (i + 1))
  (h2 : ∀ m, (∀ j (hj : j < xs.length), p j xs[j] = false) → F (m + 1) xs.length = k) : ∀ m, xs.length < m → (∃ i hi, p i (xs[i]'hi) = true ∧ (∀ j (hj : j < i), p j (xs[j]'(by omega)) = false) ∧ F m 0 = kf i hi) ∨ ((∀ j (hj : j < xs.length), p j xs[j] = false) ∧ F m 0 = k) := by
 have key : ∀ (d i m : Nat), xs.length - i = d → (hi : i ≤ xs.length) → d < m → (∀ j (hj : j < i), p j (xs[j]'(by omega)) = false) →
   (∃ i' hi', p i' (xs[i']'hi') = true ∧ (∀ j (hj : j < i'), p j (xs[j]'(by omega)) = false) ∧ F m i = kf i' hi') ∨ ((∀ j (hj : j < xs.length), p j xs[j] = false) ∧ F m i = k) := by
  intro d
  induction d with
  | zero =>
   intro i m hd hi hm hp
   obtain ⟨m', rfl⟩ : ∃ m', m = m' + 1 := ⟨m - 1, by omega⟩
   obtain rfl : i = xs.length := by omega
   exact .inr ⟨hp, h2 m' hp⟩
  | succ d ih =>
   intro i m hd hi hm hp
   obtain ⟨m', rfl⟩ : ∃ m', m = m' + 1 := ⟨m - 1, by omega⟩
   have hl : i < xs.length := by omega
   have e := h1 m' i hl hp
   cases hpi : p i xs[i] with
   | true => rw [hpi, if_pos rfl] at e; exact .inl ⟨i, hl, hpi, hp, e⟩
   | false =>
    rw [hpi, if_neg (by simp)] at e
    rw [e]
    refine ih (i + 1) m' (by omega) (by omega) (by omega) (fun j hj => ?_)
    by_cases hji : j = i
    ·subst hji; exact hpi
    ·exact hp j (by omega)
 intro m hm
 exact key xs.length 0 m (by omega) (Nat.zero_le _) hm (fun j hj => by omega)
theorem rd_at {α : Type} {xs : List α} {i : Nat} {d : α} (h : i < xs.length) : rd xs (i : Int) d = xs[i] := by
 rw [rd_nat, List.getD_eq_getElem?_getD, List.getElem?_eq_getElem h]; rfl
theorem rd_zero {α : Type} {x d : α} {i : Int} (h : i = 0) : rd [x] i d = x := by subst h; rfl
end Go.Proofs.YtoafkjeamgelgaaYF
namespace Go.Proofs.YtoafkjeamgelgaaYF
open Go Go.RowKit
set_option linter.unusedVariables false
set_option linter.unusedSimpArgs false
def Valids (xs : List Int) : Prop := ∀ x ∈ xs, Utf8.valid x = true
theorem decode_valid (s : ByteArray) (i : Nat) : Utf8.valid ((Utf8.decode s i).1 : Int) = true := by
 unfold Utf8.decode
 simp only [Nat.add_zero]
 split
 ·rename_i h; simp [Utf8.valid]; omega
 split
 ·split
  ·rename_i h1 h2; simp only [Utf8.valid]; simp; omega
  ·decide
 split
 ·split
  ·rename_i h1 h2; simp at h2; exact h2.2
  ·decide
 split
 ·split
  ·rename_i h1 h2; simp at h2; exact h2.2
  ·decide
 ·decide
theorem runesAt_valid (s : ByteArray) : ∀ b i, Valids (runesAt s b i)
 | 0, _ => by intro x hx; simp [runesAt] at hx
 | b + 1, i => by
  intro x hx
  unfold runesAt at hx
  split at hx
  ·rcases List.mem_cons.1 hx with rfl | hx
   ·exact decode_valid s i
   ·exact runesAt_valid s b _ x hx
  ·simp at hx
theorem runesOf_valid (s : ByteArray) : Valids (runesOf s) := runesAt_valid s _ _
theorem Valids.take {x : List Int} (h : Valids x) (n : Nat) : Valids (x.take n) := fun y hy => h y (List.mem_of_mem_take hy)
theorem Valids.drop {x : List Int} (h : Valids x) (n : Nat) : Valids (x.drop n) := fun y hy => h y (List.mem_of_mem_drop hy)
end Go.Proofs.YtoafkjeamgelgaaYF
namespace Go.Proofs.YtoafkjeamgelgaaYF
open Go
set_option linter.unusedVariables false
set_option linter.unusedSimpArgs false
def bl (z : ByteArray) : List UInt8 := z.data.toList
def inner (b : UInt8) : Prop := 128 ≤ b.toNat ∧ b.toNat < 192
abbrev enc (x : List Int) : ByteArray := runesBytes x
theorem Valids.nil : Valids [] := fun x hx => by cases hx
theorem Valids.cons {r : Int} {x : List Int} (h : Valids (r :: x)) : Utf8.valid r = true ∧ Valids x := ⟨h r (by simp), fun y hy => h y (by simp [hy])⟩
end Go.Proofs.YtoafkjeamgelgaaYF
namespace Go.Proofs.YtoafkjeamgelgaaYF
open Go
set_option linter.unusedVariables false
set_option linter.unusedSimpArgs false
@[reducible] def Prt := Int × ByteArray
@[reducible] def Rp := Int × List Int
def emb (d : Rp) : Prt := (d.1, enc d.2)
def OkR (d : Rp) : Prop := (d.1 = -1 ∨ d.1 = 0 ∨ d.1 = 1) ∧ Valids d.2
theorem clean_ok (n : Nat) (a : ByteArray) (m : Nat) (h : a.size ≤ 70368744177664) : g13 n a (m : Int) = some (enc ((runesOf a).take m), ()) := by
 have hl := runesOf_length a
 dsimp only [g13, g13_1, g14, g14_1]
 rw [room46_ok h, Option.bind_some]
 have e : minI ((runesOf a).length : Int) (m : Int) = ((min (runesOf a).length m : Nat) : Int) := by unfold minI; split <;> omega
 dsimp only
 rw [e, bnd_ok (by omega) (by omega) (by omega), cut_from]
 congr 3
 rw [show (0 + (((min (runesOf a).length m : Nat) : Int) - 0)).toNat = min (runesOf a).length m by omega, Nat.min_comm, List.take_eq_take_iff]
 omega
theorem list_ok (n : Nat) (hn : Big ≤ n) (xs : List Rp) (hl : xs.length ≤ 1000000) (ho : ∀ y ∈ xs, OkR y) : g55 n (xs.map emb) = some (xs.map emb, ()) := by
 have hB : (4611686018427387904 : Nat) ≤ n := hn
 dsimp only [g55, g55_6, g55_1, g55_4, g55_3, g55_5]
 have e := range_fold (xs.map emb) (fun m s i => g55_3L n (fun x4 => some (x4, ())) m s (xs.map emb) ((xs.map emb).length : Int) (i : Int)) (fun s => some (s, ())) (fun s x => s ++ [x]) (fun i s => s.length = i)
  (fun m s i hi hs => by
   have hi' : i < xs.length := by simpa using hi
   refine ⟨?_, by simp [hs]⟩
   have hlm : (xs.map emb).length = xs.length := List.length_map _
   have hop := (ho xs[i] (by simp)).1
   have hg : (xs.map emb)[i] = emb xs[i] := List.getElem_map _
   rw [g55_3L.eq_2, g55_2, bdT (by omega), idx_ok (by omega) (by omega)]
   simp only [rd_at hi, rd_zero rfl]
   have hw : w64 (emb xs[i]).1 = (emb xs[i]).1 := w64_id (by show _ ≤ xs[i].1; omega) (by show xs[i].1 < _; omega)
   rw [hg, hw, roomy_ok (by simp only [List.length_cons, List.length_nil]; omega), w64_id (by omega) (by omega)]
   rfl)
  (fun m s hs => by rw [g55_3L.eq_2, g55_2, bdF (by omega)]) n [] (by simp; omega) rfl
 refine Eq.trans e ?_
 have hf : ∀ (l : List Prt) (s : List Prt), l.foldl (fun s x => s ++ [x]) s = s ++ l := by
  intro l
  induction l with
  | nil => intro s; simp
  | cons x l ih => intro s; rw [List.foldl_cons, ih]; simp
 rw [hf]; rfl
end Go.Proofs.YtoafkjeamgelgaaYF
namespace Go.Proofs.YtoafkjeamgelgaaYF
open Go
set_option linter.unusedVariables false
set_option linter.unusedSimpArgs false
def fitsB (x : Prt) : Bool := decide (x.2.size ≤ 2147483647)
theorem fits2_ok (n : Nat) (x : Prt) : g44 n x = some (fitsB x, ()) := by
 dsimp only [g44, g44_1]
 unfold fitsB
 by_cases h : (x.2.size : Int) > 2147483647
 ·rw [bdT h, decide_eq_false (by omega)]
 ·rw [bdF h, decide_eq_true (by omega)]
theorem fits_ok (n : Nat) (hn : Big ≤ n) (xs : List Prt) : (g20 n xs = some (true, ()) ∧ xs.length ≤ 2147483647 ∧ ∀ y ∈ xs, y.2.size ≤ 2147483647) ∨ g20 n xs = some (false, ()) := by
 dsimp only [g20, g20_6, g20_1]
 by_cases h : (xs.length : Int) > 2147483647
 ·rw [bdT h]; exact .inr rfl
 ·rw [bdF h]
  have hB : (4611686018427387904 : Nat) ≤ n := hn
  have h1 : ∀ m i (hi : i < xs.length), (∀ j (hj : j < i), (fun (_ : Nat) x => !fitsB x) j (xs[j]'(by omega)) = false) →
    g20_3L n (fun v2 => some (v2, ())) (g20_5 n (fun v2 => some (v2, ()))) (m + 1) xs (xs.length : Int) (i : Int) = if (fun (_ : Nat) x => !fitsB x) i xs[i] = true then (fun _ _ => some (false, ())) i hi else g20_3L n (fun v2 => some (v2, ())) (g20_5 n (fun v2 => some (v2, ()))) m xs (xs.length : Int) ((i + 1 : Nat) : Int) := by
   intro m i hi _
   rw [g20_3L.eq_2, g20_2, bdT (by omega), idx_ok (by omega) (by omega), rd_zero rfl, rd_at hi, fits2_ok, Option.bind_some]
   cases hfb : fitsB xs[i] with
   | true =>
    rw [if_neg (by simp [hfb])]
    show g20_3L n (fun v2 => some (v2, ())) (g20_5 n (fun v2 => some (v2, ()))) m xs (xs.length : Int) (w64 ((i : Int) + 1)) = _
    rw [w64_id (by omega) (by omega)]; rfl
   | false => rw [if_pos (by simp [hfb])]; rfl
  rcases range_find xs (fun m i => g20_3L n (fun v2 => some (v2, ())) (g20_5 n (fun v2 => some (v2, ()))) m xs (xs.length : Int) (i : Int)) (fun _ _ => some (false, ())) (some (true, ())) (fun _ x => !fitsB x) h1 (fun m _ => by rw [g20_3L.eq_2, g20_2, bdF (by omega)]; rfl) n (by omega) with ⟨i, hi, _, _, e⟩ | ⟨hall, e⟩
  ·exact .inr e
  ·refine .inl ⟨e, by omega, fun y hy => ?_⟩
   obtain ⟨i, hi, rfl⟩ := List.getElem_of_mem hy
   have := hall i hi
   simpa [fitsB] using this
def opOf (n : Int) : Int := if Int.tmod n 3 = 2 then -1 else if Int.tmod n 3 = -2 then 1 else Int.tmod n 3
theorem tmod3 (n : Int) : Int.tmod n 3 = -2 ∨ Int.tmod n 3 = -1 ∨ Int.tmod n 3 = 0 ∨ Int.tmod n 3 = 1 ∨ Int.tmod n 3 = 2 := by
 have h1 := Int.tmod_lt_of_pos n (show (0 : Int) < 3 by omega)
 have h2 := Int.lt_tmod_of_pos n (show (0 : Int) < 3 by omega)
 omega
theorem opOf_range (n : Int) : opOf n = -1 ∨ opOf n = 0 ∨ opOf n = 1 := by
 unfold opOf
 rcases tmod3 n with h | h | h | h | h <;> simp [h]
def partOf (y : Prt) : Rp := (opOf y.1, (runesOf y.2).take 30)
def partsOf (m : Nat) (xs : List Prt) : List Rp := (xs.take m).map partOf
theorem partsOf_ok (m : Nat) (xs : List Prt) : ∀ y ∈ partsOf m xs, OkR y ∧ y.2.length ≤ 30 := by
 intro y hy
 obtain ⟨z, _, rfl⟩ := List.mem_map.1 hy
 exact ⟨⟨opOf_range _, (runesOf_valid _).take _⟩, List.length_take_le _ _⟩
theorem partsOf_length (m : Nat) (xs : List Prt) : (partsOf m xs).length ≤ m := by simp [partsOf]; omega
theorem parted_ok (n : Nat) (hn : Big ≤ n) (xs : List Prt) (hl : xs.length ≤ 2147483647) (hs : ∀ y ∈ xs, y.2.size ≤ 2147483647) (m : Nat) (hm : m ≤ 1000000) : g45 n xs (m : Int) = some ((partsOf m xs).map emb, ()) := by
 have hB : (4611686018427387904 : Nat) ≤ n := hn
 dsimp only [g45, g45_6, g45_1, g45_4, g45_3, g45_5]
 have key : ∀ (d i g : Nat), min m xs.length - i = d → i ≤ min m xs.length → d < g → g45_3L n (fun x4 => some (x4, ())) g xs (m : Int) ((partsOf i xs).map emb) (i : Int) = some ((partsOf m xs).map emb, ()) := by
  intro d
  induction d with
  | zero =>
   intro i g hd hi hg
   obtain ⟨g, rfl⟩ : ∃ g', g = g' + 1 := ⟨g - 1, by omega⟩
   rw [g45_3L.eq_2, g45_2]
   have e : partsOf i xs = partsOf m xs := by unfold partsOf; congr 1; rw [List.take_eq_take_iff]; omega
   by_cases h : i < xs.length
   ·rw [bdT (by omega), bdF (by omega), e]
   ·rw [bdF (by omega), e]
  | succ d ih =>
   intro i g hd hi hg
   obtain ⟨g, rfl⟩ : ∃ g', g = g' + 1 := ⟨g - 1, by omega⟩
   have hi' : i < xs.length := by omega
   have := ih (i + 1) g (by omega) (by omega) (by omega)
   have hstep : (partsOf (i + 1) xs).map emb = (partsOf i xs).map emb ++ [(opOf xs[i].1, enc ((runesOf xs[i].2).take 30))] := by
    unfold partsOf
    rw [List.take_succ_eq_append_getElem hi', List.map_append, List.map_append]; rfl
   have hlen : ((partsOf i xs).map emb).length ≤ m := by rw [List.length_map]; have := partsOf_length i xs; omega
   have hsz := hs xs[i] (by simp)
   rw [g45_3L.eq_2, g45_2, bdT (by omega), bdT (by omega), idx_ok (by omega) (by omega)]
   simp only [rd_at hi']
   rw [show (30 : Int) = ((30 : Nat) : Int) from rfl, clean_ok n _ 30 (by omega)]
   simp only [Option.bind_some]
   have hw : w64 ((i : Int) + 1) = ((i + 1 : Nat) : Int) := by rw [w64_id (by omega) (by omega)]; omega
   rw [hw]
   rw [hstep] at this
   unfold opOf at this
   rcases tmod3 xs[i].1 with h | h | h | h | h
   all_goals
    rw [h] at this ⊢
    simp only [show ((-2 : Int) = 2) = False by simp, show ((-1 : Int) = 2) = False by simp, show ((0 : Int) = 2) = False by simp, show ((1 : Int) = 2) = False by simp, show ((-1 : Int) = -2) = False by simp, show ((0 : Int) = -2) = False by simp, show ((1 : Int) = -2) = False by simp, if_true, if_false, if_pos, if_neg, not_false_eq_true] at this
    simp only [show ((-2 : Int) == 2) = false from rfl, show ((-2 : Int) == -2) = true from rfl, show ((2 : Int) == 2) = true from rfl, show ((-1 : Int) == 2) = false from rfl, show ((-1 : Int) == -2) = false from rfl, show ((0 : Int) == 2) = false from rfl, show ((0 : Int) == -2) = false from rfl, show ((1 : Int) == 2) = false from rfl, show ((1 : Int) == -2) = false from rfl, cond_true, cond_false]
    rw [idx_ok (by omega) (by omega), roomy_ok (by simp only [List.length_append, List.length_cons, List.length_nil]; omega)]
    exact this
 exact key (min m xs.length) 0 n (by omega) (by omega) (by omega)
end Go.Proofs.YtoafkjeamgelgaaYF
namespace Go.Proofs.YtoafkjeamgelgaaYF
open Go
set_option linter.unusedVariables false
set_option linter.unusedSimpArgs false
theorem operation_ok (n : Nat) (v : Int) (h : v = -1 ∨ v = 0 ∨ v = 1) : g73 n v = some (v, ()) := by
 rcases h with rfl | rfl | rfl <;> rfl
theorem made_ok (n : Nat) (hn : Big ≤ n) (xs : List Rp) (hl : xs.length ≤ 1000000) (ho : ∀ y ∈ xs, OkR y) : g63 n (xs.map emb) = some (xs.map emb, ()) := by
 have hB : (4611686018427387904 : Nat) ≤ n := hn
 dsimp only [g63, g63_6, g63_1, g63_4, g63_3, g63_5]
 have e := range_fold (xs.map emb) (fun m s i => g63_3L n (fun x4 => some (x4, ())) m s (xs.map emb) ((xs.map emb).length : Int) (i : Int)) (fun s => some (s, ())) (fun s x => s ++ [x]) (fun i s => s.length = i)
  (fun m s i hi hs => by
   have hi' : i < xs.length := by simpa using hi
   refine ⟨?_, by simp [hs]⟩
   have hlm : (xs.map emb).length = xs.length := List.length_map _
   have hop := (ho xs[i] (by simp)).1
   have hg : (xs.map emb)[i] = emb xs[i] := List.getElem_map _
   rw [g63_3L.eq_2, g63_2, bdT (by omega), idx_ok (by omega) (by omega)]
   simp only [rd_at hi, rd_zero rfl]
   rw [hg, operation_ok n (emb xs[i]).1 hop, Option.bind_some, roomy_ok (by simp only [List.length_cons, List.length_nil]; omega), w64_id (by omega) (by omega)]
   rfl)
  (fun m s hs => by rw [g63_3L.eq_2, g63_2, bdF (by omega)]) n [] (by simp; omega) rfl
 refine Eq.trans e ?_
 have hf : ∀ (l : List Prt) (s : List Prt), l.foldl (fun s x => s ++ [x]) s = s ++ l := by
  intro l
  induction l with
  | nil => intro s; simp
  | cons x l ih => intro s; rw [List.foldl_cons, ih]; simp
 rw [hf]; rfl
end Go.Proofs.YtoafkjeamgelgaaYF
namespace Go.Proofs.YtoafkjeamgelgaaYF
open Go
set_option linter.unusedVariables false
set_option linter.unusedSimpArgs false
@[reducible] def Ptt := List Prt × (Int × (Int × (Int × Int)))
@[reducible] def Ptr := List Rp × (Int × (Int × (Int × Int)))
def embP (p : Ptr) : Ptt := (p.1.map emb, p.2)
theorem range_copy {α β : Type} (xs : List α) (F : Nat → List α → Nat → Option β) (k : List α → Option β)
  (h1 : ∀ m s i (hi : i < xs.length), s.length = i → F (m + 1) s i = F m (s ++ [xs[i]]) (i + 1)) (h2 : ∀ m s, s.length = xs.length → F (m + 1) s xs.length = k s) (m : Nat) (hm : xs.length < m) : F m [] 0 = k xs := by
 have e := range_fold xs F k (fun s x => s ++ [x]) (fun i s => s.length = i) (fun m s i hi hs => ⟨h1 m s i hi hs, by simp [hs]⟩) h2 m [] hm rfl
 have hf : ∀ (l s : List α), l.foldl (fun s x => s ++ [x]) s = s ++ l := by
  intro l
  induction l with
  | nil => intro s; simp
  | cons x l ih => intro s; rw [List.foldl_cons, ih]; simp
 rw [e, hf]; rfl
theorem deParts_ok (n : Nat) (hn : Big ≤ n) (xs : List Prt) (hl : xs.length ≤ 2147483647) (hs : ∀ y ∈ xs, y.2.size ≤ 2147483647) : ∃ l : List Rp, g34 n xs = some (l.map emb, ()) ∧ l.length ≤ 40 ∧ ∀ y ∈ l, OkR y ∧ y.2.length ≤ 30 := by
 have hB : (4611686018427387904 : Nat) ≤ n := hn
 dsimp only [g34, g34_6, g34_1, g34_4, g34_3, g34_5]
 rw [show (40 : Int) = ((40 : Nat) : Int) from rfl, parted_ok n hn xs hl hs 40 (by omega), Option.bind_some]
 have h0 := partsOf_ok 40 xs
 have h00 := partsOf_length 40 xs
 generalize partsOf 40 xs = ps at h0 h00 ⊢
 have hlm : (ps.map emb).length = ps.length := List.length_map _
 have key : ∀ (d i m : Nat) (s : List Rp), ps.length - i = d → i ≤ ps.length → d < m → s.length ≤ i → (∀ y ∈ s, OkR y ∧ y.2.length ≤ 30) →
   ∃ l : List Rp, g34_3L n (fun x3 => some (x3, ())) m (s.map emb) (ps.map emb) ((ps.map emb).length : Int) (i : Int) = some (l.map emb, ()) ∧ l.length ≤ 40 ∧ ∀ y ∈ l, OkR y ∧ y.2.length ≤ 30 := by
  intro d
  induction d with
  | zero =>
   intro i m s hd hi hm hsl hso
   obtain ⟨m, rfl⟩ : ∃ m', m = m' + 1 := ⟨m - 1, by omega⟩
   rw [g34_3L.eq_2, g34_2, bdF (by omega)]
   exact ⟨s, rfl, by omega, hso⟩
  | succ d ih =>
   intro i m s hd hi hm hsl hso
   obtain ⟨m, rfl⟩ : ∃ m', m = m' + 1 := ⟨m - 1, by omega⟩
   have hi' : i < ps.length := by omega
   have hI : i < (ps.map emb).length := by omega
   have hg : (ps.map emb)[i] = emb ps[i] := List.getElem_map _
   rw [g34_3L.eq_2, g34_2, bdT (by omega), idx_ok (by omega) (by omega)]
   simp only [rd_zero, rd_at hI, hg]
   have hw : w64 ((i : Int) + 1) = ((i + 1 : Nat) : Int) := by rw [w64_id (by omega) (by omega)]; omega
   rw [hw]
   cases hc : (!strEq (emb ps[i]).2 (⟨#[]⟩ : ByteArray)) with
   | true =>
    rw [cond_true, roomy_ok (by simp only [List.length_cons, List.length_nil, List.length_map]; omega)]
    have := ih (i + 1) m (s ++ [ps[i]]) (by omega) (by omega) (by omega) (by simp; omega) (fun y hy => by
     rcases List.mem_append.1 hy with hy | hy
     ·exact hso y hy
     ·simp at hy; subst hy; exact h0 _ (by simp))
    rw [List.map_append] at this
    exact this
   | false =>
    rw [cond_false]
    exact ih (i + 1) m s (by omega) (by omega) (by omega) (by omega) hso
 exact key ps.length 0 n [] (by omega) (by omega) (by omega) (by simp) (fun y hy => by cases hy)
def OkP (p : Ptr) : Prop := p.1.length ≤ 40 ∧ ∀ y ∈ p.1, OkR y ∧ y.2.length ≤ 30
theorem ptGiven_ok (n : Nat) (hn : Big ≤ n) (xs : List Ptt) (hl : xs.length ≤ 2147483647) (hs : ∀ p ∈ xs, p.1.length ≤ 2147483647 ∧ ∀ y ∈ p.1, y.2.size ≤ 2147483647) : ∃ l : List Ptr, g10 n xs = some (l.map embP, ()) ∧ l.length ≤ 8 ∧ ∀ p ∈ l, OkP p := by
 have hB : (4611686018427387904 : Nat) ≤ n := hn
 dsimp only [g10, g10_6, g10_1, g10_4, g10_3, g10_5]
 have key : ∀ (d i m : Nat) (s : List Ptr), min xs.length 8 - i = d → i ≤ min xs.length 8 → d < m → s.length = i → (∀ p ∈ s, OkP p) →
   ∃ l : List Ptr, g10_3L n (fun x3 => some (x3, ())) m xs (s.map embP) (i : Int) = some (l.map embP, ()) ∧ l.length ≤ 8 ∧ ∀ p ∈ l, OkP p := by
  intro d
  induction d with
  | zero =>
   intro i m s hd hi hm hsl hso
   obtain ⟨m, rfl⟩ : ∃ m', m = m' + 1 := ⟨m - 1, by omega⟩
   rw [g10_3L.eq_2, g10_2]
   refine ⟨s, ?_, by omega, hso⟩
   by_cases h : i < xs.length
   ·rw [bdT (by omega), bdF (by omega)]
   ·rw [bdF (by omega)]
  | succ d ih =>
   intro i m s hd hi hm hsl hso
   obtain ⟨m, rfl⟩ : ∃ m', m = m' + 1 := ⟨m - 1, by omega⟩
   have hi' : i < xs.length := by omega
   have hx := hs xs[i] (by simp)
   obtain ⟨dl, e1, e2, e3⟩ := deParts_ok n hn xs[i].1 hx.1 hx.2
   have hQ : ∀ q : Int × (Int × (Int × Int)), ∃ l : List Ptr, g10_3L n (fun x3 => some (x3, ())) m xs (s.map embP ++ [(dl.map emb, q)]) ((i + 1 : Nat) : Int) = some (l.map embP, ()) ∧ l.length ≤ 8 ∧ ∀ p ∈ l, OkP p := fun q => by
    have := ih (i + 1) m (s ++ [(dl, q)]) (by omega) (by omega) (by omega) (by simp [hsl]) (fun p hp => by
     rcases List.mem_append.1 hp with hp | hp
     ·exact hso p hp
     ·simp at hp; subst hp; exact ⟨e2, e3⟩)
    rw [List.map_append] at this
    exact this
   have hw : w64 ((i : Int) + 1) = ((i + 1 : Nat) : Int) := by rw [w64_id (by omega) (by omega)]; omega
   rw [g10_3L.eq_2, g10_2, bdT (by omega), bdT (by omega), idx_ok (by omega) (by omega)]
   simp only [rd_zero, rd_at hi']
   rw [e1, Option.bind_some, roomy_ok (by simp only [List.length_cons, List.length_nil, List.length_map]; omega), hw]
   exact hQ _
 exact key (min xs.length 8) 0 n [] (by omega) (by omega) (by omega) rfl (fun p hp => by cases hp)
section
variable {n : Nat}
theorem OkP.ok {p : Ptr} (h : OkP p) : ∀ y ∈ p.1, OkR y := fun y hy => (h.2 y hy).1
theorem patch_ok (hn : Big ≤ n) (p : Ptr) (h : OkP p) : g50 n (embP p) = some (embP p, ()) := by
 dsimp only [g50, g50_1]
 rw [show (embP p).1 = p.1.map emb from rfl, made_ok n hn p.1 (by have := h.1; omega) h.ok, Option.bind_some]
 rfl
theorem told_ok (hn : Big ≤ n) (p : Ptr) (h : OkP p) : g47 n (embP p) = some (embP p, ()) := by
 dsimp only [g47, g47_1]
 rw [show g56 n (embP p) = some (p.1.map emb, ()) from rfl, Option.bind_some]
 dsimp only
 rw [list_ok n hn p.1 (by have := h.1; omega) h.ok, Option.bind_some]
 rfl
theorem all_ok (hn : Big ≤ n) (l : List Ptr) (hl : l.length ≤ 1000) (h : ∀ p ∈ l, OkP p) : g38 n (l.map embP) = some (l.map embP, ()) := by
 have hB : (4611686018427387904 : Nat) ≤ n := hn
 have hlm : (l.map embP).length = l.length := List.length_map _
 dsimp only [g38, g38_6, g38_1, g38_4, g38_3, g38_5]
 refine range_copy (l.map embP) (fun m s i => g38_3L n (fun x4 => some (x4, ())) m s (l.map embP) ((l.map embP).length : Int) (i : Int)) (fun s => some (s, ())) (fun m s i hi hs => ?_) (fun m s hs => by rw [g38_3L.eq_2, g38_2, bdF (by omega)]) n (by omega)
 have hi' : i < l.length := by omega
 have hg : (l.map embP)[i] = embP l[i] := List.getElem_map _
 rw [g38_3L.eq_2, g38_2, bdT (by omega), idx_ok (by omega) (by omega)]
 simp only [rd_zero, rd_at hi]
 rw [hg, patch_ok hn _ (h _ (by simp)), Option.bind_some, roomy_ok (by simp only [List.length_cons, List.length_nil]; omega), w64_id (by omega) (by omega)]
 rfl
theorem patches_ok (hn : Big ≤ n) (l : List Ptr) (hl : l.length ≤ 1000) (h : ∀ p ∈ l, OkP p) : g35 n (l.map embP) = some (l.map embP, ()) := by
 have hB : (4611686018427387904 : Nat) ≤ n := hn
 have hlm : (l.map embP).length = l.length := List.length_map _
 dsimp only [g35, g35_6, g35_1, g35_4, g35_3, g35_5]
 refine range_copy (l.map embP) (fun m s i => g35_3L n (fun x4 => some (x4, ())) m s (l.map embP) ((l.map embP).length : Int) (i : Int)) (fun s => some (s, ())) (fun m s i hi hs => ?_) (fun m s hs => by rw [g35_3L.eq_2, g35_2, bdF (by omega)]) n (by omega)
 have hi' : i < l.length := by omega
 have hg : (l.map embP)[i] = embP l[i] := List.getElem_map _
 rw [g35_3L.eq_2, g35_2, bdT (by omega), idx_ok (by omega) (by omega)]
 simp only [rd_zero, rd_at hi]
 rw [hg, told_ok hn _ (h _ (by simp)), Option.bind_some, roomy_ok (by simp only [List.length_cons, List.length_nil]; omega), w64_id (by omega) (by omega)]
 rfl
theorem strEq_self (x : ByteArray) : strEq x x = true := by rw [strEq_eq, decide_eq_true rfl]
theorem sameParts_self (hn : Big ≤ n) (x : List Prt) (hl : x.length ≤ 1000000) : g30 n x x = some (true, ()) := by
 have hB : (4611686018427387904 : Nat) ≤ n := hn
 dsimp only [g30, g30_6, g30_1, g30_4, g30_3, g30_5]
 rw [biF (by simp)]
 have key : ∀ (d i m : Nat), x.length - i = d → i ≤ x.length → d < m → g30_3L n (fun v4 => some (v4, ())) (some (true, ())) m x x (x.length : Int) (i : Int) = some (true, ()) := by
  intro d
  induction d with
  | zero =>
   intro i m hd hi hm
   obtain ⟨m, rfl⟩ : ∃ m', m = m' + 1 := ⟨m - 1, by omega⟩
   rw [g30_3L.eq_2, g30_2, bdF (by omega)]
  | succ d ih =>
   intro i m hd hi hm
   obtain ⟨m, rfl⟩ : ∃ m', m = m' + 1 := ⟨m - 1, by omega⟩
   have := ih (i + 1) m (by omega) (by omega) (by omega)
   rw [g30_3L.eq_2, g30_2, bdT (by omega), idx_ok (by omega) (by omega), idx_ok (by omega) (by omega), strEq_self, biF (by simp), w64_id (by omega) (by omega)]
   exact this
 exact key x.length 0 n (by omega) (by omega) (by omega)
theorem samePatches_self (hn : Big ≤ n) (x : List Ptt) (hl : x.length ≤ 1000000) (h : ∀ p ∈ x, p.1.length ≤ 1000000) : g11 n x x = some (true, ()) := by
 have hB : (4611686018427387904 : Nat) ≤ n := hn
 dsimp only [g11, g11_6, g11_1, g11_4, g11_3, g11_5]
 rw [biF (by simp)]
 have key : ∀ (d i m : Nat), x.length - i = d → i ≤ x.length → d < m → g11_3L n (fun v4 => some (v4, ())) (some (true, ())) m x x (x.length : Int) (i : Int) = some (true, ()) := by
  intro d
  induction d with
  | zero =>
   intro i m hd hi hm
   obtain ⟨m, rfl⟩ : ∃ m', m = m' + 1 := ⟨m - 1, by omega⟩
   rw [g11_3L.eq_2, g11_2, bdF (by omega)]
  | succ d ih =>
   intro i m hd hi hm
   obtain ⟨m, rfl⟩ : ∃ m', m = m' + 1 := ⟨m - 1, by omega⟩
   have := ih (i + 1) m (by omega) (by omega) (by omega)
   have hi' : i < x.length := by omega
   rw [g11_3L.eq_2, g11_2, bdT (by omega), idx_ok (by omega) (by omega), idx_ok (by omega) (by omega)]
   simp only [rd_zero, rd_at hi']
   rw [biF (by simp), biF (by simp), biF (by simp), biF (by simp), sameParts_self hn _ (h _ (by simp)), Option.bind_some, biF (c := !true) rfl, w64_id (by omega) (by omega)]
   exact this
 exact key x.length 0 n (by omega) (by omega) (by omega)
theorem copyIn (hB : (4611686018427387904 : Nat) ≤ n) {β : Type} (kx2) (s v1 a b c e w2 w3 w4 w5 x12 v13 v14) (ds : List Prt) (hl : ds.length ≤ 1000000) (m : Nat) (hm : ds.length < m) : g37_5L (β := β) n kx2 m s v1 a b c e [] w2 w3 w4 w5 x12 v13 v14 ds (ds.length : Int) 0 = kx2 s v1 a b c e ds w2 w3 w4 w5 x12 v13 v14 := by
 refine range_copy ds (fun m z j => g37_5L n kx2 m s v1 a b c e z w2 w3 w4 w5 x12 v13 v14 ds (ds.length : Int) (j : Int)) (fun z => kx2 s v1 a b c e z w2 w3 w4 w5 x12 v13 v14) (fun m z j hj hz => ?_) (fun m z hz => by rw [g37_5L.eq_2, g37_4, bdF (by omega)]) m hm
 rw [g37_5L.eq_2, g37_4, bdT (by omega), idx_ok (by omega) (by omega)]
 simp only [rd_zero, rd_at hj]
 rw [roomy_ok (by simp only [List.length_cons, List.length_nil]; omega), w64_id (by omega) (by omega)]
 rfl
theorem deepCopy_ok (hn : Big ≤ n) (p0) (x : List Ptt) (hl : x.length ≤ 1000000) (h : ∀ p ∈ x, p.1.length ≤ 1000000) : g37 n p0 x = some (x, ()) := by
 have hB : (4611686018427387904 : Nat) ≤ n := hn
 dsimp only [g37, g37_15, g37_1, g37_13, g37_12, g37_14]
 refine range_copy x (fun m s i => g37_12L n (fun x5 => some (x5, ())) m s x (x.length : Int) (i : Int)) (fun s => some (s, ())) (fun m s i hi hs => ?_) (fun m s hs => by rw [g37_12L.eq_2, g37_11, g37_2, bdF (by omega)]) n (by omega)
 rw [g37_12L.eq_2, g37_11, g37_2, bdT (by omega)]
 dsimp only [g37_9, g37_8, g37_3, g37_10, g37_6, g37_5]
 rw [idx_ok (by omega) (by omega)]
 simp only [rd_at hi]
 rw [copyIn (by omega) _ _ _ _ _ _ _ _ _ _ _ _ _ _ _ (h x[i] (by simp)) n (by have := h x[i] (by simp); omega)]
 dsimp only [g37_7]
 rw [roomy_ok (by simp only [List.length_cons, List.length_nil]; omega), w64_id (by omega) (by omega)]
 rfl
end
end Go.Proofs.YtoafkjeamgelgaaYF
