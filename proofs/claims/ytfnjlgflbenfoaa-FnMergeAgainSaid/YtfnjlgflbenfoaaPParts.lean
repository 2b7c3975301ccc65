/- Parts of differences: what the laws' helpers make of them. -/
import Derived.Test.YtfnjlgflbenfoaaPB
import Derived.Test.YtfnjlgflbenfoaaPLoop
import Derived.Test.YtfnjlgflbenfoaaPUtf
import Derived.Test.YtfnjlgflbenfoaaPEnc
import Derived.Test.YtfnjlgflbenfoaaGA0
import Derived.Test.YtfnjlgflbenfoaaGA3
import Derived.Test.YtfnjlgflbenfoaaFB
namespace Go.Proofs.YtfnjlgflbenfoaaF
open Go
set_option linter.unusedVariables false
set_option linter.unusedSimpArgs false
@[reducible] def Prt := Int × ByteArray
@[reducible] def Rp := Int × List Int
/-- A part, its text written. -/
def emb (d : Rp) : Prt := (d.1, enc d.2)
/-- A part of one of the three kinds, of characters. -/
def OkR (d : Rp) : Prop := (d.1 = -1 ∨ d.1 = 0 ∨ d.1 = 1) ∧ Valids d.2
theorem clean_ok (n : Nat) (a : ByteArray) (m : Nat) (h : a.size ≤ 70368744177664) : g21 n a (m : Int) = some (enc ((runesOf a).take m), ()) := by
  have hl := runesOf_length a
  dsimp only [g21, g21_1, g28, g28_1]
  rw [room46_ok h, Option.bind_some]
  have e : minI ((runesOf a).length : Int) (m : Int) = ((min (runesOf a).length m : Nat) : Int) := by unfold minI; split <;> omega
  dsimp only
  rw [e, bnd_ok (by omega) (by omega) (by omega), cut_from]
  congr 3
  rw [show (0 + (((min (runesOf a).length m : Nat) : Int) - 0)).toNat = min (runesOf a).length m by omega, Nat.min_comm, List.take_eq_take_iff]
  omega
theorem runesOk (n : Nat) (a : ByteArray) (h : a.size ≤ 70368744177664) : g28 n a = some (runesOf a, ()) := by
  dsimp only [g28, g28_1]; rw [room46_ok h]
theorem runesOk_enc (n : Nat) (x : List Int) (hx : Valids x) (h : (enc x).size ≤ 70368744177664) : g28 n (enc x) = some (x, ()) := by
  rw [runesOk n _ h, runes_enc hx]
def fitsB (x : Prt) : Bool := decide (x.2.size ≤ 2147483647)
theorem fits2_ok (n : Nat) (x : Prt) : g20 n x = some (fitsB x, ()) := by
  dsimp only [g20, g20_1]
  unfold fitsB
  by_cases h : (x.2.size : Int) > 2147483647
  · rw [bdT h, decide_eq_false (by omega)]
  · rw [bdF h, decide_eq_true (by omega)]
theorem fits_ok (n : Nat) (hn : Big ≤ n) (xs : List Prt) : (g9 n xs = some (true, ()) ∧ xs.length ≤ 2147483647 ∧ ∀ y ∈ xs, y.2.size ≤ 2147483647) ∨ g9 n xs = some (false, ()) := by
  dsimp only [g9, g9_6, g9_1]
  by_cases h : (xs.length : Int) > 2147483647
  · rw [bdT h]; exact .inr rfl
  · rw [bdF h]
    have hB : (4611686018427387904 : Nat) ≤ n := hn
    have h1 : ∀ m i (hi : i < xs.length), (∀ j (hj : j < i), (fun (_ : Nat) x => !fitsB x) j (xs[j]'(by omega)) = false) →
        g9_3L n (fun v2 => some (v2, ())) (g9_5 n (fun v2 => some (v2, ()))) (m + 1) xs (xs.length : Int) (i : Int) = if (fun (_ : Nat) x => !fitsB x) i xs[i] = true then (fun _ _ => some (false, ())) i hi else g9_3L n (fun v2 => some (v2, ())) (g9_5 n (fun v2 => some (v2, ()))) m xs (xs.length : Int) ((i + 1 : Nat) : Int) := by
      intro m i hi _
      rw [g9_3L.eq_2, g9_2, bdT (by omega), idx_ok (by omega) (by omega), rd_zero rfl, rd_at hi, fits2_ok, Option.bind_some]
      cases hfb : fitsB xs[i] with
      | true =>
        rw [if_neg (by simp [hfb])]
        show g9_3L n (fun v2 => some (v2, ())) (g9_5 n (fun v2 => some (v2, ()))) m xs (xs.length : Int) (w64 ((i : Int) + 1)) = _
        rw [w64_id (by omega) (by omega)]; rfl
      | false => rw [if_pos (by simp [hfb])]; rfl
    rcases range_find xs (fun m i => g9_3L n (fun v2 => some (v2, ())) (g9_5 n (fun v2 => some (v2, ()))) m xs (xs.length : Int) (i : Int)) (fun _ _ => some (false, ())) (some (true, ())) (fun _ x => !fitsB x) h1 (fun m _ => by rw [g9_3L.eq_2, g9_2, bdF (by omega)]; rfl) n (by omega) with ⟨i, hi, _, _, e⟩ | ⟨hall, e⟩
    · exact .inr e
    · refine .inl ⟨e, by omega, fun y hy => ?_⟩
      obtain ⟨i, hi, rfl⟩ := List.getElem_of_mem hy
      have := hall i hi
      simpa [fitsB] using this
/-- The kind of a part, of any number. -/
def opOf (n : Int) : Int := if Int.tmod n 3 = 2 then -1 else if Int.tmod n 3 = -2 then 1 else Int.tmod n 3
theorem tmod3 (n : Int) : Int.tmod n 3 = -2 ∨ Int.tmod n 3 = -1 ∨ Int.tmod n 3 = 0 ∨ Int.tmod n 3 = 1 ∨ Int.tmod n 3 = 2 := by
  have h1 := Int.tmod_lt_of_pos n (show (0 : Int) < 3 by omega)
  have h2 := Int.lt_tmod_of_pos n (show (0 : Int) < 3 by omega)
  omega
theorem opOf_range (n : Int) : opOf n = -1 ∨ opOf n = 0 ∨ opOf n = 1 := by
  unfold opOf
  rcases tmod3 n with h | h | h | h | h <;> simp [h]
def partOf (y : Prt) : Rp := (opOf y.1, (runesOf y.2).take 30)
def partsOf (m : Nat) (xs : List Prt) : List Rp := (xs.take m).map partOf
theorem partsOf_ok (m : Nat) (xs : List Prt) : ∀ y ∈ partsOf m xs, OkR y ∧ y.2.length ≤ 30 := by
  intro y hy
  obtain ⟨z, _, rfl⟩ := List.mem_map.1 hy
  exact ⟨⟨opOf_range _, (runesOf_valid _).take _⟩, List.length_take_le _ _⟩
theorem partsOf_length (m : Nat) (xs : List Prt) : (partsOf m xs).length ≤ m := by simp [partsOf]; omega
theorem parted_ok (n : Nat) (hn : Big ≤ n) (xs : List Prt) (hl : xs.length ≤ 2147483647) (hs : ∀ y ∈ xs, y.2.size ≤ 2147483647) (m : Nat) (hm : m ≤ 1000000) : g10 n xs (m : Int) = some ((partsOf m xs).map emb, ()) := by
  have hB : (4611686018427387904 : Nat) ≤ n := hn
  dsimp only [g10, g10_6, g10_1, g10_4, g10_3, g10_5]
  have key : ∀ (d i g : Nat), min m xs.length - i = d → i ≤ min m xs.length → d < g → g10_3L n (fun x4 => some (x4, ())) g xs (m : Int) ((partsOf i xs).map emb) (i : Int) = some ((partsOf m xs).map emb, ()) := by
    intro d
    induction d with
    | zero =>
      intro i g hd hi hg
      obtain ⟨g, rfl⟩ : ∃ g', g = g' + 1 := ⟨g - 1, by omega⟩
      rw [g10_3L.eq_2, g10_2]
      have e : partsOf i xs = partsOf m xs := by unfold partsOf; congr 1; rw [List.take_eq_take_iff]; omega
      by_cases h : i < xs.length
      · rw [bdT (by omega), bdF (by omega), e]
      · rw [bdF (by omega), e]
    | succ d ih =>
      intro i g hd hi hg
      obtain ⟨g, rfl⟩ : ∃ g', g = g' + 1 := ⟨g - 1, by omega⟩
      have hi' : i < xs.length := by omega
      have := ih (i + 1) g (by omega) (by omega) (by omega)
      have hstep : (partsOf (i + 1) xs).map emb = (partsOf i xs).map emb ++ [(opOf xs[i].1, enc ((runesOf xs[i].2).take 30))] := by
        unfold partsOf
        rw [List.take_succ_eq_append_getElem hi', List.map_append, List.map_append]; rfl
      have hlen : ((partsOf i xs).map emb).length ≤ m := by rw [List.length_map]; have := partsOf_length i xs; omega
      have hsz := hs xs[i] (by simp)
      rw [g10_3L.eq_2, g10_2, bdT (by omega), bdT (by omega), idx_ok (by omega) (by omega)]
      simp only [rd_at hi']
      rw [show (30 : Int) = ((30 : Nat) : Int) from rfl, clean_ok n _ 30 (by omega)]
      simp only [Option.bind_some]
      have hw : w64 ((i : Int) + 1) = ((i + 1 : Nat) : Int) := by rw [w64_id (by omega) (by omega)]; omega
      rw [hw]
      rw [hstep] at this
      unfold opOf at this
      rcases tmod3 xs[i].1 with h | h | h | h | h
      all_goals
        rw [h] at this ⊢
        simp only [show ((-2 : Int) = 2) = False by simp, show ((-1 : Int) = 2) = False by simp, show ((0 : Int) = 2) = False by simp, show ((1 : Int) = 2) = False by simp, show ((-1 : Int) = -2) = False by simp, show ((0 : Int) = -2) = False by simp, show ((1 : Int) = -2) = False by simp, if_true, if_false, if_pos, if_neg, not_false_eq_true] at this
        simp only [show ((-2 : Int) == 2) = false from rfl, show ((-2 : Int) == -2) = true from rfl, show ((2 : Int) == 2) = true from rfl, show ((-1 : Int) == 2) = false from rfl, show ((-1 : Int) == -2) = false from rfl, show ((0 : Int) == 2) = false from rfl, show ((0 : Int) == -2) = false from rfl, show ((1 : Int) == 2) = false from rfl, show ((1 : Int) == -2) = false from rfl, cond_true, cond_false]
        rw [idx_ok (by omega) (by omega), roomy_ok (by simp only [List.length_append, List.length_cons, List.length_nil]; omega)]
        exact this
  exact key (min m xs.length) 0 n (by omega) (by omega) (by omega)
theorem operation_ok (n : Nat) (v : Int) (h : v = -1 ∨ v = 0 ∨ v = 1) : g41 n v = some (v, ()) := by
  rcases h with rfl | rfl | rfl <;> rfl
theorem made_ok (n : Nat) (hn : Big ≤ n) (xs : List Rp) (hl : xs.length ≤ 1000000) (ho : ∀ y ∈ xs, OkR y) : g33 n (xs.map emb) = some (xs.map emb, ()) := by
  have hB : (4611686018427387904 : Nat) ≤ n := hn
  dsimp only [g33, g33_6, g33_1, g33_4, g33_3, g33_5]
  have e := range_fold (xs.map emb) (fun m s i => g33_3L n (fun x4 => some (x4, ())) m s (xs.map emb) ((xs.map emb).length : Int) (i : Int)) (fun s => some (s, ())) (fun s x => s ++ [x]) (fun i s => s.length = i)
    (fun m s i hi hs => by
      have hi' : i < xs.length := by simpa using hi
      refine ⟨?_, by simp [hs]⟩
      have hlm : (xs.map emb).length = xs.length := List.length_map _
      have hop := (ho xs[i] (by simp)).1
      have hg : (xs.map emb)[i] = emb xs[i] := List.getElem_map _
      rw [g33_3L.eq_2, g33_2, bdT (by omega), idx_ok (by omega) (by omega)]
      simp only [rd_at hi, rd_zero rfl]
      rw [hg, operation_ok n (emb xs[i]).1 hop, Option.bind_some, roomy_ok (by simp only [List.length_cons, List.length_nil]; omega), w64_id (by omega) (by omega)]
      rfl)
    (fun m s hs => by rw [g33_3L.eq_2, g33_2, bdF (by omega)]) n [] (by simp; omega) rfl
  refine Eq.trans e ?_
  have hf : ∀ (l : List Prt) (s : List Prt), l.foldl (fun s x => s ++ [x]) s = s ++ l := by
    intro l
    induction l with
    | nil => intro s; simp
    | cons x l ih => intro s; rw [List.foldl_cons, ih]; simp
  rw [hf]; rfl
theorem list_ok (n : Nat) (hn : Big ≤ n) (xs : List Rp) (hl : xs.length ≤ 1000000) (ho : ∀ y ∈ xs, OkR y) : g30 n (xs.map emb) = some (xs.map emb, ()) := by
  have hB : (4611686018427387904 : Nat) ≤ n := hn
  dsimp only [g30, g30_6, g30_1, g30_4, g30_3, g30_5]
  have e := range_fold (xs.map emb) (fun m s i => g30_3L n (fun x4 => some (x4, ())) m s (xs.map emb) ((xs.map emb).length : Int) (i : Int)) (fun s => some (s, ())) (fun s x => s ++ [x]) (fun i s => s.length = i)
    (fun m s i hi hs => by
      have hi' : i < xs.length := by simpa using hi
      refine ⟨?_, by simp [hs]⟩
      have hlm : (xs.map emb).length = xs.length := List.length_map _
      have hop := (ho xs[i] (by simp)).1
      have hg : (xs.map emb)[i] = emb xs[i] := List.getElem_map _
      rw [g30_3L.eq_2, g30_2, bdT (by omega), idx_ok (by omega) (by omega)]
      simp only [rd_at hi, rd_zero rfl]
      have hw : w64 (emb xs[i]).1 = (emb xs[i]).1 := w64_id (by show _ ≤ xs[i].1; omega) (by show xs[i].1 < _; omega)
      rw [hg, hw, roomy_ok (by simp only [List.length_cons, List.length_nil]; omega), w64_id (by omega) (by omega)]
      rfl)
    (fun m s hs => by rw [g30_3L.eq_2, g30_2, bdF (by omega)]) n [] (by simp; omega) rfl
  refine Eq.trans e ?_
  have hf : ∀ (l : List Prt) (s : List Prt), l.foldl (fun s x => s ++ [x]) s = s ++ l := by
    intro l
    induction l with
    | nil => intro s; simp
    | cons x l ih => intro s; rw [List.foldl_cons, ih]; simp
  rw [hf]; rfl
end Go.Proofs.YtfnjlgflbenfoaaF
