/- splice: some elements are replaced. -/
import Derived.Test.YthkiaiilpaojnaaDoorUPB
import Derived.Test.YthkiaiilpaojnaaDoorUPLoop
import Derived.Test.YthkiaiilpaojnaaDoorUGA0
import Derived.Test.YthkiaiilpaojnaaDoorUFB
namespace Go.Proofs.YthkiaiilpaojnaaDoorUF
open Go
set_option linter.unusedVariables false
set_option linter.unusedSimpArgs false
theorem pasted_fit {α : Type} (xs ys : List α) (o : Nat) (l : Int) (hl : l.toNat = xs.length - o) (h : o + ys.length ≤ xs.length) : pasted xs (o : Int) l ys = xs.take o ++ ys ++ xs.drop (o + ys.length) := by
  unfold pasted
  have : min l.toNat ys.length = ys.length := by omega
  rw [this, List.take_length]; simp
theorem pasted_fit' {α : Type} (xs ys : List α) (o l : Int) (ho : 0 ≤ o) (hl : l = xs.length - o) (h : o + ys.length ≤ xs.length) : pasted xs o l ys = xs.take o.toNat ++ ys ++ xs.drop (o.toNat + ys.length) := by
  have := pasted_fit xs ys o.toNat l (by omega) (by omega)
  rwa [show ((o.toNat : Nat) : Int) = o by omega] at this
theorem length_pasted {α : Type} (xs ys : List α) (o l : Int) (ho : 0 ≤ o) (hl : l = xs.length - o) (h : o + ys.length ≤ xs.length) : (pasted xs o l ys).length = xs.length := by
  rw [pasted_fit' xs ys o l ho hl h]; simp; omega
abbrev Dif := Int × ByteArray
abbrev dz : Dif := ((0 : Int), (⟨#[]⟩ : ByteArray))
/-- The stranded elements are emptied: the others stay. -/
theorem clear_loop {β : Type} (n : Nat) (k : List Dif → Int → Option β) (e o l : Int) (he : 0 ≤ e) (ho : e ≤ o) (hl : 0 ≤ l) : ∀ (d i m : Nat) (xs : List Dif), l.toNat - i = d → i ≤ l.toNat → d < m → l < 1000000000000 → ∃ ys, ys.take e.toNat = xs.take e.toNat ∧ ys.length = xs.length ∧ g113_4L n k m xs e o l l (i : Int) = k ys e := by
  intro d
  induction d with
  | zero =>
    intro i m xs hd hi hm hb
    obtain ⟨m, rfl⟩ : ∃ m', m = m' + 1 := ⟨m - 1, by omega⟩
    refine ⟨xs, rfl, rfl, ?_⟩
    rw [g113_4L.eq_2, g113_3, bdF (by omega)]
  | succ d ih =>
    intro i m xs hd hi hm hb
    obtain ⟨m, rfl⟩ : ∃ m', m = m' + 1 := ⟨m - 1, by omega⟩
    obtain ⟨ys, h1, h2, h3⟩ := ih (i + 1) m (xs.set (o + i).toNat dz) (by omega) (by omega) (by omega) hb
    refine ⟨ys, h1.trans ?_, h2.trans (by simp), ?_⟩
    · rw [List.take_set, List.set_eq_of_length_le (by simp; omega)]
    · rw [g113_4L.eq_2, g113_3, bdT (by omega), idx_ok (by omega) (by omega), w64_id (by omega) (by omega)]
      exact h3
theorem grow_loop {β : Type} (n : Nat) (k : List Dif → Int → Int → List Dif → Option β) (a b : Int) (es : List Dif) (need : Nat) (hneed : need < 1000000000000) : ∀ (d m : Nat) (xs : List Dif), need - xs.length = d → xs.length ≤ need → d < m →
    g113_12L n k m xs a b es (need : Int) = k (xs ++ List.replicate d dz) a b es := by
  intro d
  induction d with
  | zero =>
    intro m xs hd hi hm
    obtain ⟨m, rfl⟩ : ∃ m', m = m' + 1 := ⟨m - 1, by omega⟩
    rw [g113_12L.eq_2, g113_11, bdF (by omega)]; simp
  | succ d ih =>
    intro m xs hd hi hm
    obtain ⟨m, rfl⟩ : ∃ m', m = m' + 1 := ⟨m - 1, by omega⟩
    rw [g113_12L.eq_2, g113_11, bdT (by omega), roomy_ok (by simp; omega), ih m (xs ++ [dz]) (by simp; omega) (by simp; omega) (by omega)]
    simp [List.replicate_succ]
theorem splice_ok (n : Nat) (hn : Big ≤ n) (xs es : List Dif) (i a : Nat) (h : i + a ≤ xs.length) (hx : xs.length ≤ 100000000000) (he : es.length ≤ 100000000000) :
    g113 n xs (i : Int) (a : Int) es = some (xs.take i ++ es ++ xs.drop (i + a), ()) := by
  dsimp only [g113, g113_15, g113_1]
  by_cases h1 : es.length = a
  · rw [biT (by simp; omega), bnd_ok (by omega) (by omega) (by omega), Int.add_zero, pasted_fit' _ _ _ _ (by omega) (by omega) (by omega), h1]
    simp
  · rw [biF (by simp; omega)]
    dsimp only [g113_9]
    by_cases h2 : es.length < a
    · rw [bdT (by omega)]
      dsimp only [g113_7, g113_2]
      have e1 : pasted xs ((i : Int) + 0) ((xs.length : Int) - i) es = xs.take i ++ es ++ xs.drop (i + es.length) := by
        rw [Int.add_zero, pasted_fit' _ _ _ _ (by omega) (by omega) (by omega)]; simp
      have l1 : (pasted xs ((i : Int) + 0) ((xs.length : Int) - i) es).length = xs.length := length_pasted _ _ _ _ (by omega) (by omega) (by omega)
      simp only [w64_id (n := (i : Int) + (es.length : Int)) (by omega) (by omega), w64_id (n := (i : Int) + (a : Int)) (by omega) (by omega)]
      generalize hP : pasted xs ((i : Int) + 0) ((xs.length : Int) - i) es = Q at e1 l1
      have hc : cut Q ((i : Int) + (a : Int)) ((i : Int) + (a : Int) + ((Q.length : Int) - ((i : Int) + (a : Int)))) = Q.drop (i + a) := by
        rw [cut_to _ _ _ (by omega)]; congr 1
      have hcd : Q.drop (i + a) = xs.drop (i + a) := by
        rw [e1, List.append_assoc, List.drop_append, List.drop_append]
        simp only [List.length_take, List.drop_drop]
        rw [List.drop_eq_nil_of_le (by simp; omega), List.drop_eq_nil_of_le (by omega)]
        simp only [List.nil_append]
        congr 1; omega
      rw [hc, hcd]
      have e2 : pasted Q ((i : Int) + (es.length : Int) + 0) ((Q.length : Int) - ((i : Int) + (es.length : Int))) (xs.drop (i + a)) = Q.take (i + es.length) ++ xs.drop (i + a) ++ Q.drop (i + es.length + (xs.length - (i + a))) := by
        rw [Int.add_zero, pasted_fit' _ _ _ _ (by omega) (by omega) (by simp; omega)]
        have : ((i : Int) + (es.length : Int)).toNat = i + es.length := by omega
        rw [this]; simp
      have l2 : (pasted Q ((i : Int) + (es.length : Int) + 0) ((Q.length : Int) - ((i : Int) + (es.length : Int))) (xs.drop (i + a))).length = xs.length := by
        rw [length_pasted _ _ _ _ (by omega) (by omega) (by simp; omega), l1]
      have e3 : Q.take (i + es.length) = xs.take i ++ es := by
        rw [e1]
        have : (xs.take i ++ es).length = i + es.length := by simp; omega
        rw [← this, List.take_left']; rfl
      rw [e3] at e2
      generalize pasted Q ((i : Int) + (es.length : Int) + 0) ((Q.length : Int) - ((i : Int) + (es.length : Int))) (xs.drop (i + a)) = R at e2 l2
      rw [l2, l1, w64_id (n := (xs.length : Int) - (a : Int)) (by omega) (by omega), w64_id (n := (xs.length : Int) - (a : Int) + (es.length : Int)) (by omega) (by omega)]
      rw [bnd_ok (by omega) (by omega) (by omega), bnd_ok (by omega) (by omega) (by omega), bnd_ok (by omega) (by omega) (by omega), bnd_ok (by omega) (by omega) (by omega)]
      dsimp only [g113_5, g113_4]
      obtain ⟨ys, h4, h5, h6⟩ := clear_loop n (fun x0 v9 => g113_6 n (fun x8 => some (x8, ())) x0 v9) ((xs.length : Int) - a + es.length) ((xs.length : Int) - a + es.length) ((xs.length : Int) - ((xs.length : Int) - a + es.length)) (by omega) (by omega) (by omega) ((xs.length : Int) - ((xs.length : Int) - a + es.length)).toNat 0 n R (by omega) (by omega) (by unfold Big at hn; omega) (by omega)
      refine Eq.trans h6 ?_
      dsimp only [g113_6]
      rw [bnd_ok (by omega) (by omega) (by omega)]
      have hcut : cut ys 0 (0 + ((xs.length : Int) - a + es.length - 0)) = R.take ((xs.length : Int) - a + es.length).toNat := by
        rw [cut_from, ← h4]; congr 1; omega
      rw [hcut, e2]
      have hlen : (xs.take i ++ es ++ xs.drop (i + a)).length = ((xs.length : Int) - a + es.length).toNat := by simp; omega
      rw [← hlen, List.take_left']
      rfl
    · rw [bdF (by omega)]
      dsimp only [g113_8, g113_10, g113_13, g113_12]
      rw [w64_id (n := (xs.length : Int) - (a : Int)) (by omega) (by omega), w64_id (n := (xs.length : Int) - (a : Int) + (es.length : Int)) (by omega) (by omega)]
      have hneed : (xs.length : Int) - (a : Int) + (es.length : Int) = ((xs.length - a + es.length : Nat) : Int) := by omega
      refine Eq.trans (b := g113_12L n (fun x0 v1 v2 x3 => g113_14 n (fun x8 => some (x8, ())) x0 v1 v2 x3) n xs (i : Int) (a : Int) es ((xs.length - a + es.length : Nat) : Int)) (by rw [hneed]) ?_
      rw [grow_loop n _ (i : Int) (a : Int) es (xs.length - a + es.length) (by omega) (es.length - a) n xs (by omega) (by omega) (by unfold Big at hn; omega)]
      dsimp only [g113_14]
      generalize hG : xs ++ List.replicate (es.length - a) dz = G
      have lG : G.length = xs.length + (es.length - a) := by rw [← hG]; simp
      simp only [w64_id (n := (i : Int) + (es.length : Int)) (by omega) (by omega), w64_id (n := (i : Int) + (a : Int)) (by omega) (by omega)]
      have hc : cut G ((i : Int) + (a : Int)) ((i : Int) + (a : Int) + ((G.length : Int) - ((i : Int) + (a : Int)))) = G.drop (i + a) := by
        rw [cut_to _ _ _ (by omega)]; congr 1
      rw [hc]
      -- what is shifted may be longer than the room: only what fits is copied
      have e2 : pasted G ((i : Int) + (es.length : Int) + 0) ((G.length : Int) - ((i : Int) + (es.length : Int))) (G.drop (i + a)) = G.take (i + es.length) ++ xs.drop (i + a) := by
        unfold pasted
        have hm : min ((G.length : Int) - ((i : Int) + (es.length : Int))).toNat (G.drop (i + a)).length = xs.length - (i + a) := by simp; omega
        rw [hm, Int.add_zero, show ((i : Int) + (es.length : Int)).toNat = i + es.length by omega, show G.drop (i + es.length + (xs.length - (i + a))) = [] from List.drop_eq_nil_of_le (by omega), List.append_nil]
        congr 1
        rw [← hG, List.drop_append, List.take_append_of_le_length (by simp), List.take_of_length_le (by simp)]
      have l2 : (pasted G ((i : Int) + (es.length : Int) + 0) ((G.length : Int) - ((i : Int) + (es.length : Int))) (G.drop (i + a))).length = G.length := by
        rw [e2]; simp; omega
      rw [bnd_ok (by omega) (by omega) (by omega), bnd_ok (by omega) (by omega) (by omega), bnd_ok (by omega) (by omega) (by omega)]
      simp only [Int.add_zero] at e2 l2 ⊢
      rw [pasted_fit' _ _ _ _ (by omega) rfl (by rw [l2]; omega), e2]
      have h7 : (G.take (i + es.length) ++ xs.drop (i + a)).take (i : Int).toNat = xs.take i := by
        rw [List.take_append_of_le_length (by simp; omega), List.take_take, ← hG, List.take_append_of_le_length (by simp; omega)]
        congr 1; omega
      have h8 : (G.take (i + es.length) ++ xs.drop (i + a)).drop ((i : Int).toNat + es.length) = xs.drop (i + a) := by
        have : (G.take (i + es.length)).length = (i : Int).toNat + es.length := by simp; omega
        rw [← this, List.drop_left']; rfl
      rw [h7, h8]
end Go.Proofs.YthkiaiilpaojnaaDoorUF
