/- Lists of characters that are equal; the place of one within another. -/
import Derived.Test.YthkiaiilpaojnaaDoorUPB
import Derived.Test.YthkiaiilpaojnaaDoorUPLoop
import Derived.Test.YthkiaiilpaojnaaDoorUGA0
import Derived.Test.YthkiaiilpaojnaaDoorUGA2
import Derived.Test.YthkiaiilpaojnaaDoorUFB
namespace Go.Proofs.YthkiaiilpaojnaaDoorUF
open Go
set_option linter.unusedVariables false
set_option linter.unusedSimpArgs false
theorem getD_ext {x y : List Int} (h : x.length = y.length) (hv : ∀ j, j < x.length → x.getD j 0 = y.getD j 0) : x = y := by
  apply List.ext_getElem h
  intro j h1 h2
  have := hv j h1
  simpa [List.getD, List.getElem?_eq_getElem h1, List.getElem?_eq_getElem h2] using this
theorem runesEqual_ok (n : Nat) (hn : Big ≤ n) (x y : List Int) (hx : x.length ≤ 1000000000000) : g133 n x y = some (decide (x = y), ()) := by
  dsimp only [g133, g133_6, g133_5, g133_4, g133_3, g133_1]
  by_cases hl : x.length = y.length
  · rw [biF (by simp [hl])]
    have key : ∀ (d i m : Nat), x.length - i = d → i ≤ x.length → d < m → (∀ j, j < i → x.getD j 0 = y.getD j 0) → g133_3L n (fun v4 => @some (DenR [.dat .bool]) (v4, ())) (some (true, ())) m y x (x.length : Int) (i : Int) = some (decide (x = y), ()) := by
      intro d
      induction d with
      | zero =>
        intro i m hd hi hm hv
        obtain ⟨m, rfl⟩ : ∃ m', m = m' + 1 := ⟨m - 1, by omega⟩
        rw [g133_3L.eq_2, g133_2, bdF (by omega), decide_eq_true (getD_ext hl fun j hj => hv j (by omega))]
      | succ d ih =>
        intro i m hd hi hm hv
        obtain ⟨m, rfl⟩ : ∃ m', m = m' + 1 := ⟨m - 1, by omega⟩
        rw [g133_3L.eq_2, g133_2, bdT (by omega), idx_ok (by omega) (by omega), idx_ok (by omega) (by omega), rd_nat, rd_nat]
        by_cases e : x.getD i 0 = y.getD i 0
        · rw [biF (by rw [e]; simp), w64_id (by omega) (by omega)]
          refine ih (i + 1) m (by omega) (by omega) (by omega) fun j hj => ?_
          by_cases hj' : j = i
          · subst hj'; exact e
          · exact hv j (by omega)
        · rw [biT (by simpa using e), decide_eq_false (fun h => e (by rw [h]))]
    exact key x.length 0 n (by omega) (by omega) (by unfold Big at hn; omega) fun j hj => by omega
  · rw [biT (by simp; omega), decide_eq_false (fun h => hl (by rw [h]))]
/-- Where y stands within x. -/
theorem runesIndex_ok (n : Nat) (hn : Big ≤ n) (x y : List Int) (hx : x.length ≤ 1000000000000) (hy : y.length ≤ 1000000000000) :
    (∃ u v, x = u ++ y ++ v ∧ g156 n x y = some ((u.length : Int), ())) ∨ ((∀ u v, x ≠ u ++ y ++ v) ∧ g156 n x y = some (-1, ())) := by
  dsimp only [g156, g156_6, g156_5, g156_4, g156_3, g156_1]
  rw [w64_id (n := (x.length : Int) - y.length) (by omega) (by omega)]
  have key : ∀ (d i m : Nat), x.length + 1 - i = d → d < m → (∀ j, j < i → j + y.length ≤ x.length → (x.drop j).take y.length ≠ y) →
      (∃ u v, x = u ++ y ++ v ∧ g156_3L n (fun v4 => @some (DenR [.dat (.int .i64)]) (v4, ())) (some (-1, ())) m x y ((x.length : Int) - y.length) (i : Int) = some ((u.length : Int), ())) ∨
      ((∀ u v, x ≠ u ++ y ++ v) ∧ g156_3L n (fun v4 => @some (DenR [.dat (.int .i64)]) (v4, ())) (some (-1, ())) m x y ((x.length : Int) - y.length) (i : Int) = some (-1, ())) := by
    intro d
    induction d using Nat.strongRecOn with
    | _ d ih =>
      intro i m hd hm hv
      obtain ⟨m, rfl⟩ : ∃ m', m = m' + 1 := ⟨m - 1, by omega⟩
      rw [g156_3L.eq_2, g156_2]
      by_cases h : i + y.length ≤ x.length
      · rw [bdT (by omega), w64_id (n := (i : Int) + y.length) (by omega) (by omega), bnd_ok (by omega) (by omega) (by omega)]
        have ec : cut x (i : Int) ((i : Int) + y.length) = (x.drop i).take y.length := by
          rw [show (i : Int) + y.length = ((i + y.length : Nat) : Int) by omega, cut_nat]; congr 1; omega
        rw [ec, runesEqual_ok n hn _ _ (by rw [List.length_take, List.length_drop]; omega), Option.bind_some]
        by_cases e : (x.drop i).take y.length = y
        · rw [biT (by simpa using e)]
          refine .inl ⟨x.take i, x.drop (i + y.length), ?_, by rw [show (x.take i).length = i by rw [List.length_take]; omega]⟩
          rw [List.append_assoc]
          conv => rhs; rw [← e]
          rw [List.length_take, List.length_drop, show min y.length (x.length - i) = y.length by omega, ← List.drop_drop, List.take_append_drop, List.take_append_drop]
        · rw [biF (by simpa using e), w64_id (by omega) (by omega)]
          have := ih (d - 1) (by omega) (i + 1) m (by omega) (by omega) fun j hj hjl => by
            by_cases hj' : j = i
            · subst hj'; exact e
            · exact hv j (by omega) hjl
          rw [show ((i : Int) + 1) = ((i + 1 : Nat) : Int) by omega]
          exact this
      · rw [bdF (by omega)]
        refine .inr ⟨fun u v hx' => ?_, rfl⟩
        have hl := congrArg List.length hx'
        simp only [List.length_append] at hl
        refine hv u.length (by omega) (by omega) ?_
        rw [hx', List.append_assoc, List.drop_left, List.take_left]
  exact key (x.length + 1) 0 n (by omega) (by unfold Big at hn; omega) fun j hj => by omega
end Go.Proofs.YthkiaiilpaojnaaDoorUF
