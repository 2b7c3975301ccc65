/- Plain statements about the printed functions. -/
import Derived.Test.YtoafkjeamgelgaaYPQ0
import Derived.Test.YtoafkjeamgelgaaYGA0
import Derived.Test.YtoafkjeamgelgaaYGA1
import Derived.Test.YtoafkjeamgelgaaYFB
namespace Go.Proofs.YtoafkjeamgelgaaYF
open Go
set_option linter.unusedVariables false
set_option linter.unusedSimpArgs false
theorem fits4_ok (n : Nat) (hn : Big ≤ n) (p : Ptt) : (g33 n p = some (true, ()) ∧ p.1.length ≤ 2147483647 ∧ ∀ y ∈ p.1, y.2.size ≤ 2147483647) ∨ g33 n p = some (false, ()) := by
 dsimp only [g33, g33_1]
 rcases fits_ok n hn p.1 with ⟨h, hl, hs⟩ | h
 ·left; refine ⟨?_, hl, hs⟩; rw [h]; rfl
 ·right; rw [h]; rfl
theorem fits3_ok (n : Nat) (hn : Big ≤ n) (xs : List Ptt) : (g9 n xs = some (true, ()) ∧ xs.length ≤ 2147483647 ∧ ∀ p ∈ xs, p.1.length ≤ 2147483647 ∧ ∀ y ∈ p.1, y.2.size ≤ 2147483647) ∨ g9 n xs = some (false, ()) := by
 dsimp only [g9, g9_6, g9_1, g9_4, g9_3, g9_5]
 have hB : (4611686018427387904 : Nat) ≤ n := hn
 by_cases h : (xs.length : Int) > 2147483647
 ·rw [bdT h]; exact .inr rfl
 ·rw [bdF h]
  have key : ∀ (d i m : Nat), xs.length - i = d → i ≤ xs.length → d < m → (∀ j (hj : j < i) (hjx : j < xs.length), xs[j].1.length ≤ 2147483647 ∧ ∀ y ∈ xs[j].1, y.2.size ≤ 2147483647) →
    (g9_3L n (fun v2 => some (v2, ())) (some (true, ())) m xs (xs.length : Int) (i : Int) = some (true, ()) ∧ ∀ j (hj : j < xs.length), xs[j].1.length ≤ 2147483647 ∧ ∀ y ∈ xs[j].1, y.2.size ≤ 2147483647) ∨ g9_3L n (fun v2 => some (v2, ())) (some (true, ())) m xs (xs.length : Int) (i : Int) = some (false, ()) := by
   intro d
   induction d with
   | zero =>
    intro i m hd hi hm ha
    obtain ⟨m, rfl⟩ : ∃ m', m = m' + 1 := ⟨m - 1, by omega⟩
    left
    refine ⟨?_, fun j hj => ha j (by omega) hj⟩
    rw [g9_3L.eq_2, g9_2, bdF (by omega)]
   | succ d ih =>
    intro i m hd hi hm ha
    obtain ⟨m, rfl⟩ : ∃ m', m = m' + 1 := ⟨m - 1, by omega⟩
    have hi' : i < xs.length := by omega
    have e : ∀ g, g9_3L n (fun v2 => some (v2, ())) (some (true, ())) (g + 1) xs (xs.length : Int) (i : Int) = (g33 n xs[i]).bind fun r1 => bif (!r1.1) then some (false, ()) else g9_3L n (fun v2 => some (v2, ())) (some (true, ())) g xs (xs.length : Int) ((i + 1 : Nat) : Int) := fun g => by
     rw [g9_3L.eq_2, g9_2, bdT (by omega), idx_ok (by omega) (by omega), rd_zero rfl, rd_at hi', w64_id (by omega) (by omega)]; rfl
    rw [e]
    rcases fits4_ok n hn xs[i] with ⟨h4, h5, h6⟩ | h4
    ·rw [h4]
     exact ih (i + 1) m (by omega) (by omega) (by omega) (fun j hj hjx => by
      by_cases hji : j = i
      ·subst hji; exact ⟨h5, h6⟩
      ·exact ha j (by omega) hjx)
    ·rw [h4]; exact .inr rfl
  rcases key xs.length 0 n (by omega) (by omega) (by omega) (fun j hj => by omega) with ⟨e, ha⟩ | e
  ·refine .inl ⟨e, by omega, fun p hp => ?_⟩
   obtain ⟨i, hi, rfl⟩ := List.getElem_of_mem hp
   exact ha i hi
  ·exact .inr e
theorem patchCopy_law (n : Nat) (hn : Big ≤ n) (xs : List Ptt) : g3 n xs = some (true, ()) := by
 dsimp only [g3, g3_1]
 rcases fits3_ok n hn xs with ⟨h, hl, hs⟩ | h
 ·obtain ⟨l, e1, e2, e3⟩ := ptGiven_ok n hn xs hl hs
  have hlm : (l.map embP).length = l.length := List.length_map _
  have hp : ∀ p ∈ l.map embP, p.1.length ≤ 1000000 := fun p hp => by
   obtain ⟨q, hq, rfl⟩ := List.mem_map.1 hp
   have := (e3 q hq).1
   show (q.1.map emb).length ≤ _
   rw [List.length_map]; omega
  have hdc : g12 n (l.map embP) = some (l.map embP, ()) := by
   dsimp only [g12, g12_1]
   rw [show g36 n = some ((1000000000, (4, (1000, (4602678819172646912, (4, (32, 4602678819172646912)))))), ()) from rfl, Option.bind_some, all_ok hn l (by omega) e3, Option.bind_some, deepCopy_ok hn _ _ (by omega) hp, Option.bind_some, patches_ok hn l (by omega) e3]
   rfl
  rw [h, Option.bind_some, biF (c := !true) rfl, e1, Option.bind_some, hdc, Option.bind_some, samePatches_self hn _ (by omega) hp]
  rfl
 ·rw [h]; rfl
theorem FnPatchCopy_pure : ∀ d, GoodA g3_A d → ∃ n, g3_f n d = some (true, ()) := fun d _ => ⟨Big, patchCopy_law Big (Nat.le_refl _) d.1⟩
end Go.Proofs.YtoafkjeamgelgaaYF
