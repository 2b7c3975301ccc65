/- Plain statements about the printed functions. -/
import Derived.Test.YtmfgccjcnnlehaaDoorYPQ0
import Derived.Test.YtmfgccjcnnlehaaDoorYGA0
import Derived.Test.YtmfgccjcnnlehaaDoorYFB
namespace Go.Proofs.YtmfgccjcnnlehaaDoorYF
open Go
set_option linter.unusedVariables false
set_option linter.unusedSimpArgs false
theorem clampI (a b : Int) : maxI 0 (minI a b) = max 0 (min a b) := by
 unfold maxI minI
 repeat' split
 all_goals omega
theorem stands_ok (n : Nat) (t p : ByteArray) (c : Int) (hc : -1000 ≤ c) (hc2 : c ≤ 1000) (hp : p.size ≤ 2147483647) : ∃ b, g21 n t p c = some (b, ()) ∧ (b = true → 0 ≤ c ∧ c + p.size ≤ t.size ∧ cutS t c (c + p.size) = p) := by
 dsimp only [g21, g21_1]
 by_cases h1 : c ≥ 0
 ·rw [bdT h1, w64_id (by omega) (by omega)]
  by_cases h2 : c + (p.size : Int) ≤ (t.size : Int)
  ·rw [bdT h2, bnd_ok (by omega) (by omega) (by omega)]
   refine ⟨_, rfl, fun h => ⟨by omega, h2, ?_⟩⟩
   rw [strEq_eq] at h
   simpa using h
  ·rw [bdF h2]; exact ⟨false, rfl, fun h => by cases h⟩
 ·rw [bdF h1]; exact ⟨false, rfl, fun h => by cases h⟩
theorem matchHere_law (n : Nat) (hn : Big ≤ n) (s) (t p : ByteArray) (at_ : Int) (h1 : -9223372036854775808 ≤ at_) (h2 : at_ < 9223372036854775808) : g7 n s t p at_ = some (true, ()) := by
 dsimp only [g7, g7_1]
 by_cases c1 : (t.size : Int) > 2147483647
 ·rw [bdT c1]
 by_cases c2 : (p.size : Int) > 2147483647
 ·rw [bdF c1, bdT c2]
 rw [bdF c1, bdF c2]
 obtain ⟨b, e, hl⟩ := looked_ok n s t p
 rw [bind_some' e]
 cases b with
 | false => rfl
 | true =>
  obtain ⟨l1, l2, l3⟩ := hl rfl
  simp only [Bool.not_true, cond_false]
  have hcl : g23 n at_ (t.size : Int) = some (max 0 (min at_ (t.size : Int)), ()) := by
   dsimp only [g23, g23_1]; rw [clampI]
  rw [bind_some' hcl]
  simp only
  obtain ⟨b2, e2, hs⟩ := stands_ok n t p (max 0 (min at_ (t.size : Int))) (by omega) (by omega) (by omega)
  rw [bind_some' e2]
  cases b2 with
  | false => rfl
  | true =>
   obtain ⟨s1, s2, s3⟩ := hs rfl
   simp only [Bool.not_true, cond_false]
   by_cases htp : t = p
   ·rw [biT (by rw [strEq_eq]; simpa using htp)]
   ·rw [biF (by rw [strEq_eq]; simpa using htp)]
    dsimp only [g22, g22_1, g22_2]
    obtain ⟨d, hd⟩ := dmp_any n s
    have hm := matchMain_ok n d t p at_ h1 h2 l1 (by omega) htp (.inr ⟨s2, s3⟩)
    rw [if_neg (by omega)] at hm
    rw [bind_some' hd]
    simp only
    rw [bind_some' hm]
    simp only [Option.bind_some]
    first | rw [bind_some' hcl] | skip
    simp
    try rw [bind_some' hcl]
    try simp
theorem FnMatchHere_pure : ∀ d, GoodA g7_A d → ∃ n, g7_f n d = some (true, ()) := fun d hd => ⟨Big, matchHere_law Big (Nat.le_refl _) d.1 d.2.1 d.2.2.1 d.2.2.2.1 (GoodK.i64 hd.2.2.2.1).1 (GoodK.i64 hd.2.2.2.1).2⟩
end Go.Proofs.YtmfgccjcnnlehaaDoorYF
