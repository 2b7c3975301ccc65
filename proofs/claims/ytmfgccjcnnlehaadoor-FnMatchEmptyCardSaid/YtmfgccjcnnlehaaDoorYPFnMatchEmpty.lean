/- Plain statements about the printed functions. -/
import Derived.Test.YtmfgccjcnnlehaaDoorYPQ0
import Derived.Test.YtmfgccjcnnlehaaDoorYGA0
import Derived.Test.YtmfgccjcnnlehaaDoorYFB
namespace Go.Proofs.YtmfgccjcnnlehaaDoorYF
open Go
set_option linter.unusedVariables false
set_option linter.unusedSimpArgs false
theorem GoodK.i64 {x : Int} (h : GoodK (.int .i64) x) : -9223372036854775808 ≤ x ∧ x < 9223372036854775808 := by
 have h : (Lit.int .i64 x).wf = true := h
 simp only [Lit.wf, Bool.and_eq_true, decide_eq_true_eq] at h
 have h1 : IntKind.i64.min = -9223372036854775808 := rfl
 have h2 : IntKind.i64.max = 9223372036854775807 := rfl
 omega
theorem looked_ok (n : Nat) (s) (t p : ByteArray) : ∃ b, g17 n s t p = some (b, ()) ∧ (b = true → t.size ≤ 600 ∧ 0 < p.size ∧ (p.size : Int) ≤ s.2.2.2.2.2.2) := by
 dsimp only [g17, g17_1]
 obtain ⟨b, hb⟩ := usable_ex n s
 rw [bind_some' hb]
 cases b with
 | false => exact ⟨false, rfl, fun h => by cases h⟩
 | true =>
  simp only [cond_true]
  by_cases h1 : (t.size : Int) ≤ 600
  ·rw [bdT h1]
   by_cases h2 : (p.size : Int) > 0
   ·rw [bdT h2]
    refine ⟨_, rfl, fun h => ⟨by omega, by omega, by simpa using h⟩⟩
   ·rw [bdF h2]; exact ⟨false, rfl, fun h => by cases h⟩
  ·rw [bdF h1]; exact ⟨false, rfl, fun h => by cases h⟩
theorem min_call (n : Nat) (a b : Nat) : g81 n a b = some (fMin a b, ()) := rfl
theorem max_call (n : Nat) (a b : Nat) : g84 n a b = some (fMax a b, ()) := rfl
theorem matchMain_ok (n : Nat) (p0) (t p : ByteArray) (at_ : Int) (h1 : -9223372036854775808 ≤ at_) (h2 : at_ < 9223372036854775808) (ht : t.size ≤ 600) (hp : p.size ≤ 2147483647) (hne : t ≠ p) (h : t.size = 0 ∨ (max 0 (min at_ (t.size : Int)) + p.size ≤ t.size ∧ cutS t (max 0 (min at_ (t.size : Int))) (max 0 (min at_ (t.size : Int)) + p.size) = p)) :
  g53 n p0 t p at_ = some (if t.size = 0 then -1 else max 0 (min at_ (t.size : Int)), ()) := by
 dsimp only [g53, g53_1]
 rw [min_call, Option.bind_some, max_call, Option.bind_some]
 have hc := clamp_f at_ t.size h1 h2 (by omega)
 simp only
 rw [show floatOfInt .f64 ((t.size : Nat) : Int) = F64 t.size from rfl, hc]
 simp only [onS]
 rw [biF (by rw [strEq_eq]; simpa using hne)]
 by_cases h0 : t.size = 0
 ·rw [biT (by rw [beq_iff_eq]; omega), if_pos h0]
 ·obtain ⟨k1, k2⟩ := h.resolve_left h0
  rw [biF (by rw [beq_eq_false_iff_ne]; omega), if_neg h0, w64_id (by omega) (by omega), bdT k1, bnd_ok (by omega) (by omega) (by omega), k2, biT (by rw [strEq_eq]; simp)]
theorem matchEmpty_law (n : Nat) (hn : Big ≤ n) (s) (p : ByteArray) (at_ : Int) (h1 : -9223372036854775808 ≤ at_) (h2 : at_ < 9223372036854775808) : g6 n s p at_ = some (true, ()) := by
 dsimp only [g6, g6_1]
 by_cases c1 : (p.size : Int) > 2147483647
 ·rw [bdT c1]
 rw [bdF c1]
 obtain ⟨b, e, hl⟩ := looked_ok n s (⟨#[]⟩ : ByteArray) p
 rw [bind_some' e]
 cases b with
 | false => rfl
 | true =>
  obtain ⟨l1, l2, l3⟩ := hl rfl
  simp only [Bool.not_true, cond_false]
  dsimp only [g22, g22_1, g22_2]
  obtain ⟨d, hd⟩ := dmp_any n s
  have hne : (⟨#[]⟩ : ByteArray) ≠ p := fun h => by
   have : (⟨#[]⟩ : ByteArray).size = 0 := rfl
   rw [h] at this; omega
  have hm := matchMain_ok n d (⟨#[]⟩ : ByteArray) p at_ h1 h2 (by decide) (by omega) hne (.inl rfl)
  rw [if_pos (show (⟨#[]⟩ : ByteArray).size = 0 from rfl)] at hm
  rw [bind_some' hd]
  simp only
  rw [bind_some' hm]
  rfl
theorem FnMatchEmpty_pure : ∀ d, GoodA g6_A d → ∃ n, g6_f n d = some (true, ()) := fun d hd => ⟨Big, matchEmpty_law Big (Nat.le_refl _) d.1 d.2.1 d.2.2.1 (GoodK.i64 hd.2.2.1).1 (GoodK.i64 hd.2.2.1).2⟩
end Go.Proofs.YtmfgccjcnnlehaaDoorYF
