/- Plain statements about the printed functions. -/
import Derived.Test.YtoafkjeamgelgaaDoorZPQ0
import Derived.Test.YtoafkjeamgelgaaDoorZGA0
import Derived.Test.YtoafkjeamgelgaaDoorZFB
namespace Go.Proofs.YtoafkjeamgelgaaDoorZF
open Go
set_option linter.unusedVariables false
set_option linter.unusedSimpArgs false
theorem GoodK.u32 {x : Int} (h : GoodK (.int .u32) x) : 0 ≤ x ∧ x < 4294967296 := by
 have h : (Lit.int .u32 x).wf = true := h
 simp only [Lit.wf, Bool.and_eq_true, decide_eq_true_eq] at h
 have h1 : IntKind.u32.min = 0 := rfl
 have h2 : IntKind.u32.max = 4294967295 := rfl
 omega
theorem runesBack_law (n : Nat) (v : Int) (hv : 0 ≤ v) : g6 n v = some (true, ()) := by
 have hm : 0 ≤ v.tmod 1110016 ∧ v.tmod 1110016 < 1110016 := by rw [Int.tmod_eq_emod_of_nonneg hv]; omega
 dsimp only [g6, g6_1]
 obtain ⟨m, hm'⟩ : ∃ m : Nat, v.tmod 1110016 = (m : Int) := ⟨(v.tmod 1110016).toNat, by omega⟩
 rw [hm'] at hm ⊢
 obtain ⟨b1, b2, b3⟩ := ofN_valid (v := m) (by omega)
 have e1 : g20 n (m : Int) = some ((ofN m : Int), (0, ())) := by
  dsimp only [g20, g20_1, g20_2, g42, g42_1]
  rw [intToRune_ok n m (by omega)]; rfl
 have e2 : g21 n (ofN m : Int) = some ((m : Int), (0, ())) := by
  dsimp only [g21, g21_1, g21_2, g44, g44_1]
  rw [runeToInt_ok n (ofN m) (by omega), toN_ofN (by omega)]; rfl
 rw [e1, Option.bind_some, e2, Option.bind_some]
 refine (biT (by rfl)).trans ((biT (by rfl)).trans ((biT (by exact beq_self_eq_true (m : Int))).trans ?_))
 rw [bdT (by show (0 : Int) ≤ (ofN m : Int); omega), bdT (by show (ofN m : Int) < 1114111; omega)]
 rcases b2 with b2 | b2
 ·rw [bdT (by show (ofN m : Int) < 55296; omega)]
 ·rw [bdF (by show ¬ (ofN m : Int) < 55296; omega), decide_eq_true (by show (57343 : Int) < (ofN m : Int); omega)]
theorem FnRunesBack_pure : ∀ d, GoodA g6_A d → ∃ n, g6_f n d = some (true, ()) := fun d hd => ⟨Big, runesBack_law Big d.1 (GoodK.u32 hd.1).1⟩
end Go.Proofs.YtoafkjeamgelgaaDoorZF
