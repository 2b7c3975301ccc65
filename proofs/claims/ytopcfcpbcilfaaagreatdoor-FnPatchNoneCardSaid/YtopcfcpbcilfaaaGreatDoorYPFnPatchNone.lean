/- Plain statements about the printed functions. -/
import Derived.Test.YtopcfcpbcilfaaaGreatDoorYPQ0
import Derived.Test.YtopcfcpbcilfaaaGreatDoorYGA0
import Derived.Test.YtopcfcpbcilfaaaGreatDoorYFB
namespace Go.Proofs.YtopcfcpbcilfaaaGreatDoorYF
open Go
set_option linter.unusedVariables false
set_option linter.unusedSimpArgs false
theorem all_nil (n : Nat) (hn : Big ≤ n) : g49 n [] = some ([], ()) := by
 obtain ⟨m, rfl⟩ : ∃ m, n = m + 1 := ⟨n - 1, by unfold Big at hn; omega⟩
 rfl
theorem apply_nil (n : Nat) (p0) (v : ByteArray) : g54 n p0 [] v = some (v, ([], ())) := rfl
theorem patchNone_law (n : Nat) (hn : Big ≤ n) (s) (v : ByteArray) : g8 n s v = some (true, ()) := by
 dsimp only [g8, g8_1]
 by_cases h1 : (v.size : Int) > 2147483647
 ·rw [bdT h1]
 by_cases h2 : (v.size : Int) > 400
 ·rw [bdF h1, bdT h2]
 rw [bdF h1, bdF h2]
 obtain ⟨b, hb⟩ := usable_ex n s
 rw [bind_some' hb]
 cases b with
 | false => rfl
 | true =>
  simp only [Bool.not_true, cond_false]
  dsimp only [g30, g30_1, g30_2]
  obtain ⟨p, hp⟩ := dmp_any n s
  rw [bind_some' hp, bind_some' (all_nil n hn)]
  simp only
  rw [bind_some' (apply_nil n p v)]
  simp [strEq_eq]
theorem FnPatchNone_pure : ∀ d, GoodA g8_A d → ∃ n, g8_f n d = some (true, ()) := fun d _ => ⟨Big, patchNone_law Big (Nat.le_refl _) d.1 d.2.1⟩
end Go.Proofs.YtopcfcpbcilfaaaGreatDoorYF
