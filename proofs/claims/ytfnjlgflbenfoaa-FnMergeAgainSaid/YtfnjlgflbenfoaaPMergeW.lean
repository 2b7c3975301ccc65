/- The laws' merging. -/
import Derived.Test.YtfnjlgflbenfoaaPB
import Derived.Test.YtfnjlgflbenfoaaPLoop
import Derived.Test.YtfnjlgflbenfoaaPUtf
import Derived.Test.YtfnjlgflbenfoaaPEnc
import Derived.Test.YtfnjlgflbenfoaaPParts
import Derived.Test.YtfnjlgflbenfoaaPTexts
import Derived.Test.YtfnjlgflbenfoaaPCmp
import Derived.Test.YtfnjlgflbenfoaaPMerge
import Derived.Test.YtfnjlgflbenfoaaPMerge2
import Derived.Test.YtfnjlgflbenfoaaPMergeG
import Derived.Test.YtfnjlgflbenfoaaPMergeT
import Derived.Test.YtfnjlgflbenfoaaGA0
import Derived.Test.YtfnjlgflbenfoaaGA2
import Derived.Test.YtfnjlgflbenfoaaGA3
import Derived.Test.YtfnjlgflbenfoaaFB
namespace Go.Proofs.YtfnjlgflbenfoaaF
open Go
set_option linter.unusedVariables false
set_option linter.unusedSimpArgs false
theorem New_ok (n : Nat) : ∃ p, g31 n = some (p, ()) := ⟨_, rfl⟩
theorem dfMerge_ok (n : Nat) (hn : Big ≤ n) (x : List Rp) (hx : Ok x) (hph : phi x ≤ 400000) (hal : allR x ≤ 400000) : g11 n (x.map emb) = some ((merge x).map emb, ()) := by
  have hlx : x.length ≤ phi x := by unfold phi; omega
  have h1 := le_all x
  have hmo := merge_ok n hn
  obtain ⟨p, hp⟩ := New_ok n
  have h2 : g32 n p (M x) = @some (DenR g32_R) (M (merge x), ()) := hmo p x hx (by omega) (by omega)
  have hm := merge_texts hx
  have hlm : (merge x).length ≤ 1000000 := by
    have h3 : ∀ (k : Nat) {y : List Rp}, Ok y → phi (mergeN k y) ≤ phi y := by
      intro k
      induction k with
      | zero => intro y _; exact Nat.le_refl _
      | succ k ih =>
        intro y hy
        rw [mergeN]
        have h4 := phi_slide _ [] (join1 y) false rfl
        have h5 := phi_join1 hy.ops
        have h6 : phi [] = 0 := rfl
        have h7 := ih (Ok.slide _ (A := []) (R := join1 y) (ch := false) rfl Ok.nil hy.join1)
        split
        · omega
        · omega
    have h8 := h3 (phi x + 1) hx
    have h9 : (merge x).length ≤ phi (merge x) := by unfold phi; omega
    unfold merge at *
    omega
  have hmk := made_ok n hn x (by omega) hx
  have hls := list_ok n hn (merge x) hlm hx.merge
  dsimp only [g11, g11_1, g22, g22_1, g22_2]
  rw [hp, Option.bind_some, hmk, Option.bind_some]
  simp only
  rw [show x.map emb = M x from rfl, h2]
  show ((g30 n ((merge x).map emb)).bind fun r4 => some (r4.1, (0 : Int), ())).bind _ = _
  rw [hls]
  rfl
theorem parts_small (m : Nat) (hm : m ≤ 100) (l : List Prt) : phi (partsOf m l) ≤ 3100 ∧ allR (partsOf m l) ≤ 3000 ∧ Ok (partsOf m l) := by
  have h1 := partsOf_length m l
  have h2 := partsOf_ok m l
  have h3 : ∀ (x : List Rp), (∀ y ∈ x, y.2.length ≤ 30) → allR x ≤ 30 * x.length := by
    intro x
    induction x with
    | nil => intro _; simp [allR]
    | cons d x ih =>
      intro h
      have := ih fun y hy => h y (by simp [hy])
      have := h d (by simp)
      rw [allR_cons, List.length_cons]; omega
  have h4 := h3 _ fun y hy => (h2 y hy).2
  have h5 := edR_le (partsOf m l)
  exact ⟨by unfold phi; omega, by omega, fun y hy => (h2 y hy).1⟩
end Go.Proofs.YtfnjlgflbenfoaaF
