import Derived.Test.YtfnjlgflbenfoaaFT
import Derived.Test.YtfnjlgflbenfoaaGA0
namespace Go.Proofs.YtfnjlgflbenfoaaF
open Go Go.Proofs
set_option linter.unusedVariables false
set_option maxRecDepth 100000
noncomputable def g40_m0 (v0 : ByteArray) (v1 : ByteArray) : FState := ⟨tlist [(0, .dat .str v0), (1, .dat .str v1)], olist []⟩
noncomputable def g40_m1 (v4 : Bool) : FState := ⟨tlist [(4, .dat .bool v4)], olist []⟩
noncomputable def g40_m1e : List NE := [.keep 4]
noncomputable def g40_C (n : Nat) : List (Nat × Spec) := [(45, g45_S n)]
noncomputable def g40_G (n : Nat) : Ctx := { Γ0 with calls := lkS (g40_C n) }
noncomputable def g40_B : Code := fb Try.f40
noncomputable def g40_1 {β : Type} (n : Nat) (kr : Bool → Option β) (v0 : ByteArray) (v1 : ByteArray) : Option β := (g45 n v0 v1).bind fun r1 => kr r1.1
noncomputable def g40_1F {β : Type} (n : Nat) (s : FState) (cx : Cx β) : Option β := FX (g40_G n) n (nav g40_B [0]) (.fin none none (some g40_m1e) [] .leaf) s { cx with nrm := fun s => FX (g40_G n) n (nav g40_B [1, 0]) (.fin none none (some g40_m1e) [] .leaf) s { cx with nrm := fun s => FX (g40_G n) n (nav g40_B [1, 1]) (.fin none none (some g40_m1e) [] .leaf) s cx } }
theorem g40_1_fx {β : Type} (n : Nat) (cx : Cx β) (v0 : ByteArray) (v1 : ByteArray) : g40_1F n (g40_m0 v0 v1) cx = g40_1 n (fun v4 => cx.ret (g40_m1 v4)) v0 v1 := by kernel_rfl
noncomputable def g40 (n : Nat) (v0 : ByteArray) (v1 : ByteArray) : Option (DenR [.dat .bool]) := g40_1 n (fun v4 => some (v4, ())) v0 v1
noncomputable def g40_A : List AK := [.dat .str, .dat .str]
noncomputable def g40_R : List RK := [.dat .bool]
noncomputable def g40_f (n : Nat) (d : DenA g40_A) : Option (DenR g40_R) := g40 n d.1 d.2.1
noncomputable def g40_S (n : Nat) : Spec := mkSpec g40_A g40_R (g40_f n)
noncomputable def g40_K : Sk := (.nd (.fin none none (some g40_m1e) [] .leaf) (.nd (.fin none none (some g40_m1e) [] .leaf) (.fin none none (some g40_m1e) [] .leaf)))
theorem g40_top {β : Type} (n : Nat) (s : FState) (cx : Cx β) : FX (g40_G n) n g40_B g40_K s cx = g40_1F n s cx := by kernel_rfl
theorem g40_fit (n : Nat) : Fit Try.prog 40 (g40_S n) :=
  fit_of (Γ := Γ0) (l := g40_C n) (n := n) (sk := g40_K) (ts := [(4, none)]) (fn := Try.f40) (c := g40_B) (by kernel_rfl) (by kernel_rfl) (by unfold Callable; kernel_rfl) tab_ok ⟨g45_fit n, trivial⟩ follows_mixed (by kernel_rfl) (by kernel_rfl) (Nat.le_of_ble_eq_true (by kernel_rfl)) (by kernel_rfl) (by kernel_rfl)
    (fun d => (g40_top n _ _).trans (Eq.trans (b := g40_1F n (g40_m0 d.1 d.2.1) (finCx (g40_G n) g40_R [(4, none)])) (by kernel_rfl) ((g40_1_fx n _ d.1 d.2.1).trans (by kernel_rfl))))
end Go.Proofs.YtfnjlgflbenfoaaF
