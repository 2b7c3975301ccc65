import Derived.Test.YtoafkjeamgelgaaDoorUFT
import Derived.Test.YtoafkjeamgelgaaDoorUGA0
namespace Go.Proofs.YtoafkjeamgelgaaDoorUF
open Go Go.Proofs
set_option linter.unusedVariables false
set_option maxRecDepth 100000
noncomputable def g84_m0 (v0 : ByteArray) (v1 : ByteArray) : FState := ⟨tlist [(0, .dat .str v0), (1, .dat .str v1)], olist []⟩
noncomputable def g84_m1 (v4 : Bool) : FState := ⟨tlist [(4, .dat .bool v4)], olist []⟩
noncomputable def g84_m1e : List NE := [.keep 4]
noncomputable def g84_C (n : Nat) : List (Nat × Spec) := []
noncomputable def g84_G (n : Nat) : Ctx := { Γ0 with calls := lkS (g84_C n) }
noncomputable def g84_B : Code := fb Tryd.f84
noncomputable def g84_1 {β : Type} (n : Nat) (kr : Bool → Option β) (v0 : ByteArray) (v1 : ByteArray) : Option β := bif (decide ((v0.size : Int) ≥ (v1.size : Int))) then (bnd (w64 ((v0.size : Int) - (v1.size : Int))) (v0.size : Int) (v0.size : Int) <| kr (strEq (cutS v0 (w64 ((v0.size : Int) - (v1.size : Int))) (v0.size : Int)) v1)) else (kr false)
noncomputable def g84_1F {β : Type} (n : Nat) (s : FState) (cx : Cx β) : Option β := FX (g84_G n) n (nav g84_B [0]) (.fin none none (some g84_m1e) [] .leaf) s { cx with nrm := fun s => FX (g84_G n) n (nav g84_B [1, 0]) (.fin none none (some g84_m1e) [] .leaf) s { cx with nrm := fun s => FX (g84_G n) n (nav g84_B [1, 1]) (.fin none none (some g84_m1e) [] .leaf) s cx } }
theorem g84_1_fx {β : Type} (n : Nat) (cx : Cx β) (v0 : ByteArray) (v1 : ByteArray) : g84_1F n (g84_m0 v0 v1) cx = g84_1 n (fun v4 => cx.ret (g84_m1 v4)) v0 v1 := by kernel_rfl
noncomputable def g84 (n : Nat) (v0 : ByteArray) (v1 : ByteArray) : Option (DenR [.dat .bool]) := g84_1 n (fun v4 => some (v4, ())) v0 v1
noncomputable def g84_A : List AK := [.dat .str, .dat .str]
noncomputable def g84_R : List RK := [.dat .bool]
noncomputable def g84_f (n : Nat) (d : DenA g84_A) : Option (DenR g84_R) := g84 n d.1 d.2.1
noncomputable def g84_S (n : Nat) : Spec := mkSpec g84_A g84_R (g84_f n)
noncomputable def g84_K : Sk := (.nd (.fin none none (some g84_m1e) [] .leaf) (.nd (.fin none none (some g84_m1e) [] .leaf) (.fin none none (some g84_m1e) [] .leaf)))
theorem g84_top {β : Type} (n : Nat) (s : FState) (cx : Cx β) : FX (g84_G n) n g84_B g84_K s cx = g84_1F n s cx := by kernel_rfl
theorem g84_fit (n : Nat) : Fit Tryd.prog 84 (g84_S n) :=
  fit_of (Γ := Γ0) (l := g84_C n) (n := n) (sk := g84_K) (ts := [(4, none)]) (fn := Tryd.f84) (c := g84_B) (by kernel_rfl) (by kernel_rfl) (by unfold Callable; kernel_rfl) tab_ok trivial follows_mixed (by kernel_rfl) (by kernel_rfl) (Nat.le_of_ble_eq_true (by kernel_rfl)) (by kernel_rfl) (by kernel_rfl)
    (fun d => (g84_top n _ _).trans (Eq.trans (b := g84_1F n (g84_m0 d.1 d.2.1) (finCx (g84_G n) g84_R [(4, none)])) (by kernel_rfl) ((g84_1_fx n _ d.1 d.2.1).trans (by kernel_rfl))))
noncomputable def g77_m0 (v0 : ByteArray) (v1 : ByteArray) : FState := ⟨tlist [(0, .dat .str v0), (1, .dat .str v1)], olist []⟩
noncomputable def g77_m1 (v4 : Bool) : FState := ⟨tlist [(4, .dat .bool v4)], olist []⟩
noncomputable def g77_m1e : List NE := [.keep 4]
noncomputable def g77_C (n : Nat) : List (Nat × Spec) := [(84, g84_S n)]
noncomputable def g77_G (n : Nat) : Ctx := { Γ0 with calls := lkS (g77_C n) }
noncomputable def g77_B : Code := fb Tryd.f77
noncomputable def g77_1 {β : Type} (n : Nat) (kr : Bool → Option β) (v0 : ByteArray) (v1 : ByteArray) : Option β := (g84 n v0 v1).bind fun r1 => kr r1.1
noncomputable def g77_1F {β : Type} (n : Nat) (s : FState) (cx : Cx β) : Option β := FX (g77_G n) n (nav g77_B [0]) (.fin none none (some g77_m1e) [] .leaf) s { cx with nrm := fun s => FX (g77_G n) n (nav g77_B [1, 0]) (.fin none none (some g77_m1e) [] .leaf) s { cx with nrm := fun s => FX (g77_G n) n (nav g77_B [1, 1]) (.fin none none (some g77_m1e) [] .leaf) s cx } }
theorem g77_1_fx {β : Type} (n : Nat) (cx : Cx β) (v0 : ByteArray) (v1 : ByteArray) : g77_1F n (g77_m0 v0 v1) cx = g77_1 n (fun v4 => cx.ret (g77_m1 v4)) v0 v1 := by kernel_rfl
noncomputable def g77 (n : Nat) (v0 : ByteArray) (v1 : ByteArray) : Option (DenR [.dat .bool]) := g77_1 n (fun v4 => some (v4, ())) v0 v1
noncomputable def g77_A : List AK := [.dat .str, .dat .str]
noncomputable def g77_R : List RK := [.dat .bool]
noncomputable def g77_f (n : Nat) (d : DenA g77_A) : Option (DenR g77_R) := g77 n d.1 d.2.1
noncomputable def g77_S (n : Nat) : Spec := mkSpec g77_A g77_R (g77_f n)
noncomputable def g77_K : Sk := (.nd (.fin none none (some g77_m1e) [] .leaf) (.nd (.fin none none (some g77_m1e) [] .leaf) (.fin none none (some g77_m1e) [] .leaf)))
theorem g77_top {β : Type} (n : Nat) (s : FState) (cx : Cx β) : FX (g77_G n) n g77_B g77_K s cx = g77_1F n s cx := by kernel_rfl
theorem g77_fit (n : Nat) : Fit Tryd.prog 77 (g77_S n) :=
  fit_of (Γ := Γ0) (l := g77_C n) (n := n) (sk := g77_K) (ts := [(4, none)]) (fn := Tryd.f77) (c := g77_B) (by kernel_rfl) (by kernel_rfl) (by unfold Callable; kernel_rfl) tab_ok ⟨g84_fit n, trivial⟩ follows_mixed (by kernel_rfl) (by kernel_rfl) (Nat.le_of_ble_eq_true (by kernel_rfl)) (by kernel_rfl) (by kernel_rfl)
    (fun d => (g77_top n _ _).trans (Eq.trans (b := g77_1F n (g77_m0 d.1 d.2.1) (finCx (g77_G n) g77_R [(4, none)])) (by kernel_rfl) ((g77_1_fx n _ d.1 d.2.1).trans (by kernel_rfl))))
noncomputable def g66_m0 (v0 : ByteArray) : FState := ⟨tlist [(0, .dat .str v0)], olist []⟩
noncomputable def g66_m1 (v2 : Bool) : FState := ⟨tlist [(2, .dat .bool v2)], olist []⟩
noncomputable def g66_m1e : List NE := [.keep 2]
noncomputable def g66_C (n : Nat) : List (Nat × Spec) := [(77, g77_S n)]
noncomputable def g66_G (n : Nat) : Ctx := { Γ0 with calls := lkS (g66_C n) }
noncomputable def g66_B : Code := fb Tryd.f66
noncomputable def g66_1 {β : Type} (n : Nat) (kr : Bool → Option β) (v0 : ByteArray) : Option β := (g77 n v0 (⟨#[10, 10]⟩ : ByteArray)).bind fun r1 => bif r1.1 then (kr true) else ((g77 n v0 (⟨#[10, 13, 10]⟩ : ByteArray)).bind fun r2 => kr r2.1)
noncomputable def g66_1F {β : Type} (n : Nat) (s : FState) (cx : Cx β) : Option β := FX (g66_G n) n (nav g66_B [0]) (.fin none none (some g66_m1e) [] .leaf) s { cx with nrm := fun s => FX (g66_G n) n (nav g66_B [1, 0]) (.fin none none (some g66_m1e) [] .leaf) s { cx with nrm := fun s => FX (g66_G n) n (nav g66_B [1, 1]) (.fin none none (some g66_m1e) [] .leaf) s cx } }
theorem g66_1_fx {β : Type} (n : Nat) (cx : Cx β) (v0 : ByteArray) : g66_1F n (g66_m0 v0) cx = g66_1 n (fun v2 => cx.ret (g66_m1 v2)) v0 := by kernel_rfl
noncomputable def g66 (n : Nat) (v0 : ByteArray) : Option (DenR [.dat .bool]) := g66_1 n (fun v2 => some (v2, ())) v0
noncomputable def g66_A : List AK := [.dat .str]
noncomputable def g66_R : List RK := [.dat .bool]
noncomputable def g66_f (n : Nat) (d : DenA g66_A) : Option (DenR g66_R) := g66 n d.1
noncomputable def g66_S (n : Nat) : Spec := mkSpec g66_A g66_R (g66_f n)
noncomputable def g66_K : Sk := (.nd (.fin none none (some g66_m1e) [] .leaf) (.nd (.fin none none (some g66_m1e) [] .leaf) (.fin none none (some g66_m1e) [] .leaf)))
theorem g66_top {β : Type} (n : Nat) (s : FState) (cx : Cx β) : FX (g66_G n) n g66_B g66_K s cx = g66_1F n s cx := by kernel_rfl
theorem g66_fit (n : Nat) : Fit Tryd.prog 66 (g66_S n) :=
  fit_of (Γ := Γ0) (l := g66_C n) (n := n) (sk := g66_K) (ts := [(2, none)]) (fn := Tryd.f66) (c := g66_B) (by kernel_rfl) (by kernel_rfl) (by unfold Callable; kernel_rfl) tab_ok ⟨g77_fit n, trivial⟩ follows_mixed (by kernel_rfl) (by kernel_rfl) (Nat.le_of_ble_eq_true (by kernel_rfl)) (by kernel_rfl) (by kernel_rfl)
    (fun d => (g66_top n _ _).trans (Eq.trans (b := g66_1F n (g66_m0 d.1) (finCx (g66_G n) g66_R [(2, none)])) (by kernel_rfl) ((g66_1_fx n _ d.1).trans (by kernel_rfl))))
noncomputable def g50_m0 (v0 : ByteArray) (v1 : ByteArray) : FState := ⟨tlist [(0, .dat .str v0), (1, .dat .str v1)], olist []⟩
noncomputable def g50_m1 (v4 : Int) : FState := ⟨tlist [(4, .dat (.int .i64) v4)], olist []⟩
noncomputable def g50_m1e : List NE := [.keep 4]
noncomputable def g50_m2 (v0 : ByteArray) (v1 : ByteArray) (v5 : Int) (v7 : Int) (v9 : Bool) (v10 : Bool) (v11 : Bool) : FState := ⟨tlist [(0, .dat .str v0), (1, .dat .str v1), (5, .dat (.int .i32) v5), (7, .dat (.int .i32) v7), (9, .dat .bool v9), (10, .dat .bool v10), (11, .dat .bool v11)], olist []⟩
noncomputable def g50_m2e : List NE := [.keep 0, .keep 1, .keep 5, .keep 7, .keep 9, .keep 10, .keep 11]
noncomputable def g50_m3 (v0 : ByteArray) (v1 : ByteArray) (v5 : Int) (v7 : Int) (v9 : Bool) (v10 : Bool) (v11 : Bool) (v12 : Bool) : FState := ⟨tlist [(0, .dat .str v0), (1, .dat .str v1), (5, .dat (.int .i32) v5), (7, .dat (.int .i32) v7), (9, .dat .bool v9), (10, .dat .bool v10), (11, .dat .bool v11), (12, .dat .bool v12)], olist []⟩
noncomputable def g50_m3e : List NE := [.keep 0, .keep 1, .keep 5, .keep 7, .keep 9, .keep 10, .keep 11, .keep 12]
noncomputable def g50_m4 (v0 : ByteArray) (v1 : ByteArray) (v7 : Int) (v9 : Bool) (v10 : Bool) (v11 : Bool) (v12 : Bool) (v13 : Bool) : FState := ⟨tlist [(0, .dat .str v0), (1, .dat .str v1), (7, .dat (.int .i32) v7), (9, .dat .bool v9), (10, .dat .bool v10), (11, .dat .bool v11), (12, .dat .bool v12), (13, .dat .bool v13)], olist []⟩
noncomputable def g50_m4e : List NE := [.keep 0, .keep 1, .keep 7, .keep 9, .keep 10, .keep 11, .keep 12, .keep 13]
noncomputable def g50_m5 (v0 : ByteArray) (v1 : ByteArray) (v9 : Bool) (v10 : Bool) (v11 : Bool) (v12 : Bool) (v13 : Bool) (v14 : Bool) : FState := ⟨tlist [(0, .dat .str v0), (1, .dat .str v1), (9, .dat .bool v9), (10, .dat .bool v10), (11, .dat .bool v11), (12, .dat .bool v12), (13, .dat .bool v13), (14, .dat .bool v14)], olist []⟩
noncomputable def g50_m5e : List NE := [.keep 0, .keep 1, .keep 9, .keep 10, .keep 11, .keep 12, .keep 13, .keep 14]
noncomputable def g50_m6 (v1 : ByteArray) (v9 : Bool) (v10 : Bool) (v11 : Bool) (v12 : Bool) (v13 : Bool) (v14 : Bool) (v15 : Bool) : FState := ⟨tlist [(1, .dat .str v1), (9, .dat .bool v9), (10, .dat .bool v10), (11, .dat .bool v11), (12, .dat .bool v12), (13, .dat .bool v13), (14, .dat .bool v14), (15, .dat .bool v15)], olist []⟩
noncomputable def g50_m6e : List NE := [.keep 1, .keep 9, .keep 10, .keep 11, .keep 12, .keep 13, .keep 14, .keep 15]
noncomputable def g50_m7 (v9 : Bool) (v10 : Bool) (v11 : Bool) (v12 : Bool) (v13 : Bool) (v14 : Bool) (v15 : Bool) (v16 : Bool) : FState := ⟨tlist [(9, .dat .bool v9), (10, .dat .bool v10), (11, .dat .bool v11), (12, .dat .bool v12), (13, .dat .bool v13), (14, .dat .bool v14), (15, .dat .bool v15), (16, .dat .bool v16)], olist []⟩
noncomputable def g50_m7e : List NE := [.keep 9, .keep 10, .keep 11, .keep 12, .keep 13, .keep 14, .keep 15, .keep 16]
noncomputable def g50_C (n : Nat) : List (Nat × Spec) := [(61, g61_S n), (62, g62_S n), (63, g63_S n), (64, g64_S n), (65, g65_S n), (66, g66_S n)]
noncomputable def g50_G (n : Nat) : Ctx := { Γ0 with calls := lkS (g50_C n) }
noncomputable def g50_B : Code := fb Tryd.f50
noncomputable def g50_1 {β : Type} (n : Nat) (kn : ByteArray → ByteArray → Int → Int → Bool → Bool → Bool → Option β) (kr : Int → Option β) (v0 : ByteArray) (v1 : ByteArray) : Option β := bif ((v0.size : Int) == (0 : Int)) then (kr (6 : Int)) else (bif ((v1.size : Int) == (0 : Int)) then (kr (6 : Int)) else ((g62 n v0).bind fun r1 => (g61 n v1).bind fun r2 => (g63 n r1.1).bind fun r3 => (g63 n r2.1).bind fun r4 => bif r3.1 then ((g64 n r1.1).bind fun r5 => kn v0 v1 r1.1 r2.1 r3.1 r4.1 r5.1) else (kn v0 v1 r1.1 r2.1 r3.1 r4.1 false)))
noncomputable def g50_1F {β : Type} (n : Nat) (s : FState) (cx : Cx β) : Option β := FX (g50_G n) n (nav g50_B [0]) (.fin none none (some g50_m1e) [] .leaf) s { cx with nrm := fun s => FX (g50_G n) n (nav g50_B [1, 0, 0]) (.fin none none (some g50_m1e) [] .leaf) s { cx with nrm := fun s => FX (g50_G n) n (nav g50_B [1, 0, 1]) (.fin none none (some g50_m1e) [] .leaf) s { cx with nrm := fun s => FX (g50_G n) n (nav g50_B [1, 1, 0]) (.fin none none (some g50_m1e) [] .leaf) s { cx with nrm := fun s => FX (g50_G n) n (nav g50_B [1, 1, 1, 0]) (.fin none none (some g50_m1e) [] .leaf) s { cx with nrm := fun s => FX (g50_G n) n (nav g50_B [1, 1, 1, 1, 0]) (.fin none none (some g50_m1e) [] .leaf) s { cx with nrm := fun s => FX (g50_G n) n (nav g50_B [1, 1, 1, 1, 1, 0]) (.fin none none (some g50_m1e) [] .leaf) s { cx with nrm := fun s => FX (g50_G n) n (nav g50_B [1, 1, 1, 1, 1, 1, 0]) (.fin none (some g50_m2e) (some g50_m1e) [] .leaf) s cx } } } } } } }
theorem g50_1_fx {β : Type} (n : Nat) (cx : Cx β) (v0 : ByteArray) (v1 : ByteArray) : g50_1F n (g50_m0 v0 v1) cx = g50_1 n (fun v0 v1 v5 v7 v9 v10 v11 => cx.nrm (g50_m2 v0 v1 v5 v7 v9 v10 v11)) (fun v4 => cx.ret (g50_m1 v4)) v0 v1 := by kernel_rfl
noncomputable def g50_2 {β : Type} (n : Nat) (kn : ByteArray → ByteArray → Int → Int → Bool → Bool → Bool → Bool → Option β) (v0 : ByteArray) (v1 : ByteArray) (v5 : Int) (v7 : Int) (v9 : Bool) (v10 : Bool) (v11 : Bool) : Option β := bif v10 then ((g64 n v7).bind fun r1 => kn v0 v1 v5 v7 v9 v10 v11 r1.1) else (kn v0 v1 v5 v7 v9 v10 v11 false)
noncomputable def g50_2F {β : Type} (n : Nat) (s : FState) (cx : Cx β) : Option β := FX (g50_G n) n (nav g50_B [1, 1, 1, 1, 1, 1, 1, 0]) (.fin none (some g50_m3e) none [] .leaf) s cx
theorem g50_2_fx {β : Type} (n : Nat) (cx : Cx β) (v0 : ByteArray) (v1 : ByteArray) (v5 : Int) (v7 : Int) (v9 : Bool) (v10 : Bool) (v11 : Bool) : g50_2F n (g50_m2 v0 v1 v5 v7 v9 v10 v11) cx = g50_2 n (fun v0 v1 v5 v7 v9 v10 v11 v12 => cx.nrm (g50_m3 v0 v1 v5 v7 v9 v10 v11 v12)) v0 v1 v5 v7 v9 v10 v11 := by kernel_rfl
noncomputable def g50_3 {β : Type} (n : Nat) (kn : ByteArray → ByteArray → Int → Bool → Bool → Bool → Bool → Bool → Option β) (v0 : ByteArray) (v1 : ByteArray) (v5 : Int) (v7 : Int) (v9 : Bool) (v10 : Bool) (v11 : Bool) (v12 : Bool) : Option β := bif v11 then ((g65 n v5).bind fun r1 => kn v0 v1 v7 v9 v10 v11 v12 r1.1) else (kn v0 v1 v7 v9 v10 v11 v12 false)
noncomputable def g50_3F {β : Type} (n : Nat) (s : FState) (cx : Cx β) : Option β := FX (g50_G n) n (nav g50_B [1, 1, 1, 1, 1, 1, 1, 1, 0]) (.fin none (some g50_m4e) none [] .leaf) s cx
theorem g50_3_fx {β : Type} (n : Nat) (cx : Cx β) (v0 : ByteArray) (v1 : ByteArray) (v5 : Int) (v7 : Int) (v9 : Bool) (v10 : Bool) (v11 : Bool) (v12 : Bool) : g50_3F n (g50_m3 v0 v1 v5 v7 v9 v10 v11 v12) cx = g50_3 n (fun v0 v1 v7 v9 v10 v11 v12 v13 => cx.nrm (g50_m4 v0 v1 v7 v9 v10 v11 v12 v13)) v0 v1 v5 v7 v9 v10 v11 v12 := by kernel_rfl
noncomputable def g50_4 {β : Type} (n : Nat) (kn : ByteArray → ByteArray → Bool → Bool → Bool → Bool → Bool → Bool → Option β) (v0 : ByteArray) (v1 : ByteArray) (v7 : Int) (v9 : Bool) (v10 : Bool) (v11 : Bool) (v12 : Bool) (v13 : Bool) : Option β := bif v12 then ((g65 n v7).bind fun r1 => kn v0 v1 v9 v10 v11 v12 v13 r1.1) else (kn v0 v1 v9 v10 v11 v12 v13 false)
noncomputable def g50_4F {β : Type} (n : Nat) (s : FState) (cx : Cx β) : Option β := FX (g50_G n) n (nav g50_B [1, 1, 1, 1, 1, 1, 1, 1, 1, 0]) (.fin none (some g50_m5e) none [] .leaf) s cx
theorem g50_4_fx {β : Type} (n : Nat) (cx : Cx β) (v0 : ByteArray) (v1 : ByteArray) (v7 : Int) (v9 : Bool) (v10 : Bool) (v11 : Bool) (v12 : Bool) (v13 : Bool) : g50_4F n (g50_m4 v0 v1 v7 v9 v10 v11 v12 v13) cx = g50_4 n (fun v0 v1 v9 v10 v11 v12 v13 v14 => cx.nrm (g50_m5 v0 v1 v9 v10 v11 v12 v13 v14)) v0 v1 v7 v9 v10 v11 v12 v13 := by kernel_rfl
noncomputable def g50_5 {β : Type} (n : Nat) (kn : ByteArray → Bool → Bool → Bool → Bool → Bool → Bool → Bool → Option β) (v0 : ByteArray) (v1 : ByteArray) (v9 : Bool) (v10 : Bool) (v11 : Bool) (v12 : Bool) (v13 : Bool) (v14 : Bool) : Option β := bif v13 then ((g66 n v0).bind fun r1 => kn v1 v9 v10 v11 v12 v13 v14 r1.1) else (kn v1 v9 v10 v11 v12 v13 v14 false)
noncomputable def g50_5F {β : Type} (n : Nat) (s : FState) (cx : Cx β) : Option β := FX (g50_G n) n (nav g50_B [1, 1, 1, 1, 1, 1, 1, 1, 1, 1, 0]) (.fin none (some g50_m6e) none [] .leaf) s cx
theorem g50_5_fx {β : Type} (n : Nat) (cx : Cx β) (v0 : ByteArray) (v1 : ByteArray) (v9 : Bool) (v10 : Bool) (v11 : Bool) (v12 : Bool) (v13 : Bool) (v14 : Bool) : g50_5F n (g50_m5 v0 v1 v9 v10 v11 v12 v13 v14) cx = g50_5 n (fun v1 v9 v10 v11 v12 v13 v14 v15 => cx.nrm (g50_m6 v1 v9 v10 v11 v12 v13 v14 v15)) v0 v1 v9 v10 v11 v12 v13 v14 := by kernel_rfl
noncomputable def g50_6 {β : Type} (n : Nat) (kn : Bool → Bool → Bool → Bool → Bool → Bool → Bool → Bool → Option β) (v1 : ByteArray) (v9 : Bool) (v10 : Bool) (v11 : Bool) (v12 : Bool) (v13 : Bool) (v14 : Bool) (v15 : Bool) : Option β := bif v14 then ((g66 n v1).bind fun r1 => kn v9 v10 v11 v12 v13 v14 v15 r1.1) else (kn v9 v10 v11 v12 v13 v14 v15 false)
noncomputable def g50_6F {β : Type} (n : Nat) (s : FState) (cx : Cx β) : Option β := FX (g50_G n) n (nav g50_B [1, 1, 1, 1, 1, 1, 1, 1, 1, 1, 1, 0]) (.fin none (some g50_m7e) none [] .leaf) s cx
theorem g50_6_fx {β : Type} (n : Nat) (cx : Cx β) (v1 : ByteArray) (v9 : Bool) (v10 : Bool) (v11 : Bool) (v12 : Bool) (v13 : Bool) (v14 : Bool) (v15 : Bool) : g50_6F n (g50_m6 v1 v9 v10 v11 v12 v13 v14 v15) cx = g50_6 n (fun v9 v10 v11 v12 v13 v14 v15 v16 => cx.nrm (g50_m7 v9 v10 v11 v12 v13 v14 v15 v16)) v1 v9 v10 v11 v12 v13 v14 v15 := by kernel_rfl
noncomputable def g50_7 {β : Type} (n : Nat) (kr : Int → Option β) (v9 : Bool) (v10 : Bool) (v11 : Bool) (v12 : Bool) (v13 : Bool) (v14 : Bool) (v15 : Bool) (v16 : Bool) : Option β := bif v15 then (kr (5 : Int)) else (bif v16 then (kr (5 : Int)) else (bif v13 then (kr (4 : Int)) else (bif v14 then (kr (4 : Int)) else (bif v9 then (bif (!v11) then (bif v12 then (kr (3 : Int)) else (bif v11 then (kr (2 : Int)) else (bif v12 then (kr (2 : Int)) else (bif v9 then (kr (1 : Int)) else (bif v10 then (kr (1 : Int)) else (kr (0 : Int))))))) else (bif v11 then (kr (2 : Int)) else (bif v12 then (kr (2 : Int)) else (bif v9 then (kr (1 : Int)) else (bif v10 then (kr (1 : Int)) else (kr (0 : Int))))))) else (bif v11 then (kr (2 : Int)) else (bif v12 then (kr (2 : Int)) else (bif v9 then (kr (1 : Int)) else (bif v10 then (kr (1 : Int)) else (kr (0 : Int))))))))))
noncomputable def g50_7F {β : Type} (n : Nat) (s : FState) (cx : Cx β) : Option β := FX (g50_G n) n (nav g50_B [1, 1, 1, 1, 1, 1, 1, 1, 1, 1, 1, 1, 0, 0]) (.fin none none (some g50_m1e) [] .leaf) s { cx with nrm := fun s => FX (g50_G n) n (nav g50_B [1, 1, 1, 1, 1, 1, 1, 1, 1, 1, 1, 1, 0, 1]) (.fin none none (some g50_m1e) [] .leaf) s { cx with nrm := fun s => FX (g50_G n) n (nav g50_B [1, 1, 1, 1, 1, 1, 1, 1, 1, 1, 1, 1, 1, 0]) (.fin none none (some g50_m1e) [] .leaf) s { cx with nrm := fun s => FX (g50_G n) n (nav g50_B [1, 1, 1, 1, 1, 1, 1, 1, 1, 1, 1, 1, 1, 1]) (.fin none none (some g50_m1e) [] .leaf) s cx } } }
theorem g50_7_fx {β : Type} (n : Nat) (cx : Cx β) (v9 : Bool) (v10 : Bool) (v11 : Bool) (v12 : Bool) (v13 : Bool) (v14 : Bool) (v15 : Bool) (v16 : Bool) : g50_7F n (g50_m7 v9 v10 v11 v12 v13 v14 v15 v16) cx = g50_7 n (fun v4 => cx.ret (g50_m1 v4)) v9 v10 v11 v12 v13 v14 v15 v16 := by kernel_rfl
noncomputable def g50_8 {β : Type} (n : Nat) (kr : Int → Option β) (v0 : ByteArray) (v1 : ByteArray) : Option β := g50_1 n (fun v0 v1 v5 v7 v9 v10 v11 => g50_2 n (fun v0 v1 v5 v7 v9 v10 v11 v12 => g50_3 n (fun v0 v1 v7 v9 v10 v11 v12 v13 => g50_4 n (fun v0 v1 v9 v10 v11 v12 v13 v14 => g50_5 n (fun v1 v9 v10 v11 v12 v13 v14 v15 => g50_6 n (fun v9 v10 v11 v12 v13 v14 v15 v16 => g50_7 n kr v9 v10 v11 v12 v13 v14 v15 v16) v1 v9 v10 v11 v12 v13 v14 v15) v0 v1 v9 v10 v11 v12 v13 v14) v0 v1 v7 v9 v10 v11 v12 v13) v0 v1 v5 v7 v9 v10 v11 v12) v0 v1 v5 v7 v9 v10 v11) kr v0 v1
noncomputable def g50_8F {β : Type} (n : Nat) (s : FState) (cx : Cx β) : Option β := g50_1F n s { cx with nrm := fun s => g50_2F n s { cx with nrm := fun s => g50_3F n s { cx with nrm := fun s => g50_4F n s { cx with nrm := fun s => g50_5F n s { cx with nrm := fun s => g50_6F n s { cx with nrm := fun s => g50_7F n s cx } } } } } }
theorem g50_8_fx {β : Type} (n : Nat) (cx : Cx β) (v0 : ByteArray) (v1 : ByteArray) : g50_8F n (g50_m0 v0 v1) cx = g50_8 n (fun v4 => cx.ret (g50_m1 v4)) v0 v1 := by simp only [g50_8F, g50_8, g50_1_fx, g50_2_fx, g50_3_fx, g50_4_fx, g50_5_fx, g50_6_fx, g50_7_fx]
noncomputable def g50 (n : Nat) (v0 : ByteArray) (v1 : ByteArray) : Option (DenR [.dat (.int .i64)]) := g50_8 n (fun v4 => some (v4, ())) v0 v1
noncomputable def g50_A : List AK := [.dat .str, .dat .str]
noncomputable def g50_R : List RK := [.dat (.int .i64)]
noncomputable def g50_f (n : Nat) (d : DenA g50_A) : Option (DenR g50_R) := g50 n d.1 d.2.1
noncomputable def g50_S (n : Nat) : Spec := mkSpec g50_A g50_R (g50_f n)
noncomputable def g50_K : Sk := (.nd (.fin none none (some g50_m1e) [] .leaf) (.nd (.nd (.fin none none (some g50_m1e) [] .leaf) (.fin none none (some g50_m1e) [] .leaf)) (.nd (.fin none none (some g50_m1e) [] .leaf) (.nd (.fin none none (some g50_m1e) [] .leaf) (.nd (.fin none none (some g50_m1e) [] .leaf) (.nd (.fin none none (some g50_m1e) [] .leaf) (.nd (.fin none (some g50_m2e) (some g50_m1e) [] .leaf) (.nd (.fin none (some g50_m3e) none [] .leaf) (.nd (.fin none (some g50_m4e) none [] .leaf) (.nd (.fin none (some g50_m5e) none [] .leaf) (.nd (.fin none (some g50_m6e) none [] .leaf) (.nd (.fin none (some g50_m7e) none [] .leaf) (.nd (.nd (.fin none none (some g50_m1e) [] .leaf) (.fin none none (some g50_m1e) [] .leaf)) (.nd (.fin none none (some g50_m1e) [] .leaf) (.fin none none (some g50_m1e) [] .leaf)))))))))))))))
theorem g50_top {β : Type} (n : Nat) (s : FState) (cx : Cx β) : FX (g50_G n) n g50_B g50_K s cx = g50_8F n s cx := by kernel_rfl
theorem g50_fit (n : Nat) : Fit Tryd.prog 50 (g50_S n) :=
  fit_of (Γ := Γ0) (l := g50_C n) (n := n) (sk := g50_K) (ts := [(4, none)]) (fn := Tryd.f50) (c := g50_B) (by kernel_rfl) (by kernel_rfl) (by unfold Callable; kernel_rfl) tab_ok ⟨g61_fit n, g62_fit n, g63_fit n, g64_fit n, g65_fit n, g66_fit n, trivial⟩ follows_mixed (by kernel_rfl) (by kernel_rfl) (Nat.le_of_ble_eq_true (by kernel_rfl)) (by kernel_rfl) (by kernel_rfl)
    (fun d => (g50_top n _ _).trans (Eq.trans (b := g50_8F n (g50_m0 d.1 d.2.1) (finCx (g50_G n) g50_R [(4, none)])) (by kernel_rfl) ((g50_8_fx n _ d.1 d.2.1).trans (by kernel_rfl))))
noncomputable def g30_m0 (v0 : ByteArray) (v1 : ByteArray) : FState := ⟨tlist [(0, .dat .str v0), (1, .dat .str v1)], olist []⟩
noncomputable def g30_m1 (v4 : Int) : FState := ⟨tlist [(4, .dat (.int .i64) v4)], olist []⟩
noncomputable def g30_m1e : List NE := [.keep 4]
noncomputable def g30_C (n : Nat) : List (Nat × Spec) := [(50, g50_S n)]
noncomputable def g30_G (n : Nat) : Ctx := { Γ0 with calls := lkS (g30_C n) }
noncomputable def g30_B : Code := fb Tryd.f30
noncomputable def g30_1 {β : Type} (n : Nat) (kr : Int → Option β) (v0 : ByteArray) (v1 : ByteArray) : Option β := (g50 n v0 v1).bind fun r1 => kr r1.1
noncomputable def g30_1F {β : Type} (n : Nat) (s : FState) (cx : Cx β) : Option β := FX (g30_G n) n (nav g30_B [0]) (.fin none none (some g30_m1e) [] .leaf) s { cx with nrm := fun s => FX (g30_G n) n (nav g30_B [1, 0]) (.fin none none (some g30_m1e) [] .leaf) s { cx with nrm := fun s => FX (g30_G n) n (nav g30_B [1, 1]) (.fin none none (some g30_m1e) [] .leaf) s cx } }
theorem g30_1_fx {β : Type} (n : Nat) (cx : Cx β) (v0 : ByteArray) (v1 : ByteArray) : g30_1F n (g30_m0 v0 v1) cx = g30_1 n (fun v4 => cx.ret (g30_m1 v4)) v0 v1 := by kernel_rfl
noncomputable def g30 (n : Nat) (v0 : ByteArray) (v1 : ByteArray) : Option (DenR [.dat (.int .i64)]) := g30_1 n (fun v4 => some (v4, ())) v0 v1
noncomputable def g30_A : List AK := [.dat .str, .dat .str]
noncomputable def g30_R : List RK := [.dat (.int .i64)]
noncomputable def g30_f (n : Nat) (d : DenA g30_A) : Option (DenR g30_R) := g30 n d.1 d.2.1
noncomputable def g30_S (n : Nat) : Spec := mkSpec g30_A g30_R (g30_f n)
noncomputable def g30_K : Sk := (.nd (.fin none none (some g30_m1e) [] .leaf) (.nd (.fin none none (some g30_m1e) [] .leaf) (.fin none none (some g30_m1e) [] .leaf)))
theorem g30_top {β : Type} (n : Nat) (s : FState) (cx : Cx β) : FX (g30_G n) n g30_B g30_K s cx = g30_1F n s cx := by kernel_rfl
theorem g30_fit (n : Nat) : Fit Tryd.prog 30 (g30_S n) :=
  fit_of (Γ := Γ0) (l := g30_C n) (n := n) (sk := g30_K) (ts := [(4, none)]) (fn := Tryd.f30) (c := g30_B) (by kernel_rfl) (by kernel_rfl) (by unfold Callable; kernel_rfl) tab_ok ⟨g50_fit n, trivial⟩ follows_mixed (by kernel_rfl) (by kernel_rfl) (Nat.le_of_ble_eq_true (by kernel_rfl)) (by kernel_rfl) (by kernel_rfl)
    (fun d => (g30_top n _ _).trans (Eq.trans (b := g30_1F n (g30_m0 d.1 d.2.1) (finCx (g30_G n) g30_R [(4, none)])) (by kernel_rfl) ((g30_1_fx n _ d.1 d.2.1).trans (by kernel_rfl))))
noncomputable def g12_m0 (v0 : ByteArray) (v1 : ByteArray) : FState := ⟨tlist [(0, .dat .str v0), (1, .dat .str v1)], olist []⟩
noncomputable def g12_m1 (v4 : Int) : FState := ⟨tlist [(4, .dat (.int .i64) v4)], olist []⟩
noncomputable def g12_m1e : List NE := [.keep 4]
noncomputable def g12_C (n : Nat) : List (Nat × Spec) := [(30, g30_S n)]
noncomputable def g12_G (n : Nat) : Ctx := { Γ0 with calls := lkS (g12_C n) }
noncomputable def g12_B : Code := fb Tryd.f12
noncomputable def g12_1 {β : Type} (n : Nat) (kr : Int → Option β) (v0 : ByteArray) (v1 : ByteArray) : Option β := (g30 n v0 v1).bind fun r1 => kr r1.1
noncomputable def g12_1F {β : Type} (n : Nat) (s : FState) (cx : Cx β) : Option β := FX (g12_G n) n (nav g12_B [0]) (.fin none none (some g12_m1e) [] .leaf) s { cx with nrm := fun s => FX (g12_G n) n (nav g12_B [1, 0]) (.fin none none (some g12_m1e) [] .leaf) s { cx with nrm := fun s => FX (g12_G n) n (nav g12_B [1, 1]) (.fin none none (some g12_m1e) [] .leaf) s cx } }
theorem g12_1_fx {β : Type} (n : Nat) (cx : Cx β) (v0 : ByteArray) (v1 : ByteArray) : g12_1F n (g12_m0 v0 v1) cx = g12_1 n (fun v4 => cx.ret (g12_m1 v4)) v0 v1 := by kernel_rfl
noncomputable def g12 (n : Nat) (v0 : ByteArray) (v1 : ByteArray) : Option (DenR [.dat (.int .i64)]) := g12_1 n (fun v4 => some (v4, ())) v0 v1
noncomputable def g12_A : List AK := [.dat .str, .dat .str]
noncomputable def g12_R : List RK := [.dat (.int .i64)]
noncomputable def g12_f (n : Nat) (d : DenA g12_A) : Option (DenR g12_R) := g12 n d.1 d.2.1
noncomputable def g12_S (n : Nat) : Spec := mkSpec g12_A g12_R (g12_f n)
noncomputable def g12_K : Sk := (.nd (.fin none none (some g12_m1e) [] .leaf) (.nd (.fin none none (some g12_m1e) [] .leaf) (.fin none none (some g12_m1e) [] .leaf)))
theorem g12_top {β : Type} (n : Nat) (s : FState) (cx : Cx β) : FX (g12_G n) n g12_B g12_K s cx = g12_1F n s cx := by kernel_rfl
theorem g12_fit (n : Nat) : Fit Tryd.prog 12 (g12_S n) :=
  fit_of (Γ := Γ0) (l := g12_C n) (n := n) (sk := g12_K) (ts := [(4, none)]) (fn := Tryd.f12) (c := g12_B) (by kernel_rfl) (by kernel_rfl) (by unfold Callable; kernel_rfl) tab_ok ⟨g30_fit n, trivial⟩ follows_mixed (by kernel_rfl) (by kernel_rfl) (Nat.le_of_ble_eq_true (by kernel_rfl)) (by kernel_rfl) (by kernel_rfl)
    (fun d => (g12_top n _ _).trans (Eq.trans (b := g12_1F n (g12_m0 d.1 d.2.1) (finCx (g12_G n) g12_R [(4, none)])) (by kernel_rfl) ((g12_1_fx n _ d.1 d.2.1).trans (by kernel_rfl))))
noncomputable def g31_m0 (v0 : ByteArray) : FState := ⟨tlist [(0, .dat .str v0)], olist []⟩
noncomputable def g31_m1 (v2 : Bool) : FState := ⟨tlist [(2, .dat .bool v2)], olist []⟩
noncomputable def g31_m1e : List NE := [.keep 2]
noncomputable def g31_C (n : Nat) : List (Nat × Spec) := []
noncomputable def g31_G (n : Nat) : Ctx := { Γ0 with calls := lkS (g31_C n) }
noncomputable def g31_B : Code := fb Tryd.f31
noncomputable def g31_1 {β : Type} (n : Nat) (kr : Bool → Option β) (v0 : ByteArray) : Option β := bif (decide ((v0.size : Int) > (1 : Int))) then (idx (w64 ((v0.size : Int) - (1 : Int))) (v0.size : Int) <| bif ((byteAt v0 (w64 ((v0.size : Int) - (1 : Int)))) == (10 : Int)) then (idx (w64 ((v0.size : Int) - (2 : Int))) (v0.size : Int) <| bif ((byteAt v0 (w64 ((v0.size : Int) - (2 : Int)))) == (10 : Int)) then (kr true) else (bif (decide ((v0.size : Int) > (2 : Int))) then (idx (w64 ((v0.size : Int) - (2 : Int))) (v0.size : Int) <| bif ((byteAt v0 (w64 ((v0.size : Int) - (2 : Int)))) == (13 : Int)) then (idx (w64 ((v0.size : Int) - (3 : Int))) (v0.size : Int) <| kr ((byteAt v0 (w64 ((v0.size : Int) - (3 : Int)))) == (10 : Int))) else (kr false)) else (kr false))) else (kr false)) else (kr false)
noncomputable def g31_1F {β : Type} (n : Nat) (s : FState) (cx : Cx β) : Option β := FX (g31_G n) n (nav g31_B [0]) (.fin none none (some g31_m1e) [] .leaf) s { cx with nrm := fun s => FX (g31_G n) n (nav g31_B [1, 0]) (.fin none none (some g31_m1e) [] .leaf) s { cx with nrm := fun s => FX (g31_G n) n (nav g31_B [1, 1, 0]) (.fin none none (some g31_m1e) [] .leaf) s { cx with nrm := fun s => FX (g31_G n) n (nav g31_B [1, 1, 1]) (.fin none none (some g31_m1e) [] .leaf) s cx } } }
theorem g31_1_fx {β : Type} (n : Nat) (cx : Cx β) (v0 : ByteArray) : g31_1F n (g31_m0 v0) cx = g31_1 n (fun v2 => cx.ret (g31_m1 v2)) v0 := by kernel_rfl
noncomputable def g31 (n : Nat) (v0 : ByteArray) : Option (DenR [.dat .bool]) := g31_1 n (fun v2 => some (v2, ())) v0
noncomputable def g31_A : List AK := [.dat .str]
noncomputable def g31_R : List RK := [.dat .bool]
noncomputable def g31_f (n : Nat) (d : DenA g31_A) : Option (DenR g31_R) := g31 n d.1
noncomputable def g31_S (n : Nat) : Spec := mkSpec g31_A g31_R (g31_f n)
noncomputable def g31_K : Sk := (.nd (.fin none none (some g31_m1e) [] .leaf) (.nd (.fin none none (some g31_m1e) [] .leaf) (.nd (.fin none none (some g31_m1e) [] .leaf) (.fin none none (some g31_m1e) [] .leaf))))
theorem g31_top {β : Type} (n : Nat) (s : FState) (cx : Cx β) : FX (g31_G n) n g31_B g31_K s cx = g31_1F n s cx := by kernel_rfl
theorem g31_fit (n : Nat) : Fit Tryd.prog 31 (g31_S n) :=
  fit_of (Γ := Γ0) (l := g31_C n) (n := n) (sk := g31_K) (ts := [(2, none)]) (fn := Tryd.f31) (c := g31_B) (by kernel_rfl) (by kernel_rfl) (by unfold Callable; kernel_rfl) tab_ok trivial follows_mixed (by kernel_rfl) (by kernel_rfl) (Nat.le_of_ble_eq_true (by kernel_rfl)) (by kernel_rfl) (by kernel_rfl)
    (fun d => (g31_top n _ _).trans (Eq.trans (b := g31_1F n (g31_m0 d.1) (finCx (g31_G n) g31_R [(2, none)])) (by kernel_rfl) ((g31_1_fx n _ d.1).trans (by kernel_rfl))))
noncomputable def g32_m0 (v0 : ByteArray) : FState := ⟨tlist [(0, .dat .str v0)], olist []⟩
noncomputable def g32_m1 (v2 : Bool) : FState := ⟨tlist [(2, .dat .bool v2)], olist []⟩
noncomputable def g32_m1e : List NE := [.keep 2]
noncomputable def g32_m2 (v0 : ByteArray) (v3 : Int) : FState := ⟨tlist [(0, .dat .str v0), (3, .dat (.int .i64) v3)], olist []⟩
noncomputable def g32_m2e : List NE := [.keep 0, .keep 3]
noncomputable def g32_m3 : FState := ⟨tlist [], olist []⟩
noncomputable def g32_m3e : List NE := []
noncomputable def g32_C (n : Nat) : List (Nat × Spec) := []
noncomputable def g32_G (n : Nat) : Ctx := { Γ0 with calls := lkS (g32_C n) }
noncomputable def g32_B : Code := fb Tryd.f32
noncomputable def g32_1 {β : Type} (n : Nat) (kn : ByteArray → Int → Option β) (v0 : ByteArray) : Option β := kn v0 (0 : Int)
noncomputable def g32_1F {β : Type} (n : Nat) (s : FState) (cx : Cx β) : Option β := FX (g32_G n) n (nav g32_B [0]) (.fin none none none [] .leaf) s { cx with nrm := fun s => FX (g32_G n) n (nav g32_B [1, 0, 0]) (.fin none (some g32_m2e) none [] .leaf) s cx }
theorem g32_1_fx {β : Type} (n : Nat) (cx : Cx β) (v0 : ByteArray) : g32_1F n (g32_m0 v0) cx = g32_1 n (fun v0 v3 => cx.nrm (g32_m2 v0 v3)) v0 := by kernel_rfl
noncomputable def g32_2 {β : Type} (n : Nat) (kn : ByteArray → Int → Option β) (kr : Bool → Option β) (kx0 : Option β) (v0 : ByteArray) (v3 : Int) : Option β := bif (decide (v3 < (2 : Int))) then (bif (!strEq v0 (⟨#[]⟩ : ByteArray)) then (idx (0 : Int) (v0.size : Int) <| bif ((byteAt v0 (0 : Int)) == (13 : Int)) then (bnd (1 : Int) (v0.size : Int) (v0.size : Int) <| bif (strEq (cutS v0 (1 : Int) (v0.size : Int)) (⟨#[]⟩ : ByteArray)) then (kr false) else (idx (0 : Int) ((cutS v0 (1 : Int) (v0.size : Int)).size : Int) <| bif ((byteAt (cutS v0 (1 : Int) (v0.size : Int)) (0 : Int)) != (10 : Int)) then (kr false) else (bnd (1 : Int) ((cutS v0 (1 : Int) (v0.size : Int)).size : Int) ((cutS v0 (1 : Int) (v0.size : Int)).size : Int) <| kn (cutS (cutS v0 (1 : Int) (v0.size : Int)) (1 : Int) ((cutS v0 (1 : Int) (v0.size : Int)).size : Int)) (w64 (v3 + (1 : Int)))))) else (bif (strEq v0 (⟨#[]⟩ : ByteArray)) then (kr false) else (idx (0 : Int) (v0.size : Int) <| bif ((byteAt v0 (0 : Int)) != (10 : Int)) then (kr false) else (bnd (1 : Int) (v0.size : Int) (v0.size : Int) <| kn (cutS v0 (1 : Int) (v0.size : Int)) (w64 (v3 + (1 : Int))))))) else (bif (strEq v0 (⟨#[]⟩ : ByteArray)) then (kr false) else (idx (0 : Int) (v0.size : Int) <| bif ((byteAt v0 (0 : Int)) != (10 : Int)) then (kr false) else (bnd (1 : Int) (v0.size : Int) (v0.size : Int) <| kn (cutS v0 (1 : Int) (v0.size : Int)) (w64 (v3 + (1 : Int))))))) else kx0
noncomputable def g32_2F {β : Type} (n : Nat) (s : FState) (cx : Cx β) : Option β := FX (g32_G n) n (nav g32_B [1, 0, 1, 0, 0, 0, 0]) (.fin none none (some g32_m1e) [(0, g32_m3e)] .leaf) s { cx with nrm := fun s => FX (g32_G n) n (nav g32_B [1, 0, 1, 0, 0, 0, 1]) (.fin none none (some g32_m1e) [(0, g32_m3e)] .leaf) s { cx with nrm := fun s => FX (g32_G n) n (nav g32_B [1, 0, 1, 0, 0, 1, 0]) (.fin none none (some g32_m1e) [(0, g32_m3e)] .leaf) s { cx with nrm := fun s => FX (g32_G n) n (nav g32_B [1, 0, 1, 0, 0, 1, 1]) (.fin none (some g32_m2e) (some g32_m1e) [(0, g32_m3e)] .leaf) s cx } } }
theorem g32_2_fx {β : Type} (n : Nat) (cx : Cx β) (v0 : ByteArray) (v3 : Int) : g32_2F n (g32_m2 v0 v3) cx = g32_2 n (fun v0 v3 => cx.nrm (g32_m2 v0 v3)) (fun v2 => cx.ret (g32_m1 v2)) (cx.ex 0 g32_m3) v0 v3 := by kernel_rfl
noncomputable def g32_3L {β : Type} (n : Nat) (kr : Bool → Option β) (kx0 : Option β) : Nat → ByteArray → Int → Option β
  | 0, _, _ => none
  | m + 1, v0, v3 => g32_2 n (g32_3L n kr kx0 m) kr kx0 v0 v3
noncomputable def g32_3 {β : Type} (n : Nat) (kr : Bool → Option β) (kx0 : Option β) (v0 : ByteArray) (v3 : Int) : Option β := g32_3L n kr kx0 n v0 v3
noncomputable def g32_3F {β : Type} (n : Nat) (s : FState) (cx : Cx β) : Option β := loopN (fun again s => g32_2F n s { cx with nrm := again }) n s
theorem g32_3L_fx {β : Type} (n : Nat) (cx : Cx β) : ∀ (m : Nat) (v0 : ByteArray) (v3 : Int), loopN (fun again s => g32_2F n s { cx with nrm := again }) m (g32_m2 v0 v3) = g32_3L n (fun v2 => cx.ret (g32_m1 v2)) (cx.ex 0 g32_m3) m v0 v3 := by
  intro m
  induction m with
  | zero => intros; rfl
  | succ m ih => intros; simp only [loopN, g32_3L, g32_2_fx, ih]
theorem g32_3_fx {β : Type} (n : Nat) (cx : Cx β) (v0 : ByteArray) (v3 : Int) : g32_3F n (g32_m2 v0 v3) cx = g32_3 n (fun v2 => cx.ret (g32_m1 v2)) (cx.ex 0 g32_m3) v0 v3 := g32_3L_fx n cx n v0 v3
noncomputable def g32_4 {β : Type} (n : Nat) (kn : Option β) (kr : Bool → Option β) (v0 : ByteArray) (v3 : Int) : Option β := g32_3 n kr kn v0 v3
noncomputable def g32_4F {β : Type} (n : Nat) (s : FState) (cx : Cx β) : Option β := g32_3F n s { cx with ex := fun j s => bif Nat.beq j 0 then cx.nrm s else cx.ex j s }
theorem g32_4_fx {β : Type} (n : Nat) (cx : Cx β) (v0 : ByteArray) (v3 : Int) : g32_4F n (g32_m2 v0 v3) cx = g32_4 n (cx.nrm g32_m3) (fun v2 => cx.ret (g32_m1 v2)) v0 v3 := g32_3_fx n _ v0 v3
noncomputable def g32_5 {β : Type} (n : Nat) (kr : Bool → Option β) : Option β := kr true
noncomputable def g32_5F {β : Type} (n : Nat) (s : FState) (cx : Cx β) : Option β := FX (g32_G n) n (nav g32_B [1, 1, 0]) (.fin none none (some g32_m1e) [] .leaf) s { cx with nrm := fun s => FX (g32_G n) n (nav g32_B [1, 1, 1]) (.fin none none (some g32_m1e) [] .leaf) s cx }
theorem g32_5_fx {β : Type} (n : Nat) (cx : Cx β) : g32_5F n g32_m3 cx = g32_5 n (fun v2 => cx.ret (g32_m1 v2)) := by kernel_rfl
noncomputable def g32_6 {β : Type} (n : Nat) (kr : Bool → Option β) (v0 : ByteArray) : Option β := g32_1 n (fun v0 v3 => g32_4 n (g32_5 n kr) kr v0 v3) v0
noncomputable def g32_6F {β : Type} (n : Nat) (s : FState) (cx : Cx β) : Option β := g32_1F n s { cx with nrm := fun s => g32_4F n s { cx with nrm := fun s => g32_5F n s cx } }
theorem g32_6_fx {β : Type} (n : Nat) (cx : Cx β) (v0 : ByteArray) : g32_6F n (g32_m0 v0) cx = g32_6 n (fun v2 => cx.ret (g32_m1 v2)) v0 := by simp only [g32_6F, g32_6, g32_1_fx, g32_4_fx, g32_5_fx]
noncomputable def g32 (n : Nat) (v0 : ByteArray) : Option (DenR [.dat .bool]) := g32_6 n (fun v2 => some (v2, ())) v0
noncomputable def g32_A : List AK := [.dat .str]
noncomputable def g32_R : List RK := [.dat .bool]
noncomputable def g32_f (n : Nat) (d : DenA g32_A) : Option (DenR g32_R) := g32 n d.1
noncomputable def g32_S (n : Nat) : Spec := mkSpec g32_A g32_R (g32_f n)
noncomputable def g32_K : Sk := (.nd (.fin none none none [] .leaf) (.nd (.nd (.fin none (some g32_m2e) none [] .leaf) (.nd (.nd (.nd (.nd (.fin none none (some g32_m1e) [(0, g32_m3e)] .leaf) (.fin none none (some g32_m1e) [(0, g32_m3e)] .leaf)) (.nd (.fin none none (some g32_m1e) [(0, g32_m3e)] .leaf) (.fin none (some g32_m2e) (some g32_m1e) [(0, g32_m3e)] .leaf))) .leaf) .leaf)) (.nd (.fin none none (some g32_m1e) [] .leaf) (.fin none none (some g32_m1e) [] .leaf))))
theorem g32_top {β : Type} (n : Nat) (s : FState) (cx : Cx β) : FX (g32_G n) n g32_B g32_K s cx = g32_6F n s cx := by kernel_rfl
theorem g32_fit (n : Nat) : Fit Tryd.prog 32 (g32_S n) :=
  fit_of (Γ := Γ0) (l := g32_C n) (n := n) (sk := g32_K) (ts := [(2, none)]) (fn := Tryd.f32) (c := g32_B) (by kernel_rfl) (by kernel_rfl) (by unfold Callable; kernel_rfl) tab_ok trivial follows_mixed (by kernel_rfl) (by kernel_rfl) (Nat.le_of_ble_eq_true (by kernel_rfl)) (by kernel_rfl) (by kernel_rfl)
    (fun d => (g32_top n _ _).trans (Eq.trans (b := g32_6F n (g32_m0 d.1) (finCx (g32_G n) g32_R [(2, none)])) (by kernel_rfl) ((g32_6_fx n _ d.1).trans (by kernel_rfl))))
noncomputable def g33_m0 (v0 : Int) : FState := ⟨tlist [(0, .dat (.int .u8) v0)], olist []⟩
noncomputable def g33_m1 (v2 : Bool) : FState := ⟨tlist [(2, .dat .bool v2)], olist []⟩
noncomputable def g33_m1e : List NE := [.keep 2]
noncomputable def g33_C (n : Nat) : List (Nat × Spec) := []
noncomputable def g33_G (n : Nat) : Ctx := { Γ0 with calls := lkS (g33_C n) }
noncomputable def g33_B : Code := fb Tryd.f33
noncomputable def g33_1 {β : Type} (n : Nat) (kr : Bool → Option β) (v0 : Int) : Option β := bif (decide (v0 ≥ (97 : Int))) then (bif (decide (v0 ≤ (122 : Int))) then (kr true) else (bif (decide (v0 ≥ (65 : Int))) then (bif (decide (v0 ≤ (90 : Int))) then (kr true) else (bif (decide (v0 ≥ (48 : Int))) then (kr (decide (v0 ≤ (57 : Int)))) else (kr false))) else (bif (decide (v0 ≥ (48 : Int))) then (kr (decide (v0 ≤ (57 : Int)))) else (kr false)))) else (bif (decide (v0 ≥ (65 : Int))) then (bif (decide (v0 ≤ (90 : Int))) then (kr true) else (bif (decide (v0 ≥ (48 : Int))) then (kr (decide (v0 ≤ (57 : Int)))) else (kr false))) else (bif (decide (v0 ≥ (48 : Int))) then (kr (decide (v0 ≤ (57 : Int)))) else (kr false)))
noncomputable def g33_1F {β : Type} (n : Nat) (s : FState) (cx : Cx β) : Option β := FX (g33_G n) n (nav g33_B [0]) (.fin none none (some g33_m1e) [] .leaf) s { cx with nrm := fun s => FX (g33_G n) n (nav g33_B [1, 0]) (.fin none none (some g33_m1e) [] .leaf) s { cx with nrm := fun s => FX (g33_G n) n (nav g33_B [1, 1]) (.fin none none (some g33_m1e) [] .leaf) s cx } }
theorem g33_1_fx {β : Type} (n : Nat) (cx : Cx β) (v0 : Int) : g33_1F n (g33_m0 v0) cx = g33_1 n (fun v2 => cx.ret (g33_m1 v2)) v0 := by kernel_rfl
noncomputable def g33 (n : Nat) (v0 : Int) : Option (DenR [.dat .bool]) := g33_1 n (fun v2 => some (v2, ())) v0
noncomputable def g33_A : List AK := [.dat (.int .u8)]
noncomputable def g33_R : List RK := [.dat .bool]
noncomputable def g33_f (n : Nat) (d : DenA g33_A) : Option (DenR g33_R) := g33 n d.1
noncomputable def g33_S (n : Nat) : Spec := mkSpec g33_A g33_R (g33_f n)
noncomputable def g33_K : Sk := (.nd (.fin none none (some g33_m1e) [] .leaf) (.nd (.fin none none (some g33_m1e) [] .leaf) (.fin none none (some g33_m1e) [] .leaf)))
theorem g33_top {β : Type} (n : Nat) (s : FState) (cx : Cx β) : FX (g33_G n) n g33_B g33_K s cx = g33_1F n s cx := by kernel_rfl
theorem g33_fit (n : Nat) : Fit Tryd.prog 33 (g33_S n) :=
  fit_of (Γ := Γ0) (l := g33_C n) (n := n) (sk := g33_K) (ts := [(2, none)]) (fn := Tryd.f33) (c := g33_B) (by kernel_rfl) (by kernel_rfl) (by unfold Callable; kernel_rfl) tab_ok trivial follows_mixed (by kernel_rfl) (by kernel_rfl) (Nat.le_of_ble_eq_true (by kernel_rfl)) (by kernel_rfl) (by kernel_rfl)
    (fun d => (g33_top n _ _).trans (Eq.trans (b := g33_1F n (g33_m0 d.1) (finCx (g33_G n) g33_R [(2, none)])) (by kernel_rfl) ((g33_1_fx n _ d.1).trans (by kernel_rfl))))
noncomputable def g34_m0 (v0 : Int) : FState := ⟨tlist [(0, .dat (.int .u8) v0)], olist []⟩
noncomputable def g34_m1 (v2 : Bool) : FState := ⟨tlist [(2, .dat .bool v2)], olist []⟩
noncomputable def g34_m1e : List NE := [.keep 2]
noncomputable def g34_C (n : Nat) : List (Nat × Spec) := []
noncomputable def g34_G (n : Nat) : Ctx := { Γ0 with calls := lkS (g34_C n) }
noncomputable def g34_B : Code := fb Tryd.f34
noncomputable def g34_1 {β : Type} (n : Nat) (kr : Bool → Option β) (v0 : Int) : Option β := bif (v0 == (32 : Int)) then (kr true) else (bif (v0 == (9 : Int)) then (kr true) else (bif (v0 == (10 : Int)) then (kr true) else (bif (v0 == (13 : Int)) then (kr true) else (kr (v0 == (12 : Int))))))
noncomputable def g34_1F {β : Type} (n : Nat) (s : FState) (cx : Cx β) : Option β := FX (g34_G n) n (nav g34_B [0]) (.fin none none (some g34_m1e) [] .leaf) s { cx with nrm := fun s => FX (g34_G n) n (nav g34_B [1, 0]) (.fin none none (some g34_m1e) [] .leaf) s { cx with nrm := fun s => FX (g34_G n) n (nav g34_B [1, 1]) (.fin none none (some g34_m1e) [] .leaf) s cx } }
theorem g34_1_fx {β : Type} (n : Nat) (cx : Cx β) (v0 : Int) : g34_1F n (g34_m0 v0) cx = g34_1 n (fun v2 => cx.ret (g34_m1 v2)) v0 := by kernel_rfl
noncomputable def g34 (n : Nat) (v0 : Int) : Option (DenR [.dat .bool]) := g34_1 n (fun v2 => some (v2, ())) v0
noncomputable def g34_A : List AK := [.dat (.int .u8)]
noncomputable def g34_R : List RK := [.dat .bool]
noncomputable def g34_f (n : Nat) (d : DenA g34_A) : Option (DenR g34_R) := g34 n d.1
noncomputable def g34_S (n : Nat) : Spec := mkSpec g34_A g34_R (g34_f n)
noncomputable def g34_K : Sk := (.nd (.fin none none (some g34_m1e) [] .leaf) (.nd (.fin none none (some g34_m1e) [] .leaf) (.fin none none (some g34_m1e) [] .leaf)))
theorem g34_top {β : Type} (n : Nat) (s : FState) (cx : Cx β) : FX (g34_G n) n g34_B g34_K s cx = g34_1F n s cx := by kernel_rfl
theorem g34_fit (n : Nat) : Fit Tryd.prog 34 (g34_S n) :=
  fit_of (Γ := Γ0) (l := g34_C n) (n := n) (sk := g34_K) (ts := [(2, none)]) (fn := Tryd.f34) (c := g34_B) (by kernel_rfl) (by kernel_rfl) (by unfold Callable; kernel_rfl) tab_ok trivial follows_mixed (by kernel_rfl) (by kernel_rfl) (Nat.le_of_ble_eq_true (by kernel_rfl)) (by kernel_rfl) (by kernel_rfl)
    (fun d => (g34_top n _ _).trans (Eq.trans (b := g34_1F n (g34_m0 d.1) (finCx (g34_G n) g34_R [(2, none)])) (by kernel_rfl) ((g34_1_fx n _ d.1).trans (by kernel_rfl))))
noncomputable def g13_m0 (v0 : ByteArray) (v1 : ByteArray) : FState := ⟨tlist [(0, .dat .str v0), (1, .dat .str v1)], olist []⟩
noncomputable def g13_m1 (v4 : Int) : FState := ⟨tlist [(4, .dat (.int .i64) v4)], olist []⟩
noncomputable def g13_m1e : List NE := [.keep 4]
noncomputable def g13_m2 (v0 : ByteArray) (v1 : ByteArray) (v5 : Int) (v6 : Int) (v7 : Bool) : FState := ⟨tlist [(0, .dat .str v0), (1, .dat .str v1), (5, .dat (.int .u8) v5), (6, .dat (.int .u8) v6), (7, .dat .bool v7)], olist []⟩
noncomputable def g13_m2e : List NE := [.keep 0, .keep 1, .keep 5, .keep 6, .keep 7]
noncomputable def g13_m3 : FState := ⟨tlist [], olist []⟩
noncomputable def g13_m3e : List NE := []
noncomputable def g13_m4 (v5 : Int) (v6 : Int) (v7 : Bool) (v35 : Bool) : FState := ⟨tlist [(5, .dat (.int .u8) v5), (6, .dat (.int .u8) v6), (7, .dat .bool v7), (35, .dat .bool v35)], olist []⟩
noncomputable def g13_m4e : List NE := [.keep 5, .keep 6, .keep 7, .keep 35]
noncomputable def g13_C (n : Nat) : List (Nat × Spec) := [(31, g31_S n), (32, g32_S n), (33, g33_S n), (34, g34_S n)]
noncomputable def g13_G (n : Nat) : Ctx := { Γ0 with calls := lkS (g13_C n) }
noncomputable def g13_B : Code := fb Tryd.f13
noncomputable def g13_1 {β : Type} (n : Nat) (kn : ByteArray → ByteArray → Int → Int → Bool → Option β) (kr : Int → Option β) (v0 : ByteArray) (v1 : ByteArray) : Option β := bif (strEq v0 (⟨#[]⟩ : ByteArray)) then (kr (6 : Int)) else (bif (strEq v1 (⟨#[]⟩ : ByteArray)) then (kr (6 : Int)) else (idx (w64 ((v0.size : Int) - (1 : Int))) (v0.size : Int) <| idx (0 : Int) (v1.size : Int) <| bif ((byteAt v0 (w64 ((v0.size : Int) - (1 : Int)))) == (10 : Int)) then (kn v0 v1 (byteAt v0 (w64 ((v0.size : Int) - (1 : Int)))) (byteAt v1 (0 : Int)) true) else (bif ((byteAt v0 (w64 ((v0.size : Int) - (1 : Int)))) == (13 : Int)) then (kn v0 v1 (byteAt v0 (w64 ((v0.size : Int) - (1 : Int)))) (byteAt v1 (0 : Int)) true) else (bif ((byteAt v1 (0 : Int)) == (10 : Int)) then (kn v0 v1 (byteAt v0 (w64 ((v0.size : Int) - (1 : Int)))) (byteAt v1 (0 : Int)) true) else (kn v0 v1 (byteAt v0 (w64 ((v0.size : Int) - (1 : Int)))) (byteAt v1 (0 : Int)) ((byteAt v1 (0 : Int)) == (13 : Int)))))))
noncomputable def g13_1F {β : Type} (n : Nat) (s : FState) (cx : Cx β) : Option β := FX (g13_G n) n (nav g13_B [0]) (.fin none none (some g13_m1e) [] .leaf) s { cx with nrm := fun s => FX (g13_G n) n (nav g13_B [1, 0, 0]) (.fin none none (some g13_m1e) [] .leaf) s { cx with nrm := fun s => FX (g13_G n) n (nav g13_B [1, 0, 1]) (.fin none none (some g13_m1e) [] .leaf) s { cx with nrm := fun s => FX (g13_G n) n (nav g13_B [1, 1, 0]) (.fin none none (some g13_m1e) [] .leaf) s { cx with nrm := fun s => FX (g13_G n) n (nav g13_B [1, 1, 1, 0]) (.fin none (some g13_m2e) (some g13_m1e) [] .leaf) s cx } } } }
theorem g13_1_fx {β : Type} (n : Nat) (cx : Cx β) (v0 : ByteArray) (v1 : ByteArray) : g13_1F n (g13_m0 v0 v1) cx = g13_1 n (fun v0 v1 v5 v6 v7 => cx.nrm (g13_m2 v0 v1 v5 v6 v7)) (fun v4 => cx.ret (g13_m1 v4)) v0 v1 := by kernel_rfl
noncomputable def g13_2 {β : Type} (n : Nat) (kn : Int → Int → Bool → Bool → Option β) (v0 : ByteArray) (v1 : ByteArray) (v5 : Int) (v6 : Int) (v7 : Bool) : Option β := bif v7 then ((g31 n v0).bind fun r1 => bif r1.1 then (bif (v5 == (10 : Int)) then (kn v5 v6 v7 true) else (bif (v5 == (13 : Int)) then (kn v5 v6 v7 true) else ((g32 n v1).bind fun r2 => bif r2.1 then (bif (v6 == (10 : Int)) then (kn v5 v6 v7 true) else (kn v5 v6 v7 (v6 == (13 : Int)))) else (kn v5 v6 v7 false)))) else ((g32 n v1).bind fun r3 => bif r3.1 then (bif (v6 == (10 : Int)) then (kn v5 v6 v7 true) else (kn v5 v6 v7 (v6 == (13 : Int)))) else (kn v5 v6 v7 false))) else (kn v5 v6 v7 false)
noncomputable def g13_2F {β : Type} (n : Nat) (s : FState) (cx : Cx β) : Option β := FX (g13_G n) n (nav g13_B [1, 1, 1, 1, 0, 0, 0]) (.fin none (some g13_m4e) none [] .leaf) s cx
theorem g13_2_fx {β : Type} (n : Nat) (cx : Cx β) (v0 : ByteArray) (v1 : ByteArray) (v5 : Int) (v6 : Int) (v7 : Bool) : g13_2F n (g13_m2 v0 v1 v5 v6 v7) cx = g13_2 n (fun v5 v6 v7 v35 => cx.nrm (g13_m4 v5 v6 v7 v35)) v0 v1 v5 v6 v7 := by kernel_rfl
noncomputable def g13_3 {β : Type} (n : Nat) (kn : Option β) (kr : Int → Option β) (v5 : Int) (v6 : Int) (v7 : Bool) (v35 : Bool) : Option β := bif v35 then (kr (5 : Int)) else (bif v7 then (kr (4 : Int)) else ((g33 n v5).bind fun r1 => bif (!r1.1) then ((g34 n v5).bind fun r2 => bif (!r2.1) then ((g34 n v6).bind fun r3 => bif r3.1 then (kr (3 : Int)) else ((g34 n v5).bind fun r4 => bif r4.1 then (kr (2 : Int)) else ((g34 n v6).bind fun r5 => bif r5.1 then (kr (2 : Int)) else ((g33 n v5).bind fun r6 => bif (!r6.1) then (kr (1 : Int)) else ((g33 n v6).bind fun r7 => bif (!r7.1) then (kr (1 : Int)) else kn))))) else ((g34 n v5).bind fun r8 => bif r8.1 then (kr (2 : Int)) else ((g34 n v6).bind fun r9 => bif r9.1 then (kr (2 : Int)) else ((g33 n v5).bind fun r10 => bif (!r10.1) then (kr (1 : Int)) else ((g33 n v6).bind fun r11 => bif (!r11.1) then (kr (1 : Int)) else kn))))) else ((g34 n v5).bind fun r12 => bif r12.1 then (kr (2 : Int)) else ((g34 n v6).bind fun r13 => bif r13.1 then (kr (2 : Int)) else ((g33 n v5).bind fun r14 => bif (!r14.1) then (kr (1 : Int)) else ((g33 n v6).bind fun r15 => bif (!r15.1) then (kr (1 : Int)) else kn))))))
noncomputable def g13_3F {β : Type} (n : Nat) (s : FState) (cx : Cx β) : Option β := FX (g13_G n) n (nav g13_B [1, 1, 1, 1, 0, 0, 1]) (.fin none (some g13_m3e) (some g13_m1e) [] .leaf) s cx
theorem g13_3_fx {β : Type} (n : Nat) (cx : Cx β) (v5 : Int) (v6 : Int) (v7 : Bool) (v35 : Bool) : g13_3F n (g13_m4 v5 v6 v7 v35) cx = g13_3 n (cx.nrm g13_m3) (fun v4 => cx.ret (g13_m1 v4)) v5 v6 v7 v35 := by kernel_rfl
noncomputable def g13_4 {β : Type} (n : Nat) (kn : Option β) (kr : Int → Option β) (v0 : ByteArray) (v1 : ByteArray) (v5 : Int) (v6 : Int) (v7 : Bool) : Option β := g13_2 n (fun v5 v6 v7 v35 => g13_3 n kn kr v5 v6 v7 v35) v0 v1 v5 v6 v7
noncomputable def g13_4F {β : Type} (n : Nat) (s : FState) (cx : Cx β) : Option β := g13_2F n s { cx with nrm := fun s => g13_3F n s cx }
theorem g13_4_fx {β : Type} (n : Nat) (cx : Cx β) (v0 : ByteArray) (v1 : ByteArray) (v5 : Int) (v6 : Int) (v7 : Bool) : g13_4F n (g13_m2 v0 v1 v5 v6 v7) cx = g13_4 n (cx.nrm g13_m3) (fun v4 => cx.ret (g13_m1 v4)) v0 v1 v5 v6 v7 := by simp only [g13_4F, g13_4, g13_2_fx, g13_3_fx]
noncomputable def g13_5 {β : Type} (n : Nat) (kn : Option β) (kr : Int → Option β) (v0 : ByteArray) (v1 : ByteArray) (v5 : Int) (v6 : Int) (v7 : Bool) : Option β := g13_4 n kn kr v0 v1 v5 v6 v7
noncomputable def g13_5F {β : Type} (n : Nat) (s : FState) (cx : Cx β) : Option β := g13_4F n s { cx with ex := fun j s => bif Nat.beq j 0 then cx.nrm s else cx.ex j s }
theorem g13_5_fx {β : Type} (n : Nat) (cx : Cx β) (v0 : ByteArray) (v1 : ByteArray) (v5 : Int) (v6 : Int) (v7 : Bool) : g13_5F n (g13_m2 v0 v1 v5 v6 v7) cx = g13_5 n (cx.nrm g13_m3) (fun v4 => cx.ret (g13_m1 v4)) v0 v1 v5 v6 v7 := g13_4_fx n _ v0 v1 v5 v6 v7
noncomputable def g13_6 {β : Type} (n : Nat) (kr : Int → Option β) : Option β := kr (0 : Int)
noncomputable def g13_6F {β : Type} (n : Nat) (s : FState) (cx : Cx β) : Option β := FX (g13_G n) n (nav g13_B [1, 1, 1, 1, 1, 0]) (.fin none none (some g13_m1e) [] .leaf) s { cx with nrm := fun s => FX (g13_G n) n (nav g13_B [1, 1, 1, 1, 1, 1]) (.fin none none (some g13_m1e) [] .leaf) s cx }
theorem g13_6_fx {β : Type} (n : Nat) (cx : Cx β) : g13_6F n g13_m3 cx = g13_6 n (fun v4 => cx.ret (g13_m1 v4)) := by kernel_rfl
noncomputable def g13_7 {β : Type} (n : Nat) (kr : Int → Option β) (v0 : ByteArray) (v1 : ByteArray) : Option β := g13_1 n (fun v0 v1 v5 v6 v7 => g13_5 n (g13_6 n kr) kr v0 v1 v5 v6 v7) kr v0 v1
noncomputable def g13_7F {β : Type} (n : Nat) (s : FState) (cx : Cx β) : Option β := g13_1F n s { cx with nrm := fun s => g13_5F n s { cx with nrm := fun s => g13_6F n s cx } }
theorem g13_7_fx {β : Type} (n : Nat) (cx : Cx β) (v0 : ByteArray) (v1 : ByteArray) : g13_7F n (g13_m0 v0 v1) cx = g13_7 n (fun v4 => cx.ret (g13_m1 v4)) v0 v1 := by simp only [g13_7F, g13_7, g13_1_fx, g13_5_fx, g13_6_fx]
noncomputable def g13 (n : Nat) (v0 : ByteArray) (v1 : ByteArray) : Option (DenR [.dat (.int .i64)]) := g13_7 n (fun v4 => some (v4, ())) v0 v1
noncomputable def g13_A : List AK := [.dat .str, .dat .str]
noncomputable def g13_R : List RK := [.dat (.int .i64)]
noncomputable def g13_f (n : Nat) (d : DenA g13_A) : Option (DenR g13_R) := g13 n d.1 d.2.1
noncomputable def g13_S (n : Nat) : Spec := mkSpec g13_A g13_R (g13_f n)
noncomputable def g13_K : Sk := (.nd (.fin none none (some g13_m1e) [] .leaf) (.nd (.nd (.fin none none (some g13_m1e) [] .leaf) (.fin none none (some g13_m1e) [] .leaf)) (.nd (.fin none none (some g13_m1e) [] .leaf) (.nd (.fin none (some g13_m2e) (some g13_m1e) [] .leaf) (.nd (.nd (.nd (.fin none (some g13_m4e) none [] .leaf) (.fin none (some g13_m3e) (some g13_m1e) [] .leaf)) .leaf) (.nd (.fin none none (some g13_m1e) [] .leaf) (.fin none none (some g13_m1e) [] .leaf)))))))
theorem g13_top {β : Type} (n : Nat) (s : FState) (cx : Cx β) : FX (g13_G n) n g13_B g13_K s cx = g13_7F n s cx := by kernel_rfl
theorem g13_fit (n : Nat) : Fit Tryd.prog 13 (g13_S n) :=
  fit_of (Γ := Γ0) (l := g13_C n) (n := n) (sk := g13_K) (ts := [(4, none)]) (fn := Tryd.f13) (c := g13_B) (by kernel_rfl) (by kernel_rfl) (by unfold Callable; kernel_rfl) tab_ok ⟨g31_fit n, g32_fit n, g33_fit n, g34_fit n, trivial⟩ follows_mixed (by kernel_rfl) (by kernel_rfl) (Nat.le_of_ble_eq_true (by kernel_rfl)) (by kernel_rfl) (by kernel_rfl)
    (fun d => (g13_top n _ _).trans (Eq.trans (b := g13_7F n (g13_m0 d.1 d.2.1) (finCx (g13_G n) g13_R [(4, none)])) (by kernel_rfl) ((g13_7_fx n _ d.1 d.2.1).trans (by kernel_rfl))))
noncomputable def g4_m0 (x0 : List Int) (x1 : List Int) : FState := ⟨tlist [(0, .sl 0 none false), (1, .sl 1 none false)], olist [(0, .row (.int .u8) 5 false x0), (1, .row (.int .u8) 5 false x1)]⟩
noncomputable def g4_m1 (v4 : Bool) : FState := ⟨tlist [(4, .dat .bool v4)], olist []⟩
noncomputable def g4_m1e : List NE := [.keep 4]
noncomputable def g4_C (n : Nat) : List (Nat × Spec) := [(9, g9_S n), (11, g11_S n), (12, g12_S n), (13, g13_S n)]
noncomputable def g4_G (n : Nat) : Ctx := { Γ0 with calls := lkS (g4_C n) }
noncomputable def g4_B : Code := fb Tryd.f4
noncomputable def g4_1 {β : Type} (n : Nat) (kr : Bool → Option β) (x0 : List Int) (x1 : List Int) : Option β := bif (decide ((x0.length : Int) > (2147483647 : Int))) then (kr true) else (bif (decide ((x1.length : Int) > (2147483647 : Int))) then (kr true) else ((g9 n x0 (20 : Int)).bind fun r1 => (g9 n x1 (20 : Int)).bind fun r2 => (g11 n r2.1).bind fun r3 => (g12 n r1.1 r3.1).bind fun r4 => (g13 n r1.1 r3.1).bind fun r5 => kr (r4.1 == r5.1)))
noncomputable def g4_1F {β : Type} (n : Nat) (s : FState) (cx : Cx β) : Option β := FX (g4_G n) n (nav g4_B [0]) (.fin none none (some g4_m1e) [] .leaf) s { cx with nrm := fun s => FX (g4_G n) n (nav g4_B [1, 0, 0]) (.fin none none (some g4_m1e) [] .leaf) s { cx with nrm := fun s => FX (g4_G n) n (nav g4_B [1, 0, 1]) (.fin none none (some g4_m1e) [] .leaf) s { cx with nrm := fun s => FX (g4_G n) n (nav g4_B [1, 1, 0]) (.fin none none (some g4_m1e) [] .leaf) s { cx with nrm := fun s => FX (g4_G n) n (nav g4_B [1, 1, 1, 0]) (.fin none none (some g4_m1e) [] .leaf) s { cx with nrm := fun s => FX (g4_G n) n (nav g4_B [1, 1, 1, 1]) (.fin none none (some g4_m1e) [] .leaf) s cx } } } } }
theorem g4_1_fx {β : Type} (n : Nat) (cx : Cx β) (x0 : List Int) (x1 : List Int) : g4_1F n (g4_m0 x0 x1) cx = g4_1 n (fun v4 => cx.ret (g4_m1 v4)) x0 x1 := by kernel_rfl
noncomputable def g4 (n : Nat) (x0 : List Int) (x1 : List Int) : Option (DenR [.dat .bool]) := g4_1 n (fun v4 => some (v4, ())) x0 x1
noncomputable def g4_A : List AK := [.ro (.int .u8) 5, .ro (.int .u8) 5]
noncomputable def g4_R : List RK := [.dat .bool]
noncomputable def g4_f (n : Nat) (d : DenA g4_A) : Option (DenR g4_R) := g4 n d.1 d.2.1
noncomputable def g4_S (n : Nat) : Spec := mkSpec g4_A g4_R (g4_f n)
noncomputable def g4_K : Sk := (.nd (.fin none none (some g4_m1e) [] .leaf) (.nd (.nd (.fin none none (some g4_m1e) [] .leaf) (.fin none none (some g4_m1e) [] .leaf)) (.nd (.fin none none (some g4_m1e) [] .leaf) (.nd (.fin none none (some g4_m1e) [] .leaf) (.fin none none (some g4_m1e) [] .leaf)))))
theorem g4_top {β : Type} (n : Nat) (s : FState) (cx : Cx β) : FX (g4_G n) n g4_B g4_K s cx = g4_1F n s cx := by kernel_rfl
theorem g4_fit (n : Nat) : Fit Tryd.prog 4 (g4_S n) :=
  fit_of (Γ := Γ0) (l := g4_C n) (n := n) (sk := g4_K) (ts := [(4, none)]) (fn := Tryd.f4) (c := g4_B) (by kernel_rfl) (by kernel_rfl) (by unfold Callable; kernel_rfl) tab_ok ⟨g9_fit n, g11_fit n, g12_fit n, g13_fit n, trivial⟩ follows_mixed (by kernel_rfl) (by kernel_rfl) (Nat.le_of_ble_eq_true (by kernel_rfl)) (by kernel_rfl) (by kernel_rfl)
    (fun d => (g4_top n _ _).trans (Eq.trans (b := g4_1F n (g4_m0 d.1 d.2.1) (finCx (g4_G n) g4_R [(4, none)])) (by kernel_rfl) ((g4_1_fx n _ d.1 d.2.1).trans (by kernel_rfl))))
end Go.Proofs.YtoafkjeamgelgaaDoorUF
