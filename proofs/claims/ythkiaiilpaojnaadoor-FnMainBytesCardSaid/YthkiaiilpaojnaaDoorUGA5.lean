import Derived.Test.YthkiaiilpaojnaaDoorUFT
import Derived.Test.YthkiaiilpaojnaaDoorUGA0
import Derived.Test.YthkiaiilpaojnaaDoorUGA4
namespace Go.Proofs.YthkiaiilpaojnaaDoorUF
open Go Go.Proofs
set_option linter.unusedVariables false
set_option maxRecDepth 100000
noncomputable def g39_m0 (v0 : ByteArray) (v1 : ByteArray) (v2 : Bool) : FState := ⟨tlist [(0, .dat .str v0), (1, .dat .str v1), (2, .dat .bool v2)], olist []⟩
noncomputable def g39_m1 (x6 : List (Int × ByteArray)) : FState := ⟨tlist [(6, .sl 6 none false)], olist [(6, .row (.pair (.int .i64) .str) 68 false x6)]⟩
noncomputable def g39_m1e : List NE := [.row 6 (.pair (.int .i64) .str) 68 false]
noncomputable def g39_C (n : Nat) : List (Nat × Spec) := [(40, g40_S n), (65, g65_S n)]
noncomputable def g39_G (n : Nat) : Ctx := { Γ0 with calls := lkS (g39_C n) }
noncomputable def g39_B : Code := fb Tryd.f39
noncomputable def g39_1 {β : Type} (n : Nat) (kr : List (Int × ByteArray) → Option β) (v0 : ByteArray) (v1 : ByteArray) (v2 : Bool) : Option β := (g40 n (false, ((0 : Int), ((0 : Int), ((0 : Nat), ((0 : Nat), ((0 : Int), (0 : Int))))))) v0 v1 v2).bind fun r1 => (g65 n r1.1 r1.2.1).bind fun r2 => kr r2.1
noncomputable def g39_1F {β : Type} (n : Nat) (s : FState) (cx : Cx β) : Option β := FX (g39_G n) n (nav g39_B [0]) (.fin none none (some g39_m1e) [] .leaf) s { cx with nrm := fun s => FX (g39_G n) n (nav g39_B [1, 0]) (.fin none none (some g39_m1e) [] .leaf) s { cx with nrm := fun s => FX (g39_G n) n (nav g39_B [1, 1, 0]) (.fin none none (some g39_m1e) [] .leaf) s { cx with nrm := fun s => FX (g39_G n) n (nav g39_B [1, 1, 1]) (.fin none none (some g39_m1e) [] .leaf) s cx } } }
theorem g39_1_fx {β : Type} (n : Nat) (cx : Cx β) (v0 : ByteArray) (v1 : ByteArray) (v2 : Bool) : g39_1F n (g39_m0 v0 v1 v2) cx = g39_1 n (fun x6 => cx.ret (g39_m1 x6)) v0 v1 v2 := by kernel_rfl
noncomputable def g39 (n : Nat) (v0 : ByteArray) (v1 : ByteArray) (v2 : Bool) : Option (DenR [.ro (.pair (.int .i64) .str) 68]) := g39_1 n (fun x6 => some (x6, ())) v0 v1 v2
noncomputable def g39_A : List AK := [.dat .str, .dat .str, .dat .bool]
noncomputable def g39_R : List RK := [.ro (.pair (.int .i64) .str) 68]
noncomputable def g39_f (n : Nat) (d : DenA g39_A) : Option (DenR g39_R) := g39 n d.1 d.2.1 d.2.2.1
noncomputable def g39_S (n : Nat) : Spec := mkSpec g39_A g39_R (g39_f n)
noncomputable def g39_K : Sk := (.nd (.fin none none (some g39_m1e) [] .leaf) (.nd (.fin none none (some g39_m1e) [] .leaf) (.nd (.fin none none (some g39_m1e) [] .leaf) (.fin none none (some g39_m1e) [] .leaf))))
theorem g39_top {β : Type} (n : Nat) (s : FState) (cx : Cx β) : FX (g39_G n) n g39_B g39_K s cx = g39_1F n s cx := by kernel_rfl
theorem g39_fit (n : Nat) : Fit Tryd.prog 39 (g39_S n) :=
  fit_of (Γ := Γ0) (l := g39_C n) (n := n) (sk := g39_K) (ts := [(6, none)]) (fn := Tryd.f39) (c := g39_B) (by kernel_rfl) (by kernel_rfl) (by unfold Callable; kernel_rfl) tab_ok ⟨g40_fit n, g65_fit n, trivial⟩ follows_mixed (by kernel_rfl) (by kernel_rfl) (Nat.le_of_ble_eq_true (by kernel_rfl)) (by kernel_rfl) (by kernel_rfl)
    (fun d => (g39_top n _ _).trans (Eq.trans (b := g39_1F n (g39_m0 d.1 d.2.1 d.2.2.1) (finCx (g39_G n) g39_R [(6, none)])) (by kernel_rfl) ((g39_1_fx n _ d.1 d.2.1 d.2.2.1).trans (by kernel_rfl))))
noncomputable def g9_m0 (v0 : ByteArray) (v1 : ByteArray) : FState := ⟨tlist [(0, .dat .str v0), (1, .dat .str v1)], olist []⟩
noncomputable def g9_m1 (v4 : Bool) : FState := ⟨tlist [(4, .dat .bool v4)], olist []⟩
noncomputable def g9_m1e : List NE := [.keep 4]
noncomputable def g9_C (n : Nat) : List (Nat × Spec) := [(32, g32_S n), (34, g34_S n), (35, g35_S n), (37, g37_S n), (39, g39_S n)]
noncomputable def g9_G (n : Nat) : Ctx := { Γ0 with calls := lkS (g9_C n) }
noncomputable def g9_B : Code := fb Tryd.f9
noncomputable def g9_1 {β : Type} (n : Nat) (kr : Bool → Option β) (v0 : ByteArray) (v1 : ByteArray) : Option β := bif (decide ((v0.size : Int) > (2147483647 : Int))) then (kr true) else (bif (decide ((v1.size : Int) > (2147483647 : Int))) then (kr true) else ((g32 n v0 (120 : Int)).bind fun r1 => (g32 n v1 (120 : Int)).bind fun r2 => (g39 n r1.1 r2.1 false).bind fun r3 => (g39 n r2.1 r1.1 false).bind fun r4 => (g37 n r3.1).bind fun r5 => (g37 n r4.1).bind fun r6 => bif (r5.1 == r6.1) then ((g34 n r3.1).bind fun r7 => bif (strEq r7.1 r1.1) then ((g35 n r4.1).bind fun r8 => kr (strEq r8.1 r1.1)) else (kr false)) else (kr false)))
noncomputable def g9_1F {β : Type} (n : Nat) (s : FState) (cx : Cx β) : Option β := FX (g9_G n) n (nav g9_B [0]) (.fin none none (some g9_m1e) [] .leaf) s { cx with nrm := fun s => FX (g9_G n) n (nav g9_B [1, 0, 0]) (.fin none none (some g9_m1e) [] .leaf) s { cx with nrm := fun s => FX (g9_G n) n (nav g9_B [1, 0, 1]) (.fin none none (some g9_m1e) [] .leaf) s { cx with nrm := fun s => FX (g9_G n) n (nav g9_B [1, 1, 0]) (.fin none none (some g9_m1e) [] .leaf) s { cx with nrm := fun s => FX (g9_G n) n (nav g9_B [1, 1, 1, 0]) (.fin none none (some g9_m1e) [] .leaf) s { cx with nrm := fun s => FX (g9_G n) n (nav g9_B [1, 1, 1, 1, 0]) (.fin none none (some g9_m1e) [] .leaf) s { cx with nrm := fun s => FX (g9_G n) n (nav g9_B [1, 1, 1, 1, 1]) (.fin none none (some g9_m1e) [] .leaf) s cx } } } } } }
theorem g9_1_fx {β : Type} (n : Nat) (cx : Cx β) (v0 : ByteArray) (v1 : ByteArray) : g9_1F n (g9_m0 v0 v1) cx = g9_1 n (fun v4 => cx.ret (g9_m1 v4)) v0 v1 := by kernel_rfl
noncomputable def g9 (n : Nat) (v0 : ByteArray) (v1 : ByteArray) : Option (DenR [.dat .bool]) := g9_1 n (fun v4 => some (v4, ())) v0 v1
noncomputable def g9_A : List AK := [.dat .str, .dat .str]
noncomputable def g9_R : List RK := [.dat .bool]
noncomputable def g9_f (n : Nat) (d : DenA g9_A) : Option (DenR g9_R) := g9 n d.1 d.2.1
noncomputable def g9_S (n : Nat) : Spec := mkSpec g9_A g9_R (g9_f n)
noncomputable def g9_K : Sk := (.nd (.fin none none (some g9_m1e) [] .leaf) (.nd (.nd (.fin none none (some g9_m1e) [] .leaf) (.fin none none (some g9_m1e) [] .leaf)) (.nd (.fin none none (some g9_m1e) [] .leaf) (.nd (.fin none none (some g9_m1e) [] .leaf) (.nd (.fin none none (some g9_m1e) [] .leaf) (.fin none none (some g9_m1e) [] .leaf))))))
theorem g9_top {β : Type} (n : Nat) (s : FState) (cx : Cx β) : FX (g9_G n) n g9_B g9_K s cx = g9_1F n s cx := by kernel_rfl
theorem g9_fit (n : Nat) : Fit Tryd.prog 9 (g9_S n) :=
  fit_of (Γ := Γ0) (l := g9_C n) (n := n) (sk := g9_K) (ts := [(4, none)]) (fn := Tryd.f9) (c := g9_B) (by kernel_rfl) (by kernel_rfl) (by unfold Callable; kernel_rfl) tab_ok ⟨g32_fit n, g34_fit n, g35_fit n, g37_fit n, g39_fit n, trivial⟩ follows_mixed (by kernel_rfl) (by kernel_rfl) (Nat.le_of_ble_eq_true (by kernel_rfl)) (by kernel_rfl) (by kernel_rfl)
    (fun d => (g9_top n _ _).trans (Eq.trans (b := g9_1F n (g9_m0 d.1 d.2.1) (finCx (g9_G n) g9_R [(4, none)])) (by kernel_rfl) ((g9_1_fx n _ d.1 d.2.1).trans (by kernel_rfl))))
noncomputable def g12_m0 (v0 : ByteArray) (v1 : ByteArray) : FState := ⟨tlist [(0, .dat .str v0), (1, .dat .str v1)], olist []⟩
noncomputable def g12_m1 (v4 : Bool) : FState := ⟨tlist [(4, .dat .bool v4)], olist []⟩
noncomputable def g12_m1e : List NE := [.keep 4]
noncomputable def g12_C (n : Nat) : List (Nat × Spec) := [(15, g15_S n), (32, g32_S n), (34, g34_S n), (35, g35_S n), (37, g37_S n), (38, g38_S n), (39, g39_S n)]
noncomputable def g12_G (n : Nat) : Ctx := { Γ0 with calls := lkS (g12_C n) }
noncomputable def g12_B : Code := fb Tryd.f12
noncomputable def g12_1 {β : Type} (n : Nat) (kr : Bool → Option β) (v0 : ByteArray) (v1 : ByteArray) : Option β := bif (decide ((v0.size : Int) > (2147483647 : Int))) then (kr true) else (bif (decide ((v1.size : Int) > (2147483647 : Int))) then (kr true) else ((g32 n v0 (80 : Int)).bind fun r1 => (g32 n v1 (80 : Int)).bind fun r2 => (g39 n r1.1 r2.1 false).bind fun r3 => (g34 n r3.1).bind fun r4 => bif (strEq r4.1 r1.1) then ((g35 n r3.1).bind fun r5 => bif (strEq r5.1 r2.1) then ((g37 n r3.1).bind fun r6 => (g15 n r1.1).bind fun r7 => (g15 n r2.1).bind fun r8 => (g38 n r7.1 r8.1).bind fun r9 => kr (r6.1 == r9.1)) else (kr false)) else (kr false)))
noncomputable def g12_1F {β : Type} (n : Nat) (s : FState) (cx : Cx β) : Option β := FX (g12_G n) n (nav g12_B [0]) (.fin none none (some g12_m1e) [] .leaf) s { cx with nrm := fun s => FX (g12_G n) n (nav g12_B [1, 0, 0]) (.fin none none (some g12_m1e) [] .leaf) s { cx with nrm := fun s => FX (g12_G n) n (nav g12_B [1, 0, 1]) (.fin none none (some g12_m1e) [] .leaf) s { cx with nrm := fun s => FX (g12_G n) n (nav g12_B [1, 1, 0]) (.fin none none (some g12_m1e) [] .leaf) s { cx with nrm := fun s => FX (g12_G n) n (nav g12_B [1, 1, 1, 0]) (.fin none none (some g12_m1e) [] .leaf) s { cx with nrm := fun s => FX (g12_G n) n (nav g12_B [1, 1, 1, 1, 0]) (.fin none none (some g12_m1e) [] .leaf) s { cx with nrm := fun s => FX (g12_G n) n (nav g12_B [1, 1, 1, 1, 1]) (.fin none none (some g12_m1e) [] .leaf) s cx } } } } } }
theorem g12_1_fx {β : Type} (n : Nat) (cx : Cx β) (v0 : ByteArray) (v1 : ByteArray) : g12_1F n (g12_m0 v0 v1) cx = g12_1 n (fun v4 => cx.ret (g12_m1 v4)) v0 v1 := by kernel_rfl
noncomputable def g12 (n : Nat) (v0 : ByteArray) (v1 : ByteArray) : Option (DenR [.dat .bool]) := g12_1 n (fun v4 => some (v4, ())) v0 v1
noncomputable def g12_A : List AK := [.dat .str, .dat .str]
noncomputable def g12_R : List RK := [.dat .bool]
noncomputable def g12_f (n : Nat) (d : DenA g12_A) : Option (DenR g12_R) := g12 n d.1 d.2.1
noncomputable def g12_S (n : Nat) : Spec := mkSpec g12_A g12_R (g12_f n)
noncomputable def g12_K : Sk := (.nd (.fin none none (some g12_m1e) [] .leaf) (.nd (.nd (.fin none none (some g12_m1e) [] .leaf) (.fin none none (some g12_m1e) [] .leaf)) (.nd (.fin none none (some g12_m1e) [] .leaf) (.nd (.fin none none (some g12_m1e) [] .leaf) (.nd (.fin none none (some g12_m1e) [] .leaf) (.fin none none (some g12_m1e) [] .leaf))))))
theorem g12_top {β : Type} (n : Nat) (s : FState) (cx : Cx β) : FX (g12_G n) n g12_B g12_K s cx = g12_1F n s cx := by kernel_rfl
theorem g12_fit (n : Nat) : Fit Tryd.prog 12 (g12_S n) :=
  fit_of (Γ := Γ0) (l := g12_C n) (n := n) (sk := g12_K) (ts := [(4, none)]) (fn := Tryd.f12) (c := g12_B) (by kernel_rfl) (by kernel_rfl) (by unfold Callable; kernel_rfl) tab_ok ⟨g15_fit n, g32_fit n, g34_fit n, g35_fit n, g37_fit n, g38_fit n, g39_fit n, trivial⟩ follows_mixed (by kernel_rfl) (by kernel_rfl) (Nat.le_of_ble_eq_true (by kernel_rfl)) (by kernel_rfl) (by kernel_rfl)
    (fun d => (g12_top n _ _).trans (Eq.trans (b := g12_1F n (g12_m0 d.1 d.2.1) (finCx (g12_G n) g12_R [(4, none)])) (by kernel_rfl) ((g12_1_fx n _ d.1 d.2.1).trans (by kernel_rfl))))
noncomputable def g19_m0 (x0 : List (Int × ByteArray)) (x1 : List (Int × ByteArray)) : FState := ⟨tlist [(0, .sl 0 none false), (1, .sl 1 none false)], olist [(0, .row (.pair (.int .i64) .str) 68 false x0), (1, .row (.pair (.int .i64) .str) 68 false x1)]⟩
noncomputable def g19_m1 (v4 : Bool) : FState := ⟨tlist [(4, .dat .bool v4)], olist []⟩
noncomputable def g19_m1e : List NE := [.keep 4]
noncomputable def g19_m2 (x0 : List (Int × ByteArray)) (x1 : List (Int × ByteArray)) (v12 : Int) (v13 : Int) : FState := ⟨tlist [(0, .sl 0 none false), (1, .sl 1 none false), (12, .dat (.int .i64) v12), (13, .dat (.int .i64) v13)], olist [(0, .row (.pair (.int .i64) .str) 68 false x0), (1, .row (.pair (.int .i64) .str) 68 false x1)]⟩
noncomputable def g19_m2e : List NE := [.row 0 (.pair (.int .i64) .str) 68 false, .row 1 (.pair (.int .i64) .str) 68 false, .keep 12, .keep 13]
noncomputable def g19_m3 : FState := ⟨tlist [], olist []⟩
noncomputable def g19_m3e : List NE := []
noncomputable def g19_C (n : Nat) : List (Nat × Spec) := []
noncomputable def g19_G (n : Nat) : Ctx := { Γ0 with calls := lkS (g19_C n) }
noncomputable def g19_B : Code := fb Tryd.f19
noncomputable def g19_1 {β : Type} (n : Nat) (kn : List (Int × ByteArray) → List (Int × ByteArray) → Int → Int → Option β) (kr : Bool → Option β) (x0 : List (Int × ByteArray)) (x1 : List (Int × ByteArray)) : Option β := bif ((x0.length : Int) != (x1.length : Int)) then (kr false) else (kn x0 x1 (x0.length : Int) (0 : Int))
noncomputable def g19_1F {β : Type} (n : Nat) (s : FState) (cx : Cx β) : Option β := FX (g19_G n) n (nav g19_B [0]) (.fin none none (some g19_m1e) [] .leaf) s { cx with nrm := fun s => FX (g19_G n) n (nav g19_B [1, 0, 0]) (.fin none none (some g19_m1e) [] .leaf) s { cx with nrm := fun s => FX (g19_G n) n (nav g19_B [1, 0, 1]) (.fin none none (some g19_m1e) [] .leaf) s { cx with nrm := fun s => FX (g19_G n) n (nav g19_B [1, 1, 0, 0]) (.fin none (some g19_m2e) (some g19_m1e) [] .leaf) s cx } } }
theorem g19_1_fx {β : Type} (n : Nat) (cx : Cx β) (x0 : List (Int × ByteArray)) (x1 : List (Int × ByteArray)) : g19_1F n (g19_m0 x0 x1) cx = g19_1 n (fun x0 x1 v12 v13 => cx.nrm (g19_m2 x0 x1 v12 v13)) (fun v4 => cx.ret (g19_m1 v4)) x0 x1 := by kernel_rfl
noncomputable def g19_2 {β : Type} (n : Nat) (kn : List (Int × ByteArray) → List (Int × ByteArray) → Int → Int → Option β) (kr : Bool → Option β) (kx0 : Option β) (x0 : List (Int × ByteArray)) (x1 : List (Int × ByteArray)) (v12 : Int) (v13 : Int) : Option β := bif (decide (v13 < v12)) then (idx v13 (x0.length : Int) <| idx v13 (x1.length : Int) <| bif (!(((rd x0 v13 ((0 : Int), (⟨#[]⟩ : ByteArray))).1 == (rd x1 v13 ((0 : Int), (⟨#[]⟩ : ByteArray))).1) && (strEq ((rd x0 v13 ((0 : Int), (⟨#[]⟩ : ByteArray))).2) ((rd x1 v13 ((0 : Int), (⟨#[]⟩ : ByteArray))).2)))) then (kr false) else (kn x0 x1 v12 (w64 (v13 + (1 : Int))))) else kx0
noncomputable def g19_2F {β : Type} (n : Nat) (s : FState) (cx : Cx β) : Option β := FX (g19_G n) n (nav g19_B [1, 1, 0, 1, 0, 0, 0]) (.fin none none (some g19_m1e) [(0, g19_m3e)] .leaf) s { cx with nrm := fun s => FX (g19_G n) n (nav g19_B [1, 1, 0, 1, 0, 0, 1, 0]) (.fin none none (some g19_m1e) [(0, g19_m3e)] .leaf) s { cx with nrm := fun s => FX (g19_G n) n (nav g19_B [1, 1, 0, 1, 0, 0, 1, 1, 0]) (.fin none none (some g19_m1e) [(0, g19_m3e)] .leaf) s { cx with nrm := fun s => FX (g19_G n) n (nav g19_B [1, 1, 0, 1, 0, 0, 1, 1, 1]) (.fin none (some g19_m2e) (some g19_m1e) [(0, g19_m3e)] .leaf) s cx } } }
theorem g19_2_fx {β : Type} (n : Nat) (cx : Cx β) (x0 : List (Int × ByteArray)) (x1 : List (Int × ByteArray)) (v12 : Int) (v13 : Int) : g19_2F n (g19_m2 x0 x1 v12 v13) cx = g19_2 n (fun x0 x1 v12 v13 => cx.nrm (g19_m2 x0 x1 v12 v13)) (fun v4 => cx.ret (g19_m1 v4)) (cx.ex 0 g19_m3) x0 x1 v12 v13 := by kernel_rfl
noncomputable def g19_3L {β : Type} (n : Nat) (kr : Bool → Option β) (kx0 : Option β) : Nat → List (Int × ByteArray) → List (Int × ByteArray) → Int → Int → Option β
  | 0, _, _, _, _ => none
  | m + 1, x0, x1, v12, v13 => g19_2 n (g19_3L n kr kx0 m) kr kx0 x0 x1 v12 v13
noncomputable def g19_3 {β : Type} (n : Nat) (kr : Bool → Option β) (kx0 : Option β) (x0 : List (Int × ByteArray)) (x1 : List (Int × ByteArray)) (v12 : Int) (v13 : Int) : Option β := g19_3L n kr kx0 n x0 x1 v12 v13
noncomputable def g19_3F {β : Type} (n : Nat) (s : FState) (cx : Cx β) : Option β := loopN (fun again s => g19_2F n s { cx with nrm := again }) n s
theorem g19_3L_fx {β : Type} (n : Nat) (cx : Cx β) : ∀ (m : Nat) (x0 : List (Int × ByteArray)) (x1 : List (Int × ByteArray)) (v12 : Int) (v13 : Int), loopN (fun again s => g19_2F n s { cx with nrm := again }) m (g19_m2 x0 x1 v12 v13) = g19_3L n (fun v4 => cx.ret (g19_m1 v4)) (cx.ex 0 g19_m3) m x0 x1 v12 v13 := by
  intro m
  induction m with
  | zero => intros; rfl
  | succ m ih => intros; simp only [loopN, g19_3L, g19_2_fx, ih]
theorem g19_3_fx {β : Type} (n : Nat) (cx : Cx β) (x0 : List (Int × ByteArray)) (x1 : List (Int × ByteArray)) (v12 : Int) (v13 : Int) : g19_3F n (g19_m2 x0 x1 v12 v13) cx = g19_3 n (fun v4 => cx.ret (g19_m1 v4)) (cx.ex 0 g19_m3) x0 x1 v12 v13 := g19_3L_fx n cx n x0 x1 v12 v13
noncomputable def g19_4 {β : Type} (n : Nat) (kn : Option β) (kr : Bool → Option β) (x0 : List (Int × ByteArray)) (x1 : List (Int × ByteArray)) (v12 : Int) (v13 : Int) : Option β := g19_3 n kr kn x0 x1 v12 v13
noncomputable def g19_4F {β : Type} (n : Nat) (s : FState) (cx : Cx β) : Option β := g19_3F n s { cx with ex := fun j s => bif Nat.beq j 0 then cx.nrm s else cx.ex j s }
theorem g19_4_fx {β : Type} (n : Nat) (cx : Cx β) (x0 : List (Int × ByteArray)) (x1 : List (Int × ByteArray)) (v12 : Int) (v13 : Int) : g19_4F n (g19_m2 x0 x1 v12 v13) cx = g19_4 n (cx.nrm g19_m3) (fun v4 => cx.ret (g19_m1 v4)) x0 x1 v12 v13 := g19_3_fx n _ x0 x1 v12 v13
noncomputable def g19_5 {β : Type} (n : Nat) (kr : Bool → Option β) : Option β := kr true
noncomputable def g19_5F {β : Type} (n : Nat) (s : FState) (cx : Cx β) : Option β := FX (g19_G n) n (nav g19_B [1, 1, 1, 0]) (.fin none none (some g19_m1e) [] .leaf) s { cx with nrm := fun s => FX (g19_G n) n (nav g19_B [1, 1, 1, 1]) (.fin none none (some g19_m1e) [] .leaf) s cx }
theorem g19_5_fx {β : Type} (n : Nat) (cx : Cx β) : g19_5F n g19_m3 cx = g19_5 n (fun v4 => cx.ret (g19_m1 v4)) := by kernel_rfl
noncomputable def g19_6 {β : Type} (n : Nat) (kr : Bool → Option β) (x0 : List (Int × ByteArray)) (x1 : List (Int × ByteArray)) : Option β := g19_1 n (fun x0 x1 v12 v13 => g19_4 n (g19_5 n kr) kr x0 x1 v12 v13) kr x0 x1
noncomputable def g19_6F {β : Type} (n : Nat) (s : FState) (cx : Cx β) : Option β := g19_1F n s { cx with nrm := fun s => g19_4F n s { cx with nrm := fun s => g19_5F n s cx } }
theorem g19_6_fx {β : Type} (n : Nat) (cx : Cx β) (x0 : List (Int × ByteArray)) (x1 : List (Int × ByteArray)) : g19_6F n (g19_m0 x0 x1) cx = g19_6 n (fun v4 => cx.ret (g19_m1 v4)) x0 x1 := by simp only [g19_6F, g19_6, g19_1_fx, g19_4_fx, g19_5_fx]
noncomputable def g19 (n : Nat) (x0 : List (Int × ByteArray)) (x1 : List (Int × ByteArray)) : Option (DenR [.dat .bool]) := g19_6 n (fun v4 => some (v4, ())) x0 x1
noncomputable def g19_A : List AK := [.ro (.pair (.int .i64) .str) 68, .ro (.pair (.int .i64) .str) 68]
noncomputable def g19_R : List RK := [.dat .bool]
noncomputable def g19_f (n : Nat) (d : DenA g19_A) : Option (DenR g19_R) := g19 n d.1 d.2.1
noncomputable def g19_S (n : Nat) : Spec := mkSpec g19_A g19_R (g19_f n)
noncomputable def g19_K : Sk := (.nd (.fin none none (some g19_m1e) [] .leaf) (.nd (.nd (.fin none none (some g19_m1e) [] .leaf) (.fin none none (some g19_m1e) [] .leaf)) (.nd (.nd (.fin none (some g19_m2e) (some g19_m1e) [] .leaf) (.nd (.nd (.nd (.fin none none (some g19_m1e) [(0, g19_m3e)] .leaf) (.nd (.fin none none (some g19_m1e) [(0, g19_m3e)] .leaf) (.nd (.fin none none (some g19_m1e) [(0, g19_m3e)] .leaf) (.fin none (some g19_m2e) (some g19_m1e) [(0, g19_m3e)] .leaf)))) .leaf) .leaf)) (.nd (.fin none none (some g19_m1e) [] .leaf) (.fin none none (some g19_m1e) [] .leaf)))))
theorem g19_top {β : Type} (n : Nat) (s : FState) (cx : Cx β) : FX (g19_G n) n g19_B g19_K s cx = g19_6F n s cx := by kernel_rfl
theorem g19_fit (n : Nat) : Fit Tryd.prog 19 (g19_S n) :=
  fit_of (Γ := Γ0) (l := g19_C n) (n := n) (sk := g19_K) (ts := [(4, none)]) (fn := Tryd.f19) (c := g19_B) (by kernel_rfl) (by kernel_rfl) (by unfold Callable; kernel_rfl) tab_ok trivial follows_mixed (by kernel_rfl) (by kernel_rfl) (Nat.le_of_ble_eq_true (by kernel_rfl)) (by kernel_rfl) (by kernel_rfl)
    (fun d => (g19_top n _ _).trans (Eq.trans (b := g19_6F n (g19_m0 d.1 d.2.1) (finCx (g19_G n) g19_R [(4, none)])) (by kernel_rfl) ((g19_6_fx n _ d.1 d.2.1).trans (by kernel_rfl))))
noncomputable def g13_m0 (v0 : ByteArray) (v1 : Bool) : FState := ⟨tlist [(0, .dat .str v0), (1, .dat .bool v1)], olist []⟩
noncomputable def g13_m1 (v4 : Bool) : FState := ⟨tlist [(4, .dat .bool v4)], olist []⟩
noncomputable def g13_m1e : List NE := [.keep 4]
noncomputable def g13_C (n : Nat) : List (Nat × Spec) := [(19, g19_S n), (32, g32_S n), (39, g39_S n)]
noncomputable def g13_G (n : Nat) : Ctx := { Γ0 with calls := lkS (g13_C n) }
noncomputable def g13_B : Code := fb Tryd.f13
noncomputable def g13_1 {β : Type} (n : Nat) (kr : Bool → Option β) (v0 : ByteArray) (v1 : Bool) : Option β := bif (decide ((v0.size : Int) > (2147483647 : Int))) then (kr true) else ((g32 n v0 (300 : Int)).bind fun r1 => bif (strEq r1.1 (⟨#[]⟩ : ByteArray)) then ((g39 n r1.1 r1.1 v1).bind fun r2 => bif ((r2.1.length : Int) == (0 : Int)) then ((g39 n (⟨#[120]⟩ : ByteArray) (⟨#[120]⟩ : ByteArray) v1).bind fun r3 => (g19 n r3.1 [((0 : Int), (⟨#[120]⟩ : ByteArray))]).bind fun r4 => kr r4.1) else (kr false)) else ((g39 n r1.1 r1.1 v1).bind fun r5 => (g19 n r5.1 [((0 : Int), r1.1)]).bind fun r6 => (g39 n r1.1 (⟨#[]⟩ : ByteArray) v1).bind fun r7 => (g19 n r7.1 [((-1 : Int), r1.1)]).bind fun r8 => (g39 n (⟨#[]⟩ : ByteArray) r1.1 v1).bind fun r9 => (g19 n r9.1 [((1 : Int), r1.1)]).bind fun r10 => bif r6.1 then (bif r8.1 then (kr r10.1) else (kr false)) else (kr false)))
noncomputable def g13_1F {β : Type} (n : Nat) (s : FState) (cx : Cx β) : Option β := FX (g13_G n) n (nav g13_B [0]) (.fin none none (some g13_m1e) [] .leaf) s { cx with nrm := fun s => FX (g13_G n) n (nav g13_B [1, 0, 0]) (.fin none none (some g13_m1e) [] .leaf) s { cx with nrm := fun s => FX (g13_G n) n (nav g13_B [1, 0, 1]) (.fin none none (some g13_m1e) [] .leaf) s { cx with nrm := fun s => FX (g13_G n) n (nav g13_B [1, 1, 0]) (.fin none none (some g13_m1e) [] .leaf) s { cx with nrm := fun s => FX (g13_G n) n (nav g13_B [1, 1, 1, 0, 0]) (.fin none none (some g13_m1e) [] .leaf) s { cx with nrm := fun s => FX (g13_G n) n (nav g13_B [1, 1, 1, 0, 1]) (.fin none none (some g13_m1e) [] .leaf) s { cx with nrm := fun s => FX (g13_G n) n (nav g13_B [1, 1, 1, 1, 0]) (.fin none none (some g13_m1e) [] .leaf) s { cx with nrm := fun s => FX (g13_G n) n (nav g13_B [1, 1, 1, 1, 1, 0]) (.fin none none (some g13_m1e) [] .leaf) s { cx with nrm := fun s => FX (g13_G n) n (nav g13_B [1, 1, 1, 1, 1, 1, 0]) (.fin none none (some g13_m1e) [] .leaf) s { cx with nrm := fun s => FX (g13_G n) n (nav g13_B [1, 1, 1, 1, 1, 1, 1, 0]) (.fin none none (some g13_m1e) [] .leaf) s { cx with nrm := fun s => FX (g13_G n) n (nav g13_B [1, 1, 1, 1, 1, 1, 1, 1]) (.fin none none (some g13_m1e) [] .leaf) s cx } } } } } } } } } }
theorem g13_1_fx {β : Type} (n : Nat) (cx : Cx β) (v0 : ByteArray) (v1 : Bool) : g13_1F n (g13_m0 v0 v1) cx = g13_1 n (fun v4 => cx.ret (g13_m1 v4)) v0 v1 := by kernel_rfl
noncomputable def g13 (n : Nat) (v0 : ByteArray) (v1 : Bool) : Option (DenR [.dat .bool]) := g13_1 n (fun v4 => some (v4, ())) v0 v1
noncomputable def g13_A : List AK := [.dat .str, .dat .bool]
noncomputable def g13_R : List RK := [.dat .bool]
noncomputable def g13_f (n : Nat) (d : DenA g13_A) : Option (DenR g13_R) := g13 n d.1 d.2.1
noncomputable def g13_S (n : Nat) : Spec := mkSpec g13_A g13_R (g13_f n)
noncomputable def g13_K : Sk := (.nd (.fin none none (some g13_m1e) [] .leaf) (.nd (.nd (.fin none none (some g13_m1e) [] .leaf) (.fin none none (some g13_m1e) [] .leaf)) (.nd (.fin none none (some g13_m1e) [] .leaf) (.nd (.nd (.fin none none (some g13_m1e) [] .leaf) (.fin none none (some g13_m1e) [] .leaf)) (.nd (.fin none none (some g13_m1e) [] .leaf) (.nd (.fin none none (some g13_m1e) [] .leaf) (.nd (.fin none none (some g13_m1e) [] .leaf) (.nd (.fin none none (some g13_m1e) [] .leaf) (.fin none none (some g13_m1e) [] .leaf)))))))))
theorem g13_top {β : Type} (n : Nat) (s : FState) (cx : Cx β) : FX (g13_G n) n g13_B g13_K s cx = g13_1F n s cx := by kernel_rfl
theorem g13_fit (n : Nat) : Fit Tryd.prog 13 (g13_S n) :=
  fit_of (Γ := Γ0) (l := g13_C n) (n := n) (sk := g13_K) (ts := [(4, none)]) (fn := Tryd.f13) (c := g13_B) (by kernel_rfl) (by kernel_rfl) (by unfold Callable; kernel_rfl) tab_ok ⟨g19_fit n, g32_fit n, g39_fit n, trivial⟩ follows_mixed (by kernel_rfl) (by kernel_rfl) (Nat.le_of_ble_eq_true (by kernel_rfl)) (by kernel_rfl) (by kernel_rfl)
    (fun d => (g13_top n _ _).trans (Eq.trans (b := g13_1F n (g13_m0 d.1 d.2.1) (finCx (g13_G n) g13_R [(4, none)])) (by kernel_rfl) ((g13_1_fx n _ d.1 d.2.1).trans (by kernel_rfl))))
noncomputable def g10_m0 (x0 : List Int) (x1 : List Int) (v2 : Bool) : FState := ⟨tlist [(0, .sl 0 none false), (1, .sl 1 none false), (2, .dat .bool v2)], olist [(0, .row (.int .u8) 5 false x0), (1, .row (.int .u8) 5 false x1)]⟩
noncomputable def g10_m1 (v6 : Bool) : FState := ⟨tlist [(6, .dat .bool v6)], olist []⟩
noncomputable def g10_m1e : List NE := [.keep 6]
noncomputable def g10_C (n : Nat) : List (Nat × Spec) := [(15, g15_S n), (34, g34_S n), (35, g35_S n), (39, g39_S n)]
noncomputable def g10_G (n : Nat) : Ctx := { Γ0 with calls := lkS (g10_C n) }
noncomputable def g10_B : Code := fb Tryd.f10
noncomputable def g10_1 {β : Type} (n : Nat) (kr : Bool → Option β) (x0 : List Int) (x1 : List Int) (v2 : Bool) : Option β := bif (decide ((x0.length : Int) > (2147483647 : Int))) then (kr true) else (bif (decide ((x1.length : Int) > (2147483647 : Int))) then (kr true) else (bnd (0 : Int) (minI (x0.length : Int) (100 : Int)) (x0.length : Int) <| bnd (0 : Int) (minI (x1.length : Int) (100 : Int)) (x1.length : Int) <| (g39 n (strOfNums (cut x0 (0 : Int) (minI (x0.length : Int) (100 : Int)))) (strOfNums (cut x1 (0 : Int) (minI (x1.length : Int) (100 : Int)))) v2).bind fun r1 => (g34 n r1.1).bind fun r2 => (g15 n (strOfNums (cut x0 (0 : Int) (minI (x0.length : Int) (100 : Int))))).bind fun r3 => bif (strEq r2.1 (runesBytes r3.1)) then ((g35 n r1.1).bind fun r4 => (g15 n (strOfNums (cut x1 (0 : Int) (minI (x1.length : Int) (100 : Int))))).bind fun r5 => bif (strEq r4.1 (runesBytes r5.1)) then (bif (decide ((r1.1.length : Int) > (0 : Int))) then (kr true) else (roomy ((strOfNums (cut x0 (0 : Int) (minI (x0.length : Int) (100 : Int)))).size + (strOfNums (cut x1 (0 : Int) (minI (x1.length : Int) (100 : Int)))).size) <| kr (strEq ((strOfNums (cut x0 (0 : Int) (minI (x0.length : Int) (100 : Int)))) ++ (strOfNums (cut x1 (0 : Int) (minI (x1.length : Int) (100 : Int))))) (⟨#[]⟩ : ByteArray)))) else (kr false)) else (kr false)))
noncomputable def g10_1F {β : Type} (n : Nat) (s : FState) (cx : Cx β) : Option β := FX (g10_G n) n (nav g10_B [0]) (.fin none none (some g10_m1e) [] .leaf) s { cx with nrm := fun s => FX (g10_G n) n (nav g10_B [1, 0, 0]) (.fin none none (some g10_m1e) [] .leaf) s { cx with nrm := fun s => FX (g10_G n) n (nav g10_B [1, 0, 1]) (.fin none none (some g10_m1e) [] .leaf) s { cx with nrm := fun s => FX (g10_G n) n (nav g10_B [1, 1, 0]) (.fin none none (some g10_m1e) [] .leaf) s { cx with nrm := fun s => FX (g10_G n) n (nav g10_B [1, 1, 1, 0]) (.fin none none (some g10_m1e) [] .leaf) s { cx with nrm := fun s => FX (g10_G n) n (nav g10_B [1, 1, 1, 1, 0]) (.fin none none (some g10_m1e) [] .leaf) s { cx with nrm := fun s => FX (g10_G n) n (nav g10_B [1, 1, 1, 1, 1]) (.fin none none (some g10_m1e) [] .leaf) s cx } } } } } }
theorem g10_1_fx {β : Type} (n : Nat) (cx : Cx β) (x0 : List Int) (x1 : List Int) (v2 : Bool) : g10_1F n (g10_m0 x0 x1 v2) cx = g10_1 n (fun v6 => cx.ret (g10_m1 v6)) x0 x1 v2 := by kernel_rfl
noncomputable def g10 (n : Nat) (x0 : List Int) (x1 : List Int) (v2 : Bool) : Option (DenR [.dat .bool]) := g10_1 n (fun v6 => some (v6, ())) x0 x1 v2
noncomputable def g10_A : List AK := [.ro (.int .u8) 5, .ro (.int .u8) 5, .dat .bool]
noncomputable def g10_R : List RK := [.dat .bool]
noncomputable def g10_f (n : Nat) (d : DenA g10_A) : Option (DenR g10_R) := g10 n d.1 d.2.1 d.2.2.1
noncomputable def g10_S (n : Nat) : Spec := mkSpec g10_A g10_R (g10_f n)
noncomputable def g10_K : Sk := (.nd (.fin none none (some g10_m1e) [] .leaf) (.nd (.nd (.fin none none (some g10_m1e) [] .leaf) (.fin none none (some g10_m1e) [] .leaf)) (.nd (.fin none none (some g10_m1e) [] .leaf) (.nd (.fin none none (some g10_m1e) [] .leaf) (.nd (.fin none none (some g10_m1e) [] .leaf) (.fin none none (some g10_m1e) [] .leaf))))))
theorem g10_top {β : Type} (n : Nat) (s : FState) (cx : Cx β) : FX (g10_G n) n g10_B g10_K s cx = g10_1F n s cx := by kernel_rfl
theorem g10_fit (n : Nat) : Fit Tryd.prog 10 (g10_S n) :=
  fit_of (Γ := Γ0) (l := g10_C n) (n := n) (sk := g10_K) (ts := [(6, none)]) (fn := Tryd.f10) (c := g10_B) (by kernel_rfl) (by kernel_rfl) (by unfold Callable; kernel_rfl) tab_ok ⟨g15_fit n, g34_fit n, g35_fit n, g39_fit n, trivial⟩ follows_mixed (by kernel_rfl) (by kernel_rfl) (Nat.le_of_ble_eq_true (by kernel_rfl)) (by kernel_rfl) (by kernel_rfl)
    (fun d => (g10_top n _ _).trans (Eq.trans (b := g10_1F n (g10_m0 d.1 d.2.1 d.2.2.1) (finCx (g10_G n) g10_R [(6, none)])) (by kernel_rfl) ((g10_1_fx n _ d.1 d.2.1 d.2.2.1).trans (by kernel_rfl))))
end Go.Proofs.YthkiaiilpaojnaaDoorUF
