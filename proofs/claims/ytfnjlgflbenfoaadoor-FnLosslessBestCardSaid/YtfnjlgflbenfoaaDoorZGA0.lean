import Derived.Test.YtfnjlgflbenfoaaDoorZFT
import Derived.Test.YtfnjlgflbenfoaaDoorZFE
namespace Go.Proofs.YtfnjlgflbenfoaaDoorZF
open Go Go.Proofs
set_option linter.unusedVariables false
set_option maxRecDepth 100000
variable {β : Type}
noncomputable def g19_m0 (x0 : List Int) (v1 : Int) : FState := ⟨tlist [(0, .sl 0 none false), (1, .dat (.int .i64) v1)], olist [(0, .row (.int .u8) 5 false x0)]⟩
noncomputable def g19_m1 (v4 : ByteArray) : FState := ⟨tlist [(4, .dat .str v4)], olist []⟩
noncomputable def g19_m1e : List NE := [.keep 4]
noncomputable def g19_m2 (x0 : List Int) (v1 : Int) (x5 : List Int) (v6 : Int) : FState := ⟨tlist [(0, .sl 0 none false), (1, .dat (.int .i64) v1), (5, .sl 5 none false), (6, .dat (.int .i64) v6)], olist [(0, .row (.int .u8) 5 false x0), (5, .row (.int .u8) 5 true x5)]⟩
noncomputable def g19_m2e : List NE := [.row 0 (.int .u8) 5 false, .keep 1, .row 5 (.int .u8) 5 true, .keep 6]
noncomputable def g19_m3 (x5 : List Int) : FState := ⟨tlist [(5, .sl 5 none false)], olist [(5, .row (.int .u8) 5 true x5)]⟩
noncomputable def g19_m3e : List NE := [.row 5 (.int .u8) 5 true]
noncomputable def g19_C (n : Nat) : List (Nat × Spec) := []
noncomputable def g19_G (n : Nat) : Ctx := { Γ0 with calls := lkS (g19_C n) }
noncomputable def g19_B : Code := fb Tryd.f19
noncomputable def g19_1 (n : Nat) (kn : List Int → Int → List Int → Int → Option β) (x0 : List Int) (v1 : Int) : Option β := kn x0 v1 [] (0 : Int)
noncomputable def g19_1F (n : Nat) (s : FState) (cx : Cx β) : Option β := FX (g19_G n) n (nav g19_B [0]) (.fin none none none [] .leaf) s { cx with nrm := fun s => FX (g19_G n) n (nav g19_B [1, 0]) (.fin none none none [] .leaf) s { cx with nrm := fun s => FX (g19_G n) n (nav g19_B [1, 1, 0, 0]) (.fin none (some g19_m2e) none [] .leaf) s cx } }
theorem g19_1_fx (n : Nat) (cx : Cx β) (x0 : List Int) (v1 : Int) : g19_1F n (g19_m0 x0 v1) cx = g19_1 n (fun x0 v1 x5 v6 => cx.nrm (g19_m2 x0 v1 x5 v6)) x0 v1 := by kernel_rfl
noncomputable def g19_2 (n : Nat) (kn : List Int → Int → List Int → Int → Option β) (kx0 : List Int → Option β) (x0 : List Int) (v1 : Int) (x5 : List Int) (v6 : Int) : Option β := bif (decide (v6 < (x0.length : Int))) then (bif (decide (v6 < v1)) then (idx v6 (x0.length : Int) <| roomy (x5.length + [((rd x0 v6 (0 : Int)).tmod (128 : Int))].length) <| kn x0 v1 (x5 ++ [((rd x0 v6 (0 : Int)).tmod (128 : Int))]) (w64 (v6 + (1 : Int)))) else (kx0 x5)) else (kx0 x5)
noncomputable def g19_2F (n : Nat) (s : FState) (cx : Cx β) : Option β := FX (g19_G n) n (nav g19_B [1, 1, 0, 1, 0, 0, 0, 0]) (.fin none none none [(0, g19_m3e)] .leaf) s { cx with nrm := fun s => FX (g19_G n) n (nav g19_B [1, 1, 0, 1, 0, 0, 0, 1]) (.fin none none none [(0, g19_m3e)] .leaf) s { cx with nrm := fun s => FX (g19_G n) n (nav g19_B [1, 1, 0, 1, 0, 0, 1, 0]) (.fin none none none [(0, g19_m3e)] .leaf) s { cx with nrm := fun s => FX (g19_G n) n (nav g19_B [1, 1, 0, 1, 0, 0, 1, 1]) (.fin none (some g19_m2e) none [(0, g19_m3e)] .leaf) s cx } } }
theorem g19_2_fx (n : Nat) (cx : Cx β) (x0 : List Int) (v1 : Int) (x5 : List Int) (v6 : Int) : g19_2F n (g19_m2 x0 v1 x5 v6) cx = g19_2 n (fun x0 v1 x5 v6 => cx.nrm (g19_m2 x0 v1 x5 v6)) (fun x5 => cx.ex 0 (g19_m3 x5)) x0 v1 x5 v6 := by kernel_rfl
noncomputable def g19_3L (n : Nat) (kx0 : List Int → Option β) : Nat → List Int → Int → List Int → Int → Option β
  | 0, _, _, _, _ => none
  | m + 1, x0, v1, x5, v6 => g19_2 n (g19_3L n kx0 m) kx0 x0 v1 x5 v6
noncomputable def g19_3 (n : Nat) (kx0 : List Int → Option β) (x0 : List Int) (v1 : Int) (x5 : List Int) (v6 : Int) : Option β := g19_3L n kx0 n x0 v1 x5 v6
noncomputable def g19_3F (n : Nat) (s : FState) (cx : Cx β) : Option β := loopN (fun again s => g19_2F n s { cx with nrm := again }) n s
theorem g19_3L_fx (n : Nat) (cx : Cx β) : ∀ (m : Nat) (x0 : List Int) (v1 : Int) (x5 : List Int) (v6 : Int), loopN (fun again s => g19_2F n s { cx with nrm := again }) m (g19_m2 x0 v1 x5 v6) = g19_3L n (fun x5 => cx.ex 0 (g19_m3 x5)) m x0 v1 x5 v6 := by
  intro m
  induction m with
  | zero => intros; rfl
  | succ m ih => intros; simp only [loopN, g19_3L, g19_2_fx, ih]
theorem g19_3_fx (n : Nat) (cx : Cx β) (x0 : List Int) (v1 : Int) (x5 : List Int) (v6 : Int) : g19_3F n (g19_m2 x0 v1 x5 v6) cx = g19_3 n (fun x5 => cx.ex 0 (g19_m3 x5)) x0 v1 x5 v6 := g19_3L_fx n cx n x0 v1 x5 v6
noncomputable def g19_4 (n : Nat) (kn : List Int → Option β) (x0 : List Int) (v1 : Int) (x5 : List Int) (v6 : Int) : Option β := g19_3 n kn x0 v1 x5 v6
noncomputable def g19_4F (n : Nat) (s : FState) (cx : Cx β) : Option β := g19_3F n s { cx with ex := fun j s => bif Nat.beq j 0 then cx.nrm s else cx.ex j s }
theorem g19_4_fx (n : Nat) (cx : Cx β) (x0 : List Int) (v1 : Int) (x5 : List Int) (v6 : Int) : g19_4F n (g19_m2 x0 v1 x5 v6) cx = g19_4 n (fun x5 => cx.nrm (g19_m3 x5)) x0 v1 x5 v6 := g19_3_fx n _ x0 v1 x5 v6
noncomputable def g19_5 (n : Nat) (kr : ByteArray → Option β) (x5 : List Int) : Option β := kr (strOfNums x5)
noncomputable def g19_5F (n : Nat) (s : FState) (cx : Cx β) : Option β := FX (g19_G n) n (nav g19_B [1, 1, 1, 0]) (.fin none none (some g19_m1e) [] .leaf) s { cx with nrm := fun s => FX (g19_G n) n (nav g19_B [1, 1, 1, 1]) (.fin none none (some g19_m1e) [] .leaf) s cx }
theorem g19_5_fx (n : Nat) (cx : Cx β) (x5 : List Int) : g19_5F n (g19_m3 x5) cx = g19_5 n (fun v4 => cx.ret (g19_m1 v4)) x5 := by kernel_rfl
noncomputable def g19_6 (n : Nat) (kr : ByteArray → Option β) (x0 : List Int) (v1 : Int) : Option β := g19_1 n (fun x0 v1 x5 v6 => g19_4 n (fun x5 => g19_5 n kr x5) x0 v1 x5 v6) x0 v1
noncomputable def g19_6F (n : Nat) (s : FState) (cx : Cx β) : Option β := g19_1F n s { cx with nrm := fun s => g19_4F n s { cx with nrm := fun s => g19_5F n s cx } }
theorem g19_6_fx (n : Nat) (cx : Cx β) (x0 : List Int) (v1 : Int) : g19_6F n (g19_m0 x0 v1) cx = g19_6 n (fun v4 => cx.ret (g19_m1 v4)) x0 v1 := by simp only [g19_6F, g19_6, g19_1_fx, g19_4_fx, g19_5_fx]
noncomputable def g19 (n : Nat) (x0 : List Int) (v1 : Int) : Option (DenR [.dat .str]) := g19_6 n (fun v4 => some (v4, ())) x0 v1
noncomputable def g19_A : List AK := [.ro (.int .u8) 5, .dat (.int .i64)]
noncomputable def g19_R : List RK := [.dat .str]
noncomputable def g19_f (n : Nat) (d : DenA g19_A) : Option (DenR g19_R) := g19 n d.1 d.2.1
noncomputable def g19_S (n : Nat) : Spec := mkSpec g19_A g19_R (g19_f n)
noncomputable def g19_K : Sk := (.nd (.fin none none none [] .leaf) (.nd (.fin none none none [] .leaf) (.nd (.nd (.fin none (some g19_m2e) none [] .leaf) (.nd (.nd (.nd (.nd (.fin none none none [(0, g19_m3e)] .leaf) (.fin none none none [(0, g19_m3e)] .leaf)) (.nd (.fin none none none [(0, g19_m3e)] .leaf) (.fin none (some g19_m2e) none [(0, g19_m3e)] .leaf))) .leaf) .leaf)) (.nd (.fin none none (some g19_m1e) [] .leaf) (.fin none none (some g19_m1e) [] .leaf)))))
theorem g19_top (n : Nat) (s : FState) (cx : Cx β) : FX (g19_G n) n g19_B g19_K s cx = g19_6F n s cx := by kernel_rfl
theorem g19_fit (n : Nat) : Fit Tryd.prog 19 (g19_S n) :=
  fit_of (Γ := Γ0) (l := g19_C n) (n := n) (sk := g19_K) (ts := [(4, none)]) (fn := Tryd.f19) (c := g19_B) (by kernel_rfl) (by kernel_rfl) (by unfold Callable; kernel_rfl) tab_ok trivial follows_mixed (by kernel_rfl) (by kernel_rfl) (Nat.le_of_ble_eq_true (by kernel_rfl)) (by kernel_rfl) (by kernel_rfl)
    (fun d => (g19_top n _ _).trans (Eq.trans (b := g19_6F n (g19_m0 d.1 d.2.1) (finCx (g19_G n) g19_R [(4, none)])) (by kernel_rfl) ((g19_6_fx n _ d.1 d.2.1).trans (by kernel_rfl))))
noncomputable def g20_m0 (v0 : ByteArray) : FState := ⟨tlist [(0, .dat .str v0)], olist []⟩
noncomputable def g20_m1 (v2 : ByteArray) : FState := ⟨tlist [(2, .dat .str v2)], olist []⟩
noncomputable def g20_m1e : List NE := [.keep 2]
noncomputable def g20_m2 (x3 : List Int) (v8 v9 : Int) : FState := ⟨tlist [(3, .sl 3 none false), (8, .dat (.int .i64) v8), (9, .dat (.int .i64) v9)], olist [(3, .row (.int .u8) 5 true x3)]⟩
noncomputable def g20_m2e : List NE := [.row 3 (.int .u8) 5 true, .keep 8, .keep 9]
noncomputable def g20_m3 (x3 : List Int) : FState := ⟨tlist [(3, .sl 3 none false)], olist [(3, .row (.int .u8) 5 true x3)]⟩
noncomputable def g20_m3e : List NE := [.row 3 (.int .u8) 5 true]
noncomputable def g20_m4 (x3 : List Int) (v8 v9 : Int) : FState := ⟨tlist [(3, .sl 3 none false), (8, .dat (.int .i64) v8), (9, .dat (.int .i64) v9)], olist [(3, .row (.int .u8) 5 true x3)]⟩
noncomputable def g20_m4e : List NE := [.row 3 (.int .u8) 5 true, .keep 8, .keep 9]
noncomputable def g20_C (n : Nat) : List (Nat × Spec) := []
noncomputable def g20_G (n : Nat) : Ctx := { Γ0 with calls := lkS (g20_C n) }
noncomputable def g20_B : Code := fb Tryd.f20
noncomputable def g20_1 (n : Nat) (kn : List Int → Int → Int → Option β) (v0 : ByteArray) : Option β := kn (bytesOf v0) ((bytesOf v0).length : Int) (0 : Int)
noncomputable def g20_1F (n : Nat) (s : FState) (cx : Cx β) : Option β := FX (g20_G n) n (nav g20_B [0]) (.fin none none none [] .leaf) s { cx with nrm := fun s => FX (g20_G n) n (nav g20_B [1, 0]) (.fin none none none [] .leaf) s { cx with nrm := fun s => FX (g20_G n) n (nav g20_B [1, 1, 0, 0]) (.fin none (some g20_m2e) none [] .leaf) s cx } }
theorem g20_1_fx (n : Nat) (cx : Cx β) (v0 : ByteArray) : g20_1F n (g20_m0 v0) cx = g20_1 n (fun x3 v8 v9 => cx.nrm (g20_m2 x3 v8 v9)) v0 := by kernel_rfl
noncomputable def g20_2 (n : Nat) (kn : List Int → Int → Int → Option β) (kx0 : List Int → Option β) (x3 : List Int) (v8 v9 : Int) : Option β := bif (decide (v9 < v8)) then (idx v9 (x3.length : Int) <| bif ((rd x3 v9 (0 : Int)) == (13 : Int)) then (idx v9 (x3.length : Int) <| kn (x3.set v9.toNat (114 : Int)) v8 v9) else (idx v9 (x3.length : Int) <| bif ((rd x3 v9 (0 : Int)) == (10 : Int)) then (bif (v9 == (0 : Int)) then (idx v9 (x3.length : Int) <| kn (x3.set v9.toNat (114 : Int)) v8 v9) else (idx (w64 (v9 - (1 : Int))) (x3.length : Int) <| bif ((rd x3 (w64 (v9 - (1 : Int))) (0 : Int)) == (10 : Int)) then (idx v9 (x3.length : Int) <| kn (x3.set v9.toNat (114 : Int)) v8 v9) else (kn x3 v8 v9))) else (kn x3 v8 v9))) else (kx0 x3)
noncomputable def g20_2F (n : Nat) (s : FState) (cx : Cx β) : Option β := FX (g20_G n) n (nav g20_B [1, 1, 0, 1, 0, 0, 0]) (.fin none none none [(0, g20_m3e)] .leaf) s { cx with nrm := fun s => FX (g20_G n) n (nav g20_B [1, 1, 0, 1, 0, 0, 1, 0]) (.fin none none none [(0, g20_m3e)] .leaf) s { cx with nrm := fun s => FX (g20_G n) n (nav g20_B [1, 1, 0, 1, 0, 0, 1, 1, 0]) (.fin none (some g20_m4e) none [(0, g20_m3e)] .leaf) s cx } }
theorem g20_2_fx (n : Nat) (cx : Cx β) (x3 : List Int) (v8 v9 : Int) : g20_2F n (g20_m2 x3 v8 v9) cx = g20_2 n (fun x3 v8 v9 => cx.nrm (g20_m4 x3 v8 v9)) (fun x3 => cx.ex 0 (g20_m3 x3)) x3 v8 v9 := by kernel_rfl
noncomputable def g20_3 (n : Nat) (kn : List Int → Int → Int → Option β) (x3 : List Int) (v8 v9 : Int) : Option β := kn x3 v8 (w64 (v9 + (1 : Int)))
noncomputable def g20_3F (n : Nat) (s : FState) (cx : Cx β) : Option β := FX (g20_G n) n (nav g20_B [1, 1, 0, 1, 0, 0, 1, 1, 1]) (.fin none (some g20_m2e) none [] .leaf) s cx
theorem g20_3_fx (n : Nat) (cx : Cx β) (x3 : List Int) (v8 v9 : Int) : g20_3F n (g20_m4 x3 v8 v9) cx = g20_3 n (fun x3 v8 v9 => cx.nrm (g20_m2 x3 v8 v9)) x3 v8 v9 := by kernel_rfl
noncomputable def g20_4 (n : Nat) (kn : List Int → Int → Int → Option β) (kx0 : List Int → Option β) (x3 : List Int) (v8 v9 : Int) : Option β := g20_2 n (fun x3 v8 v9 => g20_3 n kn x3 v8 v9) kx0 x3 v8 v9
noncomputable def g20_4F (n : Nat) (s : FState) (cx : Cx β) : Option β := g20_2F n s { cx with nrm := fun s => g20_3F n s cx }
theorem g20_4_fx (n : Nat) (cx : Cx β) (x3 : List Int) (v8 v9 : Int) : g20_4F n (g20_m2 x3 v8 v9) cx = g20_4 n (fun x3 v8 v9 => cx.nrm (g20_m2 x3 v8 v9)) (fun x3 => cx.ex 0 (g20_m3 x3)) x3 v8 v9 := by simp only [g20_4F, g20_4, g20_2_fx, g20_3_fx]
noncomputable def g20_5L (n : Nat) (kx0 : List Int → Option β) : Nat → List Int → Int → Int → Option β
  | 0, _, _, _ => none
  | m + 1, x3, v8, v9 => g20_4 n (g20_5L n kx0 m) kx0 x3 v8 v9
noncomputable def g20_5 (n : Nat) (kx0 : List Int → Option β) (x3 : List Int) (v8 v9 : Int) : Option β := g20_5L n kx0 n x3 v8 v9
noncomputable def g20_5F (n : Nat) (s : FState) (cx : Cx β) : Option β := loopN (fun again s => g20_4F n s { cx with nrm := again }) n s
theorem g20_5L_fx (n : Nat) (cx : Cx β) : ∀ (m : Nat) (x3 : List Int) (v8 v9 : Int), loopN (fun again s => g20_4F n s { cx with nrm := again }) m (g20_m2 x3 v8 v9) = g20_5L n (fun x3 => cx.ex 0 (g20_m3 x3)) m x3 v8 v9 := by
  intro m
  induction m with
  | zero => intros; rfl
  | succ m ih => intros; simp only [loopN, g20_5L, g20_4_fx, ih]
theorem g20_5_fx (n : Nat) (cx : Cx β) (x3 : List Int) (v8 v9 : Int) : g20_5F n (g20_m2 x3 v8 v9) cx = g20_5 n (fun x3 => cx.ex 0 (g20_m3 x3)) x3 v8 v9 := g20_5L_fx n cx n x3 v8 v9
noncomputable def g20_6 (n : Nat) (kn : List Int → Option β) (x3 : List Int) (v8 v9 : Int) : Option β := g20_5 n kn x3 v8 v9
noncomputable def g20_6F (n : Nat) (s : FState) (cx : Cx β) : Option β := g20_5F n s { cx with ex := fun j s => bif Nat.beq j 0 then cx.nrm s else cx.ex j s }
theorem g20_6_fx (n : Nat) (cx : Cx β) (x3 : List Int) (v8 v9 : Int) : g20_6F n (g20_m2 x3 v8 v9) cx = g20_6 n (fun x3 => cx.nrm (g20_m3 x3)) x3 v8 v9 := g20_5_fx n _ x3 v8 v9
noncomputable def g20_7 (n : Nat) (kr : ByteArray → Option β) (x3 : List Int) : Option β := kr (strOfNums x3)
noncomputable def g20_7F (n : Nat) (s : FState) (cx : Cx β) : Option β := FX (g20_G n) n (nav g20_B [1, 1, 1, 0]) (.fin none none (some g20_m1e) [] .leaf) s { cx with nrm := fun s => FX (g20_G n) n (nav g20_B [1, 1, 1, 1]) (.fin none none (some g20_m1e) [] .leaf) s cx }
theorem g20_7_fx (n : Nat) (cx : Cx β) (x3 : List Int) : g20_7F n (g20_m3 x3) cx = g20_7 n (fun v2 => cx.ret (g20_m1 v2)) x3 := by kernel_rfl
noncomputable def g20_8 (n : Nat) (kr : ByteArray → Option β) (v0 : ByteArray) : Option β := g20_1 n (fun x3 v8 v9 => g20_6 n (fun x3 => g20_7 n kr x3) x3 v8 v9) v0
noncomputable def g20_8F (n : Nat) (s : FState) (cx : Cx β) : Option β := g20_1F n s { cx with nrm := fun s => g20_6F n s { cx with nrm := fun s => g20_7F n s cx } }
theorem g20_8_fx (n : Nat) (cx : Cx β) (v0 : ByteArray) : g20_8F n (g20_m0 v0) cx = g20_8 n (fun v2 => cx.ret (g20_m1 v2)) v0 := by simp only [g20_8F, g20_8, g20_1_fx, g20_6_fx, g20_7_fx]
noncomputable def g20 (n : Nat) (v0 : ByteArray) : Option (DenR [.dat .str]) := g20_8 n (fun v2 => some (v2, ())) v0
noncomputable def g20_A : List AK := [.dat .str]
noncomputable def g20_R : List RK := [.dat .str]
noncomputable def g20_f (n : Nat) (d : DenA g20_A) : Option (DenR g20_R) := g20 n d.1
noncomputable def g20_S (n : Nat) : Spec := mkSpec g20_A g20_R (g20_f n)
noncomputable def g20_K : Sk := (.nd (.fin none none none [] .leaf) (.nd (.fin none none none [] .leaf) (.nd (.nd (.fin none (some g20_m2e) none [] .leaf) (.nd (.nd (.nd (.fin none none none [(0, g20_m3e)] .leaf) (.nd (.fin none none none [(0, g20_m3e)] .leaf) (.nd (.fin none (some g20_m4e) none [(0, g20_m3e)] .leaf) (.fin none (some g20_m2e) none [] .leaf)))) .leaf) .leaf)) (.nd (.fin none none (some g20_m1e) [] .leaf) (.fin none none (some g20_m1e) [] .leaf)))))
theorem g20_top (n : Nat) (s : FState) (cx : Cx β) : FX (g20_G n) n g20_B g20_K s cx = g20_8F n s cx := by kernel_rfl
theorem g20_fit (n : Nat) : Fit Tryd.prog 20 (g20_S n) :=
  fit_of (Γ := Γ0) (l := g20_C n) (n := n) (sk := g20_K) (ts := [(2, none)]) (fn := Tryd.f20) (c := g20_B) (by kernel_rfl) (by kernel_rfl) (by unfold Callable; kernel_rfl) tab_ok trivial follows_mixed (by kernel_rfl) (by kernel_rfl) (Nat.le_of_ble_eq_true (by kernel_rfl)) (by kernel_rfl) (by kernel_rfl)
    (fun d => (g20_top n _ _).trans (Eq.trans (b := g20_8F n (g20_m0 d.1) (finCx (g20_G n) g20_R [(2, none)])) (by kernel_rfl) ((g20_8_fx n _ d.1).trans (by kernel_rfl))))
noncomputable def g32_m0 (v0 : ByteArray) : FState := ⟨tlist [(0, .dat .str v0)], olist []⟩
noncomputable def g32_m1 (x2 : List Int) : FState := ⟨tlist [(2, .sl 2 none false)], olist [(2, .row (.int .i32) 21 true x2)]⟩
noncomputable def g32_m1e : List NE := [.row 2 (.int .i32) 21 true]
noncomputable def g32_C (n : Nat) : List (Nat × Spec) := []
noncomputable def g32_G (n : Nat) : Ctx := { Γ0 with calls := lkS (g32_C n) }
noncomputable def g32_B : Code := fb Tryd.f32
noncomputable def g32_1 (n : Nat) (kr : List Int → Option β) (v0 : ByteArray) : Option β := room46 v0 <| kr (runesOf v0)
noncomputable def g32_1F (n : Nat) (s : FState) (cx : Cx β) : Option β := FX (g32_G n) n (nav g32_B [0]) (.fin none none (some g32_m1e) [] .leaf) s { cx with nrm := fun s => FX (g32_G n) n (nav g32_B [1, 0]) (.fin none none (some g32_m1e) [] .leaf) s { cx with nrm := fun s => FX (g32_G n) n (nav g32_B [1, 1]) (.fin none none (some g32_m1e) [] .leaf) s cx } }
theorem g32_1_fx (n : Nat) (cx : Cx β) (v0 : ByteArray) : g32_1F n (g32_m0 v0) cx = g32_1 n (fun x2 => cx.ret (g32_m1 x2)) v0 := by kernel_rfl
noncomputable def g32 (n : Nat) (v0 : ByteArray) : Option (DenR [.rw (.int .i32) 21]) := g32_1 n (fun x2 => some (x2, ())) v0
noncomputable def g32_A : List AK := [.dat .str]
noncomputable def g32_R : List RK := [.rw (.int .i32) 21]
noncomputable def g32_f (n : Nat) (d : DenA g32_A) : Option (DenR g32_R) := g32 n d.1
noncomputable def g32_S (n : Nat) : Spec := mkSpec g32_A g32_R (g32_f n)
noncomputable def g32_K : Sk := (.nd (.fin none none (some g32_m1e) [] .leaf) (.nd (.fin none none (some g32_m1e) [] .leaf) (.fin none none (some g32_m1e) [] .leaf)))
theorem g32_top (n : Nat) (s : FState) (cx : Cx β) : FX (g32_G n) n g32_B g32_K s cx = g32_1F n s cx := by kernel_rfl
theorem g32_fit (n : Nat) : Fit Tryd.prog 32 (g32_S n) :=
  fit_of (Γ := Γ0) (l := g32_C n) (n := n) (sk := g32_K) (ts := [(2, none)]) (fn := Tryd.f32) (c := g32_B) (by kernel_rfl) (by kernel_rfl) (by unfold Callable; kernel_rfl) tab_ok trivial follows_mixed (by kernel_rfl) (by kernel_rfl) (Nat.le_of_ble_eq_true (by kernel_rfl)) (by kernel_rfl) (by kernel_rfl)
    (fun d => (g32_top n _ _).trans (Eq.trans (b := g32_1F n (g32_m0 d.1) (finCx (g32_G n) g32_R [(2, none)])) (by kernel_rfl) ((g32_1_fx n _ d.1).trans (by kernel_rfl))))
noncomputable def g36_m0 (x0 x1 : List Int) : FState := ⟨tlist [(0, .sl 0 none false), (1, .sl 1 none false)], olist [(0, .row (.int .i32) 21 false x0), (1, .row (.int .i32) 21 false x1)]⟩
noncomputable def g36_m1 (v4 : Int) : FState := ⟨tlist [(4, .dat (.int .i64) v4)], olist []⟩
noncomputable def g36_m1e : List NE := [.keep 4]
noncomputable def g36_m2 (x0 x1 : List Int) (v5 : Int) : FState := ⟨tlist [(0, .sl 0 none false), (1, .sl 1 none false), (5, .dat (.int .i64) v5)], olist [(0, .row (.int .i32) 21 false x0), (1, .row (.int .i32) 21 false x1)]⟩
noncomputable def g36_m2e : List NE := [.row 0 (.int .i32) 21 false, .row 1 (.int .i32) 21 false, .keep 5]
noncomputable def g36_m3 (v5 : Int) : FState := ⟨tlist [(5, .dat (.int .i64) v5)], olist []⟩
noncomputable def g36_m3e : List NE := [.keep 5]
noncomputable def g36_C (n : Nat) : List (Nat × Spec) := []
noncomputable def g36_G (n : Nat) : Ctx := { Γ0 with calls := lkS (g36_C n) }
noncomputable def g36_B : Code := fb Tryd.f36
noncomputable def g36_1 (n : Nat) (kn : List Int → List Int → Int → Option β) (x0 x1 : List Int) : Option β := kn x0 x1 (0 : Int)
noncomputable def g36_1F (n : Nat) (s : FState) (cx : Cx β) : Option β := FX (g36_G n) n (nav g36_B [0]) (.fin none none none [] .leaf) s { cx with nrm := fun s => FX (g36_G n) n (nav g36_B [1, 0]) (.fin none (some g36_m2e) none [] .leaf) s cx }
theorem g36_1_fx (n : Nat) (cx : Cx β) (x0 x1 : List Int) : g36_1F n (g36_m0 x0 x1) cx = g36_1 n (fun x0 x1 v5 => cx.nrm (g36_m2 x0 x1 v5)) x0 x1 := by kernel_rfl
noncomputable def g36_2 (n : Nat) (kn : List Int → List Int → Int → Option β) (kx0 : Int → Option β) (x0 x1 : List Int) (v5 : Int) : Option β := bif (decide (v5 < (x0.length : Int))) then (bif (decide (v5 < (x1.length : Int))) then (idx (w64 ((w64 ((x0.length : Int) - (1 : Int))) - v5)) (x0.length : Int) <| idx (w64 ((w64 ((x1.length : Int) - (1 : Int))) - v5)) (x1.length : Int) <| bif ((rd x0 (w64 ((w64 ((x0.length : Int) - (1 : Int))) - v5)) (0 : Int)) == (rd x1 (w64 ((w64 ((x1.length : Int) - (1 : Int))) - v5)) (0 : Int))) then (kn x0 x1 (w64 (v5 + (1 : Int)))) else (kx0 v5)) else (kx0 v5)) else (kx0 v5)
noncomputable def g36_2F (n : Nat) (s : FState) (cx : Cx β) : Option β := FX (g36_G n) n (nav g36_B [1, 1, 0, 0, 0, 0, 0]) (.fin none none none [(0, g36_m3e)] .leaf) s { cx with nrm := fun s => FX (g36_G n) n (nav g36_B [1, 1, 0, 0, 0, 0, 1]) (.fin none none none [(0, g36_m3e)] .leaf) s { cx with nrm := fun s => FX (g36_G n) n (nav g36_B [1, 1, 0, 0, 0, 1]) (.fin none (some g36_m2e) none [(0, g36_m3e)] .leaf) s cx } }
theorem g36_2_fx (n : Nat) (cx : Cx β) (x0 x1 : List Int) (v5 : Int) : g36_2F n (g36_m2 x0 x1 v5) cx = g36_2 n (fun x0 x1 v5 => cx.nrm (g36_m2 x0 x1 v5)) (fun v5 => cx.ex 0 (g36_m3 v5)) x0 x1 v5 := by kernel_rfl
noncomputable def g36_3L (n : Nat) (kx0 : Int → Option β) : Nat → List Int → List Int → Int → Option β
  | 0, _, _, _ => none
  | m + 1, x0, x1, v5 => g36_2 n (g36_3L n kx0 m) kx0 x0 x1 v5
noncomputable def g36_3 (n : Nat) (kx0 : Int → Option β) (x0 x1 : List Int) (v5 : Int) : Option β := g36_3L n kx0 n x0 x1 v5
noncomputable def g36_3F (n : Nat) (s : FState) (cx : Cx β) : Option β := loopN (fun again s => g36_2F n s { cx with nrm := again }) n s
theorem g36_3L_fx (n : Nat) (cx : Cx β) : ∀ (m : Nat) (x0 x1 : List Int) (v5 : Int), loopN (fun again s => g36_2F n s { cx with nrm := again }) m (g36_m2 x0 x1 v5) = g36_3L n (fun v5 => cx.ex 0 (g36_m3 v5)) m x0 x1 v5 := by
  intro m
  induction m with
  | zero => intros; rfl
  | succ m ih => intros; simp only [loopN, g36_3L, g36_2_fx, ih]
theorem g36_3_fx (n : Nat) (cx : Cx β) (x0 x1 : List Int) (v5 : Int) : g36_3F n (g36_m2 x0 x1 v5) cx = g36_3 n (fun v5 => cx.ex 0 (g36_m3 v5)) x0 x1 v5 := g36_3L_fx n cx n x0 x1 v5
noncomputable def g36_4 (n : Nat) (kn : Int → Option β) (x0 x1 : List Int) (v5 : Int) : Option β := g36_3 n kn x0 x1 v5
noncomputable def g36_4F (n : Nat) (s : FState) (cx : Cx β) : Option β := g36_3F n s { cx with ex := fun j s => bif Nat.beq j 0 then cx.nrm s else cx.ex j s }
theorem g36_4_fx (n : Nat) (cx : Cx β) (x0 x1 : List Int) (v5 : Int) : g36_4F n (g36_m2 x0 x1 v5) cx = g36_4 n (fun v5 => cx.nrm (g36_m3 v5)) x0 x1 v5 := g36_3_fx n _ x0 x1 v5
noncomputable def g36_5 (n : Nat) (kr : Int → Option β) (v5 : Int) : Option β := kr v5
noncomputable def g36_5F (n : Nat) (s : FState) (cx : Cx β) : Option β := FX (g36_G n) n (nav g36_B [1, 1, 1, 0]) (.fin none none (some g36_m1e) [] .leaf) s { cx with nrm := fun s => FX (g36_G n) n (nav g36_B [1, 1, 1, 1]) (.fin none none (some g36_m1e) [] .leaf) s cx }
theorem g36_5_fx (n : Nat) (cx : Cx β) (v5 : Int) : g36_5F n (g36_m3 v5) cx = g36_5 n (fun v4 => cx.ret (g36_m1 v4)) v5 := by kernel_rfl
noncomputable def g36_6 (n : Nat) (kr : Int → Option β) (x0 x1 : List Int) : Option β := g36_1 n (fun x0 x1 v5 => g36_4 n (fun v5 => g36_5 n kr v5) x0 x1 v5) x0 x1
noncomputable def g36_6F (n : Nat) (s : FState) (cx : Cx β) : Option β := g36_1F n s { cx with nrm := fun s => g36_4F n s { cx with nrm := fun s => g36_5F n s cx } }
theorem g36_6_fx (n : Nat) (cx : Cx β) (x0 x1 : List Int) : g36_6F n (g36_m0 x0 x1) cx = g36_6 n (fun v4 => cx.ret (g36_m1 v4)) x0 x1 := by simp only [g36_6F, g36_6, g36_1_fx, g36_4_fx, g36_5_fx]
noncomputable def g36 (n : Nat) (x0 x1 : List Int) : Option (DenR [.dat (.int .i64)]) := g36_6 n (fun v4 => some (v4, ())) x0 x1
noncomputable def g36_A : List AK := [.ro (.int .i32) 21, .ro (.int .i32) 21]
noncomputable def g36_R : List RK := [.dat (.int .i64)]
noncomputable def g36_f (n : Nat) (d : DenA g36_A) : Option (DenR g36_R) := g36 n d.1 d.2.1
noncomputable def g36_S (n : Nat) : Spec := mkSpec g36_A g36_R (g36_f n)
noncomputable def g36_K : Sk := (.nd (.fin none none none [] .leaf) (.nd (.fin none (some g36_m2e) none [] .leaf) (.nd (.nd (.nd (.nd (.nd (.fin none none none [(0, g36_m3e)] .leaf) (.fin none none none [(0, g36_m3e)] .leaf)) (.fin none (some g36_m2e) none [(0, g36_m3e)] .leaf)) .leaf) .leaf) (.nd (.fin none none (some g36_m1e) [] .leaf) (.fin none none (some g36_m1e) [] .leaf)))))
theorem g36_top (n : Nat) (s : FState) (cx : Cx β) : FX (g36_G n) n g36_B g36_K s cx = g36_6F n s cx := by kernel_rfl
theorem g36_fit (n : Nat) : Fit Tryd.prog 36 (g36_S n) :=
  fit_of (Γ := Γ0) (l := g36_C n) (n := n) (sk := g36_K) (ts := [(4, none)]) (fn := Tryd.f36) (c := g36_B) (by kernel_rfl) (by kernel_rfl) (by unfold Callable; kernel_rfl) tab_ok trivial follows_mixed (by kernel_rfl) (by kernel_rfl) (Nat.le_of_ble_eq_true (by kernel_rfl)) (by kernel_rfl) (by kernel_rfl)
    (fun d => (g36_top n _ _).trans (Eq.trans (b := g36_6F n (g36_m0 d.1 d.2.1) (finCx (g36_G n) g36_R [(4, none)])) (by kernel_rfl) ((g36_6_fx n _ d.1 d.2.1).trans (by kernel_rfl))))
noncomputable def g49_m0 (v0 : ByteArray) : FState := ⟨tlist [(0, .dat .str v0)], olist []⟩
noncomputable def g49_m1 (v2 : Bool) : FState := ⟨tlist [(2, .dat .bool v2)], olist []⟩
noncomputable def g49_m1e : List NE := [.keep 2]
noncomputable def g49_C (n : Nat) : List (Nat × Spec) := []
noncomputable def g49_G (n : Nat) : Ctx := { Γ0 with calls := lkS (g49_C n) }
noncomputable def g49_B : Code := fb Tryd.f49
noncomputable def g49_1 (n : Nat) (kr : Bool → Option β) (v0 : ByteArray) : Option β := bif (decide ((v0.size : Int) > (1 : Int))) then (idx (w64 ((v0.size : Int) - (1 : Int))) (v0.size : Int) <| bif ((byteAt v0 (w64 ((v0.size : Int) - (1 : Int)))) == (10 : Int)) then (idx (w64 ((v0.size : Int) - (2 : Int))) (v0.size : Int) <| bif ((byteAt v0 (w64 ((v0.size : Int) - (2 : Int)))) == (10 : Int)) then (kr true) else (bif (decide ((v0.size : Int) > (2 : Int))) then (idx (w64 ((v0.size : Int) - (2 : Int))) (v0.size : Int) <| bif ((byteAt v0 (w64 ((v0.size : Int) - (2 : Int)))) == (13 : Int)) then (idx (w64 ((v0.size : Int) - (3 : Int))) (v0.size : Int) <| kr ((byteAt v0 (w64 ((v0.size : Int) - (3 : Int)))) == (10 : Int))) else (kr false)) else (kr false))) else (kr false)) else (kr false)
noncomputable def g49_1F (n : Nat) (s : FState) (cx : Cx β) : Option β := FX (g49_G n) n (nav g49_B [0]) (.fin none none (some g49_m1e) [] .leaf) s { cx with nrm := fun s => FX (g49_G n) n (nav g49_B [1, 0]) (.fin none none (some g49_m1e) [] .leaf) s { cx with nrm := fun s => FX (g49_G n) n (nav g49_B [1, 1, 0]) (.fin none none (some g49_m1e) [] .leaf) s { cx with nrm := fun s => FX (g49_G n) n (nav g49_B [1, 1, 1]) (.fin none none (some g49_m1e) [] .leaf) s cx } } }
theorem g49_1_fx (n : Nat) (cx : Cx β) (v0 : ByteArray) : g49_1F n (g49_m0 v0) cx = g49_1 n (fun v2 => cx.ret (g49_m1 v2)) v0 := by kernel_rfl
noncomputable def g49 (n : Nat) (v0 : ByteArray) : Option (DenR [.dat .bool]) := g49_1 n (fun v2 => some (v2, ())) v0
noncomputable def g49_A : List AK := [.dat .str]
noncomputable def g49_R : List RK := [.dat .bool]
noncomputable def g49_f (n : Nat) (d : DenA g49_A) : Option (DenR g49_R) := g49 n d.1
noncomputable def g49_S (n : Nat) : Spec := mkSpec g49_A g49_R (g49_f n)
noncomputable def g49_K : Sk := (.nd (.fin none none (some g49_m1e) [] .leaf) (.nd (.fin none none (some g49_m1e) [] .leaf) (.nd (.fin none none (some g49_m1e) [] .leaf) (.fin none none (some g49_m1e) [] .leaf))))
theorem g49_top (n : Nat) (s : FState) (cx : Cx β) : FX (g49_G n) n g49_B g49_K s cx = g49_1F n s cx := by kernel_rfl
theorem g49_fit (n : Nat) : Fit Tryd.prog 49 (g49_S n) :=
  fit_of (Γ := Γ0) (l := g49_C n) (n := n) (sk := g49_K) (ts := [(2, none)]) (fn := Tryd.f49) (c := g49_B) (by kernel_rfl) (by kernel_rfl) (by unfold Callable; kernel_rfl) tab_ok trivial follows_mixed (by kernel_rfl) (by kernel_rfl) (Nat.le_of_ble_eq_true (by kernel_rfl)) (by kernel_rfl) (by kernel_rfl)
    (fun d => (g49_top n _ _).trans (Eq.trans (b := g49_1F n (g49_m0 d.1) (finCx (g49_G n) g49_R [(2, none)])) (by kernel_rfl) ((g49_1_fx n _ d.1).trans (by kernel_rfl))))
noncomputable def g50_m0 (v0 : ByteArray) : FState := ⟨tlist [(0, .dat .str v0)], olist []⟩
noncomputable def g50_m1 (v2 : Bool) : FState := ⟨tlist [(2, .dat .bool v2)], olist []⟩
noncomputable def g50_m1e : List NE := [.keep 2]
noncomputable def g50_m2 (v0 : ByteArray) (v3 : Int) : FState := ⟨tlist [(0, .dat .str v0), (3, .dat (.int .i64) v3)], olist []⟩
noncomputable def g50_m2e : List NE := [.keep 0, .keep 3]
noncomputable def g50_m3 : FState := ⟨tlist [], olist []⟩
noncomputable def g50_m3e : List NE := []
noncomputable def g50_C (n : Nat) : List (Nat × Spec) := []
noncomputable def g50_G (n : Nat) : Ctx := { Γ0 with calls := lkS (g50_C n) }
noncomputable def g50_B : Code := fb Tryd.f50
noncomputable def g50_1 (n : Nat) (kn : ByteArray → Int → Option β) (v0 : ByteArray) : Option β := kn v0 (0 : Int)
noncomputable def g50_1F (n : Nat) (s : FState) (cx : Cx β) : Option β := FX (g50_G n) n (nav g50_B [0]) (.fin none none none [] .leaf) s { cx with nrm := fun s => FX (g50_G n) n (nav g50_B [1, 0, 0]) (.fin none (some g50_m2e) none [] .leaf) s cx }
theorem g50_1_fx (n : Nat) (cx : Cx β) (v0 : ByteArray) : g50_1F n (g50_m0 v0) cx = g50_1 n (fun v0 v3 => cx.nrm (g50_m2 v0 v3)) v0 := by kernel_rfl
noncomputable def g50_2 (n : Nat) (kn : ByteArray → Int → Option β) (kr : Bool → Option β) (kx0 : Option β) (v0 : ByteArray) (v3 : Int) : Option β := bif (decide (v3 < (2 : Int))) then (bif (!strEq v0 (⟨#[]⟩ : ByteArray)) then (idx (0 : Int) (v0.size : Int) <| bif ((byteAt v0 (0 : Int)) == (13 : Int)) then (bnd (1 : Int) (v0.size : Int) (v0.size : Int) <| bif (strEq (cutS v0 (1 : Int) (v0.size : Int)) (⟨#[]⟩ : ByteArray)) then (kr false) else (idx (0 : Int) ((cutS v0 (1 : Int) (v0.size : Int)).size : Int) <| bif ((byteAt (cutS v0 (1 : Int) (v0.size : Int)) (0 : Int)) != (10 : Int)) then (kr false) else (bnd (1 : Int) ((cutS v0 (1 : Int) (v0.size : Int)).size : Int) ((cutS v0 (1 : Int) (v0.size : Int)).size : Int) <| kn (cutS (cutS v0 (1 : Int) (v0.size : Int)) (1 : Int) ((cutS v0 (1 : Int) (v0.size : Int)).size : Int)) (w64 (v3 + (1 : Int)))))) else (bif (strEq v0 (⟨#[]⟩ : ByteArray)) then (kr false) else (idx (0 : Int) (v0.size : Int) <| bif ((byteAt v0 (0 : Int)) != (10 : Int)) then (kr false) else (bnd (1 : Int) (v0.size : Int) (v0.size : Int) <| kn (cutS v0 (1 : Int) (v0.size : Int)) (w64 (v3 + (1 : Int))))))) else (bif (strEq v0 (⟨#[]⟩ : ByteArray)) then (kr false) else (idx (0 : Int) (v0.size : Int) <| bif ((byteAt v0 (0 : Int)) != (10 : Int)) then (kr false) else (bnd (1 : Int) (v0.size : Int) (v0.size : Int) <| kn (cutS v0 (1 : Int) (v0.size : Int)) (w64 (v3 + (1 : Int))))))) else kx0
noncomputable def g50_2F (n : Nat) (s : FState) (cx : Cx β) : Option β := FX (g50_G n) n (nav g50_B [1, 0, 1, 0, 0, 0, 0]) (.fin none none (some g50_m1e) [(0, g50_m3e)] .leaf) s { cx with nrm := fun s => FX (g50_G n) n (nav g50_B [1, 0, 1, 0, 0, 0, 1]) (.fin none none (some g50_m1e) [(0, g50_m3e)] .leaf) s { cx with nrm := fun s => FX (g50_G n) n (nav g50_B [1, 0, 1, 0, 0, 1, 0]) (.fin none none (some g50_m1e) [(0, g50_m3e)] .leaf) s { cx with nrm := fun s => FX (g50_G n) n (nav g50_B [1, 0, 1, 0, 0, 1, 1]) (.fin none (some g50_m2e) (some g50_m1e) [(0, g50_m3e)] .leaf) s cx } } }
theorem g50_2_fx (n : Nat) (cx : Cx β) (v0 : ByteArray) (v3 : Int) : g50_2F n (g50_m2 v0 v3) cx = g50_2 n (fun v0 v3 => cx.nrm (g50_m2 v0 v3)) (fun v2 => cx.ret (g50_m1 v2)) (cx.ex 0 g50_m3) v0 v3 := by kernel_rfl
noncomputable def g50_3L (n : Nat) (kr : Bool → Option β) (kx0 : Option β) : Nat → ByteArray → Int → Option β
  | 0, _, _ => none
  | m + 1, v0, v3 => g50_2 n (g50_3L n kr kx0 m) kr kx0 v0 v3
noncomputable def g50_3 (n : Nat) (kr : Bool → Option β) (kx0 : Option β) (v0 : ByteArray) (v3 : Int) : Option β := g50_3L n kr kx0 n v0 v3
noncomputable def g50_3F (n : Nat) (s : FState) (cx : Cx β) : Option β := loopN (fun again s => g50_2F n s { cx with nrm := again }) n s
theorem g50_3L_fx (n : Nat) (cx : Cx β) : ∀ (m : Nat) (v0 : ByteArray) (v3 : Int), loopN (fun again s => g50_2F n s { cx with nrm := again }) m (g50_m2 v0 v3) = g50_3L n (fun v2 => cx.ret (g50_m1 v2)) (cx.ex 0 g50_m3) m v0 v3 := by
  intro m
  induction m with
  | zero => intros; rfl
  | succ m ih => intros; simp only [loopN, g50_3L, g50_2_fx, ih]
theorem g50_3_fx (n : Nat) (cx : Cx β) (v0 : ByteArray) (v3 : Int) : g50_3F n (g50_m2 v0 v3) cx = g50_3 n (fun v2 => cx.ret (g50_m1 v2)) (cx.ex 0 g50_m3) v0 v3 := g50_3L_fx n cx n v0 v3
noncomputable def g50_4 (n : Nat) (kn : Option β) (kr : Bool → Option β) (v0 : ByteArray) (v3 : Int) : Option β := g50_3 n kr kn v0 v3
noncomputable def g50_4F (n : Nat) (s : FState) (cx : Cx β) : Option β := g50_3F n s { cx with ex := fun j s => bif Nat.beq j 0 then cx.nrm s else cx.ex j s }
theorem g50_4_fx (n : Nat) (cx : Cx β) (v0 : ByteArray) (v3 : Int) : g50_4F n (g50_m2 v0 v3) cx = g50_4 n (cx.nrm g50_m3) (fun v2 => cx.ret (g50_m1 v2)) v0 v3 := g50_3_fx n _ v0 v3
noncomputable def g50_5 (n : Nat) (kr : Bool → Option β) : Option β := kr true
noncomputable def g50_5F (n : Nat) (s : FState) (cx : Cx β) : Option β := FX (g50_G n) n (nav g50_B [1, 1, 0]) (.fin none none (some g50_m1e) [] .leaf) s { cx with nrm := fun s => FX (g50_G n) n (nav g50_B [1, 1, 1]) (.fin none none (some g50_m1e) [] .leaf) s cx }
theorem g50_5_fx (n : Nat) (cx : Cx β) : g50_5F n g50_m3 cx = g50_5 n (fun v2 => cx.ret (g50_m1 v2)) := by kernel_rfl
noncomputable def g50_6 (n : Nat) (kr : Bool → Option β) (v0 : ByteArray) : Option β := g50_1 n (fun v0 v3 => g50_4 n (g50_5 n kr) kr v0 v3) v0
noncomputable def g50_6F (n : Nat) (s : FState) (cx : Cx β) : Option β := g50_1F n s { cx with nrm := fun s => g50_4F n s { cx with nrm := fun s => g50_5F n s cx } }
theorem g50_6_fx (n : Nat) (cx : Cx β) (v0 : ByteArray) : g50_6F n (g50_m0 v0) cx = g50_6 n (fun v2 => cx.ret (g50_m1 v2)) v0 := by simp only [g50_6F, g50_6, g50_1_fx, g50_4_fx, g50_5_fx]
noncomputable def g50 (n : Nat) (v0 : ByteArray) : Option (DenR [.dat .bool]) := g50_6 n (fun v2 => some (v2, ())) v0
noncomputable def g50_A : List AK := [.dat .str]
noncomputable def g50_R : List RK := [.dat .bool]
noncomputable def g50_f (n : Nat) (d : DenA g50_A) : Option (DenR g50_R) := g50 n d.1
noncomputable def g50_S (n : Nat) : Spec := mkSpec g50_A g50_R (g50_f n)
noncomputable def g50_K : Sk := (.nd (.fin none none none [] .leaf) (.nd (.nd (.fin none (some g50_m2e) none [] .leaf) (.nd (.nd (.nd (.nd (.fin none none (some g50_m1e) [(0, g50_m3e)] .leaf) (.fin none none (some g50_m1e) [(0, g50_m3e)] .leaf)) (.nd (.fin none none (some g50_m1e) [(0, g50_m3e)] .leaf) (.fin none (some g50_m2e) (some g50_m1e) [(0, g50_m3e)] .leaf))) .leaf) .leaf)) (.nd (.fin none none (some g50_m1e) [] .leaf) (.fin none none (some g50_m1e) [] .leaf))))
theorem g50_top (n : Nat) (s : FState) (cx : Cx β) : FX (g50_G n) n g50_B g50_K s cx = g50_6F n s cx := by kernel_rfl
theorem g50_fit (n : Nat) : Fit Tryd.prog 50 (g50_S n) :=
  fit_of (Γ := Γ0) (l := g50_C n) (n := n) (sk := g50_K) (ts := [(2, none)]) (fn := Tryd.f50) (c := g50_B) (by kernel_rfl) (by kernel_rfl) (by unfold Callable; kernel_rfl) tab_ok trivial follows_mixed (by kernel_rfl) (by kernel_rfl) (Nat.le_of_ble_eq_true (by kernel_rfl)) (by kernel_rfl) (by kernel_rfl)
    (fun d => (g50_top n _ _).trans (Eq.trans (b := g50_6F n (g50_m0 d.1) (finCx (g50_G n) g50_R [(2, none)])) (by kernel_rfl) ((g50_6_fx n _ d.1).trans (by kernel_rfl))))
noncomputable def g51_m0 (v0 : Int) : FState := ⟨tlist [(0, .dat (.int .u8) v0)], olist []⟩
noncomputable def g51_m1 (v2 : Bool) : FState := ⟨tlist [(2, .dat .bool v2)], olist []⟩
noncomputable def g51_m1e : List NE := [.keep 2]
noncomputable def g51_C (n : Nat) : List (Nat × Spec) := []
noncomputable def g51_G (n : Nat) : Ctx := { Γ0 with calls := lkS (g51_C n) }
noncomputable def g51_B : Code := fb Tryd.f51
noncomputable def g51_1 (n : Nat) (kr : Bool → Option β) (v0 : Int) : Option β := bif (decide (v0 ≥ (97 : Int))) then (bif (decide (v0 ≤ (122 : Int))) then (kr true) else (bif (decide (v0 ≥ (65 : Int))) then (bif (decide (v0 ≤ (90 : Int))) then (kr true) else (bif (decide (v0 ≥ (48 : Int))) then (kr (decide (v0 ≤ (57 : Int)))) else (kr false))) else (bif (decide (v0 ≥ (48 : Int))) then (kr (decide (v0 ≤ (57 : Int)))) else (kr false)))) else (bif (decide (v0 ≥ (65 : Int))) then (bif (decide (v0 ≤ (90 : Int))) then (kr true) else (bif (decide (v0 ≥ (48 : Int))) then (kr (decide (v0 ≤ (57 : Int)))) else (kr false))) else (bif (decide (v0 ≥ (48 : Int))) then (kr (decide (v0 ≤ (57 : Int)))) else (kr false)))
noncomputable def g51_1F (n : Nat) (s : FState) (cx : Cx β) : Option β := FX (g51_G n) n (nav g51_B [0]) (.fin none none (some g51_m1e) [] .leaf) s { cx with nrm := fun s => FX (g51_G n) n (nav g51_B [1, 0]) (.fin none none (some g51_m1e) [] .leaf) s { cx with nrm := fun s => FX (g51_G n) n (nav g51_B [1, 1]) (.fin none none (some g51_m1e) [] .leaf) s cx } }
theorem g51_1_fx (n : Nat) (cx : Cx β) (v0 : Int) : g51_1F n (g51_m0 v0) cx = g51_1 n (fun v2 => cx.ret (g51_m1 v2)) v0 := by kernel_rfl
noncomputable def g51 (n : Nat) (v0 : Int) : Option (DenR [.dat .bool]) := g51_1 n (fun v2 => some (v2, ())) v0
noncomputable def g51_A : List AK := [.dat (.int .u8)]
noncomputable def g51_R : List RK := [.dat .bool]
noncomputable def g51_f (n : Nat) (d : DenA g51_A) : Option (DenR g51_R) := g51 n d.1
noncomputable def g51_S (n : Nat) : Spec := mkSpec g51_A g51_R (g51_f n)
noncomputable def g51_K : Sk := (.nd (.fin none none (some g51_m1e) [] .leaf) (.nd (.fin none none (some g51_m1e) [] .leaf) (.fin none none (some g51_m1e) [] .leaf)))
theorem g51_top (n : Nat) (s : FState) (cx : Cx β) : FX (g51_G n) n g51_B g51_K s cx = g51_1F n s cx := by kernel_rfl
theorem g51_fit (n : Nat) : Fit Tryd.prog 51 (g51_S n) :=
  fit_of (Γ := Γ0) (l := g51_C n) (n := n) (sk := g51_K) (ts := [(2, none)]) (fn := Tryd.f51) (c := g51_B) (by kernel_rfl) (by kernel_rfl) (by unfold Callable; kernel_rfl) tab_ok trivial follows_mixed (by kernel_rfl) (by kernel_rfl) (Nat.le_of_ble_eq_true (by kernel_rfl)) (by kernel_rfl) (by kernel_rfl)
    (fun d => (g51_top n _ _).trans (Eq.trans (b := g51_1F n (g51_m0 d.1) (finCx (g51_G n) g51_R [(2, none)])) (by kernel_rfl) ((g51_1_fx n _ d.1).trans (by kernel_rfl))))
noncomputable def g52_m0 (v0 : Int) : FState := ⟨tlist [(0, .dat (.int .u8) v0)], olist []⟩
noncomputable def g52_m1 (v2 : Bool) : FState := ⟨tlist [(2, .dat .bool v2)], olist []⟩
noncomputable def g52_m1e : List NE := [.keep 2]
noncomputable def g52_C (n : Nat) : List (Nat × Spec) := []
noncomputable def g52_G (n : Nat) : Ctx := { Γ0 with calls := lkS (g52_C n) }
noncomputable def g52_B : Code := fb Tryd.f52
noncomputable def g52_1 (n : Nat) (kr : Bool → Option β) (v0 : Int) : Option β := bif (v0 == (32 : Int)) then (kr true) else (bif (v0 == (9 : Int)) then (kr true) else (bif (v0 == (10 : Int)) then (kr true) else (bif (v0 == (13 : Int)) then (kr true) else (kr (v0 == (12 : Int))))))
noncomputable def g52_1F (n : Nat) (s : FState) (cx : Cx β) : Option β := FX (g52_G n) n (nav g52_B [0]) (.fin none none (some g52_m1e) [] .leaf) s { cx with nrm := fun s => FX (g52_G n) n (nav g52_B [1, 0]) (.fin none none (some g52_m1e) [] .leaf) s { cx with nrm := fun s => FX (g52_G n) n (nav g52_B [1, 1]) (.fin none none (some g52_m1e) [] .leaf) s cx } }
theorem g52_1_fx (n : Nat) (cx : Cx β) (v0 : Int) : g52_1F n (g52_m0 v0) cx = g52_1 n (fun v2 => cx.ret (g52_m1 v2)) v0 := by kernel_rfl
noncomputable def g52 (n : Nat) (v0 : Int) : Option (DenR [.dat .bool]) := g52_1 n (fun v2 => some (v2, ())) v0
noncomputable def g52_A : List AK := [.dat (.int .u8)]
noncomputable def g52_R : List RK := [.dat .bool]
noncomputable def g52_f (n : Nat) (d : DenA g52_A) : Option (DenR g52_R) := g52 n d.1
noncomputable def g52_S (n : Nat) : Spec := mkSpec g52_A g52_R (g52_f n)
noncomputable def g52_K : Sk := (.nd (.fin none none (some g52_m1e) [] .leaf) (.nd (.fin none none (some g52_m1e) [] .leaf) (.fin none none (some g52_m1e) [] .leaf)))
theorem g52_top (n : Nat) (s : FState) (cx : Cx β) : FX (g52_G n) n g52_B g52_K s cx = g52_1F n s cx := by kernel_rfl
theorem g52_fit (n : Nat) : Fit Tryd.prog 52 (g52_S n) :=
  fit_of (Γ := Γ0) (l := g52_C n) (n := n) (sk := g52_K) (ts := [(2, none)]) (fn := Tryd.f52) (c := g52_B) (by kernel_rfl) (by kernel_rfl) (by unfold Callable; kernel_rfl) tab_ok trivial follows_mixed (by kernel_rfl) (by kernel_rfl) (Nat.le_of_ble_eq_true (by kernel_rfl)) (by kernel_rfl) (by kernel_rfl)
    (fun d => (g52_top n _ _).trans (Eq.trans (b := g52_1F n (g52_m0 d.1) (finCx (g52_G n) g52_R [(2, none)])) (by kernel_rfl) ((g52_1_fx n _ d.1).trans (by kernel_rfl))))
noncomputable def g37_m0 (v0 v1 : ByteArray) : FState := ⟨tlist [(0, .dat .str v0), (1, .dat .str v1)], olist []⟩
noncomputable def g37_m1 (v4 : Int) : FState := ⟨tlist [(4, .dat (.int .i64) v4)], olist []⟩
noncomputable def g37_m1e : List NE := [.keep 4]
noncomputable def g37_m2 (v0 v1 : ByteArray) (v5 v6 : Int) (v7 : Bool) : FState := ⟨tlist [(0, .dat .str v0), (1, .dat .str v1), (5, .dat (.int .u8) v5), (6, .dat (.int .u8) v6), (7, .dat .bool v7)], olist []⟩
noncomputable def g37_m2e : List NE := [.keep 0, .keep 1, .keep 5, .keep 6, .keep 7]
noncomputable def g37_m3 : FState := ⟨tlist [], olist []⟩
noncomputable def g37_m3e : List NE := []
noncomputable def g37_m4 (v5 v6 : Int) (v7 v35 : Bool) : FState := ⟨tlist [(5, .dat (.int .u8) v5), (6, .dat (.int .u8) v6), (7, .dat .bool v7), (35, .dat .bool v35)], olist []⟩
noncomputable def g37_m4e : List NE := [.keep 5, .keep 6, .keep 7, .keep 35]
noncomputable def g37_C (n : Nat) : List (Nat × Spec) := [(49, g49_S n), (50, g50_S n), (51, g51_S n), (52, g52_S n)]
noncomputable def g37_G (n : Nat) : Ctx := { Γ0 with calls := lkS (g37_C n) }
noncomputable def g37_B : Code := fb Tryd.f37
noncomputable def g37_1 (n : Nat) (kn : ByteArray → ByteArray → Int → Int → Bool → Option β) (kr : Int → Option β) (v0 v1 : ByteArray) : Option β := bif (strEq v0 (⟨#[]⟩ : ByteArray)) then (kr (6 : Int)) else (bif (strEq v1 (⟨#[]⟩ : ByteArray)) then (kr (6 : Int)) else (idx (w64 ((v0.size : Int) - (1 : Int))) (v0.size : Int) <| idx (0 : Int) (v1.size : Int) <| bif ((byteAt v0 (w64 ((v0.size : Int) - (1 : Int)))) == (10 : Int)) then (kn v0 v1 (byteAt v0 (w64 ((v0.size : Int) - (1 : Int)))) (byteAt v1 (0 : Int)) true) else (bif ((byteAt v0 (w64 ((v0.size : Int) - (1 : Int)))) == (13 : Int)) then (kn v0 v1 (byteAt v0 (w64 ((v0.size : Int) - (1 : Int)))) (byteAt v1 (0 : Int)) true) else (bif ((byteAt v1 (0 : Int)) == (10 : Int)) then (kn v0 v1 (byteAt v0 (w64 ((v0.size : Int) - (1 : Int)))) (byteAt v1 (0 : Int)) true) else (kn v0 v1 (byteAt v0 (w64 ((v0.size : Int) - (1 : Int)))) (byteAt v1 (0 : Int)) ((byteAt v1 (0 : Int)) == (13 : Int)))))))
noncomputable def g37_1F (n : Nat) (s : FState) (cx : Cx β) : Option β := FX (g37_G n) n (nav g37_B [0]) (.fin none none (some g37_m1e) [] .leaf) s { cx with nrm := fun s => FX (g37_G n) n (nav g37_B [1, 0, 0]) (.fin none none (some g37_m1e) [] .leaf) s { cx with nrm := fun s => FX (g37_G n) n (nav g37_B [1, 0, 1]) (.fin none none (some g37_m1e) [] .leaf) s { cx with nrm := fun s => FX (g37_G n) n (nav g37_B [1, 1, 0]) (.fin none none (some g37_m1e) [] .leaf) s { cx with nrm := fun s => FX (g37_G n) n (nav g37_B [1, 1, 1, 0]) (.fin none (some g37_m2e) (some g37_m1e) [] .leaf) s cx } } } }
theorem g37_1_fx (n : Nat) (cx : Cx β) (v0 v1 : ByteArray) : g37_1F n (g37_m0 v0 v1) cx = g37_1 n (fun v0 v1 v5 v6 v7 => cx.nrm (g37_m2 v0 v1 v5 v6 v7)) (fun v4 => cx.ret (g37_m1 v4)) v0 v1 := by kernel_rfl
noncomputable def g37_2 (n : Nat) (kn : Int → Int → Bool → Bool → Option β) (v0 v1 : ByteArray) (v5 v6 : Int) (v7 : Bool) : Option β := bif v7 then ((g49 n v0).bind fun r1 => bif r1.1 then (bif (v5 == (10 : Int)) then (kn v5 v6 v7 true) else (bif (v5 == (13 : Int)) then (kn v5 v6 v7 true) else ((g50 n v1).bind fun r2 => bif r2.1 then (bif (v6 == (10 : Int)) then (kn v5 v6 v7 true) else (kn v5 v6 v7 (v6 == (13 : Int)))) else (kn v5 v6 v7 false)))) else ((g50 n v1).bind fun r3 => bif r3.1 then (bif (v6 == (10 : Int)) then (kn v5 v6 v7 true) else (kn v5 v6 v7 (v6 == (13 : Int)))) else (kn v5 v6 v7 false))) else (kn v5 v6 v7 false)
noncomputable def g37_2F (n : Nat) (s : FState) (cx : Cx β) : Option β := FX (g37_G n) n (nav g37_B [1, 1, 1, 1, 0, 0, 0]) (.fin none (some g37_m4e) none [] .leaf) s cx
theorem g37_2_fx (n : Nat) (cx : Cx β) (v0 v1 : ByteArray) (v5 v6 : Int) (v7 : Bool) : g37_2F n (g37_m2 v0 v1 v5 v6 v7) cx = g37_2 n (fun v5 v6 v7 v35 => cx.nrm (g37_m4 v5 v6 v7 v35)) v0 v1 v5 v6 v7 := by kernel_rfl
noncomputable def g37_3 (n : Nat) (kn : Option β) (kr : Int → Option β) (v5 v6 : Int) (v7 v35 : Bool) : Option β := bif v35 then (kr (5 : Int)) else (bif v7 then (kr (4 : Int)) else ((g51 n v5).bind fun r1 => bif (!r1.1) then ((g52 n v5).bind fun r2 => bif (!r2.1) then ((g52 n v6).bind fun r3 => bif r3.1 then (kr (3 : Int)) else ((g52 n v5).bind fun r4 => bif r4.1 then (kr (2 : Int)) else ((g52 n v6).bind fun r5 => bif r5.1 then (kr (2 : Int)) else ((g51 n v5).bind fun r6 => bif (!r6.1) then (kr (1 : Int)) else ((g51 n v6).bind fun r7 => bif (!r7.1) then (kr (1 : Int)) else kn))))) else ((g52 n v5).bind fun r8 => bif r8.1 then (kr (2 : Int)) else ((g52 n v6).bind fun r9 => bif r9.1 then (kr (2 : Int)) else ((g51 n v5).bind fun r10 => bif (!r10.1) then (kr (1 : Int)) else ((g51 n v6).bind fun r11 => bif (!r11.1) then (kr (1 : Int)) else kn))))) else ((g52 n v5).bind fun r12 => bif r12.1 then (kr (2 : Int)) else ((g52 n v6).bind fun r13 => bif r13.1 then (kr (2 : Int)) else ((g51 n v5).bind fun r14 => bif (!r14.1) then (kr (1 : Int)) else ((g51 n v6).bind fun r15 => bif (!r15.1) then (kr (1 : Int)) else kn))))))
noncomputable def g37_3F (n : Nat) (s : FState) (cx : Cx β) : Option β := FX (g37_G n) n (nav g37_B [1, 1, 1, 1, 0, 0, 1]) (.fin none (some g37_m3e) (some g37_m1e) [] .leaf) s cx
theorem g37_3_fx (n : Nat) (cx : Cx β) (v5 v6 : Int) (v7 v35 : Bool) : g37_3F n (g37_m4 v5 v6 v7 v35) cx = g37_3 n (cx.nrm g37_m3) (fun v4 => cx.ret (g37_m1 v4)) v5 v6 v7 v35 := by kernel_rfl
noncomputable def g37_4 (n : Nat) (kn : Option β) (kr : Int → Option β) (v0 v1 : ByteArray) (v5 v6 : Int) (v7 : Bool) : Option β := g37_2 n (fun v5 v6 v7 v35 => g37_3 n kn kr v5 v6 v7 v35) v0 v1 v5 v6 v7
noncomputable def g37_4F (n : Nat) (s : FState) (cx : Cx β) : Option β := g37_2F n s { cx with nrm := fun s => g37_3F n s cx }
theorem g37_4_fx (n : Nat) (cx : Cx β) (v0 v1 : ByteArray) (v5 v6 : Int) (v7 : Bool) : g37_4F n (g37_m2 v0 v1 v5 v6 v7) cx = g37_4 n (cx.nrm g37_m3) (fun v4 => cx.ret (g37_m1 v4)) v0 v1 v5 v6 v7 := by simp only [g37_4F, g37_4, g37_2_fx, g37_3_fx]
noncomputable def g37_5 (n : Nat) (kn : Option β) (kr : Int → Option β) (v0 v1 : ByteArray) (v5 v6 : Int) (v7 : Bool) : Option β := g37_4 n kn kr v0 v1 v5 v6 v7
noncomputable def g37_5F (n : Nat) (s : FState) (cx : Cx β) : Option β := g37_4F n s { cx with ex := fun j s => bif Nat.beq j 0 then cx.nrm s else cx.ex j s }
theorem g37_5_fx (n : Nat) (cx : Cx β) (v0 v1 : ByteArray) (v5 v6 : Int) (v7 : Bool) : g37_5F n (g37_m2 v0 v1 v5 v6 v7) cx = g37_5 n (cx.nrm g37_m3) (fun v4 => cx.ret (g37_m1 v4)) v0 v1 v5 v6 v7 := g37_4_fx n _ v0 v1 v5 v6 v7
noncomputable def g37_6 (n : Nat) (kr : Int → Option β) : Option β := kr (0 : Int)
noncomputable def g37_6F (n : Nat) (s : FState) (cx : Cx β) : Option β := FX (g37_G n) n (nav g37_B [1, 1, 1, 1, 1, 0]) (.fin none none (some g37_m1e) [] .leaf) s { cx with nrm := fun s => FX (g37_G n) n (nav g37_B [1, 1, 1, 1, 1, 1]) (.fin none none (some g37_m1e) [] .leaf) s cx }
theorem g37_6_fx (n : Nat) (cx : Cx β) : g37_6F n g37_m3 cx = g37_6 n (fun v4 => cx.ret (g37_m1 v4)) := by kernel_rfl
noncomputable def g37_7 (n : Nat) (kr : Int → Option β) (v0 v1 : ByteArray) : Option β := g37_1 n (fun v0 v1 v5 v6 v7 => g37_5 n (g37_6 n kr) kr v0 v1 v5 v6 v7) kr v0 v1
noncomputable def g37_7F (n : Nat) (s : FState) (cx : Cx β) : Option β := g37_1F n s { cx with nrm := fun s => g37_5F n s { cx with nrm := fun s => g37_6F n s cx } }
theorem g37_7_fx (n : Nat) (cx : Cx β) (v0 v1 : ByteArray) : g37_7F n (g37_m0 v0 v1) cx = g37_7 n (fun v4 => cx.ret (g37_m1 v4)) v0 v1 := by simp only [g37_7F, g37_7, g37_1_fx, g37_5_fx, g37_6_fx]
noncomputable def g37 (n : Nat) (v0 v1 : ByteArray) : Option (DenR [.dat (.int .i64)]) := g37_7 n (fun v4 => some (v4, ())) v0 v1
noncomputable def g37_A : List AK := [.dat .str, .dat .str]
noncomputable def g37_R : List RK := [.dat (.int .i64)]
noncomputable def g37_f (n : Nat) (d : DenA g37_A) : Option (DenR g37_R) := g37 n d.1 d.2.1
noncomputable def g37_S (n : Nat) : Spec := mkSpec g37_A g37_R (g37_f n)
noncomputable def g37_K : Sk := (.nd (.fin none none (some g37_m1e) [] .leaf) (.nd (.nd (.fin none none (some g37_m1e) [] .leaf) (.fin none none (some g37_m1e) [] .leaf)) (.nd (.fin none none (some g37_m1e) [] .leaf) (.nd (.fin none (some g37_m2e) (some g37_m1e) [] .leaf) (.nd (.nd (.nd (.fin none (some g37_m4e) none [] .leaf) (.fin none (some g37_m3e) (some g37_m1e) [] .leaf)) .leaf) (.nd (.fin none none (some g37_m1e) [] .leaf) (.fin none none (some g37_m1e) [] .leaf)))))))
theorem g37_top (n : Nat) (s : FState) (cx : Cx β) : FX (g37_G n) n g37_B g37_K s cx = g37_7F n s cx := by kernel_rfl
theorem g37_fit (n : Nat) : Fit Tryd.prog 37 (g37_S n) :=
  fit_of (Γ := Γ0) (l := g37_C n) (n := n) (sk := g37_K) (ts := [(4, none)]) (fn := Tryd.f37) (c := g37_B) (by kernel_rfl) (by kernel_rfl) (by unfold Callable; kernel_rfl) tab_ok ⟨g49_fit n, g50_fit n, g51_fit n, g52_fit n, trivial⟩ follows_mixed (by kernel_rfl) (by kernel_rfl) (Nat.le_of_ble_eq_true (by kernel_rfl)) (by kernel_rfl) (by kernel_rfl)
    (fun d => (g37_top n _ _).trans (Eq.trans (b := g37_7F n (g37_m0 d.1 d.2.1) (finCx (g37_G n) g37_R [(4, none)])) (by kernel_rfl) ((g37_7_fx n _ d.1 d.2.1).trans (by kernel_rfl))))
noncomputable def g21_m0 (v0 v1 v2 : ByteArray) : FState := ⟨tlist [(0, .dat .str v0), (1, .dat .str v1), (2, .dat .str v2)], olist []⟩
noncomputable def g21_m1 (v6 v7 v8 : ByteArray) : FState := ⟨tlist [(6, .dat .str v6), (7, .dat .str v7), (8, .dat .str v8)], olist []⟩
noncomputable def g21_m1e : List NE := [.keep 6, .keep 7, .keep 8]
noncomputable def g21_m2 (v0 v1 v2 v11 v12 v13 : ByteArray) (v14 : Int) : FState := ⟨tlist [(0, .dat .str v0), (1, .dat .str v1), (2, .dat .str v2), (11, .dat .str v11), (12, .dat .str v12), (13, .dat .str v13), (14, .dat (.int .i64) v14)], olist []⟩
noncomputable def g21_m2e : List NE := [.keep 0, .keep 1, .keep 2, .keep 11, .keep 12, .keep 13, .keep 14]
noncomputable def g21_m3 (v11 v12 v13 : ByteArray) : FState := ⟨tlist [(11, .dat .str v11), (12, .dat .str v12), (13, .dat .str v13)], olist []⟩
noncomputable def g21_m3e : List NE := [.keep 11, .keep 12, .keep 13]
noncomputable def g21_C (n : Nat) : List (Nat × Spec) := [(32, g32_S n), (36, g36_S n), (37, g37_S n)]
noncomputable def g21_G (n : Nat) : Ctx := { Γ0 with calls := lkS (g21_C n) }
noncomputable def g21_B : Code := fb Tryd.f21
noncomputable def g21_1 (n : Nat) (kn : ByteArray → ByteArray → ByteArray → ByteArray → ByteArray → ByteArray → Int → Option β) (v0 v1 v2 : ByteArray) : Option β := (g32 n v0).bind fun r1 => (g32 n v1).bind fun r2 => (g36 n r1.1 r2.1).bind fun r3 => bnd (w64 ((v1.size : Int) - r3.1)) (v1.size : Int) (v1.size : Int) <| bnd (0 : Int) (w64 ((v0.size : Int) - r3.1)) (v0.size : Int) <| bnd (0 : Int) (w64 ((v1.size : Int) - r3.1)) (v1.size : Int) <| roomy ((cutS v1 (w64 ((v1.size : Int) - r3.1)) (v1.size : Int)).size + (cutS v1 (0 : Int) (w64 ((v1.size : Int) - r3.1))).size) <| roomy ((cutS v1 (w64 ((v1.size : Int) - r3.1)) (v1.size : Int)).size + v2.size) <| (g37 n (cutS v0 (0 : Int) (w64 ((v0.size : Int) - r3.1))) ((cutS v1 (w64 ((v1.size : Int) - r3.1)) (v1.size : Int)) ++ (cutS v1 (0 : Int) (w64 ((v1.size : Int) - r3.1))))).bind fun r4 => (g37 n ((cutS v1 (w64 ((v1.size : Int) - r3.1)) (v1.size : Int)) ++ (cutS v1 (0 : Int) (w64 ((v1.size : Int) - r3.1)))) ((cutS v1 (w64 ((v1.size : Int) - r3.1)) (v1.size : Int)) ++ v2)).bind fun r5 => kn (cutS v0 (0 : Int) (w64 ((v0.size : Int) - r3.1))) ((cutS v1 (w64 ((v1.size : Int) - r3.1)) (v1.size : Int)) ++ (cutS v1 (0 : Int) (w64 ((v1.size : Int) - r3.1)))) ((cutS v1 (w64 ((v1.size : Int) - r3.1)) (v1.size : Int)) ++ v2) (cutS v0 (0 : Int) (w64 ((v0.size : Int) - r3.1))) ((cutS v1 (w64 ((v1.size : Int) - r3.1)) (v1.size : Int)) ++ (cutS v1 (0 : Int) (w64 ((v1.size : Int) - r3.1)))) ((cutS v1 (w64 ((v1.size : Int) - r3.1)) (v1.size : Int)) ++ v2) (w64 (r4.1 + r5.1))
noncomputable def g21_1F (n : Nat) (s : FState) (cx : Cx β) : Option β := FX (g21_G n) n (nav g21_B [0]) (.fin none none none [] .leaf) s { cx with nrm := fun s => FX (g21_G n) n (nav g21_B [1, 0]) (.fin none none none [] .leaf) s { cx with nrm := fun s => FX (g21_G n) n (nav g21_B [1, 1, 0]) (.fin none none none [] .leaf) s { cx with nrm := fun s => FX (g21_G n) n (nav g21_B [1, 1, 1, 0]) (.fin none none none [] .leaf) s { cx with nrm := fun s => FX (g21_G n) n (nav g21_B [1, 1, 1, 1, 0]) (.fin none (some g21_m2e) none [] .leaf) s cx } } } }
theorem g21_1_fx (n : Nat) (cx : Cx β) (v0 v1 v2 : ByteArray) : g21_1F n (g21_m0 v0 v1 v2) cx = g21_1 n (fun v0 v1 v2 v11 v12 v13 v14 => cx.nrm (g21_m2 v0 v1 v2 v11 v12 v13 v14)) v0 v1 v2 := by kernel_rfl
noncomputable def g21_2 (n : Nat) (kn : ByteArray → ByteArray → ByteArray → ByteArray → ByteArray → ByteArray → Int → Option β) (kx0 : ByteArray → ByteArray → ByteArray → Option β) (v0 v1 v2 v11 v12 v13 : ByteArray) (v14 : Int) : Option β := bif (!strEq v1 (⟨#[]⟩ : ByteArray)) then (bif (!strEq v2 (⟨#[]⟩ : ByteArray)) then (idx (0 : Int) (v1.size : Int) <| idx (0 : Int) (v2.size : Int) <| bif ((byteAt v1 (0 : Int)) == (byteAt v2 (0 : Int))) then (bnd (0 : Int) (1 : Int) (v1.size : Int) <| roomy (v0.size + (cutS v1 (0 : Int) (1 : Int)).size) <| bnd (1 : Int) (v1.size : Int) (v1.size : Int) <| roomy ((cutS v1 (1 : Int) (v1.size : Int)).size + (cutS v1 (0 : Int) (1 : Int)).size) <| bnd (1 : Int) (v2.size : Int) (v2.size : Int) <| (g37 n (v0 ++ (cutS v1 (0 : Int) (1 : Int))) ((cutS v1 (1 : Int) (v1.size : Int)) ++ (cutS v1 (0 : Int) (1 : Int)))).bind fun r1 => (g37 n ((cutS v1 (1 : Int) (v1.size : Int)) ++ (cutS v1 (0 : Int) (1 : Int))) (cutS v2 (1 : Int) (v2.size : Int))).bind fun r2 => bif (decide ((w64 (r1.1 + r2.1)) ≥ v14)) then (kn (v0 ++ (cutS v1 (0 : Int) (1 : Int))) ((cutS v1 (1 : Int) (v1.size : Int)) ++ (cutS v1 (0 : Int) (1 : Int))) (cutS v2 (1 : Int) (v2.size : Int)) (v0 ++ (cutS v1 (0 : Int) (1 : Int))) ((cutS v1 (1 : Int) (v1.size : Int)) ++ (cutS v1 (0 : Int) (1 : Int))) (cutS v2 (1 : Int) (v2.size : Int)) (w64 (r1.1 + r2.1))) else (kn (v0 ++ (cutS v1 (0 : Int) (1 : Int))) ((cutS v1 (1 : Int) (v1.size : Int)) ++ (cutS v1 (0 : Int) (1 : Int))) (cutS v2 (1 : Int) (v2.size : Int)) v11 v12 v13 v14)) else (kx0 v11 v12 v13)) else (kx0 v11 v12 v13)) else (kx0 v11 v12 v13)
noncomputable def g21_2F (n : Nat) (s : FState) (cx : Cx β) : Option β := FX (g21_G n) n (nav g21_B [1, 1, 1, 1, 1, 0, 0, 0, 0, 0]) (.fin none none none [(0, g21_m3e)] .leaf) s { cx with nrm := fun s => FX (g21_G n) n (nav g21_B [1, 1, 1, 1, 1, 0, 0, 0, 0, 1]) (.fin none none none [(0, g21_m3e)] .leaf) s { cx with nrm := fun s => FX (g21_G n) n (nav g21_B [1, 1, 1, 1, 1, 0, 0, 0, 1]) (.fin none (some g21_m2e) none [(0, g21_m3e)] .leaf) s cx } }
theorem g21_2_fx (n : Nat) (cx : Cx β) (v0 v1 v2 v11 v12 v13 : ByteArray) (v14 : Int) : g21_2F n (g21_m2 v0 v1 v2 v11 v12 v13 v14) cx = g21_2 n (fun v0 v1 v2 v11 v12 v13 v14 => cx.nrm (g21_m2 v0 v1 v2 v11 v12 v13 v14)) (fun v11 v12 v13 => cx.ex 0 (g21_m3 v11 v12 v13)) v0 v1 v2 v11 v12 v13 v14 := by kernel_rfl
noncomputable def g21_3L (n : Nat) (kx0 : ByteArray → ByteArray → ByteArray → Option β) : Nat → ByteArray → ByteArray → ByteArray → ByteArray → ByteArray → ByteArray → Int → Option β
  | 0, _, _, _, _, _, _, _ => none
  | m + 1, v0, v1, v2, v11, v12, v13, v14 => g21_2 n (g21_3L n kx0 m) kx0 v0 v1 v2 v11 v12 v13 v14
noncomputable def g21_3 (n : Nat) (kx0 : ByteArray → ByteArray → ByteArray → Option β) (v0 v1 v2 v11 v12 v13 : ByteArray) (v14 : Int) : Option β := g21_3L n kx0 n v0 v1 v2 v11 v12 v13 v14
noncomputable def g21_3F (n : Nat) (s : FState) (cx : Cx β) : Option β := loopN (fun again s => g21_2F n s { cx with nrm := again }) n s
theorem g21_3L_fx (n : Nat) (cx : Cx β) : ∀ (m : Nat) (v0 v1 v2 v11 v12 v13 : ByteArray) (v14 : Int), loopN (fun again s => g21_2F n s { cx with nrm := again }) m (g21_m2 v0 v1 v2 v11 v12 v13 v14) = g21_3L n (fun v11 v12 v13 => cx.ex 0 (g21_m3 v11 v12 v13)) m v0 v1 v2 v11 v12 v13 v14 := by
  intro m
  induction m with
  | zero => intros; rfl
  | succ m ih => intros; simp only [loopN, g21_3L, g21_2_fx, ih]
theorem g21_3_fx (n : Nat) (cx : Cx β) (v0 v1 v2 v11 v12 v13 : ByteArray) (v14 : Int) : g21_3F n (g21_m2 v0 v1 v2 v11 v12 v13 v14) cx = g21_3 n (fun v11 v12 v13 => cx.ex 0 (g21_m3 v11 v12 v13)) v0 v1 v2 v11 v12 v13 v14 := g21_3L_fx n cx n v0 v1 v2 v11 v12 v13 v14
noncomputable def g21_4 (n : Nat) (kn : ByteArray → ByteArray → ByteArray → Option β) (v0 v1 v2 v11 v12 v13 : ByteArray) (v14 : Int) : Option β := g21_3 n kn v0 v1 v2 v11 v12 v13 v14
noncomputable def g21_4F (n : Nat) (s : FState) (cx : Cx β) : Option β := g21_3F n s { cx with ex := fun j s => bif Nat.beq j 0 then cx.nrm s else cx.ex j s }
theorem g21_4_fx (n : Nat) (cx : Cx β) (v0 v1 v2 v11 v12 v13 : ByteArray) (v14 : Int) : g21_4F n (g21_m2 v0 v1 v2 v11 v12 v13 v14) cx = g21_4 n (fun v11 v12 v13 => cx.nrm (g21_m3 v11 v12 v13)) v0 v1 v2 v11 v12 v13 v14 := g21_3_fx n _ v0 v1 v2 v11 v12 v13 v14
noncomputable def g21_5 (n : Nat) (kr : ByteArray → ByteArray → ByteArray → Option β) (v11 v12 v13 : ByteArray) : Option β := kr v11 v12 v13
noncomputable def g21_5F (n : Nat) (s : FState) (cx : Cx β) : Option β := FX (g21_G n) n (nav g21_B [1, 1, 1, 1, 1, 1, 0]) (.fin none none (some g21_m1e) [] .leaf) s { cx with nrm := fun s => FX (g21_G n) n (nav g21_B [1, 1, 1, 1, 1, 1, 1]) (.fin none none (some g21_m1e) [] .leaf) s cx }
theorem g21_5_fx (n : Nat) (cx : Cx β) (v11 v12 v13 : ByteArray) : g21_5F n (g21_m3 v11 v12 v13) cx = g21_5 n (fun v6 v7 v8 => cx.ret (g21_m1 v6 v7 v8)) v11 v12 v13 := by kernel_rfl
noncomputable def g21_6 (n : Nat) (kr : ByteArray → ByteArray → ByteArray → Option β) (v0 v1 v2 : ByteArray) : Option β := g21_1 n (fun v0 v1 v2 v11 v12 v13 v14 => g21_4 n (fun v11 v12 v13 => g21_5 n kr v11 v12 v13) v0 v1 v2 v11 v12 v13 v14) v0 v1 v2
noncomputable def g21_6F (n : Nat) (s : FState) (cx : Cx β) : Option β := g21_1F n s { cx with nrm := fun s => g21_4F n s { cx with nrm := fun s => g21_5F n s cx } }
theorem g21_6_fx (n : Nat) (cx : Cx β) (v0 v1 v2 : ByteArray) : g21_6F n (g21_m0 v0 v1 v2) cx = g21_6 n (fun v6 v7 v8 => cx.ret (g21_m1 v6 v7 v8)) v0 v1 v2 := by simp only [g21_6F, g21_6, g21_1_fx, g21_4_fx, g21_5_fx]
noncomputable def g21 (n : Nat) (v0 v1 v2 : ByteArray) : Option (DenR [.dat .str, .dat .str, .dat .str]) := g21_6 n (fun v6 v7 v8 => some (v6, (v7, (v8, ())))) v0 v1 v2
noncomputable def g21_A : List AK := [.dat .str, .dat .str, .dat .str]
noncomputable def g21_R : List RK := [.dat .str, .dat .str, .dat .str]
noncomputable def g21_f (n : Nat) (d : DenA g21_A) : Option (DenR g21_R) := g21 n d.1 d.2.1 d.2.2.1
noncomputable def g21_S (n : Nat) : Spec := mkSpec g21_A g21_R (g21_f n)
noncomputable def g21_K : Sk := (.nd (.fin none none none [] .leaf) (.nd (.fin none none none [] .leaf) (.nd (.fin none none none [] .leaf) (.nd (.fin none none none [] .leaf) (.nd (.fin none (some g21_m2e) none [] .leaf) (.nd (.nd (.nd (.nd (.nd (.fin none none none [(0, g21_m3e)] .leaf) (.fin none none none [(0, g21_m3e)] .leaf)) (.fin none (some g21_m2e) none [(0, g21_m3e)] .leaf)) .leaf) .leaf) (.nd (.fin none none (some g21_m1e) [] .leaf) (.fin none none (some g21_m1e) [] .leaf))))))))
theorem g21_top (n : Nat) (s : FState) (cx : Cx β) : FX (g21_G n) n g21_B g21_K s cx = g21_6F n s cx := by kernel_rfl
theorem g21_fit (n : Nat) : Fit Tryd.prog 21 (g21_S n) :=
  fit_of (Γ := Γ0) (l := g21_C n) (n := n) (sk := g21_K) (ts := [(6, none), (7, none), (8, none)]) (fn := Tryd.f21) (c := g21_B) (by kernel_rfl) (by kernel_rfl) (by unfold Callable; kernel_rfl) tab_ok ⟨g32_fit n, g36_fit n, g37_fit n, trivial⟩ follows_mixed (by kernel_rfl) (by kernel_rfl) (Nat.le_of_ble_eq_true (by kernel_rfl)) (by kernel_rfl) (by kernel_rfl)
    (fun d => (g21_top n _ _).trans (Eq.trans (b := g21_6F n (g21_m0 d.1 d.2.1 d.2.2.1) (finCx (g21_G n) g21_R [(6, none), (7, none), (8, none)])) (by kernel_rfl) ((g21_6_fx n _ d.1 d.2.1 d.2.2.1).trans (by kernel_rfl))))
noncomputable def g27_m0 : FState := ⟨tlist [], olist []⟩
noncomputable def g27_m1 (p0 : (Int × (Int × (Int × (Nat × (Int × (Int × Nat))))))) : FState := ⟨tlist [(0, .ptr 0 0 0)], olist [(0, .row (.pair (.int .i64) (.pair (.int .i64) (.pair (.int .i64) (.pair (.flt .f64) (.pair (.int .i64) (.pair (.int .i64) (.flt .f64))))))) 70 true [p0])]⟩
noncomputable def g27_m1e : List NE := [.ptr 0 (.pair (.int .i64) (.pair (.int .i64) (.pair (.int .i64) (.pair (.flt .f64) (.pair (.int .i64) (.pair (.int .i64) (.flt .f64))))))) 70 true]
noncomputable def g27_C (n : Nat) : List (Nat × Spec) := []
noncomputable def g27_G (n : Nat) : Ctx := { Γ0 with calls := lkS (g27_C n) }
noncomputable def g27_B : Code := fb Tryd.f27
noncomputable def g27_1 (n : Nat) (kr : (Int × (Int × (Int × (Nat × (Int × (Int × Nat)))))) → Option β) : Option β := kr ((1000000000 : Int), ((4 : Int), ((1000 : Int), ((4602678819172646912 : Nat), ((4 : Int), ((32 : Int), (4602678819172646912 : Nat)))))))
noncomputable def g27_1F (n : Nat) (s : FState) (cx : Cx β) : Option β := FX (g27_G n) n (nav g27_B [0]) (.fin none none (some g27_m1e) [] .leaf) s { cx with nrm := fun s => FX (g27_G n) n (nav g27_B [1, 0]) (.fin none none (some g27_m1e) [] .leaf) s { cx with nrm := fun s => FX (g27_G n) n (nav g27_B [1, 1]) (.fin none none (some g27_m1e) [] .leaf) s cx } }
theorem g27_1_fx (n : Nat) (cx : Cx β) : g27_1F n g27_m0 cx = g27_1 n (fun p0 => cx.ret (g27_m1 p0)) := by kernel_rfl
noncomputable def g27 (n : Nat) : Option (DenR [.ptr (.pair (.int .i64) (.pair (.int .i64) (.pair (.int .i64) (.pair (.flt .f64) (.pair (.int .i64) (.pair (.int .i64) (.flt .f64))))))) 70]) := g27_1 n (fun p0 => some (p0, ()))
noncomputable def g27_A : List AK := []
noncomputable def g27_R : List RK := [.ptr (.pair (.int .i64) (.pair (.int .i64) (.pair (.int .i64) (.pair (.flt .f64) (.pair (.int .i64) (.pair (.int .i64) (.flt .f64))))))) 70]
noncomputable def g27_f (n : Nat) (d : DenA g27_A) : Option (DenR g27_R) := g27 n
noncomputable def g27_S (n : Nat) : Spec := mkSpec g27_A g27_R (g27_f n)
noncomputable def g27_K : Sk := (.nd (.fin none none (some g27_m1e) [] .leaf) (.nd (.fin none none (some g27_m1e) [] .leaf) (.fin none none (some g27_m1e) [] .leaf)))
theorem g27_top (n : Nat) (s : FState) (cx : Cx β) : FX (g27_G n) n g27_B g27_K s cx = g27_1F n s cx := by kernel_rfl
theorem g27_fit (n : Nat) : Fit Tryd.prog 27 (g27_S n) :=
  fit_of (Γ := Γ0) (l := g27_C n) (n := n) (sk := g27_K) (ts := [(0, none)]) (fn := Tryd.f27) (c := g27_B) (by kernel_rfl) (by kernel_rfl) (by unfold Callable; kernel_rfl) tab_ok trivial follows_mixed (by kernel_rfl) (by kernel_rfl) (Nat.le_of_ble_eq_true (by kernel_rfl)) (by kernel_rfl) (by kernel_rfl)
    (fun d => (g27_top n _ _).trans (Eq.trans (b := g27_1F n (g27_m0) (finCx (g27_G n) g27_R [(0, none)])) (by kernel_rfl) ((g27_1_fx n _).trans (by kernel_rfl))))
noncomputable def g30_m0 (v0 : Int) : FState := ⟨tlist [(0, .dat (.int .i64) v0)], olist []⟩
noncomputable def g30_m1 (v2 : Int) : FState := ⟨tlist [(2, .dat (.int .i8) v2)], olist []⟩
noncomputable def g30_m1e : List NE := [.keep 2]
noncomputable def g30_C (n : Nat) : List (Nat × Spec) := []
noncomputable def g30_G (n : Nat) : Ctx := { Γ0 with calls := lkS (g30_C n) }
noncomputable def g30_B : Code := fb Tryd.f30
noncomputable def g30_1 (n : Nat) (kr : Int → Option β) (v0 : Int) : Option β := bif (v0 == (-1 : Int)) then (kr (-1 : Int)) else (bif (v0 == (1 : Int)) then (kr (1 : Int)) else (kr (0 : Int)))
noncomputable def g30_1F (n : Nat) (s : FState) (cx : Cx β) : Option β := FX (g30_G n) n (nav g30_B [0]) (.fin none none (some g30_m1e) [] .leaf) s { cx with nrm := fun s => FX (g30_G n) n (nav g30_B [1, 0, 0]) (.fin none none (some g30_m1e) [] .leaf) s { cx with nrm := fun s => FX (g30_G n) n (nav g30_B [1, 0, 1]) (.fin none none (some g30_m1e) [] .leaf) s { cx with nrm := fun s => FX (g30_G n) n (nav g30_B [1, 1, 0]) (.fin none none (some g30_m1e) [] .leaf) s { cx with nrm := fun s => FX (g30_G n) n (nav g30_B [1, 1, 1]) (.fin none none (some g30_m1e) [] .leaf) s cx } } } }
theorem g30_1_fx (n : Nat) (cx : Cx β) (v0 : Int) : g30_1F n (g30_m0 v0) cx = g30_1 n (fun v2 => cx.ret (g30_m1 v2)) v0 := by kernel_rfl
noncomputable def g30 (n : Nat) (v0 : Int) : Option (DenR [.dat (.int .i8)]) := g30_1 n (fun v2 => some (v2, ())) v0
noncomputable def g30_A : List AK := [.dat (.int .i64)]
noncomputable def g30_R : List RK := [.dat (.int .i8)]
noncomputable def g30_f (n : Nat) (d : DenA g30_A) : Option (DenR g30_R) := g30 n d.1
noncomputable def g30_S (n : Nat) : Spec := mkSpec g30_A g30_R (g30_f n)
noncomputable def g30_K : Sk := (.nd (.fin none none (some g30_m1e) [] .leaf) (.nd (.nd (.fin none none (some g30_m1e) [] .leaf) (.fin none none (some g30_m1e) [] .leaf)) (.nd (.fin none none (some g30_m1e) [] .leaf) (.fin none none (some g30_m1e) [] .leaf))))
theorem g30_top (n : Nat) (s : FState) (cx : Cx β) : FX (g30_G n) n g30_B g30_K s cx = g30_1F n s cx := by kernel_rfl
theorem g30_fit (n : Nat) : Fit Tryd.prog 30 (g30_S n) :=
  fit_of (Γ := Γ0) (l := g30_C n) (n := n) (sk := g30_K) (ts := [(2, none)]) (fn := Tryd.f30) (c := g30_B) (by kernel_rfl) (by kernel_rfl) (by unfold Callable; kernel_rfl) tab_ok trivial follows_mixed (by kernel_rfl) (by kernel_rfl) (Nat.le_of_ble_eq_true (by kernel_rfl)) (by kernel_rfl) (by kernel_rfl)
    (fun d => (g30_top n _ _).trans (Eq.trans (b := g30_1F n (g30_m0 d.1) (finCx (g30_G n) g30_R [(2, none)])) (by kernel_rfl) ((g30_1_fx n _ d.1).trans (by kernel_rfl))))
noncomputable def g29_m0 (x0 : List (Int × ByteArray)) : FState := ⟨tlist [(0, .sl 0 none false)], olist [(0, .row (.pair (.int .i64) .str) 45 false x0)]⟩
noncomputable def g29_m1 (x2 : List (Int × ByteArray)) : FState := ⟨tlist [(2, .sl 2 none false)], olist [(2, .row (.pair (.int .i8) .str) 75 true x2)]⟩
noncomputable def g29_m1e : List NE := [.row 2 (.pair (.int .i8) .str) 75 true]
noncomputable def g29_m2 (x3 x6 : List (Int × ByteArray)) (v7 v8 : Int) : FState := ⟨tlist [(3, .sl 3 none false), (6, .sl 6 none false), (7, .dat (.int .i64) v7), (8, .dat (.int .i64) v8)], olist [(3, .row (.pair (.int .i8) .str) 75 true x3), (6, .row (.pair (.int .i64) .str) 45 false x6)]⟩
noncomputable def g29_m2e : List NE := [.row 3 (.pair (.int .i8) .str) 75 true, .row 6 (.pair (.int .i64) .str) 45 false, .keep 7, .keep 8]
noncomputable def g29_m3 (x3 : List (Int × ByteArray)) : FState := ⟨tlist [(3, .sl 3 none false)], olist [(3, .row (.pair (.int .i8) .str) 75 true x3)]⟩
noncomputable def g29_m3e : List NE := [.row 3 (.pair (.int .i8) .str) 75 true]
noncomputable def g29_C (n : Nat) : List (Nat × Spec) := [(30, g30_S n)]
noncomputable def g29_G (n : Nat) : Ctx := { Γ0 with calls := lkS (g29_C n) }
noncomputable def g29_B : Code := fb Tryd.f29
noncomputable def g29_1 (n : Nat) (kn : List (Int × ByteArray) → List (Int × ByteArray) → Int → Int → Option β) (x0 : List (Int × ByteArray)) : Option β := kn [] x0 (x0.length : Int) (0 : Int)
noncomputable def g29_1F (n : Nat) (s : FState) (cx : Cx β) : Option β := FX (g29_G n) n (nav g29_B [0]) (.fin none none none [] .leaf) s { cx with nrm := fun s => FX (g29_G n) n (nav g29_B [1, 0]) (.fin none none none [] .leaf) s { cx with nrm := fun s => FX (g29_G n) n (nav g29_B [1, 1, 0, 0]) (.fin none (some g29_m2e) none [] .leaf) s cx } }
theorem g29_1_fx (n : Nat) (cx : Cx β) (x0 : List (Int × ByteArray)) : g29_1F n (g29_m0 x0) cx = g29_1 n (fun x3 x6 v7 v8 => cx.nrm (g29_m2 x3 x6 v7 v8)) x0 := by kernel_rfl
noncomputable def g29_2 (n : Nat) (kn : List (Int × ByteArray) → List (Int × ByteArray) → Int → Int → Option β) (kx0 : List (Int × ByteArray) → Option β) (x3 x6 : List (Int × ByteArray)) (v7 v8 : Int) : Option β := bif (decide (v8 < v7)) then (idx v8 (x6.length : Int) <| (g30 n ((rd [(rd x6 v8 ((0 : Int), (⟨#[]⟩ : ByteArray)))] (0 : Int) ((0 : Int), (⟨#[]⟩ : ByteArray))).1)).bind fun r1 => roomy (x3.length + [(r1.1, (rd [(rd x6 v8 ((0 : Int), (⟨#[]⟩ : ByteArray)))] (0 : Int) ((0 : Int), (⟨#[]⟩ : ByteArray))).2)].length) <| kn (x3 ++ [(r1.1, (rd [(rd x6 v8 ((0 : Int), (⟨#[]⟩ : ByteArray)))] (0 : Int) ((0 : Int), (⟨#[]⟩ : ByteArray))).2)]) x6 v7 (w64 (v8 + (1 : Int)))) else (kx0 x3)
noncomputable def g29_2F (n : Nat) (s : FState) (cx : Cx β) : Option β := FX (g29_G n) n (nav g29_B [1, 1, 0, 1, 0, 0, 0]) (.fin none none none [(0, g29_m3e)] .leaf) s { cx with nrm := fun s => FX (g29_G n) n (nav g29_B [1, 1, 0, 1, 0, 0, 1, 0]) (.fin none none none [(0, g29_m3e)] .leaf) s { cx with nrm := fun s => FX (g29_G n) n (nav g29_B [1, 1, 0, 1, 0, 0, 1, 1, 0]) (.fin none none none [(0, g29_m3e)] .leaf) s { cx with nrm := fun s => FX (g29_G n) n (nav g29_B [1, 1, 0, 1, 0, 0, 1, 1, 1]) (.fin none (some g29_m2e) none [(0, g29_m3e)] .leaf) s cx } } }
theorem g29_2_fx (n : Nat) (cx : Cx β) (x3 x6 : List (Int × ByteArray)) (v7 v8 : Int) : g29_2F n (g29_m2 x3 x6 v7 v8) cx = g29_2 n (fun x3 x6 v7 v8 => cx.nrm (g29_m2 x3 x6 v7 v8)) (fun x3 => cx.ex 0 (g29_m3 x3)) x3 x6 v7 v8 := by kernel_rfl
noncomputable def g29_3L (n : Nat) (kx0 : List (Int × ByteArray) → Option β) : Nat → List (Int × ByteArray) → List (Int × ByteArray) → Int → Int → Option β
  | 0, _, _, _, _ => none
  | m + 1, x3, x6, v7, v8 => g29_2 n (g29_3L n kx0 m) kx0 x3 x6 v7 v8
noncomputable def g29_3 (n : Nat) (kx0 : List (Int × ByteArray) → Option β) (x3 x6 : List (Int × ByteArray)) (v7 v8 : Int) : Option β := g29_3L n kx0 n x3 x6 v7 v8
noncomputable def g29_3F (n : Nat) (s : FState) (cx : Cx β) : Option β := loopN (fun again s => g29_2F n s { cx with nrm := again }) n s
theorem g29_3L_fx (n : Nat) (cx : Cx β) : ∀ (m : Nat) (x3 x6 : List (Int × ByteArray)) (v7 v8 : Int), loopN (fun again s => g29_2F n s { cx with nrm := again }) m (g29_m2 x3 x6 v7 v8) = g29_3L n (fun x3 => cx.ex 0 (g29_m3 x3)) m x3 x6 v7 v8 := by
  intro m
  induction m with
  | zero => intros; rfl
  | succ m ih => intros; simp only [loopN, g29_3L, g29_2_fx, ih]
theorem g29_3_fx (n : Nat) (cx : Cx β) (x3 x6 : List (Int × ByteArray)) (v7 v8 : Int) : g29_3F n (g29_m2 x3 x6 v7 v8) cx = g29_3 n (fun x3 => cx.ex 0 (g29_m3 x3)) x3 x6 v7 v8 := g29_3L_fx n cx n x3 x6 v7 v8
noncomputable def g29_4 (n : Nat) (kn : List (Int × ByteArray) → Option β) (x3 x6 : List (Int × ByteArray)) (v7 v8 : Int) : Option β := g29_3 n kn x3 x6 v7 v8
noncomputable def g29_4F (n : Nat) (s : FState) (cx : Cx β) : Option β := g29_3F n s { cx with ex := fun j s => bif Nat.beq j 0 then cx.nrm s else cx.ex j s }
theorem g29_4_fx (n : Nat) (cx : Cx β) (x3 x6 : List (Int × ByteArray)) (v7 v8 : Int) : g29_4F n (g29_m2 x3 x6 v7 v8) cx = g29_4 n (fun x3 => cx.nrm (g29_m3 x3)) x3 x6 v7 v8 := g29_3_fx n _ x3 x6 v7 v8
noncomputable def g29_5 (n : Nat) (kr : List (Int × ByteArray) → Option β) (x3 : List (Int × ByteArray)) : Option β := kr x3
noncomputable def g29_5F (n : Nat) (s : FState) (cx : Cx β) : Option β := FX (g29_G n) n (nav g29_B [1, 1, 1, 0]) (.fin none none (some g29_m1e) [] .leaf) s { cx with nrm := fun s => FX (g29_G n) n (nav g29_B [1, 1, 1, 1]) (.fin none none (some g29_m1e) [] .leaf) s cx }
theorem g29_5_fx (n : Nat) (cx : Cx β) (x3 : List (Int × ByteArray)) : g29_5F n (g29_m3 x3) cx = g29_5 n (fun x2 => cx.ret (g29_m1 x2)) x3 := by kernel_rfl
noncomputable def g29_6 (n : Nat) (kr : List (Int × ByteArray) → Option β) (x0 : List (Int × ByteArray)) : Option β := g29_1 n (fun x3 x6 v7 v8 => g29_4 n (fun x3 => g29_5 n kr x3) x3 x6 v7 v8) x0
noncomputable def g29_6F (n : Nat) (s : FState) (cx : Cx β) : Option β := g29_1F n s { cx with nrm := fun s => g29_4F n s { cx with nrm := fun s => g29_5F n s cx } }
theorem g29_6_fx (n : Nat) (cx : Cx β) (x0 : List (Int × ByteArray)) : g29_6F n (g29_m0 x0) cx = g29_6 n (fun x2 => cx.ret (g29_m1 x2)) x0 := by simp only [g29_6F, g29_6, g29_1_fx, g29_4_fx, g29_5_fx]
noncomputable def g29 (n : Nat) (x0 : List (Int × ByteArray)) : Option (DenR [.rw (.pair (.int .i8) .str) 75]) := g29_6 n (fun x2 => some (x2, ())) x0
noncomputable def g29_A : List AK := [.ro (.pair (.int .i64) .str) 45]
noncomputable def g29_R : List RK := [.rw (.pair (.int .i8) .str) 75]
noncomputable def g29_f (n : Nat) (d : DenA g29_A) : Option (DenR g29_R) := g29 n d.1
noncomputable def g29_S (n : Nat) : Spec := mkSpec g29_A g29_R (g29_f n)
noncomputable def g29_K : Sk := (.nd (.fin none none none [] .leaf) (.nd (.fin none none none [] .leaf) (.nd (.nd (.fin none (some g29_m2e) none [] .leaf) (.nd (.nd (.nd (.fin none none none [(0, g29_m3e)] .leaf) (.nd (.fin none none none [(0, g29_m3e)] .leaf) (.nd (.fin none none none [(0, g29_m3e)] .leaf) (.fin none (some g29_m2e) none [(0, g29_m3e)] .leaf)))) .leaf) .leaf)) (.nd (.fin none none (some g29_m1e) [] .leaf) (.fin none none (some g29_m1e) [] .leaf)))))
theorem g29_top (n : Nat) (s : FState) (cx : Cx β) : FX (g29_G n) n g29_B g29_K s cx = g29_6F n s cx := by kernel_rfl
theorem g29_fit (n : Nat) : Fit Tryd.prog 29 (g29_S n) :=
  fit_of (Γ := Γ0) (l := g29_C n) (n := n) (sk := g29_K) (ts := [(2, none)]) (fn := Tryd.f29) (c := g29_B) (by kernel_rfl) (by kernel_rfl) (by unfold Callable; kernel_rfl) tab_ok ⟨g30_fit n, trivial⟩ follows_mixed (by kernel_rfl) (by kernel_rfl) (Nat.le_of_ble_eq_true (by kernel_rfl)) (by kernel_rfl) (by kernel_rfl)
    (fun d => (g29_top n _ _).trans (Eq.trans (b := g29_6F n (g29_m0 d.1) (finCx (g29_G n) g29_R [(2, none)])) (by kernel_rfl) ((g29_6_fx n _ d.1).trans (by kernel_rfl))))
noncomputable def g74_m0 (x0 x1 : List Int) : FState := ⟨tlist [(0, .sl 0 none false), (1, .sl 1 none false)], olist [(0, .row (.int .i32) 21 false x0), (1, .row (.int .i32) 21 false x1)]⟩
noncomputable def g74_m1 (v4 : Int) : FState := ⟨tlist [(4, .dat (.int .i64) v4)], olist []⟩
noncomputable def g74_m1e : List NE := [.keep 4]
noncomputable def g74_m2 (x0 x1 : List Int) (v5 v6 v7 : Int) : FState := ⟨tlist [(0, .sl 0 none false), (1, .sl 1 none false), (5, .dat (.int .i64) v5), (6, .dat (.int .i64) v6), (7, .dat (.int .i64) v7)], olist [(0, .row (.int .i32) 21 false x0), (1, .row (.int .i32) 21 false x1)]⟩
noncomputable def g74_m2e : List NE := [.row 0 (.int .i32) 21 false, .row 1 (.int .i32) 21 false, .keep 5, .keep 6, .keep 7]
noncomputable def g74_C (n : Nat) : List (Nat × Spec) := []
noncomputable def g74_G (n : Nat) : Ctx := { Γ0 with calls := lkS (g74_C n) }
noncomputable def g74_B : Code := fb Tryd.f74
noncomputable def g74_1 (n : Nat) (kn : List Int → List Int → Int → Int → Int → Option β) (x0 x1 : List Int) : Option β := kn x0 x1 (x0.length : Int) (x1.length : Int) (0 : Int)
noncomputable def g74_1F (n : Nat) (s : FState) (cx : Cx β) : Option β := FX (g74_G n) n (nav g74_B [0]) (.fin none none none [] .leaf) s { cx with nrm := fun s => FX (g74_G n) n (nav g74_B [1, 0]) (.fin none none none [] .leaf) s { cx with nrm := fun s => FX (g74_G n) n (nav g74_B [1, 1, 0]) (.fin none none none [] .leaf) s { cx with nrm := fun s => FX (g74_G n) n (nav g74_B [1, 1, 1, 0]) (.fin none (some g74_m2e) none [] .leaf) s cx } } }
theorem g74_1_fx (n : Nat) (cx : Cx β) (x0 x1 : List Int) : g74_1F n (g74_m0 x0 x1) cx = g74_1 n (fun x0 x1 v5 v6 v7 => cx.nrm (g74_m2 x0 x1 v5 v6 v7)) x0 x1 := by kernel_rfl
noncomputable def g74_2 (n : Nat) (kn : List Int → List Int → Int → Int → Int → Option β) (kr : Int → Option β) (x0 x1 : List Int) (v5 v6 v7 : Int) : Option β := bif (decide ((w64 (v5 - (1 : Int))) < (0 : Int))) then (kr v7) else (bif (decide ((w64 (v6 - (1 : Int))) < (0 : Int))) then (kr v7) else (idx (w64 (v5 - (1 : Int))) (x0.length : Int) <| idx (w64 (v6 - (1 : Int))) (x1.length : Int) <| bif ((rd x0 (w64 (v5 - (1 : Int))) (0 : Int)) != (rd x1 (w64 (v6 - (1 : Int))) (0 : Int))) then (kr v7) else (kn x0 x1 (w64 (v5 - (1 : Int))) (w64 (v6 - (1 : Int))) (w64 (v7 + (1 : Int))))))
noncomputable def g74_2F (n : Nat) (s : FState) (cx : Cx β) : Option β := FX (g74_G n) n (nav g74_B [1, 1, 1, 1, 0, 0, 0]) (.fin none none (some g74_m1e) [] .leaf) s { cx with nrm := fun s => FX (g74_G n) n (nav g74_B [1, 1, 1, 1, 0, 0, 1]) (.fin none (some g74_m2e) (some g74_m1e) [] .leaf) s cx }
theorem g74_2_fx (n : Nat) (cx : Cx β) (x0 x1 : List Int) (v5 v6 v7 : Int) : g74_2F n (g74_m2 x0 x1 v5 v6 v7) cx = g74_2 n (fun x0 x1 v5 v6 v7 => cx.nrm (g74_m2 x0 x1 v5 v6 v7)) (fun v4 => cx.ret (g74_m1 v4)) x0 x1 v5 v6 v7 := by kernel_rfl
noncomputable def g74_3L (n : Nat) (kr : Int → Option β) : Nat → List Int → List Int → Int → Int → Int → Option β
  | 0, _, _, _, _, _ => none
  | m + 1, x0, x1, v5, v6, v7 => g74_2 n (g74_3L n kr m) kr x0 x1 v5 v6 v7
noncomputable def g74_3 (n : Nat) (kr : Int → Option β) (x0 x1 : List Int) (v5 v6 v7 : Int) : Option β := g74_3L n kr n x0 x1 v5 v6 v7
noncomputable def g74_3F (n : Nat) (s : FState) (cx : Cx β) : Option β := loopN (fun again s => g74_2F n s { cx with nrm := again }) n s
theorem g74_3L_fx (n : Nat) (cx : Cx β) : ∀ (m : Nat) (x0 x1 : List Int) (v5 v6 v7 : Int), loopN (fun again s => g74_2F n s { cx with nrm := again }) m (g74_m2 x0 x1 v5 v6 v7) = g74_3L n (fun v4 => cx.ret (g74_m1 v4)) m x0 x1 v5 v6 v7 := by
  intro m
  induction m with
  | zero => intros; rfl
  | succ m ih => intros; simp only [loopN, g74_3L, g74_2_fx, ih]
theorem g74_3_fx (n : Nat) (cx : Cx β) (x0 x1 : List Int) (v5 v6 v7 : Int) : g74_3F n (g74_m2 x0 x1 v5 v6 v7) cx = g74_3 n (fun v4 => cx.ret (g74_m1 v4)) x0 x1 v5 v6 v7 := g74_3L_fx n cx n x0 x1 v5 v6 v7
noncomputable def g74_4 (n : Nat) (kr : Int → Option β) (x0 x1 : List Int) (v5 v6 v7 : Int) : Option β := g74_3 n kr x0 x1 v5 v6 v7
noncomputable def g74_4F (n : Nat) (s : FState) (cx : Cx β) : Option β := g74_3F n s { cx with ex := fun j s => bif Nat.beq j 0 then cx.nrm s else cx.ex j s }
theorem g74_4_fx (n : Nat) (cx : Cx β) (x0 x1 : List Int) (v5 v6 v7 : Int) : g74_4F n (g74_m2 x0 x1 v5 v6 v7) cx = g74_4 n (fun v4 => cx.ret (g74_m1 v4)) x0 x1 v5 v6 v7 := g74_3_fx n _ x0 x1 v5 v6 v7
noncomputable def g74_5 (n : Nat) (kr : Int → Option β) (x0 x1 : List Int) : Option β := g74_1 n (fun x0 x1 v5 v6 v7 => g74_4 n kr x0 x1 v5 v6 v7) x0 x1
noncomputable def g74_5F (n : Nat) (s : FState) (cx : Cx β) : Option β := g74_1F n s { cx with nrm := fun s => g74_4F n s cx }
theorem g74_5_fx (n : Nat) (cx : Cx β) (x0 x1 : List Int) : g74_5F n (g74_m0 x0 x1) cx = g74_5 n (fun v4 => cx.ret (g74_m1 v4)) x0 x1 := by simp only [g74_5F, g74_5, g74_1_fx, g74_4_fx]
noncomputable def g74 (n : Nat) (x0 x1 : List Int) : Option (DenR [.dat (.int .i64)]) := g74_5 n (fun v4 => some (v4, ())) x0 x1
noncomputable def g74_A : List AK := [.ro (.int .i32) 21, .ro (.int .i32) 21]
noncomputable def g74_R : List RK := [.dat (.int .i64)]
noncomputable def g74_f (n : Nat) (d : DenA g74_A) : Option (DenR g74_R) := g74 n d.1 d.2.1
noncomputable def g74_S (n : Nat) : Spec := mkSpec g74_A g74_R (g74_f n)
noncomputable def g74_K : Sk := (.nd (.fin none none none [] .leaf) (.nd (.fin none none none [] .leaf) (.nd (.fin none none none [] .leaf) (.nd (.fin none (some g74_m2e) none [] .leaf) (.nd (.nd (.nd (.fin none none (some g74_m1e) [] .leaf) (.fin none (some g74_m2e) (some g74_m1e) [] .leaf)) .leaf) .leaf)))))
theorem g74_top (n : Nat) (s : FState) (cx : Cx β) : FX (g74_G n) n g74_B g74_K s cx = g74_5F n s cx := by kernel_rfl
theorem g74_fit (n : Nat) : Fit Tryd.prog 74 (g74_S n) :=
  fit_of (Γ := Γ0) (l := g74_C n) (n := n) (sk := g74_K) (ts := [(4, none)]) (fn := Tryd.f74) (c := g74_B) (by kernel_rfl) (by kernel_rfl) (by unfold Callable; kernel_rfl) tab_ok trivial follows_mixed (by kernel_rfl) (by kernel_rfl) (Nat.le_of_ble_eq_true (by kernel_rfl)) (by kernel_rfl) (by kernel_rfl)
    (fun d => (g74_top n _ _).trans (Eq.trans (b := g74_5F n (g74_m0 d.1 d.2.1) (finCx (g74_G n) g74_R [(4, none)])) (by kernel_rfl) ((g74_5_fx n _ d.1 d.2.1).trans (by kernel_rfl))))
noncomputable def g63_m0 (p0 : (Int × (Int × (Int × (Nat × (Int × (Int × Nat))))))) (v1 v2 : ByteArray) : FState := ⟨tlist [(0, .ptr 0 0 0), (1, .dat .str v1), (2, .dat .str v2)], olist [(0, .row (.pair (.int .i64) (.pair (.int .i64) (.pair (.int .i64) (.pair (.flt .f64) (.pair (.int .i64) (.pair (.int .i64) (.flt .f64))))))) 70 false [p0])]⟩
noncomputable def g63_m1 (v6 : Int) : FState := ⟨tlist [(6, .dat (.int .i64) v6)], olist []⟩
noncomputable def g63_m1e : List NE := [.keep 6]
noncomputable def g63_C (n : Nat) : List (Nat × Spec) := [(74, g74_S n)]
noncomputable def g63_G (n : Nat) : Ctx := { Γ0 with calls := lkS (g63_C n) }
noncomputable def g63_B : Code := fb Tryd.f63
noncomputable def g63_1 (n : Nat) (kr : Int → Option β) (p0 : (Int × (Int × (Int × (Nat × (Int × (Int × Nat))))))) (v1 v2 : ByteArray) : Option β := room46 v1 <| room46 v2 <| (g74 n (runesOf v1) (runesOf v2)).bind fun r1 => kr r1.1
noncomputable def g63_1F (n : Nat) (s : FState) (cx : Cx β) : Option β := FX (g63_G n) n (nav g63_B [0]) (.fin none none (some g63_m1e) [] .leaf) s { cx with nrm := fun s => FX (g63_G n) n (nav g63_B [1, 0]) (.fin none none (some g63_m1e) [] .leaf) s { cx with nrm := fun s => FX (g63_G n) n (nav g63_B [1, 1]) (.fin none none (some g63_m1e) [] .leaf) s cx } }
theorem g63_1_fx (n : Nat) (cx : Cx β) (p0 : (Int × (Int × (Int × (Nat × (Int × (Int × Nat))))))) (v1 v2 : ByteArray) : g63_1F n (g63_m0 p0 v1 v2) cx = g63_1 n (fun v6 => cx.ret (g63_m1 v6)) p0 v1 v2 := by kernel_rfl
noncomputable def g63 (n : Nat) (p0 : (Int × (Int × (Int × (Nat × (Int × (Int × Nat))))))) (v1 v2 : ByteArray) : Option (DenR [.dat (.int .i64)]) := g63_1 n (fun v6 => some (v6, ())) p0 v1 v2
noncomputable def g63_A : List AK := [.pro (.pair (.int .i64) (.pair (.int .i64) (.pair (.int .i64) (.pair (.flt .f64) (.pair (.int .i64) (.pair (.int .i64) (.flt .f64))))))) 70, .dat .str, .dat .str]
noncomputable def g63_R : List RK := [.dat (.int .i64)]
noncomputable def g63_f (n : Nat) (d : DenA g63_A) : Option (DenR g63_R) := g63 n d.1 d.2.1 d.2.2.1
noncomputable def g63_S (n : Nat) : Spec := mkSpec g63_A g63_R (g63_f n)
noncomputable def g63_K : Sk := (.nd (.fin none none (some g63_m1e) [] .leaf) (.nd (.fin none none (some g63_m1e) [] .leaf) (.fin none none (some g63_m1e) [] .leaf)))
theorem g63_top (n : Nat) (s : FState) (cx : Cx β) : FX (g63_G n) n g63_B g63_K s cx = g63_1F n s cx := by kernel_rfl
theorem g63_fit (n : Nat) : Fit Tryd.prog 63 (g63_S n) :=
  fit_of (Γ := Γ0) (l := g63_C n) (n := n) (sk := g63_K) (ts := [(6, none)]) (fn := Tryd.f63) (c := g63_B) (by kernel_rfl) (by kernel_rfl) (by unfold Callable; kernel_rfl) tab_ok ⟨g74_fit n, trivial⟩ follows_mixed (by kernel_rfl) (by kernel_rfl) (Nat.le_of_ble_eq_true (by kernel_rfl)) (by kernel_rfl) (by kernel_rfl)
    (fun d => (g63_top n _ _).trans (Eq.trans (b := g63_1F n (g63_m0 d.1 d.2.1 d.2.2.1) (finCx (g63_G n) g63_R [(6, none)])) (by kernel_rfl) ((g63_1_fx n _ d.1 d.2.1 d.2.2.1).trans (by kernel_rfl))))
noncomputable def g75_A : List AK := [.dat .str]
noncomputable def g75_R : List RK := [.dat (.int .i32), .dat (.int .i64)]
noncomputable def g75 (n : Nat) (v0 : ByteArray) : Option (DenR [.dat (.int .i32), .dat (.int .i64)]) := if v0.size ≤ 9223372036854775807 then some (((Lib.decodeLastL v0.data.toList).1 : Int), (((Lib.decodeLastL v0.data.toList).2 : Int), ())) else none
noncomputable def g75_f (n : Nat) (d : DenA g75_A) : Option (DenR g75_R) := g75 n d.1
noncomputable def g75_S (n : Nat) : Spec := mkSpec g75_A g75_R (g75_f n)
theorem g75_fit (n : Nat) : Fit Tryd.prog 75 (g75_S n) := fit_flat (by unfold Callable; kernel_rfl) rfl fun d x w vs hG ha hx => by
  obtain ⟨v, vs', o1, o2, rfl, _, ⟨_, cs, h1, h2⟩, h3, _⟩ := ha
  obtain ⟨s, u⟩ := d
  subst h3
  have h1 : cs = [Value.string s] := h1
  subst h1
  simp [K.isPair] at h2
  subst h2
  obtain ⟨hs, hx⟩ := if_inv hx
  cases hx
  exact (Tryd.utf8_DecodeLastRuneInString s w hs (tabs_of hG)).mono fun e w' ⟨he, hb⟩ => ⟨[.int .i32 (Lib.decodeLastL s.data.toList).1, .int .i64 (Lib.decodeLastL s.data.toList).2], he, ⟨_, _, [], [], rfl, rfl, ⟨rfl, _, rfl, rfl⟩, ⟨_, _, [], [], rfl, rfl, ⟨rfl, _, rfl, rfl⟩, rfl, rfl⟩⟩, hb⟩
noncomputable def g65_A : List AK := [.dat .str]
noncomputable def g65_R : List RK := [.dat (.int .i32), .dat (.int .i64)]
noncomputable def g65 (n : Nat) (v0 : ByteArray) : Option (DenR [.dat (.int .i32), .dat (.int .i64)]) := some (((Lib.decodeGo v0).1 : Int), (((Lib.decodeGo v0).2 : Int), ()))
noncomputable def g65_f (n : Nat) (d : DenA g65_A) : Option (DenR g65_R) := g65 n d.1
noncomputable def g65_S (n : Nat) : Spec := mkSpec g65_A g65_R (g65_f n)
theorem g65_fit (n : Nat) : Fit Tryd.prog 65 (g65_S n) := fit_flat (by unfold Callable; kernel_rfl) rfl fun d x w vs hG ha hx => by
  obtain ⟨v, vs', o1, o2, rfl, _, ⟨_, cs, h1, h2⟩, h3, _⟩ := ha
  obtain ⟨s, u⟩ := d
  subst h3
  have h1 : cs = [Value.string s] := h1
  subst h1
  simp [K.isPair] at h2
  subst h2
  cases hx
  exact (Tryd.utf8_DecodeRuneInString s w (tabs_of hG)).mono fun e w' ⟨he, hb⟩ => ⟨[.int .i32 (Lib.decodeGo s).1, .int .i64 (Lib.decodeGo s).2], he, ⟨_, _, [], [], rfl, rfl, ⟨rfl, _, rfl, rfl⟩, ⟨_, _, [], [], rfl, rfl, ⟨rfl, _, rfl, rfl⟩, rfl, rfl⟩⟩, hb⟩
noncomputable def g76_m0 (v0 : Int) : FState := ⟨tlist [(0, .dat (.int .i32) v0)], olist []⟩
noncomputable def g76_m1 (v2 : Bool) : FState := ⟨tlist [(2, .dat .bool v2)], olist []⟩
noncomputable def g76_m1e : List NE := [.keep 2]
noncomputable def g76_C (n : Nat) : List (Nat × Spec) := []
noncomputable def g76_G (n : Nat) : Ctx := { Γ0 with calls := lkS (g76_C n) }
noncomputable def g76_B : Code := fb Tryd.f76
noncomputable def g76_1 (n : Nat) (kr : Bool → Option β) (v0 : Int) : Option β := bif (decide ((97 : Int) ≤ v0)) then (bif (decide (v0 ≤ (122 : Int))) then (kr false) else (bif (decide ((65 : Int) ≤ v0)) then (bif (decide (v0 ≤ (90 : Int))) then (kr false) else (bif (decide ((48 : Int) ≤ v0)) then (kr (!(decide (v0 ≤ (57 : Int))))) else (kr true))) else (bif (decide ((48 : Int) ≤ v0)) then (kr (!(decide (v0 ≤ (57 : Int))))) else (kr true)))) else (bif (decide ((65 : Int) ≤ v0)) then (bif (decide (v0 ≤ (90 : Int))) then (kr false) else (bif (decide ((48 : Int) ≤ v0)) then (kr (!(decide (v0 ≤ (57 : Int))))) else (kr true))) else (bif (decide ((48 : Int) ≤ v0)) then (kr (!(decide (v0 ≤ (57 : Int))))) else (kr true)))
noncomputable def g76_1F (n : Nat) (s : FState) (cx : Cx β) : Option β := FX (g76_G n) n (nav g76_B [0]) (.fin none none (some g76_m1e) [] .leaf) s { cx with nrm := fun s => FX (g76_G n) n (nav g76_B [1, 0]) (.fin none none (some g76_m1e) [] .leaf) s { cx with nrm := fun s => FX (g76_G n) n (nav g76_B [1, 1]) (.fin none none (some g76_m1e) [] .leaf) s cx } }
theorem g76_1_fx (n : Nat) (cx : Cx β) (v0 : Int) : g76_1F n (g76_m0 v0) cx = g76_1 n (fun v2 => cx.ret (g76_m1 v2)) v0 := by kernel_rfl
noncomputable def g76 (n : Nat) (v0 : Int) : Option (DenR [.dat .bool]) := g76_1 n (fun v2 => some (v2, ())) v0
noncomputable def g76_A : List AK := [.dat (.int .i32)]
noncomputable def g76_R : List RK := [.dat .bool]
noncomputable def g76_f (n : Nat) (d : DenA g76_A) : Option (DenR g76_R) := g76 n d.1
noncomputable def g76_S (n : Nat) : Spec := mkSpec g76_A g76_R (g76_f n)
noncomputable def g76_K : Sk := (.nd (.fin none none (some g76_m1e) [] .leaf) (.nd (.fin none none (some g76_m1e) [] .leaf) (.fin none none (some g76_m1e) [] .leaf)))
theorem g76_top (n : Nat) (s : FState) (cx : Cx β) : FX (g76_G n) n g76_B g76_K s cx = g76_1F n s cx := by kernel_rfl
theorem g76_fit (n : Nat) : Fit Tryd.prog 76 (g76_S n) :=
  fit_of (Γ := Γ0) (l := g76_C n) (n := n) (sk := g76_K) (ts := [(2, none)]) (fn := Tryd.f76) (c := g76_B) (by kernel_rfl) (by kernel_rfl) (by unfold Callable; kernel_rfl) tab_ok trivial follows_mixed (by kernel_rfl) (by kernel_rfl) (Nat.le_of_ble_eq_true (by kernel_rfl)) (by kernel_rfl) (by kernel_rfl)
    (fun d => (g76_top n _ _).trans (Eq.trans (b := g76_1F n (g76_m0 d.1) (finCx (g76_G n) g76_R [(2, none)])) (by kernel_rfl) ((g76_1_fx n _ d.1).trans (by kernel_rfl))))
noncomputable def g77_m0 (v0 : Int) : FState := ⟨tlist [(0, .dat (.int .i32) v0)], olist []⟩
noncomputable def g77_m1 (v2 : Bool) : FState := ⟨tlist [(2, .dat .bool v2)], olist []⟩
noncomputable def g77_m1e : List NE := [.keep 2]
noncomputable def g77_C (n : Nat) : List (Nat × Spec) := []
noncomputable def g77_G (n : Nat) : Ctx := { Γ0 with calls := lkS (g77_C n) }
noncomputable def g77_B : Code := fb Tryd.f77
noncomputable def g77_1 (n : Nat) (kr : Bool → Option β) (v0 : Int) : Option β := bif (v0 == (9 : Int)) then (kr true) else (bif (v0 == (10 : Int)) then (kr true) else (bif (v0 == (12 : Int)) then (kr true) else (bif (v0 == (13 : Int)) then (kr true) else (kr (v0 == (32 : Int))))))
noncomputable def g77_1F (n : Nat) (s : FState) (cx : Cx β) : Option β := FX (g77_G n) n (nav g77_B [0]) (.fin none none (some g77_m1e) [] .leaf) s { cx with nrm := fun s => FX (g77_G n) n (nav g77_B [1, 0]) (.fin none none (some g77_m1e) [] .leaf) s { cx with nrm := fun s => FX (g77_G n) n (nav g77_B [1, 1]) (.fin none none (some g77_m1e) [] .leaf) s cx } }
theorem g77_1_fx (n : Nat) (cx : Cx β) (v0 : Int) : g77_1F n (g77_m0 v0) cx = g77_1 n (fun v2 => cx.ret (g77_m1 v2)) v0 := by kernel_rfl
noncomputable def g77 (n : Nat) (v0 : Int) : Option (DenR [.dat .bool]) := g77_1 n (fun v2 => some (v2, ())) v0
noncomputable def g77_A : List AK := [.dat (.int .i32)]
noncomputable def g77_R : List RK := [.dat .bool]
noncomputable def g77_f (n : Nat) (d : DenA g77_A) : Option (DenR g77_R) := g77 n d.1
noncomputable def g77_S (n : Nat) : Spec := mkSpec g77_A g77_R (g77_f n)
noncomputable def g77_K : Sk := (.nd (.fin none none (some g77_m1e) [] .leaf) (.nd (.fin none none (some g77_m1e) [] .leaf) (.fin none none (some g77_m1e) [] .leaf)))
theorem g77_top (n : Nat) (s : FState) (cx : Cx β) : FX (g77_G n) n g77_B g77_K s cx = g77_1F n s cx := by kernel_rfl
theorem g77_fit (n : Nat) : Fit Tryd.prog 77 (g77_S n) :=
  fit_of (Γ := Γ0) (l := g77_C n) (n := n) (sk := g77_K) (ts := [(2, none)]) (fn := Tryd.f77) (c := g77_B) (by kernel_rfl) (by kernel_rfl) (by unfold Callable; kernel_rfl) tab_ok trivial follows_mixed (by kernel_rfl) (by kernel_rfl) (Nat.le_of_ble_eq_true (by kernel_rfl)) (by kernel_rfl) (by kernel_rfl)
    (fun d => (g77_top n _ _).trans (Eq.trans (b := g77_1F n (g77_m0 d.1) (finCx (g77_G n) g77_R [(2, none)])) (by kernel_rfl) ((g77_1_fx n _ d.1).trans (by kernel_rfl))))
noncomputable def g78_m0 (v0 : Int) : FState := ⟨tlist [(0, .dat (.int .i32) v0)], olist []⟩
noncomputable def g78_m1 (v2 : Bool) : FState := ⟨tlist [(2, .dat .bool v2)], olist []⟩
noncomputable def g78_m1e : List NE := [.keep 2]
noncomputable def g78_C (n : Nat) : List (Nat × Spec) := []
noncomputable def g78_G (n : Nat) : Ctx := { Γ0 with calls := lkS (g78_C n) }
noncomputable def g78_B : Code := fb Tryd.f78
noncomputable def g78_1 (n : Nat) (kr : Bool → Option β) (v0 : Int) : Option β := bif (v0 == (13 : Int)) then (kr true) else (kr (v0 == (10 : Int)))
noncomputable def g78_1F (n : Nat) (s : FState) (cx : Cx β) : Option β := FX (g78_G n) n (nav g78_B [0]) (.fin none none (some g78_m1e) [] .leaf) s { cx with nrm := fun s => FX (g78_G n) n (nav g78_B [1, 0]) (.fin none none (some g78_m1e) [] .leaf) s { cx with nrm := fun s => FX (g78_G n) n (nav g78_B [1, 1]) (.fin none none (some g78_m1e) [] .leaf) s cx } }
theorem g78_1_fx (n : Nat) (cx : Cx β) (v0 : Int) : g78_1F n (g78_m0 v0) cx = g78_1 n (fun v2 => cx.ret (g78_m1 v2)) v0 := by kernel_rfl
noncomputable def g78 (n : Nat) (v0 : Int) : Option (DenR [.dat .bool]) := g78_1 n (fun v2 => some (v2, ())) v0
noncomputable def g78_A : List AK := [.dat (.int .i32)]
noncomputable def g78_R : List RK := [.dat .bool]
noncomputable def g78_f (n : Nat) (d : DenA g78_A) : Option (DenR g78_R) := g78 n d.1
noncomputable def g78_S (n : Nat) : Spec := mkSpec g78_A g78_R (g78_f n)
noncomputable def g78_K : Sk := (.nd (.fin none none (some g78_m1e) [] .leaf) (.nd (.fin none none (some g78_m1e) [] .leaf) (.fin none none (some g78_m1e) [] .leaf)))
theorem g78_top (n : Nat) (s : FState) (cx : Cx β) : FX (g78_G n) n g78_B g78_K s cx = g78_1F n s cx := by kernel_rfl
theorem g78_fit (n : Nat) : Fit Tryd.prog 78 (g78_S n) :=
  fit_of (Γ := Γ0) (l := g78_C n) (n := n) (sk := g78_K) (ts := [(2, none)]) (fn := Tryd.f78) (c := g78_B) (by kernel_rfl) (by kernel_rfl) (by unfold Callable; kernel_rfl) tab_ok trivial follows_mixed (by kernel_rfl) (by kernel_rfl) (Nat.le_of_ble_eq_true (by kernel_rfl)) (by kernel_rfl) (by kernel_rfl)
    (fun d => (g78_top n _ _).trans (Eq.trans (b := g78_1F n (g78_m0 d.1) (finCx (g78_G n) g78_R [(2, none)])) (by kernel_rfl) ((g78_1_fx n _ d.1).trans (by kernel_rfl))))
noncomputable def g97_m0 (v0 v1 : ByteArray) : FState := ⟨tlist [(0, .dat .str v0), (1, .dat .str v1)], olist []⟩
noncomputable def g97_m1 (v4 : Bool) : FState := ⟨tlist [(4, .dat .bool v4)], olist []⟩
noncomputable def g97_m1e : List NE := [.keep 4]
noncomputable def g97_C (n : Nat) : List (Nat × Spec) := []
noncomputable def g97_G (n : Nat) : Ctx := { Γ0 with calls := lkS (g97_C n) }
noncomputable def g97_B : Code := fb Tryd.f97
noncomputable def g97_1 (n : Nat) (kr : Bool → Option β) (v0 v1 : ByteArray) : Option β := bif (decide ((v0.size : Int) ≥ (v1.size : Int))) then (bnd (w64 ((v0.size : Int) - (v1.size : Int))) (v0.size : Int) (v0.size : Int) <| kr (strEq (cutS v0 (w64 ((v0.size : Int) - (v1.size : Int))) (v0.size : Int)) v1)) else (kr false)
noncomputable def g97_1F (n : Nat) (s : FState) (cx : Cx β) : Option β := FX (g97_G n) n (nav g97_B [0]) (.fin none none (some g97_m1e) [] .leaf) s { cx with nrm := fun s => FX (g97_G n) n (nav g97_B [1, 0]) (.fin none none (some g97_m1e) [] .leaf) s { cx with nrm := fun s => FX (g97_G n) n (nav g97_B [1, 1]) (.fin none none (some g97_m1e) [] .leaf) s cx } }
theorem g97_1_fx (n : Nat) (cx : Cx β) (v0 v1 : ByteArray) : g97_1F n (g97_m0 v0 v1) cx = g97_1 n (fun v4 => cx.ret (g97_m1 v4)) v0 v1 := by kernel_rfl
noncomputable def g97 (n : Nat) (v0 v1 : ByteArray) : Option (DenR [.dat .bool]) := g97_1 n (fun v4 => some (v4, ())) v0 v1
noncomputable def g97_A : List AK := [.dat .str, .dat .str]
noncomputable def g97_R : List RK := [.dat .bool]
noncomputable def g97_f (n : Nat) (d : DenA g97_A) : Option (DenR g97_R) := g97 n d.1 d.2.1
noncomputable def g97_S (n : Nat) : Spec := mkSpec g97_A g97_R (g97_f n)
noncomputable def g97_K : Sk := (.nd (.fin none none (some g97_m1e) [] .leaf) (.nd (.fin none none (some g97_m1e) [] .leaf) (.fin none none (some g97_m1e) [] .leaf)))
theorem g97_top (n : Nat) (s : FState) (cx : Cx β) : FX (g97_G n) n g97_B g97_K s cx = g97_1F n s cx := by kernel_rfl
theorem g97_fit (n : Nat) : Fit Tryd.prog 97 (g97_S n) :=
  fit_of (Γ := Γ0) (l := g97_C n) (n := n) (sk := g97_K) (ts := [(4, none)]) (fn := Tryd.f97) (c := g97_B) (by kernel_rfl) (by kernel_rfl) (by unfold Callable; kernel_rfl) tab_ok trivial follows_mixed (by kernel_rfl) (by kernel_rfl) (Nat.le_of_ble_eq_true (by kernel_rfl)) (by kernel_rfl) (by kernel_rfl)
    (fun d => (g97_top n _ _).trans (Eq.trans (b := g97_1F n (g97_m0 d.1 d.2.1) (finCx (g97_G n) g97_R [(4, none)])) (by kernel_rfl) ((g97_1_fx n _ d.1 d.2.1).trans (by kernel_rfl))))
noncomputable def g90_m0 (v0 v1 : ByteArray) : FState := ⟨tlist [(0, .dat .str v0), (1, .dat .str v1)], olist []⟩
noncomputable def g90_m1 (v4 : Bool) : FState := ⟨tlist [(4, .dat .bool v4)], olist []⟩
noncomputable def g90_m1e : List NE := [.keep 4]
noncomputable def g90_C (n : Nat) : List (Nat × Spec) := [(97, g97_S n)]
noncomputable def g90_G (n : Nat) : Ctx := { Γ0 with calls := lkS (g90_C n) }
noncomputable def g90_B : Code := fb Tryd.f90
noncomputable def g90_1 (n : Nat) (kr : Bool → Option β) (v0 v1 : ByteArray) : Option β := (g97 n v0 v1).bind fun r1 => kr r1.1
noncomputable def g90_1F (n : Nat) (s : FState) (cx : Cx β) : Option β := FX (g90_G n) n (nav g90_B [0]) (.fin none none (some g90_m1e) [] .leaf) s { cx with nrm := fun s => FX (g90_G n) n (nav g90_B [1, 0]) (.fin none none (some g90_m1e) [] .leaf) s { cx with nrm := fun s => FX (g90_G n) n (nav g90_B [1, 1]) (.fin none none (some g90_m1e) [] .leaf) s cx } }
theorem g90_1_fx (n : Nat) (cx : Cx β) (v0 v1 : ByteArray) : g90_1F n (g90_m0 v0 v1) cx = g90_1 n (fun v4 => cx.ret (g90_m1 v4)) v0 v1 := by kernel_rfl
noncomputable def g90 (n : Nat) (v0 v1 : ByteArray) : Option (DenR [.dat .bool]) := g90_1 n (fun v4 => some (v4, ())) v0 v1
noncomputable def g90_A : List AK := [.dat .str, .dat .str]
noncomputable def g90_R : List RK := [.dat .bool]
noncomputable def g90_f (n : Nat) (d : DenA g90_A) : Option (DenR g90_R) := g90 n d.1 d.2.1
noncomputable def g90_S (n : Nat) : Spec := mkSpec g90_A g90_R (g90_f n)
noncomputable def g90_K : Sk := (.nd (.fin none none (some g90_m1e) [] .leaf) (.nd (.fin none none (some g90_m1e) [] .leaf) (.fin none none (some g90_m1e) [] .leaf)))
theorem g90_top (n : Nat) (s : FState) (cx : Cx β) : FX (g90_G n) n g90_B g90_K s cx = g90_1F n s cx := by kernel_rfl
theorem g90_fit (n : Nat) : Fit Tryd.prog 90 (g90_S n) :=
  fit_of (Γ := Γ0) (l := g90_C n) (n := n) (sk := g90_K) (ts := [(4, none)]) (fn := Tryd.f90) (c := g90_B) (by kernel_rfl) (by kernel_rfl) (by unfold Callable; kernel_rfl) tab_ok ⟨g97_fit n, trivial⟩ follows_mixed (by kernel_rfl) (by kernel_rfl) (Nat.le_of_ble_eq_true (by kernel_rfl)) (by kernel_rfl) (by kernel_rfl)
    (fun d => (g90_top n _ _).trans (Eq.trans (b := g90_1F n (g90_m0 d.1 d.2.1) (finCx (g90_G n) g90_R [(4, none)])) (by kernel_rfl) ((g90_1_fx n _ d.1 d.2.1).trans (by kernel_rfl))))
noncomputable def g79_m0 (v0 : ByteArray) : FState := ⟨tlist [(0, .dat .str v0)], olist []⟩
noncomputable def g79_m1 (v2 : Bool) : FState := ⟨tlist [(2, .dat .bool v2)], olist []⟩
noncomputable def g79_m1e : List NE := [.keep 2]
noncomputable def g79_C (n : Nat) : List (Nat × Spec) := [(90, g90_S n)]
noncomputable def g79_G (n : Nat) : Ctx := { Γ0 with calls := lkS (g79_C n) }
noncomputable def g79_B : Code := fb Tryd.f79
noncomputable def g79_1 (n : Nat) (kr : Bool → Option β) (v0 : ByteArray) : Option β := (g90 n v0 (⟨#[10, 10]⟩ : ByteArray)).bind fun r1 => bif r1.1 then (kr true) else ((g90 n v0 (⟨#[10, 13, 10]⟩ : ByteArray)).bind fun r2 => kr r2.1)
noncomputable def g79_1F (n : Nat) (s : FState) (cx : Cx β) : Option β := FX (g79_G n) n (nav g79_B [0]) (.fin none none (some g79_m1e) [] .leaf) s { cx with nrm := fun s => FX (g79_G n) n (nav g79_B [1, 0]) (.fin none none (some g79_m1e) [] .leaf) s { cx with nrm := fun s => FX (g79_G n) n (nav g79_B [1, 1]) (.fin none none (some g79_m1e) [] .leaf) s cx } }
theorem g79_1_fx (n : Nat) (cx : Cx β) (v0 : ByteArray) : g79_1F n (g79_m0 v0) cx = g79_1 n (fun v2 => cx.ret (g79_m1 v2)) v0 := by kernel_rfl
noncomputable def g79 (n : Nat) (v0 : ByteArray) : Option (DenR [.dat .bool]) := g79_1 n (fun v2 => some (v2, ())) v0
noncomputable def g79_A : List AK := [.dat .str]
noncomputable def g79_R : List RK := [.dat .bool]
noncomputable def g79_f (n : Nat) (d : DenA g79_A) : Option (DenR g79_R) := g79 n d.1
noncomputable def g79_S (n : Nat) : Spec := mkSpec g79_A g79_R (g79_f n)
noncomputable def g79_K : Sk := (.nd (.fin none none (some g79_m1e) [] .leaf) (.nd (.fin none none (some g79_m1e) [] .leaf) (.fin none none (some g79_m1e) [] .leaf)))
theorem g79_top (n : Nat) (s : FState) (cx : Cx β) : FX (g79_G n) n g79_B g79_K s cx = g79_1F n s cx := by kernel_rfl
theorem g79_fit (n : Nat) : Fit Tryd.prog 79 (g79_S n) :=
  fit_of (Γ := Γ0) (l := g79_C n) (n := n) (sk := g79_K) (ts := [(2, none)]) (fn := Tryd.f79) (c := g79_B) (by kernel_rfl) (by kernel_rfl) (by unfold Callable; kernel_rfl) tab_ok ⟨g90_fit n, trivial⟩ follows_mixed (by kernel_rfl) (by kernel_rfl) (Nat.le_of_ble_eq_true (by kernel_rfl)) (by kernel_rfl) (by kernel_rfl)
    (fun d => (g79_top n _ _).trans (Eq.trans (b := g79_1F n (g79_m0 d.1) (finCx (g79_G n) g79_R [(2, none)])) (by kernel_rfl) ((g79_1_fx n _ d.1).trans (by kernel_rfl))))
noncomputable def g64_m0 (v0 v1 : ByteArray) : FState := ⟨tlist [(0, .dat .str v0), (1, .dat .str v1)], olist []⟩
noncomputable def g64_m1 (v4 : Int) : FState := ⟨tlist [(4, .dat (.int .i64) v4)], olist []⟩
noncomputable def g64_m1e : List NE := [.keep 4]
noncomputable def g64_m2 (v0 v1 : ByteArray) (v5 v7 : Int) (v9 v10 v11 : Bool) : FState := ⟨tlist [(0, .dat .str v0), (1, .dat .str v1), (5, .dat (.int .i32) v5), (7, .dat (.int .i32) v7), (9, .dat .bool v9), (10, .dat .bool v10), (11, .dat .bool v11)], olist []⟩
noncomputable def g64_m2e : List NE := [.keep 0, .keep 1, .keep 5, .keep 7, .keep 9, .keep 10, .keep 11]
noncomputable def g64_m3 (v0 v1 : ByteArray) (v5 v7 : Int) (v9 v10 v11 v12 : Bool) : FState := ⟨tlist [(0, .dat .str v0), (1, .dat .str v1), (5, .dat (.int .i32) v5), (7, .dat (.int .i32) v7), (9, .dat .bool v9), (10, .dat .bool v10), (11, .dat .bool v11), (12, .dat .bool v12)], olist []⟩
noncomputable def g64_m3e : List NE := [.keep 0, .keep 1, .keep 5, .keep 7, .keep 9, .keep 10, .keep 11, .keep 12]
noncomputable def g64_m4 (v0 v1 : ByteArray) (v7 : Int) (v9 v10 v11 v12 v13 : Bool) : FState := ⟨tlist [(0, .dat .str v0), (1, .dat .str v1), (7, .dat (.int .i32) v7), (9, .dat .bool v9), (10, .dat .bool v10), (11, .dat .bool v11), (12, .dat .bool v12), (13, .dat .bool v13)], olist []⟩
noncomputable def g64_m4e : List NE := [.keep 0, .keep 1, .keep 7, .keep 9, .keep 10, .keep 11, .keep 12, .keep 13]
noncomputable def g64_m5 (v0 v1 : ByteArray) (v9 v10 v11 v12 v13 v14 : Bool) : FState := ⟨tlist [(0, .dat .str v0), (1, .dat .str v1), (9, .dat .bool v9), (10, .dat .bool v10), (11, .dat .bool v11), (12, .dat .bool v12), (13, .dat .bool v13), (14, .dat .bool v14)], olist []⟩
noncomputable def g64_m5e : List NE := [.keep 0, .keep 1, .keep 9, .keep 10, .keep 11, .keep 12, .keep 13, .keep 14]
noncomputable def g64_m6 (v1 : ByteArray) (v9 v10 v11 v12 v13 v14 v15 : Bool) : FState := ⟨tlist [(1, .dat .str v1), (9, .dat .bool v9), (10, .dat .bool v10), (11, .dat .bool v11), (12, .dat .bool v12), (13, .dat .bool v13), (14, .dat .bool v14), (15, .dat .bool v15)], olist []⟩
noncomputable def g64_m6e : List NE := [.keep 1, .keep 9, .keep 10, .keep 11, .keep 12, .keep 13, .keep 14, .keep 15]
noncomputable def g64_m7 (v9 v10 v11 v12 v13 v14 v15 v16 : Bool) : FState := ⟨tlist [(9, .dat .bool v9), (10, .dat .bool v10), (11, .dat .bool v11), (12, .dat .bool v12), (13, .dat .bool v13), (14, .dat .bool v14), (15, .dat .bool v15), (16, .dat .bool v16)], olist []⟩
noncomputable def g64_m7e : List NE := [.keep 9, .keep 10, .keep 11, .keep 12, .keep 13, .keep 14, .keep 15, .keep 16]
noncomputable def g64_C (n : Nat) : List (Nat × Spec) := [(65, g65_S n), (75, g75_S n), (76, g76_S n), (77, g77_S n), (78, g78_S n), (79, g79_S n)]
noncomputable def g64_G (n : Nat) : Ctx := { Γ0 with calls := lkS (g64_C n) }
noncomputable def g64_B : Code := fb Tryd.f64
noncomputable def g64_1 (n : Nat) (kn : ByteArray → ByteArray → Int → Int → Bool → Bool → Bool → Option β) (kr : Int → Option β) (v0 v1 : ByteArray) : Option β := bif ((v0.size : Int) == (0 : Int)) then (kr (6 : Int)) else (bif ((v1.size : Int) == (0 : Int)) then (kr (6 : Int)) else ((g75 n v0).bind fun r1 => (g65 n v1).bind fun r2 => (g76 n r1.1).bind fun r3 => (g76 n r2.1).bind fun r4 => bif r3.1 then ((g77 n r1.1).bind fun r5 => kn v0 v1 r1.1 r2.1 r3.1 r4.1 r5.1) else (kn v0 v1 r1.1 r2.1 r3.1 r4.1 false)))
noncomputable def g64_1F (n : Nat) (s : FState) (cx : Cx β) : Option β := FX (g64_G n) n (nav g64_B [0]) (.fin none none (some g64_m1e) [] .leaf) s { cx with nrm := fun s => FX (g64_G n) n (nav g64_B [1, 0, 0]) (.fin none none (some g64_m1e) [] .leaf) s { cx with nrm := fun s => FX (g64_G n) n (nav g64_B [1, 0, 1]) (.fin none none (some g64_m1e) [] .leaf) s { cx with nrm := fun s => FX (g64_G n) n (nav g64_B [1, 1, 0]) (.fin none none (some g64_m1e) [] .leaf) s { cx with nrm := fun s => FX (g64_G n) n (nav g64_B [1, 1, 1, 0]) (.fin none none (some g64_m1e) [] .leaf) s { cx with nrm := fun s => FX (g64_G n) n (nav g64_B [1, 1, 1, 1, 0]) (.fin none none (some g64_m1e) [] .leaf) s { cx with nrm := fun s => FX (g64_G n) n (nav g64_B [1, 1, 1, 1, 1, 0]) (.fin none none (some g64_m1e) [] .leaf) s { cx with nrm := fun s => FX (g64_G n) n (nav g64_B [1, 1, 1, 1, 1, 1, 0]) (.fin none (some g64_m2e) (some g64_m1e) [] .leaf) s cx } } } } } } }
theorem g64_1_fx (n : Nat) (cx : Cx β) (v0 v1 : ByteArray) : g64_1F n (g64_m0 v0 v1) cx = g64_1 n (fun v0 v1 v5 v7 v9 v10 v11 => cx.nrm (g64_m2 v0 v1 v5 v7 v9 v10 v11)) (fun v4 => cx.ret (g64_m1 v4)) v0 v1 := by kernel_rfl
noncomputable def g64_2 (n : Nat) (kn : ByteArray → ByteArray → Int → Int → Bool → Bool → Bool → Bool → Option β) (v0 v1 : ByteArray) (v5 v7 : Int) (v9 v10 v11 : Bool) : Option β := bif v10 then ((g77 n v7).bind fun r1 => kn v0 v1 v5 v7 v9 v10 v11 r1.1) else (kn v0 v1 v5 v7 v9 v10 v11 false)
noncomputable def g64_2F (n : Nat) (s : FState) (cx : Cx β) : Option β := FX (g64_G n) n (nav g64_B [1, 1, 1, 1, 1, 1, 1, 0]) (.fin none (some g64_m3e) none [] .leaf) s cx
theorem g64_2_fx (n : Nat) (cx : Cx β) (v0 v1 : ByteArray) (v5 v7 : Int) (v9 v10 v11 : Bool) : g64_2F n (g64_m2 v0 v1 v5 v7 v9 v10 v11) cx = g64_2 n (fun v0 v1 v5 v7 v9 v10 v11 v12 => cx.nrm (g64_m3 v0 v1 v5 v7 v9 v10 v11 v12)) v0 v1 v5 v7 v9 v10 v11 := by kernel_rfl
noncomputable def g64_3 (n : Nat) (kn : ByteArray → ByteArray → Int → Bool → Bool → Bool → Bool → Bool → Option β) (v0 v1 : ByteArray) (v5 v7 : Int) (v9 v10 v11 v12 : Bool) : Option β := bif v11 then ((g78 n v5).bind fun r1 => kn v0 v1 v7 v9 v10 v11 v12 r1.1) else (kn v0 v1 v7 v9 v10 v11 v12 false)
noncomputable def g64_3F (n : Nat) (s : FState) (cx : Cx β) : Option β := FX (g64_G n) n (nav g64_B [1, 1, 1, 1, 1, 1, 1, 1, 0]) (.fin none (some g64_m4e) none [] .leaf) s cx
theorem g64_3_fx (n : Nat) (cx : Cx β) (v0 v1 : ByteArray) (v5 v7 : Int) (v9 v10 v11 v12 : Bool) : g64_3F n (g64_m3 v0 v1 v5 v7 v9 v10 v11 v12) cx = g64_3 n (fun v0 v1 v7 v9 v10 v11 v12 v13 => cx.nrm (g64_m4 v0 v1 v7 v9 v10 v11 v12 v13)) v0 v1 v5 v7 v9 v10 v11 v12 := by kernel_rfl
noncomputable def g64_4 (n : Nat) (kn : ByteArray → ByteArray → Bool → Bool → Bool → Bool → Bool → Bool → Option β) (v0 v1 : ByteArray) (v7 : Int) (v9 v10 v11 v12 v13 : Bool) : Option β := bif v12 then ((g78 n v7).bind fun r1 => kn v0 v1 v9 v10 v11 v12 v13 r1.1) else (kn v0 v1 v9 v10 v11 v12 v13 false)
noncomputable def g64_4F (n : Nat) (s : FState) (cx : Cx β) : Option β := FX (g64_G n) n (nav g64_B [1, 1, 1, 1, 1, 1, 1, 1, 1, 0]) (.fin none (some g64_m5e) none [] .leaf) s cx
theorem g64_4_fx (n : Nat) (cx : Cx β) (v0 v1 : ByteArray) (v7 : Int) (v9 v10 v11 v12 v13 : Bool) : g64_4F n (g64_m4 v0 v1 v7 v9 v10 v11 v12 v13) cx = g64_4 n (fun v0 v1 v9 v10 v11 v12 v13 v14 => cx.nrm (g64_m5 v0 v1 v9 v10 v11 v12 v13 v14)) v0 v1 v7 v9 v10 v11 v12 v13 := by kernel_rfl
noncomputable def g64_5 (n : Nat) (kn : ByteArray → Bool → Bool → Bool → Bool → Bool → Bool → Bool → Option β) (v0 v1 : ByteArray) (v9 v10 v11 v12 v13 v14 : Bool) : Option β := bif v13 then ((g79 n v0).bind fun r1 => kn v1 v9 v10 v11 v12 v13 v14 r1.1) else (kn v1 v9 v10 v11 v12 v13 v14 false)
noncomputable def g64_5F (n : Nat) (s : FState) (cx : Cx β) : Option β := FX (g64_G n) n (nav g64_B [1, 1, 1, 1, 1, 1, 1, 1, 1, 1, 0]) (.fin none (some g64_m6e) none [] .leaf) s cx
theorem g64_5_fx (n : Nat) (cx : Cx β) (v0 v1 : ByteArray) (v9 v10 v11 v12 v13 v14 : Bool) : g64_5F n (g64_m5 v0 v1 v9 v10 v11 v12 v13 v14) cx = g64_5 n (fun v1 v9 v10 v11 v12 v13 v14 v15 => cx.nrm (g64_m6 v1 v9 v10 v11 v12 v13 v14 v15)) v0 v1 v9 v10 v11 v12 v13 v14 := by kernel_rfl
noncomputable def g64_6 (n : Nat) (kn : Bool → Bool → Bool → Bool → Bool → Bool → Bool → Bool → Option β) (v1 : ByteArray) (v9 v10 v11 v12 v13 v14 v15 : Bool) : Option β := bif v14 then ((g79 n v1).bind fun r1 => kn v9 v10 v11 v12 v13 v14 v15 r1.1) else (kn v9 v10 v11 v12 v13 v14 v15 false)
noncomputable def g64_6F (n : Nat) (s : FState) (cx : Cx β) : Option β := FX (g64_G n) n (nav g64_B [1, 1, 1, 1, 1, 1, 1, 1, 1, 1, 1, 0]) (.fin none (some g64_m7e) none [] .leaf) s cx
theorem g64_6_fx (n : Nat) (cx : Cx β) (v1 : ByteArray) (v9 v10 v11 v12 v13 v14 v15 : Bool) : g64_6F n (g64_m6 v1 v9 v10 v11 v12 v13 v14 v15) cx = g64_6 n (fun v9 v10 v11 v12 v13 v14 v15 v16 => cx.nrm (g64_m7 v9 v10 v11 v12 v13 v14 v15 v16)) v1 v9 v10 v11 v12 v13 v14 v15 := by kernel_rfl
noncomputable def g64_7 (n : Nat) (kr : Int → Option β) (v9 v10 v11 v12 v13 v14 v15 v16 : Bool) : Option β := bif v15 then (kr (5 : Int)) else (bif v16 then (kr (5 : Int)) else (bif v13 then (kr (4 : Int)) else (bif v14 then (kr (4 : Int)) else (bif v9 then (bif (!v11) then (bif v12 then (kr (3 : Int)) else (bif v11 then (kr (2 : Int)) else (bif v12 then (kr (2 : Int)) else (bif v9 then (kr (1 : Int)) else (bif v10 then (kr (1 : Int)) else (kr (0 : Int))))))) else (bif v11 then (kr (2 : Int)) else (bif v12 then (kr (2 : Int)) else (bif v9 then (kr (1 : Int)) else (bif v10 then (kr (1 : Int)) else (kr (0 : Int))))))) else (bif v11 then (kr (2 : Int)) else (bif v12 then (kr (2 : Int)) else (bif v9 then (kr (1 : Int)) else (bif v10 then (kr (1 : Int)) else (kr (0 : Int))))))))))
noncomputable def g64_7F (n : Nat) (s : FState) (cx : Cx β) : Option β := FX (g64_G n) n (nav g64_B [1, 1, 1, 1, 1, 1, 1, 1, 1, 1, 1, 1, 0, 0]) (.fin none none (some g64_m1e) [] .leaf) s { cx with nrm := fun s => FX (g64_G n) n (nav g64_B [1, 1, 1, 1, 1, 1, 1, 1, 1, 1, 1, 1, 0, 1]) (.fin none none (some g64_m1e) [] .leaf) s { cx with nrm := fun s => FX (g64_G n) n (nav g64_B [1, 1, 1, 1, 1, 1, 1, 1, 1, 1, 1, 1, 1, 0]) (.fin none none (some g64_m1e) [] .leaf) s { cx with nrm := fun s => FX (g64_G n) n (nav g64_B [1, 1, 1, 1, 1, 1, 1, 1, 1, 1, 1, 1, 1, 1]) (.fin none none (some g64_m1e) [] .leaf) s cx } } }
theorem g64_7_fx (n : Nat) (cx : Cx β) (v9 v10 v11 v12 v13 v14 v15 v16 : Bool) : g64_7F n (g64_m7 v9 v10 v11 v12 v13 v14 v15 v16) cx = g64_7 n (fun v4 => cx.ret (g64_m1 v4)) v9 v10 v11 v12 v13 v14 v15 v16 := by kernel_rfl
noncomputable def g64_8 (n : Nat) (kr : Int → Option β) (v0 v1 : ByteArray) : Option β := g64_1 n (fun v0 v1 v5 v7 v9 v10 v11 => g64_2 n (fun v0 v1 v5 v7 v9 v10 v11 v12 => g64_3 n (fun v0 v1 v7 v9 v10 v11 v12 v13 => g64_4 n (fun v0 v1 v9 v10 v11 v12 v13 v14 => g64_5 n (fun v1 v9 v10 v11 v12 v13 v14 v15 => g64_6 n (fun v9 v10 v11 v12 v13 v14 v15 v16 => g64_7 n kr v9 v10 v11 v12 v13 v14 v15 v16) v1 v9 v10 v11 v12 v13 v14 v15) v0 v1 v9 v10 v11 v12 v13 v14) v0 v1 v7 v9 v10 v11 v12 v13) v0 v1 v5 v7 v9 v10 v11 v12) v0 v1 v5 v7 v9 v10 v11) kr v0 v1
noncomputable def g64_8F (n : Nat) (s : FState) (cx : Cx β) : Option β := g64_1F n s { cx with nrm := fun s => g64_2F n s { cx with nrm := fun s => g64_3F n s { cx with nrm := fun s => g64_4F n s { cx with nrm := fun s => g64_5F n s { cx with nrm := fun s => g64_6F n s { cx with nrm := fun s => g64_7F n s cx } } } } } }
theorem g64_8_fx (n : Nat) (cx : Cx β) (v0 v1 : ByteArray) : g64_8F n (g64_m0 v0 v1) cx = g64_8 n (fun v4 => cx.ret (g64_m1 v4)) v0 v1 := by simp only [g64_8F, g64_8, g64_1_fx, g64_2_fx, g64_3_fx, g64_4_fx, g64_5_fx, g64_6_fx, g64_7_fx]
noncomputable def g64 (n : Nat) (v0 v1 : ByteArray) : Option (DenR [.dat (.int .i64)]) := g64_8 n (fun v4 => some (v4, ())) v0 v1
noncomputable def g64_A : List AK := [.dat .str, .dat .str]
noncomputable def g64_R : List RK := [.dat (.int .i64)]
noncomputable def g64_f (n : Nat) (d : DenA g64_A) : Option (DenR g64_R) := g64 n d.1 d.2.1
noncomputable def g64_S (n : Nat) : Spec := mkSpec g64_A g64_R (g64_f n)
noncomputable def g64_K : Sk := (.nd (.fin none none (some g64_m1e) [] .leaf) (.nd (.nd (.fin none none (some g64_m1e) [] .leaf) (.fin none none (some g64_m1e) [] .leaf)) (.nd (.fin none none (some g64_m1e) [] .leaf) (.nd (.fin none none (some g64_m1e) [] .leaf) (.nd (.fin none none (some g64_m1e) [] .leaf) (.nd (.fin none none (some g64_m1e) [] .leaf) (.nd (.fin none (some g64_m2e) (some g64_m1e) [] .leaf) (.nd (.fin none (some g64_m3e) none [] .leaf) (.nd (.fin none (some g64_m4e) none [] .leaf) (.nd (.fin none (some g64_m5e) none [] .leaf) (.nd (.fin none (some g64_m6e) none [] .leaf) (.nd (.fin none (some g64_m7e) none [] .leaf) (.nd (.nd (.fin none none (some g64_m1e) [] .leaf) (.fin none none (some g64_m1e) [] .leaf)) (.nd (.fin none none (some g64_m1e) [] .leaf) (.fin none none (some g64_m1e) [] .leaf)))))))))))))))
theorem g64_top (n : Nat) (s : FState) (cx : Cx β) : FX (g64_G n) n g64_B g64_K s cx = g64_8F n s cx := by kernel_rfl
theorem g64_fit (n : Nat) : Fit Tryd.prog 64 (g64_S n) :=
  fit_of (Γ := Γ0) (l := g64_C n) (n := n) (sk := g64_K) (ts := [(4, none)]) (fn := Tryd.f64) (c := g64_B) (by kernel_rfl) (by kernel_rfl) (by unfold Callable; kernel_rfl) tab_ok ⟨g65_fit n, g75_fit n, g76_fit n, g77_fit n, g78_fit n, g79_fit n, trivial⟩ follows_mixed (by kernel_rfl) (by kernel_rfl) (Nat.le_of_ble_eq_true (by kernel_rfl)) (by kernel_rfl) (by kernel_rfl)
    (fun d => (g64_top n _ _).trans (Eq.trans (b := g64_8F n (g64_m0 d.1 d.2.1) (finCx (g64_G n) g64_R [(4, none)])) (by kernel_rfl) ((g64_8_fx n _ d.1 d.2.1).trans (by kernel_rfl))))
noncomputable def g66_m0 (x0 : List (Int × ByteArray)) (v1 v2 : Int) (x3 : List (Int × ByteArray)) : FState := ⟨tlist [(0, .sl 0 none false), (1, .dat (.int .i64) v1), (2, .dat (.int .i64) v2), (3, .sl 3 none false)], olist [(0, .row (.pair (.int .i8) .str) 75 true x0), (3, .row (.pair (.int .i8) .str) 75 false x3)]⟩
noncomputable def g66_m1 (x8 : List (Int × ByteArray)) : FState := ⟨tlist [(8, .sl 8 none false)], olist [(8, .row (.pair (.int .i8) .str) 75 true x8)]⟩
noncomputable def g66_m1e : List NE := [.row 8 (.pair (.int .i8) .str) 75 true]
noncomputable def g66_m2 (x0 : List (Int × ByteArray)) (v1 v2 : Int) (x3 : List (Int × ByteArray)) (v26 : Bool) : FState := ⟨tlist [(0, .sl 0 none false), (1, .dat (.int .i64) v1), (2, .dat (.int .i64) v2), (3, .sl 3 none false), (26, .dat .bool v26)], olist [(0, .row (.pair (.int .i8) .str) 75 true x0), (3, .row (.pair (.int .i8) .str) 75 false x3)]⟩
noncomputable def g66_m2e : List NE := [.row 0 (.pair (.int .i8) .str) 75 true, .keep 1, .keep 2, .row 3 (.pair (.int .i8) .str) 75 false, .keep 26]
noncomputable def g66_m3 (x0 : List (Int × ByteArray)) (v1 v2 : Int) (x3 : List (Int × ByteArray)) : FState := ⟨tlist [(0, .sl 0 none false), (1, .dat (.int .i64) v1), (2, .dat (.int .i64) v2), (3, .sl 3 none false)], olist [(0, .row (.pair (.int .i8) .str) 75 true x0), (3, .row (.pair (.int .i8) .str) 75 false x3)]⟩
noncomputable def g66_m3e : List NE := [.row 0 (.pair (.int .i8) .str) 75 true, .keep 1, .keep 2, .row 3 (.pair (.int .i8) .str) 75 false]
noncomputable def g66_m4 (x0 : List (Int × ByteArray)) (v9 o10 l10 v55 v56 : Int) : FState := ⟨tlist [(0, .sl 0 none false), (9, .dat (.int .i64) v9), (10, .sl 0 (some (o10, l10)) false), (55, .dat (.int .i64) v55), (56, .dat (.int .i64) v56)], olist [(0, .row (.pair (.int .i8) .str) 75 true x0)]⟩
noncomputable def g66_m4e : List NE := [.row 0 (.pair (.int .i8) .str) 75 true, .keep 9, .row 10 (.pair (.int .i8) .str) 75 true, .keep 55, .keep 56]
noncomputable def g66_m5 (x0 : List (Int × ByteArray)) (v9 : Int) : FState := ⟨tlist [(0, .sl 0 none false), (9, .dat (.int .i64) v9)], olist [(0, .row (.pair (.int .i8) .str) 75 true x0)]⟩
noncomputable def g66_m5e : List NE := [.row 0 (.pair (.int .i8) .str) 75 true, .keep 9]
noncomputable def g66_m6 (x0 : List (Int × ByteArray)) (v1 v2 : Int) (x3 : List (Int × ByteArray)) (v12 : Int) : FState := ⟨tlist [(0, .sl 0 none false), (1, .dat (.int .i64) v1), (2, .dat (.int .i64) v2), (3, .sl 3 none false), (12, .dat (.int .i64) v12)], olist [(0, .row (.pair (.int .i8) .str) 75 true x0), (3, .row (.pair (.int .i8) .str) 75 false x3)]⟩
noncomputable def g66_m6e : List NE := [.row 0 (.pair (.int .i8) .str) 75 true, .keep 1, .keep 2, .row 3 (.pair (.int .i8) .str) 75 false, .keep 12]
noncomputable def g66_m7 (x0 : List (Int × ByteArray)) (v1 v2 : Int) (x3 : List (Int × ByteArray)) : FState := ⟨tlist [(0, .sl 0 none false), (1, .dat (.int .i64) v1), (2, .dat (.int .i64) v2), (3, .sl 3 none false)], olist [(0, .row (.pair (.int .i8) .str) 75 true x0), (3, .row (.pair (.int .i8) .str) 75 false x3)]⟩
noncomputable def g66_m7e : List NE := [.row 0 (.pair (.int .i8) .str) 75 true, .keep 1, .keep 2, .row 3 (.pair (.int .i8) .str) 75 false]
noncomputable def g66_C (n : Nat) : List (Nat × Spec) := []
noncomputable def g66_G (n : Nat) : Ctx := { Γ0 with calls := lkS (g66_C n) }
noncomputable def g66_B : Code := fb Tryd.f66
noncomputable def g66_1 (n : Nat) (kn : List (Int × ByteArray) → Int → Int → List (Int × ByteArray) → Bool → Option β) (kr : List (Int × ByteArray) → Option β) (x0 : List (Int × ByteArray)) (v1 v2 : Int) (x3 : List (Int × ByteArray)) : Option β := bif ((x3.length : Int) == v2) then (bnd v1 (x0.length : Int) (x0.length : Int) <| kr (pasted x0 (v1 + (0 : Int)) ((x0.length : Int) - v1) x3)) else (kn x0 v1 v2 x3 (decide ((x3.length : Int) < v2)))
noncomputable def g66_1F (n : Nat) (s : FState) (cx : Cx β) : Option β := FX (g66_G n) n (nav g66_B [0]) (.fin none none (some g66_m1e) [] .leaf) s { cx with nrm := fun s => FX (g66_G n) n (nav g66_B [1, 0, 0]) (.fin none none (some g66_m1e) [] .leaf) s { cx with nrm := fun s => FX (g66_G n) n (nav g66_B [1, 0, 1]) (.fin none none (some g66_m1e) [] .leaf) s { cx with nrm := fun s => FX (g66_G n) n (nav g66_B [1, 1, 0, 0]) (.fin none (some g66_m2e) (some g66_m1e) [] .leaf) s cx } } }
theorem g66_1_fx (n : Nat) (cx : Cx β) (x0 : List (Int × ByteArray)) (v1 v2 : Int) (x3 : List (Int × ByteArray)) : g66_1F n (g66_m0 x0 v1 v2 x3) cx = g66_1 n (fun x0 v1 v2 x3 v26 => cx.nrm (g66_m2 x0 v1 v2 x3 v26)) (fun x8 => cx.ret (g66_m1 x8)) x0 v1 v2 x3 := by kernel_rfl
noncomputable def g66_2 (n : Nat) (kn : List (Int × ByteArray) → Int → Int → Int → Int → Int → Option β) (x0 : List (Int × ByteArray)) (v1 v2 : Int) (x3 : List (Int × ByteArray)) (v26 : Bool) : Option β := bnd v1 (x0.length : Int) (x0.length : Int) <| bnd (w64 (v1 + (x3.length : Int))) ((pasted x0 (v1 + (0 : Int)) ((x0.length : Int) - v1) x3).length : Int) ((pasted x0 (v1 + (0 : Int)) ((x0.length : Int) - v1) x3).length : Int) <| bnd (w64 (v1 + v2)) ((pasted x0 (v1 + (0 : Int)) ((x0.length : Int) - v1) x3).length : Int) ((pasted x0 (v1 + (0 : Int)) ((x0.length : Int) - v1) x3).length : Int) <| bnd (w64 ((w64 (((pasted (pasted x0 (v1 + (0 : Int)) ((x0.length : Int) - v1) x3) ((w64 (v1 + (x3.length : Int))) + (0 : Int)) (((pasted x0 (v1 + (0 : Int)) ((x0.length : Int) - v1) x3).length : Int) - (w64 (v1 + (x3.length : Int)))) (cut (pasted x0 (v1 + (0 : Int)) ((x0.length : Int) - v1) x3) (w64 (v1 + v2)) ((w64 (v1 + v2)) + (((pasted x0 (v1 + (0 : Int)) ((x0.length : Int) - v1) x3).length : Int) - (w64 (v1 + v2)))))).length : Int) - v2)) + (x3.length : Int))) ((pasted (pasted x0 (v1 + (0 : Int)) ((x0.length : Int) - v1) x3) ((w64 (v1 + (x3.length : Int))) + (0 : Int)) (((pasted x0 (v1 + (0 : Int)) ((x0.length : Int) - v1) x3).length : Int) - (w64 (v1 + (x3.length : Int)))) (cut (pasted x0 (v1 + (0 : Int)) ((x0.length : Int) - v1) x3) (w64 (v1 + v2)) ((w64 (v1 + v2)) + (((pasted x0 (v1 + (0 : Int)) ((x0.length : Int) - v1) x3).length : Int) - (w64 (v1 + v2)))))).length : Int) ((pasted (pasted x0 (v1 + (0 : Int)) ((x0.length : Int) - v1) x3) ((w64 (v1 + (x3.length : Int))) + (0 : Int)) (((pasted x0 (v1 + (0 : Int)) ((x0.length : Int) - v1) x3).length : Int) - (w64 (v1 + (x3.length : Int)))) (cut (pasted x0 (v1 + (0 : Int)) ((x0.length : Int) - v1) x3) (w64 (v1 + v2)) ((w64 (v1 + v2)) + (((pasted x0 (v1 + (0 : Int)) ((x0.length : Int) - v1) x3).length : Int) - (w64 (v1 + v2)))))).length : Int) <| kn (pasted (pasted x0 (v1 + (0 : Int)) ((x0.length : Int) - v1) x3) ((w64 (v1 + (x3.length : Int))) + (0 : Int)) (((pasted x0 (v1 + (0 : Int)) ((x0.length : Int) - v1) x3).length : Int) - (w64 (v1 + (x3.length : Int)))) (cut (pasted x0 (v1 + (0 : Int)) ((x0.length : Int) - v1) x3) (w64 (v1 + v2)) ((w64 (v1 + v2)) + (((pasted x0 (v1 + (0 : Int)) ((x0.length : Int) - v1) x3).length : Int) - (w64 (v1 + v2)))))) (w64 ((w64 (((pasted (pasted x0 (v1 + (0 : Int)) ((x0.length : Int) - v1) x3) ((w64 (v1 + (x3.length : Int))) + (0 : Int)) (((pasted x0 (v1 + (0 : Int)) ((x0.length : Int) - v1) x3).length : Int) - (w64 (v1 + (x3.length : Int)))) (cut (pasted x0 (v1 + (0 : Int)) ((x0.length : Int) - v1) x3) (w64 (v1 + v2)) ((w64 (v1 + v2)) + (((pasted x0 (v1 + (0 : Int)) ((x0.length : Int) - v1) x3).length : Int) - (w64 (v1 + v2)))))).length : Int) - v2)) + (x3.length : Int))) (w64 ((w64 (((pasted (pasted x0 (v1 + (0 : Int)) ((x0.length : Int) - v1) x3) ((w64 (v1 + (x3.length : Int))) + (0 : Int)) (((pasted x0 (v1 + (0 : Int)) ((x0.length : Int) - v1) x3).length : Int) - (w64 (v1 + (x3.length : Int)))) (cut (pasted x0 (v1 + (0 : Int)) ((x0.length : Int) - v1) x3) (w64 (v1 + v2)) ((w64 (v1 + v2)) + (((pasted x0 (v1 + (0 : Int)) ((x0.length : Int) - v1) x3).length : Int) - (w64 (v1 + v2)))))).length : Int) - v2)) + (x3.length : Int))) (((pasted (pasted x0 (v1 + (0 : Int)) ((x0.length : Int) - v1) x3) ((w64 (v1 + (x3.length : Int))) + (0 : Int)) (((pasted x0 (v1 + (0 : Int)) ((x0.length : Int) - v1) x3).length : Int) - (w64 (v1 + (x3.length : Int)))) (cut (pasted x0 (v1 + (0 : Int)) ((x0.length : Int) - v1) x3) (w64 (v1 + v2)) ((w64 (v1 + v2)) + (((pasted x0 (v1 + (0 : Int)) ((x0.length : Int) - v1) x3).length : Int) - (w64 (v1 + v2)))))).length : Int) - (w64 ((w64 (((pasted (pasted x0 (v1 + (0 : Int)) ((x0.length : Int) - v1) x3) ((w64 (v1 + (x3.length : Int))) + (0 : Int)) (((pasted x0 (v1 + (0 : Int)) ((x0.length : Int) - v1) x3).length : Int) - (w64 (v1 + (x3.length : Int)))) (cut (pasted x0 (v1 + (0 : Int)) ((x0.length : Int) - v1) x3) (w64 (v1 + v2)) ((w64 (v1 + v2)) + (((pasted x0 (v1 + (0 : Int)) ((x0.length : Int) - v1) x3).length : Int) - (w64 (v1 + v2)))))).length : Int) - v2)) + (x3.length : Int)))) (((pasted (pasted x0 (v1 + (0 : Int)) ((x0.length : Int) - v1) x3) ((w64 (v1 + (x3.length : Int))) + (0 : Int)) (((pasted x0 (v1 + (0 : Int)) ((x0.length : Int) - v1) x3).length : Int) - (w64 (v1 + (x3.length : Int)))) (cut (pasted x0 (v1 + (0 : Int)) ((x0.length : Int) - v1) x3) (w64 (v1 + v2)) ((w64 (v1 + v2)) + (((pasted x0 (v1 + (0 : Int)) ((x0.length : Int) - v1) x3).length : Int) - (w64 (v1 + v2)))))).length : Int) - (w64 ((w64 (((pasted (pasted x0 (v1 + (0 : Int)) ((x0.length : Int) - v1) x3) ((w64 (v1 + (x3.length : Int))) + (0 : Int)) (((pasted x0 (v1 + (0 : Int)) ((x0.length : Int) - v1) x3).length : Int) - (w64 (v1 + (x3.length : Int)))) (cut (pasted x0 (v1 + (0 : Int)) ((x0.length : Int) - v1) x3) (w64 (v1 + v2)) ((w64 (v1 + v2)) + (((pasted x0 (v1 + (0 : Int)) ((x0.length : Int) - v1) x3).length : Int) - (w64 (v1 + v2)))))).length : Int) - v2)) + (x3.length : Int)))) (0 : Int)
noncomputable def g66_2F (n : Nat) (s : FState) (cx : Cx β) : Option β := FX (g66_G n) n (nav g66_B [1, 1, 0, 1, 0, 0]) (.fin none none none [] .leaf) s { cx with nrm := fun s => FX (g66_G n) n (nav g66_B [1, 1, 0, 1, 0, 1, 0]) (.fin none none none [] .leaf) s { cx with nrm := fun s => FX (g66_G n) n (nav g66_B [1, 1, 0, 1, 0, 1, 1, 0]) (.fin none none none [] .leaf) s { cx with nrm := fun s => FX (g66_G n) n (nav g66_B [1, 1, 0, 1, 0, 1, 1, 1, 0]) (.fin none none none [] .leaf) s { cx with nrm := fun s => FX (g66_G n) n (nav g66_B [1, 1, 0, 1, 0, 1, 1, 1, 1, 0, 0]) (.fin none (some g66_m4e) none [] .leaf) s cx } } } }
theorem g66_2_fx (n : Nat) (cx : Cx β) (x0 : List (Int × ByteArray)) (v1 v2 : Int) (x3 : List (Int × ByteArray)) (v26 : Bool) : g66_2F n (g66_m2 x0 v1 v2 x3 v26) cx = g66_2 n (fun x0 v9 o10 l10 v55 v56 => cx.nrm (g66_m4 x0 v9 o10 l10 v55 v56)) x0 v1 v2 x3 v26 := by kernel_rfl
noncomputable def g66_3 (n : Nat) (kn : List (Int × ByteArray) → Int → Int → Int → Int → Int → Option β) (kx0 : List (Int × ByteArray) → Int → Option β) (x0 : List (Int × ByteArray)) (v9 o10 l10 v55 v56 : Int) : Option β := bif (decide (v56 < v55)) then (idx v56 l10 <| kn (x0.set (o10 + v56).toNat ((0 : Int), (⟨#[]⟩ : ByteArray))) v9 o10 l10 v55 (w64 (v56 + (1 : Int)))) else (kx0 x0 v9)
noncomputable def g66_3F (n : Nat) (s : FState) (cx : Cx β) : Option β := FX (g66_G n) n (nav g66_B [1, 1, 0, 1, 0, 1, 1, 1, 1, 0, 1, 0, 0, 0]) (.fin none none none [(0, g66_m5e)] .leaf) s { cx with nrm := fun s => FX (g66_G n) n (nav g66_B [1, 1, 0, 1, 0, 1, 1, 1, 1, 0, 1, 0, 0, 1, 0]) (.fin none none none [(0, g66_m5e)] .leaf) s { cx with nrm := fun s => FX (g66_G n) n (nav g66_B [1, 1, 0, 1, 0, 1, 1, 1, 1, 0, 1, 0, 0, 1, 1, 0]) (.fin none none none [(0, g66_m5e)] .leaf) s { cx with nrm := fun s => FX (g66_G n) n (nav g66_B [1, 1, 0, 1, 0, 1, 1, 1, 1, 0, 1, 0, 0, 1, 1, 1]) (.fin none (some g66_m4e) none [(0, g66_m5e)] .leaf) s cx } } }
theorem g66_3_fx (n : Nat) (cx : Cx β) (x0 : List (Int × ByteArray)) (v9 o10 l10 v55 v56 : Int) : g66_3F n (g66_m4 x0 v9 o10 l10 v55 v56) cx = g66_3 n (fun x0 v9 o10 l10 v55 v56 => cx.nrm (g66_m4 x0 v9 o10 l10 v55 v56)) (fun x0 v9 => cx.ex 0 (g66_m5 x0 v9)) x0 v9 o10 l10 v55 v56 := by kernel_rfl
noncomputable def g66_4L (n : Nat) (kx0 : List (Int × ByteArray) → Int → Option β) : Nat → List (Int × ByteArray) → Int → Int → Int → Int → Int → Option β
  | 0, _, _, _, _, _, _ => none
  | m + 1, x0, v9, o10, l10, v55, v56 => g66_3 n (g66_4L n kx0 m) kx0 x0 v9 o10 l10 v55 v56
noncomputable def g66_4 (n : Nat) (kx0 : List (Int × ByteArray) → Int → Option β) (x0 : List (Int × ByteArray)) (v9 o10 l10 v55 v56 : Int) : Option β := g66_4L n kx0 n x0 v9 o10 l10 v55 v56
noncomputable def g66_4F (n : Nat) (s : FState) (cx : Cx β) : Option β := loopN (fun again s => g66_3F n s { cx with nrm := again }) n s
theorem g66_4L_fx (n : Nat) (cx : Cx β) : ∀ (m : Nat) (x0 : List (Int × ByteArray)) (v9 o10 l10 v55 v56 : Int), loopN (fun again s => g66_3F n s { cx with nrm := again }) m (g66_m4 x0 v9 o10 l10 v55 v56) = g66_4L n (fun x0 v9 => cx.ex 0 (g66_m5 x0 v9)) m x0 v9 o10 l10 v55 v56 := by
  intro m
  induction m with
  | zero => intros; rfl
  | succ m ih => intros; simp only [loopN, g66_4L, g66_3_fx, ih]
theorem g66_4_fx (n : Nat) (cx : Cx β) (x0 : List (Int × ByteArray)) (v9 o10 l10 v55 v56 : Int) : g66_4F n (g66_m4 x0 v9 o10 l10 v55 v56) cx = g66_4 n (fun x0 v9 => cx.ex 0 (g66_m5 x0 v9)) x0 v9 o10 l10 v55 v56 := g66_4L_fx n cx n x0 v9 o10 l10 v55 v56
noncomputable def g66_5 (n : Nat) (kn : List (Int × ByteArray) → Int → Option β) (x0 : List (Int × ByteArray)) (v9 o10 l10 v55 v56 : Int) : Option β := g66_4 n kn x0 v9 o10 l10 v55 v56
noncomputable def g66_5F (n : Nat) (s : FState) (cx : Cx β) : Option β := g66_4F n s { cx with ex := fun j s => bif Nat.beq j 0 then cx.nrm s else cx.ex j s }
theorem g66_5_fx (n : Nat) (cx : Cx β) (x0 : List (Int × ByteArray)) (v9 o10 l10 v55 v56 : Int) : g66_5F n (g66_m4 x0 v9 o10 l10 v55 v56) cx = g66_5 n (fun x0 v9 => cx.nrm (g66_m5 x0 v9)) x0 v9 o10 l10 v55 v56 := g66_4_fx n _ x0 v9 o10 l10 v55 v56
noncomputable def g66_6 (n : Nat) (kr : List (Int × ByteArray) → Option β) (x0 : List (Int × ByteArray)) (v9 : Int) : Option β := bnd (0 : Int) v9 (x0.length : Int) <| kr (cut x0 (0 : Int) ((0 : Int) + (v9 - (0 : Int))))
noncomputable def g66_6F (n : Nat) (s : FState) (cx : Cx β) : Option β := FX (g66_G n) n (nav g66_B [1, 1, 0, 1, 0, 1, 1, 1, 1, 1, 0]) (.fin none none (some g66_m1e) [] .leaf) s { cx with nrm := fun s => FX (g66_G n) n (nav g66_B [1, 1, 0, 1, 0, 1, 1, 1, 1, 1, 1]) (.fin none none (some g66_m1e) [] .leaf) s cx }
theorem g66_6_fx (n : Nat) (cx : Cx β) (x0 : List (Int × ByteArray)) (v9 : Int) : g66_6F n (g66_m5 x0 v9) cx = g66_6 n (fun x8 => cx.ret (g66_m1 x8)) x0 v9 := by kernel_rfl
noncomputable def g66_7 (n : Nat) (kr : List (Int × ByteArray) → Option β) (x0 : List (Int × ByteArray)) (v1 v2 : Int) (x3 : List (Int × ByteArray)) (v26 : Bool) : Option β := g66_2 n (fun x0 v9 o10 l10 v55 v56 => g66_5 n (fun x0 v9 => g66_6 n kr x0 v9) x0 v9 o10 l10 v55 v56) x0 v1 v2 x3 v26
noncomputable def g66_7F (n : Nat) (s : FState) (cx : Cx β) : Option β := g66_2F n s { cx with nrm := fun s => g66_5F n s { cx with nrm := fun s => g66_6F n s cx } }
theorem g66_7_fx (n : Nat) (cx : Cx β) (x0 : List (Int × ByteArray)) (v1 v2 : Int) (x3 : List (Int × ByteArray)) (v26 : Bool) : g66_7F n (g66_m2 x0 v1 v2 x3 v26) cx = g66_7 n (fun x8 => cx.ret (g66_m1 x8)) x0 v1 v2 x3 v26 := by simp only [g66_7F, g66_7, g66_2_fx, g66_5_fx, g66_6_fx]
noncomputable def g66_8 (n : Nat) (kn : List (Int × ByteArray) → Int → Int → List (Int × ByteArray) → Option β) (x0 : List (Int × ByteArray)) (v1 v2 : Int) (x3 : List (Int × ByteArray)) (v26 : Bool) : Option β := kn x0 v1 v2 x3
noncomputable def g66_8F (n : Nat) (s : FState) (cx : Cx β) : Option β := FX (g66_G n) n (nav g66_B [1, 1, 0, 1, 1]) (.fin none (some g66_m3e) none [] .leaf) s cx
theorem g66_8_fx (n : Nat) (cx : Cx β) (x0 : List (Int × ByteArray)) (v1 v2 : Int) (x3 : List (Int × ByteArray)) (v26 : Bool) : g66_8F n (g66_m2 x0 v1 v2 x3 v26) cx = g66_8 n (fun x0 v1 v2 x3 => cx.nrm (g66_m3 x0 v1 v2 x3)) x0 v1 v2 x3 v26 := by kernel_rfl
noncomputable def g66_9 (n : Nat) (kn : List (Int × ByteArray) → Int → Int → List (Int × ByteArray) → Option β) (kr : List (Int × ByteArray) → Option β) (x0 : List (Int × ByteArray)) (v1 v2 : Int) (x3 : List (Int × ByteArray)) (v26 : Bool) : Option β := bif v26 then g66_7 n kr x0 v1 v2 x3 v26 else g66_8 n kn x0 v1 v2 x3 v26
noncomputable def g66_9F (n : Nat) (s : FState) (cx : Cx β) : Option β := asBool (ev s (cond_of (nav g66_B [1, 1, 0, 1]))) fun t => cond t (g66_7F n s cx) (g66_8F n s cx)
theorem g66_9_fx (n : Nat) (cx : Cx β) (x0 : List (Int × ByteArray)) (v1 v2 : Int) (x3 : List (Int × ByteArray)) (v26 : Bool) : g66_9F n (g66_m2 x0 v1 v2 x3 v26) cx = g66_9 n (fun x0 v1 v2 x3 => cx.nrm (g66_m3 x0 v1 v2 x3)) (fun x8 => cx.ret (g66_m1 x8)) x0 v1 v2 x3 v26 := by
  simp only [g66_9F, g66_9, g66_7_fx, g66_8_fx]
  kernel_rfl
noncomputable def g66_10 (n : Nat) (kn : List (Int × ByteArray) → Int → Int → List (Int × ByteArray) → Int → Option β) (x0 : List (Int × ByteArray)) (v1 v2 : Int) (x3 : List (Int × ByteArray)) : Option β := kn x0 v1 v2 x3 (w64 ((w64 ((x0.length : Int) - v2)) + (x3.length : Int)))
noncomputable def g66_10F (n : Nat) (s : FState) (cx : Cx β) : Option β := FX (g66_G n) n (nav g66_B [1, 1, 1, 0]) (.fin none (some g66_m6e) none [] .leaf) s cx
theorem g66_10_fx (n : Nat) (cx : Cx β) (x0 : List (Int × ByteArray)) (v1 v2 : Int) (x3 : List (Int × ByteArray)) : g66_10F n (g66_m3 x0 v1 v2 x3) cx = g66_10 n (fun x0 v1 v2 x3 v12 => cx.nrm (g66_m6 x0 v1 v2 x3 v12)) x0 v1 v2 x3 := by kernel_rfl
noncomputable def g66_11 (n : Nat) (kn : List (Int × ByteArray) → Int → Int → List (Int × ByteArray) → Int → Option β) (kx2 : List (Int × ByteArray) → Int → Int → List (Int × ByteArray) → Option β) (x0 : List (Int × ByteArray)) (v1 v2 : Int) (x3 : List (Int × ByteArray)) (v12 : Int) : Option β := bif (decide ((x0.length : Int) < v12)) then (roomy (x0.length + [((0 : Int), (⟨#[]⟩ : ByteArray))].length) <| kn (x0 ++ [((0 : Int), (⟨#[]⟩ : ByteArray))]) v1 v2 x3 v12) else (kx2 x0 v1 v2 x3)
noncomputable def g66_11F (n : Nat) (s : FState) (cx : Cx β) : Option β := FX (g66_G n) n (nav g66_B [1, 1, 1, 1, 0, 0, 0, 0, 0]) (.fin none none none [(2, g66_m7e)] .leaf) s { cx with nrm := fun s => FX (g66_G n) n (nav g66_B [1, 1, 1, 1, 0, 0, 0, 0, 1]) (.fin none none none [(2, g66_m7e)] .leaf) s { cx with nrm := fun s => FX (g66_G n) n (nav g66_B [1, 1, 1, 1, 0, 0, 0, 1]) (.fin none (some g66_m6e) none [(2, g66_m7e)] .leaf) s cx } }
theorem g66_11_fx (n : Nat) (cx : Cx β) (x0 : List (Int × ByteArray)) (v1 v2 : Int) (x3 : List (Int × ByteArray)) (v12 : Int) : g66_11F n (g66_m6 x0 v1 v2 x3 v12) cx = g66_11 n (fun x0 v1 v2 x3 v12 => cx.nrm (g66_m6 x0 v1 v2 x3 v12)) (fun x0 v1 v2 x3 => cx.ex 2 (g66_m7 x0 v1 v2 x3)) x0 v1 v2 x3 v12 := by kernel_rfl
noncomputable def g66_12L (n : Nat) (kx2 : List (Int × ByteArray) → Int → Int → List (Int × ByteArray) → Option β) : Nat → List (Int × ByteArray) → Int → Int → List (Int × ByteArray) → Int → Option β
  | 0, _, _, _, _, _ => none
  | m + 1, x0, v1, v2, x3, v12 => g66_11 n (g66_12L n kx2 m) kx2 x0 v1 v2 x3 v12
noncomputable def g66_12 (n : Nat) (kx2 : List (Int × ByteArray) → Int → Int → List (Int × ByteArray) → Option β) (x0 : List (Int × ByteArray)) (v1 v2 : Int) (x3 : List (Int × ByteArray)) (v12 : Int) : Option β := g66_12L n kx2 n x0 v1 v2 x3 v12
noncomputable def g66_12F (n : Nat) (s : FState) (cx : Cx β) : Option β := loopN (fun again s => g66_11F n s { cx with nrm := again }) n s
theorem g66_12L_fx (n : Nat) (cx : Cx β) : ∀ (m : Nat) (x0 : List (Int × ByteArray)) (v1 v2 : Int) (x3 : List (Int × ByteArray)) (v12 : Int), loopN (fun again s => g66_11F n s { cx with nrm := again }) m (g66_m6 x0 v1 v2 x3 v12) = g66_12L n (fun x0 v1 v2 x3 => cx.ex 2 (g66_m7 x0 v1 v2 x3)) m x0 v1 v2 x3 v12 := by
  intro m
  induction m with
  | zero => intros; rfl
  | succ m ih => intros; simp only [loopN, g66_12L, g66_11_fx, ih]
theorem g66_12_fx (n : Nat) (cx : Cx β) (x0 : List (Int × ByteArray)) (v1 v2 : Int) (x3 : List (Int × ByteArray)) (v12 : Int) : g66_12F n (g66_m6 x0 v1 v2 x3 v12) cx = g66_12 n (fun x0 v1 v2 x3 => cx.ex 2 (g66_m7 x0 v1 v2 x3)) x0 v1 v2 x3 v12 := g66_12L_fx n cx n x0 v1 v2 x3 v12
noncomputable def g66_13 (n : Nat) (kn : List (Int × ByteArray) → Int → Int → List (Int × ByteArray) → Option β) (x0 : List (Int × ByteArray)) (v1 v2 : Int) (x3 : List (Int × ByteArray)) (v12 : Int) : Option β := g66_12 n kn x0 v1 v2 x3 v12
noncomputable def g66_13F (n : Nat) (s : FState) (cx : Cx β) : Option β := g66_12F n s { cx with ex := fun j s => bif Nat.beq j 2 then cx.nrm s else cx.ex j s }
theorem g66_13_fx (n : Nat) (cx : Cx β) (x0 : List (Int × ByteArray)) (v1 v2 : Int) (x3 : List (Int × ByteArray)) (v12 : Int) : g66_13F n (g66_m6 x0 v1 v2 x3 v12) cx = g66_13 n (fun x0 v1 v2 x3 => cx.nrm (g66_m7 x0 v1 v2 x3)) x0 v1 v2 x3 v12 := g66_12_fx n _ x0 v1 v2 x3 v12
noncomputable def g66_14 (n : Nat) (kr : List (Int × ByteArray) → Option β) (x0 : List (Int × ByteArray)) (v1 v2 : Int) (x3 : List (Int × ByteArray)) : Option β := bnd (w64 (v1 + (x3.length : Int))) (x0.length : Int) (x0.length : Int) <| bnd (w64 (v1 + v2)) (x0.length : Int) (x0.length : Int) <| bnd v1 ((pasted x0 ((w64 (v1 + (x3.length : Int))) + (0 : Int)) ((x0.length : Int) - (w64 (v1 + (x3.length : Int)))) (cut x0 (w64 (v1 + v2)) ((w64 (v1 + v2)) + ((x0.length : Int) - (w64 (v1 + v2)))))).length : Int) ((pasted x0 ((w64 (v1 + (x3.length : Int))) + (0 : Int)) ((x0.length : Int) - (w64 (v1 + (x3.length : Int)))) (cut x0 (w64 (v1 + v2)) ((w64 (v1 + v2)) + ((x0.length : Int) - (w64 (v1 + v2)))))).length : Int) <| kr (pasted (pasted x0 ((w64 (v1 + (x3.length : Int))) + (0 : Int)) ((x0.length : Int) - (w64 (v1 + (x3.length : Int)))) (cut x0 (w64 (v1 + v2)) ((w64 (v1 + v2)) + ((x0.length : Int) - (w64 (v1 + v2)))))) (v1 + (0 : Int)) (((pasted x0 ((w64 (v1 + (x3.length : Int))) + (0 : Int)) ((x0.length : Int) - (w64 (v1 + (x3.length : Int)))) (cut x0 (w64 (v1 + v2)) ((w64 (v1 + v2)) + ((x0.length : Int) - (w64 (v1 + v2)))))).length : Int) - v1) x3)
noncomputable def g66_14F (n : Nat) (s : FState) (cx : Cx β) : Option β := FX (g66_G n) n (nav g66_B [1, 1, 1, 1, 1, 0]) (.fin none none (some g66_m1e) [] .leaf) s { cx with nrm := fun s => FX (g66_G n) n (nav g66_B [1, 1, 1, 1, 1, 1, 0]) (.fin none none (some g66_m1e) [] .leaf) s { cx with nrm := fun s => FX (g66_G n) n (nav g66_B [1, 1, 1, 1, 1, 1, 1, 0]) (.fin none none (some g66_m1e) [] .leaf) s { cx with nrm := fun s => FX (g66_G n) n (nav g66_B [1, 1, 1, 1, 1, 1, 1, 1]) (.fin none none (some g66_m1e) [] .leaf) s cx } } }
theorem g66_14_fx (n : Nat) (cx : Cx β) (x0 : List (Int × ByteArray)) (v1 v2 : Int) (x3 : List (Int × ByteArray)) : g66_14F n (g66_m7 x0 v1 v2 x3) cx = g66_14 n (fun x8 => cx.ret (g66_m1 x8)) x0 v1 v2 x3 := by kernel_rfl
noncomputable def g66_15 (n : Nat) (kr : List (Int × ByteArray) → Option β) (x0 : List (Int × ByteArray)) (v1 v2 : Int) (x3 : List (Int × ByteArray)) : Option β := g66_1 n (fun x0 v1 v2 x3 v26 => g66_9 n (fun x0 v1 v2 x3 => g66_10 n (fun x0 v1 v2 x3 v12 => g66_13 n (fun x0 v1 v2 x3 => g66_14 n kr x0 v1 v2 x3) x0 v1 v2 x3 v12) x0 v1 v2 x3) kr x0 v1 v2 x3 v26) kr x0 v1 v2 x3
noncomputable def g66_15F (n : Nat) (s : FState) (cx : Cx β) : Option β := g66_1F n s { cx with nrm := fun s => g66_9F n s { cx with nrm := fun s => g66_10F n s { cx with nrm := fun s => g66_13F n s { cx with nrm := fun s => g66_14F n s cx } } } }
theorem g66_15_fx (n : Nat) (cx : Cx β) (x0 : List (Int × ByteArray)) (v1 v2 : Int) (x3 : List (Int × ByteArray)) : g66_15F n (g66_m0 x0 v1 v2 x3) cx = g66_15 n (fun x8 => cx.ret (g66_m1 x8)) x0 v1 v2 x3 := by simp only [g66_15F, g66_15, g66_1_fx, g66_9_fx, g66_10_fx, g66_13_fx, g66_14_fx]
noncomputable def g66 (n : Nat) (x0 : List (Int × ByteArray)) (v1 v2 : Int) (x3 : List (Int × ByteArray)) : Option (DenR [.rw (.pair (.int .i8) .str) 75]) := g66_15 n (fun x8 => some (x8, ())) x0 v1 v2 x3
noncomputable def g66_A : List AK := [.rw (.pair (.int .i8) .str) 75, .dat (.int .i64), .dat (.int .i64), .ro (.pair (.int .i8) .str) 75]
noncomputable def g66_R : List RK := [.rw (.pair (.int .i8) .str) 75]
noncomputable def g66_f (n : Nat) (d : DenA g66_A) : Option (DenR g66_R) := g66 n d.1 d.2.1 d.2.2.1 d.2.2.2.1
noncomputable def g66_S (n : Nat) : Spec := mkSpec g66_A g66_R (g66_f n)
noncomputable def g66_K : Sk := (.nd (.fin none none (some g66_m1e) [] .leaf) (.nd (.nd (.fin none none (some g66_m1e) [] .leaf) (.fin none none (some g66_m1e) [] .leaf)) (.nd (.nd (.fin none (some g66_m2e) (some g66_m1e) [] .leaf) (.nd (.nd (.fin none none none [] .leaf) (.nd (.fin none none none [] .leaf) (.nd (.fin none none none [] .leaf) (.nd (.fin none none none [] .leaf) (.nd (.nd (.fin none (some g66_m4e) none [] .leaf) (.nd (.nd (.nd (.fin none none none [(0, g66_m5e)] .leaf) (.nd (.fin none none none [(0, g66_m5e)] .leaf) (.nd (.fin none none none [(0, g66_m5e)] .leaf) (.fin none (some g66_m4e) none [(0, g66_m5e)] .leaf)))) .leaf) .leaf)) (.nd (.fin none none (some g66_m1e) [] .leaf) (.fin none none (some g66_m1e) [] .leaf))))))) (.fin none (some g66_m3e) none [] .leaf))) (.nd (.fin none (some g66_m6e) none [] .leaf) (.nd (.nd (.nd (.nd (.nd (.fin none none none [(2, g66_m7e)] .leaf) (.fin none none none [(2, g66_m7e)] .leaf)) (.fin none (some g66_m6e) none [(2, g66_m7e)] .leaf)) .leaf) .leaf) (.nd (.fin none none (some g66_m1e) [] .leaf) (.nd (.fin none none (some g66_m1e) [] .leaf) (.nd (.fin none none (some g66_m1e) [] .leaf) (.fin none none (some g66_m1e) [] .leaf)))))))))
theorem g66_top (n : Nat) (s : FState) (cx : Cx β) : FX (g66_G n) n g66_B g66_K s cx = g66_15F n s cx := by kernel_rfl
theorem g66_fit (n : Nat) : Fit Tryd.prog 66 (g66_S n) :=
  fit_of (Γ := Γ0) (l := g66_C n) (n := n) (sk := g66_K) (ts := [(8, none)]) (fn := Tryd.f66) (c := g66_B) (by kernel_rfl) (by kernel_rfl) (by unfold Callable; kernel_rfl) tab_ok trivial follows_mixed (by kernel_rfl) (by kernel_rfl) (Nat.le_of_ble_eq_true (by kernel_rfl)) (by kernel_rfl) (by kernel_rfl)
    (fun d => (g66_top n _ _).trans (Eq.trans (b := g66_15F n (g66_m0 d.1 d.2.1 d.2.2.1 d.2.2.2.1) (finCx (g66_G n) g66_R [(8, none)])) (by kernel_rfl) ((g66_15_fx n _ d.1 d.2.1 d.2.2.1 d.2.2.2.1).trans (by kernel_rfl))))
noncomputable def g55_m0 (p0 : (Int × (Int × (Int × (Nat × (Int × (Int × Nat))))))) (x1 : List (Int × ByteArray)) : FState := ⟨tlist [(0, .ptr 0 0 0), (1, .sl 1 none false)], olist [(0, .row (.pair (.int .i64) (.pair (.int .i64) (.pair (.int .i64) (.pair (.flt .f64) (.pair (.int .i64) (.pair (.int .i64) (.flt .f64))))))) 70 false [p0]), (1, .row (.pair (.int .i8) .str) 75 true x1)]⟩
noncomputable def g55_m1 (x4 : List (Int × ByteArray)) : FState := ⟨tlist [(4, .sl 4 none false)], olist [(4, .row (.pair (.int .i8) .str) 75 true x4)]⟩
noncomputable def g55_m1e : List NE := [.row 4 (.pair (.int .i8) .str) 75 true]
noncomputable def g55_m2 (p0 : (Int × (Int × (Int × (Nat × (Int × (Int × Nat))))))) (x1 : List (Int × ByteArray)) (v5 : Int) : FState := ⟨tlist [(0, .ptr 0 0 0), (1, .sl 1 none false), (5, .dat (.int .i64) v5)], olist [(0, .row (.pair (.int .i64) (.pair (.int .i64) (.pair (.int .i64) (.pair (.flt .f64) (.pair (.int .i64) (.pair (.int .i64) (.flt .f64))))))) 70 false [p0]), (1, .row (.pair (.int .i8) .str) 75 true x1)]⟩
noncomputable def g55_m2e : List NE := [.ptr 0 (.pair (.int .i64) (.pair (.int .i64) (.pair (.int .i64) (.pair (.flt .f64) (.pair (.int .i64) (.pair (.int .i64) (.flt .f64))))))) 70 false, .row 1 (.pair (.int .i8) .str) 75 true, .keep 5]
noncomputable def g55_m3 (x1 : List (Int × ByteArray)) : FState := ⟨tlist [(1, .sl 1 none false)], olist [(1, .row (.pair (.int .i8) .str) 75 true x1)]⟩
noncomputable def g55_m3e : List NE := [.row 1 (.pair (.int .i8) .str) 75 true]
noncomputable def g55_m4 (p0 : (Int × (Int × (Int × (Nat × (Int × (Int × Nat))))))) (x1 : List (Int × ByteArray)) (v5 : Int) : FState := ⟨tlist [(0, .ptr 0 0 0), (1, .sl 1 none false), (5, .dat (.int .i64) v5)], olist [(0, .row (.pair (.int .i64) (.pair (.int .i64) (.pair (.int .i64) (.pair (.flt .f64) (.pair (.int .i64) (.pair (.int .i64) (.flt .f64))))))) 70 false [p0]), (1, .row (.pair (.int .i8) .str) 75 true x1)]⟩
noncomputable def g55_m4e : List NE := [.ptr 0 (.pair (.int .i64) (.pair (.int .i64) (.pair (.int .i64) (.pair (.flt .f64) (.pair (.int .i64) (.pair (.int .i64) (.flt .f64))))))) 70 false, .row 1 (.pair (.int .i8) .str) 75 true, .keep 5]
noncomputable def g55_m5 (p0 : (Int × (Int × (Int × (Nat × (Int × (Int × Nat))))))) (x1 : List (Int × ByteArray)) (v5 : Int) (v38 : Bool) : FState := ⟨tlist [(0, .ptr 0 0 0), (1, .sl 1 none false), (5, .dat (.int .i64) v5), (38, .dat .bool v38)], olist [(0, .row (.pair (.int .i64) (.pair (.int .i64) (.pair (.int .i64) (.pair (.flt .f64) (.pair (.int .i64) (.pair (.int .i64) (.flt .f64))))))) 70 false [p0]), (1, .row (.pair (.int .i8) .str) 75 true x1)]⟩
noncomputable def g55_m5e : List NE := [.ptr 0 (.pair (.int .i64) (.pair (.int .i64) (.pair (.int .i64) (.pair (.flt .f64) (.pair (.int .i64) (.pair (.int .i64) (.flt .f64))))))) 70 false, .row 1 (.pair (.int .i8) .str) 75 true, .keep 5, .keep 38]
noncomputable def g55_m6 (p0 : (Int × (Int × (Int × (Nat × (Int × (Int × Nat))))))) (x1 : List (Int × ByteArray)) (v5 : Int) : FState := ⟨tlist [(0, .ptr 0 0 0), (1, .sl 1 none false), (5, .dat (.int .i64) v5)], olist [(0, .row (.pair (.int .i64) (.pair (.int .i64) (.pair (.int .i64) (.pair (.flt .f64) (.pair (.int .i64) (.pair (.int .i64) (.flt .f64))))))) 70 false [p0]), (1, .row (.pair (.int .i8) .str) 75 true x1)]⟩
noncomputable def g55_m6e : List NE := [.ptr 0 (.pair (.int .i64) (.pair (.int .i64) (.pair (.int .i64) (.pair (.flt .f64) (.pair (.int .i64) (.pair (.int .i64) (.flt .f64))))))) 70 false, .row 1 (.pair (.int .i8) .str) 75 true, .keep 5]
noncomputable def g55_m7 (p0 : (Int × (Int × (Int × (Nat × (Int × (Int × Nat))))))) (x1 : List (Int × ByteArray)) (v5 : Int) (v6 v7 v8 : ByteArray) : FState := ⟨tlist [(0, .ptr 0 0 0), (1, .sl 1 none false), (5, .dat (.int .i64) v5), (6, .dat .str v6), (7, .dat .str v7), (8, .dat .str v8)], olist [(0, .row (.pair (.int .i64) (.pair (.int .i64) (.pair (.int .i64) (.pair (.flt .f64) (.pair (.int .i64) (.pair (.int .i64) (.flt .f64))))))) 70 false [p0]), (1, .row (.pair (.int .i8) .str) 75 true x1)]⟩
noncomputable def g55_m7e : List NE := [.ptr 0 (.pair (.int .i64) (.pair (.int .i64) (.pair (.int .i64) (.pair (.flt .f64) (.pair (.int .i64) (.pair (.int .i64) (.flt .f64))))))) 70 false, .row 1 (.pair (.int .i8) .str) 75 true, .keep 5, .keep 6, .keep 7, .keep 8]
noncomputable def g55_m8 (p0 : (Int × (Int × (Int × (Nat × (Int × (Int × Nat))))))) (x1 : List (Int × ByteArray)) (v5 : Int) (v6 v7 v8 v11 v12 v13 : ByteArray) (v14 : Int) : FState := ⟨tlist [(0, .ptr 0 0 0), (1, .sl 1 none false), (5, .dat (.int .i64) v5), (6, .dat .str v6), (7, .dat .str v7), (8, .dat .str v8), (11, .dat .str v11), (12, .dat .str v12), (13, .dat .str v13), (14, .dat (.int .i64) v14)], olist [(0, .row (.pair (.int .i64) (.pair (.int .i64) (.pair (.int .i64) (.pair (.flt .f64) (.pair (.int .i64) (.pair (.int .i64) (.flt .f64))))))) 70 false [p0]), (1, .row (.pair (.int .i8) .str) 75 true x1)]⟩
noncomputable def g55_m8e : List NE := [.ptr 0 (.pair (.int .i64) (.pair (.int .i64) (.pair (.int .i64) (.pair (.flt .f64) (.pair (.int .i64) (.pair (.int .i64) (.flt .f64))))))) 70 false, .row 1 (.pair (.int .i8) .str) 75 true, .keep 5, .keep 6, .keep 7, .keep 8, .keep 11, .keep 12, .keep 13, .keep 14]
noncomputable def g55_m9 (p0 : (Int × (Int × (Int × (Nat × (Int × (Int × Nat))))))) (x1 : List (Int × ByteArray)) (v5 : Int) (v11 v12 v13 : ByteArray) : FState := ⟨tlist [(0, .ptr 0 0 0), (1, .sl 1 none false), (5, .dat (.int .i64) v5), (11, .dat .str v11), (12, .dat .str v12), (13, .dat .str v13)], olist [(0, .row (.pair (.int .i64) (.pair (.int .i64) (.pair (.int .i64) (.pair (.flt .f64) (.pair (.int .i64) (.pair (.int .i64) (.flt .f64))))))) 70 false [p0]), (1, .row (.pair (.int .i8) .str) 75 true x1)]⟩
noncomputable def g55_m9e : List NE := [.ptr 0 (.pair (.int .i64) (.pair (.int .i64) (.pair (.int .i64) (.pair (.flt .f64) (.pair (.int .i64) (.pair (.int .i64) (.flt .f64))))))) 70 false, .row 1 (.pair (.int .i8) .str) 75 true, .keep 5, .keep 11, .keep 12, .keep 13]
noncomputable def g55_C (n : Nat) : List (Nat × Spec) := [(63, g63_S n), (64, g64_S n), (65, g65_S n), (66, g66_S n)]
noncomputable def g55_G (n : Nat) : Ctx := { Γ0 with calls := lkS (g55_C n) }
noncomputable def g55_B : Code := fb Tryd.f55
noncomputable def g55_1 (n : Nat) (kn : (Int × (Int × (Int × (Nat × (Int × (Int × Nat)))))) → List (Int × ByteArray) → Int → Option β) (p0 : (Int × (Int × (Int × (Nat × (Int × (Int × Nat))))))) (x1 : List (Int × ByteArray)) : Option β := kn p0 x1 (1 : Int)
noncomputable def g55_1F (n : Nat) (s : FState) (cx : Cx β) : Option β := FX (g55_G n) n (nav g55_B [0]) (.fin none none none [] .leaf) s { cx with nrm := fun s => FX (g55_G n) n (nav g55_B [1, 0]) (.fin none (some g55_m2e) none [] .leaf) s cx }
theorem g55_1_fx (n : Nat) (cx : Cx β) (p0 : (Int × (Int × (Int × (Nat × (Int × (Int × Nat))))))) (x1 : List (Int × ByteArray)) : g55_1F n (g55_m0 p0 x1) cx = g55_1 n (fun p0 x1 v5 => cx.nrm (g55_m2 p0 x1 v5)) p0 x1 := by kernel_rfl
noncomputable def g55_2 (n : Nat) (kn : (Int × (Int × (Int × (Nat × (Int × (Int × Nat)))))) → List (Int × ByteArray) → Int → Option β) (kx0 : List (Int × ByteArray) → Option β) (p0 : (Int × (Int × (Int × (Nat × (Int × (Int × Nat))))))) (x1 : List (Int × ByteArray)) (v5 : Int) : Option β := bif (decide (v5 < (w64 ((x1.length : Int) - (1 : Int))))) then (kn p0 x1 v5) else (kx0 x1)
noncomputable def g55_2F (n : Nat) (s : FState) (cx : Cx β) : Option β := FX (g55_G n) n (nav g55_B [1, 1, 0, 0, 0, 0, 0]) (.fin none none none [(0, g55_m3e)] .leaf) s { cx with nrm := fun s => FX (g55_G n) n (nav g55_B [1, 1, 0, 0, 0, 0, 1]) (.fin none (some g55_m4e) none [(0, g55_m3e)] .leaf) s cx }
theorem g55_2_fx (n : Nat) (cx : Cx β) (p0 : (Int × (Int × (Int × (Nat × (Int × (Int × Nat))))))) (x1 : List (Int × ByteArray)) (v5 : Int) : g55_2F n (g55_m2 p0 x1 v5) cx = g55_2 n (fun p0 x1 v5 => cx.nrm (g55_m4 p0 x1 v5)) (fun x1 => cx.ex 0 (g55_m3 x1)) p0 x1 v5 := by kernel_rfl
noncomputable def g55_3 (n : Nat) (kn : (Int × (Int × (Int × (Nat × (Int × (Int × Nat)))))) → List (Int × ByteArray) → Int → Bool → Option β) (p0 : (Int × (Int × (Int × (Nat × (Int × (Int × Nat))))))) (x1 : List (Int × ByteArray)) (v5 : Int) : Option β := idx (w64 (v5 - (1 : Int))) (x1.length : Int) <| bif ((rd x1 (w64 (v5 - (1 : Int))) ((0 : Int), (⟨#[]⟩ : ByteArray))).1 == (0 : Int)) then (idx (w64 (v5 + (1 : Int))) (x1.length : Int) <| kn p0 x1 v5 ((rd x1 (w64 (v5 + (1 : Int))) ((0 : Int), (⟨#[]⟩ : ByteArray))).1 == (0 : Int))) else (kn p0 x1 v5 false)
noncomputable def g55_3F (n : Nat) (s : FState) (cx : Cx β) : Option β := FX (g55_G n) n (nav g55_B [1, 1, 0, 0, 0, 1, 0, 0, 0]) (.fin none (some g55_m5e) none [] .leaf) s cx
theorem g55_3_fx (n : Nat) (cx : Cx β) (p0 : (Int × (Int × (Int × (Nat × (Int × (Int × Nat))))))) (x1 : List (Int × ByteArray)) (v5 : Int) : g55_3F n (g55_m4 p0 x1 v5) cx = g55_3 n (fun p0 x1 v5 v38 => cx.nrm (g55_m5 p0 x1 v5 v38)) p0 x1 v5 := by kernel_rfl
noncomputable def g55_4 (n : Nat) (kn : (Int × (Int × (Int × (Nat × (Int × (Int × Nat)))))) → List (Int × ByteArray) → Int → ByteArray → ByteArray → ByteArray → Option β) (p0 : (Int × (Int × (Int × (Nat × (Int × (Int × Nat))))))) (x1 : List (Int × ByteArray)) (v5 : Int) (v38 : Bool) : Option β := idx (w64 (v5 - (1 : Int))) (x1.length : Int) <| idx v5 (x1.length : Int) <| idx (w64 (v5 + (1 : Int))) (x1.length : Int) <| (g63 n p0 ((rd x1 (w64 (v5 - (1 : Int))) ((0 : Int), (⟨#[]⟩ : ByteArray))).2) ((rd x1 v5 ((0 : Int), (⟨#[]⟩ : ByteArray))).2)).bind fun r1 => bif (decide (r1.1 > (0 : Int))) then (bnd (w64 ((((rd x1 v5 ((0 : Int), (⟨#[]⟩ : ByteArray))).2).size : Int) - r1.1)) (((rd x1 v5 ((0 : Int), (⟨#[]⟩ : ByteArray))).2).size : Int) (((rd x1 v5 ((0 : Int), (⟨#[]⟩ : ByteArray))).2).size : Int) <| bnd (0 : Int) (w64 ((((rd x1 (w64 (v5 - (1 : Int))) ((0 : Int), (⟨#[]⟩ : ByteArray))).2).size : Int) - r1.1)) (((rd x1 (w64 (v5 - (1 : Int))) ((0 : Int), (⟨#[]⟩ : ByteArray))).2).size : Int) <| bnd (0 : Int) (w64 ((((rd x1 v5 ((0 : Int), (⟨#[]⟩ : ByteArray))).2).size : Int) - r1.1)) (((rd x1 v5 ((0 : Int), (⟨#[]⟩ : ByteArray))).2).size : Int) <| roomy ((cutS ((rd x1 v5 ((0 : Int), (⟨#[]⟩ : ByteArray))).2) (w64 ((((rd x1 v5 ((0 : Int), (⟨#[]⟩ : ByteArray))).2).size : Int) - r1.1)) (((rd x1 v5 ((0 : Int), (⟨#[]⟩ : ByteArray))).2).size : Int)).size + (cutS ((rd x1 v5 ((0 : Int), (⟨#[]⟩ : ByteArray))).2) (0 : Int) (w64 ((((rd x1 v5 ((0 : Int), (⟨#[]⟩ : ByteArray))).2).size : Int) - r1.1))).size) <| roomy ((cutS ((rd x1 v5 ((0 : Int), (⟨#[]⟩ : ByteArray))).2) (w64 ((((rd x1 v5 ((0 : Int), (⟨#[]⟩ : ByteArray))).2).size : Int) - r1.1)) (((rd x1 v5 ((0 : Int), (⟨#[]⟩ : ByteArray))).2).size : Int)).size + ((rd x1 (w64 (v5 + (1 : Int))) ((0 : Int), (⟨#[]⟩ : ByteArray))).2).size) <| kn p0 x1 v5 (cutS ((rd x1 (w64 (v5 - (1 : Int))) ((0 : Int), (⟨#[]⟩ : ByteArray))).2) (0 : Int) (w64 ((((rd x1 (w64 (v5 - (1 : Int))) ((0 : Int), (⟨#[]⟩ : ByteArray))).2).size : Int) - r1.1))) ((cutS ((rd x1 v5 ((0 : Int), (⟨#[]⟩ : ByteArray))).2) (w64 ((((rd x1 v5 ((0 : Int), (⟨#[]⟩ : ByteArray))).2).size : Int) - r1.1)) (((rd x1 v5 ((0 : Int), (⟨#[]⟩ : ByteArray))).2).size : Int)) ++ (cutS ((rd x1 v5 ((0 : Int), (⟨#[]⟩ : ByteArray))).2) (0 : Int) (w64 ((((rd x1 v5 ((0 : Int), (⟨#[]⟩ : ByteArray))).2).size : Int) - r1.1)))) ((cutS ((rd x1 v5 ((0 : Int), (⟨#[]⟩ : ByteArray))).2) (w64 ((((rd x1 v5 ((0 : Int), (⟨#[]⟩ : ByteArray))).2).size : Int) - r1.1)) (((rd x1 v5 ((0 : Int), (⟨#[]⟩ : ByteArray))).2).size : Int)) ++ (rd x1 (w64 (v5 + (1 : Int))) ((0 : Int), (⟨#[]⟩ : ByteArray))).2)) else (kn p0 x1 v5 ((rd x1 (w64 (v5 - (1 : Int))) ((0 : Int), (⟨#[]⟩ : ByteArray))).2) ((rd x1 v5 ((0 : Int), (⟨#[]⟩ : ByteArray))).2) ((rd x1 (w64 (v5 + (1 : Int))) ((0 : Int), (⟨#[]⟩ : ByteArray))).2))
noncomputable def g55_4F (n : Nat) (s : FState) (cx : Cx β) : Option β := FX (g55_G n) n (nav g55_B [1, 1, 0, 0, 0, 1, 0, 0, 1, 0, 0]) (.fin none none none [] .leaf) s { cx with nrm := fun s => FX (g55_G n) n (nav g55_B [1, 1, 0, 0, 0, 1, 0, 0, 1, 0, 1, 0]) (.fin none none none [] .leaf) s { cx with nrm := fun s => FX (g55_G n) n (nav g55_B [1, 1, 0, 0, 0, 1, 0, 0, 1, 0, 1, 1, 0]) (.fin none none none [] .leaf) s { cx with nrm := fun s => FX (g55_G n) n (nav g55_B [1, 1, 0, 0, 0, 1, 0, 0, 1, 0, 1, 1, 1, 0]) (.fin none none none [] .leaf) s { cx with nrm := fun s => FX (g55_G n) n (nav g55_B [1, 1, 0, 0, 0, 1, 0, 0, 1, 0, 1, 1, 1, 1, 0, 0]) (.fin none none none [] .leaf) s { cx with nrm := fun s => FX (g55_G n) n (nav g55_B [1, 1, 0, 0, 0, 1, 0, 0, 1, 0, 1, 1, 1, 1, 0, 1]) (.fin none (some g55_m7e) none [] .leaf) s cx } } } } }
theorem g55_4_fx (n : Nat) (cx : Cx β) (p0 : (Int × (Int × (Int × (Nat × (Int × (Int × Nat))))))) (x1 : List (Int × ByteArray)) (v5 : Int) (v38 : Bool) : g55_4F n (g55_m5 p0 x1 v5 v38) cx = g55_4 n (fun p0 x1 v5 v6 v7 v8 => cx.nrm (g55_m7 p0 x1 v5 v6 v7 v8)) p0 x1 v5 v38 := by kernel_rfl
noncomputable def g55_5 (n : Nat) (kn : (Int × (Int × (Int × (Nat × (Int × (Int × Nat)))))) → List (Int × ByteArray) → Int → ByteArray → ByteArray → ByteArray → ByteArray → ByteArray → ByteArray → Int → Option β) (p0 : (Int × (Int × (Int × (Nat × (Int × (Int × Nat))))))) (x1 : List (Int × ByteArray)) (v5 : Int) (v6 v7 v8 : ByteArray) : Option β := (g64 n v6 v7).bind fun r1 => (g64 n v7 v8).bind fun r2 => kn p0 x1 v5 v6 v7 v8 v6 v7 v8 (w64 (r1.1 + r2.1))
noncomputable def g55_5F (n : Nat) (s : FState) (cx : Cx β) : Option β := FX (g55_G n) n (nav g55_B [1, 1, 0, 0, 0, 1, 0, 0, 1, 0, 1, 1, 1, 1, 1, 0]) (.fin none none none [] .leaf) s { cx with nrm := fun s => FX (g55_G n) n (nav g55_B [1, 1, 0, 0, 0, 1, 0, 0, 1, 0, 1, 1, 1, 1, 1, 1, 0]) (.fin none none none [] .leaf) s { cx with nrm := fun s => FX (g55_G n) n (nav g55_B [1, 1, 0, 0, 0, 1, 0, 0, 1, 0, 1, 1, 1, 1, 1, 1, 1, 0]) (.fin none none none [] .leaf) s { cx with nrm := fun s => FX (g55_G n) n (nav g55_B [1, 1, 0, 0, 0, 1, 0, 0, 1, 0, 1, 1, 1, 1, 1, 1, 1, 1, 0]) (.fin none (some g55_m8e) none [] .leaf) s cx } } }
theorem g55_5_fx (n : Nat) (cx : Cx β) (p0 : (Int × (Int × (Int × (Nat × (Int × (Int × Nat))))))) (x1 : List (Int × ByteArray)) (v5 : Int) (v6 v7 v8 : ByteArray) : g55_5F n (g55_m7 p0 x1 v5 v6 v7 v8) cx = g55_5 n (fun p0 x1 v5 v6 v7 v8 v11 v12 v13 v14 => cx.nrm (g55_m8 p0 x1 v5 v6 v7 v8 v11 v12 v13 v14)) p0 x1 v5 v6 v7 v8 := by kernel_rfl
noncomputable def g55_6 (n : Nat) (kn : (Int × (Int × (Int × (Nat × (Int × (Int × Nat)))))) → List (Int × ByteArray) → Int → ByteArray → ByteArray → ByteArray → ByteArray → ByteArray → ByteArray → Int → Option β) (kx2 : (Int × (Int × (Int × (Nat × (Int × (Int × Nat)))))) → List (Int × ByteArray) → Int → ByteArray → ByteArray → ByteArray → Option β) (p0 : (Int × (Int × (Int × (Nat × (Int × (Int × Nat))))))) (x1 : List (Int × ByteArray)) (v5 : Int) (v6 v7 v8 v11 v12 v13 : ByteArray) (v14 : Int) : Option β := bif ((v7.size : Int) != (0 : Int)) then (bif ((v8.size : Int) != (0 : Int)) then ((g65 n v7).bind fun r1 => bif (decide ((v8.size : Int) < r1.2.1)) then (kx2 p0 x1 v5 v11 v12 v13) else (bnd (0 : Int) r1.2.1 (v7.size : Int) <| bnd (0 : Int) r1.2.1 (v8.size : Int) <| bif (!strEq (cutS v7 (0 : Int) r1.2.1) (cutS v8 (0 : Int) r1.2.1)) then (kx2 p0 x1 v5 v11 v12 v13) else (bnd (0 : Int) r1.2.1 (v7.size : Int) <| roomy (v6.size + (cutS v7 (0 : Int) r1.2.1).size) <| bnd r1.2.1 (v7.size : Int) (v7.size : Int) <| bnd (0 : Int) r1.2.1 (v8.size : Int) <| roomy ((cutS v7 r1.2.1 (v7.size : Int)).size + (cutS v8 (0 : Int) r1.2.1).size) <| bnd r1.2.1 (v8.size : Int) (v8.size : Int) <| (g64 n (v6 ++ (cutS v7 (0 : Int) r1.2.1)) ((cutS v7 r1.2.1 (v7.size : Int)) ++ (cutS v8 (0 : Int) r1.2.1))).bind fun r2 => (g64 n ((cutS v7 r1.2.1 (v7.size : Int)) ++ (cutS v8 (0 : Int) r1.2.1)) (cutS v8 r1.2.1 (v8.size : Int))).bind fun r3 => bif (decide ((w64 (r2.1 + r3.1)) ≥ v14)) then (kn p0 x1 v5 (v6 ++ (cutS v7 (0 : Int) r1.2.1)) ((cutS v7 r1.2.1 (v7.size : Int)) ++ (cutS v8 (0 : Int) r1.2.1)) (cutS v8 r1.2.1 (v8.size : Int)) (v6 ++ (cutS v7 (0 : Int) r1.2.1)) ((cutS v7 r1.2.1 (v7.size : Int)) ++ (cutS v8 (0 : Int) r1.2.1)) (cutS v8 r1.2.1 (v8.size : Int)) (w64 (r2.1 + r3.1))) else (kn p0 x1 v5 (v6 ++ (cutS v7 (0 : Int) r1.2.1)) ((cutS v7 r1.2.1 (v7.size : Int)) ++ (cutS v8 (0 : Int) r1.2.1)) (cutS v8 r1.2.1 (v8.size : Int)) v11 v12 v13 v14)))) else (kx2 p0 x1 v5 v11 v12 v13)) else (kx2 p0 x1 v5 v11 v12 v13)
noncomputable def g55_6F (n : Nat) (s : FState) (cx : Cx β) : Option β := FX (g55_G n) n (nav g55_B [1, 1, 0, 0, 0, 1, 0, 0, 1, 0, 1, 1, 1, 1, 1, 1, 1, 1, 1, 0, 0, 0, 0, 0]) (.fin none none none [(2, g55_m9e)] .leaf) s { cx with nrm := fun s => FX (g55_G n) n (nav g55_B [1, 1, 0, 0, 0, 1, 0, 0, 1, 0, 1, 1, 1, 1, 1, 1, 1, 1, 1, 0, 0, 0, 0, 1]) (.fin none none none [(2, g55_m9e)] .leaf) s { cx with nrm := fun s => FX (g55_G n) n (nav g55_B [1, 1, 0, 0, 0, 1, 0, 0, 1, 0, 1, 1, 1, 1, 1, 1, 1, 1, 1, 0, 0, 0, 1]) (.fin none (some g55_m8e) none [(2, g55_m9e)] .leaf) s cx } }
theorem g55_6_fx (n : Nat) (cx : Cx β) (p0 : (Int × (Int × (Int × (Nat × (Int × (Int × Nat))))))) (x1 : List (Int × ByteArray)) (v5 : Int) (v6 v7 v8 v11 v12 v13 : ByteArray) (v14 : Int) : g55_6F n (g55_m8 p0 x1 v5 v6 v7 v8 v11 v12 v13 v14) cx = g55_6 n (fun p0 x1 v5 v6 v7 v8 v11 v12 v13 v14 => cx.nrm (g55_m8 p0 x1 v5 v6 v7 v8 v11 v12 v13 v14)) (fun p0 x1 v5 v11 v12 v13 => cx.ex 2 (g55_m9 p0 x1 v5 v11 v12 v13)) p0 x1 v5 v6 v7 v8 v11 v12 v13 v14 := by kernel_rfl
noncomputable def g55_7L (n : Nat) (kx2 : (Int × (Int × (Int × (Nat × (Int × (Int × Nat)))))) → List (Int × ByteArray) → Int → ByteArray → ByteArray → ByteArray → Option β) : Nat → (Int × (Int × (Int × (Nat × (Int × (Int × Nat)))))) → List (Int × ByteArray) → Int → ByteArray → ByteArray → ByteArray → ByteArray → ByteArray → ByteArray → Int → Option β
  | 0, _, _, _, _, _, _, _, _, _, _ => none
  | m + 1, p0, x1, v5, v6, v7, v8, v11, v12, v13, v14 => g55_6 n (g55_7L n kx2 m) kx2 p0 x1 v5 v6 v7 v8 v11 v12 v13 v14
noncomputable def g55_7 (n : Nat) (kx2 : (Int × (Int × (Int × (Nat × (Int × (Int × Nat)))))) → List (Int × ByteArray) → Int → ByteArray → ByteArray → ByteArray → Option β) (p0 : (Int × (Int × (Int × (Nat × (Int × (Int × Nat))))))) (x1 : List (Int × ByteArray)) (v5 : Int) (v6 v7 v8 v11 v12 v13 : ByteArray) (v14 : Int) : Option β := g55_7L n kx2 n p0 x1 v5 v6 v7 v8 v11 v12 v13 v14
noncomputable def g55_7F (n : Nat) (s : FState) (cx : Cx β) : Option β := loopN (fun again s => g55_6F n s { cx with nrm := again }) n s
theorem g55_7L_fx (n : Nat) (cx : Cx β) : ∀ (m : Nat) (p0 : (Int × (Int × (Int × (Nat × (Int × (Int × Nat))))))) (x1 : List (Int × ByteArray)) (v5 : Int) (v6 v7 v8 v11 v12 v13 : ByteArray) (v14 : Int), loopN (fun again s => g55_6F n s { cx with nrm := again }) m (g55_m8 p0 x1 v5 v6 v7 v8 v11 v12 v13 v14) = g55_7L n (fun p0 x1 v5 v11 v12 v13 => cx.ex 2 (g55_m9 p0 x1 v5 v11 v12 v13)) m p0 x1 v5 v6 v7 v8 v11 v12 v13 v14 := by
  intro m
  induction m with
  | zero => intros; rfl
  | succ m ih => intros; simp only [loopN, g55_7L, g55_6_fx, ih]
theorem g55_7_fx (n : Nat) (cx : Cx β) (p0 : (Int × (Int × (Int × (Nat × (Int × (Int × Nat))))))) (x1 : List (Int × ByteArray)) (v5 : Int) (v6 v7 v8 v11 v12 v13 : ByteArray) (v14 : Int) : g55_7F n (g55_m8 p0 x1 v5 v6 v7 v8 v11 v12 v13 v14) cx = g55_7 n (fun p0 x1 v5 v11 v12 v13 => cx.ex 2 (g55_m9 p0 x1 v5 v11 v12 v13)) p0 x1 v5 v6 v7 v8 v11 v12 v13 v14 := g55_7L_fx n cx n p0 x1 v5 v6 v7 v8 v11 v12 v13 v14
noncomputable def g55_8 (n : Nat) (kn : (Int × (Int × (Int × (Nat × (Int × (Int × Nat)))))) → List (Int × ByteArray) → Int → ByteArray → ByteArray → ByteArray → Option β) (p0 : (Int × (Int × (Int × (Nat × (Int × (Int × Nat))))))) (x1 : List (Int × ByteArray)) (v5 : Int) (v6 v7 v8 v11 v12 v13 : ByteArray) (v14 : Int) : Option β := g55_7 n kn p0 x1 v5 v6 v7 v8 v11 v12 v13 v14
noncomputable def g55_8F (n : Nat) (s : FState) (cx : Cx β) : Option β := g55_7F n s { cx with ex := fun j s => bif Nat.beq j 2 then cx.nrm s else cx.ex j s }
theorem g55_8_fx (n : Nat) (cx : Cx β) (p0 : (Int × (Int × (Int × (Nat × (Int × (Int × Nat))))))) (x1 : List (Int × ByteArray)) (v5 : Int) (v6 v7 v8 v11 v12 v13 : ByteArray) (v14 : Int) : g55_8F n (g55_m8 p0 x1 v5 v6 v7 v8 v11 v12 v13 v14) cx = g55_8 n (fun p0 x1 v5 v11 v12 v13 => cx.nrm (g55_m9 p0 x1 v5 v11 v12 v13)) p0 x1 v5 v6 v7 v8 v11 v12 v13 v14 := g55_7_fx n _ p0 x1 v5 v6 v7 v8 v11 v12 v13 v14
noncomputable def g55_9 (n : Nat) (kn : (Int × (Int × (Int × (Nat × (Int × (Int × Nat)))))) → List (Int × ByteArray) → Int → Option β) (p0 : (Int × (Int × (Int × (Nat × (Int × (Int × Nat))))))) (x1 : List (Int × ByteArray)) (v5 : Int) (v11 v12 v13 : ByteArray) : Option β := idx (w64 (v5 - (1 : Int))) (x1.length : Int) <| bif (!strEq ((rd x1 (w64 (v5 - (1 : Int))) ((0 : Int), (⟨#[]⟩ : ByteArray))).2) v11) then (bif ((v11.size : Int) != (0 : Int)) then (idx (w64 (v5 - (1 : Int))) (x1.length : Int) <| idx v5 ((x1.set (w64 (v5 - (1 : Int))).toNat ((rd x1 (w64 (v5 - (1 : Int))) ((0 : Int), (⟨#[]⟩ : ByteArray))).1, v11)).length : Int) <| bif ((v13.size : Int) != (0 : Int)) then (idx (w64 (v5 + (1 : Int))) (((x1.set (w64 (v5 - (1 : Int))).toNat ((rd x1 (w64 (v5 - (1 : Int))) ((0 : Int), (⟨#[]⟩ : ByteArray))).1, v11)).set v5.toNat ((rd (x1.set (w64 (v5 - (1 : Int))).toNat ((rd x1 (w64 (v5 - (1 : Int))) ((0 : Int), (⟨#[]⟩ : ByteArray))).1, v11)) v5 ((0 : Int), (⟨#[]⟩ : ByteArray))).1, v12)).length : Int) <| kn p0 (((x1.set (w64 (v5 - (1 : Int))).toNat ((rd x1 (w64 (v5 - (1 : Int))) ((0 : Int), (⟨#[]⟩ : ByteArray))).1, v11)).set v5.toNat ((rd (x1.set (w64 (v5 - (1 : Int))).toNat ((rd x1 (w64 (v5 - (1 : Int))) ((0 : Int), (⟨#[]⟩ : ByteArray))).1, v11)) v5 ((0 : Int), (⟨#[]⟩ : ByteArray))).1, v12)).set (w64 (v5 + (1 : Int))).toNat ((rd ((x1.set (w64 (v5 - (1 : Int))).toNat ((rd x1 (w64 (v5 - (1 : Int))) ((0 : Int), (⟨#[]⟩ : ByteArray))).1, v11)).set v5.toNat ((rd (x1.set (w64 (v5 - (1 : Int))).toNat ((rd x1 (w64 (v5 - (1 : Int))) ((0 : Int), (⟨#[]⟩ : ByteArray))).1, v11)) v5 ((0 : Int), (⟨#[]⟩ : ByteArray))).1, v12)) (w64 (v5 + (1 : Int))) ((0 : Int), (⟨#[]⟩ : ByteArray))).1, v13)) v5) else (bnd (0 : Int) (w64 (v5 + (1 : Int))) (((x1.set (w64 (v5 - (1 : Int))).toNat ((rd x1 (w64 (v5 - (1 : Int))) ((0 : Int), (⟨#[]⟩ : ByteArray))).1, v11)).set v5.toNat ((rd (x1.set (w64 (v5 - (1 : Int))).toNat ((rd x1 (w64 (v5 - (1 : Int))) ((0 : Int), (⟨#[]⟩ : ByteArray))).1, v11)) v5 ((0 : Int), (⟨#[]⟩ : ByteArray))).1, v12)).length : Int) <| bnd (w64 (v5 + (2 : Int))) (((x1.set (w64 (v5 - (1 : Int))).toNat ((rd x1 (w64 (v5 - (1 : Int))) ((0 : Int), (⟨#[]⟩ : ByteArray))).1, v11)).set v5.toNat ((rd (x1.set (w64 (v5 - (1 : Int))).toNat ((rd x1 (w64 (v5 - (1 : Int))) ((0 : Int), (⟨#[]⟩ : ByteArray))).1, v11)) v5 ((0 : Int), (⟨#[]⟩ : ByteArray))).1, v12)).length : Int) (((x1.set (w64 (v5 - (1 : Int))).toNat ((rd x1 (w64 (v5 - (1 : Int))) ((0 : Int), (⟨#[]⟩ : ByteArray))).1, v11)).set v5.toNat ((rd (x1.set (w64 (v5 - (1 : Int))).toNat ((rd x1 (w64 (v5 - (1 : Int))) ((0 : Int), (⟨#[]⟩ : ByteArray))).1, v11)) v5 ((0 : Int), (⟨#[]⟩ : ByteArray))).1, v12)).length : Int) <| roomy ((cut ((x1.set (w64 (v5 - (1 : Int))).toNat ((rd x1 (w64 (v5 - (1 : Int))) ((0 : Int), (⟨#[]⟩ : ByteArray))).1, v11)).set v5.toNat ((rd (x1.set (w64 (v5 - (1 : Int))).toNat ((rd x1 (w64 (v5 - (1 : Int))) ((0 : Int), (⟨#[]⟩ : ByteArray))).1, v11)) v5 ((0 : Int), (⟨#[]⟩ : ByteArray))).1, v12)) (0 : Int) ((0 : Int) + ((w64 (v5 + (1 : Int))) - (0 : Int)))).length + (cut ((x1.set (w64 (v5 - (1 : Int))).toNat ((rd x1 (w64 (v5 - (1 : Int))) ((0 : Int), (⟨#[]⟩ : ByteArray))).1, v11)).set v5.toNat ((rd (x1.set (w64 (v5 - (1 : Int))).toNat ((rd x1 (w64 (v5 - (1 : Int))) ((0 : Int), (⟨#[]⟩ : ByteArray))).1, v11)) v5 ((0 : Int), (⟨#[]⟩ : ByteArray))).1, v12)) (w64 (v5 + (2 : Int))) ((w64 (v5 + (2 : Int))) + ((((x1.set (w64 (v5 - (1 : Int))).toNat ((rd x1 (w64 (v5 - (1 : Int))) ((0 : Int), (⟨#[]⟩ : ByteArray))).1, v11)).set v5.toNat ((rd (x1.set (w64 (v5 - (1 : Int))).toNat ((rd x1 (w64 (v5 - (1 : Int))) ((0 : Int), (⟨#[]⟩ : ByteArray))).1, v11)) v5 ((0 : Int), (⟨#[]⟩ : ByteArray))).1, v12)).length : Int) - (w64 (v5 + (2 : Int)))))).length) <| kn p0 ((cut ((x1.set (w64 (v5 - (1 : Int))).toNat ((rd x1 (w64 (v5 - (1 : Int))) ((0 : Int), (⟨#[]⟩ : ByteArray))).1, v11)).set v5.toNat ((rd (x1.set (w64 (v5 - (1 : Int))).toNat ((rd x1 (w64 (v5 - (1 : Int))) ((0 : Int), (⟨#[]⟩ : ByteArray))).1, v11)) v5 ((0 : Int), (⟨#[]⟩ : ByteArray))).1, v12)) (0 : Int) ((0 : Int) + ((w64 (v5 + (1 : Int))) - (0 : Int)))) ++ (cut ((x1.set (w64 (v5 - (1 : Int))).toNat ((rd x1 (w64 (v5 - (1 : Int))) ((0 : Int), (⟨#[]⟩ : ByteArray))).1, v11)).set v5.toNat ((rd (x1.set (w64 (v5 - (1 : Int))).toNat ((rd x1 (w64 (v5 - (1 : Int))) ((0 : Int), (⟨#[]⟩ : ByteArray))).1, v11)) v5 ((0 : Int), (⟨#[]⟩ : ByteArray))).1, v12)) (w64 (v5 + (2 : Int))) ((w64 (v5 + (2 : Int))) + ((((x1.set (w64 (v5 - (1 : Int))).toNat ((rd x1 (w64 (v5 - (1 : Int))) ((0 : Int), (⟨#[]⟩ : ByteArray))).1, v11)).set v5.toNat ((rd (x1.set (w64 (v5 - (1 : Int))).toNat ((rd x1 (w64 (v5 - (1 : Int))) ((0 : Int), (⟨#[]⟩ : ByteArray))).1, v11)) v5 ((0 : Int), (⟨#[]⟩ : ByteArray))).1, v12)).length : Int) - (w64 (v5 + (2 : Int))))))) (w64 (v5 - (1 : Int))))) else ((g66 n x1 (w64 (v5 - (1 : Int))) (1 : Int) []).bind fun r1 => idx (w64 (v5 - (1 : Int))) (r1.1.length : Int) <| bif ((v13.size : Int) != (0 : Int)) then (idx (w64 ((w64 (v5 - (1 : Int))) + (1 : Int))) ((r1.1.set (w64 (v5 - (1 : Int))).toNat ((rd r1.1 (w64 (v5 - (1 : Int))) ((0 : Int), (⟨#[]⟩ : ByteArray))).1, v12)).length : Int) <| kn p0 ((r1.1.set (w64 (v5 - (1 : Int))).toNat ((rd r1.1 (w64 (v5 - (1 : Int))) ((0 : Int), (⟨#[]⟩ : ByteArray))).1, v12)).set (w64 ((w64 (v5 - (1 : Int))) + (1 : Int))).toNat ((rd (r1.1.set (w64 (v5 - (1 : Int))).toNat ((rd r1.1 (w64 (v5 - (1 : Int))) ((0 : Int), (⟨#[]⟩ : ByteArray))).1, v12)) (w64 ((w64 (v5 - (1 : Int))) + (1 : Int))) ((0 : Int), (⟨#[]⟩ : ByteArray))).1, v13)) (w64 (v5 - (1 : Int)))) else (bnd (0 : Int) (w64 ((w64 (v5 - (1 : Int))) + (1 : Int))) ((r1.1.set (w64 (v5 - (1 : Int))).toNat ((rd r1.1 (w64 (v5 - (1 : Int))) ((0 : Int), (⟨#[]⟩ : ByteArray))).1, v12)).length : Int) <| bnd (w64 ((w64 (v5 - (1 : Int))) + (2 : Int))) ((r1.1.set (w64 (v5 - (1 : Int))).toNat ((rd r1.1 (w64 (v5 - (1 : Int))) ((0 : Int), (⟨#[]⟩ : ByteArray))).1, v12)).length : Int) ((r1.1.set (w64 (v5 - (1 : Int))).toNat ((rd r1.1 (w64 (v5 - (1 : Int))) ((0 : Int), (⟨#[]⟩ : ByteArray))).1, v12)).length : Int) <| roomy ((cut (r1.1.set (w64 (v5 - (1 : Int))).toNat ((rd r1.1 (w64 (v5 - (1 : Int))) ((0 : Int), (⟨#[]⟩ : ByteArray))).1, v12)) (0 : Int) ((0 : Int) + ((w64 ((w64 (v5 - (1 : Int))) + (1 : Int))) - (0 : Int)))).length + (cut (r1.1.set (w64 (v5 - (1 : Int))).toNat ((rd r1.1 (w64 (v5 - (1 : Int))) ((0 : Int), (⟨#[]⟩ : ByteArray))).1, v12)) (w64 ((w64 (v5 - (1 : Int))) + (2 : Int))) ((w64 ((w64 (v5 - (1 : Int))) + (2 : Int))) + (((r1.1.set (w64 (v5 - (1 : Int))).toNat ((rd r1.1 (w64 (v5 - (1 : Int))) ((0 : Int), (⟨#[]⟩ : ByteArray))).1, v12)).length : Int) - (w64 ((w64 (v5 - (1 : Int))) + (2 : Int)))))).length) <| kn p0 ((cut (r1.1.set (w64 (v5 - (1 : Int))).toNat ((rd r1.1 (w64 (v5 - (1 : Int))) ((0 : Int), (⟨#[]⟩ : ByteArray))).1, v12)) (0 : Int) ((0 : Int) + ((w64 ((w64 (v5 - (1 : Int))) + (1 : Int))) - (0 : Int)))) ++ (cut (r1.1.set (w64 (v5 - (1 : Int))).toNat ((rd r1.1 (w64 (v5 - (1 : Int))) ((0 : Int), (⟨#[]⟩ : ByteArray))).1, v12)) (w64 ((w64 (v5 - (1 : Int))) + (2 : Int))) ((w64 ((w64 (v5 - (1 : Int))) + (2 : Int))) + (((r1.1.set (w64 (v5 - (1 : Int))).toNat ((rd r1.1 (w64 (v5 - (1 : Int))) ((0 : Int), (⟨#[]⟩ : ByteArray))).1, v12)).length : Int) - (w64 ((w64 (v5 - (1 : Int))) + (2 : Int))))))) (w64 ((w64 (v5 - (1 : Int))) - (1 : Int)))))) else (kn p0 x1 v5)
noncomputable def g55_9F (n : Nat) (s : FState) (cx : Cx β) : Option β := FX (g55_G n) n (nav g55_B [1, 1, 0, 0, 0, 1, 0, 0, 1, 0, 1, 1, 1, 1, 1, 1, 1, 1, 1, 1, 0]) (.fin none none none [] .leaf) s { cx with nrm := fun s => FX (g55_G n) n (nav g55_B [1, 1, 0, 0, 0, 1, 0, 0, 1, 0, 1, 1, 1, 1, 1, 1, 1, 1, 1, 1, 1]) (.fin none (some g55_m6e) none [] .leaf) s cx }
theorem g55_9_fx (n : Nat) (cx : Cx β) (p0 : (Int × (Int × (Int × (Nat × (Int × (Int × Nat))))))) (x1 : List (Int × ByteArray)) (v5 : Int) (v11 v12 v13 : ByteArray) : g55_9F n (g55_m9 p0 x1 v5 v11 v12 v13) cx = g55_9 n (fun p0 x1 v5 => cx.nrm (g55_m6 p0 x1 v5)) p0 x1 v5 v11 v12 v13 := by kernel_rfl
noncomputable def g55_10 (n : Nat) (kn : (Int × (Int × (Int × (Nat × (Int × (Int × Nat)))))) → List (Int × ByteArray) → Int → Option β) (p0 : (Int × (Int × (Int × (Nat × (Int × (Int × Nat))))))) (x1 : List (Int × ByteArray)) (v5 : Int) (v38 : Bool) : Option β := g55_4 n (fun p0 x1 v5 v6 v7 v8 => g55_5 n (fun p0 x1 v5 v6 v7 v8 v11 v12 v13 v14 => g55_8 n (fun p0 x1 v5 v11 v12 v13 => g55_9 n kn p0 x1 v5 v11 v12 v13) p0 x1 v5 v6 v7 v8 v11 v12 v13 v14) p0 x1 v5 v6 v7 v8) p0 x1 v5 v38
noncomputable def g55_10F (n : Nat) (s : FState) (cx : Cx β) : Option β := g55_4F n s { cx with nrm := fun s => g55_5F n s { cx with nrm := fun s => g55_8F n s { cx with nrm := fun s => g55_9F n s cx } } }
theorem g55_10_fx (n : Nat) (cx : Cx β) (p0 : (Int × (Int × (Int × (Nat × (Int × (Int × Nat))))))) (x1 : List (Int × ByteArray)) (v5 : Int) (v38 : Bool) : g55_10F n (g55_m5 p0 x1 v5 v38) cx = g55_10 n (fun p0 x1 v5 => cx.nrm (g55_m6 p0 x1 v5)) p0 x1 v5 v38 := by simp only [g55_10F, g55_10, g55_4_fx, g55_5_fx, g55_8_fx, g55_9_fx]
noncomputable def g55_11 (n : Nat) (kn : (Int × (Int × (Int × (Nat × (Int × (Int × Nat)))))) → List (Int × ByteArray) → Int → Option β) (p0 : (Int × (Int × (Int × (Nat × (Int × (Int × Nat))))))) (x1 : List (Int × ByteArray)) (v5 : Int) (v38 : Bool) : Option β := kn p0 x1 v5
noncomputable def g55_11F (n : Nat) (s : FState) (cx : Cx β) : Option β := FX (g55_G n) n (nav g55_B [1, 1, 0, 0, 0, 1, 0, 0, 1, 1]) (.fin none (some g55_m6e) none [] .leaf) s cx
theorem g55_11_fx (n : Nat) (cx : Cx β) (p0 : (Int × (Int × (Int × (Nat × (Int × (Int × Nat))))))) (x1 : List (Int × ByteArray)) (v5 : Int) (v38 : Bool) : g55_11F n (g55_m5 p0 x1 v5 v38) cx = g55_11 n (fun p0 x1 v5 => cx.nrm (g55_m6 p0 x1 v5)) p0 x1 v5 v38 := by kernel_rfl
noncomputable def g55_12 (n : Nat) (kn : (Int × (Int × (Int × (Nat × (Int × (Int × Nat)))))) → List (Int × ByteArray) → Int → Option β) (p0 : (Int × (Int × (Int × (Nat × (Int × (Int × Nat))))))) (x1 : List (Int × ByteArray)) (v5 : Int) (v38 : Bool) : Option β := bif v38 then g55_10 n kn p0 x1 v5 v38 else g55_11 n kn p0 x1 v5 v38
noncomputable def g55_12F (n : Nat) (s : FState) (cx : Cx β) : Option β := asBool (ev s (cond_of (nav g55_B [1, 1, 0, 0, 0, 1, 0, 0, 1]))) fun t => cond t (g55_10F n s cx) (g55_11F n s cx)
theorem g55_12_fx (n : Nat) (cx : Cx β) (p0 : (Int × (Int × (Int × (Nat × (Int × (Int × Nat))))))) (x1 : List (Int × ByteArray)) (v5 : Int) (v38 : Bool) : g55_12F n (g55_m5 p0 x1 v5 v38) cx = g55_12 n (fun p0 x1 v5 => cx.nrm (g55_m6 p0 x1 v5)) p0 x1 v5 v38 := by
  simp only [g55_12F, g55_12, g55_10_fx, g55_11_fx]
  kernel_rfl
noncomputable def g55_13 (n : Nat) (kn : (Int × (Int × (Int × (Nat × (Int × (Int × Nat)))))) → List (Int × ByteArray) → Int → Option β) (p0 : (Int × (Int × (Int × (Nat × (Int × (Int × Nat))))))) (x1 : List (Int × ByteArray)) (v5 : Int) : Option β := kn p0 x1 (w64 (v5 + (1 : Int)))
noncomputable def g55_13F (n : Nat) (s : FState) (cx : Cx β) : Option β := FX (g55_G n) n (nav g55_B [1, 1, 0, 0, 0, 1, 0, 1]) (.fin none (some g55_m2e) none [] .leaf) s cx
theorem g55_13_fx (n : Nat) (cx : Cx β) (p0 : (Int × (Int × (Int × (Nat × (Int × (Int × Nat))))))) (x1 : List (Int × ByteArray)) (v5 : Int) : g55_13F n (g55_m6 p0 x1 v5) cx = g55_13 n (fun p0 x1 v5 => cx.nrm (g55_m2 p0 x1 v5)) p0 x1 v5 := by kernel_rfl
noncomputable def g55_14 (n : Nat) (kn : (Int × (Int × (Int × (Nat × (Int × (Int × Nat)))))) → List (Int × ByteArray) → Int → Option β) (p0 : (Int × (Int × (Int × (Nat × (Int × (Int × Nat))))))) (x1 : List (Int × ByteArray)) (v5 : Int) : Option β := g55_3 n (fun p0 x1 v5 v38 => g55_12 n (fun p0 x1 v5 => g55_13 n kn p0 x1 v5) p0 x1 v5 v38) p0 x1 v5
noncomputable def g55_14F (n : Nat) (s : FState) (cx : Cx β) : Option β := g55_3F n s { cx with nrm := fun s => g55_12F n s { cx with nrm := fun s => g55_13F n s cx } }
theorem g55_14_fx (n : Nat) (cx : Cx β) (p0 : (Int × (Int × (Int × (Nat × (Int × (Int × Nat))))))) (x1 : List (Int × ByteArray)) (v5 : Int) : g55_14F n (g55_m4 p0 x1 v5) cx = g55_14 n (fun p0 x1 v5 => cx.nrm (g55_m2 p0 x1 v5)) p0 x1 v5 := by simp only [g55_14F, g55_14, g55_3_fx, g55_12_fx, g55_13_fx]
noncomputable def g55_15 (n : Nat) (kn : (Int × (Int × (Int × (Nat × (Int × (Int × Nat)))))) → List (Int × ByteArray) → Int → Option β) (p0 : (Int × (Int × (Int × (Nat × (Int × (Int × Nat))))))) (x1 : List (Int × ByteArray)) (v5 : Int) : Option β := g55_14 n kn p0 x1 v5
noncomputable def g55_15F (n : Nat) (s : FState) (cx : Cx β) : Option β := g55_14F n s { cx with ex := fun j s => bif Nat.beq j 1 then cx.nrm s else cx.ex j s }
theorem g55_15_fx (n : Nat) (cx : Cx β) (p0 : (Int × (Int × (Int × (Nat × (Int × (Int × Nat))))))) (x1 : List (Int × ByteArray)) (v5 : Int) : g55_15F n (g55_m4 p0 x1 v5) cx = g55_15 n (fun p0 x1 v5 => cx.nrm (g55_m2 p0 x1 v5)) p0 x1 v5 := g55_14_fx n _ p0 x1 v5
noncomputable def g55_16 (n : Nat) (kn : (Int × (Int × (Int × (Nat × (Int × (Int × Nat)))))) → List (Int × ByteArray) → Int → Option β) (kx0 : List (Int × ByteArray) → Option β) (p0 : (Int × (Int × (Int × (Nat × (Int × (Int × Nat))))))) (x1 : List (Int × ByteArray)) (v5 : Int) : Option β := g55_2 n (fun p0 x1 v5 => g55_15 n kn p0 x1 v5) kx0 p0 x1 v5
noncomputable def g55_16F (n : Nat) (s : FState) (cx : Cx β) : Option β := g55_2F n s { cx with nrm := fun s => g55_15F n s cx }
theorem g55_16_fx (n : Nat) (cx : Cx β) (p0 : (Int × (Int × (Int × (Nat × (Int × (Int × Nat))))))) (x1 : List (Int × ByteArray)) (v5 : Int) : g55_16F n (g55_m2 p0 x1 v5) cx = g55_16 n (fun p0 x1 v5 => cx.nrm (g55_m2 p0 x1 v5)) (fun x1 => cx.ex 0 (g55_m3 x1)) p0 x1 v5 := by simp only [g55_16F, g55_16, g55_2_fx, g55_15_fx]
noncomputable def g55_17L (n : Nat) (kx0 : List (Int × ByteArray) → Option β) : Nat → (Int × (Int × (Int × (Nat × (Int × (Int × Nat)))))) → List (Int × ByteArray) → Int → Option β
  | 0, _, _, _ => none
  | m + 1, p0, x1, v5 => g55_16 n (g55_17L n kx0 m) kx0 p0 x1 v5
noncomputable def g55_17 (n : Nat) (kx0 : List (Int × ByteArray) → Option β) (p0 : (Int × (Int × (Int × (Nat × (Int × (Int × Nat))))))) (x1 : List (Int × ByteArray)) (v5 : Int) : Option β := g55_17L n kx0 n p0 x1 v5
noncomputable def g55_17F (n : Nat) (s : FState) (cx : Cx β) : Option β := loopN (fun again s => g55_16F n s { cx with nrm := again }) n s
theorem g55_17L_fx (n : Nat) (cx : Cx β) : ∀ (m : Nat) (p0 : (Int × (Int × (Int × (Nat × (Int × (Int × Nat))))))) (x1 : List (Int × ByteArray)) (v5 : Int), loopN (fun again s => g55_16F n s { cx with nrm := again }) m (g55_m2 p0 x1 v5) = g55_17L n (fun x1 => cx.ex 0 (g55_m3 x1)) m p0 x1 v5 := by
  intro m
  induction m with
  | zero => intros; rfl
  | succ m ih => intros; simp only [loopN, g55_17L, g55_16_fx, ih]
theorem g55_17_fx (n : Nat) (cx : Cx β) (p0 : (Int × (Int × (Int × (Nat × (Int × (Int × Nat))))))) (x1 : List (Int × ByteArray)) (v5 : Int) : g55_17F n (g55_m2 p0 x1 v5) cx = g55_17 n (fun x1 => cx.ex 0 (g55_m3 x1)) p0 x1 v5 := g55_17L_fx n cx n p0 x1 v5
noncomputable def g55_18 (n : Nat) (kn : List (Int × ByteArray) → Option β) (p0 : (Int × (Int × (Int × (Nat × (Int × (Int × Nat))))))) (x1 : List (Int × ByteArray)) (v5 : Int) : Option β := g55_17 n kn p0 x1 v5
noncomputable def g55_18F (n : Nat) (s : FState) (cx : Cx β) : Option β := g55_17F n s { cx with ex := fun j s => bif Nat.beq j 0 then cx.nrm s else cx.ex j s }
theorem g55_18_fx (n : Nat) (cx : Cx β) (p0 : (Int × (Int × (Int × (Nat × (Int × (Int × Nat))))))) (x1 : List (Int × ByteArray)) (v5 : Int) : g55_18F n (g55_m2 p0 x1 v5) cx = g55_18 n (fun x1 => cx.nrm (g55_m3 x1)) p0 x1 v5 := g55_17_fx n _ p0 x1 v5
noncomputable def g55_19 (n : Nat) (kr : List (Int × ByteArray) → Option β) (x1 : List (Int × ByteArray)) : Option β := kr x1
noncomputable def g55_19F (n : Nat) (s : FState) (cx : Cx β) : Option β := FX (g55_G n) n (nav g55_B [1, 1, 1, 0]) (.fin none none (some g55_m1e) [] .leaf) s { cx with nrm := fun s => FX (g55_G n) n (nav g55_B [1, 1, 1, 1]) (.fin none none (some g55_m1e) [] .leaf) s cx }
theorem g55_19_fx (n : Nat) (cx : Cx β) (x1 : List (Int × ByteArray)) : g55_19F n (g55_m3 x1) cx = g55_19 n (fun x4 => cx.ret (g55_m1 x4)) x1 := by kernel_rfl
noncomputable def g55_20 (n : Nat) (kr : List (Int × ByteArray) → Option β) (p0 : (Int × (Int × (Int × (Nat × (Int × (Int × Nat))))))) (x1 : List (Int × ByteArray)) : Option β := g55_1 n (fun p0 x1 v5 => g55_18 n (fun x1 => g55_19 n kr x1) p0 x1 v5) p0 x1
noncomputable def g55_20F (n : Nat) (s : FState) (cx : Cx β) : Option β := g55_1F n s { cx with nrm := fun s => g55_18F n s { cx with nrm := fun s => g55_19F n s cx } }
theorem g55_20_fx (n : Nat) (cx : Cx β) (p0 : (Int × (Int × (Int × (Nat × (Int × (Int × Nat))))))) (x1 : List (Int × ByteArray)) : g55_20F n (g55_m0 p0 x1) cx = g55_20 n (fun x4 => cx.ret (g55_m1 x4)) p0 x1 := by simp only [g55_20F, g55_20, g55_1_fx, g55_18_fx, g55_19_fx]
noncomputable def g55 (n : Nat) (p0 : (Int × (Int × (Int × (Nat × (Int × (Int × Nat))))))) (x1 : List (Int × ByteArray)) : Option (DenR [.rw (.pair (.int .i8) .str) 75]) := g55_20 n (fun x4 => some (x4, ())) p0 x1
noncomputable def g55_A : List AK := [.pro (.pair (.int .i64) (.pair (.int .i64) (.pair (.int .i64) (.pair (.flt .f64) (.pair (.int .i64) (.pair (.int .i64) (.flt .f64))))))) 70, .rw (.pair (.int .i8) .str) 75]
noncomputable def g55_R : List RK := [.rw (.pair (.int .i8) .str) 75]
noncomputable def g55_f (n : Nat) (d : DenA g55_A) : Option (DenR g55_R) := g55 n d.1 d.2.1
noncomputable def g55_S (n : Nat) : Spec := mkSpec g55_A g55_R (g55_f n)
noncomputable def g55_K : Sk := (.nd (.fin none none none [] .leaf) (.nd (.fin none (some g55_m2e) none [] .leaf) (.nd (.nd (.nd (.nd (.nd (.fin none none none [(0, g55_m3e)] .leaf) (.fin none (some g55_m4e) none [(0, g55_m3e)] .leaf)) (.nd (.nd (.nd (.fin none (some g55_m5e) none [] .leaf) (.nd (.nd (.fin none none none [] .leaf) (.nd (.fin none none none [] .leaf) (.nd (.fin none none none [] .leaf) (.nd (.fin none none none [] .leaf) (.nd (.nd (.fin none none none [] .leaf) (.fin none (some g55_m7e) none [] .leaf)) (.nd (.fin none none none [] .leaf) (.nd (.fin none none none [] .leaf) (.nd (.fin none none none [] .leaf) (.nd (.fin none (some g55_m8e) none [] .leaf) (.nd (.nd (.nd (.nd (.nd (.fin none none none [(2, g55_m9e)] .leaf) (.fin none none none [(2, g55_m9e)] .leaf)) (.fin none (some g55_m8e) none [(2, g55_m9e)] .leaf)) .leaf) .leaf) (.nd (.fin none none none [] .leaf) (.fin none (some g55_m6e) none [] .leaf)))))))))))) (.fin none (some g55_m6e) none [] .leaf))) (.fin none (some g55_m2e) none [] .leaf)) .leaf)) .leaf) .leaf) (.nd (.fin none none (some g55_m1e) [] .leaf) (.fin none none (some g55_m1e) [] .leaf)))))
theorem g55_top (n : Nat) (s : FState) (cx : Cx β) : FX (g55_G n) n g55_B g55_K s cx = g55_20F n s cx := by kernel_rfl
theorem g55_fit (n : Nat) : Fit Tryd.prog 55 (g55_S n) :=
  fit_of (Γ := Γ0) (l := g55_C n) (n := n) (sk := g55_K) (ts := [(4, none)]) (fn := Tryd.f55) (c := g55_B) (by kernel_rfl) (by kernel_rfl) (by unfold Callable; kernel_rfl) tab_ok ⟨g63_fit n, g64_fit n, g65_fit n, g66_fit n, trivial⟩ follows_mixed (by kernel_rfl) (by kernel_rfl) (Nat.le_of_ble_eq_true (by kernel_rfl)) (by kernel_rfl) (by kernel_rfl)
    (fun d => (g55_top n _ _).trans (Eq.trans (b := g55_20F n (g55_m0 d.1 d.2.1) (finCx (g55_G n) g55_R [(4, none)])) (by kernel_rfl) ((g55_20_fx n _ d.1 d.2.1).trans (by kernel_rfl))))
noncomputable def g54_m0 (x0 : List (Int × ByteArray)) : FState := ⟨tlist [(0, .sl 0 none false)], olist [(0, .row (.pair (.int .i8) .str) 75 false x0)]⟩
noncomputable def g54_m1 (x2 : List (Int × ByteArray)) : FState := ⟨tlist [(2, .sl 2 none false)], olist [(2, .row (.pair (.int .i64) .str) 45 true x2)]⟩
noncomputable def g54_m1e : List NE := [.row 2 (.pair (.int .i64) .str) 45 true]
noncomputable def g54_m2 (x3 x6 : List (Int × ByteArray)) (v7 v8 : Int) : FState := ⟨tlist [(3, .sl 3 none false), (6, .sl 6 none false), (7, .dat (.int .i64) v7), (8, .dat (.int .i64) v8)], olist [(3, .row (.pair (.int .i64) .str) 45 true x3), (6, .row (.pair (.int .i8) .str) 75 false x6)]⟩
noncomputable def g54_m2e : List NE := [.row 3 (.pair (.int .i64) .str) 45 true, .row 6 (.pair (.int .i8) .str) 75 false, .keep 7, .keep 8]
noncomputable def g54_m3 (x3 : List (Int × ByteArray)) : FState := ⟨tlist [(3, .sl 3 none false)], olist [(3, .row (.pair (.int .i64) .str) 45 true x3)]⟩
noncomputable def g54_m3e : List NE := [.row 3 (.pair (.int .i64) .str) 45 true]
noncomputable def g54_C (n : Nat) : List (Nat × Spec) := []
noncomputable def g54_G (n : Nat) : Ctx := { Γ0 with calls := lkS (g54_C n) }
noncomputable def g54_B : Code := fb Tryd.f54
noncomputable def g54_1 (n : Nat) (kn : List (Int × ByteArray) → List (Int × ByteArray) → Int → Int → Option β) (x0 : List (Int × ByteArray)) : Option β := kn [] x0 (x0.length : Int) (0 : Int)
noncomputable def g54_1F (n : Nat) (s : FState) (cx : Cx β) : Option β := FX (g54_G n) n (nav g54_B [0]) (.fin none none none [] .leaf) s { cx with nrm := fun s => FX (g54_G n) n (nav g54_B [1, 0]) (.fin none none none [] .leaf) s { cx with nrm := fun s => FX (g54_G n) n (nav g54_B [1, 1, 0, 0]) (.fin none (some g54_m2e) none [] .leaf) s cx } }
theorem g54_1_fx (n : Nat) (cx : Cx β) (x0 : List (Int × ByteArray)) : g54_1F n (g54_m0 x0) cx = g54_1 n (fun x3 x6 v7 v8 => cx.nrm (g54_m2 x3 x6 v7 v8)) x0 := by kernel_rfl
noncomputable def g54_2 (n : Nat) (kn : List (Int × ByteArray) → List (Int × ByteArray) → Int → Int → Option β) (kx0 : List (Int × ByteArray) → Option β) (x3 x6 : List (Int × ByteArray)) (v7 v8 : Int) : Option β := bif (decide (v8 < v7)) then (idx v8 (x6.length : Int) <| roomy (x3.length + [((w64 ((rd [(rd x6 v8 ((0 : Int), (⟨#[]⟩ : ByteArray)))] (0 : Int) ((0 : Int), (⟨#[]⟩ : ByteArray))).1)), (rd [(rd x6 v8 ((0 : Int), (⟨#[]⟩ : ByteArray)))] (0 : Int) ((0 : Int), (⟨#[]⟩ : ByteArray))).2)].length) <| kn (x3 ++ [((w64 ((rd [(rd x6 v8 ((0 : Int), (⟨#[]⟩ : ByteArray)))] (0 : Int) ((0 : Int), (⟨#[]⟩ : ByteArray))).1)), (rd [(rd x6 v8 ((0 : Int), (⟨#[]⟩ : ByteArray)))] (0 : Int) ((0 : Int), (⟨#[]⟩ : ByteArray))).2)]) x6 v7 (w64 (v8 + (1 : Int)))) else (kx0 x3)
noncomputable def g54_2F (n : Nat) (s : FState) (cx : Cx β) : Option β := FX (g54_G n) n (nav g54_B [1, 1, 0, 1, 0, 0, 0]) (.fin none none none [(0, g54_m3e)] .leaf) s { cx with nrm := fun s => FX (g54_G n) n (nav g54_B [1, 1, 0, 1, 0, 0, 1, 0]) (.fin none none none [(0, g54_m3e)] .leaf) s { cx with nrm := fun s => FX (g54_G n) n (nav g54_B [1, 1, 0, 1, 0, 0, 1, 1, 0]) (.fin none none none [(0, g54_m3e)] .leaf) s { cx with nrm := fun s => FX (g54_G n) n (nav g54_B [1, 1, 0, 1, 0, 0, 1, 1, 1]) (.fin none (some g54_m2e) none [(0, g54_m3e)] .leaf) s cx } } }
theorem g54_2_fx (n : Nat) (cx : Cx β) (x3 x6 : List (Int × ByteArray)) (v7 v8 : Int) : g54_2F n (g54_m2 x3 x6 v7 v8) cx = g54_2 n (fun x3 x6 v7 v8 => cx.nrm (g54_m2 x3 x6 v7 v8)) (fun x3 => cx.ex 0 (g54_m3 x3)) x3 x6 v7 v8 := by kernel_rfl
noncomputable def g54_3L (n : Nat) (kx0 : List (Int × ByteArray) → Option β) : Nat → List (Int × ByteArray) → List (Int × ByteArray) → Int → Int → Option β
  | 0, _, _, _, _ => none
  | m + 1, x3, x6, v7, v8 => g54_2 n (g54_3L n kx0 m) kx0 x3 x6 v7 v8
noncomputable def g54_3 (n : Nat) (kx0 : List (Int × ByteArray) → Option β) (x3 x6 : List (Int × ByteArray)) (v7 v8 : Int) : Option β := g54_3L n kx0 n x3 x6 v7 v8
noncomputable def g54_3F (n : Nat) (s : FState) (cx : Cx β) : Option β := loopN (fun again s => g54_2F n s { cx with nrm := again }) n s
theorem g54_3L_fx (n : Nat) (cx : Cx β) : ∀ (m : Nat) (x3 x6 : List (Int × ByteArray)) (v7 v8 : Int), loopN (fun again s => g54_2F n s { cx with nrm := again }) m (g54_m2 x3 x6 v7 v8) = g54_3L n (fun x3 => cx.ex 0 (g54_m3 x3)) m x3 x6 v7 v8 := by
  intro m
  induction m with
  | zero => intros; rfl
  | succ m ih => intros; simp only [loopN, g54_3L, g54_2_fx, ih]
theorem g54_3_fx (n : Nat) (cx : Cx β) (x3 x6 : List (Int × ByteArray)) (v7 v8 : Int) : g54_3F n (g54_m2 x3 x6 v7 v8) cx = g54_3 n (fun x3 => cx.ex 0 (g54_m3 x3)) x3 x6 v7 v8 := g54_3L_fx n cx n x3 x6 v7 v8
noncomputable def g54_4 (n : Nat) (kn : List (Int × ByteArray) → Option β) (x3 x6 : List (Int × ByteArray)) (v7 v8 : Int) : Option β := g54_3 n kn x3 x6 v7 v8
noncomputable def g54_4F (n : Nat) (s : FState) (cx : Cx β) : Option β := g54_3F n s { cx with ex := fun j s => bif Nat.beq j 0 then cx.nrm s else cx.ex j s }
theorem g54_4_fx (n : Nat) (cx : Cx β) (x3 x6 : List (Int × ByteArray)) (v7 v8 : Int) : g54_4F n (g54_m2 x3 x6 v7 v8) cx = g54_4 n (fun x3 => cx.nrm (g54_m3 x3)) x3 x6 v7 v8 := g54_3_fx n _ x3 x6 v7 v8
noncomputable def g54_5 (n : Nat) (kr : List (Int × ByteArray) → Option β) (x3 : List (Int × ByteArray)) : Option β := kr x3
noncomputable def g54_5F (n : Nat) (s : FState) (cx : Cx β) : Option β := FX (g54_G n) n (nav g54_B [1, 1, 1, 0]) (.fin none none (some g54_m1e) [] .leaf) s { cx with nrm := fun s => FX (g54_G n) n (nav g54_B [1, 1, 1, 1]) (.fin none none (some g54_m1e) [] .leaf) s cx }
theorem g54_5_fx (n : Nat) (cx : Cx β) (x3 : List (Int × ByteArray)) : g54_5F n (g54_m3 x3) cx = g54_5 n (fun x2 => cx.ret (g54_m1 x2)) x3 := by kernel_rfl
noncomputable def g54_6 (n : Nat) (kr : List (Int × ByteArray) → Option β) (x0 : List (Int × ByteArray)) : Option β := g54_1 n (fun x3 x6 v7 v8 => g54_4 n (fun x3 => g54_5 n kr x3) x3 x6 v7 v8) x0
noncomputable def g54_6F (n : Nat) (s : FState) (cx : Cx β) : Option β := g54_1F n s { cx with nrm := fun s => g54_4F n s { cx with nrm := fun s => g54_5F n s cx } }
theorem g54_6_fx (n : Nat) (cx : Cx β) (x0 : List (Int × ByteArray)) : g54_6F n (g54_m0 x0) cx = g54_6 n (fun x2 => cx.ret (g54_m1 x2)) x0 := by simp only [g54_6F, g54_6, g54_1_fx, g54_4_fx, g54_5_fx]
noncomputable def g54 (n : Nat) (x0 : List (Int × ByteArray)) : Option (DenR [.rw (.pair (.int .i64) .str) 45]) := g54_6 n (fun x2 => some (x2, ())) x0
noncomputable def g54_A : List AK := [.ro (.pair (.int .i8) .str) 75]
noncomputable def g54_R : List RK := [.rw (.pair (.int .i64) .str) 45]
noncomputable def g54_f (n : Nat) (d : DenA g54_A) : Option (DenR g54_R) := g54 n d.1
noncomputable def g54_S (n : Nat) : Spec := mkSpec g54_A g54_R (g54_f n)
noncomputable def g54_K : Sk := (.nd (.fin none none none [] .leaf) (.nd (.fin none none none [] .leaf) (.nd (.nd (.fin none (some g54_m2e) none [] .leaf) (.nd (.nd (.nd (.fin none none none [(0, g54_m3e)] .leaf) (.nd (.fin none none none [(0, g54_m3e)] .leaf) (.nd (.fin none none none [(0, g54_m3e)] .leaf) (.fin none (some g54_m2e) none [(0, g54_m3e)] .leaf)))) .leaf) .leaf)) (.nd (.fin none none (some g54_m1e) [] .leaf) (.fin none none (some g54_m1e) [] .leaf)))))
theorem g54_top (n : Nat) (s : FState) (cx : Cx β) : FX (g54_G n) n g54_B g54_K s cx = g54_6F n s cx := by kernel_rfl
theorem g54_fit (n : Nat) : Fit Tryd.prog 54 (g54_S n) :=
  fit_of (Γ := Γ0) (l := g54_C n) (n := n) (sk := g54_K) (ts := [(2, none)]) (fn := Tryd.f54) (c := g54_B) (by kernel_rfl) (by kernel_rfl) (by unfold Callable; kernel_rfl) tab_ok trivial follows_mixed (by kernel_rfl) (by kernel_rfl) (Nat.le_of_ble_eq_true (by kernel_rfl)) (by kernel_rfl) (by kernel_rfl)
    (fun d => (g54_top n _ _).trans (Eq.trans (b := g54_6F n (g54_m0 d.1) (finCx (g54_G n) g54_R [(2, none)])) (by kernel_rfl) ((g54_6_fx n _ d.1).trans (by kernel_rfl))))
theorem g53_idle : Idle Tryd.prog 53 2 := fun vs w hv => by
  obtain ⟨p0, p1, rfl⟩ := arr2 hv
  refine callsD_of_wpS (fn := Tryd.f53) (c := fb Tryd.f53) (by kernel_rfl) (by kernel_rfl) fun c₀ cs hu => ?_
  show Code.wpS Tryd.prog (.seq (nav (fb Tryd.f53) [0]) (.cond (.tmp 3) (nav (fb Tryd.f53) [1, 0]) .skip)) _ _ _ _
  apply wpS_seq
  apply wpS_region
  simp [wpOpsS, go_sem, recoverD, hu, Exit.thenS]
  refine wpS_cond (t := false) (by simp [Act.eval, Array.replicate]) ?_
  simp only [Bool.false_eq_true, if_false]
  refine wpS_of_wp (wp_skip ?_)
  cases c₀
  simp_all [bodyPostS, results]
noncomputable def g38_m0 (x0 : List (Int × ByteArray)) : FState := ⟨tlist [(0, .sl 0 none false)], olist [(0, .row (.pair (.int .i64) .str) 45 false x0)]⟩
noncomputable def g38_m1 (p2 : (List (Int × ByteArray))) (p3 : Int) : FState := ⟨tlist [(2, .ptr 2 0 0), (3, .ptr 3 0 0)], olist [(2, .row (.sl 45 (.pair (.int .i64) .str)) 22 true [p2]), (3, .row (.int .i64) 3 true [p3])]⟩
noncomputable def g38_m1e : List NE := [.ptr 2 (.sl 45 (.pair (.int .i64) .str)) 22 true, .ptr 3 (.int .i64) 3 true]
noncomputable def g38_m2 (x0 : List (Int × ByteArray)) (p2 : (List (Int × ByteArray))) (p3 : Int) : FState := ⟨tlist [(0, .sl 0 none false), (2, .ptr 2 0 0), (3, .ptr 3 0 0)], olist [(0, .row (.pair (.int .i64) .str) 45 false x0), (2, .row (.sl 45 (.pair (.int .i64) .str)) 22 true [p2]), (3, .row (.int .i64) 3 true [p3])]⟩
noncomputable def g38_m2e : List NE := [.row 0 (.pair (.int .i64) .str) 45 false, .ptr 2 (.sl 45 (.pair (.int .i64) .str)) 22 true, .ptr 3 (.int .i64) 3 true]
noncomputable def g38_C (n : Nat) : List (Nat × Spec) := [(27, g27_S n), (29, g29_S n), (54, g54_S n), (55, g55_S n)]
noncomputable def g38_G (n : Nat) : Ctx := { Γ0 with calls := lkS (g38_C n) }
noncomputable def g38_B : Code := fb Tryd.f38
noncomputable def g38_1 (n : Nat) (kn : List (Int × ByteArray) → (List (Int × ByteArray)) → Int → Option β) (x0 : List (Int × ByteArray)) : Option β := kn x0 ([] : List (Int × ByteArray)) (0 : Int)
noncomputable def g38_1F (n : Nat) (s : FState) (cx : Cx β) : Option β := FX (g38_G n) n (nav g38_B [0]) (.fin none (some g38_m2e) none [] .leaf) s cx
theorem g38_1_fx (n : Nat) (cx : Cx β) (x0 : List (Int × ByteArray)) : g38_1F n (g38_m0 x0) cx = g38_1 n (fun x0 p2 p3 => cx.nrm (g38_m2 x0 p2 p3)) x0 := by kernel_rfl
noncomputable def g38_2 (n : Nat) (kr : (List (Int × ByteArray)) → Int → Option β) (x0 : List (Int × ByteArray)) (p2 : (List (Int × ByteArray))) (p3 : Int) : Option β := (g27 n).bind fun r1 => (g29 n x0).bind fun r2 => (g55 n r1.1 r2.1).bind fun r3 => (g54 n r3.1).bind fun r4 => kr r4.1 (0 : Int)
noncomputable def g38_2F (n : Nat) (s : FState) (cx : Cx β) : Option β := FX (g38_G n) n (nav g38_B [1, 1, 0]) (.fin none none (some g38_m1e) [] .leaf) s { cx with nrm := fun s => FX (g38_G n) n (nav g38_B [1, 1, 1]) (.fin none none (some g38_m1e) [] .leaf) s cx }
theorem g38_2_fx (n : Nat) (cx : Cx β) (x0 : List (Int × ByteArray)) (p2 : (List (Int × ByteArray))) (p3 : Int) : g38_2F n (g38_m2 x0 p2 p3) cx = g38_2 n (fun p2 p3 => cx.ret (g38_m1 p2 p3)) x0 p2 p3 := by kernel_rfl
noncomputable def g38 (n : Nat) (x0 : List (Int × ByteArray)) : Option (DenR [.ro (.pair (.int .i64) .str) 45, .dat (.int .i64)]) := g38_1 n (fun x0 p2 p3 => g38_2 n (fun p2 p3 => some (p2, (p3, ()))) x0 p2 p3) x0
noncomputable def g38_A : List AK := [.ro (.pair (.int .i64) .str) 45]
noncomputable def g38_R : List RK := [.ro (.pair (.int .i64) .str) 45, .dat (.int .i64)]
noncomputable def g38_f (n : Nat) (d : DenA g38_A) : Option (DenR g38_R) := g38 n d.1
noncomputable def g38_S (n : Nat) : Spec := mkSpec g38_A g38_R (g38_f n)
noncomputable def g38_K0 : Sk := (.fin none (some g38_m2e) none [] .leaf)
noncomputable def g38_K1 : Sk := (.nd (.fin none none (some g38_m1e) [] .leaf) (.fin none none (some g38_m1e) [] .leaf))
noncomputable def g38_K2 : Sk := (.fin (some g38_m2e) none none [] (.nd (.fin none none (some g38_m1e) [] .leaf) (.fin none none (some g38_m1e) [] .leaf)))
theorem g38_top (n : Nat) (s : FState) (cx : Cx β) : FX (g38_G n) n (nav g38_B [1, 1]) g38_K1 s cx = g38_2F n s cx := by kernel_rfl
theorem g38_mid (n : Nat) (cx : Cx β) (x0 : List (Int × ByteArray)) (p2 : (List (Int × ByteArray))) (p3 : Int) : FX (g38_G n) n (nav g38_B [1, 1]) g38_K2 (FState.set (g38_m2 x0 p2 p3) 4 .dead) cx = g38_2 n (fun p2 p3 => cx.ret (g38_m1 p2 p3)) x0 p2 p3 :=
  Eq.trans (b := FX (g38_G n) n (nav g38_B [1, 1]) g38_K1 (g38_m2 x0 p2 p3) cx) (by kernel_rfl) ((g38_top n _ _).trans (g38_2_fx n cx x0 p2 p3))
theorem g38_fit (n : Nat) : Fit Tryd.prog 38 (g38_S n) :=
  fit_of_wrap (Γ := Γ0) (l := g38_C n) (n := n) (sk0 := g38_K0) (sk1 := g38_K2) (ts := [(2, some 22), (3, some 3)]) (fn := Tryd.f38) (c := g38_B) (c0 := nav g38_B [0]) (c1 := nav g38_B [1, 1]) (tm := 4) (g := 53) (k := 2) (by kernel_rfl) (by kernel_rfl) (by kernel_rfl) (by unfold Callable; kernel_rfl) tab_ok ⟨g27_fit n, g29_fit n, g54_fit n, g55_fit n, trivial⟩ follows_mixed (by unfold Callable; kernel_rfl) g53_idle (by kernel_rfl) (by kernel_rfl) (by kernel_rfl) (Nat.le_of_ble_eq_true (by kernel_rfl)) (Nat.le_of_ble_eq_true (by kernel_rfl)) (by kernel_rfl) (by kernel_rfl)
    (fun d => Eq.trans (b := g38_1F n (g38_m0 d.1) ⟨fun s => FX (g38_G n) n (nav g38_B [1, 1]) g38_K2 (FState.set s 4 .dead) (finCx (g38_G n) g38_R [(2, some 22), (3, some 3)]), fun _ => none, fun _ _ => none⟩) (by kernel_rfl) ((g38_1_fx n _ d.1).trans (Eq.trans (b := g38_1 n (fun x0 p2 p3 => g38_2 n (fun p2 p3 => (finCx (g38_G n) g38_R [(2, some 22), (3, some 3)]).ret (g38_m1 p2 p3)) x0 p2 p3) d.1) (congrArg (fun k_ => g38_1 n k_ d.1) (funext fun x0 => (funext fun p2 => (funext fun p3 => g38_mid n (finCx (g38_G n) g38_R [(2, some 22), (3, some 3)]) x0 p2 p3)))) (by kernel_rfl))))
noncomputable def g39_m0 (x0 : List (Int × ByteArray)) (v1 : Int) : FState := ⟨tlist [(0, .sl 0 none false), (1, .dat (.int .i64) v1)], olist [(0, .row (.pair (.int .i64) .str) 45 false x0)]⟩
noncomputable def g39_m1 (x4 : List (Int × ByteArray)) : FState := ⟨tlist [(4, .sl 4 none false)], olist [(4, .row (.pair (.int .i64) .str) 45 false x4)]⟩
noncomputable def g39_m1e : List NE := [.row 4 (.pair (.int .i64) .str) 45 false]
noncomputable def g39_C (n : Nat) : List (Nat × Spec) := []
noncomputable def g39_G (n : Nat) : Ctx := { Γ0 with calls := lkS (g39_C n) }
noncomputable def g39_B : Code := fb Tryd.f39
noncomputable def g39_1 (n : Nat) (kr : List (Int × ByteArray) → Option β) (x0 : List (Int × ByteArray)) (v1 : Int) : Option β := bif (v1 != (0 : Int)) then (kr [((1 : Int), (⟨#[0, 102, 97, 117, 108, 116]⟩ : ByteArray)), ((1 : Int), (⟨#[]⟩ : ByteArray))]) else (kr x0)
noncomputable def g39_1F (n : Nat) (s : FState) (cx : Cx β) : Option β := FX (g39_G n) n (nav g39_B [0]) (.fin none none (some g39_m1e) [] .leaf) s { cx with nrm := fun s => FX (g39_G n) n (nav g39_B [1, 0, 0]) (.fin none none (some g39_m1e) [] .leaf) s { cx with nrm := fun s => FX (g39_G n) n (nav g39_B [1, 0, 1]) (.fin none none (some g39_m1e) [] .leaf) s { cx with nrm := fun s => FX (g39_G n) n (nav g39_B [1, 1, 0]) (.fin none none (some g39_m1e) [] .leaf) s { cx with nrm := fun s => FX (g39_G n) n (nav g39_B [1, 1, 1]) (.fin none none (some g39_m1e) [] .leaf) s cx } } } }
theorem g39_1_fx (n : Nat) (cx : Cx β) (x0 : List (Int × ByteArray)) (v1 : Int) : g39_1F n (g39_m0 x0 v1) cx = g39_1 n (fun x4 => cx.ret (g39_m1 x4)) x0 v1 := by kernel_rfl
noncomputable def g39 (n : Nat) (x0 : List (Int × ByteArray)) (v1 : Int) : Option (DenR [.ro (.pair (.int .i64) .str) 45]) := g39_1 n (fun x4 => some (x4, ())) x0 v1
noncomputable def g39_A : List AK := [.ro (.pair (.int .i64) .str) 45, .dat (.int .i64)]
noncomputable def g39_R : List RK := [.ro (.pair (.int .i64) .str) 45]
noncomputable def g39_f (n : Nat) (d : DenA g39_A) : Option (DenR g39_R) := g39 n d.1 d.2.1
noncomputable def g39_S (n : Nat) : Spec := mkSpec g39_A g39_R (g39_f n)
noncomputable def g39_K : Sk := (.nd (.fin none none (some g39_m1e) [] .leaf) (.nd (.nd (.fin none none (some g39_m1e) [] .leaf) (.fin none none (some g39_m1e) [] .leaf)) (.nd (.fin none none (some g39_m1e) [] .leaf) (.fin none none (some g39_m1e) [] .leaf))))
theorem g39_top (n : Nat) (s : FState) (cx : Cx β) : FX (g39_G n) n g39_B g39_K s cx = g39_1F n s cx := by kernel_rfl
theorem g39_fit (n : Nat) : Fit Tryd.prog 39 (g39_S n) :=
  fit_of (Γ := Γ0) (l := g39_C n) (n := n) (sk := g39_K) (ts := [(4, none)]) (fn := Tryd.f39) (c := g39_B) (by kernel_rfl) (by kernel_rfl) (by unfold Callable; kernel_rfl) tab_ok trivial follows_mixed (by kernel_rfl) (by kernel_rfl) (Nat.le_of_ble_eq_true (by kernel_rfl)) (by kernel_rfl) (by kernel_rfl)
    (fun d => (g39_top n _ _).trans (Eq.trans (b := g39_1F n (g39_m0 d.1 d.2.1) (finCx (g39_G n) g39_R [(4, none)])) (by kernel_rfl) ((g39_1_fx n _ d.1 d.2.1).trans (by kernel_rfl))))
noncomputable def g23_m0 (x0 : List (Int × ByteArray)) : FState := ⟨tlist [(0, .sl 0 none false)], olist [(0, .row (.pair (.int .i64) .str) 45 false x0)]⟩
noncomputable def g23_m1 (x2 : List (Int × ByteArray)) : FState := ⟨tlist [(2, .sl 2 none false)], olist [(2, .row (.pair (.int .i64) .str) 45 false x2)]⟩
noncomputable def g23_m1e : List NE := [.row 2 (.pair (.int .i64) .str) 45 false]
noncomputable def g23_C (n : Nat) : List (Nat × Spec) := [(38, g38_S n), (39, g39_S n)]
noncomputable def g23_G (n : Nat) : Ctx := { Γ0 with calls := lkS (g23_C n) }
noncomputable def g23_B : Code := fb Tryd.f23
noncomputable def g23_1 (n : Nat) (kr : List (Int × ByteArray) → Option β) (x0 : List (Int × ByteArray)) : Option β := (g38 n x0).bind fun r1 => (g39 n r1.1 r1.2.1).bind fun r2 => kr r2.1
noncomputable def g23_1F (n : Nat) (s : FState) (cx : Cx β) : Option β := FX (g23_G n) n (nav g23_B [0]) (.fin none none (some g23_m1e) [] .leaf) s { cx with nrm := fun s => FX (g23_G n) n (nav g23_B [1, 0]) (.fin none none (some g23_m1e) [] .leaf) s { cx with nrm := fun s => FX (g23_G n) n (nav g23_B [1, 1, 0]) (.fin none none (some g23_m1e) [] .leaf) s { cx with nrm := fun s => FX (g23_G n) n (nav g23_B [1, 1, 1]) (.fin none none (some g23_m1e) [] .leaf) s cx } } }
theorem g23_1_fx (n : Nat) (cx : Cx β) (x0 : List (Int × ByteArray)) : g23_1F n (g23_m0 x0) cx = g23_1 n (fun x2 => cx.ret (g23_m1 x2)) x0 := by kernel_rfl
noncomputable def g23 (n : Nat) (x0 : List (Int × ByteArray)) : Option (DenR [.ro (.pair (.int .i64) .str) 45]) := g23_1 n (fun x2 => some (x2, ())) x0
noncomputable def g23_A : List AK := [.ro (.pair (.int .i64) .str) 45]
noncomputable def g23_R : List RK := [.ro (.pair (.int .i64) .str) 45]
noncomputable def g23_f (n : Nat) (d : DenA g23_A) : Option (DenR g23_R) := g23 n d.1
noncomputable def g23_S (n : Nat) : Spec := mkSpec g23_A g23_R (g23_f n)
noncomputable def g23_K : Sk := (.nd (.fin none none (some g23_m1e) [] .leaf) (.nd (.fin none none (some g23_m1e) [] .leaf) (.nd (.fin none none (some g23_m1e) [] .leaf) (.fin none none (some g23_m1e) [] .leaf))))
theorem g23_top (n : Nat) (s : FState) (cx : Cx β) : FX (g23_G n) n g23_B g23_K s cx = g23_1F n s cx := by kernel_rfl
theorem g23_fit (n : Nat) : Fit Tryd.prog 23 (g23_S n) :=
  fit_of (Γ := Γ0) (l := g23_C n) (n := n) (sk := g23_K) (ts := [(2, none)]) (fn := Tryd.f23) (c := g23_B) (by kernel_rfl) (by kernel_rfl) (by unfold Callable; kernel_rfl) tab_ok ⟨g38_fit n, g39_fit n, trivial⟩ follows_mixed (by kernel_rfl) (by kernel_rfl) (Nat.le_of_ble_eq_true (by kernel_rfl)) (by kernel_rfl) (by kernel_rfl)
    (fun d => (g23_top n _ _).trans (Eq.trans (b := g23_1F n (g23_m0 d.1) (finCx (g23_G n) g23_R [(2, none)])) (by kernel_rfl) ((g23_1_fx n _ d.1).trans (by kernel_rfl))))
noncomputable def g22_m0 (x0 x1 : List (Int × ByteArray)) : FState := ⟨tlist [(0, .sl 0 none false), (1, .sl 1 none false)], olist [(0, .row (.pair (.int .i64) .str) 45 false x0), (1, .row (.pair (.int .i64) .str) 45 false x1)]⟩
noncomputable def g22_m1 (v4 : Bool) : FState := ⟨tlist [(4, .dat .bool v4)], olist []⟩
noncomputable def g22_m1e : List NE := [.keep 4]
noncomputable def g22_m2 (x0 x1 : List (Int × ByteArray)) (v12 v13 : Int) : FState := ⟨tlist [(0, .sl 0 none false), (1, .sl 1 none false), (12, .dat (.int .i64) v12), (13, .dat (.int .i64) v13)], olist [(0, .row (.pair (.int .i64) .str) 45 false x0), (1, .row (.pair (.int .i64) .str) 45 false x1)]⟩
noncomputable def g22_m2e : List NE := [.row 0 (.pair (.int .i64) .str) 45 false, .row 1 (.pair (.int .i64) .str) 45 false, .keep 12, .keep 13]
noncomputable def g22_m3 : FState := ⟨tlist [], olist []⟩
noncomputable def g22_m3e : List NE := []
noncomputable def g22_C (n : Nat) : List (Nat × Spec) := []
noncomputable def g22_G (n : Nat) : Ctx := { Γ0 with calls := lkS (g22_C n) }
noncomputable def g22_B : Code := fb Tryd.f22
noncomputable def g22_1 (n : Nat) (kn : List (Int × ByteArray) → List (Int × ByteArray) → Int → Int → Option β) (kr : Bool → Option β) (x0 x1 : List (Int × ByteArray)) : Option β := bif ((x0.length : Int) != (x1.length : Int)) then (kr false) else (kn x0 x1 (x0.length : Int) (0 : Int))
noncomputable def g22_1F (n : Nat) (s : FState) (cx : Cx β) : Option β := FX (g22_G n) n (nav g22_B [0]) (.fin none none (some g22_m1e) [] .leaf) s { cx with nrm := fun s => FX (g22_G n) n (nav g22_B [1, 0, 0]) (.fin none none (some g22_m1e) [] .leaf) s { cx with nrm := fun s => FX (g22_G n) n (nav g22_B [1, 0, 1]) (.fin none none (some g22_m1e) [] .leaf) s { cx with nrm := fun s => FX (g22_G n) n (nav g22_B [1, 1, 0, 0]) (.fin none (some g22_m2e) (some g22_m1e) [] .leaf) s cx } } }
theorem g22_1_fx (n : Nat) (cx : Cx β) (x0 x1 : List (Int × ByteArray)) : g22_1F n (g22_m0 x0 x1) cx = g22_1 n (fun x0 x1 v12 v13 => cx.nrm (g22_m2 x0 x1 v12 v13)) (fun v4 => cx.ret (g22_m1 v4)) x0 x1 := by kernel_rfl
noncomputable def g22_2 (n : Nat) (kn : List (Int × ByteArray) → List (Int × ByteArray) → Int → Int → Option β) (kr : Bool → Option β) (kx0 : Option β) (x0 x1 : List (Int × ByteArray)) (v12 v13 : Int) : Option β := bif (decide (v13 < v12)) then (idx v13 (x0.length : Int) <| idx v13 (x1.length : Int) <| bif (!(((rd x0 v13 ((0 : Int), (⟨#[]⟩ : ByteArray))).1 == (rd x1 v13 ((0 : Int), (⟨#[]⟩ : ByteArray))).1) && (strEq ((rd x0 v13 ((0 : Int), (⟨#[]⟩ : ByteArray))).2) ((rd x1 v13 ((0 : Int), (⟨#[]⟩ : ByteArray))).2)))) then (kr false) else (kn x0 x1 v12 (w64 (v13 + (1 : Int))))) else kx0
noncomputable def g22_2F (n : Nat) (s : FState) (cx : Cx β) : Option β := FX (g22_G n) n (nav g22_B [1, 1, 0, 1, 0, 0, 0]) (.fin none none (some g22_m1e) [(0, g22_m3e)] .leaf) s { cx with nrm := fun s => FX (g22_G n) n (nav g22_B [1, 1, 0, 1, 0, 0, 1, 0]) (.fin none none (some g22_m1e) [(0, g22_m3e)] .leaf) s { cx with nrm := fun s => FX (g22_G n) n (nav g22_B [1, 1, 0, 1, 0, 0, 1, 1, 0]) (.fin none none (some g22_m1e) [(0, g22_m3e)] .leaf) s { cx with nrm := fun s => FX (g22_G n) n (nav g22_B [1, 1, 0, 1, 0, 0, 1, 1, 1]) (.fin none (some g22_m2e) (some g22_m1e) [(0, g22_m3e)] .leaf) s cx } } }
theorem g22_2_fx (n : Nat) (cx : Cx β) (x0 x1 : List (Int × ByteArray)) (v12 v13 : Int) : g22_2F n (g22_m2 x0 x1 v12 v13) cx = g22_2 n (fun x0 x1 v12 v13 => cx.nrm (g22_m2 x0 x1 v12 v13)) (fun v4 => cx.ret (g22_m1 v4)) (cx.ex 0 g22_m3) x0 x1 v12 v13 := by kernel_rfl
noncomputable def g22_3L (n : Nat) (kr : Bool → Option β) (kx0 : Option β) : Nat → List (Int × ByteArray) → List (Int × ByteArray) → Int → Int → Option β
  | 0, _, _, _, _ => none
  | m + 1, x0, x1, v12, v13 => g22_2 n (g22_3L n kr kx0 m) kr kx0 x0 x1 v12 v13
noncomputable def g22_3 (n : Nat) (kr : Bool → Option β) (kx0 : Option β) (x0 x1 : List (Int × ByteArray)) (v12 v13 : Int) : Option β := g22_3L n kr kx0 n x0 x1 v12 v13
noncomputable def g22_3F (n : Nat) (s : FState) (cx : Cx β) : Option β := loopN (fun again s => g22_2F n s { cx with nrm := again }) n s
theorem g22_3L_fx (n : Nat) (cx : Cx β) : ∀ (m : Nat) (x0 x1 : List (Int × ByteArray)) (v12 v13 : Int), loopN (fun again s => g22_2F n s { cx with nrm := again }) m (g22_m2 x0 x1 v12 v13) = g22_3L n (fun v4 => cx.ret (g22_m1 v4)) (cx.ex 0 g22_m3) m x0 x1 v12 v13 := by
  intro m
  induction m with
  | zero => intros; rfl
  | succ m ih => intros; simp only [loopN, g22_3L, g22_2_fx, ih]
theorem g22_3_fx (n : Nat) (cx : Cx β) (x0 x1 : List (Int × ByteArray)) (v12 v13 : Int) : g22_3F n (g22_m2 x0 x1 v12 v13) cx = g22_3 n (fun v4 => cx.ret (g22_m1 v4)) (cx.ex 0 g22_m3) x0 x1 v12 v13 := g22_3L_fx n cx n x0 x1 v12 v13
noncomputable def g22_4 (n : Nat) (kn : Option β) (kr : Bool → Option β) (x0 x1 : List (Int × ByteArray)) (v12 v13 : Int) : Option β := g22_3 n kr kn x0 x1 v12 v13
noncomputable def g22_4F (n : Nat) (s : FState) (cx : Cx β) : Option β := g22_3F n s { cx with ex := fun j s => bif Nat.beq j 0 then cx.nrm s else cx.ex j s }
theorem g22_4_fx (n : Nat) (cx : Cx β) (x0 x1 : List (Int × ByteArray)) (v12 v13 : Int) : g22_4F n (g22_m2 x0 x1 v12 v13) cx = g22_4 n (cx.nrm g22_m3) (fun v4 => cx.ret (g22_m1 v4)) x0 x1 v12 v13 := g22_3_fx n _ x0 x1 v12 v13
noncomputable def g22_5 (n : Nat) (kr : Bool → Option β) : Option β := kr true
noncomputable def g22_5F (n : Nat) (s : FState) (cx : Cx β) : Option β := FX (g22_G n) n (nav g22_B [1, 1, 1, 0]) (.fin none none (some g22_m1e) [] .leaf) s { cx with nrm := fun s => FX (g22_G n) n (nav g22_B [1, 1, 1, 1]) (.fin none none (some g22_m1e) [] .leaf) s cx }
theorem g22_5_fx (n : Nat) (cx : Cx β) : g22_5F n g22_m3 cx = g22_5 n (fun v4 => cx.ret (g22_m1 v4)) := by kernel_rfl
noncomputable def g22_6 (n : Nat) (kr : Bool → Option β) (x0 x1 : List (Int × ByteArray)) : Option β := g22_1 n (fun x0 x1 v12 v13 => g22_4 n (g22_5 n kr) kr x0 x1 v12 v13) kr x0 x1
noncomputable def g22_6F (n : Nat) (s : FState) (cx : Cx β) : Option β := g22_1F n s { cx with nrm := fun s => g22_4F n s { cx with nrm := fun s => g22_5F n s cx } }
theorem g22_6_fx (n : Nat) (cx : Cx β) (x0 x1 : List (Int × ByteArray)) : g22_6F n (g22_m0 x0 x1) cx = g22_6 n (fun v4 => cx.ret (g22_m1 v4)) x0 x1 := by simp only [g22_6F, g22_6, g22_1_fx, g22_4_fx, g22_5_fx]
noncomputable def g22 (n : Nat) (x0 x1 : List (Int × ByteArray)) : Option (DenR [.dat .bool]) := g22_6 n (fun v4 => some (v4, ())) x0 x1
noncomputable def g22_A : List AK := [.ro (.pair (.int .i64) .str) 45, .ro (.pair (.int .i64) .str) 45]
noncomputable def g22_R : List RK := [.dat .bool]
noncomputable def g22_f (n : Nat) (d : DenA g22_A) : Option (DenR g22_R) := g22 n d.1 d.2.1
noncomputable def g22_S (n : Nat) : Spec := mkSpec g22_A g22_R (g22_f n)
noncomputable def g22_K : Sk := (.nd (.fin none none (some g22_m1e) [] .leaf) (.nd (.nd (.fin none none (some g22_m1e) [] .leaf) (.fin none none (some g22_m1e) [] .leaf)) (.nd (.nd (.fin none (some g22_m2e) (some g22_m1e) [] .leaf) (.nd (.nd (.nd (.fin none none (some g22_m1e) [(0, g22_m3e)] .leaf) (.nd (.fin none none (some g22_m1e) [(0, g22_m3e)] .leaf) (.nd (.fin none none (some g22_m1e) [(0, g22_m3e)] .leaf) (.fin none (some g22_m2e) (some g22_m1e) [(0, g22_m3e)] .leaf)))) .leaf) .leaf)) (.nd (.fin none none (some g22_m1e) [] .leaf) (.fin none none (some g22_m1e) [] .leaf)))))
theorem g22_top (n : Nat) (s : FState) (cx : Cx β) : FX (g22_G n) n g22_B g22_K s cx = g22_6F n s cx := by kernel_rfl
theorem g22_fit (n : Nat) : Fit Tryd.prog 22 (g22_S n) :=
  fit_of (Γ := Γ0) (l := g22_C n) (n := n) (sk := g22_K) (ts := [(4, none)]) (fn := Tryd.f22) (c := g22_B) (by kernel_rfl) (by kernel_rfl) (by unfold Callable; kernel_rfl) tab_ok trivial follows_mixed (by kernel_rfl) (by kernel_rfl) (Nat.le_of_ble_eq_true (by kernel_rfl)) (by kernel_rfl) (by kernel_rfl)
    (fun d => (g22_top n _ _).trans (Eq.trans (b := g22_6F n (g22_m0 d.1 d.2.1) (finCx (g22_G n) g22_R [(4, none)])) (by kernel_rfl) ((g22_6_fx n _ d.1 d.2.1).trans (by kernel_rfl))))
noncomputable def g7_m0 (x0 x1 x2 : List Int) (v3 : Bool) : FState := ⟨tlist [(0, .sl 0 none false), (1, .sl 1 none false), (2, .sl 2 none false), (3, .dat .bool v3)], olist [(0, .row (.int .u8) 5 false x0), (1, .row (.int .u8) 5 false x1), (2, .row (.int .u8) 5 false x2)]⟩
noncomputable def g7_m1 (v8 : Bool) : FState := ⟨tlist [(8, .dat .bool v8)], olist []⟩
noncomputable def g7_m1e : List NE := [.keep 8]
noncomputable def g7_m2 (v3 : Bool) (v9 v10 v11 : ByteArray) : FState := ⟨tlist [(3, .dat .bool v3), (9, .dat .str v9), (10, .dat .str v10), (11, .dat .str v11)], olist []⟩
noncomputable def g7_m2e : List NE := [.keep 3, .keep 9, .keep 10, .keep 11]
noncomputable def g7_m3 (v9 v10 v11 : ByteArray) (v13 : Int) : FState := ⟨tlist [(9, .dat .str v9), (10, .dat .str v10), (11, .dat .str v11), (13, .dat (.int .i64) v13)], olist []⟩
noncomputable def g7_m3e : List NE := [.keep 9, .keep 10, .keep 11, .keep 13]
noncomputable def g7_m4 (v9 v10 v11 : ByteArray) (v13 : Int) : FState := ⟨tlist [(9, .dat .str v9), (10, .dat .str v10), (11, .dat .str v11), (13, .dat (.int .i64) v13)], olist []⟩
noncomputable def g7_m4e : List NE := [.keep 9, .keep 10, .keep 11, .keep 13]
noncomputable def g7_m5 (v9 v10 v11 : ByteArray) (v13 : Int) (x17 x93 : List (Int × ByteArray)) (v94 v95 : Int) : FState := ⟨tlist [(9, .dat .str v9), (10, .dat .str v10), (11, .dat .str v11), (13, .dat (.int .i64) v13), (17, .sl 17 none false), (93, .sl 93 none false), (94, .dat (.int .i64) v94), (95, .dat (.int .i64) v95)], olist [(17, .row (.pair (.int .i64) .str) 45 true x17), (93, .row (.pair (.int .i64) .str) 45 true x93)]⟩
noncomputable def g7_m5e : List NE := [.keep 9, .keep 10, .keep 11, .keep 13, .row 17 (.pair (.int .i64) .str) 45 true, .row 93 (.pair (.int .i64) .str) 45 true, .keep 94, .keep 95]
noncomputable def g7_m6 (v9 v10 v11 : ByteArray) (v13 : Int) (x17 : List (Int × ByteArray)) : FState := ⟨tlist [(9, .dat .str v9), (10, .dat .str v10), (11, .dat .str v11), (13, .dat (.int .i64) v13), (17, .sl 17 none false)], olist [(17, .row (.pair (.int .i64) .str) 45 true x17)]⟩
noncomputable def g7_m6e : List NE := [.keep 9, .keep 10, .keep 11, .keep 13, .row 17 (.pair (.int .i64) .str) 45 true]
noncomputable def g7_C (n : Nat) : List (Nat × Spec) := [(19, g19_S n), (20, g20_S n), (21, g21_S n), (22, g22_S n), (23, g23_S n)]
noncomputable def g7_G (n : Nat) : Ctx := { Γ0 with calls := lkS (g7_C n) }
noncomputable def g7_B : Code := fb Tryd.f7
noncomputable def g7_1 (n : Nat) (kn : Bool → ByteArray → ByteArray → ByteArray → Option β) (kr : Bool → Option β) (x0 x1 x2 : List Int) (v3 : Bool) : Option β := bif (decide ((x0.length : Int) > (2147483647 : Int))) then (kr true) else (bif (decide ((x1.length : Int) > (2147483647 : Int))) then (kr true) else (bif (decide ((x2.length : Int) > (2147483647 : Int))) then (kr true) else ((g19 n x0 (20 : Int)).bind fun r1 => (g19 n x1 (20 : Int)).bind fun r2 => (g19 n x2 (20 : Int)).bind fun r3 => bif (strEq r2.1 (⟨#[]⟩ : ByteArray)) then (kn v3 r1.1 (⟨#[97]⟩ : ByteArray) r3.1) else (kn v3 r1.1 r2.1 r3.1))))
noncomputable def g7_1F (n : Nat) (s : FState) (cx : Cx β) : Option β := FX (g7_G n) n (nav g7_B [0]) (.fin none none (some g7_m1e) [] .leaf) s { cx with nrm := fun s => FX (g7_G n) n (nav g7_B [1, 0, 0]) (.fin none none (some g7_m1e) [] .leaf) s { cx with nrm := fun s => FX (g7_G n) n (nav g7_B [1, 0, 1]) (.fin none none (some g7_m1e) [] .leaf) s { cx with nrm := fun s => FX (g7_G n) n (nav g7_B [1, 1, 0]) (.fin none none (some g7_m1e) [] .leaf) s { cx with nrm := fun s => FX (g7_G n) n (nav g7_B [1, 1, 1, 0, 0]) (.fin none none (some g7_m1e) [] .leaf) s { cx with nrm := fun s => FX (g7_G n) n (nav g7_B [1, 1, 1, 0, 1]) (.fin none (some g7_m2e) (some g7_m1e) [] .leaf) s cx } } } } }
theorem g7_1_fx (n : Nat) (cx : Cx β) (x0 x1 x2 : List Int) (v3 : Bool) : g7_1F n (g7_m0 x0 x1 x2 v3) cx = g7_1 n (fun v3 v9 v10 v11 => cx.nrm (g7_m2 v3 v9 v10 v11)) (fun v8 => cx.ret (g7_m1 v8)) x0 x1 x2 v3 := by kernel_rfl
noncomputable def g7_2 (n : Nat) (kn : ByteArray → ByteArray → ByteArray → Int → Option β) (v3 : Bool) (v9 v10 v11 : ByteArray) : Option β := roomy (v9.size + v10.size) <| roomy ((v9 ++ v10).size + v11.size) <| (g20 n ((v9 ++ v10) ++ v11)).bind fun r1 => bnd (0 : Int) (v9.size : Int) (r1.1.size : Int) <| bnd (v9.size : Int) (w64 ((v9.size : Int) + (v10.size : Int))) (r1.1.size : Int) <| bnd (w64 ((v9.size : Int) + (v10.size : Int))) (r1.1.size : Int) (r1.1.size : Int) <| bif v3 then (kn (cutS r1.1 (0 : Int) (v9.size : Int)) (cutS r1.1 (v9.size : Int) (w64 ((v9.size : Int) + (v10.size : Int)))) (cutS r1.1 (w64 ((v9.size : Int) + (v10.size : Int))) (r1.1.size : Int)) (-1 : Int)) else (kn (cutS r1.1 (0 : Int) (v9.size : Int)) (cutS r1.1 (v9.size : Int) (w64 ((v9.size : Int) + (v10.size : Int)))) (cutS r1.1 (w64 ((v9.size : Int) + (v10.size : Int))) (r1.1.size : Int)) (1 : Int))
noncomputable def g7_2F (n : Nat) (s : FState) (cx : Cx β) : Option β := FX (g7_G n) n (nav g7_B [1, 1, 1, 1, 0]) (.fin none none none [] .leaf) s { cx with nrm := fun s => FX (g7_G n) n (nav g7_B [1, 1, 1, 1, 1, 0]) (.fin none none none [] .leaf) s { cx with nrm := fun s => FX (g7_G n) n (nav g7_B [1, 1, 1, 1, 1, 1, 0]) (.fin none none none [] .leaf) s { cx with nrm := fun s => FX (g7_G n) n (nav g7_B [1, 1, 1, 1, 1, 1, 1, 0, 0]) (.fin none none none [] .leaf) s { cx with nrm := fun s => FX (g7_G n) n (nav g7_B [1, 1, 1, 1, 1, 1, 1, 0, 1]) (.fin none (some g7_m3e) none [] .leaf) s cx } } } }
theorem g7_2_fx (n : Nat) (cx : Cx β) (v3 : Bool) (v9 v10 v11 : ByteArray) : g7_2F n (g7_m2 v3 v9 v10 v11) cx = g7_2 n (fun v9 v10 v11 v13 => cx.nrm (g7_m3 v9 v10 v11 v13)) v3 v9 v10 v11 := by kernel_rfl
noncomputable def g7_3 (n : Nat) (kn : ByteArray → ByteArray → ByteArray → Int → Option β) (v9 v10 v11 : ByteArray) (v13 : Int) : Option β := bif (strEq v9 (⟨#[]⟩ : ByteArray)) then (roomy (v9.size + (⟨#[60]⟩ : ByteArray).size) <| roomy ((⟨#[62]⟩ : ByteArray).size + v11.size) <| kn (v9 ++ (⟨#[60]⟩ : ByteArray)) v10 ((⟨#[62]⟩ : ByteArray) ++ v11) v13) else (bif (strEq v11 (⟨#[]⟩ : ByteArray)) then (roomy (v9.size + (⟨#[60]⟩ : ByteArray).size) <| roomy ((⟨#[62]⟩ : ByteArray).size + v11.size) <| kn (v9 ++ (⟨#[60]⟩ : ByteArray)) v10 ((⟨#[62]⟩ : ByteArray) ++ v11) v13) else (kn v9 v10 v11 v13))
noncomputable def g7_3F (n : Nat) (s : FState) (cx : Cx β) : Option β := FX (g7_G n) n (nav g7_B [1, 1, 1, 1, 1, 1, 1, 1, 0, 0]) (.fin none none none [] .leaf) s { cx with nrm := fun s => FX (g7_G n) n (nav g7_B [1, 1, 1, 1, 1, 1, 1, 1, 0, 1]) (.fin none (some g7_m4e) none [] .leaf) s cx }
theorem g7_3_fx (n : Nat) (cx : Cx β) (v9 v10 v11 : ByteArray) (v13 : Int) : g7_3F n (g7_m3 v9 v10 v11 v13) cx = g7_3 n (fun v9 v10 v11 v13 => cx.nrm (g7_m4 v9 v10 v11 v13)) v9 v10 v11 v13 := by kernel_rfl
noncomputable def g7_4 (n : Nat) (kn : ByteArray → ByteArray → ByteArray → Int → List (Int × ByteArray) → List (Int × ByteArray) → Int → Int → Option β) (v9 v10 v11 : ByteArray) (v13 : Int) : Option β := (g21 n v9 v10 v11).bind fun r1 => kn v9 v10 v11 v13 [] [((0 : Int), r1.1), (v13, r1.2.1), ((0 : Int), r1.2.2.1)] ([((0 : Int), r1.1), (v13, r1.2.1), ((0 : Int), r1.2.2.1)].length : Int) (0 : Int)
noncomputable def g7_4F (n : Nat) (s : FState) (cx : Cx β) : Option β := FX (g7_G n) n (nav g7_B [1, 1, 1, 1, 1, 1, 1, 1, 1, 0]) (.fin none none none [] .leaf) s { cx with nrm := fun s => FX (g7_G n) n (nav g7_B [1, 1, 1, 1, 1, 1, 1, 1, 1, 1, 0]) (.fin none none none [] .leaf) s { cx with nrm := fun s => FX (g7_G n) n (nav g7_B [1, 1, 1, 1, 1, 1, 1, 1, 1, 1, 1, 0, 0]) (.fin none (some g7_m5e) none [] .leaf) s cx } }
theorem g7_4_fx (n : Nat) (cx : Cx β) (v9 v10 v11 : ByteArray) (v13 : Int) : g7_4F n (g7_m4 v9 v10 v11 v13) cx = g7_4 n (fun v9 v10 v11 v13 x17 x93 v94 v95 => cx.nrm (g7_m5 v9 v10 v11 v13 x17 x93 v94 v95)) v9 v10 v11 v13 := by kernel_rfl
noncomputable def g7_5 (n : Nat) (kn : ByteArray → ByteArray → ByteArray → Int → List (Int × ByteArray) → List (Int × ByteArray) → Int → Int → Option β) (kx0 : ByteArray → ByteArray → ByteArray → Int → List (Int × ByteArray) → Option β) (v9 v10 v11 : ByteArray) (v13 : Int) (x17 x93 : List (Int × ByteArray)) (v94 v95 : Int) : Option β := bif (decide (v95 < v94)) then (idx v95 (x93.length : Int) <| bif (!strEq ((rd [(rd x93 v95 ((0 : Int), (⟨#[]⟩ : ByteArray)))] (0 : Int) ((0 : Int), (⟨#[]⟩ : ByteArray))).2) (⟨#[]⟩ : ByteArray)) then (roomy (x17.length + [(rd [(rd x93 v95 ((0 : Int), (⟨#[]⟩ : ByteArray)))] (0 : Int) ((0 : Int), (⟨#[]⟩ : ByteArray)))].length) <| kn v9 v10 v11 v13 (x17 ++ [(rd [(rd x93 v95 ((0 : Int), (⟨#[]⟩ : ByteArray)))] (0 : Int) ((0 : Int), (⟨#[]⟩ : ByteArray)))]) x93 v94 (w64 (v95 + (1 : Int)))) else (kn v9 v10 v11 v13 x17 x93 v94 (w64 (v95 + (1 : Int))))) else (kx0 v9 v10 v11 v13 x17)
noncomputable def g7_5F (n : Nat) (s : FState) (cx : Cx β) : Option β := FX (g7_G n) n (nav g7_B [1, 1, 1, 1, 1, 1, 1, 1, 1, 1, 1, 0, 1, 0, 0, 0]) (.fin none none none [(0, g7_m6e)] .leaf) s { cx with nrm := fun s => FX (g7_G n) n (nav g7_B [1, 1, 1, 1, 1, 1, 1, 1, 1, 1, 1, 0, 1, 0, 0, 1, 0]) (.fin none none none [(0, g7_m6e)] .leaf) s { cx with nrm := fun s => FX (g7_G n) n (nav g7_B [1, 1, 1, 1, 1, 1, 1, 1, 1, 1, 1, 0, 1, 0, 0, 1, 1, 0]) (.fin none none none [(0, g7_m6e)] .leaf) s { cx with nrm := fun s => FX (g7_G n) n (nav g7_B [1, 1, 1, 1, 1, 1, 1, 1, 1, 1, 1, 0, 1, 0, 0, 1, 1, 1]) (.fin none (some g7_m5e) none [(0, g7_m6e)] .leaf) s cx } } }
theorem g7_5_fx (n : Nat) (cx : Cx β) (v9 v10 v11 : ByteArray) (v13 : Int) (x17 x93 : List (Int × ByteArray)) (v94 v95 : Int) : g7_5F n (g7_m5 v9 v10 v11 v13 x17 x93 v94 v95) cx = g7_5 n (fun v9 v10 v11 v13 x17 x93 v94 v95 => cx.nrm (g7_m5 v9 v10 v11 v13 x17 x93 v94 v95)) (fun v9 v10 v11 v13 x17 => cx.ex 0 (g7_m6 v9 v10 v11 v13 x17)) v9 v10 v11 v13 x17 x93 v94 v95 := by kernel_rfl
noncomputable def g7_6L (n : Nat) (kx0 : ByteArray → ByteArray → ByteArray → Int → List (Int × ByteArray) → Option β) : Nat → ByteArray → ByteArray → ByteArray → Int → List (Int × ByteArray) → List (Int × ByteArray) → Int → Int → Option β
  | 0, _, _, _, _, _, _, _, _ => none
  | m + 1, v9, v10, v11, v13, x17, x93, v94, v95 => g7_5 n (g7_6L n kx0 m) kx0 v9 v10 v11 v13 x17 x93 v94 v95
noncomputable def g7_6 (n : Nat) (kx0 : ByteArray → ByteArray → ByteArray → Int → List (Int × ByteArray) → Option β) (v9 v10 v11 : ByteArray) (v13 : Int) (x17 x93 : List (Int × ByteArray)) (v94 v95 : Int) : Option β := g7_6L n kx0 n v9 v10 v11 v13 x17 x93 v94 v95
noncomputable def g7_6F (n : Nat) (s : FState) (cx : Cx β) : Option β := loopN (fun again s => g7_5F n s { cx with nrm := again }) n s
theorem g7_6L_fx (n : Nat) (cx : Cx β) : ∀ (m : Nat) (v9 v10 v11 : ByteArray) (v13 : Int) (x17 x93 : List (Int × ByteArray)) (v94 v95 : Int), loopN (fun again s => g7_5F n s { cx with nrm := again }) m (g7_m5 v9 v10 v11 v13 x17 x93 v94 v95) = g7_6L n (fun v9 v10 v11 v13 x17 => cx.ex 0 (g7_m6 v9 v10 v11 v13 x17)) m v9 v10 v11 v13 x17 x93 v94 v95 := by
  intro m
  induction m with
  | zero => intros; rfl
  | succ m ih => intros; simp only [loopN, g7_6L, g7_5_fx, ih]
theorem g7_6_fx (n : Nat) (cx : Cx β) (v9 v10 v11 : ByteArray) (v13 : Int) (x17 x93 : List (Int × ByteArray)) (v94 v95 : Int) : g7_6F n (g7_m5 v9 v10 v11 v13 x17 x93 v94 v95) cx = g7_6 n (fun v9 v10 v11 v13 x17 => cx.ex 0 (g7_m6 v9 v10 v11 v13 x17)) v9 v10 v11 v13 x17 x93 v94 v95 := g7_6L_fx n cx n v9 v10 v11 v13 x17 x93 v94 v95
noncomputable def g7_7 (n : Nat) (kn : ByteArray → ByteArray → ByteArray → Int → List (Int × ByteArray) → Option β) (v9 v10 v11 : ByteArray) (v13 : Int) (x17 x93 : List (Int × ByteArray)) (v94 v95 : Int) : Option β := g7_6 n kn v9 v10 v11 v13 x17 x93 v94 v95
noncomputable def g7_7F (n : Nat) (s : FState) (cx : Cx β) : Option β := g7_6F n s { cx with ex := fun j s => bif Nat.beq j 0 then cx.nrm s else cx.ex j s }
theorem g7_7_fx (n : Nat) (cx : Cx β) (v9 v10 v11 : ByteArray) (v13 : Int) (x17 x93 : List (Int × ByteArray)) (v94 v95 : Int) : g7_7F n (g7_m5 v9 v10 v11 v13 x17 x93 v94 v95) cx = g7_7 n (fun v9 v10 v11 v13 x17 => cx.nrm (g7_m6 v9 v10 v11 v13 x17)) v9 v10 v11 v13 x17 x93 v94 v95 := g7_6_fx n _ v9 v10 v11 v13 x17 x93 v94 v95
noncomputable def g7_8 (n : Nat) (kr : Bool → Option β) (v9 v10 v11 : ByteArray) (v13 : Int) (x17 : List (Int × ByteArray)) : Option β := (g23 n [((0 : Int), v9), (v13, v10), ((0 : Int), v11)]).bind fun r1 => (g22 n r1.1 x17).bind fun r2 => kr r2.1
noncomputable def g7_8F (n : Nat) (s : FState) (cx : Cx β) : Option β := FX (g7_G n) n (nav g7_B [1, 1, 1, 1, 1, 1, 1, 1, 1, 1, 1, 1, 0]) (.fin none none (some g7_m1e) [] .leaf) s { cx with nrm := fun s => FX (g7_G n) n (nav g7_B [1, 1, 1, 1, 1, 1, 1, 1, 1, 1, 1, 1, 1]) (.fin none none (some g7_m1e) [] .leaf) s cx }
theorem g7_8_fx (n : Nat) (cx : Cx β) (v9 v10 v11 : ByteArray) (v13 : Int) (x17 : List (Int × ByteArray)) : g7_8F n (g7_m6 v9 v10 v11 v13 x17) cx = g7_8 n (fun v8 => cx.ret (g7_m1 v8)) v9 v10 v11 v13 x17 := by kernel_rfl
noncomputable def g7_9 (n : Nat) (kr : Bool → Option β) (x0 x1 x2 : List Int) (v3 : Bool) : Option β := g7_1 n (fun v3 v9 v10 v11 => g7_2 n (fun v9 v10 v11 v13 => g7_3 n (fun v9 v10 v11 v13 => g7_4 n (fun v9 v10 v11 v13 x17 x93 v94 v95 => g7_7 n (fun v9 v10 v11 v13 x17 => g7_8 n kr v9 v10 v11 v13 x17) v9 v10 v11 v13 x17 x93 v94 v95) v9 v10 v11 v13) v9 v10 v11 v13) v3 v9 v10 v11) kr x0 x1 x2 v3
noncomputable def g7_9F (n : Nat) (s : FState) (cx : Cx β) : Option β := g7_1F n s { cx with nrm := fun s => g7_2F n s { cx with nrm := fun s => g7_3F n s { cx with nrm := fun s => g7_4F n s { cx with nrm := fun s => g7_7F n s { cx with nrm := fun s => g7_8F n s cx } } } } }
theorem g7_9_fx (n : Nat) (cx : Cx β) (x0 x1 x2 : List Int) (v3 : Bool) : g7_9F n (g7_m0 x0 x1 x2 v3) cx = g7_9 n (fun v8 => cx.ret (g7_m1 v8)) x0 x1 x2 v3 := by simp only [g7_9F, g7_9, g7_1_fx, g7_2_fx, g7_3_fx, g7_4_fx, g7_7_fx, g7_8_fx]
noncomputable def g7 (n : Nat) (x0 x1 x2 : List Int) (v3 : Bool) : Option (DenR [.dat .bool]) := g7_9 n (fun v8 => some (v8, ())) x0 x1 x2 v3
noncomputable def g7_A : List AK := [.ro (.int .u8) 5, .ro (.int .u8) 5, .ro (.int .u8) 5, .dat .bool]
noncomputable def g7_R : List RK := [.dat .bool]
noncomputable def g7_f (n : Nat) (d : DenA g7_A) : Option (DenR g7_R) := g7 n d.1 d.2.1 d.2.2.1 d.2.2.2.1
noncomputable def g7_S (n : Nat) : Spec := mkSpec g7_A g7_R (g7_f n)
noncomputable def g7_K : Sk := (.nd (.fin none none (some g7_m1e) [] .leaf) (.nd (.nd (.fin none none (some g7_m1e) [] .leaf) (.fin none none (some g7_m1e) [] .leaf)) (.nd (.fin none none (some g7_m1e) [] .leaf) (.nd (.nd (.fin none none (some g7_m1e) [] .leaf) (.fin none (some g7_m2e) (some g7_m1e) [] .leaf)) (.nd (.fin none none none [] .leaf) (.nd (.fin none none none [] .leaf) (.nd (.fin none none none [] .leaf) (.nd (.nd (.fin none none none [] .leaf) (.fin none (some g7_m3e) none [] .leaf)) (.nd (.nd (.fin none none none [] .leaf) (.fin none (some g7_m4e) none [] .leaf)) (.nd (.fin none none none [] .leaf) (.nd (.fin none none none [] .leaf) (.nd (.nd (.fin none (some g7_m5e) none [] .leaf) (.nd (.nd (.nd (.fin none none none [(0, g7_m6e)] .leaf) (.nd (.fin none none none [(0, g7_m6e)] .leaf) (.nd (.fin none none none [(0, g7_m6e)] .leaf) (.fin none (some g7_m5e) none [(0, g7_m6e)] .leaf)))) .leaf) .leaf)) (.nd (.fin none none (some g7_m1e) [] .leaf) (.fin none none (some g7_m1e) [] .leaf))))))))))))))
theorem g7_top (n : Nat) (s : FState) (cx : Cx β) : FX (g7_G n) n g7_B g7_K s cx = g7_9F n s cx := by kernel_rfl
theorem g7_fit (n : Nat) : Fit Tryd.prog 7 (g7_S n) :=
  fit_of (Γ := Γ0) (l := g7_C n) (n := n) (sk := g7_K) (ts := [(8, none)]) (fn := Tryd.f7) (c := g7_B) (by kernel_rfl) (by kernel_rfl) (by unfold Callable; kernel_rfl) tab_ok ⟨g19_fit n, g20_fit n, g21_fit n, g22_fit n, g23_fit n, trivial⟩ follows_mixed (by kernel_rfl) (by kernel_rfl) (Nat.le_of_ble_eq_true (by kernel_rfl)) (by kernel_rfl) (by kernel_rfl)
    (fun d => (g7_top n _ _).trans (Eq.trans (b := g7_9F n (g7_m0 d.1 d.2.1 d.2.2.1 d.2.2.2.1) (finCx (g7_G n) g7_R [(8, none)])) (by kernel_rfl) ((g7_9_fx n _ d.1 d.2.1 d.2.2.1 d.2.2.2.1).trans (by kernel_rfl))))
end Go.Proofs.YtfnjlgflbenfoaaDoorZF
