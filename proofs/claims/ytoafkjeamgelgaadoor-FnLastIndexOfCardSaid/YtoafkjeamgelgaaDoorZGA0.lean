import Derived.Test.YtoafkjeamgelgaaDoorZFT
import Derived.Test.YtoafkjeamgelgaaDoorZFE
namespace Go.Proofs.YtoafkjeamgelgaaDoorZF
open Go Go.Proofs
set_option linter.unusedVariables false
set_option maxRecDepth 100000
variable {β : Type}
noncomputable def g9_m0 (x0 : List Int) (v1 : Int) : FState := ⟨tlist [(0, .sl 0 none false), (1, .dat (.int .i64) v1)], olist [(0, .row (.int .u8) 5 false x0)]⟩
noncomputable def g9_m1 (v4 : ByteArray) : FState := ⟨tlist [(4, .dat .str v4)], olist []⟩
noncomputable def g9_m1e : List NE := [.keep 4]
noncomputable def g9_m2 (x0 : List Int) (v1 : Int) (x5 : List Int) (v6 : Int) : FState := ⟨tlist [(0, .sl 0 none false), (1, .dat (.int .i64) v1), (5, .sl 5 none false), (6, .dat (.int .i64) v6)], olist [(0, .row (.int .u8) 5 false x0), (5, .row (.int .u8) 5 true x5)]⟩
noncomputable def g9_m2e : List NE := [.row 0 (.int .u8) 5 false, .keep 1, .row 5 (.int .u8) 5 true, .keep 6]
noncomputable def g9_m3 (x5 : List Int) : FState := ⟨tlist [(5, .sl 5 none false)], olist [(5, .row (.int .u8) 5 true x5)]⟩
noncomputable def g9_m3e : List NE := [.row 5 (.int .u8) 5 true]
noncomputable def g9_C (n : Nat) : List (Nat × Spec) := []
noncomputable def g9_G (n : Nat) : Ctx := { Γ0 with calls := lkS (g9_C n) }
noncomputable def g9_B : Code := fb Tryd.f9
noncomputable def g9_1 (n : Nat) (kn : List Int → Int → List Int → Int → Option β) (x0 : List Int) (v1 : Int) : Option β := kn x0 v1 [] (0 : Int)
noncomputable def g9_1F (n : Nat) (s : FState) (cx : Cx β) : Option β := FX (g9_G n) n (nav g9_B [0]) (.fin none none none [] .leaf) s { cx with nrm := fun s => FX (g9_G n) n (nav g9_B [1, 0]) (.fin none none none [] .leaf) s { cx with nrm := fun s => FX (g9_G n) n (nav g9_B [1, 1, 0, 0]) (.fin none (some g9_m2e) none [] .leaf) s cx } }
theorem g9_1_fx (n : Nat) (cx : Cx β) (x0 : List Int) (v1 : Int) : g9_1F n (g9_m0 x0 v1) cx = g9_1 n (fun x0 v1 x5 v6 => cx.nrm (g9_m2 x0 v1 x5 v6)) x0 v1 := by kernel_rfl
noncomputable def g9_2 (n : Nat) (kn : List Int → Int → List Int → Int → Option β) (kx0 : List Int → Option β) (x0 : List Int) (v1 : Int) (x5 : List Int) (v6 : Int) : Option β := bif (decide (v6 < (x0.length : Int))) then (bif (decide (v6 < v1)) then (idx v6 (x0.length : Int) <| roomy (x5.length + [((rd x0 v6 (0 : Int)).tmod (128 : Int))].length) <| kn x0 v1 (x5 ++ [((rd x0 v6 (0 : Int)).tmod (128 : Int))]) (w64 (v6 + (1 : Int)))) else (kx0 x5)) else (kx0 x5)
noncomputable def g9_2F (n : Nat) (s : FState) (cx : Cx β) : Option β := FX (g9_G n) n (nav g9_B [1, 1, 0, 1, 0, 0, 0, 0]) (.fin none none none [(0, g9_m3e)] .leaf) s { cx with nrm := fun s => FX (g9_G n) n (nav g9_B [1, 1, 0, 1, 0, 0, 0, 1]) (.fin none none none [(0, g9_m3e)] .leaf) s { cx with nrm := fun s => FX (g9_G n) n (nav g9_B [1, 1, 0, 1, 0, 0, 1, 0]) (.fin none none none [(0, g9_m3e)] .leaf) s { cx with nrm := fun s => FX (g9_G n) n (nav g9_B [1, 1, 0, 1, 0, 0, 1, 1]) (.fin none (some g9_m2e) none [(0, g9_m3e)] .leaf) s cx } } }
theorem g9_2_fx (n : Nat) (cx : Cx β) (x0 : List Int) (v1 : Int) (x5 : List Int) (v6 : Int) : g9_2F n (g9_m2 x0 v1 x5 v6) cx = g9_2 n (fun x0 v1 x5 v6 => cx.nrm (g9_m2 x0 v1 x5 v6)) (fun x5 => cx.ex 0 (g9_m3 x5)) x0 v1 x5 v6 := by kernel_rfl
noncomputable def g9_3L (n : Nat) (kx0 : List Int → Option β) : Nat → List Int → Int → List Int → Int → Option β
  | 0, _, _, _, _ => none
  | m + 1, x0, v1, x5, v6 => g9_2 n (g9_3L n kx0 m) kx0 x0 v1 x5 v6
noncomputable def g9_3 (n : Nat) (kx0 : List Int → Option β) (x0 : List Int) (v1 : Int) (x5 : List Int) (v6 : Int) : Option β := g9_3L n kx0 n x0 v1 x5 v6
noncomputable def g9_3F (n : Nat) (s : FState) (cx : Cx β) : Option β := loopN (fun again s => g9_2F n s { cx with nrm := again }) n s
theorem g9_3L_fx (n : Nat) (cx : Cx β) : ∀ (m : Nat) (x0 : List Int) (v1 : Int) (x5 : List Int) (v6 : Int), loopN (fun again s => g9_2F n s { cx with nrm := again }) m (g9_m2 x0 v1 x5 v6) = g9_3L n (fun x5 => cx.ex 0 (g9_m3 x5)) m x0 v1 x5 v6 := by
  intro m
  induction m with
  | zero => intros; rfl
  | succ m ih => intros; simp only [loopN, g9_3L, g9_2_fx, ih]
theorem g9_3_fx (n : Nat) (cx : Cx β) (x0 : List Int) (v1 : Int) (x5 : List Int) (v6 : Int) : g9_3F n (g9_m2 x0 v1 x5 v6) cx = g9_3 n (fun x5 => cx.ex 0 (g9_m3 x5)) x0 v1 x5 v6 := g9_3L_fx n cx n x0 v1 x5 v6
noncomputable def g9_4 (n : Nat) (kn : List Int → Option β) (x0 : List Int) (v1 : Int) (x5 : List Int) (v6 : Int) : Option β := g9_3 n kn x0 v1 x5 v6
noncomputable def g9_4F (n : Nat) (s : FState) (cx : Cx β) : Option β := g9_3F n s { cx with ex := fun j s => bif Nat.beq j 0 then cx.nrm s else cx.ex j s }
theorem g9_4_fx (n : Nat) (cx : Cx β) (x0 : List Int) (v1 : Int) (x5 : List Int) (v6 : Int) : g9_4F n (g9_m2 x0 v1 x5 v6) cx = g9_4 n (fun x5 => cx.nrm (g9_m3 x5)) x0 v1 x5 v6 := g9_3_fx n _ x0 v1 x5 v6
noncomputable def g9_5 (n : Nat) (kr : ByteArray → Option β) (x5 : List Int) : Option β := kr (strOfNums x5)
noncomputable def g9_5F (n : Nat) (s : FState) (cx : Cx β) : Option β := FX (g9_G n) n (nav g9_B [1, 1, 1, 0]) (.fin none none (some g9_m1e) [] .leaf) s { cx with nrm := fun s => FX (g9_G n) n (nav g9_B [1, 1, 1, 1]) (.fin none none (some g9_m1e) [] .leaf) s cx }
theorem g9_5_fx (n : Nat) (cx : Cx β) (x5 : List Int) : g9_5F n (g9_m3 x5) cx = g9_5 n (fun v4 => cx.ret (g9_m1 v4)) x5 := by kernel_rfl
noncomputable def g9_6 (n : Nat) (kr : ByteArray → Option β) (x0 : List Int) (v1 : Int) : Option β := g9_1 n (fun x0 v1 x5 v6 => g9_4 n (fun x5 => g9_5 n kr x5) x0 v1 x5 v6) x0 v1
noncomputable def g9_6F (n : Nat) (s : FState) (cx : Cx β) : Option β := g9_1F n s { cx with nrm := fun s => g9_4F n s { cx with nrm := fun s => g9_5F n s cx } }
theorem g9_6_fx (n : Nat) (cx : Cx β) (x0 : List Int) (v1 : Int) : g9_6F n (g9_m0 x0 v1) cx = g9_6 n (fun v4 => cx.ret (g9_m1 v4)) x0 v1 := by simp only [g9_6F, g9_6, g9_1_fx, g9_4_fx, g9_5_fx]
noncomputable def g9 (n : Nat) (x0 : List Int) (v1 : Int) : Option (DenR [.dat .str]) := g9_6 n (fun v4 => some (v4, ())) x0 v1
noncomputable def g9_A : List AK := [.ro (.int .u8) 5, .dat (.int .i64)]
noncomputable def g9_R : List RK := [.dat .str]
noncomputable def g9_f (n : Nat) (d : DenA g9_A) : Option (DenR g9_R) := g9 n d.1 d.2.1
noncomputable def g9_S (n : Nat) : Spec := mkSpec g9_A g9_R (g9_f n)
noncomputable def g9_K : Sk := (.nd (.fin none none none [] .leaf) (.nd (.fin none none none [] .leaf) (.nd (.nd (.fin none (some g9_m2e) none [] .leaf) (.nd (.nd (.nd (.nd (.fin none none none [(0, g9_m3e)] .leaf) (.fin none none none [(0, g9_m3e)] .leaf)) (.nd (.fin none none none [(0, g9_m3e)] .leaf) (.fin none (some g9_m2e) none [(0, g9_m3e)] .leaf))) .leaf) .leaf)) (.nd (.fin none none (some g9_m1e) [] .leaf) (.fin none none (some g9_m1e) [] .leaf)))))
theorem g9_top (n : Nat) (s : FState) (cx : Cx β) : FX (g9_G n) n g9_B g9_K s cx = g9_6F n s cx := by kernel_rfl
theorem g9_fit (n : Nat) : Fit Tryd.prog 9 (g9_S n) :=
  fit_of (Γ := Γ0) (l := g9_C n) (n := n) (sk := g9_K) (ts := [(4, none)]) (fn := Tryd.f9) (c := g9_B) (by kernel_rfl) (by kernel_rfl) (by unfold Callable; kernel_rfl) tab_ok trivial follows_mixed (by kernel_rfl) (by kernel_rfl) (Nat.le_of_ble_eq_true (by kernel_rfl)) (by kernel_rfl) (by kernel_rfl)
    (fun d => (g9_top n _ _).trans (Eq.trans (b := g9_6F n (g9_m0 d.1 d.2.1) (finCx (g9_G n) g9_R [(4, none)])) (by kernel_rfl) ((g9_6_fx n _ d.1 d.2.1).trans (by kernel_rfl))))
noncomputable def g73_m0 (v0 : ByteArray) (v1 : Int) : FState := ⟨tlist [(0, .dat .str v0), (1, .dat (.int .u8) v1)], olist []⟩
noncomputable def g73_m1 (v4 : Int) : FState := ⟨tlist [(4, .dat (.int .i64) v4)], olist []⟩
noncomputable def g73_m1e : List NE := [.keep 4]
noncomputable def g73_m2 (v0 : ByteArray) (v1 v5 : Int) : FState := ⟨tlist [(0, .dat .str v0), (1, .dat (.int .u8) v1), (5, .dat (.int .i64) v5)], olist []⟩
noncomputable def g73_m2e : List NE := [.keep 0, .keep 1, .keep 5]
noncomputable def g73_m3 : FState := ⟨tlist [], olist []⟩
noncomputable def g73_m3e : List NE := []
noncomputable def g73_C (n : Nat) : List (Nat × Spec) := []
noncomputable def g73_G (n : Nat) : Ctx := { Γ0 with calls := lkS (g73_C n) }
noncomputable def g73_B : Code := fb Tryd.f73
noncomputable def g73_1 (n : Nat) (kn : ByteArray → Int → Int → Option β) (v0 : ByteArray) (v1 : Int) : Option β := kn v0 v1 (w64 ((v0.size : Int) - (1 : Int)))
noncomputable def g73_1F (n : Nat) (s : FState) (cx : Cx β) : Option β := FX (g73_G n) n (nav g73_B [0]) (.fin none none none [] .leaf) s { cx with nrm := fun s => FX (g73_G n) n (nav g73_B [1, 0, 0]) (.fin none (some g73_m2e) none [] .leaf) s cx }
theorem g73_1_fx (n : Nat) (cx : Cx β) (v0 : ByteArray) (v1 : Int) : g73_1F n (g73_m0 v0 v1) cx = g73_1 n (fun v0 v1 v5 => cx.nrm (g73_m2 v0 v1 v5)) v0 v1 := by kernel_rfl
noncomputable def g73_2 (n : Nat) (kn : ByteArray → Int → Int → Option β) (kr : Int → Option β) (kx0 : Option β) (v0 : ByteArray) (v1 v5 : Int) : Option β := bif (decide (v5 ≥ (0 : Int))) then (idx v5 (v0.size : Int) <| bif ((byteAt v0 v5) == v1) then (kr v5) else (kn v0 v1 (w64 (v5 - (1 : Int))))) else kx0
noncomputable def g73_2F (n : Nat) (s : FState) (cx : Cx β) : Option β := FX (g73_G n) n (nav g73_B [1, 0, 1, 0, 0, 0, 0]) (.fin none none (some g73_m1e) [(0, g73_m3e)] .leaf) s { cx with nrm := fun s => FX (g73_G n) n (nav g73_B [1, 0, 1, 0, 0, 0, 1]) (.fin none none (some g73_m1e) [(0, g73_m3e)] .leaf) s { cx with nrm := fun s => FX (g73_G n) n (nav g73_B [1, 0, 1, 0, 0, 1, 0]) (.fin none none (some g73_m1e) [(0, g73_m3e)] .leaf) s { cx with nrm := fun s => FX (g73_G n) n (nav g73_B [1, 0, 1, 0, 0, 1, 1]) (.fin none (some g73_m2e) (some g73_m1e) [(0, g73_m3e)] .leaf) s cx } } }
theorem g73_2_fx (n : Nat) (cx : Cx β) (v0 : ByteArray) (v1 v5 : Int) : g73_2F n (g73_m2 v0 v1 v5) cx = g73_2 n (fun v0 v1 v5 => cx.nrm (g73_m2 v0 v1 v5)) (fun v4 => cx.ret (g73_m1 v4)) (cx.ex 0 g73_m3) v0 v1 v5 := by kernel_rfl
noncomputable def g73_3L (n : Nat) (kr : Int → Option β) (kx0 : Option β) : Nat → ByteArray → Int → Int → Option β
  | 0, _, _, _ => none
  | m + 1, v0, v1, v5 => g73_2 n (g73_3L n kr kx0 m) kr kx0 v0 v1 v5
noncomputable def g73_3 (n : Nat) (kr : Int → Option β) (kx0 : Option β) (v0 : ByteArray) (v1 v5 : Int) : Option β := g73_3L n kr kx0 n v0 v1 v5
noncomputable def g73_3F (n : Nat) (s : FState) (cx : Cx β) : Option β := loopN (fun again s => g73_2F n s { cx with nrm := again }) n s
theorem g73_3L_fx (n : Nat) (cx : Cx β) : ∀ (m : Nat) (v0 : ByteArray) (v1 v5 : Int), loopN (fun again s => g73_2F n s { cx with nrm := again }) m (g73_m2 v0 v1 v5) = g73_3L n (fun v4 => cx.ret (g73_m1 v4)) (cx.ex 0 g73_m3) m v0 v1 v5 := by
  intro m
  induction m with
  | zero => intros; rfl
  | succ m ih => intros; simp only [loopN, g73_3L, g73_2_fx, ih]
theorem g73_3_fx (n : Nat) (cx : Cx β) (v0 : ByteArray) (v1 v5 : Int) : g73_3F n (g73_m2 v0 v1 v5) cx = g73_3 n (fun v4 => cx.ret (g73_m1 v4)) (cx.ex 0 g73_m3) v0 v1 v5 := g73_3L_fx n cx n v0 v1 v5
noncomputable def g73_4 (n : Nat) (kn : Option β) (kr : Int → Option β) (v0 : ByteArray) (v1 v5 : Int) : Option β := g73_3 n kr kn v0 v1 v5
noncomputable def g73_4F (n : Nat) (s : FState) (cx : Cx β) : Option β := g73_3F n s { cx with ex := fun j s => bif Nat.beq j 0 then cx.nrm s else cx.ex j s }
theorem g73_4_fx (n : Nat) (cx : Cx β) (v0 : ByteArray) (v1 v5 : Int) : g73_4F n (g73_m2 v0 v1 v5) cx = g73_4 n (cx.nrm g73_m3) (fun v4 => cx.ret (g73_m1 v4)) v0 v1 v5 := g73_3_fx n _ v0 v1 v5
noncomputable def g73_5 (n : Nat) (kr : Int → Option β) : Option β := kr (-1 : Int)
noncomputable def g73_5F (n : Nat) (s : FState) (cx : Cx β) : Option β := FX (g73_G n) n (nav g73_B [1, 1, 0]) (.fin none none (some g73_m1e) [] .leaf) s { cx with nrm := fun s => FX (g73_G n) n (nav g73_B [1, 1, 1]) (.fin none none (some g73_m1e) [] .leaf) s cx }
theorem g73_5_fx (n : Nat) (cx : Cx β) : g73_5F n g73_m3 cx = g73_5 n (fun v4 => cx.ret (g73_m1 v4)) := by kernel_rfl
noncomputable def g73_6 (n : Nat) (kr : Int → Option β) (v0 : ByteArray) (v1 : Int) : Option β := g73_1 n (fun v0 v1 v5 => g73_4 n (g73_5 n kr) kr v0 v1 v5) v0 v1
noncomputable def g73_6F (n : Nat) (s : FState) (cx : Cx β) : Option β := g73_1F n s { cx with nrm := fun s => g73_4F n s { cx with nrm := fun s => g73_5F n s cx } }
theorem g73_6_fx (n : Nat) (cx : Cx β) (v0 : ByteArray) (v1 : Int) : g73_6F n (g73_m0 v0 v1) cx = g73_6 n (fun v4 => cx.ret (g73_m1 v4)) v0 v1 := by simp only [g73_6F, g73_6, g73_1_fx, g73_4_fx, g73_5_fx]
noncomputable def g73 (n : Nat) (v0 : ByteArray) (v1 : Int) : Option (DenR [.dat (.int .i64)]) := g73_6 n (fun v4 => some (v4, ())) v0 v1
noncomputable def g73_A : List AK := [.dat .str, .dat (.int .u8)]
noncomputable def g73_R : List RK := [.dat (.int .i64)]
noncomputable def g73_f (n : Nat) (d : DenA g73_A) : Option (DenR g73_R) := g73 n d.1 d.2.1
noncomputable def g73_S (n : Nat) : Spec := mkSpec g73_A g73_R (g73_f n)
noncomputable def g73_K : Sk := (.nd (.fin none none none [] .leaf) (.nd (.nd (.fin none (some g73_m2e) none [] .leaf) (.nd (.nd (.nd (.nd (.fin none none (some g73_m1e) [(0, g73_m3e)] .leaf) (.fin none none (some g73_m1e) [(0, g73_m3e)] .leaf)) (.nd (.fin none none (some g73_m1e) [(0, g73_m3e)] .leaf) (.fin none (some g73_m2e) (some g73_m1e) [(0, g73_m3e)] .leaf))) .leaf) .leaf)) (.nd (.fin none none (some g73_m1e) [] .leaf) (.fin none none (some g73_m1e) [] .leaf))))
theorem g73_top (n : Nat) (s : FState) (cx : Cx β) : FX (g73_G n) n g73_B g73_K s cx = g73_6F n s cx := by kernel_rfl
theorem g73_fit (n : Nat) : Fit Tryd.prog 73 (g73_S n) :=
  fit_of (Γ := Γ0) (l := g73_C n) (n := n) (sk := g73_K) (ts := [(4, none)]) (fn := Tryd.f73) (c := g73_B) (by kernel_rfl) (by kernel_rfl) (by unfold Callable; kernel_rfl) tab_ok trivial follows_mixed (by kernel_rfl) (by kernel_rfl) (Nat.le_of_ble_eq_true (by kernel_rfl)) (by kernel_rfl) (by kernel_rfl)
    (fun d => (g73_top n _ _).trans (Eq.trans (b := g73_6F n (g73_m0 d.1 d.2.1) (finCx (g73_G n) g73_R [(4, none)])) (by kernel_rfl) ((g73_6_fx n _ d.1 d.2.1).trans (by kernel_rfl))))
noncomputable def g83_m0 (v0 : ByteArray) : FState := ⟨tlist [(0, .dat .str v0)], olist []⟩
noncomputable def g83_m1 (v2 v3 : Int) : FState := ⟨tlist [(2, .dat (.int .u32) v2), (3, .dat (.int .u32) v3)], olist []⟩
noncomputable def g83_m1e : List NE := [.keep 2, .keep 3]
noncomputable def g83_m2 (v0 : ByteArray) (v4 v5 : Int) : FState := ⟨tlist [(0, .dat .str v0), (4, .dat (.int .u32) v4), (5, .dat (.int .i64) v5)], olist []⟩
noncomputable def g83_m2e : List NE := [.keep 0, .keep 4, .keep 5]
noncomputable def g83_m3 (v0 : ByteArray) (v4 : Int) : FState := ⟨tlist [(0, .dat .str v0), (4, .dat (.int .u32) v4)], olist []⟩
noncomputable def g83_m3e : List NE := [.keep 0, .keep 4]
noncomputable def g83_m4 (v4 v6 v7 v8 : Int) : FState := ⟨tlist [(4, .dat (.int .u32) v4), (6, .dat (.int .u32) v6), (7, .dat (.int .u32) v7), (8, .dat (.int .i64) v8)], olist []⟩
noncomputable def g83_m4e : List NE := [.keep 4, .keep 6, .keep 7, .keep 8]
noncomputable def g83_m5 (v4 v6 : Int) : FState := ⟨tlist [(4, .dat (.int .u32) v4), (6, .dat (.int .u32) v6)], olist []⟩
noncomputable def g83_m5e : List NE := [.keep 4, .keep 6]
noncomputable def g83_C (n : Nat) : List (Nat × Spec) := []
noncomputable def g83_G (n : Nat) : Ctx := { Γ0 with calls := lkS (g83_C n) }
noncomputable def g83_B : Code := fb Tryd.f83
noncomputable def g83_1 (n : Nat) (kn : ByteArray → Int → Int → Option β) (v0 : ByteArray) : Option β := kn v0 (0 : Int) (w64 ((v0.size : Int) - (1 : Int)))
noncomputable def g83_1F (n : Nat) (s : FState) (cx : Cx β) : Option β := FX (g83_G n) n (nav g83_B [0]) (.fin none none none [] .leaf) s { cx with nrm := fun s => FX (g83_G n) n (nav g83_B [1, 0]) (.fin none none none [] .leaf) s { cx with nrm := fun s => FX (g83_G n) n (nav g83_B [1, 1, 0, 0]) (.fin none (some g83_m2e) none [] .leaf) s cx } }
theorem g83_1_fx (n : Nat) (cx : Cx β) (v0 : ByteArray) : g83_1F n (g83_m0 v0) cx = g83_1 n (fun v0 v4 v5 => cx.nrm (g83_m2 v0 v4 v5)) v0 := by kernel_rfl
noncomputable def g83_2 (n : Nat) (kn : ByteArray → Int → Int → Option β) (kx0 : ByteArray → Int → Option β) (v0 : ByteArray) (v4 v5 : Int) : Option β := bif (decide (v5 ≥ (0 : Int))) then (idx v5 (v0.size : Int) <| kn v0 (IntKind.u32.wrap ((IntKind.u32.wrap (v4 * (16777619 : Int))) + (IntKind.u32.wrap ((byteAt v0 v5))))) (w64 (v5 - (1 : Int)))) else (kx0 v0 v4)
noncomputable def g83_2F (n : Nat) (s : FState) (cx : Cx β) : Option β := FX (g83_G n) n (nav g83_B [1, 1, 0, 1, 0, 0, 0, 0]) (.fin none none none [(0, g83_m3e)] .leaf) s { cx with nrm := fun s => FX (g83_G n) n (nav g83_B [1, 1, 0, 1, 0, 0, 0, 1]) (.fin none none none [(0, g83_m3e)] .leaf) s { cx with nrm := fun s => FX (g83_G n) n (nav g83_B [1, 1, 0, 1, 0, 0, 1, 0]) (.fin none none none [(0, g83_m3e)] .leaf) s { cx with nrm := fun s => FX (g83_G n) n (nav g83_B [1, 1, 0, 1, 0, 0, 1, 1]) (.fin none (some g83_m2e) none [(0, g83_m3e)] .leaf) s cx } } }
theorem g83_2_fx (n : Nat) (cx : Cx β) (v0 : ByteArray) (v4 v5 : Int) : g83_2F n (g83_m2 v0 v4 v5) cx = g83_2 n (fun v0 v4 v5 => cx.nrm (g83_m2 v0 v4 v5)) (fun v0 v4 => cx.ex 0 (g83_m3 v0 v4)) v0 v4 v5 := by kernel_rfl
noncomputable def g83_3L (n : Nat) (kx0 : ByteArray → Int → Option β) : Nat → ByteArray → Int → Int → Option β
  | 0, _, _, _ => none
  | m + 1, v0, v4, v5 => g83_2 n (g83_3L n kx0 m) kx0 v0 v4 v5
noncomputable def g83_3 (n : Nat) (kx0 : ByteArray → Int → Option β) (v0 : ByteArray) (v4 v5 : Int) : Option β := g83_3L n kx0 n v0 v4 v5
noncomputable def g83_3F (n : Nat) (s : FState) (cx : Cx β) : Option β := loopN (fun again s => g83_2F n s { cx with nrm := again }) n s
theorem g83_3L_fx (n : Nat) (cx : Cx β) : ∀ (m : Nat) (v0 : ByteArray) (v4 v5 : Int), loopN (fun again s => g83_2F n s { cx with nrm := again }) m (g83_m2 v0 v4 v5) = g83_3L n (fun v0 v4 => cx.ex 0 (g83_m3 v0 v4)) m v0 v4 v5 := by
  intro m
  induction m with
  | zero => intros; rfl
  | succ m ih => intros; simp only [loopN, g83_3L, g83_2_fx, ih]
theorem g83_3_fx (n : Nat) (cx : Cx β) (v0 : ByteArray) (v4 v5 : Int) : g83_3F n (g83_m2 v0 v4 v5) cx = g83_3 n (fun v0 v4 => cx.ex 0 (g83_m3 v0 v4)) v0 v4 v5 := g83_3L_fx n cx n v0 v4 v5
noncomputable def g83_4 (n : Nat) (kn : ByteArray → Int → Option β) (v0 : ByteArray) (v4 v5 : Int) : Option β := g83_3 n kn v0 v4 v5
noncomputable def g83_4F (n : Nat) (s : FState) (cx : Cx β) : Option β := g83_3F n s { cx with ex := fun j s => bif Nat.beq j 0 then cx.nrm s else cx.ex j s }
theorem g83_4_fx (n : Nat) (cx : Cx β) (v0 : ByteArray) (v4 v5 : Int) : g83_4F n (g83_m2 v0 v4 v5) cx = g83_4 n (fun v0 v4 => cx.nrm (g83_m3 v0 v4)) v0 v4 v5 := g83_3_fx n _ v0 v4 v5
noncomputable def g83_5 (n : Nat) (kn : Int → Int → Int → Int → Option β) (v0 : ByteArray) (v4 : Int) : Option β := kn v4 (1 : Int) (16777619 : Int) (v0.size : Int)
noncomputable def g83_5F (n : Nat) (s : FState) (cx : Cx β) : Option β := FX (g83_G n) n (nav g83_B [1, 1, 1, 0]) (.fin none none none [] .leaf) s { cx with nrm := fun s => FX (g83_G n) n (nav g83_B [1, 1, 1, 1, 0, 0]) (.fin none (some g83_m4e) none [] .leaf) s cx }
theorem g83_5_fx (n : Nat) (cx : Cx β) (v0 : ByteArray) (v4 : Int) : g83_5F n (g83_m3 v0 v4) cx = g83_5 n (fun v4 v6 v7 v8 => cx.nrm (g83_m4 v4 v6 v7 v8)) v0 v4 := by kernel_rfl
noncomputable def g83_6 (n : Nat) (kn : Int → Int → Int → Int → Option β) (kx2 : Int → Int → Option β) (v4 v6 v7 v8 : Int) : Option β := bif (decide (v8 > (0 : Int))) then (bif ((andI .i64 v8 (1 : Int)) != (0 : Int)) then (kn v4 (IntKind.u32.wrap (v6 * v7)) (IntKind.u32.wrap (v7 * v7)) (shrI .i64 v8 (1 : Int))) else (kn v4 v6 (IntKind.u32.wrap (v7 * v7)) (shrI .i64 v8 (1 : Int)))) else (kx2 v4 v6)
noncomputable def g83_6F (n : Nat) (s : FState) (cx : Cx β) : Option β := FX (g83_G n) n (nav g83_B [1, 1, 1, 1, 0, 1, 0, 0, 0, 0]) (.fin none none none [(2, g83_m5e)] .leaf) s { cx with nrm := fun s => FX (g83_G n) n (nav g83_B [1, 1, 1, 1, 0, 1, 0, 0, 0, 1]) (.fin none none none [(2, g83_m5e)] .leaf) s { cx with nrm := fun s => FX (g83_G n) n (nav g83_B [1, 1, 1, 1, 0, 1, 0, 0, 1, 0]) (.fin none none none [(2, g83_m5e)] .leaf) s { cx with nrm := fun s => FX (g83_G n) n (nav g83_B [1, 1, 1, 1, 0, 1, 0, 0, 1, 1]) (.fin none (some g83_m4e) none [(2, g83_m5e)] .leaf) s cx } } }
theorem g83_6_fx (n : Nat) (cx : Cx β) (v4 v6 v7 v8 : Int) : g83_6F n (g83_m4 v4 v6 v7 v8) cx = g83_6 n (fun v4 v6 v7 v8 => cx.nrm (g83_m4 v4 v6 v7 v8)) (fun v4 v6 => cx.ex 2 (g83_m5 v4 v6)) v4 v6 v7 v8 := by kernel_rfl
noncomputable def g83_7L (n : Nat) (kx2 : Int → Int → Option β) : Nat → Int → Int → Int → Int → Option β
  | 0, _, _, _, _ => none
  | m + 1, v4, v6, v7, v8 => g83_6 n (g83_7L n kx2 m) kx2 v4 v6 v7 v8
noncomputable def g83_7 (n : Nat) (kx2 : Int → Int → Option β) (v4 v6 v7 v8 : Int) : Option β := g83_7L n kx2 n v4 v6 v7 v8
noncomputable def g83_7F (n : Nat) (s : FState) (cx : Cx β) : Option β := loopN (fun again s => g83_6F n s { cx with nrm := again }) n s
theorem g83_7L_fx (n : Nat) (cx : Cx β) : ∀ (m : Nat) (v4 v6 v7 v8 : Int), loopN (fun again s => g83_6F n s { cx with nrm := again }) m (g83_m4 v4 v6 v7 v8) = g83_7L n (fun v4 v6 => cx.ex 2 (g83_m5 v4 v6)) m v4 v6 v7 v8 := by
  intro m
  induction m with
  | zero => intros; rfl
  | succ m ih => intros; simp only [loopN, g83_7L, g83_6_fx, ih]
theorem g83_7_fx (n : Nat) (cx : Cx β) (v4 v6 v7 v8 : Int) : g83_7F n (g83_m4 v4 v6 v7 v8) cx = g83_7 n (fun v4 v6 => cx.ex 2 (g83_m5 v4 v6)) v4 v6 v7 v8 := g83_7L_fx n cx n v4 v6 v7 v8
noncomputable def g83_8 (n : Nat) (kn : Int → Int → Option β) (v4 v6 v7 v8 : Int) : Option β := g83_7 n kn v4 v6 v7 v8
noncomputable def g83_8F (n : Nat) (s : FState) (cx : Cx β) : Option β := g83_7F n s { cx with ex := fun j s => bif Nat.beq j 2 then cx.nrm s else cx.ex j s }
theorem g83_8_fx (n : Nat) (cx : Cx β) (v4 v6 v7 v8 : Int) : g83_8F n (g83_m4 v4 v6 v7 v8) cx = g83_8 n (fun v4 v6 => cx.nrm (g83_m5 v4 v6)) v4 v6 v7 v8 := g83_7_fx n _ v4 v6 v7 v8
noncomputable def g83_9 (n : Nat) (kr : Int → Int → Option β) (v4 v6 : Int) : Option β := kr v4 v6
noncomputable def g83_9F (n : Nat) (s : FState) (cx : Cx β) : Option β := FX (g83_G n) n (nav g83_B [1, 1, 1, 1, 1, 0]) (.fin none none (some g83_m1e) [] .leaf) s { cx with nrm := fun s => FX (g83_G n) n (nav g83_B [1, 1, 1, 1, 1, 1]) (.fin none none (some g83_m1e) [] .leaf) s cx }
theorem g83_9_fx (n : Nat) (cx : Cx β) (v4 v6 : Int) : g83_9F n (g83_m5 v4 v6) cx = g83_9 n (fun v2 v3 => cx.ret (g83_m1 v2 v3)) v4 v6 := by kernel_rfl
noncomputable def g83_10 (n : Nat) (kr : Int → Int → Option β) (v0 : ByteArray) : Option β := g83_1 n (fun v0 v4 v5 => g83_4 n (fun v0 v4 => g83_5 n (fun v4 v6 v7 v8 => g83_8 n (fun v4 v6 => g83_9 n kr v4 v6) v4 v6 v7 v8) v0 v4) v0 v4 v5) v0
noncomputable def g83_10F (n : Nat) (s : FState) (cx : Cx β) : Option β := g83_1F n s { cx with nrm := fun s => g83_4F n s { cx with nrm := fun s => g83_5F n s { cx with nrm := fun s => g83_8F n s { cx with nrm := fun s => g83_9F n s cx } } } }
theorem g83_10_fx (n : Nat) (cx : Cx β) (v0 : ByteArray) : g83_10F n (g83_m0 v0) cx = g83_10 n (fun v2 v3 => cx.ret (g83_m1 v2 v3)) v0 := by simp only [g83_10F, g83_10, g83_1_fx, g83_4_fx, g83_5_fx, g83_8_fx, g83_9_fx]
noncomputable def g83 (n : Nat) (v0 : ByteArray) : Option (DenR [.dat (.int .u32), .dat (.int .u32)]) := g83_10 n (fun v2 v3 => some (v2, (v3, ()))) v0
noncomputable def g83_A : List AK := [.dat .str]
noncomputable def g83_R : List RK := [.dat (.int .u32), .dat (.int .u32)]
noncomputable def g83_f (n : Nat) (d : DenA g83_A) : Option (DenR g83_R) := g83 n d.1
noncomputable def g83_S (n : Nat) : Spec := mkSpec g83_A g83_R (g83_f n)
noncomputable def g83_K : Sk := (.nd (.fin none none none [] .leaf) (.nd (.fin none none none [] .leaf) (.nd (.nd (.fin none (some g83_m2e) none [] .leaf) (.nd (.nd (.nd (.nd (.fin none none none [(0, g83_m3e)] .leaf) (.fin none none none [(0, g83_m3e)] .leaf)) (.nd (.fin none none none [(0, g83_m3e)] .leaf) (.fin none (some g83_m2e) none [(0, g83_m3e)] .leaf))) .leaf) .leaf)) (.nd (.fin none none none [] .leaf) (.nd (.nd (.fin none (some g83_m4e) none [] .leaf) (.nd (.nd (.nd (.nd (.fin none none none [(2, g83_m5e)] .leaf) (.fin none none none [(2, g83_m5e)] .leaf)) (.nd (.fin none none none [(2, g83_m5e)] .leaf) (.fin none (some g83_m4e) none [(2, g83_m5e)] .leaf))) .leaf) .leaf)) (.nd (.fin none none (some g83_m1e) [] .leaf) (.fin none none (some g83_m1e) [] .leaf)))))))
theorem g83_top (n : Nat) (s : FState) (cx : Cx β) : FX (g83_G n) n g83_B g83_K s cx = g83_10F n s cx := by kernel_rfl
theorem g83_fit (n : Nat) : Fit Tryd.prog 83 (g83_S n) :=
  fit_of (Γ := Γ0) (l := g83_C n) (n := n) (sk := g83_K) (ts := [(2, none), (3, none)]) (fn := Tryd.f83) (c := g83_B) (by kernel_rfl) (by kernel_rfl) (by unfold Callable; kernel_rfl) tab_ok trivial follows_mixed (by kernel_rfl) (by kernel_rfl) (Nat.le_of_ble_eq_true (by kernel_rfl)) (by kernel_rfl) (by kernel_rfl)
    (fun d => (g83_top n _ _).trans (Eq.trans (b := g83_10F n (g83_m0 d.1) (finCx (g83_G n) g83_R [(2, none), (3, none)])) (by kernel_rfl) ((g83_10_fx n _ d.1).trans (by kernel_rfl))))
noncomputable def g74_m0 (v0 v1 : ByteArray) : FState := ⟨tlist [(0, .dat .str v0), (1, .dat .str v1)], olist []⟩
noncomputable def g74_m1 (v4 : Int) : FState := ⟨tlist [(4, .dat (.int .i64) v4)], olist []⟩
noncomputable def g74_m1e : List NE := [.keep 4]
noncomputable def g74_m2 (v0 v1 : ByteArray) (v5 v6 v7 v8 v9 v10 : Int) : FState := ⟨tlist [(0, .dat .str v0), (1, .dat .str v1), (5, .dat (.int .u32) v5), (6, .dat (.int .u32) v6), (7, .dat (.int .i64) v7), (8, .dat (.int .i64) v8), (9, .dat (.int .u32) v9), (10, .dat (.int .i64) v10)], olist []⟩
noncomputable def g74_m2e : List NE := [.keep 0, .keep 1, .keep 5, .keep 6, .keep 7, .keep 8, .keep 9, .keep 10]
noncomputable def g74_m3 (v0 v1 : ByteArray) (v5 v6 v7 v8 v9 : Int) : FState := ⟨tlist [(0, .dat .str v0), (1, .dat .str v1), (5, .dat (.int .u32) v5), (6, .dat (.int .u32) v6), (7, .dat (.int .i64) v7), (8, .dat (.int .i64) v8), (9, .dat (.int .u32) v9)], olist []⟩
noncomputable def g74_m3e : List NE := [.keep 0, .keep 1, .keep 5, .keep 6, .keep 7, .keep 8, .keep 9]
noncomputable def g74_m4 (v0 v1 : ByteArray) (v5 v6 v7 v8 v9 : Int) : FState := ⟨tlist [(0, .dat .str v0), (1, .dat .str v1), (5, .dat (.int .u32) v5), (6, .dat (.int .u32) v6), (7, .dat (.int .i64) v7), (8, .dat (.int .i64) v8), (9, .dat (.int .u32) v9)], olist []⟩
noncomputable def g74_m4e : List NE := [.keep 0, .keep 1, .keep 5, .keep 6, .keep 7, .keep 8, .keep 9]
noncomputable def g74_m5 (v0 v1 : ByteArray) (v5 v6 v7 v9 v11 : Int) : FState := ⟨tlist [(0, .dat .str v0), (1, .dat .str v1), (5, .dat (.int .u32) v5), (6, .dat (.int .u32) v6), (7, .dat (.int .i64) v7), (9, .dat (.int .u32) v9), (11, .dat (.int .i64) v11)], olist []⟩
noncomputable def g74_m5e : List NE := [.keep 0, .keep 1, .keep 5, .keep 6, .keep 7, .keep 9, .keep 11]
noncomputable def g74_m6 : FState := ⟨tlist [], olist []⟩
noncomputable def g74_m6e : List NE := []
noncomputable def g74_C (n : Nat) : List (Nat × Spec) := [(83, g83_S n)]
noncomputable def g74_G (n : Nat) : Ctx := { Γ0 with calls := lkS (g74_C n) }
noncomputable def g74_B : Code := fb Tryd.f74
noncomputable def g74_1 (n : Nat) (kn : ByteArray → ByteArray → Int → Int → Int → Int → Int → Int → Option β) (v0 v1 : ByteArray) : Option β := (g83 n v1).bind fun r1 => kn v0 v1 r1.1 r1.2.1 (v1.size : Int) (w64 ((v0.size : Int) - (v1.size : Int))) (0 : Int) (w64 ((v0.size : Int) - (1 : Int)))
noncomputable def g74_1F (n : Nat) (s : FState) (cx : Cx β) : Option β := FX (g74_G n) n (nav g74_B [0]) (.fin none none none [] .leaf) s { cx with nrm := fun s => FX (g74_G n) n (nav g74_B [1, 0]) (.fin none none none [] .leaf) s { cx with nrm := fun s => FX (g74_G n) n (nav g74_B [1, 1, 0]) (.fin none none none [] .leaf) s { cx with nrm := fun s => FX (g74_G n) n (nav g74_B [1, 1, 1, 0]) (.fin none none none [] .leaf) s { cx with nrm := fun s => FX (g74_G n) n (nav g74_B [1, 1, 1, 1, 0]) (.fin none none none [] .leaf) s { cx with nrm := fun s => FX (g74_G n) n (nav g74_B [1, 1, 1, 1, 1, 0, 0]) (.fin none (some g74_m2e) none [] .leaf) s cx } } } } }
theorem g74_1_fx (n : Nat) (cx : Cx β) (v0 v1 : ByteArray) : g74_1F n (g74_m0 v0 v1) cx = g74_1 n (fun v0 v1 v5 v6 v7 v8 v9 v10 => cx.nrm (g74_m2 v0 v1 v5 v6 v7 v8 v9 v10)) v0 v1 := by kernel_rfl
noncomputable def g74_2 (n : Nat) (kn : ByteArray → ByteArray → Int → Int → Int → Int → Int → Int → Option β) (kx0 : ByteArray → ByteArray → Int → Int → Int → Int → Int → Option β) (v0 v1 : ByteArray) (v5 v6 v7 v8 v9 v10 : Int) : Option β := bif (decide (v10 ≥ v8)) then (idx v10 (v0.size : Int) <| kn v0 v1 v5 v6 v7 v8 (IntKind.u32.wrap ((IntKind.u32.wrap (v9 * (16777619 : Int))) + (IntKind.u32.wrap ((byteAt v0 v10))))) (w64 (v10 - (1 : Int)))) else (kx0 v0 v1 v5 v6 v7 v8 v9)
noncomputable def g74_2F (n : Nat) (s : FState) (cx : Cx β) : Option β := FX (g74_G n) n (nav g74_B [1, 1, 1, 1, 1, 0, 1, 0, 0, 0, 0]) (.fin none none none [(0, g74_m3e)] .leaf) s { cx with nrm := fun s => FX (g74_G n) n (nav g74_B [1, 1, 1, 1, 1, 0, 1, 0, 0, 0, 1]) (.fin none none none [(0, g74_m3e)] .leaf) s { cx with nrm := fun s => FX (g74_G n) n (nav g74_B [1, 1, 1, 1, 1, 0, 1, 0, 0, 1, 0]) (.fin none none none [(0, g74_m3e)] .leaf) s { cx with nrm := fun s => FX (g74_G n) n (nav g74_B [1, 1, 1, 1, 1, 0, 1, 0, 0, 1, 1]) (.fin none (some g74_m2e) none [(0, g74_m3e)] .leaf) s cx } } }
theorem g74_2_fx (n : Nat) (cx : Cx β) (v0 v1 : ByteArray) (v5 v6 v7 v8 v9 v10 : Int) : g74_2F n (g74_m2 v0 v1 v5 v6 v7 v8 v9 v10) cx = g74_2 n (fun v0 v1 v5 v6 v7 v8 v9 v10 => cx.nrm (g74_m2 v0 v1 v5 v6 v7 v8 v9 v10)) (fun v0 v1 v5 v6 v7 v8 v9 => cx.ex 0 (g74_m3 v0 v1 v5 v6 v7 v8 v9)) v0 v1 v5 v6 v7 v8 v9 v10 := by kernel_rfl
noncomputable def g74_3L (n : Nat) (kx0 : ByteArray → ByteArray → Int → Int → Int → Int → Int → Option β) : Nat → ByteArray → ByteArray → Int → Int → Int → Int → Int → Int → Option β
  | 0, _, _, _, _, _, _, _, _ => none
  | m + 1, v0, v1, v5, v6, v7, v8, v9, v10 => g74_2 n (g74_3L n kx0 m) kx0 v0 v1 v5 v6 v7 v8 v9 v10
noncomputable def g74_3 (n : Nat) (kx0 : ByteArray → ByteArray → Int → Int → Int → Int → Int → Option β) (v0 v1 : ByteArray) (v5 v6 v7 v8 v9 v10 : Int) : Option β := g74_3L n kx0 n v0 v1 v5 v6 v7 v8 v9 v10
noncomputable def g74_3F (n : Nat) (s : FState) (cx : Cx β) : Option β := loopN (fun again s => g74_2F n s { cx with nrm := again }) n s
theorem g74_3L_fx (n : Nat) (cx : Cx β) : ∀ (m : Nat) (v0 v1 : ByteArray) (v5 v6 v7 v8 v9 v10 : Int), loopN (fun again s => g74_2F n s { cx with nrm := again }) m (g74_m2 v0 v1 v5 v6 v7 v8 v9 v10) = g74_3L n (fun v0 v1 v5 v6 v7 v8 v9 => cx.ex 0 (g74_m3 v0 v1 v5 v6 v7 v8 v9)) m v0 v1 v5 v6 v7 v8 v9 v10 := by
  intro m
  induction m with
  | zero => intros; rfl
  | succ m ih => intros; simp only [loopN, g74_3L, g74_2_fx, ih]
theorem g74_3_fx (n : Nat) (cx : Cx β) (v0 v1 : ByteArray) (v5 v6 v7 v8 v9 v10 : Int) : g74_3F n (g74_m2 v0 v1 v5 v6 v7 v8 v9 v10) cx = g74_3 n (fun v0 v1 v5 v6 v7 v8 v9 => cx.ex 0 (g74_m3 v0 v1 v5 v6 v7 v8 v9)) v0 v1 v5 v6 v7 v8 v9 v10 := g74_3L_fx n cx n v0 v1 v5 v6 v7 v8 v9 v10
noncomputable def g74_4 (n : Nat) (kn : ByteArray → ByteArray → Int → Int → Int → Int → Int → Option β) (v0 v1 : ByteArray) (v5 v6 v7 v8 v9 v10 : Int) : Option β := g74_3 n kn v0 v1 v5 v6 v7 v8 v9 v10
noncomputable def g74_4F (n : Nat) (s : FState) (cx : Cx β) : Option β := g74_3F n s { cx with ex := fun j s => bif Nat.beq j 0 then cx.nrm s else cx.ex j s }
theorem g74_4_fx (n : Nat) (cx : Cx β) (v0 v1 : ByteArray) (v5 v6 v7 v8 v9 v10 : Int) : g74_4F n (g74_m2 v0 v1 v5 v6 v7 v8 v9 v10) cx = g74_4 n (fun v0 v1 v5 v6 v7 v8 v9 => cx.nrm (g74_m3 v0 v1 v5 v6 v7 v8 v9)) v0 v1 v5 v6 v7 v8 v9 v10 := g74_3_fx n _ v0 v1 v5 v6 v7 v8 v9 v10
noncomputable def g74_5 (n : Nat) (kn : ByteArray → ByteArray → Int → Int → Int → Int → Int → Option β) (kr : Int → Option β) (v0 v1 : ByteArray) (v5 v6 v7 v8 v9 : Int) : Option β := bif (v9 == v5) then (bnd v8 (v0.size : Int) (v0.size : Int) <| bif (strEq (cutS v0 v8 (v0.size : Int)) v1) then (kr v8) else (kn v0 v1 v5 v6 v7 v8 v9)) else (kn v0 v1 v5 v6 v7 v8 v9)
noncomputable def g74_5F (n : Nat) (s : FState) (cx : Cx β) : Option β := FX (g74_G n) n (nav g74_B [1, 1, 1, 1, 1, 1, 0, 0]) (.fin none none (some g74_m1e) [] .leaf) s { cx with nrm := fun s => FX (g74_G n) n (nav g74_B [1, 1, 1, 1, 1, 1, 0, 1]) (.fin none (some g74_m4e) (some g74_m1e) [] .leaf) s cx }
theorem g74_5_fx (n : Nat) (cx : Cx β) (v0 v1 : ByteArray) (v5 v6 v7 v8 v9 : Int) : g74_5F n (g74_m3 v0 v1 v5 v6 v7 v8 v9) cx = g74_5 n (fun v0 v1 v5 v6 v7 v8 v9 => cx.nrm (g74_m4 v0 v1 v5 v6 v7 v8 v9)) (fun v4 => cx.ret (g74_m1 v4)) v0 v1 v5 v6 v7 v8 v9 := by kernel_rfl
noncomputable def g74_6 (n : Nat) (kn : ByteArray → ByteArray → Int → Int → Int → Int → Int → Option β) (v0 v1 : ByteArray) (v5 v6 v7 v8 v9 : Int) : Option β := kn v0 v1 v5 v6 v7 v9 (w64 (v8 - (1 : Int)))
noncomputable def g74_6F (n : Nat) (s : FState) (cx : Cx β) : Option β := FX (g74_G n) n (nav g74_B [1, 1, 1, 1, 1, 1, 1, 0, 0]) (.fin none (some g74_m5e) none [] .leaf) s cx
theorem g74_6_fx (n : Nat) (cx : Cx β) (v0 v1 : ByteArray) (v5 v6 v7 v8 v9 : Int) : g74_6F n (g74_m4 v0 v1 v5 v6 v7 v8 v9) cx = g74_6 n (fun v0 v1 v5 v6 v7 v9 v11 => cx.nrm (g74_m5 v0 v1 v5 v6 v7 v9 v11)) v0 v1 v5 v6 v7 v8 v9 := by kernel_rfl
noncomputable def g74_7 (n : Nat) (kn : ByteArray → ByteArray → Int → Int → Int → Int → Int → Option β) (kr : Int → Option β) (kx2 : Option β) (v0 v1 : ByteArray) (v5 v6 v7 v9 v11 : Int) : Option β := bif (decide (v11 ≥ (0 : Int))) then (idx v11 (v0.size : Int) <| idx (w64 (v11 + v7)) (v0.size : Int) <| bif ((IntKind.u32.wrap ((IntKind.u32.wrap ((IntKind.u32.wrap (v9 * (16777619 : Int))) + (IntKind.u32.wrap ((byteAt v0 v11))))) - (IntKind.u32.wrap (v6 * (IntKind.u32.wrap ((byteAt v0 (w64 (v11 + v7))))))))) == v5) then (bnd v11 (w64 (v11 + v7)) (v0.size : Int) <| bif (strEq (cutS v0 v11 (w64 (v11 + v7))) v1) then (kr v11) else (kn v0 v1 v5 v6 v7 (IntKind.u32.wrap ((IntKind.u32.wrap ((IntKind.u32.wrap (v9 * (16777619 : Int))) + (IntKind.u32.wrap ((byteAt v0 v11))))) - (IntKind.u32.wrap (v6 * (IntKind.u32.wrap ((byteAt v0 (w64 (v11 + v7))))))))) (w64 (v11 - (1 : Int))))) else (kn v0 v1 v5 v6 v7 (IntKind.u32.wrap ((IntKind.u32.wrap ((IntKind.u32.wrap (v9 * (16777619 : Int))) + (IntKind.u32.wrap ((byteAt v0 v11))))) - (IntKind.u32.wrap (v6 * (IntKind.u32.wrap ((byteAt v0 (w64 (v11 + v7))))))))) (w64 (v11 - (1 : Int))))) else kx2
noncomputable def g74_7F (n : Nat) (s : FState) (cx : Cx β) : Option β := FX (g74_G n) n (nav g74_B [1, 1, 1, 1, 1, 1, 1, 0, 1, 0, 0, 0, 0]) (.fin none none (some g74_m1e) [(2, g74_m6e)] .leaf) s { cx with nrm := fun s => FX (g74_G n) n (nav g74_B [1, 1, 1, 1, 1, 1, 1, 0, 1, 0, 0, 0, 1]) (.fin none none (some g74_m1e) [(2, g74_m6e)] .leaf) s { cx with nrm := fun s => FX (g74_G n) n (nav g74_B [1, 1, 1, 1, 1, 1, 1, 0, 1, 0, 0, 1, 0]) (.fin none none (some g74_m1e) [(2, g74_m6e)] .leaf) s { cx with nrm := fun s => FX (g74_G n) n (nav g74_B [1, 1, 1, 1, 1, 1, 1, 0, 1, 0, 0, 1, 1]) (.fin none (some g74_m5e) (some g74_m1e) [(2, g74_m6e)] .leaf) s cx } } }
theorem g74_7_fx (n : Nat) (cx : Cx β) (v0 v1 : ByteArray) (v5 v6 v7 v9 v11 : Int) : g74_7F n (g74_m5 v0 v1 v5 v6 v7 v9 v11) cx = g74_7 n (fun v0 v1 v5 v6 v7 v9 v11 => cx.nrm (g74_m5 v0 v1 v5 v6 v7 v9 v11)) (fun v4 => cx.ret (g74_m1 v4)) (cx.ex 2 g74_m6) v0 v1 v5 v6 v7 v9 v11 := by kernel_rfl
noncomputable def g74_8L (n : Nat) (kr : Int → Option β) (kx2 : Option β) : Nat → ByteArray → ByteArray → Int → Int → Int → Int → Int → Option β
  | 0, _, _, _, _, _, _, _ => none
  | m + 1, v0, v1, v5, v6, v7, v9, v11 => g74_7 n (g74_8L n kr kx2 m) kr kx2 v0 v1 v5 v6 v7 v9 v11
noncomputable def g74_8 (n : Nat) (kr : Int → Option β) (kx2 : Option β) (v0 v1 : ByteArray) (v5 v6 v7 v9 v11 : Int) : Option β := g74_8L n kr kx2 n v0 v1 v5 v6 v7 v9 v11
noncomputable def g74_8F (n : Nat) (s : FState) (cx : Cx β) : Option β := loopN (fun again s => g74_7F n s { cx with nrm := again }) n s
theorem g74_8L_fx (n : Nat) (cx : Cx β) : ∀ (m : Nat) (v0 v1 : ByteArray) (v5 v6 v7 v9 v11 : Int), loopN (fun again s => g74_7F n s { cx with nrm := again }) m (g74_m5 v0 v1 v5 v6 v7 v9 v11) = g74_8L n (fun v4 => cx.ret (g74_m1 v4)) (cx.ex 2 g74_m6) m v0 v1 v5 v6 v7 v9 v11 := by
  intro m
  induction m with
  | zero => intros; rfl
  | succ m ih => intros; simp only [loopN, g74_8L, g74_7_fx, ih]
theorem g74_8_fx (n : Nat) (cx : Cx β) (v0 v1 : ByteArray) (v5 v6 v7 v9 v11 : Int) : g74_8F n (g74_m5 v0 v1 v5 v6 v7 v9 v11) cx = g74_8 n (fun v4 => cx.ret (g74_m1 v4)) (cx.ex 2 g74_m6) v0 v1 v5 v6 v7 v9 v11 := g74_8L_fx n cx n v0 v1 v5 v6 v7 v9 v11
noncomputable def g74_9 (n : Nat) (kn : Option β) (kr : Int → Option β) (v0 v1 : ByteArray) (v5 v6 v7 v9 v11 : Int) : Option β := g74_8 n kr kn v0 v1 v5 v6 v7 v9 v11
noncomputable def g74_9F (n : Nat) (s : FState) (cx : Cx β) : Option β := g74_8F n s { cx with ex := fun j s => bif Nat.beq j 2 then cx.nrm s else cx.ex j s }
theorem g74_9_fx (n : Nat) (cx : Cx β) (v0 v1 : ByteArray) (v5 v6 v7 v9 v11 : Int) : g74_9F n (g74_m5 v0 v1 v5 v6 v7 v9 v11) cx = g74_9 n (cx.nrm g74_m6) (fun v4 => cx.ret (g74_m1 v4)) v0 v1 v5 v6 v7 v9 v11 := g74_8_fx n _ v0 v1 v5 v6 v7 v9 v11
noncomputable def g74_10 (n : Nat) (kr : Int → Option β) : Option β := kr (-1 : Int)
noncomputable def g74_10F (n : Nat) (s : FState) (cx : Cx β) : Option β := FX (g74_G n) n (nav g74_B [1, 1, 1, 1, 1, 1, 1, 1, 0]) (.fin none none (some g74_m1e) [] .leaf) s { cx with nrm := fun s => FX (g74_G n) n (nav g74_B [1, 1, 1, 1, 1, 1, 1, 1, 1]) (.fin none none (some g74_m1e) [] .leaf) s cx }
theorem g74_10_fx (n : Nat) (cx : Cx β) : g74_10F n g74_m6 cx = g74_10 n (fun v4 => cx.ret (g74_m1 v4)) := by kernel_rfl
noncomputable def g74_11 (n : Nat) (kr : Int → Option β) (v0 v1 : ByteArray) : Option β := g74_1 n (fun v0 v1 v5 v6 v7 v8 v9 v10 => g74_4 n (fun v0 v1 v5 v6 v7 v8 v9 => g74_5 n (fun v0 v1 v5 v6 v7 v8 v9 => g74_6 n (fun v0 v1 v5 v6 v7 v9 v11 => g74_9 n (g74_10 n kr) kr v0 v1 v5 v6 v7 v9 v11) v0 v1 v5 v6 v7 v8 v9) kr v0 v1 v5 v6 v7 v8 v9) v0 v1 v5 v6 v7 v8 v9 v10) v0 v1
noncomputable def g74_11F (n : Nat) (s : FState) (cx : Cx β) : Option β := g74_1F n s { cx with nrm := fun s => g74_4F n s { cx with nrm := fun s => g74_5F n s { cx with nrm := fun s => g74_6F n s { cx with nrm := fun s => g74_9F n s { cx with nrm := fun s => g74_10F n s cx } } } } }
theorem g74_11_fx (n : Nat) (cx : Cx β) (v0 v1 : ByteArray) : g74_11F n (g74_m0 v0 v1) cx = g74_11 n (fun v4 => cx.ret (g74_m1 v4)) v0 v1 := by simp only [g74_11F, g74_11, g74_1_fx, g74_4_fx, g74_5_fx, g74_6_fx, g74_9_fx, g74_10_fx]
noncomputable def g74 (n : Nat) (v0 v1 : ByteArray) : Option (DenR [.dat (.int .i64)]) := g74_11 n (fun v4 => some (v4, ())) v0 v1
noncomputable def g74_A : List AK := [.dat .str, .dat .str]
noncomputable def g74_R : List RK := [.dat (.int .i64)]
noncomputable def g74_f (n : Nat) (d : DenA g74_A) : Option (DenR g74_R) := g74 n d.1 d.2.1
noncomputable def g74_S (n : Nat) : Spec := mkSpec g74_A g74_R (g74_f n)
noncomputable def g74_K : Sk := (.nd (.fin none none none [] .leaf) (.nd (.fin none none none [] .leaf) (.nd (.fin none none none [] .leaf) (.nd (.fin none none none [] .leaf) (.nd (.fin none none none [] .leaf) (.nd (.nd (.fin none (some g74_m2e) none [] .leaf) (.nd (.nd (.nd (.nd (.fin none none none [(0, g74_m3e)] .leaf) (.fin none none none [(0, g74_m3e)] .leaf)) (.nd (.fin none none none [(0, g74_m3e)] .leaf) (.fin none (some g74_m2e) none [(0, g74_m3e)] .leaf))) .leaf) .leaf)) (.nd (.nd (.fin none none (some g74_m1e) [] .leaf) (.fin none (some g74_m4e) (some g74_m1e) [] .leaf)) (.nd (.nd (.fin none (some g74_m5e) none [] .leaf) (.nd (.nd (.nd (.nd (.fin none none (some g74_m1e) [(2, g74_m6e)] .leaf) (.fin none none (some g74_m1e) [(2, g74_m6e)] .leaf)) (.nd (.fin none none (some g74_m1e) [(2, g74_m6e)] .leaf) (.fin none (some g74_m5e) (some g74_m1e) [(2, g74_m6e)] .leaf))) .leaf) .leaf)) (.nd (.fin none none (some g74_m1e) [] .leaf) (.fin none none (some g74_m1e) [] .leaf))))))))))
theorem g74_top (n : Nat) (s : FState) (cx : Cx β) : FX (g74_G n) n g74_B g74_K s cx = g74_11F n s cx := by kernel_rfl
theorem g74_fit (n : Nat) : Fit Tryd.prog 74 (g74_S n) :=
  fit_of (Γ := Γ0) (l := g74_C n) (n := n) (sk := g74_K) (ts := [(4, none)]) (fn := Tryd.f74) (c := g74_B) (by kernel_rfl) (by kernel_rfl) (by unfold Callable; kernel_rfl) tab_ok ⟨g83_fit n, trivial⟩ follows_mixed (by kernel_rfl) (by kernel_rfl) (Nat.le_of_ble_eq_true (by kernel_rfl)) (by kernel_rfl) (by kernel_rfl)
    (fun d => (g74_top n _ _).trans (Eq.trans (b := g74_11F n (g74_m0 d.1 d.2.1) (finCx (g74_G n) g74_R [(4, none)])) (by kernel_rfl) ((g74_11_fx n _ d.1 d.2.1).trans (by kernel_rfl))))
noncomputable def g60_m0 (v0 v1 : ByteArray) : FState := ⟨tlist [(0, .dat .str v0), (1, .dat .str v1)], olist []⟩
noncomputable def g60_m1 (v4 : Int) : FState := ⟨tlist [(4, .dat (.int .i64) v4)], olist []⟩
noncomputable def g60_m1e : List NE := [.keep 4]
noncomputable def g60_m2 (v0 v1 : ByteArray) (v5 : Int) : FState := ⟨tlist [(0, .dat .str v0), (1, .dat .str v1), (5, .dat (.int .i64) v5)], olist []⟩
noncomputable def g60_m2e : List NE := [.keep 0, .keep 1, .keep 5]
noncomputable def g60_m3 (v0 v1 : ByteArray) : FState := ⟨tlist [(0, .dat .str v0), (1, .dat .str v1)], olist []⟩
noncomputable def g60_m3e : List NE := [.keep 0, .keep 1]
noncomputable def g60_C (n : Nat) : List (Nat × Spec) := [(73, g73_S n), (74, g74_S n)]
noncomputable def g60_G (n : Nat) : Ctx := { Γ0 with calls := lkS (g60_C n) }
noncomputable def g60_B : Code := fb Tryd.f60
noncomputable def g60_1 (n : Nat) (kn : ByteArray → ByteArray → Int → Option β) (v0 v1 : ByteArray) : Option β := kn v0 v1 (v1.size : Int)
noncomputable def g60_1F (n : Nat) (s : FState) (cx : Cx β) : Option β := FX (g60_G n) n (nav g60_B [0]) (.fin none none none [] .leaf) s { cx with nrm := fun s => FX (g60_G n) n (nav g60_B [1, 0]) (.fin none (some g60_m2e) none [] .leaf) s cx }
theorem g60_1_fx (n : Nat) (cx : Cx β) (v0 v1 : ByteArray) : g60_1F n (g60_m0 v0 v1) cx = g60_1 n (fun v0 v1 v5 => cx.nrm (g60_m2 v0 v1 v5)) v0 v1 := by kernel_rfl
noncomputable def g60_2 (n : Nat) (kn : ByteArray → ByteArray → Option β) (kr : Int → Option β) (v0 v1 : ByteArray) (v5 : Int) : Option β := bif (v5 == (0 : Int)) then (kr (v0.size : Int)) else (bif (v5 == (1 : Int)) then (idx (0 : Int) (v1.size : Int) <| (g73 n v0 (byteAt v1 (0 : Int))).bind fun r1 => kr r1.1) else (bif (v5 == (v0.size : Int)) then (bif (strEq v1 v0) then (kr (0 : Int)) else (kr (-1 : Int))) else (bif (decide (v5 > (v0.size : Int))) then (kr (-1 : Int)) else (kn v0 v1))))
noncomputable def g60_2F (n : Nat) (s : FState) (cx : Cx β) : Option β := FX (g60_G n) n (nav g60_B [1, 1, 0, 0, 0]) (.fin none none (some g60_m1e) [] .leaf) s { cx with nrm := fun s => FX (g60_G n) n (nav g60_B [1, 1, 0, 0, 1]) (.fin none (some g60_m3e) (some g60_m1e) [] .leaf) s cx }
theorem g60_2_fx (n : Nat) (cx : Cx β) (v0 v1 : ByteArray) (v5 : Int) : g60_2F n (g60_m2 v0 v1 v5) cx = g60_2 n (fun v0 v1 => cx.nrm (g60_m3 v0 v1)) (fun v4 => cx.ret (g60_m1 v4)) v0 v1 v5 := by kernel_rfl
noncomputable def g60_3 (n : Nat) (kn : ByteArray → ByteArray → Option β) (kr : Int → Option β) (v0 v1 : ByteArray) (v5 : Int) : Option β := g60_2 n kn kr v0 v1 v5
noncomputable def g60_3F (n : Nat) (s : FState) (cx : Cx β) : Option β := g60_2F n s { cx with ex := fun j s => bif Nat.beq j 0 then cx.nrm s else cx.ex j s }
theorem g60_3_fx (n : Nat) (cx : Cx β) (v0 v1 : ByteArray) (v5 : Int) : g60_3F n (g60_m2 v0 v1 v5) cx = g60_3 n (fun v0 v1 => cx.nrm (g60_m3 v0 v1)) (fun v4 => cx.ret (g60_m1 v4)) v0 v1 v5 := g60_2_fx n _ v0 v1 v5
noncomputable def g60_4 (n : Nat) (kr : Int → Option β) (v0 v1 : ByteArray) : Option β := (g74 n v0 v1).bind fun r1 => kr r1.1
noncomputable def g60_4F (n : Nat) (s : FState) (cx : Cx β) : Option β := FX (g60_G n) n (nav g60_B [1, 1, 1, 0]) (.fin none none (some g60_m1e) [] .leaf) s { cx with nrm := fun s => FX (g60_G n) n (nav g60_B [1, 1, 1, 1]) (.fin none none (some g60_m1e) [] .leaf) s cx }
theorem g60_4_fx (n : Nat) (cx : Cx β) (v0 v1 : ByteArray) : g60_4F n (g60_m3 v0 v1) cx = g60_4 n (fun v4 => cx.ret (g60_m1 v4)) v0 v1 := by kernel_rfl
noncomputable def g60_5 (n : Nat) (kr : Int → Option β) (v0 v1 : ByteArray) : Option β := g60_1 n (fun v0 v1 v5 => g60_3 n (fun v0 v1 => g60_4 n kr v0 v1) kr v0 v1 v5) v0 v1
noncomputable def g60_5F (n : Nat) (s : FState) (cx : Cx β) : Option β := g60_1F n s { cx with nrm := fun s => g60_3F n s { cx with nrm := fun s => g60_4F n s cx } }
theorem g60_5_fx (n : Nat) (cx : Cx β) (v0 v1 : ByteArray) : g60_5F n (g60_m0 v0 v1) cx = g60_5 n (fun v4 => cx.ret (g60_m1 v4)) v0 v1 := by simp only [g60_5F, g60_5, g60_1_fx, g60_3_fx, g60_4_fx]
noncomputable def g60 (n : Nat) (v0 v1 : ByteArray) : Option (DenR [.dat (.int .i64)]) := g60_5 n (fun v4 => some (v4, ())) v0 v1
noncomputable def g60_A : List AK := [.dat .str, .dat .str]
noncomputable def g60_R : List RK := [.dat (.int .i64)]
noncomputable def g60_f (n : Nat) (d : DenA g60_A) : Option (DenR g60_R) := g60 n d.1 d.2.1
noncomputable def g60_S (n : Nat) : Spec := mkSpec g60_A g60_R (g60_f n)
noncomputable def g60_K : Sk := (.nd (.fin none none none [] .leaf) (.nd (.fin none (some g60_m2e) none [] .leaf) (.nd (.nd (.nd (.fin none none (some g60_m1e) [] .leaf) (.fin none (some g60_m3e) (some g60_m1e) [] .leaf)) .leaf) (.nd (.fin none none (some g60_m1e) [] .leaf) (.fin none none (some g60_m1e) [] .leaf)))))
theorem g60_top (n : Nat) (s : FState) (cx : Cx β) : FX (g60_G n) n g60_B g60_K s cx = g60_5F n s cx := by kernel_rfl
theorem g60_fit (n : Nat) : Fit Tryd.prog 60 (g60_S n) :=
  fit_of (Γ := Γ0) (l := g60_C n) (n := n) (sk := g60_K) (ts := [(4, none)]) (fn := Tryd.f60) (c := g60_B) (by kernel_rfl) (by kernel_rfl) (by unfold Callable; kernel_rfl) tab_ok ⟨g73_fit n, g74_fit n, trivial⟩ follows_mixed (by kernel_rfl) (by kernel_rfl) (Nat.le_of_ble_eq_true (by kernel_rfl)) (by kernel_rfl) (by kernel_rfl)
    (fun d => (g60_top n _ _).trans (Eq.trans (b := g60_5F n (g60_m0 d.1 d.2.1) (finCx (g60_G n) g60_R [(4, none)])) (by kernel_rfl) ((g60_5_fx n _ d.1 d.2.1).trans (by kernel_rfl))))
noncomputable def g61_A : List AK := [.dat .str]
noncomputable def g61_R : List RK := [.dat (.int .i32), .dat (.int .i64)]
noncomputable def g61 (n : Nat) (v0 : ByteArray) : Option (DenR [.dat (.int .i32), .dat (.int .i64)]) := some (((Lib.decodeGo v0).1 : Int), (((Lib.decodeGo v0).2 : Int), ()))
noncomputable def g61_f (n : Nat) (d : DenA g61_A) : Option (DenR g61_R) := g61 n d.1
noncomputable def g61_S (n : Nat) : Spec := mkSpec g61_A g61_R (g61_f n)
theorem g61_fit (n : Nat) : Fit Tryd.prog 61 (g61_S n) := fit_flat (by unfold Callable; kernel_rfl) rfl fun d x w vs hG ha hx => by
  obtain ⟨v, vs', o1, o2, rfl, _, ⟨_, cs, h1, h2⟩, h3, _⟩ := ha
  obtain ⟨s, u⟩ := d
  subst h3
  have h1 : cs = [Value.string s] := h1
  subst h1
  simp [K.isPair] at h2
  subst h2
  cases hx
  exact (Tryd.utf8_DecodeRuneInString s w (tabs_of hG)).mono fun e w' ⟨he, hb⟩ => ⟨[.int .i32 (Lib.decodeGo s).1, .int .i64 (Lib.decodeGo s).2], he, ⟨_, _, [], [], rfl, rfl, ⟨rfl, _, rfl, rfl⟩, ⟨_, _, [], [], rfl, rfl, ⟨rfl, _, rfl, rfl⟩, rfl, rfl⟩⟩, hb⟩
noncomputable def g49_m0 (v0 v1 : ByteArray) (v2 : Int) : FState := ⟨tlist [(0, .dat .str v0), (1, .dat .str v1), (2, .dat (.int .i64) v2)], olist []⟩
noncomputable def g49_m1 (v6 : Int) : FState := ⟨tlist [(6, .dat (.int .i64) v6)], olist []⟩
noncomputable def g49_m1e : List NE := [.keep 6]
noncomputable def g49_C (n : Nat) : List (Nat × Spec) := [(60, g60_S n), (61, g61_S n)]
noncomputable def g49_G (n : Nat) : Ctx := { Γ0 with calls := lkS (g49_C n) }
noncomputable def g49_B : Code := fb Tryd.f49
noncomputable def g49_1 (n : Nat) (kr : Int → Option β) (v0 v1 : ByteArray) (v2 : Int) : Option β := bif (decide (v2 < (0 : Int))) then (kr (-1 : Int)) else (bif (decide (v2 ≥ (v0.size : Int))) then ((g60 n v0 v1).bind fun r1 => kr r1.1) else (bnd v2 (v0.size : Int) (v0.size : Int) <| (g61 n (cutS v0 v2 (v0.size : Int))).bind fun r2 => bnd (0 : Int) (w64 (v2 + r2.2.1)) (v0.size : Int) <| (g60 n (cutS v0 (0 : Int) (w64 (v2 + r2.2.1))) v1).bind fun r3 => kr r3.1))
noncomputable def g49_1F (n : Nat) (s : FState) (cx : Cx β) : Option β := FX (g49_G n) n (nav g49_B [0]) (.fin none none (some g49_m1e) [] .leaf) s { cx with nrm := fun s => FX (g49_G n) n (nav g49_B [1, 0, 0]) (.fin none none (some g49_m1e) [] .leaf) s { cx with nrm := fun s => FX (g49_G n) n (nav g49_B [1, 0, 1]) (.fin none none (some g49_m1e) [] .leaf) s { cx with nrm := fun s => FX (g49_G n) n (nav g49_B [1, 1, 0, 0]) (.fin none none (some g49_m1e) [] .leaf) s { cx with nrm := fun s => FX (g49_G n) n (nav g49_B [1, 1, 0, 1]) (.fin none none (some g49_m1e) [] .leaf) s { cx with nrm := fun s => FX (g49_G n) n (nav g49_B [1, 1, 1, 0]) (.fin none none (some g49_m1e) [] .leaf) s { cx with nrm := fun s => FX (g49_G n) n (nav g49_B [1, 1, 1, 1, 0]) (.fin none none (some g49_m1e) [] .leaf) s { cx with nrm := fun s => FX (g49_G n) n (nav g49_B [1, 1, 1, 1, 1]) (.fin none none (some g49_m1e) [] .leaf) s cx } } } } } } }
theorem g49_1_fx (n : Nat) (cx : Cx β) (v0 v1 : ByteArray) (v2 : Int) : g49_1F n (g49_m0 v0 v1 v2) cx = g49_1 n (fun v6 => cx.ret (g49_m1 v6)) v0 v1 v2 := by kernel_rfl
noncomputable def g49 (n : Nat) (v0 v1 : ByteArray) (v2 : Int) : Option (DenR [.dat (.int .i64)]) := g49_1 n (fun v6 => some (v6, ())) v0 v1 v2
noncomputable def g49_A : List AK := [.dat .str, .dat .str, .dat (.int .i64)]
noncomputable def g49_R : List RK := [.dat (.int .i64)]
noncomputable def g49_f (n : Nat) (d : DenA g49_A) : Option (DenR g49_R) := g49 n d.1 d.2.1 d.2.2.1
noncomputable def g49_S (n : Nat) : Spec := mkSpec g49_A g49_R (g49_f n)
noncomputable def g49_K : Sk := (.nd (.fin none none (some g49_m1e) [] .leaf) (.nd (.nd (.fin none none (some g49_m1e) [] .leaf) (.fin none none (some g49_m1e) [] .leaf)) (.nd (.nd (.fin none none (some g49_m1e) [] .leaf) (.fin none none (some g49_m1e) [] .leaf)) (.nd (.fin none none (some g49_m1e) [] .leaf) (.nd (.fin none none (some g49_m1e) [] .leaf) (.fin none none (some g49_m1e) [] .leaf))))))
theorem g49_top (n : Nat) (s : FState) (cx : Cx β) : FX (g49_G n) n g49_B g49_K s cx = g49_1F n s cx := by kernel_rfl
theorem g49_fit (n : Nat) : Fit Tryd.prog 49 (g49_S n) :=
  fit_of (Γ := Γ0) (l := g49_C n) (n := n) (sk := g49_K) (ts := [(6, none)]) (fn := Tryd.f49) (c := g49_B) (by kernel_rfl) (by kernel_rfl) (by unfold Callable; kernel_rfl) tab_ok ⟨g60_fit n, g61_fit n, trivial⟩ follows_mixed (by kernel_rfl) (by kernel_rfl) (Nat.le_of_ble_eq_true (by kernel_rfl)) (by kernel_rfl) (by kernel_rfl)
    (fun d => (g49_top n _ _).trans (Eq.trans (b := g49_1F n (g49_m0 d.1 d.2.1 d.2.2.1) (finCx (g49_G n) g49_R [(6, none)])) (by kernel_rfl) ((g49_1_fx n _ d.1 d.2.1 d.2.2.1).trans (by kernel_rfl))))
noncomputable def g29_m0 (v0 v1 : ByteArray) (v2 : Int) : FState := ⟨tlist [(0, .dat .str v0), (1, .dat .str v1), (2, .dat (.int .i64) v2)], olist []⟩
noncomputable def g29_m1 (v6 : Int) : FState := ⟨tlist [(6, .dat (.int .i64) v6)], olist []⟩
noncomputable def g29_m1e : List NE := [.keep 6]
noncomputable def g29_C (n : Nat) : List (Nat × Spec) := [(49, g49_S n)]
noncomputable def g29_G (n : Nat) : Ctx := { Γ0 with calls := lkS (g29_C n) }
noncomputable def g29_B : Code := fb Tryd.f29
noncomputable def g29_1 (n : Nat) (kr : Int → Option β) (v0 v1 : ByteArray) (v2 : Int) : Option β := (g49 n v0 v1 v2).bind fun r1 => kr r1.1
noncomputable def g29_1F (n : Nat) (s : FState) (cx : Cx β) : Option β := FX (g29_G n) n (nav g29_B [0]) (.fin none none (some g29_m1e) [] .leaf) s { cx with nrm := fun s => FX (g29_G n) n (nav g29_B [1, 0]) (.fin none none (some g29_m1e) [] .leaf) s { cx with nrm := fun s => FX (g29_G n) n (nav g29_B [1, 1]) (.fin none none (some g29_m1e) [] .leaf) s cx } }
theorem g29_1_fx (n : Nat) (cx : Cx β) (v0 v1 : ByteArray) (v2 : Int) : g29_1F n (g29_m0 v0 v1 v2) cx = g29_1 n (fun v6 => cx.ret (g29_m1 v6)) v0 v1 v2 := by kernel_rfl
noncomputable def g29 (n : Nat) (v0 v1 : ByteArray) (v2 : Int) : Option (DenR [.dat (.int .i64)]) := g29_1 n (fun v6 => some (v6, ())) v0 v1 v2
noncomputable def g29_A : List AK := [.dat .str, .dat .str, .dat (.int .i64)]
noncomputable def g29_R : List RK := [.dat (.int .i64)]
noncomputable def g29_f (n : Nat) (d : DenA g29_A) : Option (DenR g29_R) := g29 n d.1 d.2.1 d.2.2.1
noncomputable def g29_S (n : Nat) : Spec := mkSpec g29_A g29_R (g29_f n)
noncomputable def g29_K : Sk := (.nd (.fin none none (some g29_m1e) [] .leaf) (.nd (.fin none none (some g29_m1e) [] .leaf) (.fin none none (some g29_m1e) [] .leaf)))
theorem g29_top (n : Nat) (s : FState) (cx : Cx β) : FX (g29_G n) n g29_B g29_K s cx = g29_1F n s cx := by kernel_rfl
theorem g29_fit (n : Nat) : Fit Tryd.prog 29 (g29_S n) :=
  fit_of (Γ := Γ0) (l := g29_C n) (n := n) (sk := g29_K) (ts := [(6, none)]) (fn := Tryd.f29) (c := g29_B) (by kernel_rfl) (by kernel_rfl) (by unfold Callable; kernel_rfl) tab_ok ⟨g49_fit n, trivial⟩ follows_mixed (by kernel_rfl) (by kernel_rfl) (Nat.le_of_ble_eq_true (by kernel_rfl)) (by kernel_rfl) (by kernel_rfl)
    (fun d => (g29_top n _ _).trans (Eq.trans (b := g29_1F n (g29_m0 d.1 d.2.1 d.2.2.1) (finCx (g29_G n) g29_R [(6, none)])) (by kernel_rfl) ((g29_1_fx n _ d.1 d.2.1 d.2.2.1).trans (by kernel_rfl))))
noncomputable def g10_m0 (v0 v1 : ByteArray) (v2 : Int) : FState := ⟨tlist [(0, .dat .str v0), (1, .dat .str v1), (2, .dat (.int .i64) v2)], olist []⟩
noncomputable def g10_m1 (v6 : Int) : FState := ⟨tlist [(6, .dat (.int .i64) v6)], olist []⟩
noncomputable def g10_m1e : List NE := [.keep 6]
noncomputable def g10_C (n : Nat) : List (Nat × Spec) := [(29, g29_S n)]
noncomputable def g10_G (n : Nat) : Ctx := { Γ0 with calls := lkS (g10_C n) }
noncomputable def g10_B : Code := fb Tryd.f10
noncomputable def g10_1 (n : Nat) (kr : Int → Option β) (v0 v1 : ByteArray) (v2 : Int) : Option β := (g29 n v0 v1 v2).bind fun r1 => kr r1.1
noncomputable def g10_1F (n : Nat) (s : FState) (cx : Cx β) : Option β := FX (g10_G n) n (nav g10_B [0]) (.fin none none (some g10_m1e) [] .leaf) s { cx with nrm := fun s => FX (g10_G n) n (nav g10_B [1, 0]) (.fin none none (some g10_m1e) [] .leaf) s { cx with nrm := fun s => FX (g10_G n) n (nav g10_B [1, 1]) (.fin none none (some g10_m1e) [] .leaf) s cx } }
theorem g10_1_fx (n : Nat) (cx : Cx β) (v0 v1 : ByteArray) (v2 : Int) : g10_1F n (g10_m0 v0 v1 v2) cx = g10_1 n (fun v6 => cx.ret (g10_m1 v6)) v0 v1 v2 := by kernel_rfl
noncomputable def g10 (n : Nat) (v0 v1 : ByteArray) (v2 : Int) : Option (DenR [.dat (.int .i64)]) := g10_1 n (fun v6 => some (v6, ())) v0 v1 v2
noncomputable def g10_A : List AK := [.dat .str, .dat .str, .dat (.int .i64)]
noncomputable def g10_R : List RK := [.dat (.int .i64)]
noncomputable def g10_f (n : Nat) (d : DenA g10_A) : Option (DenR g10_R) := g10 n d.1 d.2.1 d.2.2.1
noncomputable def g10_S (n : Nat) : Spec := mkSpec g10_A g10_R (g10_f n)
noncomputable def g10_K : Sk := (.nd (.fin none none (some g10_m1e) [] .leaf) (.nd (.fin none none (some g10_m1e) [] .leaf) (.fin none none (some g10_m1e) [] .leaf)))
theorem g10_top (n : Nat) (s : FState) (cx : Cx β) : FX (g10_G n) n g10_B g10_K s cx = g10_1F n s cx := by kernel_rfl
theorem g10_fit (n : Nat) : Fit Tryd.prog 10 (g10_S n) :=
  fit_of (Γ := Γ0) (l := g10_C n) (n := n) (sk := g10_K) (ts := [(6, none)]) (fn := Tryd.f10) (c := g10_B) (by kernel_rfl) (by kernel_rfl) (by unfold Callable; kernel_rfl) tab_ok ⟨g29_fit n, trivial⟩ follows_mixed (by kernel_rfl) (by kernel_rfl) (Nat.le_of_ble_eq_true (by kernel_rfl)) (by kernel_rfl) (by kernel_rfl)
    (fun d => (g10_top n _ _).trans (Eq.trans (b := g10_1F n (g10_m0 d.1 d.2.1 d.2.2.1) (finCx (g10_G n) g10_R [(6, none)])) (by kernel_rfl) ((g10_1_fx n _ d.1 d.2.1 d.2.2.1).trans (by kernel_rfl))))
noncomputable def g3_m0 (x0 x1 : List Int) (v2 : Int) : FState := ⟨tlist [(0, .sl 0 none false), (1, .sl 1 none false), (2, .dat (.int .i64) v2)], olist [(0, .row (.int .u8) 5 false x0), (1, .row (.int .u8) 5 false x1)]⟩
noncomputable def g3_m1 (v6 : Bool) : FState := ⟨tlist [(6, .dat .bool v6)], olist []⟩
noncomputable def g3_m1e : List NE := [.keep 6]
noncomputable def g3_m2 (v2 : Int) (v7 v8 : ByteArray) : FState := ⟨tlist [(2, .dat (.int .i64) v2), (7, .dat .str v7), (8, .dat .str v8)], olist []⟩
noncomputable def g3_m2e : List NE := [.keep 2, .keep 7, .keep 8]
noncomputable def g3_m3 (v2 : Int) (v7 v8 : ByteArray) (v9 v10 : Int) : FState := ⟨tlist [(2, .dat (.int .i64) v2), (7, .dat .str v7), (8, .dat .str v8), (9, .dat (.int .i64) v9), (10, .dat (.int .i64) v10)], olist []⟩
noncomputable def g3_m3e : List NE := [.keep 2, .keep 7, .keep 8, .keep 9, .keep 10]
noncomputable def g3_m4 (v2 : Int) (v7 v8 : ByteArray) (v9 : Int) : FState := ⟨tlist [(2, .dat (.int .i64) v2), (7, .dat .str v7), (8, .dat .str v8), (9, .dat (.int .i64) v9)], olist []⟩
noncomputable def g3_m4e : List NE := [.keep 2, .keep 7, .keep 8, .keep 9]
noncomputable def g3_C (n : Nat) : List (Nat × Spec) := [(9, g9_S n), (10, g10_S n)]
noncomputable def g3_G (n : Nat) : Ctx := { Γ0 with calls := lkS (g3_C n) }
noncomputable def g3_B : Code := fb Tryd.f3
noncomputable def g3_1 (n : Nat) (kn : Int → ByteArray → ByteArray → Option β) (kr : Bool → Option β) (x0 x1 : List Int) (v2 : Int) : Option β := bif (decide ((x0.length : Int) > (2147483647 : Int))) then (kr true) else (bif (decide ((x1.length : Int) > (2147483647 : Int))) then (kr true) else ((g9 n x0 (60 : Int)).bind fun r1 => (g9 n x1 (60 : Int)).bind fun r2 => bif (strEq r2.1 (⟨#[]⟩ : ByteArray)) then (kn v2 r1.1 (⟨#[97]⟩ : ByteArray)) else (kn v2 r1.1 r2.1)))
noncomputable def g3_1F (n : Nat) (s : FState) (cx : Cx β) : Option β := FX (g3_G n) n (nav g3_B [0]) (.fin none none (some g3_m1e) [] .leaf) s { cx with nrm := fun s => FX (g3_G n) n (nav g3_B [1, 0, 0]) (.fin none none (some g3_m1e) [] .leaf) s { cx with nrm := fun s => FX (g3_G n) n (nav g3_B [1, 0, 1]) (.fin none none (some g3_m1e) [] .leaf) s { cx with nrm := fun s => FX (g3_G n) n (nav g3_B [1, 1, 0]) (.fin none none (some g3_m1e) [] .leaf) s { cx with nrm := fun s => FX (g3_G n) n (nav g3_B [1, 1, 1, 0, 0]) (.fin none none (some g3_m1e) [] .leaf) s { cx with nrm := fun s => FX (g3_G n) n (nav g3_B [1, 1, 1, 0, 1]) (.fin none (some g3_m2e) (some g3_m1e) [] .leaf) s cx } } } } }
theorem g3_1_fx (n : Nat) (cx : Cx β) (x0 x1 : List Int) (v2 : Int) : g3_1F n (g3_m0 x0 x1 v2) cx = g3_1 n (fun v2 v7 v8 => cx.nrm (g3_m2 v2 v7 v8)) (fun v6 => cx.ret (g3_m1 v6)) x0 x1 v2 := by kernel_rfl
noncomputable def g3_2 (n : Nat) (kn : Int → ByteArray → ByteArray → Int → Int → Option β) (v2 : Int) (v7 v8 : ByteArray) : Option β := nz (IntKind.u64.wrap ((w64 ((v7.size : Int) + (5 : Int))))) <| kn (w64 ((w64 (((IntKind.u64.wrap (v2)).tmod (IntKind.u64.wrap ((w64 ((v7.size : Int) + (5 : Int)))))))) - (2 : Int))) v7 v8 (-1 : Int) (0 : Int)
noncomputable def g3_2F (n : Nat) (s : FState) (cx : Cx β) : Option β := FX (g3_G n) n (nav g3_B [1, 1, 1, 1, 0]) (.fin none none none [] .leaf) s { cx with nrm := fun s => FX (g3_G n) n (nav g3_B [1, 1, 1, 1, 1, 0]) (.fin none none none [] .leaf) s { cx with nrm := fun s => FX (g3_G n) n (nav g3_B [1, 1, 1, 1, 1, 1, 0, 0]) (.fin none (some g3_m3e) none [] .leaf) s cx } }
theorem g3_2_fx (n : Nat) (cx : Cx β) (v2 : Int) (v7 v8 : ByteArray) : g3_2F n (g3_m2 v2 v7 v8) cx = g3_2 n (fun v2 v7 v8 v9 v10 => cx.nrm (g3_m3 v2 v7 v8 v9 v10)) v2 v7 v8 := by kernel_rfl
noncomputable def g3_3 (n : Nat) (kn : Int → ByteArray → ByteArray → Int → Int → Option β) (kx0 : Int → ByteArray → ByteArray → Int → Option β) (v2 : Int) (v7 v8 : ByteArray) (v9 v10 : Int) : Option β := bif (decide ((w64 (v10 + (v8.size : Int))) ≤ (minI (w64 (v2 + (1 : Int))) (v7.size : Int)))) then (bnd v10 (w64 (v10 + (v8.size : Int))) (v7.size : Int) <| bif (strEq (cutS v7 v10 (w64 (v10 + (v8.size : Int)))) v8) then (kn v2 v7 v8 v10 (w64 (v10 + (1 : Int)))) else (kn v2 v7 v8 v9 (w64 (v10 + (1 : Int))))) else (kx0 v2 v7 v8 v9)
noncomputable def g3_3F (n : Nat) (s : FState) (cx : Cx β) : Option β := FX (g3_G n) n (nav g3_B [1, 1, 1, 1, 1, 1, 0, 1, 0, 0, 0, 0]) (.fin none none none [(0, g3_m4e)] .leaf) s { cx with nrm := fun s => FX (g3_G n) n (nav g3_B [1, 1, 1, 1, 1, 1, 0, 1, 0, 0, 0, 1]) (.fin none none none [(0, g3_m4e)] .leaf) s { cx with nrm := fun s => FX (g3_G n) n (nav g3_B [1, 1, 1, 1, 1, 1, 0, 1, 0, 0, 1, 0]) (.fin none none none [(0, g3_m4e)] .leaf) s { cx with nrm := fun s => FX (g3_G n) n (nav g3_B [1, 1, 1, 1, 1, 1, 0, 1, 0, 0, 1, 1]) (.fin none (some g3_m3e) none [(0, g3_m4e)] .leaf) s cx } } }
theorem g3_3_fx (n : Nat) (cx : Cx β) (v2 : Int) (v7 v8 : ByteArray) (v9 v10 : Int) : g3_3F n (g3_m3 v2 v7 v8 v9 v10) cx = g3_3 n (fun v2 v7 v8 v9 v10 => cx.nrm (g3_m3 v2 v7 v8 v9 v10)) (fun v2 v7 v8 v9 => cx.ex 0 (g3_m4 v2 v7 v8 v9)) v2 v7 v8 v9 v10 := by kernel_rfl
noncomputable def g3_4L (n : Nat) (kx0 : Int → ByteArray → ByteArray → Int → Option β) : Nat → Int → ByteArray → ByteArray → Int → Int → Option β
  | 0, _, _, _, _, _ => none
  | m + 1, v2, v7, v8, v9, v10 => g3_3 n (g3_4L n kx0 m) kx0 v2 v7 v8 v9 v10
noncomputable def g3_4 (n : Nat) (kx0 : Int → ByteArray → ByteArray → Int → Option β) (v2 : Int) (v7 v8 : ByteArray) (v9 v10 : Int) : Option β := g3_4L n kx0 n v2 v7 v8 v9 v10
noncomputable def g3_4F (n : Nat) (s : FState) (cx : Cx β) : Option β := loopN (fun again s => g3_3F n s { cx with nrm := again }) n s
theorem g3_4L_fx (n : Nat) (cx : Cx β) : ∀ (m : Nat) (v2 : Int) (v7 v8 : ByteArray) (v9 v10 : Int), loopN (fun again s => g3_3F n s { cx with nrm := again }) m (g3_m3 v2 v7 v8 v9 v10) = g3_4L n (fun v2 v7 v8 v9 => cx.ex 0 (g3_m4 v2 v7 v8 v9)) m v2 v7 v8 v9 v10 := by
  intro m
  induction m with
  | zero => intros; rfl
  | succ m ih => intros; simp only [loopN, g3_4L, g3_3_fx, ih]
theorem g3_4_fx (n : Nat) (cx : Cx β) (v2 : Int) (v7 v8 : ByteArray) (v9 v10 : Int) : g3_4F n (g3_m3 v2 v7 v8 v9 v10) cx = g3_4 n (fun v2 v7 v8 v9 => cx.ex 0 (g3_m4 v2 v7 v8 v9)) v2 v7 v8 v9 v10 := g3_4L_fx n cx n v2 v7 v8 v9 v10
noncomputable def g3_5 (n : Nat) (kn : Int → ByteArray → ByteArray → Int → Option β) (v2 : Int) (v7 v8 : ByteArray) (v9 v10 : Int) : Option β := g3_4 n kn v2 v7 v8 v9 v10
noncomputable def g3_5F (n : Nat) (s : FState) (cx : Cx β) : Option β := g3_4F n s { cx with ex := fun j s => bif Nat.beq j 0 then cx.nrm s else cx.ex j s }
theorem g3_5_fx (n : Nat) (cx : Cx β) (v2 : Int) (v7 v8 : ByteArray) (v9 v10 : Int) : g3_5F n (g3_m3 v2 v7 v8 v9 v10) cx = g3_5 n (fun v2 v7 v8 v9 => cx.nrm (g3_m4 v2 v7 v8 v9)) v2 v7 v8 v9 v10 := g3_4_fx n _ v2 v7 v8 v9 v10
noncomputable def g3_6 (n : Nat) (kr : Bool → Option β) (v2 : Int) (v7 v8 : ByteArray) (v9 : Int) : Option β := (g10 n v7 v8 v2).bind fun r1 => kr (r1.1 == v9)
noncomputable def g3_6F (n : Nat) (s : FState) (cx : Cx β) : Option β := FX (g3_G n) n (nav g3_B [1, 1, 1, 1, 1, 1, 1, 0]) (.fin none none (some g3_m1e) [] .leaf) s { cx with nrm := fun s => FX (g3_G n) n (nav g3_B [1, 1, 1, 1, 1, 1, 1, 1]) (.fin none none (some g3_m1e) [] .leaf) s cx }
theorem g3_6_fx (n : Nat) (cx : Cx β) (v2 : Int) (v7 v8 : ByteArray) (v9 : Int) : g3_6F n (g3_m4 v2 v7 v8 v9) cx = g3_6 n (fun v6 => cx.ret (g3_m1 v6)) v2 v7 v8 v9 := by kernel_rfl
noncomputable def g3_7 (n : Nat) (kr : Bool → Option β) (x0 x1 : List Int) (v2 : Int) : Option β := g3_1 n (fun v2 v7 v8 => g3_2 n (fun v2 v7 v8 v9 v10 => g3_5 n (fun v2 v7 v8 v9 => g3_6 n kr v2 v7 v8 v9) v2 v7 v8 v9 v10) v2 v7 v8) kr x0 x1 v2
noncomputable def g3_7F (n : Nat) (s : FState) (cx : Cx β) : Option β := g3_1F n s { cx with nrm := fun s => g3_2F n s { cx with nrm := fun s => g3_5F n s { cx with nrm := fun s => g3_6F n s cx } } }
theorem g3_7_fx (n : Nat) (cx : Cx β) (x0 x1 : List Int) (v2 : Int) : g3_7F n (g3_m0 x0 x1 v2) cx = g3_7 n (fun v6 => cx.ret (g3_m1 v6)) x0 x1 v2 := by simp only [g3_7F, g3_7, g3_1_fx, g3_2_fx, g3_5_fx, g3_6_fx]
noncomputable def g3 (n : Nat) (x0 x1 : List Int) (v2 : Int) : Option (DenR [.dat .bool]) := g3_7 n (fun v6 => some (v6, ())) x0 x1 v2
noncomputable def g3_A : List AK := [.ro (.int .u8) 5, .ro (.int .u8) 5, .dat (.int .i64)]
noncomputable def g3_R : List RK := [.dat .bool]
noncomputable def g3_f (n : Nat) (d : DenA g3_A) : Option (DenR g3_R) := g3 n d.1 d.2.1 d.2.2.1
noncomputable def g3_S (n : Nat) : Spec := mkSpec g3_A g3_R (g3_f n)
noncomputable def g3_K : Sk := (.nd (.fin none none (some g3_m1e) [] .leaf) (.nd (.nd (.fin none none (some g3_m1e) [] .leaf) (.fin none none (some g3_m1e) [] .leaf)) (.nd (.fin none none (some g3_m1e) [] .leaf) (.nd (.nd (.fin none none (some g3_m1e) [] .leaf) (.fin none (some g3_m2e) (some g3_m1e) [] .leaf)) (.nd (.fin none none none [] .leaf) (.nd (.fin none none none [] .leaf) (.nd (.nd (.fin none (some g3_m3e) none [] .leaf) (.nd (.nd (.nd (.nd (.fin none none none [(0, g3_m4e)] .leaf) (.fin none none none [(0, g3_m4e)] .leaf)) (.nd (.fin none none none [(0, g3_m4e)] .leaf) (.fin none (some g3_m3e) none [(0, g3_m4e)] .leaf))) .leaf) .leaf)) (.nd (.fin none none (some g3_m1e) [] .leaf) (.fin none none (some g3_m1e) [] .leaf)))))))))
theorem g3_top (n : Nat) (s : FState) (cx : Cx β) : FX (g3_G n) n g3_B g3_K s cx = g3_7F n s cx := by kernel_rfl
theorem g3_fit (n : Nat) : Fit Tryd.prog 3 (g3_S n) :=
  fit_of (Γ := Γ0) (l := g3_C n) (n := n) (sk := g3_K) (ts := [(6, none)]) (fn := Tryd.f3) (c := g3_B) (by kernel_rfl) (by kernel_rfl) (by unfold Callable; kernel_rfl) tab_ok ⟨g9_fit n, g10_fit n, trivial⟩ follows_mixed (by kernel_rfl) (by kernel_rfl) (Nat.le_of_ble_eq_true (by kernel_rfl)) (by kernel_rfl) (by kernel_rfl)
    (fun d => (g3_top n _ _).trans (Eq.trans (b := g3_7F n (g3_m0 d.1 d.2.1 d.2.2.1) (finCx (g3_G n) g3_R [(6, none)])) (by kernel_rfl) ((g3_7_fx n _ d.1 d.2.1 d.2.2.1).trans (by kernel_rfl))))
end Go.Proofs.YtoafkjeamgelgaaDoorZF
