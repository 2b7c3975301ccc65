import Derived.Test.YtfnjlgflbenfoaaYFT
import Derived.Test.YtfnjlgflbenfoaaYGA0
namespace Go.Proofs.YtfnjlgflbenfoaaYF
open Go Go.Proofs
set_option linter.unusedVariables false
set_option maxRecDepth 100000
variable {β : Type}
noncomputable def g24_m0 (x0 : List (Int × ByteArray)) : FState := ⟨tlist [(0, .sl 0 none false)], olist [(0, .row (.pair (.int .i64) .str) 28 false x0)]⟩
noncomputable def g24_m1 (v2 : ByteArray) : FState := ⟨tlist [(2, .dat .str v2)], olist []⟩
noncomputable def g24_m1e : List NE := [.keep 2]
noncomputable def g24_m2 (v3 : ByteArray) (x6 : List (Int × ByteArray)) (v7 v8 : Int) : FState := ⟨tlist [(3, .dat .str v3), (6, .sl 6 none false), (7, .dat (.int .i64) v7), (8, .dat (.int .i64) v8)], olist [(6, .row (.pair (.int .i64) .str) 28 false x6)]⟩
noncomputable def g24_m2e : List NE := [.keep 3, .row 6 (.pair (.int .i64) .str) 28 false, .keep 7, .keep 8]
noncomputable def g24_m3 (v3 : ByteArray) : FState := ⟨tlist [(3, .dat .str v3)], olist []⟩
noncomputable def g24_m3e : List NE := [.keep 3]
noncomputable def g24_C (n : Nat) : List (Nat × Spec) := []
noncomputable def g24_G (n : Nat) : Ctx := { Γ0 with calls := lkS (g24_C n) }
noncomputable def g24_B : Code := fb Try.f24
noncomputable def g24_1 (n : Nat) (kn : ByteArray → List (Int × ByteArray) → Int → Int → Option β) (x0 : List (Int × ByteArray)) : Option β := kn (⟨#[]⟩ : ByteArray) x0 (x0.length : Int) (0 : Int)
noncomputable def g24_1F (n : Nat) (s : FState) (cx : Cx β) : Option β := FX (g24_G n) n (nav g24_B [0]) (.fin none none none [] .leaf) s { cx with nrm := fun s => FX (g24_G n) n (nav g24_B [1, 0]) (.fin none none none [] .leaf) s { cx with nrm := fun s => FX (g24_G n) n (nav g24_B [1, 1, 0, 0]) (.fin none (some g24_m2e) none [] .leaf) s cx } }
theorem g24_1_fx (n : Nat) (cx : Cx β) (x0 : List (Int × ByteArray)) : g24_1F n (g24_m0 x0) cx = g24_1 n (fun v3 x6 v7 v8 => cx.nrm (g24_m2 v3 x6 v7 v8)) x0 := by kernel_rfl
noncomputable def g24_2 (n : Nat) (kn : ByteArray → List (Int × ByteArray) → Int → Int → Option β) (kx0 : ByteArray → Option β) (v3 : ByteArray) (x6 : List (Int × ByteArray)) (v7 v8 : Int) : Option β := bif (decide (v8 < v7)) then (idx v8 (x6.length : Int) <| bif ((rd [(rd x6 v8 ((0 : Int), (⟨#[]⟩ : ByteArray)))] (0 : Int) ((0 : Int), (⟨#[]⟩ : ByteArray))).1 != (1 : Int)) then (roomy (v3.size + ((rd [(rd x6 v8 ((0 : Int), (⟨#[]⟩ : ByteArray)))] (0 : Int) ((0 : Int), (⟨#[]⟩ : ByteArray))).2).size) <| kn (v3 ++ (rd [(rd x6 v8 ((0 : Int), (⟨#[]⟩ : ByteArray)))] (0 : Int) ((0 : Int), (⟨#[]⟩ : ByteArray))).2) x6 v7 (w64 (v8 + (1 : Int)))) else (kn v3 x6 v7 (w64 (v8 + (1 : Int))))) else (kx0 v3)
noncomputable def g24_2F (n : Nat) (s : FState) (cx : Cx β) : Option β := FX (g24_G n) n (nav g24_B [1, 1, 0, 1, 0, 0, 0]) (.fin none none none [(0, g24_m3e)] .leaf) s { cx with nrm := fun s => FX (g24_G n) n (nav g24_B [1, 1, 0, 1, 0, 0, 1, 0]) (.fin none none none [(0, g24_m3e)] .leaf) s { cx with nrm := fun s => FX (g24_G n) n (nav g24_B [1, 1, 0, 1, 0, 0, 1, 1, 0]) (.fin none none none [(0, g24_m3e)] .leaf) s { cx with nrm := fun s => FX (g24_G n) n (nav g24_B [1, 1, 0, 1, 0, 0, 1, 1, 1]) (.fin none (some g24_m2e) none [(0, g24_m3e)] .leaf) s cx } } }
theorem g24_2_fx (n : Nat) (cx : Cx β) (v3 : ByteArray) (x6 : List (Int × ByteArray)) (v7 v8 : Int) : g24_2F n (g24_m2 v3 x6 v7 v8) cx = g24_2 n (fun v3 x6 v7 v8 => cx.nrm (g24_m2 v3 x6 v7 v8)) (fun v3 => cx.ex 0 (g24_m3 v3)) v3 x6 v7 v8 := by kernel_rfl
noncomputable def g24_3L (n : Nat) (kx0 : ByteArray → Option β) : Nat → ByteArray → List (Int × ByteArray) → Int → Int → Option β
  | 0, _, _, _, _ => none
  | m + 1, v3, x6, v7, v8 => g24_2 n (g24_3L n kx0 m) kx0 v3 x6 v7 v8
noncomputable def g24_3 (n : Nat) (kx0 : ByteArray → Option β) (v3 : ByteArray) (x6 : List (Int × ByteArray)) (v7 v8 : Int) : Option β := g24_3L n kx0 n v3 x6 v7 v8
noncomputable def g24_3F (n : Nat) (s : FState) (cx : Cx β) : Option β := loopN (fun again s => g24_2F n s { cx with nrm := again }) n s
theorem g24_3L_fx (n : Nat) (cx : Cx β) : ∀ (m : Nat) (v3 : ByteArray) (x6 : List (Int × ByteArray)) (v7 v8 : Int), loopN (fun again s => g24_2F n s { cx with nrm := again }) m (g24_m2 v3 x6 v7 v8) = g24_3L n (fun v3 => cx.ex 0 (g24_m3 v3)) m v3 x6 v7 v8 := by
  intro m
  induction m with
  | zero => intros; rfl
  | succ m ih => intros; simp only [loopN, g24_3L, g24_2_fx, ih]
theorem g24_3_fx (n : Nat) (cx : Cx β) (v3 : ByteArray) (x6 : List (Int × ByteArray)) (v7 v8 : Int) : g24_3F n (g24_m2 v3 x6 v7 v8) cx = g24_3 n (fun v3 => cx.ex 0 (g24_m3 v3)) v3 x6 v7 v8 := g24_3L_fx n cx n v3 x6 v7 v8
noncomputable def g24_4 (n : Nat) (kn : ByteArray → Option β) (v3 : ByteArray) (x6 : List (Int × ByteArray)) (v7 v8 : Int) : Option β := g24_3 n kn v3 x6 v7 v8
noncomputable def g24_4F (n : Nat) (s : FState) (cx : Cx β) : Option β := g24_3F n s { cx with ex := fun j s => bif Nat.beq j 0 then cx.nrm s else cx.ex j s }
theorem g24_4_fx (n : Nat) (cx : Cx β) (v3 : ByteArray) (x6 : List (Int × ByteArray)) (v7 v8 : Int) : g24_4F n (g24_m2 v3 x6 v7 v8) cx = g24_4 n (fun v3 => cx.nrm (g24_m3 v3)) v3 x6 v7 v8 := g24_3_fx n _ v3 x6 v7 v8
noncomputable def g24_5 (n : Nat) (kr : ByteArray → Option β) (v3 : ByteArray) : Option β := kr v3
noncomputable def g24_5F (n : Nat) (s : FState) (cx : Cx β) : Option β := FX (g24_G n) n (nav g24_B [1, 1, 1, 0]) (.fin none none (some g24_m1e) [] .leaf) s { cx with nrm := fun s => FX (g24_G n) n (nav g24_B [1, 1, 1, 1]) (.fin none none (some g24_m1e) [] .leaf) s cx }
theorem g24_5_fx (n : Nat) (cx : Cx β) (v3 : ByteArray) : g24_5F n (g24_m3 v3) cx = g24_5 n (fun v2 => cx.ret (g24_m1 v2)) v3 := by kernel_rfl
noncomputable def g24_6 (n : Nat) (kr : ByteArray → Option β) (x0 : List (Int × ByteArray)) : Option β := g24_1 n (fun v3 x6 v7 v8 => g24_4 n (fun v3 => g24_5 n kr v3) v3 x6 v7 v8) x0
noncomputable def g24_6F (n : Nat) (s : FState) (cx : Cx β) : Option β := g24_1F n s { cx with nrm := fun s => g24_4F n s { cx with nrm := fun s => g24_5F n s cx } }
theorem g24_6_fx (n : Nat) (cx : Cx β) (x0 : List (Int × ByteArray)) : g24_6F n (g24_m0 x0) cx = g24_6 n (fun v2 => cx.ret (g24_m1 v2)) x0 := by simp only [g24_6F, g24_6, g24_1_fx, g24_4_fx, g24_5_fx]
noncomputable def g24 (n : Nat) (x0 : List (Int × ByteArray)) : Option (DenR [.dat .str]) := g24_6 n (fun v2 => some (v2, ())) x0
noncomputable def g24_A : List AK := [.ro (.pair (.int .i64) .str) 28]
noncomputable def g24_R : List RK := [.dat .str]
noncomputable def g24_f (n : Nat) (d : DenA g24_A) : Option (DenR g24_R) := g24 n d.1
noncomputable def g24_S (n : Nat) : Spec := mkSpec g24_A g24_R (g24_f n)
noncomputable def g24_K : Sk := (.nd (.fin none none none [] .leaf) (.nd (.fin none none none [] .leaf) (.nd (.nd (.fin none (some g24_m2e) none [] .leaf) (.nd (.nd (.nd (.fin none none none [(0, g24_m3e)] .leaf) (.nd (.fin none none none [(0, g24_m3e)] .leaf) (.nd (.fin none none none [(0, g24_m3e)] .leaf) (.fin none (some g24_m2e) none [(0, g24_m3e)] .leaf)))) .leaf) .leaf)) (.nd (.fin none none (some g24_m1e) [] .leaf) (.fin none none (some g24_m1e) [] .leaf)))))
theorem g24_top (n : Nat) (s : FState) (cx : Cx β) : FX (g24_G n) n g24_B g24_K s cx = g24_6F n s cx := by kernel_rfl
theorem g24_fit (n : Nat) : Fit Try.prog 24 (g24_S n) :=
  fit_of (Γ := Γ0) (l := g24_C n) (n := n) (sk := g24_K) (ts := [(2, none)]) (fn := Try.f24) (c := g24_B) (by kernel_rfl) (by kernel_rfl) (by unfold Callable; kernel_rfl) tab_ok trivial follows_mixed (by kernel_rfl) (by kernel_rfl) (Nat.le_of_ble_eq_true (by kernel_rfl)) (by kernel_rfl) (by kernel_rfl)
    (fun d => (g24_top n _ _).trans (Eq.trans (b := g24_6F n (g24_m0 d.1) (finCx (g24_G n) g24_R [(2, none)])) (by kernel_rfl) ((g24_6_fx n _ d.1).trans (by kernel_rfl))))
noncomputable def g25_m0 (x0 : List (Int × ByteArray)) : FState := ⟨tlist [(0, .sl 0 none false)], olist [(0, .row (.pair (.int .i64) .str) 28 false x0)]⟩
noncomputable def g25_m1 (v2 : ByteArray) : FState := ⟨tlist [(2, .dat .str v2)], olist []⟩
noncomputable def g25_m1e : List NE := [.keep 2]
noncomputable def g25_m2 (v3 : ByteArray) (x6 : List (Int × ByteArray)) (v7 v8 : Int) : FState := ⟨tlist [(3, .dat .str v3), (6, .sl 6 none false), (7, .dat (.int .i64) v7), (8, .dat (.int .i64) v8)], olist [(6, .row (.pair (.int .i64) .str) 28 false x6)]⟩
noncomputable def g25_m2e : List NE := [.keep 3, .row 6 (.pair (.int .i64) .str) 28 false, .keep 7, .keep 8]
noncomputable def g25_m3 (v3 : ByteArray) : FState := ⟨tlist [(3, .dat .str v3)], olist []⟩
noncomputable def g25_m3e : List NE := [.keep 3]
noncomputable def g25_C (n : Nat) : List (Nat × Spec) := []
noncomputable def g25_G (n : Nat) : Ctx := { Γ0 with calls := lkS (g25_C n) }
noncomputable def g25_B : Code := fb Try.f25
noncomputable def g25_1 (n : Nat) (kn : ByteArray → List (Int × ByteArray) → Int → Int → Option β) (x0 : List (Int × ByteArray)) : Option β := kn (⟨#[]⟩ : ByteArray) x0 (x0.length : Int) (0 : Int)
noncomputable def g25_1F (n : Nat) (s : FState) (cx : Cx β) : Option β := FX (g25_G n) n (nav g25_B [0]) (.fin none none none [] .leaf) s { cx with nrm := fun s => FX (g25_G n) n (nav g25_B [1, 0]) (.fin none none none [] .leaf) s { cx with nrm := fun s => FX (g25_G n) n (nav g25_B [1, 1, 0, 0]) (.fin none (some g25_m2e) none [] .leaf) s cx } }
theorem g25_1_fx (n : Nat) (cx : Cx β) (x0 : List (Int × ByteArray)) : g25_1F n (g25_m0 x0) cx = g25_1 n (fun v3 x6 v7 v8 => cx.nrm (g25_m2 v3 x6 v7 v8)) x0 := by kernel_rfl
noncomputable def g25_2 (n : Nat) (kn : ByteArray → List (Int × ByteArray) → Int → Int → Option β) (kx0 : ByteArray → Option β) (v3 : ByteArray) (x6 : List (Int × ByteArray)) (v7 v8 : Int) : Option β := bif (decide (v8 < v7)) then (idx v8 (x6.length : Int) <| bif ((rd [(rd x6 v8 ((0 : Int), (⟨#[]⟩ : ByteArray)))] (0 : Int) ((0 : Int), (⟨#[]⟩ : ByteArray))).1 != (-1 : Int)) then (roomy (v3.size + ((rd [(rd x6 v8 ((0 : Int), (⟨#[]⟩ : ByteArray)))] (0 : Int) ((0 : Int), (⟨#[]⟩ : ByteArray))).2).size) <| kn (v3 ++ (rd [(rd x6 v8 ((0 : Int), (⟨#[]⟩ : ByteArray)))] (0 : Int) ((0 : Int), (⟨#[]⟩ : ByteArray))).2) x6 v7 (w64 (v8 + (1 : Int)))) else (kn v3 x6 v7 (w64 (v8 + (1 : Int))))) else (kx0 v3)
noncomputable def g25_2F (n : Nat) (s : FState) (cx : Cx β) : Option β := FX (g25_G n) n (nav g25_B [1, 1, 0, 1, 0, 0, 0]) (.fin none none none [(0, g25_m3e)] .leaf) s { cx with nrm := fun s => FX (g25_G n) n (nav g25_B [1, 1, 0, 1, 0, 0, 1, 0]) (.fin none none none [(0, g25_m3e)] .leaf) s { cx with nrm := fun s => FX (g25_G n) n (nav g25_B [1, 1, 0, 1, 0, 0, 1, 1, 0]) (.fin none none none [(0, g25_m3e)] .leaf) s { cx with nrm := fun s => FX (g25_G n) n (nav g25_B [1, 1, 0, 1, 0, 0, 1, 1, 1]) (.fin none (some g25_m2e) none [(0, g25_m3e)] .leaf) s cx } } }
theorem g25_2_fx (n : Nat) (cx : Cx β) (v3 : ByteArray) (x6 : List (Int × ByteArray)) (v7 v8 : Int) : g25_2F n (g25_m2 v3 x6 v7 v8) cx = g25_2 n (fun v3 x6 v7 v8 => cx.nrm (g25_m2 v3 x6 v7 v8)) (fun v3 => cx.ex 0 (g25_m3 v3)) v3 x6 v7 v8 := by kernel_rfl
noncomputable def g25_3L (n : Nat) (kx0 : ByteArray → Option β) : Nat → ByteArray → List (Int × ByteArray) → Int → Int → Option β
  | 0, _, _, _, _ => none
  | m + 1, v3, x6, v7, v8 => g25_2 n (g25_3L n kx0 m) kx0 v3 x6 v7 v8
noncomputable def g25_3 (n : Nat) (kx0 : ByteArray → Option β) (v3 : ByteArray) (x6 : List (Int × ByteArray)) (v7 v8 : Int) : Option β := g25_3L n kx0 n v3 x6 v7 v8
noncomputable def g25_3F (n : Nat) (s : FState) (cx : Cx β) : Option β := loopN (fun again s => g25_2F n s { cx with nrm := again }) n s
theorem g25_3L_fx (n : Nat) (cx : Cx β) : ∀ (m : Nat) (v3 : ByteArray) (x6 : List (Int × ByteArray)) (v7 v8 : Int), loopN (fun again s => g25_2F n s { cx with nrm := again }) m (g25_m2 v3 x6 v7 v8) = g25_3L n (fun v3 => cx.ex 0 (g25_m3 v3)) m v3 x6 v7 v8 := by
  intro m
  induction m with
  | zero => intros; rfl
  | succ m ih => intros; simp only [loopN, g25_3L, g25_2_fx, ih]
theorem g25_3_fx (n : Nat) (cx : Cx β) (v3 : ByteArray) (x6 : List (Int × ByteArray)) (v7 v8 : Int) : g25_3F n (g25_m2 v3 x6 v7 v8) cx = g25_3 n (fun v3 => cx.ex 0 (g25_m3 v3)) v3 x6 v7 v8 := g25_3L_fx n cx n v3 x6 v7 v8
noncomputable def g25_4 (n : Nat) (kn : ByteArray → Option β) (v3 : ByteArray) (x6 : List (Int × ByteArray)) (v7 v8 : Int) : Option β := g25_3 n kn v3 x6 v7 v8
noncomputable def g25_4F (n : Nat) (s : FState) (cx : Cx β) : Option β := g25_3F n s { cx with ex := fun j s => bif Nat.beq j 0 then cx.nrm s else cx.ex j s }
theorem g25_4_fx (n : Nat) (cx : Cx β) (v3 : ByteArray) (x6 : List (Int × ByteArray)) (v7 v8 : Int) : g25_4F n (g25_m2 v3 x6 v7 v8) cx = g25_4 n (fun v3 => cx.nrm (g25_m3 v3)) v3 x6 v7 v8 := g25_3_fx n _ v3 x6 v7 v8
noncomputable def g25_5 (n : Nat) (kr : ByteArray → Option β) (v3 : ByteArray) : Option β := kr v3
noncomputable def g25_5F (n : Nat) (s : FState) (cx : Cx β) : Option β := FX (g25_G n) n (nav g25_B [1, 1, 1, 0]) (.fin none none (some g25_m1e) [] .leaf) s { cx with nrm := fun s => FX (g25_G n) n (nav g25_B [1, 1, 1, 1]) (.fin none none (some g25_m1e) [] .leaf) s cx }
theorem g25_5_fx (n : Nat) (cx : Cx β) (v3 : ByteArray) : g25_5F n (g25_m3 v3) cx = g25_5 n (fun v2 => cx.ret (g25_m1 v2)) v3 := by kernel_rfl
noncomputable def g25_6 (n : Nat) (kr : ByteArray → Option β) (x0 : List (Int × ByteArray)) : Option β := g25_1 n (fun v3 x6 v7 v8 => g25_4 n (fun v3 => g25_5 n kr v3) v3 x6 v7 v8) x0
noncomputable def g25_6F (n : Nat) (s : FState) (cx : Cx β) : Option β := g25_1F n s { cx with nrm := fun s => g25_4F n s { cx with nrm := fun s => g25_5F n s cx } }
theorem g25_6_fx (n : Nat) (cx : Cx β) (x0 : List (Int × ByteArray)) : g25_6F n (g25_m0 x0) cx = g25_6 n (fun v2 => cx.ret (g25_m1 v2)) x0 := by simp only [g25_6F, g25_6, g25_1_fx, g25_4_fx, g25_5_fx]
noncomputable def g25 (n : Nat) (x0 : List (Int × ByteArray)) : Option (DenR [.dat .str]) := g25_6 n (fun v2 => some (v2, ())) x0
noncomputable def g25_A : List AK := [.ro (.pair (.int .i64) .str) 28]
noncomputable def g25_R : List RK := [.dat .str]
noncomputable def g25_f (n : Nat) (d : DenA g25_A) : Option (DenR g25_R) := g25 n d.1
noncomputable def g25_S (n : Nat) : Spec := mkSpec g25_A g25_R (g25_f n)
noncomputable def g25_K : Sk := (.nd (.fin none none none [] .leaf) (.nd (.fin none none none [] .leaf) (.nd (.nd (.fin none (some g25_m2e) none [] .leaf) (.nd (.nd (.nd (.fin none none none [(0, g25_m3e)] .leaf) (.nd (.fin none none none [(0, g25_m3e)] .leaf) (.nd (.fin none none none [(0, g25_m3e)] .leaf) (.fin none (some g25_m2e) none [(0, g25_m3e)] .leaf)))) .leaf) .leaf)) (.nd (.fin none none (some g25_m1e) [] .leaf) (.fin none none (some g25_m1e) [] .leaf)))))
theorem g25_top (n : Nat) (s : FState) (cx : Cx β) : FX (g25_G n) n g25_B g25_K s cx = g25_6F n s cx := by kernel_rfl
theorem g25_fit (n : Nat) : Fit Try.prog 25 (g25_S n) :=
  fit_of (Γ := Γ0) (l := g25_C n) (n := n) (sk := g25_K) (ts := [(2, none)]) (fn := Try.f25) (c := g25_B) (by kernel_rfl) (by kernel_rfl) (by unfold Callable; kernel_rfl) tab_ok trivial follows_mixed (by kernel_rfl) (by kernel_rfl) (Nat.le_of_ble_eq_true (by kernel_rfl)) (by kernel_rfl) (by kernel_rfl)
    (fun d => (g25_top n _ _).trans (Eq.trans (b := g25_6F n (g25_m0 d.1) (finCx (g25_G n) g25_R [(2, none)])) (by kernel_rfl) ((g25_6_fx n _ d.1).trans (by kernel_rfl))))
noncomputable def g13_m0 (x0 x1 : List (Int × ByteArray)) : FState := ⟨tlist [(0, .sl 0 none false), (1, .sl 1 none false)], olist [(0, .row (.pair (.int .i64) .str) 28 false x0), (1, .row (.pair (.int .i64) .str) 28 false x1)]⟩
noncomputable def g13_m1 (v4 : Bool) : FState := ⟨tlist [(4, .dat .bool v4)], olist []⟩
noncomputable def g13_m1e : List NE := [.keep 4]
noncomputable def g13_C (n : Nat) : List (Nat × Spec) := [(24, g24_S n), (25, g25_S n)]
noncomputable def g13_G (n : Nat) : Ctx := { Γ0 with calls := lkS (g13_C n) }
noncomputable def g13_B : Code := fb Try.f13
noncomputable def g13_1 (n : Nat) (kr : Bool → Option β) (x0 x1 : List (Int × ByteArray)) : Option β := (g24 n x1).bind fun r1 => (g25 n x1).bind fun r2 => (g24 n x0).bind fun r3 => bif (strEq r3.1 r1.1) then ((g25 n x0).bind fun r4 => bif (strEq r4.1 r2.1) then (bif (decide ((x0.length : Int) > (0 : Int))) then (kr true) else (roomy (r1.1.size + r2.1.size) <| kr (strEq (r1.1 ++ r2.1) (⟨#[]⟩ : ByteArray)))) else (kr false)) else (kr false)
noncomputable def g13_1F (n : Nat) (s : FState) (cx : Cx β) : Option β := FX (g13_G n) n (nav g13_B [0]) (.fin none none (some g13_m1e) [] .leaf) s { cx with nrm := fun s => FX (g13_G n) n (nav g13_B [1, 0]) (.fin none none (some g13_m1e) [] .leaf) s { cx with nrm := fun s => FX (g13_G n) n (nav g13_B [1, 1, 0]) (.fin none none (some g13_m1e) [] .leaf) s { cx with nrm := fun s => FX (g13_G n) n (nav g13_B [1, 1, 1]) (.fin none none (some g13_m1e) [] .leaf) s cx } } }
theorem g13_1_fx (n : Nat) (cx : Cx β) (x0 x1 : List (Int × ByteArray)) : g13_1F n (g13_m0 x0 x1) cx = g13_1 n (fun v4 => cx.ret (g13_m1 v4)) x0 x1 := by kernel_rfl
noncomputable def g13 (n : Nat) (x0 x1 : List (Int × ByteArray)) : Option (DenR [.dat .bool]) := g13_1 n (fun v4 => some (v4, ())) x0 x1
noncomputable def g13_A : List AK := [.ro (.pair (.int .i64) .str) 28, .ro (.pair (.int .i64) .str) 28]
noncomputable def g13_R : List RK := [.dat .bool]
noncomputable def g13_f (n : Nat) (d : DenA g13_A) : Option (DenR g13_R) := g13 n d.1 d.2.1
noncomputable def g13_S (n : Nat) : Spec := mkSpec g13_A g13_R (g13_f n)
noncomputable def g13_K : Sk := (.nd (.fin none none (some g13_m1e) [] .leaf) (.nd (.fin none none (some g13_m1e) [] .leaf) (.nd (.fin none none (some g13_m1e) [] .leaf) (.fin none none (some g13_m1e) [] .leaf))))
theorem g13_top (n : Nat) (s : FState) (cx : Cx β) : FX (g13_G n) n g13_B g13_K s cx = g13_1F n s cx := by kernel_rfl
theorem g13_fit (n : Nat) : Fit Try.prog 13 (g13_S n) :=
  fit_of (Γ := Γ0) (l := g13_C n) (n := n) (sk := g13_K) (ts := [(4, none)]) (fn := Try.f13) (c := g13_B) (by kernel_rfl) (by kernel_rfl) (by unfold Callable; kernel_rfl) tab_ok ⟨g24_fit n, g25_fit n, trivial⟩ follows_mixed (by kernel_rfl) (by kernel_rfl) (Nat.le_of_ble_eq_true (by kernel_rfl)) (by kernel_rfl) (by kernel_rfl)
    (fun d => (g13_top n _ _).trans (Eq.trans (b := g13_1F n (g13_m0 d.1 d.2.1) (finCx (g13_G n) g13_R [(4, none)])) (by kernel_rfl) ((g13_1_fx n _ d.1 d.2.1).trans (by kernel_rfl))))
noncomputable def g8_m0 (x0 : List (Int × ByteArray)) : FState := ⟨tlist [(0, .sl 0 none false)], olist [(0, .row (.pair (.int .i64) .str) 28 false x0)]⟩
noncomputable def g8_m1 (v2 : Bool) : FState := ⟨tlist [(2, .dat .bool v2)], olist []⟩
noncomputable def g8_m1e : List NE := [.keep 2]
noncomputable def g8_C (n : Nat) : List (Nat × Spec) := [(9, g9_S n), (10, g10_S n), (11, g11_S n), (13, g13_S n), (14, g14_S n), (17, g17_S n), (18, g18_S n), (19, g19_S n)]
noncomputable def g8_G (n : Nat) : Ctx := { Γ0 with calls := lkS (g8_C n) }
noncomputable def g8_B : Code := fb Try.f8
noncomputable def g8_1 (n : Nat) (kr : Bool → Option β) (x0 : List (Int × ByteArray)) : Option β := (g9 n x0).bind fun r1 => bif (!r1.1) then (kr true) else ((g10 n x0 (12 : Int)).bind fun r2 => (g14 n r2.1).bind fun r3 => (g17 n r3.1).bind fun r4 => (g11 n r4.1).bind fun r5 => (g18 n r5.1).bind fun r6 => bif r6.1 then ((g19 n r5.1).bind fun r7 => bif r7.1 then ((g13 n r5.1 r4.1).bind fun r8 => kr r8.1) else (kr false)) else (kr false))
noncomputable def g8_1F (n : Nat) (s : FState) (cx : Cx β) : Option β := FX (g8_G n) n (nav g8_B [0]) (.fin none none (some g8_m1e) [] .leaf) s { cx with nrm := fun s => FX (g8_G n) n (nav g8_B [1, 0, 0]) (.fin none none (some g8_m1e) [] .leaf) s { cx with nrm := fun s => FX (g8_G n) n (nav g8_B [1, 0, 1]) (.fin none none (some g8_m1e) [] .leaf) s { cx with nrm := fun s => FX (g8_G n) n (nav g8_B [1, 1, 0]) (.fin none none (some g8_m1e) [] .leaf) s { cx with nrm := fun s => FX (g8_G n) n (nav g8_B [1, 1, 1, 0]) (.fin none none (some g8_m1e) [] .leaf) s { cx with nrm := fun s => FX (g8_G n) n (nav g8_B [1, 1, 1, 1, 0]) (.fin none none (some g8_m1e) [] .leaf) s { cx with nrm := fun s => FX (g8_G n) n (nav g8_B [1, 1, 1, 1, 1]) (.fin none none (some g8_m1e) [] .leaf) s cx } } } } } }
theorem g8_1_fx (n : Nat) (cx : Cx β) (x0 : List (Int × ByteArray)) : g8_1F n (g8_m0 x0) cx = g8_1 n (fun v2 => cx.ret (g8_m1 v2)) x0 := by kernel_rfl
noncomputable def g8 (n : Nat) (x0 : List (Int × ByteArray)) : Option (DenR [.dat .bool]) := g8_1 n (fun v2 => some (v2, ())) x0
noncomputable def g8_A : List AK := [.ro (.pair (.int .i64) .str) 28]
noncomputable def g8_R : List RK := [.dat .bool]
noncomputable def g8_f (n : Nat) (d : DenA g8_A) : Option (DenR g8_R) := g8 n d.1
noncomputable def g8_S (n : Nat) : Spec := mkSpec g8_A g8_R (g8_f n)
noncomputable def g8_K : Sk := (.nd (.fin none none (some g8_m1e) [] .leaf) (.nd (.nd (.fin none none (some g8_m1e) [] .leaf) (.fin none none (some g8_m1e) [] .leaf)) (.nd (.fin none none (some g8_m1e) [] .leaf) (.nd (.fin none none (some g8_m1e) [] .leaf) (.nd (.fin none none (some g8_m1e) [] .leaf) (.fin none none (some g8_m1e) [] .leaf))))))
theorem g8_top (n : Nat) (s : FState) (cx : Cx β) : FX (g8_G n) n g8_B g8_K s cx = g8_1F n s cx := by kernel_rfl
theorem g8_fit (n : Nat) : Fit Try.prog 8 (g8_S n) :=
  fit_of (Γ := Γ0) (l := g8_C n) (n := n) (sk := g8_K) (ts := [(2, none)]) (fn := Try.f8) (c := g8_B) (by kernel_rfl) (by kernel_rfl) (by unfold Callable; kernel_rfl) tab_ok ⟨g9_fit n, g10_fit n, g11_fit n, g13_fit n, g14_fit n, g17_fit n, g18_fit n, g19_fit n, trivial⟩ follows_mixed (by kernel_rfl) (by kernel_rfl) (Nat.le_of_ble_eq_true (by kernel_rfl)) (by kernel_rfl) (by kernel_rfl)
    (fun d => (g8_top n _ _).trans (Eq.trans (b := g8_1F n (g8_m0 d.1) (finCx (g8_G n) g8_R [(2, none)])) (by kernel_rfl) ((g8_1_fx n _ d.1).trans (by kernel_rfl))))
end Go.Proofs.YtfnjlgflbenfoaaYF
