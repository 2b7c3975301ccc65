import Derived.Test.YtfnjlgflbenfoaaDoorZFT
import Derived.Test.YtfnjlgflbenfoaaDoorZFE
namespace Go.Proofs.YtfnjlgflbenfoaaDoorZF
open Go Go.Proofs
set_option linter.unusedVariables false
set_option maxRecDepth 100000
variable {β : Type}
noncomputable def g32_m0 (v0 : ByteArray) : FState := ⟨tlist [(0, .dat .str v0)], olist []⟩
noncomputable def g32_m1 (x2 : List Int) : FState := ⟨tlist [(2, .sl 2 none false)], olist [(2, .row (.int .i32) 21 true x2)]⟩
noncomputable def g32_m1e : List NE := [.row 2 (.int .i32) 21 true]
noncomputable def g32_C (n : Nat) : List (Nat × Spec) := []
noncomputable def g32_G (n : Nat) : Ctx := { Γ0 with calls := lkS (g32_C n) }
noncomputable def g32_B : Code := fb Tryd.f32
noncomputable def g32_1 (n : Nat) (kr : List Int → Option β) (v0 : ByteArray) : Option β := room46 v0 <| kr (runesOf v0)
noncomputable def g32_1F (n : Nat) (s : FState) (cx : Cx β) : Option β := FX (g32_G n) n (nav g32_B [0]) (.fin none none (some g32_m1e) [] .leaf) s { cx with nrm := fun s => FX (g32_G n) n (nav g32_B [1, 0]) (.fin none none (some g32_m1e) [] .leaf) s { cx with nrm := fun s => FX (g32_G n) n (nav g32_B [1, 1]) (.fin none none (some g32_m1e) [] .leaf) s cx } }
theorem g32_1_fx (n : Nat) (cx : Cx β) (v0 : ByteArray) : g32_1F n (g32_m0 v0) cx = g32_1 n (fun x2 => cx.ret (g32_m1 x2)) v0 := by kernel_rfl
noncomputable def g32 (n : Nat) (v0 : ByteArray) : Option (DenR [.rw (.int .i32) 21]) := g32_1 n (fun x2 => some (x2, ())) v0
noncomputable def g32_A : List AK := [.dat .str]
noncomputable def g32_R : List RK := [.rw (.int .i32) 21]
noncomputable def g32_f (n : Nat) (d : DenA g32_A) : Option (DenR g32_R) := g32 n d.1
noncomputable def g32_S (n : Nat) : Spec := mkSpec g32_A g32_R (g32_f n)
noncomputable def g32_K : Sk := (.nd (.fin none none (some g32_m1e) [] .leaf) (.nd (.fin none none (some g32_m1e) [] .leaf) (.fin none none (some g32_m1e) [] .leaf)))
theorem g32_top (n : Nat) (s : FState) (cx : Cx β) : FX (g32_G n) n g32_B g32_K s cx = g32_1F n s cx := by kernel_rfl
theorem g32_fit (n : Nat) : Fit Tryd.prog 32 (g32_S n) :=
  fit_of (Γ := Γ0) (l := g32_C n) (n := n) (sk := g32_K) (ts := [(2, none)]) (fn := Tryd.f32) (c := g32_B) (by kernel_rfl) (by kernel_rfl) (by unfold Callable; kernel_rfl) tab_ok trivial follows_mixed (by kernel_rfl) (by kernel_rfl) (Nat.le_of_ble_eq_true (by kernel_rfl)) (Nat.le_of_ble_eq_true (by kernel_rfl)) (by kernel_rfl) (by kernel_rfl)
    (fun d => (g32_top n _ _).trans (Eq.trans (b := g32_1F n (g32_m0 d.1) (finCx (g32_G n) g32_R [(2, none)])) (by kernel_rfl) ((g32_1_fx n _ d.1).trans (by kernel_rfl))))
noncomputable def g15_m0 (v0 : ByteArray) (v1 : Int) : FState := ⟨tlist [(0, .dat .str v0), (1, .dat (.int .i64) v1)], olist []⟩
noncomputable def g15_m1 (v4 : ByteArray) : FState := ⟨tlist [(4, .dat .str v4)], olist []⟩
noncomputable def g15_m1e : List NE := [.keep 4]
noncomputable def g15_C (n : Nat) : List (Nat × Spec) := [(32, g32_S n)]
noncomputable def g15_G (n : Nat) : Ctx := { Γ0 with calls := lkS (g15_C n) }
noncomputable def g15_B : Code := fb Tryd.f15
noncomputable def g15_1 (n : Nat) (kr : ByteArray → Option β) (v0 : ByteArray) (v1 : Int) : Option β := (g32 n v0).bind fun r1 => bnd (0 : Int) (minI (r1.1.length : Int) v1) (r1.1.length : Int) <| kr (runesBytes (cut r1.1 (0 : Int) ((0 : Int) + ((minI (r1.1.length : Int) v1) - (0 : Int)))))
noncomputable def g15_1F (n : Nat) (s : FState) (cx : Cx β) : Option β := FX (g15_G n) n (nav g15_B [0]) (.fin none none (some g15_m1e) [] .leaf) s { cx with nrm := fun s => FX (g15_G n) n (nav g15_B [1, 0]) (.fin none none (some g15_m1e) [] .leaf) s { cx with nrm := fun s => FX (g15_G n) n (nav g15_B [1, 1, 0]) (.fin none none (some g15_m1e) [] .leaf) s { cx with nrm := fun s => FX (g15_G n) n (nav g15_B [1, 1, 1]) (.fin none none (some g15_m1e) [] .leaf) s cx } } }
theorem g15_1_fx (n : Nat) (cx : Cx β) (v0 : ByteArray) (v1 : Int) : g15_1F n (g15_m0 v0 v1) cx = g15_1 n (fun v4 => cx.ret (g15_m1 v4)) v0 v1 := by kernel_rfl
noncomputable def g15 (n : Nat) (v0 : ByteArray) (v1 : Int) : Option (DenR [.dat .str]) := g15_1 n (fun v4 => some (v4, ())) v0 v1
noncomputable def g15_A : List AK := [.dat .str, .dat (.int .i64)]
noncomputable def g15_R : List RK := [.dat .str]
noncomputable def g15_f (n : Nat) (d : DenA g15_A) : Option (DenR g15_R) := g15 n d.1 d.2.1
noncomputable def g15_S (n : Nat) : Spec := mkSpec g15_A g15_R (g15_f n)
noncomputable def g15_K : Sk := (.nd (.fin none none (some g15_m1e) [] .leaf) (.nd (.fin none none (some g15_m1e) [] .leaf) (.nd (.fin none none (some g15_m1e) [] .leaf) (.fin none none (some g15_m1e) [] .leaf))))
theorem g15_top (n : Nat) (s : FState) (cx : Cx β) : FX (g15_G n) n g15_B g15_K s cx = g15_1F n s cx := by kernel_rfl
theorem g15_fit (n : Nat) : Fit Tryd.prog 15 (g15_S n) :=
  fit_of (Γ := Γ0) (l := g15_C n) (n := n) (sk := g15_K) (ts := [(4, none)]) (fn := Tryd.f15) (c := g15_B) (by kernel_rfl) (by kernel_rfl) (by unfold Callable; kernel_rfl) tab_ok ⟨g32_fit n, trivial⟩ follows_mixed (by kernel_rfl) (by kernel_rfl) (Nat.le_of_ble_eq_true (by kernel_rfl)) (Nat.le_of_ble_eq_true (by kernel_rfl)) (by kernel_rfl) (by kernel_rfl)
    (fun d => (g15_top n _ _).trans (Eq.trans (b := g15_1F n (g15_m0 d.1 d.2.1) (finCx (g15_G n) g15_R [(4, none)])) (by kernel_rfl) ((g15_1_fx n _ d.1 d.2.1).trans (by kernel_rfl))))
noncomputable def g27_m0 : FState := ⟨tlist [], olist []⟩
noncomputable def g27_m1 (p0 : (Int × (Int × (Int × (Nat × (Int × (Int × Nat))))))) : FState := ⟨tlist [(0, .ptr 0 0 0)], olist [(0, .row (.pair (.int .i64) (.pair (.int .i64) (.pair (.int .i64) (.pair (.flt .f64) (.pair (.int .i64) (.pair (.int .i64) (.flt .f64))))))) 70 true [p0])]⟩
noncomputable def g27_m1e : List NE := [.ptr 0 (.pair (.int .i64) (.pair (.int .i64) (.pair (.int .i64) (.pair (.flt .f64) (.pair (.int .i64) (.pair (.int .i64) (.flt .f64))))))) 70 true]
noncomputable def g27_C (n : Nat) : List (Nat × Spec) := []
noncomputable def g27_G (n : Nat) : Ctx := { Γ0 with calls := lkS (g27_C n) }
noncomputable def g27_B : Code := fb Tryd.f27
noncomputable def g27_1 (n : Nat) (kr : (Int × (Int × (Int × (Nat × (Int × (Int × Nat)))))) → Option β) : Option β := kr ((1000000000 : Int), ((4 : Int), ((1000 : Int), ((4602678819172646912 : Nat), ((4 : Int), ((32 : Int), (4602678819172646912 : Nat)))))))
noncomputable def g27_1F (n : Nat) (s : FState) (cx : Cx β) : Option β := FX (g27_G n) n (nav g27_B [0]) (.fin none none (some g27_m1e) [] .leaf) s { cx with nrm := fun s => FX (g27_G n) n (nav g27_B [1, 0]) (.fin none none (some g27_m1e) [] .leaf) s { cx with nrm := fun s => FX (g27_G n) n (nav g27_B [1, 1]) (.fin none none (some g27_m1e) [] .leaf) s cx } }
theorem g27_1_fx (n : Nat) (cx : Cx β) : g27_1F n g27_m0 cx = g27_1 n (fun p0 => cx.ret (g27_m1 p0)) := by kernel_rfl
noncomputable def g27 (n : Nat) : Option (DenR [.ptr (.pair (.int .i64) (.pair (.int .i64) (.pair (.int .i64) (.pair (.flt .f64) (.pair (.int .i64) (.pair (.int .i64) (.flt .f64))))))) 70]) := g27_1 n (fun p0 => some (p0, ()))
noncomputable def g27_A : List AK := []
noncomputable def g27_R : List RK := [.ptr (.pair (.int .i64) (.pair (.int .i64) (.pair (.int .i64) (.pair (.flt .f64) (.pair (.int .i64) (.pair (.int .i64) (.flt .f64))))))) 70]
noncomputable def g27_f (n : Nat) (d : DenA g27_A) : Option (DenR g27_R) := g27 n
noncomputable def g27_S (n : Nat) : Spec := mkSpec g27_A g27_R (g27_f n)
noncomputable def g27_K : Sk := (.nd (.fin none none (some g27_m1e) [] .leaf) (.nd (.fin none none (some g27_m1e) [] .leaf) (.fin none none (some g27_m1e) [] .leaf)))
theorem g27_top (n : Nat) (s : FState) (cx : Cx β) : FX (g27_G n) n g27_B g27_K s cx = g27_1F n s cx := by kernel_rfl
theorem g27_fit (n : Nat) : Fit Tryd.prog 27 (g27_S n) :=
  fit_of (Γ := Γ0) (l := g27_C n) (n := n) (sk := g27_K) (ts := [(0, none)]) (fn := Tryd.f27) (c := g27_B) (by kernel_rfl) (by kernel_rfl) (by unfold Callable; kernel_rfl) tab_ok trivial follows_mixed (by kernel_rfl) (by kernel_rfl) (Nat.le_of_ble_eq_true (by kernel_rfl)) (Nat.le_of_ble_eq_true (by kernel_rfl)) (by kernel_rfl) (by kernel_rfl)
    (fun d => (g27_top n _ _).trans (Eq.trans (b := g27_1F n (g27_m0) (finCx (g27_G n) g27_R [(0, none)])) (by kernel_rfl) ((g27_1_fx n _).trans (by kernel_rfl))))
noncomputable def g56_m0 (v0 v1 : ByteArray) : FState := ⟨tlist [(0, .dat .str v0), (1, .dat .str v1)], olist []⟩
noncomputable def g56_m1 (v4 : Int) : FState := ⟨tlist [(4, .dat (.int .i64) v4)], olist []⟩
noncomputable def g56_m1e : List NE := [.keep 4]
noncomputable def g56_m2 (v0 v1 : ByteArray) (v5 : Int) : FState := ⟨tlist [(0, .dat .str v0), (1, .dat .str v1), (5, .dat (.int .i64) v5)], olist []⟩
noncomputable def g56_m2e : List NE := [.keep 0, .keep 1, .keep 5]
noncomputable def g56_m3 : FState := ⟨tlist [], olist []⟩
noncomputable def g56_m3e : List NE := []
noncomputable def g56_C (n : Nat) : List (Nat × Spec) := []
noncomputable def g56_G (n : Nat) : Ctx := { Γ0 with calls := lkS (g56_C n) }
noncomputable def g56_B : Code := fb Tryd.f56
noncomputable def g56_1 (n : Nat) (kn : ByteArray → ByteArray → Int → Option β) (v0 v1 : ByteArray) : Option β := kn v0 v1 (0 : Int)
noncomputable def g56_1F (n : Nat) (s : FState) (cx : Cx β) : Option β := FX (g56_G n) n (nav g56_B [0]) (.fin none none none [] .leaf) s { cx with nrm := fun s => FX (g56_G n) n (nav g56_B [1, 0, 0]) (.fin none (some g56_m2e) none [] .leaf) s cx }
theorem g56_1_fx (n : Nat) (cx : Cx β) (v0 v1 : ByteArray) : g56_1F n (g56_m0 v0 v1) cx = g56_1 n (fun v0 v1 v5 => cx.nrm (g56_m2 v0 v1 v5)) v0 v1 := by kernel_rfl
noncomputable def g56_2 (n : Nat) (kn : ByteArray → ByteArray → Int → Option β) (kr : Int → Option β) (kx0 : Option β) (v0 v1 : ByteArray) (v5 : Int) : Option β := bif (decide ((w64 (v5 + (v1.size : Int))) ≤ (v0.size : Int))) then (bnd v5 (w64 (v5 + (v1.size : Int))) (v0.size : Int) <| bif (strEq (cutS v0 v5 (w64 (v5 + (v1.size : Int)))) v1) then (kr v5) else (kn v0 v1 (w64 (v5 + (1 : Int))))) else kx0
noncomputable def g56_2F (n : Nat) (s : FState) (cx : Cx β) : Option β := FX (g56_G n) n (nav g56_B [1, 0, 1, 0, 0, 0, 0]) (.fin none none (some g56_m1e) [(0, g56_m3e)] .leaf) s { cx with nrm := fun s => FX (g56_G n) n (nav g56_B [1, 0, 1, 0, 0, 0, 1]) (.fin none none (some g56_m1e) [(0, g56_m3e)] .leaf) s { cx with nrm := fun s => FX (g56_G n) n (nav g56_B [1, 0, 1, 0, 0, 1, 0]) (.fin none none (some g56_m1e) [(0, g56_m3e)] .leaf) s { cx with nrm := fun s => FX (g56_G n) n (nav g56_B [1, 0, 1, 0, 0, 1, 1]) (.fin none (some g56_m2e) (some g56_m1e) [(0, g56_m3e)] .leaf) s cx } } }
theorem g56_2_fx (n : Nat) (cx : Cx β) (v0 v1 : ByteArray) (v5 : Int) : g56_2F n (g56_m2 v0 v1 v5) cx = g56_2 n (fun v0 v1 v5 => cx.nrm (g56_m2 v0 v1 v5)) (fun v4 => cx.ret (g56_m1 v4)) (cx.ex 0 g56_m3) v0 v1 v5 := by kernel_rfl
noncomputable def g56_3L (n : Nat) (kr : Int → Option β) (kx0 : Option β) : Nat → ByteArray → ByteArray → Int → Option β
  | 0, _, _, _ => none
  | m + 1, v0, v1, v5 => g56_2 n (g56_3L n kr kx0 m) kr kx0 v0 v1 v5
noncomputable def g56_3 (n : Nat) (kr : Int → Option β) (kx0 : Option β) (v0 v1 : ByteArray) (v5 : Int) : Option β := g56_3L n kr kx0 n v0 v1 v5
noncomputable def g56_3F (n : Nat) (s : FState) (cx : Cx β) : Option β := loopN (fun again s => g56_2F n s { cx with nrm := again }) n s
theorem g56_3L_fx (n : Nat) (cx : Cx β) : ∀ (m : Nat) (v0 v1 : ByteArray) (v5 : Int), loopN (fun again s => g56_2F n s { cx with nrm := again }) m (g56_m2 v0 v1 v5) = g56_3L n (fun v4 => cx.ret (g56_m1 v4)) (cx.ex 0 g56_m3) m v0 v1 v5 := by
  intro m
  induction m with
  | zero => intros; rfl
  | succ m ih => intros; simp only [loopN, g56_3L, g56_2_fx, ih]
theorem g56_3_fx (n : Nat) (cx : Cx β) (v0 v1 : ByteArray) (v5 : Int) : g56_3F n (g56_m2 v0 v1 v5) cx = g56_3 n (fun v4 => cx.ret (g56_m1 v4)) (cx.ex 0 g56_m3) v0 v1 v5 := g56_3L_fx n cx n v0 v1 v5
noncomputable def g56_4 (n : Nat) (kn : Option β) (kr : Int → Option β) (v0 v1 : ByteArray) (v5 : Int) : Option β := g56_3 n kr kn v0 v1 v5
noncomputable def g56_4F (n : Nat) (s : FState) (cx : Cx β) : Option β := g56_3F n s { cx with ex := fun j s => bif Nat.beq j 0 then cx.nrm s else cx.ex j s }
theorem g56_4_fx (n : Nat) (cx : Cx β) (v0 v1 : ByteArray) (v5 : Int) : g56_4F n (g56_m2 v0 v1 v5) cx = g56_4 n (cx.nrm g56_m3) (fun v4 => cx.ret (g56_m1 v4)) v0 v1 v5 := g56_3_fx n _ v0 v1 v5
noncomputable def g56_5 (n : Nat) (kr : Int → Option β) : Option β := kr (-1 : Int)
noncomputable def g56_5F (n : Nat) (s : FState) (cx : Cx β) : Option β := FX (g56_G n) n (nav g56_B [1, 1, 0]) (.fin none none (some g56_m1e) [] .leaf) s { cx with nrm := fun s => FX (g56_G n) n (nav g56_B [1, 1, 1]) (.fin none none (some g56_m1e) [] .leaf) s cx }
theorem g56_5_fx (n : Nat) (cx : Cx β) : g56_5F n g56_m3 cx = g56_5 n (fun v4 => cx.ret (g56_m1 v4)) := by kernel_rfl
noncomputable def g56_6 (n : Nat) (kr : Int → Option β) (v0 v1 : ByteArray) : Option β := g56_1 n (fun v0 v1 v5 => g56_4 n (g56_5 n kr) kr v0 v1 v5) v0 v1
noncomputable def g56_6F (n : Nat) (s : FState) (cx : Cx β) : Option β := g56_1F n s { cx with nrm := fun s => g56_4F n s { cx with nrm := fun s => g56_5F n s cx } }
theorem g56_6_fx (n : Nat) (cx : Cx β) (v0 v1 : ByteArray) : g56_6F n (g56_m0 v0 v1) cx = g56_6 n (fun v4 => cx.ret (g56_m1 v4)) v0 v1 := by simp only [g56_6F, g56_6, g56_1_fx, g56_4_fx, g56_5_fx]
noncomputable def g56 (n : Nat) (v0 v1 : ByteArray) : Option (DenR [.dat (.int .i64)]) := g56_6 n (fun v4 => some (v4, ())) v0 v1
noncomputable def g56_A : List AK := [.dat .str, .dat .str]
noncomputable def g56_R : List RK := [.dat (.int .i64)]
noncomputable def g56_f (n : Nat) (d : DenA g56_A) : Option (DenR g56_R) := g56 n d.1 d.2.1
noncomputable def g56_S (n : Nat) : Spec := mkSpec g56_A g56_R (g56_f n)
noncomputable def g56_K : Sk := (.nd (.fin none none none [] .leaf) (.nd (.nd (.fin none (some g56_m2e) none [] .leaf) (.nd (.nd (.nd (.nd (.fin none none (some g56_m1e) [(0, g56_m3e)] .leaf) (.fin none none (some g56_m1e) [(0, g56_m3e)] .leaf)) (.nd (.fin none none (some g56_m1e) [(0, g56_m3e)] .leaf) (.fin none (some g56_m2e) (some g56_m1e) [(0, g56_m3e)] .leaf))) .leaf) .leaf)) (.nd (.fin none none (some g56_m1e) [] .leaf) (.fin none none (some g56_m1e) [] .leaf))))
theorem g56_top (n : Nat) (s : FState) (cx : Cx β) : FX (g56_G n) n g56_B g56_K s cx = g56_6F n s cx := by kernel_rfl
theorem g56_fit (n : Nat) : Fit Tryd.prog 56 (g56_S n) :=
  fit_of (Γ := Γ0) (l := g56_C n) (n := n) (sk := g56_K) (ts := [(4, none)]) (fn := Tryd.f56) (c := g56_B) (by kernel_rfl) (by kernel_rfl) (by unfold Callable; kernel_rfl) tab_ok trivial follows_mixed (by kernel_rfl) (by kernel_rfl) (Nat.le_of_ble_eq_true (by kernel_rfl)) (Nat.le_of_ble_eq_true (by kernel_rfl)) (by kernel_rfl) (by kernel_rfl)
    (fun d => (g56_top n _ _).trans (Eq.trans (b := g56_6F n (g56_m0 d.1 d.2.1) (finCx (g56_G n) g56_R [(4, none)])) (by kernel_rfl) ((g56_6_fx n _ d.1 d.2.1).trans (by kernel_rfl))))
noncomputable def g71_m0 (v0 v1 : ByteArray) (v2 : Int) : FState := ⟨tlist [(0, .dat .str v0), (1, .dat .str v1), (2, .dat (.int .i64) v2)], olist []⟩
noncomputable def g71_m1 (v6 : Int) : FState := ⟨tlist [(6, .dat (.int .i64) v6)], olist []⟩
noncomputable def g71_m1e : List NE := [.keep 6]
noncomputable def g71_C (n : Nat) : List (Nat × Spec) := [(56, g56_S n)]
noncomputable def g71_G (n : Nat) : Ctx := { Γ0 with calls := lkS (g71_C n) }
noncomputable def g71_B : Code := fb Tryd.f71
noncomputable def g71_1 (n : Nat) (kr : Int → Option β) (v0 v1 : ByteArray) (v2 : Int) : Option β := bif (decide (v2 > (w64 ((v0.size : Int) - (1 : Int))))) then (kr (-1 : Int)) else (bif (decide (v2 ≤ (0 : Int))) then ((g56 n v0 v1).bind fun r1 => kr r1.1) else (bnd v2 (v0.size : Int) (v0.size : Int) <| (g56 n (cutS v0 v2 (v0.size : Int)) v1).bind fun r2 => bif (r2.1 == (-1 : Int)) then (kr (-1 : Int)) else (kr (w64 (r2.1 + v2)))))
noncomputable def g71_1F (n : Nat) (s : FState) (cx : Cx β) : Option β := FX (g71_G n) n (nav g71_B [0]) (.fin none none (some g71_m1e) [] .leaf) s { cx with nrm := fun s => FX (g71_G n) n (nav g71_B [1, 0, 0]) (.fin none none (some g71_m1e) [] .leaf) s { cx with nrm := fun s => FX (g71_G n) n (nav g71_B [1, 0, 1]) (.fin none none (some g71_m1e) [] .leaf) s { cx with nrm := fun s => FX (g71_G n) n (nav g71_B [1, 1, 0, 0]) (.fin none none (some g71_m1e) [] .leaf) s { cx with nrm := fun s => FX (g71_G n) n (nav g71_B [1, 1, 0, 1]) (.fin none none (some g71_m1e) [] .leaf) s { cx with nrm := fun s => FX (g71_G n) n (nav g71_B [1, 1, 1, 0]) (.fin none none (some g71_m1e) [] .leaf) s { cx with nrm := fun s => FX (g71_G n) n (nav g71_B [1, 1, 1, 1, 0, 0]) (.fin none none (some g71_m1e) [] .leaf) s { cx with nrm := fun s => FX (g71_G n) n (nav g71_B [1, 1, 1, 1, 0, 1]) (.fin none none (some g71_m1e) [] .leaf) s { cx with nrm := fun s => FX (g71_G n) n (nav g71_B [1, 1, 1, 1, 1, 0]) (.fin none none (some g71_m1e) [] .leaf) s { cx with nrm := fun s => FX (g71_G n) n (nav g71_B [1, 1, 1, 1, 1, 1]) (.fin none none (some g71_m1e) [] .leaf) s cx } } } } } } } } }
theorem g71_1_fx (n : Nat) (cx : Cx β) (v0 v1 : ByteArray) (v2 : Int) : g71_1F n (g71_m0 v0 v1 v2) cx = g71_1 n (fun v6 => cx.ret (g71_m1 v6)) v0 v1 v2 := by kernel_rfl
noncomputable def g71 (n : Nat) (v0 v1 : ByteArray) (v2 : Int) : Option (DenR [.dat (.int .i64)]) := g71_1 n (fun v6 => some (v6, ())) v0 v1 v2
noncomputable def g71_A : List AK := [.dat .str, .dat .str, .dat (.int .i64)]
noncomputable def g71_R : List RK := [.dat (.int .i64)]
noncomputable def g71_f (n : Nat) (d : DenA g71_A) : Option (DenR g71_R) := g71 n d.1 d.2.1 d.2.2.1
noncomputable def g71_S (n : Nat) : Spec := mkSpec g71_A g71_R (g71_f n)
noncomputable def g71_K : Sk := (.nd (.fin none none (some g71_m1e) [] .leaf) (.nd (.nd (.fin none none (some g71_m1e) [] .leaf) (.fin none none (some g71_m1e) [] .leaf)) (.nd (.nd (.fin none none (some g71_m1e) [] .leaf) (.fin none none (some g71_m1e) [] .leaf)) (.nd (.fin none none (some g71_m1e) [] .leaf) (.nd (.nd (.fin none none (some g71_m1e) [] .leaf) (.fin none none (some g71_m1e) [] .leaf)) (.nd (.fin none none (some g71_m1e) [] .leaf) (.fin none none (some g71_m1e) [] .leaf)))))))
theorem g71_top (n : Nat) (s : FState) (cx : Cx β) : FX (g71_G n) n g71_B g71_K s cx = g71_1F n s cx := by kernel_rfl
theorem g71_fit (n : Nat) : Fit Tryd.prog 71 (g71_S n) :=
  fit_of (Γ := Γ0) (l := g71_C n) (n := n) (sk := g71_K) (ts := [(6, none)]) (fn := Tryd.f71) (c := g71_B) (by kernel_rfl) (by kernel_rfl) (by unfold Callable; kernel_rfl) tab_ok ⟨g56_fit n, trivial⟩ follows_mixed (by kernel_rfl) (by kernel_rfl) (Nat.le_of_ble_eq_true (by kernel_rfl)) (Nat.le_of_ble_eq_true (by kernel_rfl)) (by kernel_rfl) (by kernel_rfl)
    (fun d => (g71_top n _ _).trans (Eq.trans (b := g71_1F n (g71_m0 d.1 d.2.1 d.2.2.1) (finCx (g71_G n) g71_R [(6, none)])) (by kernel_rfl) ((g71_1_fx n _ d.1 d.2.1 d.2.2.1).trans (by kernel_rfl))))
noncomputable def g60_m0 (p0 : (Int × (Int × (Int × (Nat × (Int × (Int × Nat))))))) (v1 : ByteArray) (x1000002 : List ByteArray) (m3 : List (ByteArray × Int)) : FState := ⟨tlist [(0, .ptr 0 0 0), (1, .dat .str v1), (2, .cp 2 0), (1000002, .sl 1000002 none false), (3, .mp 3)], olist [(0, .row (.pair (.int .i64) (.pair (.int .i64) (.pair (.int .i64) (.pair (.flt .f64) (.pair (.int .i64) (.pair (.int .i64) (.flt .f64))))))) 70 false [p0]), (2, .cell (.sl 9 .str) 33), (1000002, .row .str 9 true x1000002), (3, .mapo .str (.int .i64) m3)]⟩
noncomputable def g60_m0e : List NE := [.ptr 0 (.pair (.int .i64) (.pair (.int .i64) (.pair (.int .i64) (.pair (.flt .f64) (.pair (.int .i64) (.pair (.int .i64) (.flt .f64))))))) 70 false, .keep 1, .cell 2 (.sl 9 .str) 33, .row 1000002 .str 9 true, .mp 3 .str (.int .i64)]
noncomputable def g60_m1 (x1000002 : List ByteArray) (m3 : List (ByteArray × Int)) (x8 : List Int) : FState := ⟨tlist [(2, .cp 2 0), (1000002, .sl 1000002 none false), (3, .mp 3), (8, .sl 8 none false)], olist [(2, .cell (.sl 9 .str) 33), (1000002, .row .str 9 true x1000002), (3, .mapo .str (.int .i64) m3), (8, .row (.int .u32) 105 true x8)]⟩
noncomputable def g60_m1e : List NE := [.cell 2 (.sl 9 .str) 33, .row 1000002 .str 9 true, .mp 3 .str (.int .i64), .row 8 (.int .u32) 105 true]
noncomputable def g60_m2 (v1 : ByteArray) (x1000002 : List ByteArray) (m3 : List (ByteArray × Int)) (v9 v10 : Int) (x11 : List Int) : FState := ⟨tlist [(1, .dat .str v1), (2, .cp 2 0), (1000002, .sl 1000002 none false), (3, .mp 3), (9, .dat (.int .i64) v9), (10, .dat (.int .i64) v10), (11, .sl 11 none false)], olist [(2, .cell (.sl 9 .str) 33), (1000002, .row .str 9 true x1000002), (3, .mapo .str (.int .i64) m3), (11, .row (.int .u32) 105 true x11)]⟩
noncomputable def g60_m2e : List NE := [.keep 1, .cell 2 (.sl 9 .str) 33, .row 1000002 .str 9 true, .mp 3 .str (.int .i64), .keep 9, .keep 10, .row 11 (.int .u32) 105 true]
noncomputable def g60_m3 (x1000002 : List ByteArray) (m3 : List (ByteArray × Int)) (x11 : List Int) : FState := ⟨tlist [(2, .cp 2 0), (1000002, .sl 1000002 none false), (3, .mp 3), (11, .sl 11 none false)], olist [(2, .cell (.sl 9 .str) 33), (1000002, .row .str 9 true x1000002), (3, .mapo .str (.int .i64) m3), (11, .row (.int .u32) 105 true x11)]⟩
noncomputable def g60_m3e : List NE := [.cell 2 (.sl 9 .str) 33, .row 1000002 .str 9 true, .mp 3 .str (.int .i64), .row 11 (.int .u32) 105 true]
noncomputable def g60_C (n : Nat) : List (Nat × Spec) := [(71, g71_S n)]
noncomputable def g60_G (n : Nat) : Ctx := { Γ0 with calls := lkS (g60_C n) }
noncomputable def g60_B : Code := fb Tryd.f60
noncomputable def g60_1 (n : Nat) (kn : ByteArray → List ByteArray → List (ByteArray × Int) → Int → Int → List Int → Option β) (p0 : (Int × (Int × (Int × (Nat × (Int × (Int × Nat))))))) (v1 : ByteArray) (x1000002 : List ByteArray) (m3 : List (ByteArray × Int)) : Option β := kn v1 x1000002 m3 (0 : Int) (-1 : Int) ([] : List Int)
noncomputable def g60_1F (n : Nat) (s : FState) (cx : Cx β) : Option β := FX (g60_G n) n (nav g60_B [0]) (.fin none none none [] .leaf) s { cx with nrm := fun s => FX (g60_G n) n (nav g60_B [1, 0]) (.fin none none none [] .leaf) s { cx with nrm := fun s => FX (g60_G n) n (nav g60_B [1, 1, 0]) (.fin none none none [] .leaf) s { cx with nrm := fun s => FX (g60_G n) n (nav g60_B [1, 1, 1, 0]) (.fin none (some g60_m2e) none [] .leaf) s cx } } }
theorem g60_1_fx (n : Nat) (cx : Cx β) (p0 : (Int × (Int × (Int × (Nat × (Int × (Int × Nat))))))) (v1 : ByteArray) (x1000002 : List ByteArray) (m3 : List (ByteArray × Int)) : g60_1F n (g60_m0 p0 v1 x1000002 m3) cx = g60_1 n (fun v1 x1000002 m3 v9 v10 x11 => cx.nrm (g60_m2 v1 x1000002 m3 v9 v10 x11)) p0 v1 x1000002 m3 := by kernel_rfl
noncomputable def g60_2 (n : Nat) (kn : ByteArray → List ByteArray → List (ByteArray × Int) → Int → Int → List Int → Option β) (kx0 : List ByteArray → List (ByteArray × Int) → List Int → Option β) (v1 : ByteArray) (x1000002 : List ByteArray) (m3 : List (ByteArray × Int)) (v9 v10 : Int) (x11 : List Int) : Option β := bif (decide (v10 < (w64 ((v1.size : Int) - (1 : Int))))) then ((g71 n v1 (⟨#[10]⟩ : ByteArray) v9).bind fun r1 => bif (r1.1 == (-1 : Int)) then (bnd v9 (w64 ((w64 ((v1.size : Int) - (1 : Int))) + (1 : Int))) (v1.size : Int) <| bif (findM (a := .str) (b := (.int .i64)) (cutS v1 v9 (w64 ((w64 ((v1.size : Int) - (1 : Int))) + (1 : Int)))) m3).isSome then (roomy (x11.length + [(IntKind.u32.wrap (((findM (a := .str) (b := (.int .i64)) (cutS v1 v9 (w64 ((w64 ((v1.size : Int) - (1 : Int))) + (1 : Int)))) m3).getD (0 : Int))))].length) <| kn v1 x1000002 m3 (w64 ((w64 ((v1.size : Int) - (1 : Int))) + (1 : Int))) (w64 ((v1.size : Int) - (1 : Int))) (x11 ++ [(IntKind.u32.wrap (((findM (a := .str) (b := (.int .i64)) (cutS v1 v9 (w64 ((w64 ((v1.size : Int) - (1 : Int))) + (1 : Int)))) m3).getD (0 : Int))))])) else (roomy (x1000002.length + [(cutS v1 v9 (w64 ((w64 ((v1.size : Int) - (1 : Int))) + (1 : Int))))].length) <| roomy (x11.length + [(IntKind.u32.wrap ((w64 (((x1000002 ++ [(cutS v1 v9 (w64 ((w64 ((v1.size : Int) - (1 : Int))) + (1 : Int))))]).length : Int) - (1 : Int)))))].length) <| kn v1 (x1000002 ++ [(cutS v1 v9 (w64 ((w64 ((v1.size : Int) - (1 : Int))) + (1 : Int))))]) (putM (a := .str) (b := (.int .i64)) (cutS v1 v9 (w64 ((w64 ((v1.size : Int) - (1 : Int))) + (1 : Int)))) (w64 (((x1000002 ++ [(cutS v1 v9 (w64 ((w64 ((v1.size : Int) - (1 : Int))) + (1 : Int))))]).length : Int) - (1 : Int))) m3) (w64 ((w64 ((v1.size : Int) - (1 : Int))) + (1 : Int))) (w64 ((v1.size : Int) - (1 : Int))) (x11 ++ [(IntKind.u32.wrap ((w64 (((x1000002 ++ [(cutS v1 v9 (w64 ((w64 ((v1.size : Int) - (1 : Int))) + (1 : Int))))]).length : Int) - (1 : Int)))))]))) else (bnd v9 (w64 (r1.1 + (1 : Int))) (v1.size : Int) <| bif (findM (a := .str) (b := (.int .i64)) (cutS v1 v9 (w64 (r1.1 + (1 : Int)))) m3).isSome then (roomy (x11.length + [(IntKind.u32.wrap (((findM (a := .str) (b := (.int .i64)) (cutS v1 v9 (w64 (r1.1 + (1 : Int)))) m3).getD (0 : Int))))].length) <| kn v1 x1000002 m3 (w64 (r1.1 + (1 : Int))) r1.1 (x11 ++ [(IntKind.u32.wrap (((findM (a := .str) (b := (.int .i64)) (cutS v1 v9 (w64 (r1.1 + (1 : Int)))) m3).getD (0 : Int))))])) else (roomy (x1000002.length + [(cutS v1 v9 (w64 (r1.1 + (1 : Int))))].length) <| roomy (x11.length + [(IntKind.u32.wrap ((w64 (((x1000002 ++ [(cutS v1 v9 (w64 (r1.1 + (1 : Int))))]).length : Int) - (1 : Int)))))].length) <| kn v1 (x1000002 ++ [(cutS v1 v9 (w64 (r1.1 + (1 : Int))))]) (putM (a := .str) (b := (.int .i64)) (cutS v1 v9 (w64 (r1.1 + (1 : Int)))) (w64 (((x1000002 ++ [(cutS v1 v9 (w64 (r1.1 + (1 : Int))))]).length : Int) - (1 : Int))) m3) (w64 (r1.1 + (1 : Int))) r1.1 (x11 ++ [(IntKind.u32.wrap ((w64 (((x1000002 ++ [(cutS v1 v9 (w64 (r1.1 + (1 : Int))))]).length : Int) - (1 : Int)))))])))) else (kx0 x1000002 m3 x11)
noncomputable def g60_2F (n : Nat) (s : FState) (cx : Cx β) : Option β := FX (g60_G n) n (nav g60_B [1, 1, 1, 1, 0, 0, 0, 0, 0]) (.fin none none none [(0, g60_m3e)] .leaf) s { cx with nrm := fun s => FX (g60_G n) n (nav g60_B [1, 1, 1, 1, 0, 0, 0, 0, 1]) (.fin none none none [(0, g60_m3e)] .leaf) s { cx with nrm := fun s => FX (g60_G n) n (nav g60_B [1, 1, 1, 1, 0, 0, 0, 1]) (.fin none (some g60_m2e) none [(0, g60_m3e)] .leaf) s cx } }
theorem g60_2_fx (n : Nat) (cx : Cx β) (v1 : ByteArray) (x1000002 : List ByteArray) (m3 : List (ByteArray × Int)) (v9 v10 : Int) (x11 : List Int) : g60_2F n (g60_m2 v1 x1000002 m3 v9 v10 x11) cx = g60_2 n (fun v1 x1000002 m3 v9 v10 x11 => cx.nrm (g60_m2 v1 x1000002 m3 v9 v10 x11)) (fun x1000002 m3 x11 => cx.ex 0 (g60_m3 x1000002 m3 x11)) v1 x1000002 m3 v9 v10 x11 := by kernel_rfl
noncomputable def g60_3L (n : Nat) (kx0 : List ByteArray → List (ByteArray × Int) → List Int → Option β) : Nat → ByteArray → List ByteArray → List (ByteArray × Int) → Int → Int → List Int → Option β
  | 0, _, _, _, _, _, _ => none
  | m + 1, v1, x1000002, m3, v9, v10, x11 => g60_2 n (g60_3L n kx0 m) kx0 v1 x1000002 m3 v9 v10 x11
noncomputable def g60_3 (n : Nat) (kx0 : List ByteArray → List (ByteArray × Int) → List Int → Option β) (v1 : ByteArray) (x1000002 : List ByteArray) (m3 : List (ByteArray × Int)) (v9 v10 : Int) (x11 : List Int) : Option β := g60_3L n kx0 n v1 x1000002 m3 v9 v10 x11
noncomputable def g60_3F (n : Nat) (s : FState) (cx : Cx β) : Option β := loopN (fun again s => g60_2F n s { cx with nrm := again }) n s
theorem g60_3L_fx (n : Nat) (cx : Cx β) : ∀ (m : Nat) (v1 : ByteArray) (x1000002 : List ByteArray) (m3 : List (ByteArray × Int)) (v9 v10 : Int) (x11 : List Int), loopN (fun again s => g60_2F n s { cx with nrm := again }) m (g60_m2 v1 x1000002 m3 v9 v10 x11) = g60_3L n (fun x1000002 m3 x11 => cx.ex 0 (g60_m3 x1000002 m3 x11)) m v1 x1000002 m3 v9 v10 x11 := by
  intro m
  induction m with
  | zero => intros; rfl
  | succ m ih => intros; simp only [loopN, g60_3L, g60_2_fx, ih]
theorem g60_3_fx (n : Nat) (cx : Cx β) (v1 : ByteArray) (x1000002 : List ByteArray) (m3 : List (ByteArray × Int)) (v9 v10 : Int) (x11 : List Int) : g60_3F n (g60_m2 v1 x1000002 m3 v9 v10 x11) cx = g60_3 n (fun x1000002 m3 x11 => cx.ex 0 (g60_m3 x1000002 m3 x11)) v1 x1000002 m3 v9 v10 x11 := g60_3L_fx n cx n v1 x1000002 m3 v9 v10 x11
noncomputable def g60_4 (n : Nat) (kn : List ByteArray → List (ByteArray × Int) → List Int → Option β) (v1 : ByteArray) (x1000002 : List ByteArray) (m3 : List (ByteArray × Int)) (v9 v10 : Int) (x11 : List Int) : Option β := g60_3 n kn v1 x1000002 m3 v9 v10 x11
noncomputable def g60_4F (n : Nat) (s : FState) (cx : Cx β) : Option β := g60_3F n s { cx with ex := fun j s => bif Nat.beq j 0 then cx.nrm s else cx.ex j s }
theorem g60_4_fx (n : Nat) (cx : Cx β) (v1 : ByteArray) (x1000002 : List ByteArray) (m3 : List (ByteArray × Int)) (v9 v10 : Int) (x11 : List Int) : g60_4F n (g60_m2 v1 x1000002 m3 v9 v10 x11) cx = g60_4 n (fun x1000002 m3 x11 => cx.nrm (g60_m3 x1000002 m3 x11)) v1 x1000002 m3 v9 v10 x11 := g60_3_fx n _ v1 x1000002 m3 v9 v10 x11
noncomputable def g60_5 (n : Nat) (kr : List ByteArray → List (ByteArray × Int) → List Int → Option β) (x1000002 : List ByteArray) (m3 : List (ByteArray × Int)) (x11 : List Int) : Option β := kr x1000002 m3 x11
noncomputable def g60_5F (n : Nat) (s : FState) (cx : Cx β) : Option β := FX (g60_G n) n (nav g60_B [1, 1, 1, 1, 1, 0]) (.fin none none (some g60_m1e) [] .leaf) s { cx with nrm := fun s => FX (g60_G n) n (nav g60_B [1, 1, 1, 1, 1, 1]) (.fin none none (some g60_m1e) [] .leaf) s cx }
theorem g60_5_fx (n : Nat) (cx : Cx β) (x1000002 : List ByteArray) (m3 : List (ByteArray × Int)) (x11 : List Int) : g60_5F n (g60_m3 x1000002 m3 x11) cx = g60_5 n (fun x1000002 m3 x8 => cx.ret (g60_m1 x1000002 m3 x8)) x1000002 m3 x11 := by kernel_rfl
noncomputable def g60_6 (n : Nat) (kr : List ByteArray → List (ByteArray × Int) → List Int → Option β) (p0 : (Int × (Int × (Int × (Nat × (Int × (Int × Nat))))))) (v1 : ByteArray) (x1000002 : List ByteArray) (m3 : List (ByteArray × Int)) : Option β := g60_1 n (fun v1 x1000002 m3 v9 v10 x11 => g60_4 n (fun x1000002 m3 x11 => g60_5 n kr x1000002 m3 x11) v1 x1000002 m3 v9 v10 x11) p0 v1 x1000002 m3
noncomputable def g60_6F (n : Nat) (s : FState) (cx : Cx β) : Option β := g60_1F n s { cx with nrm := fun s => g60_4F n s { cx with nrm := fun s => g60_5F n s cx } }
theorem g60_6_fx (n : Nat) (cx : Cx β) (p0 : (Int × (Int × (Int × (Nat × (Int × (Int × Nat))))))) (v1 : ByteArray) (x1000002 : List ByteArray) (m3 : List (ByteArray × Int)) : g60_6F n (g60_m0 p0 v1 x1000002 m3) cx = g60_6 n (fun x1000002 m3 x8 => cx.ret (g60_m1 x1000002 m3 x8)) p0 v1 x1000002 m3 := by simp only [g60_6F, g60_6, g60_1_fx, g60_4_fx, g60_5_fx]
noncomputable def g60 (n : Nat) (p0 : (Int × (Int × (Int × (Nat × (Int × (Int × Nat))))))) (v1 : ByteArray) (x1000002 : List ByteArray) (m3 : List (ByteArray × Int)) : Option (DenR [.rw (.int .u32) 105] × DenR (backsOf [.pro (.pair (.int .i64) (.pair (.int .i64) (.pair (.int .i64) (.pair (.flt .f64) (.pair (.int .i64) (.pair (.int .i64) (.flt .f64))))))) 70, .dat .str, .cel (.sl 9 .str) 33, .mp .str (.int .i64)])) := g60_6 n (fun x1000002 m3 x8 => some ((x8, ()), (x1000002, (m3, ())))) p0 v1 x1000002 m3
noncomputable def g60_A : List AK := [.pro (.pair (.int .i64) (.pair (.int .i64) (.pair (.int .i64) (.pair (.flt .f64) (.pair (.int .i64) (.pair (.int .i64) (.flt .f64))))))) 70, .dat .str, .cel (.sl 9 .str) 33, .mp .str (.int .i64)]
noncomputable def g60_R : List RK := [.rw (.int .u32) 105]
noncomputable def g60_f (n : Nat) (d : DenA g60_A) : Option (DenR g60_R × DenR (backsOf g60_A)) := g60 n d.1 d.2.1 d.2.2.1 d.2.2.2.1
noncomputable def g60_S (n : Nat) : Spec := mkSpecB g60_A g60_R (g60_f n)
noncomputable def g60_K : Sk := (.nd (.fin none none none [] .leaf) (.nd (.fin none none none [] .leaf) (.nd (.fin none none none [] .leaf) (.nd (.fin none (some g60_m2e) none [] .leaf) (.nd (.nd (.nd (.nd (.nd (.fin none none none [(0, g60_m3e)] .leaf) (.fin none none none [(0, g60_m3e)] .leaf)) (.fin none (some g60_m2e) none [(0, g60_m3e)] .leaf)) .leaf) .leaf) (.nd (.fin none none (some g60_m1e) [] .leaf) (.fin none none (some g60_m1e) [] .leaf)))))))
theorem g60_top (n : Nat) (s : FState) (cx : Cx β) : FX (g60_G n) n g60_B g60_K s cx = g60_6F n s cx := by kernel_rfl
theorem g60_ini (n : Nat) (d : DenA g60_A) (β : Type) (κ : FState → Option β) : putBacks 0 0 (backsOf g60_A) (ioPos g60_A 0) (toB g60_A d) (initS g60_A d) (fun s => normK (g60_G n) g60_m0e (setIo g60_A 0 s) κ) = κ (g60_m0 d.1 d.2.1 d.2.2.1 d.2.2.2.1) := by kernel_rfl
theorem g60_fit (n : Nat) : Fit Tryd.prog 60 (g60_S n) :=
  fit_ofB (Γ := Γ0) (l := g60_C n) (n := n) (sk := g60_K) (nf := g60_m0e) (m := fun d => g60_m0 d.1 d.2.1 d.2.2.1 d.2.2.2.1) (ts := [(8, none)]) (fn := Tryd.f60) (c := g60_B) (by kernel_rfl) (by kernel_rfl) (by unfold Callable; kernel_rfl) tab_ok ⟨g71_fit n, trivial⟩ follows_mixed (by kernel_rfl) (by kernel_rfl) (Nat.le_of_ble_eq_true (by kernel_rfl)) (Nat.le_of_ble_eq_true (by kernel_rfl)) (by kernel_rfl) (by kernel_rfl) (g60_ini n)
    (fun d => (g60_top n _ _).trans (Eq.trans (b := g60_6F n (g60_m0 d.1 d.2.1 d.2.2.1 d.2.2.2.1) (finCxB (g60_G n) g60_A g60_R [(8, none)])) (by kernel_rfl) ((g60_6_fx n _ d.1 d.2.1 d.2.2.1 d.2.2.2.1).trans (by kernel_rfl))))
noncomputable def g87_m0 (v0 v1 v2 : Int) : FState := ⟨tlist [(0, .dat (.int .u32) v0), (1, .dat (.int .u8) v1), (2, .dat (.int .u8) v2)], olist []⟩
noncomputable def g87_m1 (v6 : Int) : FState := ⟨tlist [(6, .dat (.int .u8) v6)], olist []⟩
noncomputable def g87_m1e : List NE := [.keep 6]
noncomputable def g87_C (n : Nat) : List (Nat × Spec) := []
noncomputable def g87_G (n : Nat) : Ctx := { Γ0 with calls := lkS (g87_C n) }
noncomputable def g87_B : Code := fb Tryd.f87
noncomputable def g87_1 (n : Nat) (kr : Int → Option β) (v0 v1 v2 : Int) : Option β := nneg v2 <| nneg v1 <| kr (IntKind.u8.wrap ((andI .u32 (shrI .u32 v0 v2) (IntKind.u32.wrap ((shlI .u32 (1 : Int) v1) - (1 : Int))))))
noncomputable def g87_1F (n : Nat) (s : FState) (cx : Cx β) : Option β := FX (g87_G n) n (nav g87_B [0]) (.fin none none (some g87_m1e) [] .leaf) s { cx with nrm := fun s => FX (g87_G n) n (nav g87_B [1, 0]) (.fin none none (some g87_m1e) [] .leaf) s { cx with nrm := fun s => FX (g87_G n) n (nav g87_B [1, 1]) (.fin none none (some g87_m1e) [] .leaf) s cx } }
theorem g87_1_fx (n : Nat) (cx : Cx β) (v0 v1 v2 : Int) : g87_1F n (g87_m0 v0 v1 v2) cx = g87_1 n (fun v6 => cx.ret (g87_m1 v6)) v0 v1 v2 := by kernel_rfl
noncomputable def g87 (n : Nat) (v0 v1 v2 : Int) : Option (DenR [.dat (.int .u8)]) := g87_1 n (fun v6 => some (v6, ())) v0 v1 v2
noncomputable def g87_A : List AK := [.dat (.int .u32), .dat (.int .u8), .dat (.int .u8)]
noncomputable def g87_R : List RK := [.dat (.int .u8)]
noncomputable def g87_f (n : Nat) (d : DenA g87_A) : Option (DenR g87_R) := g87 n d.1 d.2.1 d.2.2.1
noncomputable def g87_S (n : Nat) : Spec := mkSpec g87_A g87_R (g87_f n)
noncomputable def g87_K : Sk := (.nd (.fin none none (some g87_m1e) [] .leaf) (.nd (.fin none none (some g87_m1e) [] .leaf) (.fin none none (some g87_m1e) [] .leaf)))
theorem g87_top (n : Nat) (s : FState) (cx : Cx β) : FX (g87_G n) n g87_B g87_K s cx = g87_1F n s cx := by kernel_rfl
theorem g87_fit (n : Nat) : Fit Tryd.prog 87 (g87_S n) :=
  fit_of (Γ := Γ0) (l := g87_C n) (n := n) (sk := g87_K) (ts := [(6, none)]) (fn := Tryd.f87) (c := g87_B) (by kernel_rfl) (by kernel_rfl) (by unfold Callable; kernel_rfl) tab_ok trivial follows_mixed (by kernel_rfl) (by kernel_rfl) (Nat.le_of_ble_eq_true (by kernel_rfl)) (Nat.le_of_ble_eq_true (by kernel_rfl)) (by kernel_rfl) (by kernel_rfl)
    (fun d => (g87_top n _ _).trans (Eq.trans (b := g87_1F n (g87_m0 d.1 d.2.1 d.2.2.1) (finCx (g87_G n) g87_R [(6, none)])) (by kernel_rfl) ((g87_1_fx n _ d.1 d.2.1 d.2.2.1).trans (by kernel_rfl))))
noncomputable def g86_A : List AK := [.ro (.int .u8) 5]
noncomputable def g86_R : List RK := [.dat (.int .i32), .dat (.int .i64)]
noncomputable def g86 (n : Nat) (v0 : List Int) : Option (DenR [.dat (.int .i32), .dat (.int .i64)]) := if v0 ≠ [] ∧ ∀ x ∈ v0, 0 ≤ x ∧ x < 256 then some (((Lib.decodeGo (strOfNums v0)).1 : Int), (((Lib.decodeGo (strOfNums v0)).2 : Int), ())) else none
noncomputable def g86_f (n : Nat) (d : DenA g86_A) : Option (DenR g86_R) := g86 n d.1
noncomputable def g86_S (n : Nat) : Spec := mkSpec g86_A g86_R (g86_f n)
theorem g86_fit (n : Nat) : Fit Tryd.prog 86 (g86_S n) := fit_read (by unfold Callable; kernel_rfl) rfl fun d x w A vs hG ha hx => by
  obtain ⟨v, vs', o1, o2, rfl, _, ⟨_, ad, cap, rfl, hle, hne⟩, h3, _⟩ := ha
  obtain ⟨xs, u⟩ := d
  subst h3
  obtain ⟨hc, hx⟩ := if_inv hx
  cases hx
  obtain ⟨b, off, rfl, hb, hrow⟩ := hne hc.1
  have key := Tryd.utf8_DecodeRune (strOfNums xs) b off cap w (tabs_of hG) (cells_nums hc.2 hrow)
  rw [strOfNums_size] at key
  exact key.mono fun e w' ⟨he, hb⟩ => ⟨[.int .i32 (Lib.decodeGo (strOfNums xs)).1, .int .i64 (Lib.decodeGo (strOfNums xs)).2], he, ⟨_, _, [], [], rfl, rfl, ⟨rfl, _, rfl, rfl⟩, ⟨_, _, [], [], rfl, rfl, ⟨rfl, _, rfl, rfl⟩, rfl, rfl⟩⟩, hb⟩
noncomputable def g72_m0 (v0 : Int) : FState := ⟨tlist [(0, .dat (.int .u32) v0)], olist []⟩
noncomputable def g72_m1 (v2 : Int) : FState := ⟨tlist [(2, .dat (.int .i32) v2)], olist []⟩
noncomputable def g72_m1e : List NE := [.keep 2]
noncomputable def g72_C (n : Nat) : List (Nat × Spec) := [(86, g86_S n), (87, g87_S n)]
noncomputable def g72_G (n : Nat) : Ctx := { Γ0 with calls := lkS (g72_C n) }
noncomputable def g72_B : Code := fb Tryd.f72
noncomputable def g72_1 (n : Nat) (kr : Int → Option β) (v0 : Int) : Option β := bif (decide (v0 < (128 : Int))) then (kr (IntKind.i32.wrap (v0))) else (bif (decide (v0 < (2048 : Int))) then ((g87 n v0 (5 : Int) (6 : Int)).bind fun r1 => (g87 n v0 (6 : Int) (0 : Int)).bind fun r2 => (g86 n [(orI .u8 (192 : Int) r1.1), (orI .u8 (128 : Int) r2.1)]).bind fun r3 => bif (r3.2.1 != (2 : Int)) then none else (bif (r3.1 == (65533 : Int)) then none else (kr r3.1))) else (bif (decide (v0 < (63485 : Int))) then (bif (decide (v0 ≥ (55296 : Int))) then ((g87 n (IntKind.u32.wrap (v0 + (2048 : Int))) (4 : Int) (12 : Int)).bind fun r4 => (g87 n (IntKind.u32.wrap (v0 + (2048 : Int))) (6 : Int) (6 : Int)).bind fun r5 => (g87 n (IntKind.u32.wrap (v0 + (2048 : Int))) (6 : Int) (0 : Int)).bind fun r6 => (g86 n [(orI .u8 (224 : Int) r4.1), (orI .u8 (128 : Int) r5.1), (orI .u8 (128 : Int) r6.1)]).bind fun r7 => bif (r7.2.1 != (3 : Int)) then none else (bif (r7.1 == (65533 : Int)) then none else (kr r7.1))) else ((g87 n v0 (4 : Int) (12 : Int)).bind fun r8 => (g87 n v0 (6 : Int) (6 : Int)).bind fun r9 => (g87 n v0 (6 : Int) (0 : Int)).bind fun r10 => (g86 n [(orI .u8 (224 : Int) r8.1), (orI .u8 (128 : Int) r9.1), (orI .u8 (128 : Int) r10.1)]).bind fun r11 => bif (r11.2.1 != (3 : Int)) then none else (bif (r11.1 == (65533 : Int)) then none else (kr r11.1)))) else (bif (decide (v0 < (2095101 : Int))) then ((g87 n (IntKind.u32.wrap (v0 + (2051 : Int))) (3 : Int) (18 : Int)).bind fun r12 => (g87 n (IntKind.u32.wrap (v0 + (2051 : Int))) (6 : Int) (12 : Int)).bind fun r13 => (g87 n (IntKind.u32.wrap (v0 + (2051 : Int))) (6 : Int) (6 : Int)).bind fun r14 => (g87 n (IntKind.u32.wrap (v0 + (2051 : Int))) (6 : Int) (0 : Int)).bind fun r15 => (g86 n [(orI .u8 (240 : Int) r12.1), (orI .u8 (128 : Int) r13.1), (orI .u8 (128 : Int) r14.1), (orI .u8 (128 : Int) r15.1)]).bind fun r16 => bif (r16.2.1 != (4 : Int)) then none else (bif (r16.1 == (65533 : Int)) then none else (kr r16.1))) else none)))
noncomputable def g72_1F (n : Nat) (s : FState) (cx : Cx β) : Option β := FX (g72_G n) n (nav g72_B [0]) (.fin none none (some g72_m1e) [] .leaf) s { cx with nrm := fun s => FX (g72_G n) n (nav g72_B [1, 0, 0]) (.fin none none (some g72_m1e) [] .leaf) s { cx with nrm := fun s => FX (g72_G n) n (nav g72_B [1, 0, 1]) (.fin none none (some g72_m1e) [] .leaf) s { cx with nrm := fun s => FX (g72_G n) n (nav g72_B [1, 1, 0, 0]) (.fin none none (some g72_m1e) [] .leaf) s { cx with nrm := fun s => FX (g72_G n) n (nav g72_B [1, 1, 0, 1]) (.fin none none (some g72_m1e) [] .leaf) s { cx with nrm := fun s => FX (g72_G n) n (nav g72_B [1, 1, 1, 0, 0]) (.fin none none (some g72_m1e) [] .leaf) s { cx with nrm := fun s => FX (g72_G n) n (nav g72_B [1, 1, 1, 0, 1]) (.fin none none (some g72_m1e) [] .leaf) s { cx with nrm := fun s => FX (g72_G n) n (nav g72_B [1, 1, 1, 1, 0, 0]) (.fin none none (some g72_m1e) [] .leaf) s { cx with nrm := fun s => FX (g72_G n) n (nav g72_B [1, 1, 1, 1, 0, 1]) (.fin none none (some g72_m1e) [] .leaf) s { cx with nrm := fun s => FX (g72_G n) n (nav g72_B [1, 1, 1, 1, 1]) (.fin none none (some g72_m1e) [] .leaf) s cx } } } } } } } } }
theorem g72_1_fx (n : Nat) (cx : Cx β) (v0 : Int) : g72_1F n (g72_m0 v0) cx = g72_1 n (fun v2 => cx.ret (g72_m1 v2)) v0 := by kernel_rfl
noncomputable def g72 (n : Nat) (v0 : Int) : Option (DenR [.dat (.int .i32)]) := g72_1 n (fun v2 => some (v2, ())) v0
noncomputable def g72_A : List AK := [.dat (.int .u32)]
noncomputable def g72_R : List RK := [.dat (.int .i32)]
noncomputable def g72_f (n : Nat) (d : DenA g72_A) : Option (DenR g72_R) := g72 n d.1
noncomputable def g72_S (n : Nat) : Spec := mkSpec g72_A g72_R (g72_f n)
noncomputable def g72_K : Sk := (.nd (.fin none none (some g72_m1e) [] .leaf) (.nd (.nd (.fin none none (some g72_m1e) [] .leaf) (.fin none none (some g72_m1e) [] .leaf)) (.nd (.nd (.fin none none (some g72_m1e) [] .leaf) (.fin none none (some g72_m1e) [] .leaf)) (.nd (.nd (.fin none none (some g72_m1e) [] .leaf) (.fin none none (some g72_m1e) [] .leaf)) (.nd (.nd (.fin none none (some g72_m1e) [] .leaf) (.fin none none (some g72_m1e) [] .leaf)) (.fin none none (some g72_m1e) [] .leaf))))))
theorem g72_top (n : Nat) (s : FState) (cx : Cx β) : FX (g72_G n) n g72_B g72_K s cx = g72_1F n s cx := by kernel_rfl
theorem g72_fit (n : Nat) : Fit Tryd.prog 72 (g72_S n) :=
  fit_of (Γ := Γ0) (l := g72_C n) (n := n) (sk := g72_K) (ts := [(2, none)]) (fn := Tryd.f72) (c := g72_B) (by kernel_rfl) (by kernel_rfl) (by unfold Callable; kernel_rfl) tab_ok ⟨g86_fit n, g87_fit n, trivial⟩ follows_mixed (by kernel_rfl) (by kernel_rfl) (Nat.le_of_ble_eq_true (by kernel_rfl)) (Nat.le_of_ble_eq_true (by kernel_rfl)) (by kernel_rfl) (by kernel_rfl)
    (fun d => (g72_top n _ _).trans (Eq.trans (b := g72_1F n (g72_m0 d.1) (finCx (g72_G n) g72_R [(2, none)])) (by kernel_rfl) ((g72_1_fx n _ d.1).trans (by kernel_rfl))))
noncomputable def g61_m0 (x0 : List Int) : FState := ⟨tlist [(0, .sl 0 none false)], olist [(0, .row (.int .u32) 105 false x0)]⟩
noncomputable def g61_m1 (v2 : ByteArray) : FState := ⟨tlist [(2, .dat .str v2)], olist []⟩
noncomputable def g61_m1e : List NE := [.keep 2]
noncomputable def g61_m2 (x3 x10 : List Int) (v11 v12 : Int) : FState := ⟨tlist [(3, .sl 3 none false), (10, .sl 10 none false), (11, .dat (.int .i64) v11), (12, .dat (.int .i64) v12)], olist [(3, .row (.int .i32) 21 true x3), (10, .row (.int .u32) 105 false x10)]⟩
noncomputable def g61_m2e : List NE := [.row 3 (.int .i32) 21 true, .row 10 (.int .u32) 105 false, .keep 11, .keep 12]
noncomputable def g61_m3 (x3 : List Int) : FState := ⟨tlist [(3, .sl 3 none false)], olist [(3, .row (.int .i32) 21 true x3)]⟩
noncomputable def g61_m3e : List NE := [.row 3 (.int .i32) 21 true]
noncomputable def g61_C (n : Nat) : List (Nat × Spec) := [(72, g72_S n)]
noncomputable def g61_G (n : Nat) : Ctx := { Γ0 with calls := lkS (g61_C n) }
noncomputable def g61_B : Code := fb Tryd.f61
noncomputable def g61_1 (n : Nat) (kn : List Int → List Int → Int → Int → Option β) (kr : ByteArray → Option β) (x0 : List Int) : Option β := bif ((x0.length : Int) == (0 : Int)) then (kr (⟨#[]⟩ : ByteArray)) else (kn ([] : List Int) x0 (x0.length : Int) (0 : Int))
noncomputable def g61_1F (n : Nat) (s : FState) (cx : Cx β) : Option β := FX (g61_G n) n (nav g61_B [0]) (.fin none none (some g61_m1e) [] .leaf) s { cx with nrm := fun s => FX (g61_G n) n (nav g61_B [1, 0, 0]) (.fin none none (some g61_m1e) [] .leaf) s { cx with nrm := fun s => FX (g61_G n) n (nav g61_B [1, 0, 1]) (.fin none none (some g61_m1e) [] .leaf) s { cx with nrm := fun s => FX (g61_G n) n (nav g61_B [1, 1, 0]) (.fin none none (some g61_m1e) [] .leaf) s { cx with nrm := fun s => FX (g61_G n) n (nav g61_B [1, 1, 1, 0, 0]) (.fin none (some g61_m2e) (some g61_m1e) [] .leaf) s cx } } } }
theorem g61_1_fx (n : Nat) (cx : Cx β) (x0 : List Int) : g61_1F n (g61_m0 x0) cx = g61_1 n (fun x3 x10 v11 v12 => cx.nrm (g61_m2 x3 x10 v11 v12)) (fun v2 => cx.ret (g61_m1 v2)) x0 := by kernel_rfl
noncomputable def g61_2 (n : Nat) (kn : List Int → List Int → Int → Int → Option β) (kx0 : List Int → Option β) (x3 x10 : List Int) (v11 v12 : Int) : Option β := bif (decide (v12 < v11)) then (idx v12 (x10.length : Int) <| (g72 n (rd x10 v12 (0 : Int))).bind fun r1 => roomy (x3.length + [r1.1].length) <| kn (x3 ++ [r1.1]) x10 v11 (w64 (v12 + (1 : Int)))) else (kx0 x3)
noncomputable def g61_2F (n : Nat) (s : FState) (cx : Cx β) : Option β := FX (g61_G n) n (nav g61_B [1, 1, 1, 0, 1, 0, 0, 0]) (.fin none none none [(0, g61_m3e)] .leaf) s { cx with nrm := fun s => FX (g61_G n) n (nav g61_B [1, 1, 1, 0, 1, 0, 0, 1, 0]) (.fin none none none [(0, g61_m3e)] .leaf) s { cx with nrm := fun s => FX (g61_G n) n (nav g61_B [1, 1, 1, 0, 1, 0, 0, 1, 1, 0]) (.fin none none none [(0, g61_m3e)] .leaf) s { cx with nrm := fun s => FX (g61_G n) n (nav g61_B [1, 1, 1, 0, 1, 0, 0, 1, 1, 1]) (.fin none (some g61_m2e) none [(0, g61_m3e)] .leaf) s cx } } }
theorem g61_2_fx (n : Nat) (cx : Cx β) (x3 x10 : List Int) (v11 v12 : Int) : g61_2F n (g61_m2 x3 x10 v11 v12) cx = g61_2 n (fun x3 x10 v11 v12 => cx.nrm (g61_m2 x3 x10 v11 v12)) (fun x3 => cx.ex 0 (g61_m3 x3)) x3 x10 v11 v12 := by kernel_rfl
noncomputable def g61_3L (n : Nat) (kx0 : List Int → Option β) : Nat → List Int → List Int → Int → Int → Option β
  | 0, _, _, _, _ => none
  | m + 1, x3, x10, v11, v12 => g61_2 n (g61_3L n kx0 m) kx0 x3 x10 v11 v12
noncomputable def g61_3 (n : Nat) (kx0 : List Int → Option β) (x3 x10 : List Int) (v11 v12 : Int) : Option β := g61_3L n kx0 n x3 x10 v11 v12
noncomputable def g61_3F (n : Nat) (s : FState) (cx : Cx β) : Option β := loopN (fun again s => g61_2F n s { cx with nrm := again }) n s
theorem g61_3L_fx (n : Nat) (cx : Cx β) : ∀ (m : Nat) (x3 x10 : List Int) (v11 v12 : Int), loopN (fun again s => g61_2F n s { cx with nrm := again }) m (g61_m2 x3 x10 v11 v12) = g61_3L n (fun x3 => cx.ex 0 (g61_m3 x3)) m x3 x10 v11 v12 := by
  intro m
  induction m with
  | zero => intros; rfl
  | succ m ih => intros; simp only [loopN, g61_3L, g61_2_fx, ih]
theorem g61_3_fx (n : Nat) (cx : Cx β) (x3 x10 : List Int) (v11 v12 : Int) : g61_3F n (g61_m2 x3 x10 v11 v12) cx = g61_3 n (fun x3 => cx.ex 0 (g61_m3 x3)) x3 x10 v11 v12 := g61_3L_fx n cx n x3 x10 v11 v12
noncomputable def g61_4 (n : Nat) (kn : List Int → Option β) (x3 x10 : List Int) (v11 v12 : Int) : Option β := g61_3 n kn x3 x10 v11 v12
noncomputable def g61_4F (n : Nat) (s : FState) (cx : Cx β) : Option β := g61_3F n s { cx with ex := fun j s => bif Nat.beq j 0 then cx.nrm s else cx.ex j s }
theorem g61_4_fx (n : Nat) (cx : Cx β) (x3 x10 : List Int) (v11 v12 : Int) : g61_4F n (g61_m2 x3 x10 v11 v12) cx = g61_4 n (fun x3 => cx.nrm (g61_m3 x3)) x3 x10 v11 v12 := g61_3_fx n _ x3 x10 v11 v12
noncomputable def g61_5 (n : Nat) (kr : ByteArray → Option β) (x3 : List Int) : Option β := kr (runesBytes x3)
noncomputable def g61_5F (n : Nat) (s : FState) (cx : Cx β) : Option β := FX (g61_G n) n (nav g61_B [1, 1, 1, 1, 0]) (.fin none none (some g61_m1e) [] .leaf) s { cx with nrm := fun s => FX (g61_G n) n (nav g61_B [1, 1, 1, 1, 1]) (.fin none none (some g61_m1e) [] .leaf) s cx }
theorem g61_5_fx (n : Nat) (cx : Cx β) (x3 : List Int) : g61_5F n (g61_m3 x3) cx = g61_5 n (fun v2 => cx.ret (g61_m1 v2)) x3 := by kernel_rfl
noncomputable def g61_6 (n : Nat) (kr : ByteArray → Option β) (x0 : List Int) : Option β := g61_1 n (fun x3 x10 v11 v12 => g61_4 n (fun x3 => g61_5 n kr x3) x3 x10 v11 v12) kr x0
noncomputable def g61_6F (n : Nat) (s : FState) (cx : Cx β) : Option β := g61_1F n s { cx with nrm := fun s => g61_4F n s { cx with nrm := fun s => g61_5F n s cx } }
theorem g61_6_fx (n : Nat) (cx : Cx β) (x0 : List Int) : g61_6F n (g61_m0 x0) cx = g61_6 n (fun v2 => cx.ret (g61_m1 v2)) x0 := by simp only [g61_6F, g61_6, g61_1_fx, g61_4_fx, g61_5_fx]
noncomputable def g61 (n : Nat) (x0 : List Int) : Option (DenR [.dat .str]) := g61_6 n (fun v2 => some (v2, ())) x0
noncomputable def g61_A : List AK := [.ro (.int .u32) 105]
noncomputable def g61_R : List RK := [.dat .str]
noncomputable def g61_f (n : Nat) (d : DenA g61_A) : Option (DenR g61_R) := g61 n d.1
noncomputable def g61_S (n : Nat) : Spec := mkSpec g61_A g61_R (g61_f n)
noncomputable def g61_K : Sk := (.nd (.fin none none (some g61_m1e) [] .leaf) (.nd (.nd (.fin none none (some g61_m1e) [] .leaf) (.fin none none (some g61_m1e) [] .leaf)) (.nd (.fin none none (some g61_m1e) [] .leaf) (.nd (.nd (.fin none (some g61_m2e) (some g61_m1e) [] .leaf) (.nd (.nd (.nd (.fin none none none [(0, g61_m3e)] .leaf) (.nd (.fin none none none [(0, g61_m3e)] .leaf) (.nd (.fin none none none [(0, g61_m3e)] .leaf) (.fin none (some g61_m2e) none [(0, g61_m3e)] .leaf)))) .leaf) .leaf)) (.nd (.fin none none (some g61_m1e) [] .leaf) (.fin none none (some g61_m1e) [] .leaf))))))
theorem g61_top (n : Nat) (s : FState) (cx : Cx β) : FX (g61_G n) n g61_B g61_K s cx = g61_6F n s cx := by kernel_rfl
theorem g61_fit (n : Nat) : Fit Tryd.prog 61 (g61_S n) :=
  fit_of (Γ := Γ0) (l := g61_C n) (n := n) (sk := g61_K) (ts := [(2, none)]) (fn := Tryd.f61) (c := g61_B) (by kernel_rfl) (by kernel_rfl) (by unfold Callable; kernel_rfl) tab_ok ⟨g72_fit n, trivial⟩ follows_mixed (by kernel_rfl) (by kernel_rfl) (Nat.le_of_ble_eq_true (by kernel_rfl)) (Nat.le_of_ble_eq_true (by kernel_rfl)) (by kernel_rfl) (by kernel_rfl)
    (fun d => (g61_top n _ _).trans (Eq.trans (b := g61_6F n (g61_m0 d.1) (finCx (g61_G n) g61_R [(2, none)])) (by kernel_rfl) ((g61_6_fx n _ d.1).trans (by kernel_rfl))))
noncomputable def g46_m0 (p0 : (Int × (Int × (Int × (Nat × (Int × (Int × Nat))))))) (v1 v2 : ByteArray) : FState := ⟨tlist [(0, .ptr 0 0 0), (1, .dat .str v1), (2, .dat .str v2)], olist [(0, .row (.pair (.int .i64) (.pair (.int .i64) (.pair (.int .i64) (.pair (.flt .f64) (.pair (.int .i64) (.pair (.int .i64) (.flt .f64))))))) 70 false [p0])]⟩
noncomputable def g46_m1 (v6 v7 : ByteArray) (x8 : List ByteArray) : FState := ⟨tlist [(6, .dat .str v6), (7, .dat .str v7), (8, .sl 8 none false)], olist [(8, .row .str 9 true x8)]⟩
noncomputable def g46_m1e : List NE := [.keep 6, .keep 7, .row 8 .str 9 true]
noncomputable def g46_C (n : Nat) : List (Nat × Spec) := [(60, g60_S n), (61, g61_S n)]
noncomputable def g46_G (n : Nat) : Ctx := { Γ0 with calls := lkS (g46_C n), cel := [9] }
noncomputable def g46_B : Code := fb Tryd.f46
noncomputable def g46_1 (n : Nat) (kr : ByteArray → ByteArray → List ByteArray → Option β) (p0 : (Int × (Int × (Int × (Nat × (Int × (Int × Nat))))))) (v1 v2 : ByteArray) : Option β := (g60 n p0 v1 [(⟨#[]⟩ : ByteArray)] ([] : List (ByteArray × Int))).bind fun r1 => (g60 n p0 v2 r1.2.1 r1.2.2.1).bind fun r2 => (g61 n r1.1.1).bind fun r3 => (g61 n r2.1.1).bind fun r4 => kr r3.1 r4.1 r2.2.1
noncomputable def g46_1F (n : Nat) (s : FState) (cx : Cx β) : Option β := FX (g46_G n) n (nav g46_B [0]) (.fin none none (some g46_m1e) [] .leaf) s { cx with nrm := fun s => FX (g46_G n) n (nav g46_B [1, 0]) (.fin none none (some g46_m1e) [] .leaf) s { cx with nrm := fun s => FX (g46_G n) n (nav g46_B [1, 1, 0]) (.fin none none (some g46_m1e) [] .leaf) s { cx with nrm := fun s => FX (g46_G n) n (nav g46_B [1, 1, 1, 0]) (.fin none none (some g46_m1e) [] .leaf) s { cx with nrm := fun s => FX (g46_G n) n (nav g46_B [1, 1, 1, 1, 0]) (.fin none none (some g46_m1e) [] .leaf) s { cx with nrm := fun s => FX (g46_G n) n (nav g46_B [1, 1, 1, 1, 1, 0]) (.fin none none (some g46_m1e) [] .leaf) s { cx with nrm := fun s => FX (g46_G n) n (nav g46_B [1, 1, 1, 1, 1, 1]) (.fin none none (some g46_m1e) [] .leaf) s cx } } } } } }
theorem g46_1_fx (n : Nat) (cx : Cx β) (p0 : (Int × (Int × (Int × (Nat × (Int × (Int × Nat))))))) (v1 v2 : ByteArray) : g46_1F n (g46_m0 p0 v1 v2) cx = g46_1 n (fun v6 v7 x8 => cx.ret (g46_m1 v6 v7 x8)) p0 v1 v2 := by kernel_rfl
noncomputable def g46 (n : Nat) (p0 : (Int × (Int × (Int × (Nat × (Int × (Int × Nat))))))) (v1 v2 : ByteArray) : Option (DenR [.dat .str, .dat .str, .rw .str 9]) := g46_1 n (fun v6 v7 x8 => some (v6, (v7, (x8, ())))) p0 v1 v2
noncomputable def g46_A : List AK := [.pro (.pair (.int .i64) (.pair (.int .i64) (.pair (.int .i64) (.pair (.flt .f64) (.pair (.int .i64) (.pair (.int .i64) (.flt .f64))))))) 70, .dat .str, .dat .str]
noncomputable def g46_R : List RK := [.dat .str, .dat .str, .rw .str 9]
noncomputable def g46_f (n : Nat) (d : DenA g46_A) : Option (DenR g46_R) := g46 n d.1 d.2.1 d.2.2.1
noncomputable def g46_S (n : Nat) : Spec := mkSpec g46_A g46_R (g46_f n)
noncomputable def g46_K : Sk := (.nd (.fin none none (some g46_m1e) [] .leaf) (.nd (.fin none none (some g46_m1e) [] .leaf) (.nd (.fin none none (some g46_m1e) [] .leaf) (.nd (.fin none none (some g46_m1e) [] .leaf) (.nd (.fin none none (some g46_m1e) [] .leaf) (.nd (.fin none none (some g46_m1e) [] .leaf) (.fin none none (some g46_m1e) [] .leaf)))))))
theorem g46_top (n : Nat) (s : FState) (cx : Cx β) : FX (g46_G n) n g46_B g46_K s cx = g46_1F n s cx := by kernel_rfl
theorem g46_fit (n : Nat) : Fit Tryd.prog 46 (g46_S n) :=
  fit_of (Γ := { Γ0 with cel := [9] }) (l := g46_C n) (n := n) (sk := g46_K) (ts := [(6, none), (7, none), (8, none)]) (fn := Tryd.f46) (c := g46_B) (by kernel_rfl) (by kernel_rfl) (by unfold Callable; kernel_rfl) (tabCel tab_ok [9]) ⟨g60_fit n, g61_fit n, trivial⟩ follows_mixed (by kernel_rfl) (by kernel_rfl) (Nat.le_of_ble_eq_true (by kernel_rfl)) (Nat.le_of_ble_eq_true (by kernel_rfl)) (by kernel_rfl) (by kernel_rfl)
    (fun d => (g46_top n _ _).trans (Eq.trans (b := g46_1F n (g46_m0 d.1 d.2.1 d.2.2.1) (finCx (g46_G n) g46_R [(6, none), (7, none), (8, none)])) (by kernel_rfl) ((g46_1_fx n _ d.1 d.2.1 d.2.2.1).trans (by kernel_rfl))))
noncomputable def g33_m0 (p0 : (Int × (Int × (Int × (Nat × (Int × (Int × Nat))))))) (v1 v2 : ByteArray) : FState := ⟨tlist [(0, .ptr 0 0 0), (1, .dat .str v1), (2, .dat .str v2)], olist [(0, .row (.pair (.int .i64) (.pair (.int .i64) (.pair (.int .i64) (.pair (.flt .f64) (.pair (.int .i64) (.pair (.int .i64) (.flt .f64))))))) 70 false [p0])]⟩
noncomputable def g33_m1 (x6 x7 : List Int) (x8 : List ByteArray) : FState := ⟨tlist [(6, .sl 6 none false), (7, .sl 7 none false), (8, .sl 8 none false)], olist [(6, .row (.int .i32) 21 true x6), (7, .row (.int .i32) 21 true x7), (8, .row .str 9 true x8)]⟩
noncomputable def g33_m1e : List NE := [.row 6 (.int .i32) 21 true, .row 7 (.int .i32) 21 true, .row 8 .str 9 true]
noncomputable def g33_C (n : Nat) : List (Nat × Spec) := [(46, g46_S n)]
noncomputable def g33_G (n : Nat) : Ctx := { Γ0 with calls := lkS (g33_C n) }
noncomputable def g33_B : Code := fb Tryd.f33
noncomputable def g33_1 (n : Nat) (kr : List Int → List Int → List ByteArray → Option β) (p0 : (Int × (Int × (Int × (Nat × (Int × (Int × Nat))))))) (v1 v2 : ByteArray) : Option β := (g46 n p0 v1 v2).bind fun r1 => room46 r1.1 <| room46 r1.2.1 <| kr (runesOf r1.1) (runesOf r1.2.1) r1.2.2.1
noncomputable def g33_1F (n : Nat) (s : FState) (cx : Cx β) : Option β := FX (g33_G n) n (nav g33_B [0]) (.fin none none (some g33_m1e) [] .leaf) s { cx with nrm := fun s => FX (g33_G n) n (nav g33_B [1, 0]) (.fin none none (some g33_m1e) [] .leaf) s { cx with nrm := fun s => FX (g33_G n) n (nav g33_B [1, 1, 0]) (.fin none none (some g33_m1e) [] .leaf) s { cx with nrm := fun s => FX (g33_G n) n (nav g33_B [1, 1, 1]) (.fin none none (some g33_m1e) [] .leaf) s cx } } }
theorem g33_1_fx (n : Nat) (cx : Cx β) (p0 : (Int × (Int × (Int × (Nat × (Int × (Int × Nat))))))) (v1 v2 : ByteArray) : g33_1F n (g33_m0 p0 v1 v2) cx = g33_1 n (fun x6 x7 x8 => cx.ret (g33_m1 x6 x7 x8)) p0 v1 v2 := by kernel_rfl
noncomputable def g33 (n : Nat) (p0 : (Int × (Int × (Int × (Nat × (Int × (Int × Nat))))))) (v1 v2 : ByteArray) : Option (DenR [.rw (.int .i32) 21, .rw (.int .i32) 21, .rw .str 9]) := g33_1 n (fun x6 x7 x8 => some (x6, (x7, (x8, ())))) p0 v1 v2
noncomputable def g33_A : List AK := [.pro (.pair (.int .i64) (.pair (.int .i64) (.pair (.int .i64) (.pair (.flt .f64) (.pair (.int .i64) (.pair (.int .i64) (.flt .f64))))))) 70, .dat .str, .dat .str]
noncomputable def g33_R : List RK := [.rw (.int .i32) 21, .rw (.int .i32) 21, .rw .str 9]
noncomputable def g33_f (n : Nat) (d : DenA g33_A) : Option (DenR g33_R) := g33 n d.1 d.2.1 d.2.2.1
noncomputable def g33_S (n : Nat) : Spec := mkSpec g33_A g33_R (g33_f n)
noncomputable def g33_K : Sk := (.nd (.fin none none (some g33_m1e) [] .leaf) (.nd (.fin none none (some g33_m1e) [] .leaf) (.nd (.fin none none (some g33_m1e) [] .leaf) (.fin none none (some g33_m1e) [] .leaf))))
theorem g33_top (n : Nat) (s : FState) (cx : Cx β) : FX (g33_G n) n g33_B g33_K s cx = g33_1F n s cx := by kernel_rfl
theorem g33_fit (n : Nat) : Fit Tryd.prog 33 (g33_S n) :=
  fit_of (Γ := Γ0) (l := g33_C n) (n := n) (sk := g33_K) (ts := [(6, none), (7, none), (8, none)]) (fn := Tryd.f33) (c := g33_B) (by kernel_rfl) (by kernel_rfl) (by unfold Callable; kernel_rfl) tab_ok ⟨g46_fit n, trivial⟩ follows_mixed (by kernel_rfl) (by kernel_rfl) (Nat.le_of_ble_eq_true (by kernel_rfl)) (Nat.le_of_ble_eq_true (by kernel_rfl)) (by kernel_rfl) (by kernel_rfl)
    (fun d => (g33_top n _ _).trans (Eq.trans (b := g33_1F n (g33_m0 d.1 d.2.1 d.2.2.1) (finCx (g33_G n) g33_R [(6, none), (7, none), (8, none)])) (by kernel_rfl) ((g33_1_fx n _ d.1 d.2.1 d.2.2.1).trans (by kernel_rfl))))
noncomputable def g16_m0 (v0 v1 : ByteArray) : FState := ⟨tlist [(0, .dat .str v0), (1, .dat .str v1)], olist []⟩
noncomputable def g16_m1 (x4 x5 : List Int) (x6 : List ByteArray) : FState := ⟨tlist [(4, .sl 4 none false), (5, .sl 5 none false), (6, .sl 6 none false)], olist [(4, .row (.int .i32) 21 true x4), (5, .row (.int .i32) 21 true x5), (6, .row .str 9 true x6)]⟩
noncomputable def g16_m1e : List NE := [.row 4 (.int .i32) 21 true, .row 5 (.int .i32) 21 true, .row 6 .str 9 true]
noncomputable def g16_C (n : Nat) : List (Nat × Spec) := [(27, g27_S n), (33, g33_S n)]
noncomputable def g16_G (n : Nat) : Ctx := { Γ0 with calls := lkS (g16_C n) }
noncomputable def g16_B : Code := fb Tryd.f16
noncomputable def g16_1 (n : Nat) (kr : List Int → List Int → List ByteArray → Option β) (v0 v1 : ByteArray) : Option β := (g27 n).bind fun r1 => (g33 n r1.1 v0 v1).bind fun r2 => kr r2.1 r2.2.1 r2.2.2.1
noncomputable def g16_1F (n : Nat) (s : FState) (cx : Cx β) : Option β := FX (g16_G n) n (nav g16_B [0]) (.fin none none (some g16_m1e) [] .leaf) s { cx with nrm := fun s => FX (g16_G n) n (nav g16_B [1, 0]) (.fin none none (some g16_m1e) [] .leaf) s { cx with nrm := fun s => FX (g16_G n) n (nav g16_B [1, 1]) (.fin none none (some g16_m1e) [] .leaf) s cx } }
theorem g16_1_fx (n : Nat) (cx : Cx β) (v0 v1 : ByteArray) : g16_1F n (g16_m0 v0 v1) cx = g16_1 n (fun x4 x5 x6 => cx.ret (g16_m1 x4 x5 x6)) v0 v1 := by kernel_rfl
noncomputable def g16 (n : Nat) (v0 v1 : ByteArray) : Option (DenR [.rw (.int .i32) 21, .rw (.int .i32) 21, .rw .str 9]) := g16_1 n (fun x4 x5 x6 => some (x4, (x5, (x6, ())))) v0 v1
noncomputable def g16_A : List AK := [.dat .str, .dat .str]
noncomputable def g16_R : List RK := [.rw (.int .i32) 21, .rw (.int .i32) 21, .rw .str 9]
noncomputable def g16_f (n : Nat) (d : DenA g16_A) : Option (DenR g16_R) := g16 n d.1 d.2.1
noncomputable def g16_S (n : Nat) : Spec := mkSpec g16_A g16_R (g16_f n)
noncomputable def g16_K : Sk := (.nd (.fin none none (some g16_m1e) [] .leaf) (.nd (.fin none none (some g16_m1e) [] .leaf) (.fin none none (some g16_m1e) [] .leaf)))
theorem g16_top (n : Nat) (s : FState) (cx : Cx β) : FX (g16_G n) n g16_B g16_K s cx = g16_1F n s cx := by kernel_rfl
theorem g16_fit (n : Nat) : Fit Tryd.prog 16 (g16_S n) :=
  fit_of (Γ := Γ0) (l := g16_C n) (n := n) (sk := g16_K) (ts := [(4, none), (5, none), (6, none)]) (fn := Tryd.f16) (c := g16_B) (by kernel_rfl) (by kernel_rfl) (by unfold Callable; kernel_rfl) tab_ok ⟨g27_fit n, g33_fit n, trivial⟩ follows_mixed (by kernel_rfl) (by kernel_rfl) (Nat.le_of_ble_eq_true (by kernel_rfl)) (Nat.le_of_ble_eq_true (by kernel_rfl)) (by kernel_rfl) (by kernel_rfl)
    (fun d => (g16_top n _ _).trans (Eq.trans (b := g16_1F n (g16_m0 d.1 d.2.1) (finCx (g16_G n) g16_R [(4, none), (5, none), (6, none)])) (by kernel_rfl) ((g16_1_fx n _ d.1 d.2.1).trans (by kernel_rfl))))
noncomputable def g34_m0 (v0 : ByteArray) : FState := ⟨tlist [(0, .dat .str v0)], olist []⟩
noncomputable def g34_m1 (x2 : List ByteArray) : FState := ⟨tlist [(2, .sl 2 none false)], olist [(2, .row .str 9 true x2)]⟩
noncomputable def g34_m1e : List NE := [.row 2 .str 9 true]
noncomputable def g34_m2 (v0 : ByteArray) (x3 : List ByteArray) (v4 v5 : Int) : FState := ⟨tlist [(0, .dat .str v0), (3, .sl 3 none false), (4, .dat (.int .i64) v4), (5, .dat (.int .i64) v5)], olist [(3, .row .str 9 true x3)]⟩
noncomputable def g34_m2e : List NE := [.keep 0, .row 3 .str 9 true, .keep 4, .keep 5]
noncomputable def g34_m3 (v0 : ByteArray) (x3 : List ByteArray) (v4 : Int) : FState := ⟨tlist [(0, .dat .str v0), (3, .sl 3 none false), (4, .dat (.int .i64) v4)], olist [(3, .row .str 9 true x3)]⟩
noncomputable def g34_m3e : List NE := [.keep 0, .row 3 .str 9 true, .keep 4]
noncomputable def g34_C (n : Nat) : List (Nat × Spec) := []
noncomputable def g34_G (n : Nat) : Ctx := { Γ0 with calls := lkS (g34_C n) }
noncomputable def g34_B : Code := fb Tryd.f34
noncomputable def g34_1 (n : Nat) (kn : ByteArray → List ByteArray → Int → Int → Option β) (v0 : ByteArray) : Option β := kn v0 [] (0 : Int) (0 : Int)
noncomputable def g34_1F (n : Nat) (s : FState) (cx : Cx β) : Option β := FX (g34_G n) n (nav g34_B [0]) (.fin none none none [] .leaf) s { cx with nrm := fun s => FX (g34_G n) n (nav g34_B [1, 0]) (.fin none none none [] .leaf) s { cx with nrm := fun s => FX (g34_G n) n (nav g34_B [1, 1, 0]) (.fin none none none [] .leaf) s { cx with nrm := fun s => FX (g34_G n) n (nav g34_B [1, 1, 1, 0, 0]) (.fin none (some g34_m2e) none [] .leaf) s cx } } }
theorem g34_1_fx (n : Nat) (cx : Cx β) (v0 : ByteArray) : g34_1F n (g34_m0 v0) cx = g34_1 n (fun v0 x3 v4 v5 => cx.nrm (g34_m2 v0 x3 v4 v5)) v0 := by kernel_rfl
noncomputable def g34_2 (n : Nat) (kn : ByteArray → List ByteArray → Int → Int → Option β) (kx0 : ByteArray → List ByteArray → Int → Option β) (v0 : ByteArray) (x3 : List ByteArray) (v4 v5 : Int) : Option β := bif (decide (v5 < (v0.size : Int))) then (idx v5 (v0.size : Int) <| bif ((byteAt v0 v5) == (10 : Int)) then (bnd v4 (w64 (v5 + (1 : Int))) (v0.size : Int) <| roomy (x3.length + [(cutS v0 v4 (w64 (v5 + (1 : Int))))].length) <| kn v0 (x3 ++ [(cutS v0 v4 (w64 (v5 + (1 : Int))))]) (w64 (v5 + (1 : Int))) (w64 (v5 + (1 : Int)))) else (kn v0 x3 v4 (w64 (v5 + (1 : Int))))) else (kx0 v0 x3 v4)
noncomputable def g34_2F (n : Nat) (s : FState) (cx : Cx β) : Option β := FX (g34_G n) n (nav g34_B [1, 1, 1, 0, 1, 0, 0, 0, 0]) (.fin none none none [(0, g34_m3e)] .leaf) s { cx with nrm := fun s => FX (g34_G n) n (nav g34_B [1, 1, 1, 0, 1, 0, 0, 0, 1]) (.fin none none none [(0, g34_m3e)] .leaf) s { cx with nrm := fun s => FX (g34_G n) n (nav g34_B [1, 1, 1, 0, 1, 0, 0, 1, 0]) (.fin none none none [(0, g34_m3e)] .leaf) s { cx with nrm := fun s => FX (g34_G n) n (nav g34_B [1, 1, 1, 0, 1, 0, 0, 1, 1]) (.fin none (some g34_m2e) none [(0, g34_m3e)] .leaf) s cx } } }
theorem g34_2_fx (n : Nat) (cx : Cx β) (v0 : ByteArray) (x3 : List ByteArray) (v4 v5 : Int) : g34_2F n (g34_m2 v0 x3 v4 v5) cx = g34_2 n (fun v0 x3 v4 v5 => cx.nrm (g34_m2 v0 x3 v4 v5)) (fun v0 x3 v4 => cx.ex 0 (g34_m3 v0 x3 v4)) v0 x3 v4 v5 := by kernel_rfl
noncomputable def g34_3L (n : Nat) (kx0 : ByteArray → List ByteArray → Int → Option β) : Nat → ByteArray → List ByteArray → Int → Int → Option β
  | 0, _, _, _, _ => none
  | m + 1, v0, x3, v4, v5 => g34_2 n (g34_3L n kx0 m) kx0 v0 x3 v4 v5
noncomputable def g34_3 (n : Nat) (kx0 : ByteArray → List ByteArray → Int → Option β) (v0 : ByteArray) (x3 : List ByteArray) (v4 v5 : Int) : Option β := g34_3L n kx0 n v0 x3 v4 v5
noncomputable def g34_3F (n : Nat) (s : FState) (cx : Cx β) : Option β := loopN (fun again s => g34_2F n s { cx with nrm := again }) n s
theorem g34_3L_fx (n : Nat) (cx : Cx β) : ∀ (m : Nat) (v0 : ByteArray) (x3 : List ByteArray) (v4 v5 : Int), loopN (fun again s => g34_2F n s { cx with nrm := again }) m (g34_m2 v0 x3 v4 v5) = g34_3L n (fun v0 x3 v4 => cx.ex 0 (g34_m3 v0 x3 v4)) m v0 x3 v4 v5 := by
  intro m
  induction m with
  | zero => intros; rfl
  | succ m ih => intros; simp only [loopN, g34_3L, g34_2_fx, ih]
theorem g34_3_fx (n : Nat) (cx : Cx β) (v0 : ByteArray) (x3 : List ByteArray) (v4 v5 : Int) : g34_3F n (g34_m2 v0 x3 v4 v5) cx = g34_3 n (fun v0 x3 v4 => cx.ex 0 (g34_m3 v0 x3 v4)) v0 x3 v4 v5 := g34_3L_fx n cx n v0 x3 v4 v5
noncomputable def g34_4 (n : Nat) (kn : ByteArray → List ByteArray → Int → Option β) (v0 : ByteArray) (x3 : List ByteArray) (v4 v5 : Int) : Option β := g34_3 n kn v0 x3 v4 v5
noncomputable def g34_4F (n : Nat) (s : FState) (cx : Cx β) : Option β := g34_3F n s { cx with ex := fun j s => bif Nat.beq j 0 then cx.nrm s else cx.ex j s }
theorem g34_4_fx (n : Nat) (cx : Cx β) (v0 : ByteArray) (x3 : List ByteArray) (v4 v5 : Int) : g34_4F n (g34_m2 v0 x3 v4 v5) cx = g34_4 n (fun v0 x3 v4 => cx.nrm (g34_m3 v0 x3 v4)) v0 x3 v4 v5 := g34_3_fx n _ v0 x3 v4 v5
noncomputable def g34_5 (n : Nat) (kr : List ByteArray → Option β) (v0 : ByteArray) (x3 : List ByteArray) (v4 : Int) : Option β := bif (decide (v4 < (v0.size : Int))) then (bnd v4 (v0.size : Int) (v0.size : Int) <| roomy (x3.length + [(cutS v0 v4 (v0.size : Int))].length) <| kr (x3 ++ [(cutS v0 v4 (v0.size : Int))])) else (kr x3)
noncomputable def g34_5F (n : Nat) (s : FState) (cx : Cx β) : Option β := FX (g34_G n) n (nav g34_B [1, 1, 1, 1, 0, 0]) (.fin none none (some g34_m1e) [] .leaf) s { cx with nrm := fun s => FX (g34_G n) n (nav g34_B [1, 1, 1, 1, 0, 1]) (.fin none none (some g34_m1e) [] .leaf) s { cx with nrm := fun s => FX (g34_G n) n (nav g34_B [1, 1, 1, 1, 1, 0]) (.fin none none (some g34_m1e) [] .leaf) s { cx with nrm := fun s => FX (g34_G n) n (nav g34_B [1, 1, 1, 1, 1, 1]) (.fin none none (some g34_m1e) [] .leaf) s cx } } }
theorem g34_5_fx (n : Nat) (cx : Cx β) (v0 : ByteArray) (x3 : List ByteArray) (v4 : Int) : g34_5F n (g34_m3 v0 x3 v4) cx = g34_5 n (fun x2 => cx.ret (g34_m1 x2)) v0 x3 v4 := by kernel_rfl
noncomputable def g34_6 (n : Nat) (kr : List ByteArray → Option β) (v0 : ByteArray) : Option β := g34_1 n (fun v0 x3 v4 v5 => g34_4 n (fun v0 x3 v4 => g34_5 n kr v0 x3 v4) v0 x3 v4 v5) v0
noncomputable def g34_6F (n : Nat) (s : FState) (cx : Cx β) : Option β := g34_1F n s { cx with nrm := fun s => g34_4F n s { cx with nrm := fun s => g34_5F n s cx } }
theorem g34_6_fx (n : Nat) (cx : Cx β) (v0 : ByteArray) : g34_6F n (g34_m0 v0) cx = g34_6 n (fun x2 => cx.ret (g34_m1 x2)) v0 := by simp only [g34_6F, g34_6, g34_1_fx, g34_4_fx, g34_5_fx]
noncomputable def g34 (n : Nat) (v0 : ByteArray) : Option (DenR [.rw .str 9]) := g34_6 n (fun x2 => some (x2, ())) v0
noncomputable def g34_A : List AK := [.dat .str]
noncomputable def g34_R : List RK := [.rw .str 9]
noncomputable def g34_f (n : Nat) (d : DenA g34_A) : Option (DenR g34_R) := g34 n d.1
noncomputable def g34_S (n : Nat) : Spec := mkSpec g34_A g34_R (g34_f n)
noncomputable def g34_K : Sk := (.nd (.fin none none none [] .leaf) (.nd (.fin none none none [] .leaf) (.nd (.fin none none none [] .leaf) (.nd (.nd (.fin none (some g34_m2e) none [] .leaf) (.nd (.nd (.nd (.nd (.fin none none none [(0, g34_m3e)] .leaf) (.fin none none none [(0, g34_m3e)] .leaf)) (.nd (.fin none none none [(0, g34_m3e)] .leaf) (.fin none (some g34_m2e) none [(0, g34_m3e)] .leaf))) .leaf) .leaf)) (.nd (.nd (.fin none none (some g34_m1e) [] .leaf) (.fin none none (some g34_m1e) [] .leaf)) (.nd (.fin none none (some g34_m1e) [] .leaf) (.fin none none (some g34_m1e) [] .leaf)))))))
theorem g34_top (n : Nat) (s : FState) (cx : Cx β) : FX (g34_G n) n g34_B g34_K s cx = g34_6F n s cx := by kernel_rfl
theorem g34_fit (n : Nat) : Fit Tryd.prog 34 (g34_S n) :=
  fit_of (Γ := Γ0) (l := g34_C n) (n := n) (sk := g34_K) (ts := [(2, none)]) (fn := Tryd.f34) (c := g34_B) (by kernel_rfl) (by kernel_rfl) (by unfold Callable; kernel_rfl) tab_ok trivial follows_mixed (by kernel_rfl) (by kernel_rfl) (Nat.le_of_ble_eq_true (by kernel_rfl)) (Nat.le_of_ble_eq_true (by kernel_rfl)) (by kernel_rfl) (by kernel_rfl)
    (fun d => (g34_top n _ _).trans (Eq.trans (b := g34_6F n (g34_m0 d.1) (finCx (g34_G n) g34_R [(2, none)])) (by kernel_rfl) ((g34_6_fx n _ d.1).trans (by kernel_rfl))))
noncomputable def g88_m0 (x0 : List Int) (v1 : Int) : FState := ⟨tlist [(0, .sl 0 none false), (1, .dat (.int .i32) v1)], olist [(0, .row (.int .u8) 5 true x0)]⟩
noncomputable def g88_m0e : List NE := [.row 0 (.int .u8) 5 true, .keep 1]
noncomputable def g88_m1 (x0 : List Int) (v4 : Int) : FState := ⟨tlist [(0, .sl 0 none false), (4, .dat (.int .i64) v4)], olist [(0, .row (.int .u8) 5 true x0)]⟩
noncomputable def g88_m1e : List NE := [.row 0 (.int .u8) 5 true, .keep 4]
noncomputable def g88_m2 (x0 : List Int) (v1 v5 : Int) : FState := ⟨tlist [(0, .sl 0 none false), (1, .dat (.int .i32) v1), (5, .dat (.int .u32) v5)], olist [(0, .row (.int .u8) 5 true x0)]⟩
noncomputable def g88_m2e : List NE := [.row 0 (.int .u8) 5 true, .keep 1, .keep 5]
noncomputable def g88_C (n : Nat) : List (Nat × Spec) := []
noncomputable def g88_G (n : Nat) : Ctx := { Γ0 with calls := lkS (g88_C n) }
noncomputable def g88_B : Code := fb Tryd.f88
noncomputable def g88_1 (n : Nat) (kn : List Int → Int → Int → Option β) (x0 : List Int) (v1 : Int) : Option β := kn x0 v1 (IntKind.u32.wrap (v1))
noncomputable def g88_1F (n : Nat) (s : FState) (cx : Cx β) : Option β := FX (g88_G n) n (nav g88_B [0]) (.fin none none none [] .leaf) s { cx with nrm := fun s => FX (g88_G n) n (nav g88_B [1, 0]) (.fin none (some g88_m2e) none [] .leaf) s cx }
theorem g88_1_fx (n : Nat) (cx : Cx β) (x0 : List Int) (v1 : Int) : g88_1F n (g88_m0 x0 v1) cx = g88_1 n (fun x0 v1 v5 => cx.nrm (g88_m2 x0 v1 v5)) x0 v1 := by kernel_rfl
noncomputable def g88_2 (n : Nat) (kr : List Int → Int → Option β) (x0 : List Int) (v1 v5 : Int) : Option β := bif (decide (v5 ≤ (2047 : Int))) then (idx (1 : Int) (x0.length : Int) <| idx (0 : Int) (x0.length : Int) <| idx (1 : Int) ((x0.set (0 : Int).toNat (orI .u8 (192 : Int) (IntKind.u8.wrap ((shrI .i32 v1 (6 : Int)))))).length : Int) <| kr ((x0.set (0 : Int).toNat (orI .u8 (192 : Int) (IntKind.u8.wrap ((shrI .i32 v1 (6 : Int)))))).set (1 : Int).toNat (orI .u8 (128 : Int) (andI .u8 (IntKind.u8.wrap (v1)) (63 : Int)))) (2 : Int)) else (bif (decide (v5 < (55296 : Int))) then (bif (decide (v5 < (55296 : Int))) then (idx (2 : Int) (x0.length : Int) <| idx (0 : Int) (x0.length : Int) <| idx (1 : Int) ((x0.set (0 : Int).toNat (orI .u8 (224 : Int) (IntKind.u8.wrap ((shrI .i32 v1 (12 : Int)))))).length : Int) <| idx (2 : Int) (((x0.set (0 : Int).toNat (orI .u8 (224 : Int) (IntKind.u8.wrap ((shrI .i32 v1 (12 : Int)))))).set (1 : Int).toNat (orI .u8 (128 : Int) (andI .u8 (IntKind.u8.wrap ((shrI .i32 v1 (6 : Int)))) (63 : Int)))).length : Int) <| kr (((x0.set (0 : Int).toNat (orI .u8 (224 : Int) (IntKind.u8.wrap ((shrI .i32 v1 (12 : Int)))))).set (1 : Int).toNat (orI .u8 (128 : Int) (andI .u8 (IntKind.u8.wrap ((shrI .i32 v1 (6 : Int)))) (63 : Int)))).set (2 : Int).toNat (orI .u8 (128 : Int) (andI .u8 (IntKind.u8.wrap (v1)) (63 : Int)))) (3 : Int)) else (bif (decide (v5 > (65535 : Int))) then (bif (decide (v5 ≤ (1114111 : Int))) then (idx (3 : Int) (x0.length : Int) <| idx (0 : Int) (x0.length : Int) <| idx (1 : Int) ((x0.set (0 : Int).toNat (orI .u8 (240 : Int) (IntKind.u8.wrap ((shrI .i32 v1 (18 : Int)))))).length : Int) <| idx (2 : Int) (((x0.set (0 : Int).toNat (orI .u8 (240 : Int) (IntKind.u8.wrap ((shrI .i32 v1 (18 : Int)))))).set (1 : Int).toNat (orI .u8 (128 : Int) (andI .u8 (IntKind.u8.wrap ((shrI .i32 v1 (12 : Int)))) (63 : Int)))).length : Int) <| idx (3 : Int) ((((x0.set (0 : Int).toNat (orI .u8 (240 : Int) (IntKind.u8.wrap ((shrI .i32 v1 (18 : Int)))))).set (1 : Int).toNat (orI .u8 (128 : Int) (andI .u8 (IntKind.u8.wrap ((shrI .i32 v1 (12 : Int)))) (63 : Int)))).set (2 : Int).toNat (orI .u8 (128 : Int) (andI .u8 (IntKind.u8.wrap ((shrI .i32 v1 (6 : Int)))) (63 : Int)))).length : Int) <| kr ((((x0.set (0 : Int).toNat (orI .u8 (240 : Int) (IntKind.u8.wrap ((shrI .i32 v1 (18 : Int)))))).set (1 : Int).toNat (orI .u8 (128 : Int) (andI .u8 (IntKind.u8.wrap ((shrI .i32 v1 (12 : Int)))) (63 : Int)))).set (2 : Int).toNat (orI .u8 (128 : Int) (andI .u8 (IntKind.u8.wrap ((shrI .i32 v1 (6 : Int)))) (63 : Int)))).set (3 : Int).toNat (orI .u8 (128 : Int) (andI .u8 (IntKind.u8.wrap (v1)) (63 : Int)))) (4 : Int)) else (idx (2 : Int) (x0.length : Int) <| idx (0 : Int) (x0.length : Int) <| idx (1 : Int) ((x0.set (0 : Int).toNat (239 : Int)).length : Int) <| idx (2 : Int) (((x0.set (0 : Int).toNat (239 : Int)).set (1 : Int).toNat (191 : Int)).length : Int) <| kr (((x0.set (0 : Int).toNat (239 : Int)).set (1 : Int).toNat (191 : Int)).set (2 : Int).toNat (189 : Int)) (3 : Int))) else (idx (2 : Int) (x0.length : Int) <| idx (0 : Int) (x0.length : Int) <| idx (1 : Int) ((x0.set (0 : Int).toNat (239 : Int)).length : Int) <| idx (2 : Int) (((x0.set (0 : Int).toNat (239 : Int)).set (1 : Int).toNat (191 : Int)).length : Int) <| kr (((x0.set (0 : Int).toNat (239 : Int)).set (1 : Int).toNat (191 : Int)).set (2 : Int).toNat (189 : Int)) (3 : Int)))) else (bif (decide ((57343 : Int) < v5)) then (bif (decide (v5 ≤ (65535 : Int))) then (idx (2 : Int) (x0.length : Int) <| idx (0 : Int) (x0.length : Int) <| idx (1 : Int) ((x0.set (0 : Int).toNat (orI .u8 (224 : Int) (IntKind.u8.wrap ((shrI .i32 v1 (12 : Int)))))).length : Int) <| idx (2 : Int) (((x0.set (0 : Int).toNat (orI .u8 (224 : Int) (IntKind.u8.wrap ((shrI .i32 v1 (12 : Int)))))).set (1 : Int).toNat (orI .u8 (128 : Int) (andI .u8 (IntKind.u8.wrap ((shrI .i32 v1 (6 : Int)))) (63 : Int)))).length : Int) <| kr (((x0.set (0 : Int).toNat (orI .u8 (224 : Int) (IntKind.u8.wrap ((shrI .i32 v1 (12 : Int)))))).set (1 : Int).toNat (orI .u8 (128 : Int) (andI .u8 (IntKind.u8.wrap ((shrI .i32 v1 (6 : Int)))) (63 : Int)))).set (2 : Int).toNat (orI .u8 (128 : Int) (andI .u8 (IntKind.u8.wrap (v1)) (63 : Int)))) (3 : Int)) else (bif (decide (v5 > (65535 : Int))) then (bif (decide (v5 ≤ (1114111 : Int))) then (idx (3 : Int) (x0.length : Int) <| idx (0 : Int) (x0.length : Int) <| idx (1 : Int) ((x0.set (0 : Int).toNat (orI .u8 (240 : Int) (IntKind.u8.wrap ((shrI .i32 v1 (18 : Int)))))).length : Int) <| idx (2 : Int) (((x0.set (0 : Int).toNat (orI .u8 (240 : Int) (IntKind.u8.wrap ((shrI .i32 v1 (18 : Int)))))).set (1 : Int).toNat (orI .u8 (128 : Int) (andI .u8 (IntKind.u8.wrap ((shrI .i32 v1 (12 : Int)))) (63 : Int)))).length : Int) <| idx (3 : Int) ((((x0.set (0 : Int).toNat (orI .u8 (240 : Int) (IntKind.u8.wrap ((shrI .i32 v1 (18 : Int)))))).set (1 : Int).toNat (orI .u8 (128 : Int) (andI .u8 (IntKind.u8.wrap ((shrI .i32 v1 (12 : Int)))) (63 : Int)))).set (2 : Int).toNat (orI .u8 (128 : Int) (andI .u8 (IntKind.u8.wrap ((shrI .i32 v1 (6 : Int)))) (63 : Int)))).length : Int) <| kr ((((x0.set (0 : Int).toNat (orI .u8 (240 : Int) (IntKind.u8.wrap ((shrI .i32 v1 (18 : Int)))))).set (1 : Int).toNat (orI .u8 (128 : Int) (andI .u8 (IntKind.u8.wrap ((shrI .i32 v1 (12 : Int)))) (63 : Int)))).set (2 : Int).toNat (orI .u8 (128 : Int) (andI .u8 (IntKind.u8.wrap ((shrI .i32 v1 (6 : Int)))) (63 : Int)))).set (3 : Int).toNat (orI .u8 (128 : Int) (andI .u8 (IntKind.u8.wrap (v1)) (63 : Int)))) (4 : Int)) else (idx (2 : Int) (x0.length : Int) <| idx (0 : Int) (x0.length : Int) <| idx (1 : Int) ((x0.set (0 : Int).toNat (239 : Int)).length : Int) <| idx (2 : Int) (((x0.set (0 : Int).toNat (239 : Int)).set (1 : Int).toNat (191 : Int)).length : Int) <| kr (((x0.set (0 : Int).toNat (239 : Int)).set (1 : Int).toNat (191 : Int)).set (2 : Int).toNat (189 : Int)) (3 : Int))) else (idx (2 : Int) (x0.length : Int) <| idx (0 : Int) (x0.length : Int) <| idx (1 : Int) ((x0.set (0 : Int).toNat (239 : Int)).length : Int) <| idx (2 : Int) (((x0.set (0 : Int).toNat (239 : Int)).set (1 : Int).toNat (191 : Int)).length : Int) <| kr (((x0.set (0 : Int).toNat (239 : Int)).set (1 : Int).toNat (191 : Int)).set (2 : Int).toNat (189 : Int)) (3 : Int)))) else (bif (decide (v5 > (65535 : Int))) then (bif (decide (v5 ≤ (1114111 : Int))) then (idx (3 : Int) (x0.length : Int) <| idx (0 : Int) (x0.length : Int) <| idx (1 : Int) ((x0.set (0 : Int).toNat (orI .u8 (240 : Int) (IntKind.u8.wrap ((shrI .i32 v1 (18 : Int)))))).length : Int) <| idx (2 : Int) (((x0.set (0 : Int).toNat (orI .u8 (240 : Int) (IntKind.u8.wrap ((shrI .i32 v1 (18 : Int)))))).set (1 : Int).toNat (orI .u8 (128 : Int) (andI .u8 (IntKind.u8.wrap ((shrI .i32 v1 (12 : Int)))) (63 : Int)))).length : Int) <| idx (3 : Int) ((((x0.set (0 : Int).toNat (orI .u8 (240 : Int) (IntKind.u8.wrap ((shrI .i32 v1 (18 : Int)))))).set (1 : Int).toNat (orI .u8 (128 : Int) (andI .u8 (IntKind.u8.wrap ((shrI .i32 v1 (12 : Int)))) (63 : Int)))).set (2 : Int).toNat (orI .u8 (128 : Int) (andI .u8 (IntKind.u8.wrap ((shrI .i32 v1 (6 : Int)))) (63 : Int)))).length : Int) <| kr ((((x0.set (0 : Int).toNat (orI .u8 (240 : Int) (IntKind.u8.wrap ((shrI .i32 v1 (18 : Int)))))).set (1 : Int).toNat (orI .u8 (128 : Int) (andI .u8 (IntKind.u8.wrap ((shrI .i32 v1 (12 : Int)))) (63 : Int)))).set (2 : Int).toNat (orI .u8 (128 : Int) (andI .u8 (IntKind.u8.wrap ((shrI .i32 v1 (6 : Int)))) (63 : Int)))).set (3 : Int).toNat (orI .u8 (128 : Int) (andI .u8 (IntKind.u8.wrap (v1)) (63 : Int)))) (4 : Int)) else (idx (2 : Int) (x0.length : Int) <| idx (0 : Int) (x0.length : Int) <| idx (1 : Int) ((x0.set (0 : Int).toNat (239 : Int)).length : Int) <| idx (2 : Int) (((x0.set (0 : Int).toNat (239 : Int)).set (1 : Int).toNat (191 : Int)).length : Int) <| kr (((x0.set (0 : Int).toNat (239 : Int)).set (1 : Int).toNat (191 : Int)).set (2 : Int).toNat (189 : Int)) (3 : Int))) else (idx (2 : Int) (x0.length : Int) <| idx (0 : Int) (x0.length : Int) <| idx (1 : Int) ((x0.set (0 : Int).toNat (239 : Int)).length : Int) <| idx (2 : Int) (((x0.set (0 : Int).toNat (239 : Int)).set (1 : Int).toNat (191 : Int)).length : Int) <| kr (((x0.set (0 : Int).toNat (239 : Int)).set (1 : Int).toNat (191 : Int)).set (2 : Int).toNat (189 : Int)) (3 : Int)))))
noncomputable def g88_2F (n : Nat) (s : FState) (cx : Cx β) : Option β := FX (g88_G n) n (nav g88_B [1, 1, 0, 0]) (.fin none none (some g88_m1e) [] .leaf) s { cx with nrm := fun s => FX (g88_G n) n (nav g88_B [1, 1, 0, 1]) (.fin none none (some g88_m1e) [] .leaf) s cx }
theorem g88_2_fx (n : Nat) (cx : Cx β) (x0 : List Int) (v1 v5 : Int) : g88_2F n (g88_m2 x0 v1 v5) cx = g88_2 n (fun x0 v4 => cx.ret (g88_m1 x0 v4)) x0 v1 v5 := by kernel_rfl
noncomputable def g88_3 (n : Nat) (kr : List Int → Int → Option β) (x0 : List Int) (v1 v5 : Int) : Option β := g88_2 n kr x0 v1 v5
noncomputable def g88_3F (n : Nat) (s : FState) (cx : Cx β) : Option β := g88_2F n s { cx with ex := fun j s => bif Nat.beq j 0 then cx.nrm s else cx.ex j s }
theorem g88_3_fx (n : Nat) (cx : Cx β) (x0 : List Int) (v1 v5 : Int) : g88_3F n (g88_m2 x0 v1 v5) cx = g88_3 n (fun x0 v4 => cx.ret (g88_m1 x0 v4)) x0 v1 v5 := g88_2_fx n _ x0 v1 v5
noncomputable def g88_4 (n : Nat) (kr : List Int → Int → Option β) (x0 : List Int) (v1 : Int) : Option β := g88_1 n (fun x0 v1 v5 => g88_3 n kr x0 v1 v5) x0 v1
noncomputable def g88_4F (n : Nat) (s : FState) (cx : Cx β) : Option β := g88_1F n s { cx with nrm := fun s => g88_3F n s cx }
theorem g88_4_fx (n : Nat) (cx : Cx β) (x0 : List Int) (v1 : Int) : g88_4F n (g88_m0 x0 v1) cx = g88_4 n (fun x0 v4 => cx.ret (g88_m1 x0 v4)) x0 v1 := by simp only [g88_4F, g88_4, g88_1_fx, g88_3_fx]
noncomputable def g88 (n : Nat) (x0 : List Int) (v1 : Int) : Option (DenR [.dat (.int .i64)] × DenR (backsOf [.io (.int .u8) 5, .dat (.int .i32)])) := g88_4 n (fun x0 v4 => some ((v4, ()), (x0, ()))) x0 v1
noncomputable def g88_A : List AK := [.io (.int .u8) 5, .dat (.int .i32)]
noncomputable def g88_R : List RK := [.dat (.int .i64)]
noncomputable def g88_f (n : Nat) (d : DenA g88_A) : Option (DenR g88_R × DenR (backsOf g88_A)) := g88 n d.1 d.2.1
noncomputable def g88_S (n : Nat) : Spec := mkSpecB g88_A g88_R (g88_f n)
noncomputable def g88_K : Sk := (.nd (.fin none none none [] .leaf) (.nd (.fin none (some g88_m2e) none [] .leaf) (.nd (.nd (.fin none none (some g88_m1e) [] .leaf) (.fin none none (some g88_m1e) [] .leaf)) .leaf)))
theorem g88_top (n : Nat) (s : FState) (cx : Cx β) : FX (g88_G n) n g88_B g88_K s cx = g88_4F n s cx := by kernel_rfl
theorem g88_ini (n : Nat) (d : DenA g88_A) (β : Type) (κ : FState → Option β) : putBacks 0 0 (backsOf g88_A) (ioPos g88_A 0) (toB g88_A d) (initS g88_A d) (fun s => normK (g88_G n) g88_m0e (setIo g88_A 0 s) κ) = κ (g88_m0 d.1 d.2.1) := by kernel_rfl
theorem g88_fit (n : Nat) : Fit Tryd.prog 88 (g88_S n) :=
  fit_ofB (Γ := Γ0) (l := g88_C n) (n := n) (sk := g88_K) (nf := g88_m0e) (m := fun d => g88_m0 d.1 d.2.1) (ts := [(4, none)]) (fn := Tryd.f88) (c := g88_B) (by kernel_rfl) (by kernel_rfl) (by unfold Callable; kernel_rfl) tab_ok trivial follows_mixed (by kernel_rfl) (by kernel_rfl) (Nat.le_of_ble_eq_true (by kernel_rfl)) (Nat.le_of_ble_eq_true (by kernel_rfl)) (by kernel_rfl) (by kernel_rfl) (g88_ini n)
    (fun d => (g88_top n _ _).trans (Eq.trans (b := g88_4F n (g88_m0 d.1 d.2.1) (finCxB (g88_G n) g88_A g88_R [(4, none)])) (by kernel_rfl) ((g88_4_fx n _ d.1 d.2.1).trans (by kernel_rfl))))
noncomputable def g73_m0 (x0 : List Int) (v1 : Int) : FState := ⟨tlist [(0, .sl 0 none false), (1, .dat (.int .i32) v1)], olist [(0, .row (.int .u8) 5 true x0)]⟩
noncomputable def g73_m0e : List NE := [.row 0 (.int .u8) 5 true, .keep 1]
noncomputable def g73_m1 (x0 : List Int) (v4 : Int) : FState := ⟨tlist [(0, .sl 0 none false), (4, .dat (.int .i64) v4)], olist [(0, .row (.int .u8) 5 true x0)]⟩
noncomputable def g73_m1e : List NE := [.row 0 (.int .u8) 5 true, .keep 4]
noncomputable def g73_C (n : Nat) : List (Nat × Spec) := [(88, g88_S n)]
noncomputable def g73_G (n : Nat) : Ctx := { Γ0 with calls := lkS (g73_C n) }
noncomputable def g73_B : Code := fb Tryd.f73
noncomputable def g73_1 (n : Nat) (kr : List Int → Int → Option β) (x0 : List Int) (v1 : Int) : Option β := bif (decide ((IntKind.u32.wrap (v1)) ≤ (127 : Int))) then (idx (0 : Int) (x0.length : Int) <| kr (x0.set (0 : Int).toNat (IntKind.u8.wrap (v1))) (1 : Int)) else ((g88 n x0 v1).bind fun r1 => kr r1.2.1 r1.1.1)
noncomputable def g73_1F (n : Nat) (s : FState) (cx : Cx β) : Option β := FX (g73_G n) n (nav g73_B [0]) (.fin none none (some g73_m1e) [] .leaf) s { cx with nrm := fun s => FX (g73_G n) n (nav g73_B [1, 0, 0]) (.fin none none (some g73_m1e) [] .leaf) s { cx with nrm := fun s => FX (g73_G n) n (nav g73_B [1, 0, 1]) (.fin none none (some g73_m1e) [] .leaf) s { cx with nrm := fun s => FX (g73_G n) n (nav g73_B [1, 1, 0]) (.fin none none (some g73_m1e) [] .leaf) s { cx with nrm := fun s => FX (g73_G n) n (nav g73_B [1, 1, 1]) (.fin none none (some g73_m1e) [] .leaf) s cx } } } }
theorem g73_1_fx (n : Nat) (cx : Cx β) (x0 : List Int) (v1 : Int) : g73_1F n (g73_m0 x0 v1) cx = g73_1 n (fun x0 v4 => cx.ret (g73_m1 x0 v4)) x0 v1 := by kernel_rfl
noncomputable def g73 (n : Nat) (x0 : List Int) (v1 : Int) : Option (DenR [.dat (.int .i64)] × DenR (backsOf [.io (.int .u8) 5, .dat (.int .i32)])) := g73_1 n (fun x0 v4 => some ((v4, ()), (x0, ()))) x0 v1
noncomputable def g73_A : List AK := [.io (.int .u8) 5, .dat (.int .i32)]
noncomputable def g73_R : List RK := [.dat (.int .i64)]
noncomputable def g73_f (n : Nat) (d : DenA g73_A) : Option (DenR g73_R × DenR (backsOf g73_A)) := g73 n d.1 d.2.1
noncomputable def g73_S (n : Nat) : Spec := mkSpecB g73_A g73_R (g73_f n)
noncomputable def g73_K : Sk := (.nd (.fin none none (some g73_m1e) [] .leaf) (.nd (.nd (.fin none none (some g73_m1e) [] .leaf) (.fin none none (some g73_m1e) [] .leaf)) (.nd (.fin none none (some g73_m1e) [] .leaf) (.fin none none (some g73_m1e) [] .leaf))))
theorem g73_top (n : Nat) (s : FState) (cx : Cx β) : FX (g73_G n) n g73_B g73_K s cx = g73_1F n s cx := by kernel_rfl
theorem g73_ini (n : Nat) (d : DenA g73_A) (β : Type) (κ : FState → Option β) : putBacks 0 0 (backsOf g73_A) (ioPos g73_A 0) (toB g73_A d) (initS g73_A d) (fun s => normK (g73_G n) g73_m0e (setIo g73_A 0 s) κ) = κ (g73_m0 d.1 d.2.1) := by kernel_rfl
theorem g73_fit (n : Nat) : Fit Tryd.prog 73 (g73_S n) :=
  fit_ofB (Γ := Γ0) (l := g73_C n) (n := n) (sk := g73_K) (nf := g73_m0e) (m := fun d => g73_m0 d.1 d.2.1) (ts := [(4, none)]) (fn := Tryd.f73) (c := g73_B) (by kernel_rfl) (by kernel_rfl) (by unfold Callable; kernel_rfl) tab_ok ⟨g88_fit n, trivial⟩ follows_mixed (by kernel_rfl) (by kernel_rfl) (Nat.le_of_ble_eq_true (by kernel_rfl)) (Nat.le_of_ble_eq_true (by kernel_rfl)) (by kernel_rfl) (by kernel_rfl) (g73_ini n)
    (fun d => (g73_top n _ _).trans (Eq.trans (b := g73_1F n (g73_m0 d.1 d.2.1) (finCxB (g73_G n) g73_A g73_R [(4, none)])) (by kernel_rfl) ((g73_1_fx n _ d.1 d.2.1).trans (by kernel_rfl))))
noncomputable def g62_m0 (v0 : Int) : FState := ⟨tlist [(0, .dat (.int .i32) v0)], olist []⟩
noncomputable def g62_m1 (v2 : Int) : FState := ⟨tlist [(2, .dat (.int .u32) v2)], olist []⟩
noncomputable def g62_m1e : List NE := [.keep 2]
noncomputable def g62_C (n : Nat) : List (Nat × Spec) := [(73, g73_S n)]
noncomputable def g62_G (n : Nat) : Ctx := { Γ0 with calls := lkS (g62_C n) }
noncomputable def g62_B : Code := fb Tryd.f62
noncomputable def g62_1 (n : Nat) (kr : Int → Option β) (v0 : Int) : Option β := bif (decide ((IntKind.u32.wrap (v0)) < (128 : Int))) then (kr (IntKind.u32.wrap (v0))) else ((g73 n [(0 : Int), (0 : Int), (0 : Int), (0 : Int)] v0).bind fun r1 => bif (r1.1.1 == (2 : Int)) then (idx (0 : Int) (r1.2.1.length : Int) <| idx (1 : Int) (r1.2.1.length : Int) <| kr (orI .u32 (shlI .u32 (IntKind.u32.wrap ((andI .u8 (rd r1.2.1 (0 : Int) (0 : Int)) (31 : Int)))) (6 : Int)) (IntKind.u32.wrap ((andI .u8 (rd r1.2.1 (1 : Int) (0 : Int)) (63 : Int)))))) else (bif (r1.1.1 == (3 : Int)) then (idx (0 : Int) (r1.2.1.length : Int) <| idx (1 : Int) (r1.2.1.length : Int) <| idx (2 : Int) (r1.2.1.length : Int) <| bif (decide ((orI .u32 (orI .u32 (shlI .u32 (IntKind.u32.wrap ((andI .u8 (rd r1.2.1 (0 : Int) (0 : Int)) (15 : Int)))) (12 : Int)) (shlI .u32 (IntKind.u32.wrap ((andI .u8 (rd r1.2.1 (1 : Int) (0 : Int)) (63 : Int)))) (6 : Int))) (IntKind.u32.wrap ((andI .u8 (rd r1.2.1 (2 : Int) (0 : Int)) (63 : Int))))) ≥ (57343 : Int))) then (kr (IntKind.u32.wrap ((orI .u32 (orI .u32 (shlI .u32 (IntKind.u32.wrap ((andI .u8 (rd r1.2.1 (0 : Int) (0 : Int)) (15 : Int)))) (12 : Int)) (shlI .u32 (IntKind.u32.wrap ((andI .u8 (rd r1.2.1 (1 : Int) (0 : Int)) (63 : Int)))) (6 : Int))) (IntKind.u32.wrap ((andI .u8 (rd r1.2.1 (2 : Int) (0 : Int)) (63 : Int))))) - (2048 : Int)))) else (kr (orI .u32 (orI .u32 (shlI .u32 (IntKind.u32.wrap ((andI .u8 (rd r1.2.1 (0 : Int) (0 : Int)) (15 : Int)))) (12 : Int)) (shlI .u32 (IntKind.u32.wrap ((andI .u8 (rd r1.2.1 (1 : Int) (0 : Int)) (63 : Int)))) (6 : Int))) (IntKind.u32.wrap ((andI .u8 (rd r1.2.1 (2 : Int) (0 : Int)) (63 : Int))))))) else (bif (r1.1.1 == (4 : Int)) then (idx (0 : Int) (r1.2.1.length : Int) <| idx (1 : Int) (r1.2.1.length : Int) <| idx (2 : Int) (r1.2.1.length : Int) <| idx (3 : Int) (r1.2.1.length : Int) <| kr (IntKind.u32.wrap ((IntKind.u32.wrap ((orI .u32 (orI .u32 (orI .u32 (shlI .u32 (IntKind.u32.wrap ((andI .u8 (rd r1.2.1 (0 : Int) (0 : Int)) (7 : Int)))) (18 : Int)) (shlI .u32 (IntKind.u32.wrap ((andI .u8 (rd r1.2.1 (1 : Int) (0 : Int)) (63 : Int)))) (12 : Int))) (shlI .u32 (IntKind.u32.wrap ((andI .u8 (rd r1.2.1 (2 : Int) (0 : Int)) (63 : Int)))) (6 : Int))) (IntKind.u32.wrap ((andI .u8 (rd r1.2.1 (3 : Int) (0 : Int)) (63 : Int))))) - (2048 : Int))) - (3 : Int)))) else none)))
noncomputable def g62_1F (n : Nat) (s : FState) (cx : Cx β) : Option β := FX (g62_G n) n (nav g62_B [0]) (.fin none none (some g62_m1e) [] .leaf) s { cx with nrm := fun s => FX (g62_G n) n (nav g62_B [1, 0]) (.fin none none (some g62_m1e) [] .leaf) s { cx with nrm := fun s => FX (g62_G n) n (nav g62_B [1, 1, 0, 0]) (.fin none none (some g62_m1e) [] .leaf) s { cx with nrm := fun s => FX (g62_G n) n (nav g62_B [1, 1, 0, 1]) (.fin none none (some g62_m1e) [] .leaf) s { cx with nrm := fun s => FX (g62_G n) n (nav g62_B [1, 1, 1, 0]) (.fin none none (some g62_m1e) [] .leaf) s { cx with nrm := fun s => FX (g62_G n) n (nav g62_B [1, 1, 1, 1, 0]) (.fin none none (some g62_m1e) [] .leaf) s { cx with nrm := fun s => FX (g62_G n) n (nav g62_B [1, 1, 1, 1, 1, 0, 0]) (.fin none none (some g62_m1e) [] .leaf) s { cx with nrm := fun s => FX (g62_G n) n (nav g62_B [1, 1, 1, 1, 1, 0, 1]) (.fin none none (some g62_m1e) [] .leaf) s { cx with nrm := fun s => FX (g62_G n) n (nav g62_B [1, 1, 1, 1, 1, 1, 0, 0]) (.fin none none (some g62_m1e) [] .leaf) s { cx with nrm := fun s => FX (g62_G n) n (nav g62_B [1, 1, 1, 1, 1, 1, 0, 1]) (.fin none none (some g62_m1e) [] .leaf) s { cx with nrm := fun s => FX (g62_G n) n (nav g62_B [1, 1, 1, 1, 1, 1, 1, 0, 0]) (.fin none none (some g62_m1e) [] .leaf) s { cx with nrm := fun s => FX (g62_G n) n (nav g62_B [1, 1, 1, 1, 1, 1, 1, 0, 1]) (.fin none none (some g62_m1e) [] .leaf) s { cx with nrm := fun s => FX (g62_G n) n (nav g62_B [1, 1, 1, 1, 1, 1, 1, 1]) (.fin none none (some g62_m1e) [] .leaf) s cx } } } } } } } } } } } }
theorem g62_1_fx (n : Nat) (cx : Cx β) (v0 : Int) : g62_1F n (g62_m0 v0) cx = g62_1 n (fun v2 => cx.ret (g62_m1 v2)) v0 := by kernel_rfl
noncomputable def g62 (n : Nat) (v0 : Int) : Option (DenR [.dat (.int .u32)]) := g62_1 n (fun v2 => some (v2, ())) v0
noncomputable def g62_A : List AK := [.dat (.int .i32)]
noncomputable def g62_R : List RK := [.dat (.int .u32)]
noncomputable def g62_f (n : Nat) (d : DenA g62_A) : Option (DenR g62_R) := g62 n d.1
noncomputable def g62_S (n : Nat) : Spec := mkSpec g62_A g62_R (g62_f n)
noncomputable def g62_K : Sk := (.nd (.fin none none (some g62_m1e) [] .leaf) (.nd (.fin none none (some g62_m1e) [] .leaf) (.nd (.nd (.fin none none (some g62_m1e) [] .leaf) (.fin none none (some g62_m1e) [] .leaf)) (.nd (.fin none none (some g62_m1e) [] .leaf) (.nd (.fin none none (some g62_m1e) [] .leaf) (.nd (.nd (.fin none none (some g62_m1e) [] .leaf) (.fin none none (some g62_m1e) [] .leaf)) (.nd (.nd (.fin none none (some g62_m1e) [] .leaf) (.fin none none (some g62_m1e) [] .leaf)) (.nd (.nd (.fin none none (some g62_m1e) [] .leaf) (.fin none none (some g62_m1e) [] .leaf)) (.fin none none (some g62_m1e) [] .leaf)))))))))
theorem g62_top (n : Nat) (s : FState) (cx : Cx β) : FX (g62_G n) n g62_B g62_K s cx = g62_1F n s cx := by kernel_rfl
theorem g62_fit (n : Nat) : Fit Tryd.prog 62 (g62_S n) :=
  fit_of (Γ := Γ0) (l := g62_C n) (n := n) (sk := g62_K) (ts := [(2, none)]) (fn := Tryd.f62) (c := g62_B) (by kernel_rfl) (by kernel_rfl) (by unfold Callable; kernel_rfl) tab_ok ⟨g73_fit n, trivial⟩ follows_mixed (by kernel_rfl) (by kernel_rfl) (Nat.le_of_ble_eq_true (by kernel_rfl)) (Nat.le_of_ble_eq_true (by kernel_rfl)) (by kernel_rfl) (by kernel_rfl)
    (fun d => (g62_top n _ _).trans (Eq.trans (b := g62_1F n (g62_m0 d.1) (finCx (g62_G n) g62_R [(2, none)])) (by kernel_rfl) ((g62_1_fx n _ d.1).trans (by kernel_rfl))))
noncomputable def g48_m0 (v0 : Int) : FState := ⟨tlist [(0, .dat (.int .i32) v0)], olist []⟩
noncomputable def g48_m1 (v2 : Int) : FState := ⟨tlist [(2, .dat (.int .u32) v2)], olist []⟩
noncomputable def g48_m1e : List NE := [.keep 2]
noncomputable def g48_C (n : Nat) : List (Nat × Spec) := [(62, g62_S n)]
noncomputable def g48_G (n : Nat) : Ctx := { Γ0 with calls := lkS (g48_C n) }
noncomputable def g48_B : Code := fb Tryd.f48
noncomputable def g48_1 (n : Nat) (kr : Int → Option β) (v0 : Int) : Option β := (g62 n v0).bind fun r1 => kr r1.1
noncomputable def g48_1F (n : Nat) (s : FState) (cx : Cx β) : Option β := FX (g48_G n) n (nav g48_B [0]) (.fin none none (some g48_m1e) [] .leaf) s { cx with nrm := fun s => FX (g48_G n) n (nav g48_B [1, 0]) (.fin none none (some g48_m1e) [] .leaf) s { cx with nrm := fun s => FX (g48_G n) n (nav g48_B [1, 1]) (.fin none none (some g48_m1e) [] .leaf) s cx } }
theorem g48_1_fx (n : Nat) (cx : Cx β) (v0 : Int) : g48_1F n (g48_m0 v0) cx = g48_1 n (fun v2 => cx.ret (g48_m1 v2)) v0 := by kernel_rfl
noncomputable def g48 (n : Nat) (v0 : Int) : Option (DenR [.dat (.int .u32)]) := g48_1 n (fun v2 => some (v2, ())) v0
noncomputable def g48_A : List AK := [.dat (.int .i32)]
noncomputable def g48_R : List RK := [.dat (.int .u32)]
noncomputable def g48_f (n : Nat) (d : DenA g48_A) : Option (DenR g48_R) := g48 n d.1
noncomputable def g48_S (n : Nat) : Spec := mkSpec g48_A g48_R (g48_f n)
noncomputable def g48_K : Sk := (.nd (.fin none none (some g48_m1e) [] .leaf) (.nd (.fin none none (some g48_m1e) [] .leaf) (.fin none none (some g48_m1e) [] .leaf)))
theorem g48_top (n : Nat) (s : FState) (cx : Cx β) : FX (g48_G n) n g48_B g48_K s cx = g48_1F n s cx := by kernel_rfl
theorem g48_fit (n : Nat) : Fit Tryd.prog 48 (g48_S n) :=
  fit_of (Γ := Γ0) (l := g48_C n) (n := n) (sk := g48_K) (ts := [(2, none)]) (fn := Tryd.f48) (c := g48_B) (by kernel_rfl) (by kernel_rfl) (by unfold Callable; kernel_rfl) tab_ok ⟨g62_fit n, trivial⟩ follows_mixed (by kernel_rfl) (by kernel_rfl) (Nat.le_of_ble_eq_true (by kernel_rfl)) (Nat.le_of_ble_eq_true (by kernel_rfl)) (by kernel_rfl) (by kernel_rfl)
    (fun d => (g48_top n _ _).trans (Eq.trans (b := g48_1F n (g48_m0 d.1) (finCx (g48_G n) g48_R [(2, none)])) (by kernel_rfl) ((g48_1_fx n _ d.1).trans (by kernel_rfl))))
theorem g47_idle : Idle Tryd.prog 47 2 := fun vs w hv => by
  obtain ⟨p0, p1, rfl⟩ := arr2 hv
  refine callsD_of_wpS (fn := Tryd.f47) (c := fb Tryd.f47) (by kernel_rfl) (by kernel_rfl) fun c₀ cs hu => ?_
  show Code.wpS Tryd.prog (.seq (nav (fb Tryd.f47) [0]) (.cond (.tmp 3) (nav (fb Tryd.f47) [1, 0]) .skip)) _ _ _ _
  apply wpS_seq
  apply wpS_region
  simp [wpOpsS, go_sem, recoverD, hu, Exit.thenS]
  refine wpS_cond (t := false) (by simp [Act.eval, Array.replicate]) ?_
  simp only [Bool.false_eq_true, if_false]
  refine wpS_of_wp (wp_skip ?_)
  cases c₀
  simp_all [bodyPostS, results]
noncomputable def g35_m0 (v0 : Int) : FState := ⟨tlist [(0, .dat (.int .i32) v0)], olist []⟩
noncomputable def g35_m1 (p2 p3 : Int) : FState := ⟨tlist [(2, .ptr 2 0 0), (3, .ptr 3 0 0)], olist [(2, .row (.int .u32) 61 true [p2]), (3, .row (.int .i64) 3 true [p3])]⟩
noncomputable def g35_m1e : List NE := [.ptr 2 (.int .u32) 61 true, .ptr 3 (.int .i64) 3 true]
noncomputable def g35_m2 (v0 p2 p3 : Int) : FState := ⟨tlist [(0, .dat (.int .i32) v0), (2, .ptr 2 0 0), (3, .ptr 3 0 0)], olist [(2, .row (.int .u32) 61 true [p2]), (3, .row (.int .i64) 3 true [p3])]⟩
noncomputable def g35_m2e : List NE := [.keep 0, .ptr 2 (.int .u32) 61 true, .ptr 3 (.int .i64) 3 true]
noncomputable def g35_C (n : Nat) : List (Nat × Spec) := [(48, g48_S n)]
noncomputable def g35_G (n : Nat) : Ctx := { Γ0 with calls := lkS (g35_C n) }
noncomputable def g35_B : Code := fb Tryd.f35
noncomputable def g35_1 (n : Nat) (kn : Int → Int → Int → Option β) (v0 : Int) : Option β := kn v0 (0 : Int) (0 : Int)
noncomputable def g35_1F (n : Nat) (s : FState) (cx : Cx β) : Option β := FX (g35_G n) n (nav g35_B [0]) (.fin none (some g35_m2e) none [] .leaf) s cx
theorem g35_1_fx (n : Nat) (cx : Cx β) (v0 : Int) : g35_1F n (g35_m0 v0) cx = g35_1 n (fun v0 p2 p3 => cx.nrm (g35_m2 v0 p2 p3)) v0 := by kernel_rfl
noncomputable def g35_2 (n : Nat) (kr : Int → Int → Option β) (v0 p2 p3 : Int) : Option β := (g48 n v0).bind fun r1 => kr r1.1 (0 : Int)
noncomputable def g35_2F (n : Nat) (s : FState) (cx : Cx β) : Option β := FX (g35_G n) n (nav g35_B [1, 1, 0]) (.fin none none (some g35_m1e) [] .leaf) s { cx with nrm := fun s => FX (g35_G n) n (nav g35_B [1, 1, 1]) (.fin none none (some g35_m1e) [] .leaf) s cx }
theorem g35_2_fx (n : Nat) (cx : Cx β) (v0 p2 p3 : Int) : g35_2F n (g35_m2 v0 p2 p3) cx = g35_2 n (fun p2 p3 => cx.ret (g35_m1 p2 p3)) v0 p2 p3 := by kernel_rfl
noncomputable def g35 (n : Nat) (v0 : Int) : Option (DenR [.dat (.int .u32), .dat (.int .i64)]) := g35_1 n (fun v0 p2 p3 => g35_2 n (fun p2 p3 => some (p2, (p3, ()))) v0 p2 p3) v0
noncomputable def g35_A : List AK := [.dat (.int .i32)]
noncomputable def g35_R : List RK := [.dat (.int .u32), .dat (.int .i64)]
noncomputable def g35_f (n : Nat) (d : DenA g35_A) : Option (DenR g35_R) := g35 n d.1
noncomputable def g35_S (n : Nat) : Spec := mkSpec g35_A g35_R (g35_f n)
noncomputable def g35_K0 : Sk := (.fin none (some g35_m2e) none [] .leaf)
noncomputable def g35_K1 : Sk := (.nd (.fin none none (some g35_m1e) [] .leaf) (.fin none none (some g35_m1e) [] .leaf))
noncomputable def g35_K2 : Sk := (.fin (some g35_m2e) none none [] (.nd (.fin none none (some g35_m1e) [] .leaf) (.fin none none (some g35_m1e) [] .leaf)))
theorem g35_top (n : Nat) (s : FState) (cx : Cx β) : FX (g35_G n) n (nav g35_B [1, 1]) g35_K1 s cx = g35_2F n s cx := by kernel_rfl
theorem g35_mid (n : Nat) (cx : Cx β) (v0 p2 p3 : Int) : FX (g35_G n) n (nav g35_B [1, 1]) g35_K2 (FState.set (g35_m2 v0 p2 p3) 4 .dead) cx = g35_2 n (fun p2 p3 => cx.ret (g35_m1 p2 p3)) v0 p2 p3 :=
  Eq.trans (b := FX (g35_G n) n (nav g35_B [1, 1]) g35_K1 (g35_m2 v0 p2 p3) cx) (by kernel_rfl) ((g35_top n _ _).trans (g35_2_fx n cx v0 p2 p3))
theorem g35_fit (n : Nat) : Fit Tryd.prog 35 (g35_S n) :=
  fit_of_wrap (Γ := Γ0) (l := g35_C n) (n := n) (sk0 := g35_K0) (sk1 := g35_K2) (ts := [(2, some 61), (3, some 3)]) (fn := Tryd.f35) (c := g35_B) (c0 := nav g35_B [0]) (c1 := nav g35_B [1, 1]) (tm := 4) (g := 47) (k := 2) (by kernel_rfl) (by kernel_rfl) (by kernel_rfl) (by unfold Callable; kernel_rfl) tab_ok ⟨g48_fit n, trivial⟩ follows_mixed (by unfold Callable; kernel_rfl) g47_idle (by kernel_rfl) (by kernel_rfl) (by kernel_rfl) (Nat.le_of_ble_eq_true (by kernel_rfl)) (Nat.le_of_ble_eq_true (by kernel_rfl)) (Nat.le_of_ble_eq_true (by kernel_rfl)) (by kernel_rfl) (by kernel_rfl)
    (fun d => Eq.trans (b := g35_1F n (g35_m0 d.1) ⟨fun s => FX (g35_G n) n (nav g35_B [1, 1]) g35_K2 (FState.set s 4 .dead) (finCx (g35_G n) g35_R [(2, some 61), (3, some 3)]), fun _ => none, fun _ _ => none⟩) (by kernel_rfl) ((g35_1_fx n _ d.1).trans (Eq.trans (b := g35_1 n (fun v0 p2 p3 => g35_2 n (fun p2 p3 => (finCx (g35_G n) g35_R [(2, some 61), (3, some 3)]).ret (g35_m1 p2 p3)) v0 p2 p3) d.1) (congrArg (fun k_ => g35_1 n k_ d.1) (funext fun v0 => (funext fun p2 => (funext fun p3 => g35_mid n (finCx (g35_G n) g35_R [(2, some 61), (3, some 3)]) v0 p2 p3)))) (by kernel_rfl))))
noncomputable def g17_m0 (x0 : List Int) (x1 : List ByteArray) (v2 : ByteArray) : FState := ⟨tlist [(0, .sl 0 none false), (1, .sl 1 none false), (2, .dat .str v2)], olist [(0, .row (.int .i32) 21 false x0), (1, .row .str 9 false x1)]⟩
noncomputable def g17_m1 (v6 : Bool) : FState := ⟨tlist [(6, .dat .bool v6)], olist []⟩
noncomputable def g17_m1e : List NE := [.keep 6]
noncomputable def g17_m2 (x1 x7 : List ByteArray) (x19 : List Int) (v20 v21 : Int) : FState := ⟨tlist [(1, .sl 1 none false), (7, .sl 7 none false), (19, .sl 19 none false), (20, .dat (.int .i64) v20), (21, .dat (.int .i64) v21)], olist [(1, .row .str 9 false x1), (7, .row .str 9 true x7), (19, .row (.int .i32) 21 false x19)]⟩
noncomputable def g17_m2e : List NE := [.row 1 .str 9 false, .row 7 .str 9 true, .row 19 (.int .i32) 21 false, .keep 20, .keep 21]
noncomputable def g17_m3 : FState := ⟨tlist [], olist []⟩
noncomputable def g17_m3e : List NE := []
noncomputable def g17_C (n : Nat) : List (Nat × Spec) := [(34, g34_S n), (35, g35_S n)]
noncomputable def g17_G (n : Nat) : Ctx := { Γ0 with calls := lkS (g17_C n) }
noncomputable def g17_B : Code := fb Tryd.f17
noncomputable def g17_1 (n : Nat) (kn : List ByteArray → List ByteArray → List Int → Int → Int → Option β) (kr : Bool → Option β) (x0 : List Int) (x1 : List ByteArray) (v2 : ByteArray) : Option β := (g34 n v2).bind fun r1 => bif ((x0.length : Int) != (r1.1.length : Int)) then (kr false) else (kn x1 r1.1 x0 (x0.length : Int) (0 : Int))
noncomputable def g17_1F (n : Nat) (s : FState) (cx : Cx β) : Option β := FX (g17_G n) n (nav g17_B [0]) (.fin none none (some g17_m1e) [] .leaf) s { cx with nrm := fun s => FX (g17_G n) n (nav g17_B [1, 0]) (.fin none none (some g17_m1e) [] .leaf) s { cx with nrm := fun s => FX (g17_G n) n (nav g17_B [1, 1, 0, 0]) (.fin none none (some g17_m1e) [] .leaf) s { cx with nrm := fun s => FX (g17_G n) n (nav g17_B [1, 1, 0, 1]) (.fin none none (some g17_m1e) [] .leaf) s { cx with nrm := fun s => FX (g17_G n) n (nav g17_B [1, 1, 1, 0, 0]) (.fin none (some g17_m2e) (some g17_m1e) [] .leaf) s cx } } } }
theorem g17_1_fx (n : Nat) (cx : Cx β) (x0 : List Int) (x1 : List ByteArray) (v2 : ByteArray) : g17_1F n (g17_m0 x0 x1 v2) cx = g17_1 n (fun x1 x7 x19 v20 v21 => cx.nrm (g17_m2 x1 x7 x19 v20 v21)) (fun v6 => cx.ret (g17_m1 v6)) x0 x1 v2 := by kernel_rfl
noncomputable def g17_2 (n : Nat) (kn : List ByteArray → List ByteArray → List Int → Int → Int → Option β) (kr : Bool → Option β) (kx0 : Option β) (x1 x7 : List ByteArray) (x19 : List Int) (v20 v21 : Int) : Option β := bif (decide (v21 < v20)) then (idx v21 (x19.length : Int) <| (g35 n (rd x19 v21 (0 : Int))).bind fun r1 => bif (r1.2.1 != (0 : Int)) then (kr false) else (bif (decide ((w64 (r1.1)) ≥ (x1.length : Int))) then (kr false) else (idx r1.1 (x1.length : Int) <| idx v21 (x7.length : Int) <| bif (!strEq (rd x1 r1.1 (⟨#[]⟩ : ByteArray)) (rd x7 v21 (⟨#[]⟩ : ByteArray))) then (kr false) else (kn x1 x7 x19 v20 (w64 (v21 + (1 : Int))))))) else kx0
noncomputable def g17_2F (n : Nat) (s : FState) (cx : Cx β) : Option β := FX (g17_G n) n (nav g17_B [1, 1, 1, 0, 1, 0, 0, 0]) (.fin none none (some g17_m1e) [(0, g17_m3e)] .leaf) s { cx with nrm := fun s => FX (g17_G n) n (nav g17_B [1, 1, 1, 0, 1, 0, 0, 1, 0]) (.fin none none (some g17_m1e) [(0, g17_m3e)] .leaf) s { cx with nrm := fun s => FX (g17_G n) n (nav g17_B [1, 1, 1, 0, 1, 0, 0, 1, 1, 0]) (.fin none none (some g17_m1e) [(0, g17_m3e)] .leaf) s { cx with nrm := fun s => FX (g17_G n) n (nav g17_B [1, 1, 1, 0, 1, 0, 0, 1, 1, 1]) (.fin none (some g17_m2e) (some g17_m1e) [(0, g17_m3e)] .leaf) s cx } } }
theorem g17_2_fx (n : Nat) (cx : Cx β) (x1 x7 : List ByteArray) (x19 : List Int) (v20 v21 : Int) : g17_2F n (g17_m2 x1 x7 x19 v20 v21) cx = g17_2 n (fun x1 x7 x19 v20 v21 => cx.nrm (g17_m2 x1 x7 x19 v20 v21)) (fun v6 => cx.ret (g17_m1 v6)) (cx.ex 0 g17_m3) x1 x7 x19 v20 v21 := by kernel_rfl
noncomputable def g17_3L (n : Nat) (kr : Bool → Option β) (kx0 : Option β) : Nat → List ByteArray → List ByteArray → List Int → Int → Int → Option β
  | 0, _, _, _, _, _ => none
  | m + 1, x1, x7, x19, v20, v21 => g17_2 n (g17_3L n kr kx0 m) kr kx0 x1 x7 x19 v20 v21
noncomputable def g17_3 (n : Nat) (kr : Bool → Option β) (kx0 : Option β) (x1 x7 : List ByteArray) (x19 : List Int) (v20 v21 : Int) : Option β := g17_3L n kr kx0 n x1 x7 x19 v20 v21
noncomputable def g17_3F (n : Nat) (s : FState) (cx : Cx β) : Option β := loopN (fun again s => g17_2F n s { cx with nrm := again }) n s
theorem g17_3L_fx (n : Nat) (cx : Cx β) : ∀ (m : Nat) (x1 x7 : List ByteArray) (x19 : List Int) (v20 v21 : Int), loopN (fun again s => g17_2F n s { cx with nrm := again }) m (g17_m2 x1 x7 x19 v20 v21) = g17_3L n (fun v6 => cx.ret (g17_m1 v6)) (cx.ex 0 g17_m3) m x1 x7 x19 v20 v21 := by
  intro m
  induction m with
  | zero => intros; rfl
  | succ m ih => intros; simp only [loopN, g17_3L, g17_2_fx, ih]
theorem g17_3_fx (n : Nat) (cx : Cx β) (x1 x7 : List ByteArray) (x19 : List Int) (v20 v21 : Int) : g17_3F n (g17_m2 x1 x7 x19 v20 v21) cx = g17_3 n (fun v6 => cx.ret (g17_m1 v6)) (cx.ex 0 g17_m3) x1 x7 x19 v20 v21 := g17_3L_fx n cx n x1 x7 x19 v20 v21
noncomputable def g17_4 (n : Nat) (kn : Option β) (kr : Bool → Option β) (x1 x7 : List ByteArray) (x19 : List Int) (v20 v21 : Int) : Option β := g17_3 n kr kn x1 x7 x19 v20 v21
noncomputable def g17_4F (n : Nat) (s : FState) (cx : Cx β) : Option β := g17_3F n s { cx with ex := fun j s => bif Nat.beq j 0 then cx.nrm s else cx.ex j s }
theorem g17_4_fx (n : Nat) (cx : Cx β) (x1 x7 : List ByteArray) (x19 : List Int) (v20 v21 : Int) : g17_4F n (g17_m2 x1 x7 x19 v20 v21) cx = g17_4 n (cx.nrm g17_m3) (fun v6 => cx.ret (g17_m1 v6)) x1 x7 x19 v20 v21 := g17_3_fx n _ x1 x7 x19 v20 v21
noncomputable def g17_5 (n : Nat) (kr : Bool → Option β) : Option β := kr true
noncomputable def g17_5F (n : Nat) (s : FState) (cx : Cx β) : Option β := FX (g17_G n) n (nav g17_B [1, 1, 1, 1, 0]) (.fin none none (some g17_m1e) [] .leaf) s { cx with nrm := fun s => FX (g17_G n) n (nav g17_B [1, 1, 1, 1, 1]) (.fin none none (some g17_m1e) [] .leaf) s cx }
theorem g17_5_fx (n : Nat) (cx : Cx β) : g17_5F n g17_m3 cx = g17_5 n (fun v6 => cx.ret (g17_m1 v6)) := by kernel_rfl
noncomputable def g17_6 (n : Nat) (kr : Bool → Option β) (x0 : List Int) (x1 : List ByteArray) (v2 : ByteArray) : Option β := g17_1 n (fun x1 x7 x19 v20 v21 => g17_4 n (g17_5 n kr) kr x1 x7 x19 v20 v21) kr x0 x1 v2
noncomputable def g17_6F (n : Nat) (s : FState) (cx : Cx β) : Option β := g17_1F n s { cx with nrm := fun s => g17_4F n s { cx with nrm := fun s => g17_5F n s cx } }
theorem g17_6_fx (n : Nat) (cx : Cx β) (x0 : List Int) (x1 : List ByteArray) (v2 : ByteArray) : g17_6F n (g17_m0 x0 x1 v2) cx = g17_6 n (fun v6 => cx.ret (g17_m1 v6)) x0 x1 v2 := by simp only [g17_6F, g17_6, g17_1_fx, g17_4_fx, g17_5_fx]
noncomputable def g17 (n : Nat) (x0 : List Int) (x1 : List ByteArray) (v2 : ByteArray) : Option (DenR [.dat .bool]) := g17_6 n (fun v6 => some (v6, ())) x0 x1 v2
noncomputable def g17_A : List AK := [.ro (.int .i32) 21, .ro .str 9, .dat .str]
noncomputable def g17_R : List RK := [.dat .bool]
noncomputable def g17_f (n : Nat) (d : DenA g17_A) : Option (DenR g17_R) := g17 n d.1 d.2.1 d.2.2.1
noncomputable def g17_S (n : Nat) : Spec := mkSpec g17_A g17_R (g17_f n)
noncomputable def g17_K : Sk := (.nd (.fin none none (some g17_m1e) [] .leaf) (.nd (.fin none none (some g17_m1e) [] .leaf) (.nd (.nd (.fin none none (some g17_m1e) [] .leaf) (.fin none none (some g17_m1e) [] .leaf)) (.nd (.nd (.fin none (some g17_m2e) (some g17_m1e) [] .leaf) (.nd (.nd (.nd (.fin none none (some g17_m1e) [(0, g17_m3e)] .leaf) (.nd (.fin none none (some g17_m1e) [(0, g17_m3e)] .leaf) (.nd (.fin none none (some g17_m1e) [(0, g17_m3e)] .leaf) (.fin none (some g17_m2e) (some g17_m1e) [(0, g17_m3e)] .leaf)))) .leaf) .leaf)) (.nd (.fin none none (some g17_m1e) [] .leaf) (.fin none none (some g17_m1e) [] .leaf))))))
theorem g17_top (n : Nat) (s : FState) (cx : Cx β) : FX (g17_G n) n g17_B g17_K s cx = g17_6F n s cx := by kernel_rfl
theorem g17_fit (n : Nat) : Fit Tryd.prog 17 (g17_S n) :=
  fit_of (Γ := Γ0) (l := g17_C n) (n := n) (sk := g17_K) (ts := [(6, none)]) (fn := Tryd.f17) (c := g17_B) (by kernel_rfl) (by kernel_rfl) (by unfold Callable; kernel_rfl) tab_ok ⟨g34_fit n, g35_fit n, trivial⟩ follows_mixed (by kernel_rfl) (by kernel_rfl) (Nat.le_of_ble_eq_true (by kernel_rfl)) (Nat.le_of_ble_eq_true (by kernel_rfl)) (by kernel_rfl) (by kernel_rfl)
    (fun d => (g17_top n _ _).trans (Eq.trans (b := g17_6F n (g17_m0 d.1 d.2.1 d.2.2.1) (finCx (g17_G n) g17_R [(6, none)])) (by kernel_rfl) ((g17_6_fx n _ d.1 d.2.1 d.2.2.1).trans (by kernel_rfl))))
noncomputable def g18_m0 (x0 : List ByteArray) : FState := ⟨tlist [(0, .sl 0 none false)], olist [(0, .row .str 9 false x0)]⟩
noncomputable def g18_m1 (v2 : Bool) : FState := ⟨tlist [(2, .dat .bool v2)], olist []⟩
noncomputable def g18_m1e : List NE := [.keep 2]
noncomputable def g18_m2 (x0 x6 : List ByteArray) (v7 v8 : Int) : FState := ⟨tlist [(0, .sl 0 none false), (6, .sl 6 none false), (7, .dat (.int .i64) v7), (8, .dat (.int .i64) v8)], olist [(0, .row .str 9 false x0), (6, .row .str 9 false x6)]⟩
noncomputable def g18_m2e : List NE := [.row 0 .str 9 false, .row 6 .str 9 false, .keep 7, .keep 8]
noncomputable def g18_m3 : FState := ⟨tlist [], olist []⟩
noncomputable def g18_m3e : List NE := []
noncomputable def g18_m4 (x0 x6 : List ByteArray) (v7 v8 : Int) : FState := ⟨tlist [(0, .sl 0 none false), (6, .sl 6 none false), (7, .dat (.int .i64) v7), (8, .dat (.int .i64) v8)], olist [(0, .row .str 9 false x0), (6, .row .str 9 false x6)]⟩
noncomputable def g18_m4e : List NE := [.row 0 .str 9 false, .row 6 .str 9 false, .keep 7, .keep 8]
noncomputable def g18_m5 (x0 x6 : List ByteArray) (v7 v8 : Int) : FState := ⟨tlist [(0, .sl 0 none false), (6, .sl 6 none false), (7, .dat (.int .i64) v7), (8, .dat (.int .i64) v8)], olist [(0, .row .str 9 false x0), (6, .row .str 9 false x6)]⟩
noncomputable def g18_m5e : List NE := [.row 0 .str 9 false, .row 6 .str 9 false, .keep 7, .keep 8]
noncomputable def g18_m6 (x0 : List ByteArray) (v3 : Int) (v4 : ByteArray) (v5 : Int) (x6 : List ByteArray) (v7 v8 : Int) : FState := ⟨tlist [(0, .sl 0 none false), (3, .dat (.int .i64) v3), (4, .dat .str v4), (5, .dat (.int .i64) v5), (6, .sl 6 none false), (7, .dat (.int .i64) v7), (8, .dat (.int .i64) v8)], olist [(0, .row .str 9 false x0), (6, .row .str 9 false x6)]⟩
noncomputable def g18_m6e : List NE := [.row 0 .str 9 false, .keep 3, .keep 4, .keep 5, .row 6 .str 9 false, .keep 7, .keep 8]
noncomputable def g18_C (n : Nat) : List (Nat × Spec) := []
noncomputable def g18_G (n : Nat) : Ctx := { Γ0 with calls := lkS (g18_C n) }
noncomputable def g18_B : Code := fb Tryd.f18
noncomputable def g18_1 (n : Nat) (kn : List ByteArray → List ByteArray → Int → Int → Option β) (x0 : List ByteArray) : Option β := kn x0 x0 (x0.length : Int) (0 : Int)
noncomputable def g18_1F (n : Nat) (s : FState) (cx : Cx β) : Option β := FX (g18_G n) n (nav g18_B [0]) (.fin none none none [] .leaf) s { cx with nrm := fun s => FX (g18_G n) n (nav g18_B [1, 0, 0]) (.fin none (some g18_m2e) none [] .leaf) s cx }
theorem g18_1_fx (n : Nat) (cx : Cx β) (x0 : List ByteArray) : g18_1F n (g18_m0 x0) cx = g18_1 n (fun x0 x6 v7 v8 => cx.nrm (g18_m2 x0 x6 v7 v8)) x0 := by kernel_rfl
noncomputable def g18_2 (n : Nat) (kn : List ByteArray → List ByteArray → Int → Int → Option β) (kx0 : Option β) (x0 x6 : List ByteArray) (v7 v8 : Int) : Option β := bif (decide (v8 < v7)) then (kn x0 x6 v7 v8) else kx0
noncomputable def g18_2F (n : Nat) (s : FState) (cx : Cx β) : Option β := FX (g18_G n) n (nav g18_B [1, 0, 1, 0, 0, 0]) (.fin none none none [(0, g18_m3e)] .leaf) s { cx with nrm := fun s => FX (g18_G n) n (nav g18_B [1, 0, 1, 0, 0, 1, 0]) (.fin none (some g18_m4e) none [(0, g18_m3e)] .leaf) s cx }
theorem g18_2_fx (n : Nat) (cx : Cx β) (x0 x6 : List ByteArray) (v7 v8 : Int) : g18_2F n (g18_m2 x0 x6 v7 v8) cx = g18_2 n (fun x0 x6 v7 v8 => cx.nrm (g18_m4 x0 x6 v7 v8)) (cx.ex 0 g18_m3) x0 x6 v7 v8 := by kernel_rfl
noncomputable def g18_3 (n : Nat) (kn : List ByteArray → Int → ByteArray → Int → List ByteArray → Int → Int → Option β) (kr : Bool → Option β) (x0 x6 : List ByteArray) (v7 v8 : Int) : Option β := idx v8 (x6.length : Int) <| bif ((strEq (rd x6 v8 (⟨#[]⟩ : ByteArray)) (⟨#[]⟩ : ByteArray)) != (v8 == (0 : Int))) then (kr false) else (kn x0 v8 (rd x6 v8 (⟨#[]⟩ : ByteArray)) (0 : Int) x6 v7 v8)
noncomputable def g18_3F (n : Nat) (s : FState) (cx : Cx β) : Option β := FX (g18_G n) n (nav g18_B [1, 0, 1, 0, 0, 1, 1, 0, 0, 0]) (.fin none none (some g18_m1e) [] .leaf) s { cx with nrm := fun s => FX (g18_G n) n (nav g18_B [1, 0, 1, 0, 0, 1, 1, 0, 0, 1, 0, 0]) (.fin none none (some g18_m1e) [] .leaf) s { cx with nrm := fun s => FX (g18_G n) n (nav g18_B [1, 0, 1, 0, 0, 1, 1, 0, 0, 1, 0, 1]) (.fin none none (some g18_m1e) [] .leaf) s { cx with nrm := fun s => FX (g18_G n) n (nav g18_B [1, 0, 1, 0, 0, 1, 1, 0, 0, 1, 1, 0]) (.fin none (some g18_m6e) (some g18_m1e) [] .leaf) s cx } } }
theorem g18_3_fx (n : Nat) (cx : Cx β) (x0 x6 : List ByteArray) (v7 v8 : Int) : g18_3F n (g18_m4 x0 x6 v7 v8) cx = g18_3 n (fun x0 v3 v4 v5 x6 v7 v8 => cx.nrm (g18_m6 x0 v3 v4 v5 x6 v7 v8)) (fun v2 => cx.ret (g18_m1 v2)) x0 x6 v7 v8 := by kernel_rfl
noncomputable def g18_4 (n : Nat) (kn : List ByteArray → Int → ByteArray → Int → List ByteArray → Int → Int → Option β) (kr : Bool → Option β) (kx2 : List ByteArray → List ByteArray → Int → Int → Option β) (x0 : List ByteArray) (v3 : Int) (v4 : ByteArray) (v5 : Int) (x6 : List ByteArray) (v7 v8 : Int) : Option β := bif (decide (v5 < v3)) then (idx v5 (x0.length : Int) <| bif (strEq (rd x0 v5 (⟨#[]⟩ : ByteArray)) v4) then (kr false) else (kn x0 v3 v4 (w64 (v5 + (1 : Int))) x6 v7 v8)) else (kx2 x0 x6 v7 v8)
noncomputable def g18_4F (n : Nat) (s : FState) (cx : Cx β) : Option β := FX (g18_G n) n (nav g18_B [1, 0, 1, 0, 0, 1, 1, 0, 0, 1, 1, 1, 0, 0, 0, 0]) (.fin none none (some g18_m1e) [(2, g18_m5e)] .leaf) s { cx with nrm := fun s => FX (g18_G n) n (nav g18_B [1, 0, 1, 0, 0, 1, 1, 0, 0, 1, 1, 1, 0, 0, 0, 1]) (.fin none none (some g18_m1e) [(2, g18_m5e)] .leaf) s { cx with nrm := fun s => FX (g18_G n) n (nav g18_B [1, 0, 1, 0, 0, 1, 1, 0, 0, 1, 1, 1, 0, 0, 1, 0]) (.fin none none (some g18_m1e) [(2, g18_m5e)] .leaf) s { cx with nrm := fun s => FX (g18_G n) n (nav g18_B [1, 0, 1, 0, 0, 1, 1, 0, 0, 1, 1, 1, 0, 0, 1, 1]) (.fin none (some g18_m6e) (some g18_m1e) [(2, g18_m5e)] .leaf) s cx } } }
theorem g18_4_fx (n : Nat) (cx : Cx β) (x0 : List ByteArray) (v3 : Int) (v4 : ByteArray) (v5 : Int) (x6 : List ByteArray) (v7 v8 : Int) : g18_4F n (g18_m6 x0 v3 v4 v5 x6 v7 v8) cx = g18_4 n (fun x0 v3 v4 v5 x6 v7 v8 => cx.nrm (g18_m6 x0 v3 v4 v5 x6 v7 v8)) (fun v2 => cx.ret (g18_m1 v2)) (fun x0 x6 v7 v8 => cx.ex 2 (g18_m5 x0 x6 v7 v8)) x0 v3 v4 v5 x6 v7 v8 := by kernel_rfl
noncomputable def g18_5L (n : Nat) (kr : Bool → Option β) (kx2 : List ByteArray → List ByteArray → Int → Int → Option β) : Nat → List ByteArray → Int → ByteArray → Int → List ByteArray → Int → Int → Option β
  | 0, _, _, _, _, _, _, _ => none
  | m + 1, x0, v3, v4, v5, x6, v7, v8 => g18_4 n (g18_5L n kr kx2 m) kr kx2 x0 v3 v4 v5 x6 v7 v8
noncomputable def g18_5 (n : Nat) (kr : Bool → Option β) (kx2 : List ByteArray → List ByteArray → Int → Int → Option β) (x0 : List ByteArray) (v3 : Int) (v4 : ByteArray) (v5 : Int) (x6 : List ByteArray) (v7 v8 : Int) : Option β := g18_5L n kr kx2 n x0 v3 v4 v5 x6 v7 v8
noncomputable def g18_5F (n : Nat) (s : FState) (cx : Cx β) : Option β := loopN (fun again s => g18_4F n s { cx with nrm := again }) n s
theorem g18_5L_fx (n : Nat) (cx : Cx β) : ∀ (m : Nat) (x0 : List ByteArray) (v3 : Int) (v4 : ByteArray) (v5 : Int) (x6 : List ByteArray) (v7 v8 : Int), loopN (fun again s => g18_4F n s { cx with nrm := again }) m (g18_m6 x0 v3 v4 v5 x6 v7 v8) = g18_5L n (fun v2 => cx.ret (g18_m1 v2)) (fun x0 x6 v7 v8 => cx.ex 2 (g18_m5 x0 x6 v7 v8)) m x0 v3 v4 v5 x6 v7 v8 := by
  intro m
  induction m with
  | zero => intros; rfl
  | succ m ih => intros; simp only [loopN, g18_5L, g18_4_fx, ih]
theorem g18_5_fx (n : Nat) (cx : Cx β) (x0 : List ByteArray) (v3 : Int) (v4 : ByteArray) (v5 : Int) (x6 : List ByteArray) (v7 v8 : Int) : g18_5F n (g18_m6 x0 v3 v4 v5 x6 v7 v8) cx = g18_5 n (fun v2 => cx.ret (g18_m1 v2)) (fun x0 x6 v7 v8 => cx.ex 2 (g18_m5 x0 x6 v7 v8)) x0 v3 v4 v5 x6 v7 v8 := g18_5L_fx n cx n x0 v3 v4 v5 x6 v7 v8
noncomputable def g18_6 (n : Nat) (kn : List ByteArray → List ByteArray → Int → Int → Option β) (kr : Bool → Option β) (x0 : List ByteArray) (v3 : Int) (v4 : ByteArray) (v5 : Int) (x6 : List ByteArray) (v7 v8 : Int) : Option β := g18_5 n kr kn x0 v3 v4 v5 x6 v7 v8
noncomputable def g18_6F (n : Nat) (s : FState) (cx : Cx β) : Option β := g18_5F n s { cx with ex := fun j s => bif Nat.beq j 2 then cx.nrm s else cx.ex j s }
theorem g18_6_fx (n : Nat) (cx : Cx β) (x0 : List ByteArray) (v3 : Int) (v4 : ByteArray) (v5 : Int) (x6 : List ByteArray) (v7 v8 : Int) : g18_6F n (g18_m6 x0 v3 v4 v5 x6 v7 v8) cx = g18_6 n (fun x0 x6 v7 v8 => cx.nrm (g18_m5 x0 x6 v7 v8)) (fun v2 => cx.ret (g18_m1 v2)) x0 v3 v4 v5 x6 v7 v8 := g18_5_fx n _ x0 v3 v4 v5 x6 v7 v8
noncomputable def g18_7 (n : Nat) (kn : List ByteArray → List ByteArray → Int → Int → Option β) (kr : Bool → Option β) (x0 x6 : List ByteArray) (v7 v8 : Int) : Option β := g18_3 n (fun x0 v3 v4 v5 x6 v7 v8 => g18_6 n kn kr x0 v3 v4 v5 x6 v7 v8) kr x0 x6 v7 v8
noncomputable def g18_7F (n : Nat) (s : FState) (cx : Cx β) : Option β := g18_3F n s { cx with nrm := fun s => g18_6F n s cx }
theorem g18_7_fx (n : Nat) (cx : Cx β) (x0 x6 : List ByteArray) (v7 v8 : Int) : g18_7F n (g18_m4 x0 x6 v7 v8) cx = g18_7 n (fun x0 x6 v7 v8 => cx.nrm (g18_m5 x0 x6 v7 v8)) (fun v2 => cx.ret (g18_m1 v2)) x0 x6 v7 v8 := by simp only [g18_7F, g18_7, g18_3_fx, g18_6_fx]
noncomputable def g18_8 (n : Nat) (kn : List ByteArray → List ByteArray → Int → Int → Option β) (kr : Bool → Option β) (x0 x6 : List ByteArray) (v7 v8 : Int) : Option β := g18_7 n kn kr x0 x6 v7 v8
noncomputable def g18_8F (n : Nat) (s : FState) (cx : Cx β) : Option β := g18_7F n s { cx with ex := fun j s => bif Nat.beq j 1 then cx.nrm s else cx.ex j s }
theorem g18_8_fx (n : Nat) (cx : Cx β) (x0 x6 : List ByteArray) (v7 v8 : Int) : g18_8F n (g18_m4 x0 x6 v7 v8) cx = g18_8 n (fun x0 x6 v7 v8 => cx.nrm (g18_m5 x0 x6 v7 v8)) (fun v2 => cx.ret (g18_m1 v2)) x0 x6 v7 v8 := g18_7_fx n _ x0 x6 v7 v8
noncomputable def g18_9 (n : Nat) (kn : List ByteArray → List ByteArray → Int → Int → Option β) (x0 x6 : List ByteArray) (v7 v8 : Int) : Option β := kn x0 x6 v7 (w64 (v8 + (1 : Int)))
noncomputable def g18_9F (n : Nat) (s : FState) (cx : Cx β) : Option β := FX (g18_G n) n (nav g18_B [1, 0, 1, 0, 0, 1, 1, 1]) (.fin none (some g18_m2e) none [] .leaf) s cx
theorem g18_9_fx (n : Nat) (cx : Cx β) (x0 x6 : List ByteArray) (v7 v8 : Int) : g18_9F n (g18_m5 x0 x6 v7 v8) cx = g18_9 n (fun x0 x6 v7 v8 => cx.nrm (g18_m2 x0 x6 v7 v8)) x0 x6 v7 v8 := by kernel_rfl
noncomputable def g18_10 (n : Nat) (kn : List ByteArray → List ByteArray → Int → Int → Option β) (kr : Bool → Option β) (kx0 : Option β) (x0 x6 : List ByteArray) (v7 v8 : Int) : Option β := g18_2 n (fun x0 x6 v7 v8 => g18_8 n (fun x0 x6 v7 v8 => g18_9 n kn x0 x6 v7 v8) kr x0 x6 v7 v8) kx0 x0 x6 v7 v8
noncomputable def g18_10F (n : Nat) (s : FState) (cx : Cx β) : Option β := g18_2F n s { cx with nrm := fun s => g18_8F n s { cx with nrm := fun s => g18_9F n s cx } }
theorem g18_10_fx (n : Nat) (cx : Cx β) (x0 x6 : List ByteArray) (v7 v8 : Int) : g18_10F n (g18_m2 x0 x6 v7 v8) cx = g18_10 n (fun x0 x6 v7 v8 => cx.nrm (g18_m2 x0 x6 v7 v8)) (fun v2 => cx.ret (g18_m1 v2)) (cx.ex 0 g18_m3) x0 x6 v7 v8 := by simp only [g18_10F, g18_10, g18_2_fx, g18_8_fx, g18_9_fx]
noncomputable def g18_11L (n : Nat) (kr : Bool → Option β) (kx0 : Option β) : Nat → List ByteArray → List ByteArray → Int → Int → Option β
  | 0, _, _, _, _ => none
  | m + 1, x0, x6, v7, v8 => g18_10 n (g18_11L n kr kx0 m) kr kx0 x0 x6 v7 v8
noncomputable def g18_11 (n : Nat) (kr : Bool → Option β) (kx0 : Option β) (x0 x6 : List ByteArray) (v7 v8 : Int) : Option β := g18_11L n kr kx0 n x0 x6 v7 v8
noncomputable def g18_11F (n : Nat) (s : FState) (cx : Cx β) : Option β := loopN (fun again s => g18_10F n s { cx with nrm := again }) n s
theorem g18_11L_fx (n : Nat) (cx : Cx β) : ∀ (m : Nat) (x0 x6 : List ByteArray) (v7 v8 : Int), loopN (fun again s => g18_10F n s { cx with nrm := again }) m (g18_m2 x0 x6 v7 v8) = g18_11L n (fun v2 => cx.ret (g18_m1 v2)) (cx.ex 0 g18_m3) m x0 x6 v7 v8 := by
  intro m
  induction m with
  | zero => intros; rfl
  | succ m ih => intros; simp only [loopN, g18_11L, g18_10_fx, ih]
theorem g18_11_fx (n : Nat) (cx : Cx β) (x0 x6 : List ByteArray) (v7 v8 : Int) : g18_11F n (g18_m2 x0 x6 v7 v8) cx = g18_11 n (fun v2 => cx.ret (g18_m1 v2)) (cx.ex 0 g18_m3) x0 x6 v7 v8 := g18_11L_fx n cx n x0 x6 v7 v8
noncomputable def g18_12 (n : Nat) (kn : Option β) (kr : Bool → Option β) (x0 x6 : List ByteArray) (v7 v8 : Int) : Option β := g18_11 n kr kn x0 x6 v7 v8
noncomputable def g18_12F (n : Nat) (s : FState) (cx : Cx β) : Option β := g18_11F n s { cx with ex := fun j s => bif Nat.beq j 0 then cx.nrm s else cx.ex j s }
theorem g18_12_fx (n : Nat) (cx : Cx β) (x0 x6 : List ByteArray) (v7 v8 : Int) : g18_12F n (g18_m2 x0 x6 v7 v8) cx = g18_12 n (cx.nrm g18_m3) (fun v2 => cx.ret (g18_m1 v2)) x0 x6 v7 v8 := g18_11_fx n _ x0 x6 v7 v8
noncomputable def g18_13 (n : Nat) (kr : Bool → Option β) : Option β := kr true
noncomputable def g18_13F (n : Nat) (s : FState) (cx : Cx β) : Option β := FX (g18_G n) n (nav g18_B [1, 1, 0]) (.fin none none (some g18_m1e) [] .leaf) s { cx with nrm := fun s => FX (g18_G n) n (nav g18_B [1, 1, 1]) (.fin none none (some g18_m1e) [] .leaf) s cx }
theorem g18_13_fx (n : Nat) (cx : Cx β) : g18_13F n g18_m3 cx = g18_13 n (fun v2 => cx.ret (g18_m1 v2)) := by kernel_rfl
noncomputable def g18_14 (n : Nat) (kr : Bool → Option β) (x0 : List ByteArray) : Option β := g18_1 n (fun x0 x6 v7 v8 => g18_12 n (g18_13 n kr) kr x0 x6 v7 v8) x0
noncomputable def g18_14F (n : Nat) (s : FState) (cx : Cx β) : Option β := g18_1F n s { cx with nrm := fun s => g18_12F n s { cx with nrm := fun s => g18_13F n s cx } }
theorem g18_14_fx (n : Nat) (cx : Cx β) (x0 : List ByteArray) : g18_14F n (g18_m0 x0) cx = g18_14 n (fun v2 => cx.ret (g18_m1 v2)) x0 := by simp only [g18_14F, g18_14, g18_1_fx, g18_12_fx, g18_13_fx]
noncomputable def g18 (n : Nat) (x0 : List ByteArray) : Option (DenR [.dat .bool]) := g18_14 n (fun v2 => some (v2, ())) x0
noncomputable def g18_A : List AK := [.ro .str 9]
noncomputable def g18_R : List RK := [.dat .bool]
noncomputable def g18_f (n : Nat) (d : DenA g18_A) : Option (DenR g18_R) := g18 n d.1
noncomputable def g18_S (n : Nat) : Spec := mkSpec g18_A g18_R (g18_f n)
noncomputable def g18_K : Sk := (.nd (.fin none none none [] .leaf) (.nd (.nd (.fin none (some g18_m2e) none [] .leaf) (.nd (.nd (.nd (.fin none none none [(0, g18_m3e)] .leaf) (.nd (.fin none (some g18_m4e) none [(0, g18_m3e)] .leaf) (.nd (.nd (.nd (.fin none none (some g18_m1e) [] .leaf) (.nd (.nd (.fin none none (some g18_m1e) [] .leaf) (.fin none none (some g18_m1e) [] .leaf)) (.nd (.fin none (some g18_m6e) (some g18_m1e) [] .leaf) (.nd (.nd (.nd (.nd (.fin none none (some g18_m1e) [(2, g18_m5e)] .leaf) (.fin none none (some g18_m1e) [(2, g18_m5e)] .leaf)) (.nd (.fin none none (some g18_m1e) [(2, g18_m5e)] .leaf) (.fin none (some g18_m6e) (some g18_m1e) [(2, g18_m5e)] .leaf))) .leaf) .leaf)))) .leaf) (.fin none (some g18_m2e) none [] .leaf)))) .leaf) .leaf)) (.nd (.fin none none (some g18_m1e) [] .leaf) (.fin none none (some g18_m1e) [] .leaf))))
theorem g18_top (n : Nat) (s : FState) (cx : Cx β) : FX (g18_G n) n g18_B g18_K s cx = g18_14F n s cx := by kernel_rfl
theorem g18_fit (n : Nat) : Fit Tryd.prog 18 (g18_S n) :=
  fit_of (Γ := Γ0) (l := g18_C n) (n := n) (sk := g18_K) (ts := [(2, none)]) (fn := Tryd.f18) (c := g18_B) (by kernel_rfl) (by kernel_rfl) (by unfold Callable; kernel_rfl) tab_ok trivial follows_mixed (by kernel_rfl) (by kernel_rfl) (Nat.le_of_ble_eq_true (by kernel_rfl)) (Nat.le_of_ble_eq_true (by kernel_rfl)) (by kernel_rfl) (by kernel_rfl)
    (fun d => (g18_top n _ _).trans (Eq.trans (b := g18_14F n (g18_m0 d.1) (finCx (g18_G n) g18_R [(2, none)])) (by kernel_rfl) ((g18_14_fx n _ d.1).trans (by kernel_rfl))))
noncomputable def g6_m0 (v0 v1 : ByteArray) : FState := ⟨tlist [(0, .dat .str v0), (1, .dat .str v1)], olist []⟩
noncomputable def g6_m1 (v4 : Bool) : FState := ⟨tlist [(4, .dat .bool v4)], olist []⟩
noncomputable def g6_m1e : List NE := [.keep 4]
noncomputable def g6_C (n : Nat) : List (Nat × Spec) := [(15, g15_S n), (16, g16_S n), (17, g17_S n), (18, g18_S n)]
noncomputable def g6_G (n : Nat) : Ctx := { Γ0 with calls := lkS (g6_C n) }
noncomputable def g6_B : Code := fb Tryd.f6
noncomputable def g6_1 (n : Nat) (kr : Bool → Option β) (v0 v1 : ByteArray) : Option β := bif (decide ((v0.size : Int) > (2147483647 : Int))) then (kr true) else (bif (decide ((v1.size : Int) > (2147483647 : Int))) then (kr true) else ((g15 n v0 (200 : Int)).bind fun r1 => (g15 n v1 (200 : Int)).bind fun r2 => (g16 n r1.1 r2.1).bind fun r3 => (g17 n r3.1 r3.2.2.1 r1.1).bind fun r4 => bif r4.1 then ((g17 n r3.2.1 r3.2.2.1 r2.1).bind fun r5 => bif r5.1 then ((g18 n r3.2.2.1).bind fun r6 => bif r6.1 then (kr (decide ((r3.2.2.1.length : Int) > (0 : Int)))) else (kr false)) else (kr false)) else (kr false)))
noncomputable def g6_1F (n : Nat) (s : FState) (cx : Cx β) : Option β := FX (g6_G n) n (nav g6_B [0]) (.fin none none (some g6_m1e) [] .leaf) s { cx with nrm := fun s => FX (g6_G n) n (nav g6_B [1, 0, 0]) (.fin none none (some g6_m1e) [] .leaf) s { cx with nrm := fun s => FX (g6_G n) n (nav g6_B [1, 0, 1]) (.fin none none (some g6_m1e) [] .leaf) s { cx with nrm := fun s => FX (g6_G n) n (nav g6_B [1, 1, 0]) (.fin none none (some g6_m1e) [] .leaf) s { cx with nrm := fun s => FX (g6_G n) n (nav g6_B [1, 1, 1, 0]) (.fin none none (some g6_m1e) [] .leaf) s { cx with nrm := fun s => FX (g6_G n) n (nav g6_B [1, 1, 1, 1, 0]) (.fin none none (some g6_m1e) [] .leaf) s { cx with nrm := fun s => FX (g6_G n) n (nav g6_B [1, 1, 1, 1, 1]) (.fin none none (some g6_m1e) [] .leaf) s cx } } } } } }
theorem g6_1_fx (n : Nat) (cx : Cx β) (v0 v1 : ByteArray) : g6_1F n (g6_m0 v0 v1) cx = g6_1 n (fun v4 => cx.ret (g6_m1 v4)) v0 v1 := by kernel_rfl
noncomputable def g6 (n : Nat) (v0 v1 : ByteArray) : Option (DenR [.dat .bool]) := g6_1 n (fun v4 => some (v4, ())) v0 v1
noncomputable def g6_A : List AK := [.dat .str, .dat .str]
noncomputable def g6_R : List RK := [.dat .bool]
noncomputable def g6_f (n : Nat) (d : DenA g6_A) : Option (DenR g6_R) := g6 n d.1 d.2.1
noncomputable def g6_S (n : Nat) : Spec := mkSpec g6_A g6_R (g6_f n)
noncomputable def g6_K : Sk := (.nd (.fin none none (some g6_m1e) [] .leaf) (.nd (.nd (.fin none none (some g6_m1e) [] .leaf) (.fin none none (some g6_m1e) [] .leaf)) (.nd (.fin none none (some g6_m1e) [] .leaf) (.nd (.fin none none (some g6_m1e) [] .leaf) (.nd (.fin none none (some g6_m1e) [] .leaf) (.fin none none (some g6_m1e) [] .leaf))))))
theorem g6_top (n : Nat) (s : FState) (cx : Cx β) : FX (g6_G n) n g6_B g6_K s cx = g6_1F n s cx := by kernel_rfl
theorem g6_fit (n : Nat) : Fit Tryd.prog 6 (g6_S n) :=
  fit_of (Γ := Γ0) (l := g6_C n) (n := n) (sk := g6_K) (ts := [(4, none)]) (fn := Tryd.f6) (c := g6_B) (by kernel_rfl) (by kernel_rfl) (by unfold Callable; kernel_rfl) tab_ok ⟨g15_fit n, g16_fit n, g17_fit n, g18_fit n, trivial⟩ follows_mixed (by kernel_rfl) (by kernel_rfl) (Nat.le_of_ble_eq_true (by kernel_rfl)) (Nat.le_of_ble_eq_true (by kernel_rfl)) (by kernel_rfl) (by kernel_rfl)
    (fun d => (g6_top n _ _).trans (Eq.trans (b := g6_1F n (g6_m0 d.1 d.2.1) (finCx (g6_G n) g6_R [(4, none)])) (by kernel_rfl) ((g6_1_fx n _ d.1 d.2.1).trans (by kernel_rfl))))
end Go.Proofs.YtfnjlgflbenfoaaDoorZF
