import Derived.Test.YticibdjilmclgaaDoorUFT
import Derived.Test.YticibdjilmclgaaDoorUGA0
namespace Go.Proofs.YticibdjilmclgaaDoorUF
open Go Go.Proofs
set_option linter.unusedVariables false
set_option maxRecDepth 100000
noncomputable def g101_m0 (x0 : List Int) (x1 : List Int) : FState := ⟨tlist [(0, .sl 0 none false), (1, .sl 1 none false)], olist [(0, .row (.int .i32) 21 false x0), (1, .row (.int .i32) 21 false x1)]⟩
noncomputable def g101_m1 (v4 : Int) : FState := ⟨tlist [(4, .dat (.int .i64) v4)], olist []⟩
noncomputable def g101_m1e : List NE := [.keep 4]
noncomputable def g101_m2 (x0 : List Int) (x1 : List Int) (v5 : Int) (v6 : Int) : FState := ⟨tlist [(0, .sl 0 none false), (1, .sl 1 none false), (5, .dat (.int .i64) v5), (6, .dat (.int .i64) v6)], olist [(0, .row (.int .i32) 21 false x0), (1, .row (.int .i32) 21 false x1)]⟩
noncomputable def g101_m2e : List NE := [.row 0 (.int .i32) 21 false, .row 1 (.int .i32) 21 false, .keep 5, .keep 6]
noncomputable def g101_m3 : FState := ⟨tlist [], olist []⟩
noncomputable def g101_m3e : List NE := []
noncomputable def g101_C (n : Nat) : List (Nat × Spec) := [(79, g79_S n)]
noncomputable def g101_G (n : Nat) : Ctx := { Γ0 with calls := lkS (g101_C n) }
noncomputable def g101_B : Code := fb Tryd.f101
noncomputable def g101_1 {β : Type} (n : Nat) (kn : List Int → List Int → Int → Int → Option β) (x0 : List Int) (x1 : List Int) : Option β := kn x0 x1 (w64 ((x0.length : Int) - (x1.length : Int))) (0 : Int)
noncomputable def g101_1F {β : Type} (n : Nat) (s : FState) (cx : Cx β) : Option β := FX (g101_G n) n (nav g101_B [0]) (.fin none none none [] .leaf) s { cx with nrm := fun s => FX (g101_G n) n (nav g101_B [1, 0]) (.fin none none none [] .leaf) s { cx with nrm := fun s => FX (g101_G n) n (nav g101_B [1, 1, 0, 0]) (.fin none (some g101_m2e) none [] .leaf) s cx } }
theorem g101_1_fx {β : Type} (n : Nat) (cx : Cx β) (x0 : List Int) (x1 : List Int) : g101_1F n (g101_m0 x0 x1) cx = g101_1 n (fun x0 x1 v5 v6 => cx.nrm (g101_m2 x0 x1 v5 v6)) x0 x1 := by kernel_rfl
noncomputable def g101_2 {β : Type} (n : Nat) (kn : List Int → List Int → Int → Int → Option β) (kr : Int → Option β) (kx0 : Option β) (x0 : List Int) (x1 : List Int) (v5 : Int) (v6 : Int) : Option β := bif (decide (v6 ≤ v5)) then (bnd v6 (w64 (v6 + (x1.length : Int))) (x0.length : Int) <| (g79 n (cut x0 v6 (w64 (v6 + (x1.length : Int)))) x1).bind fun r1 => bif r1.1 then (kr v6) else (kn x0 x1 v5 (w64 (v6 + (1 : Int))))) else kx0
noncomputable def g101_2F {β : Type} (n : Nat) (s : FState) (cx : Cx β) : Option β := FX (g101_G n) n (nav g101_B [1, 1, 0, 1, 0, 0, 0, 0]) (.fin none none (some g101_m1e) [(0, g101_m3e)] .leaf) s { cx with nrm := fun s => FX (g101_G n) n (nav g101_B [1, 1, 0, 1, 0, 0, 0, 1]) (.fin none none (some g101_m1e) [(0, g101_m3e)] .leaf) s { cx with nrm := fun s => FX (g101_G n) n (nav g101_B [1, 1, 0, 1, 0, 0, 1, 0]) (.fin none none (some g101_m1e) [(0, g101_m3e)] .leaf) s { cx with nrm := fun s => FX (g101_G n) n (nav g101_B [1, 1, 0, 1, 0, 0, 1, 1]) (.fin none (some g101_m2e) (some g101_m1e) [(0, g101_m3e)] .leaf) s cx } } }
theorem g101_2_fx {β : Type} (n : Nat) (cx : Cx β) (x0 : List Int) (x1 : List Int) (v5 : Int) (v6 : Int) : g101_2F n (g101_m2 x0 x1 v5 v6) cx = g101_2 n (fun x0 x1 v5 v6 => cx.nrm (g101_m2 x0 x1 v5 v6)) (fun v4 => cx.ret (g101_m1 v4)) (cx.ex 0 g101_m3) x0 x1 v5 v6 := by kernel_rfl
noncomputable def g101_3L {β : Type} (n : Nat) (kr : Int → Option β) (kx0 : Option β) : Nat → List Int → List Int → Int → Int → Option β
  | 0, _, _, _, _ => none
  | m + 1, x0, x1, v5, v6 => g101_2 n (g101_3L n kr kx0 m) kr kx0 x0 x1 v5 v6
noncomputable def g101_3 {β : Type} (n : Nat) (kr : Int → Option β) (kx0 : Option β) (x0 : List Int) (x1 : List Int) (v5 : Int) (v6 : Int) : Option β := g101_3L n kr kx0 n x0 x1 v5 v6
noncomputable def g101_3F {β : Type} (n : Nat) (s : FState) (cx : Cx β) : Option β := loopN (fun again s => g101_2F n s { cx with nrm := again }) n s
theorem g101_3L_fx {β : Type} (n : Nat) (cx : Cx β) : ∀ (m : Nat) (x0 : List Int) (x1 : List Int) (v5 : Int) (v6 : Int), loopN (fun again s => g101_2F n s { cx with nrm := again }) m (g101_m2 x0 x1 v5 v6) = g101_3L n (fun v4 => cx.ret (g101_m1 v4)) (cx.ex 0 g101_m3) m x0 x1 v5 v6 := by
  intro m
  induction m with
  | zero => intros; rfl
  | succ m ih => intros; simp only [loopN, g101_3L, g101_2_fx, ih]
theorem g101_3_fx {β : Type} (n : Nat) (cx : Cx β) (x0 : List Int) (x1 : List Int) (v5 : Int) (v6 : Int) : g101_3F n (g101_m2 x0 x1 v5 v6) cx = g101_3 n (fun v4 => cx.ret (g101_m1 v4)) (cx.ex 0 g101_m3) x0 x1 v5 v6 := g101_3L_fx n cx n x0 x1 v5 v6
noncomputable def g101_4 {β : Type} (n : Nat) (kn : Option β) (kr : Int → Option β) (x0 : List Int) (x1 : List Int) (v5 : Int) (v6 : Int) : Option β := g101_3 n kr kn x0 x1 v5 v6
noncomputable def g101_4F {β : Type} (n : Nat) (s : FState) (cx : Cx β) : Option β := g101_3F n s { cx with ex := fun j s => bif Nat.beq j 0 then cx.nrm s else cx.ex j s }
theorem g101_4_fx {β : Type} (n : Nat) (cx : Cx β) (x0 : List Int) (x1 : List Int) (v5 : Int) (v6 : Int) : g101_4F n (g101_m2 x0 x1 v5 v6) cx = g101_4 n (cx.nrm g101_m3) (fun v4 => cx.ret (g101_m1 v4)) x0 x1 v5 v6 := g101_3_fx n _ x0 x1 v5 v6
noncomputable def g101_5 {β : Type} (n : Nat) (kr : Int → Option β) : Option β := kr (-1 : Int)
noncomputable def g101_5F {β : Type} (n : Nat) (s : FState) (cx : Cx β) : Option β := FX (g101_G n) n (nav g101_B [1, 1, 1, 0]) (.fin none none (some g101_m1e) [] .leaf) s { cx with nrm := fun s => FX (g101_G n) n (nav g101_B [1, 1, 1, 1]) (.fin none none (some g101_m1e) [] .leaf) s cx }
theorem g101_5_fx {β : Type} (n : Nat) (cx : Cx β) : g101_5F n g101_m3 cx = g101_5 n (fun v4 => cx.ret (g101_m1 v4)) := by kernel_rfl
noncomputable def g101_6 {β : Type} (n : Nat) (kr : Int → Option β) (x0 : List Int) (x1 : List Int) : Option β := g101_1 n (fun x0 x1 v5 v6 => g101_4 n (g101_5 n kr) kr x0 x1 v5 v6) x0 x1
noncomputable def g101_6F {β : Type} (n : Nat) (s : FState) (cx : Cx β) : Option β := g101_1F n s { cx with nrm := fun s => g101_4F n s { cx with nrm := fun s => g101_5F n s cx } }
theorem g101_6_fx {β : Type} (n : Nat) (cx : Cx β) (x0 : List Int) (x1 : List Int) : g101_6F n (g101_m0 x0 x1) cx = g101_6 n (fun v4 => cx.ret (g101_m1 v4)) x0 x1 := by simp only [g101_6F, g101_6, g101_1_fx, g101_4_fx, g101_5_fx]
noncomputable def g101 (n : Nat) (x0 : List Int) (x1 : List Int) : Option (DenR [.dat (.int .i64)]) := g101_6 n (fun v4 => some (v4, ())) x0 x1
noncomputable def g101_A : List AK := [.ro (.int .i32) 21, .ro (.int .i32) 21]
noncomputable def g101_R : List RK := [.dat (.int .i64)]
noncomputable def g101_f (n : Nat) (d : DenA g101_A) : Option (DenR g101_R) := g101 n d.1 d.2.1
noncomputable def g101_S (n : Nat) : Spec := mkSpec g101_A g101_R (g101_f n)
noncomputable def g101_K : Sk := (.nd (.fin none none none [] .leaf) (.nd (.fin none none none [] .leaf) (.nd (.nd (.fin none (some g101_m2e) none [] .leaf) (.nd (.nd (.nd (.nd (.fin none none (some g101_m1e) [(0, g101_m3e)] .leaf) (.fin none none (some g101_m1e) [(0, g101_m3e)] .leaf)) (.nd (.fin none none (some g101_m1e) [(0, g101_m3e)] .leaf) (.fin none (some g101_m2e) (some g101_m1e) [(0, g101_m3e)] .leaf))) .leaf) .leaf)) (.nd (.fin none none (some g101_m1e) [] .leaf) (.fin none none (some g101_m1e) [] .leaf)))))
theorem g101_top {β : Type} (n : Nat) (s : FState) (cx : Cx β) : FX (g101_G n) n g101_B g101_K s cx = g101_6F n s cx := by kernel_rfl
theorem g101_fit (n : Nat) : Fit Tryd.prog 101 (g101_S n) :=
  fit_of (Γ := Γ0) (l := g101_C n) (n := n) (sk := g101_K) (ts := [(4, none)]) (fn := Tryd.f101) (c := g101_B) (by kernel_rfl) (by kernel_rfl) (by unfold Callable; kernel_rfl) tab_ok ⟨g79_fit n, trivial⟩ follows_mixed (by kernel_rfl) (by kernel_rfl) (Nat.le_of_ble_eq_true (by kernel_rfl)) (by kernel_rfl) (by kernel_rfl)
    (fun d => (g101_top n _ _).trans (Eq.trans (b := g101_6F n (g101_m0 d.1 d.2.1) (finCx (g101_G n) g101_R [(4, none)])) (by kernel_rfl) ((g101_6_fx n _ d.1 d.2.1).trans (by kernel_rfl))))
noncomputable def g120_A : List AK := [.pro (.pair (.int .i64) (.pair (.int .i64) (.pair (.int .i64) (.pair (.flt .f64) (.pair (.int .i64) (.pair (.int .i64) (.flt .f64))))))) 74, .ro (.int .i32) 21, .ro (.int .i32) 21, .dat (.int .i64)]
noncomputable def g120_R : List RK := [.rw (.sl 21 (.int .i32)) 32]
noncomputable def g120 (n : Nat) (v0 : (Int × (Int × (Int × (Nat × (Int × (Int × Nat))))))) (v1 : List Int) (v2 : List Int) (v3 : Int) : Option (DenR [.rw (.sl 21 (.int .i32)) 32]) := none
noncomputable def g120_f (n : Nat) (d : DenA g120_A) : Option (DenR g120_R) := none
noncomputable def g120_S (n : Nat) : Spec := mkSpec g120_A g120_R (g120_f n)
theorem g120_fit (n : Nat) : Fit Tryd.prog 120 (g120_S n) := fit_none (by unfold Callable; kernel_rfl)
noncomputable def g102_m0 (p0 : (Int × (Int × (Int × (Nat × (Int × (Int × Nat))))))) (x1 : List Int) (x2 : List Int) : FState := ⟨tlist [(0, .ptr 0 0 0), (1, .sl 1 none false), (2, .sl 2 none false)], olist [(0, .row (.pair (.int .i64) (.pair (.int .i64) (.pair (.int .i64) (.pair (.flt .f64) (.pair (.int .i64) (.pair (.int .i64) (.flt .f64))))))) 74 false [p0]), (1, .row (.int .i32) 21 false x1), (2, .row (.int .i32) 21 false x2)]⟩
noncomputable def g102_m1 : FState := ⟨tlist [(6, .nsl)], olist []⟩
noncomputable def g102_m1e : List NE := [.keep 6]
noncomputable def g102_m2 (p0 : (Int × (Int × (Int × (Nat × (Int × (Int × Nat))))))) (x1 : List Int) (x2 : List Int) (x7 : List Int) (x8 : List Int) : FState := ⟨tlist [(0, .ptr 0 0 0), (1, .sl 1 none false), (2, .sl 2 none false), (7, .sl 7 none false), (8, .sl 8 none false)], olist [(0, .row (.pair (.int .i64) (.pair (.int .i64) (.pair (.int .i64) (.pair (.flt .f64) (.pair (.int .i64) (.pair (.int .i64) (.flt .f64))))))) 74 false [p0]), (1, .row (.int .i32) 21 false x1), (2, .row (.int .i32) 21 false x2), (7, .row (.int .i32) 21 false x7), (8, .row (.int .i32) 21 false x8)]⟩
noncomputable def g102_m2e : List NE := [.ptr 0 (.pair (.int .i64) (.pair (.int .i64) (.pair (.int .i64) (.pair (.flt .f64) (.pair (.int .i64) (.pair (.int .i64) (.flt .f64))))))) 74 false, .row 1 (.int .i32) 21 false, .row 2 (.int .i32) 21 false, .row 7 (.int .i32) 21 false, .row 8 (.int .i32) 21 false]
noncomputable def g102_C (n : Nat) : List (Nat × Spec) := [(120, g120_S n)]
noncomputable def g102_G (n : Nat) : Ctx := { Γ0 with calls := lkS (g102_C n) }
noncomputable def g102_B : Code := fb Tryd.f102
noncomputable def g102_1 {β : Type} (n : Nat) (kn : (Int × (Int × (Int × (Nat × (Int × (Int × Nat)))))) → List Int → List Int → List Int → List Int → Option β) (kr : Option β) (p0 : (Int × (Int × (Int × (Nat × (Int × (Int × Nat))))))) (x1 : List Int) (x2 : List Int) : Option β := bif (decide (p0.1 ≤ (0 : Int))) then kr else (bif (decide ((x1.length : Int) > (x2.length : Int))) then (kn p0 x1 x2 x1 x2) else (kn p0 x1 x2 x2 x1))
noncomputable def g102_1F {β : Type} (n : Nat) (s : FState) (cx : Cx β) : Option β := FX (g102_G n) n (nav g102_B [0]) (.fin none none (some g102_m1e) [] .leaf) s { cx with nrm := fun s => FX (g102_G n) n (nav g102_B [1, 0, 0]) (.fin none none (some g102_m1e) [] .leaf) s { cx with nrm := fun s => FX (g102_G n) n (nav g102_B [1, 0, 1]) (.fin none none (some g102_m1e) [] .leaf) s { cx with nrm := fun s => FX (g102_G n) n (nav g102_B [1, 1, 0]) (.fin none none (some g102_m1e) [] .leaf) s { cx with nrm := fun s => FX (g102_G n) n (nav g102_B [1, 1, 1, 0, 0]) (.fin none none (some g102_m1e) [] .leaf) s { cx with nrm := fun s => FX (g102_G n) n (nav g102_B [1, 1, 1, 0, 1]) (.fin none (some g102_m2e) (some g102_m1e) [] .leaf) s cx } } } } }
theorem g102_1_fx {β : Type} (n : Nat) (cx : Cx β) (p0 : (Int × (Int × (Int × (Nat × (Int × (Int × Nat))))))) (x1 : List Int) (x2 : List Int) : g102_1F n (g102_m0 p0 x1 x2) cx = g102_1 n (fun p0 x1 x2 x7 x8 => cx.nrm (g102_m2 p0 x1 x2 x7 x8)) (cx.ret g102_m1) p0 x1 x2 := by kernel_rfl
noncomputable def g102_2 {β : Type} (n : Nat) (kr : Option β) (p0 : (Int × (Int × (Int × (Nat × (Int × (Int × Nat))))))) (x1 : List Int) (x2 : List Int) (x7 : List Int) (x8 : List Int) : Option β := bif (decide ((x7.length : Int) < (4 : Int))) then kr else (bif (decide ((w64 ((x8.length : Int) * (2 : Int))) < (x7.length : Int))) then kr else (onS (floatBits .quo .f64 (floatOfInt .f64 (w64 ((x7.length : Int) + (3 : Int)))) (4616189618054758400 : Nat)) fun r1 => onS (floatToIntVal .f64 r1 .i64) fun r2 => (g120 n p0 x7 x8 r2).bind fun r3 => onS (floatBits .quo .f64 (floatOfInt .f64 (w64 ((x7.length : Int) + (1 : Int)))) (4611686018427387904 : Nat)) fun r4 => onS (floatToIntVal .f64 r4 .i64) fun r5 => (g120 n p0 x7 x8 r5).bind fun r6 => none))
noncomputable def g102_2F {β : Type} (n : Nat) (s : FState) (cx : Cx β) : Option β := FX (g102_G n) n (nav g102_B [1, 1, 1, 1, 0, 0]) (.fin none none (some g102_m1e) [] .leaf) s { cx with nrm := fun s => FX (g102_G n) n (nav g102_B [1, 1, 1, 1, 0, 1]) (.fin none none (some g102_m1e) [] .leaf) s { cx with nrm := fun s => FX (g102_G n) n (nav g102_B [1, 1, 1, 1, 1, 0]) (.fin none none (some g102_m1e) [] .leaf) s { cx with nrm := fun s => FX (g102_G n) n (nav g102_B [1, 1, 1, 1, 1, 1, 0]) (.fin none none (some g102_m1e) [] .leaf) s { cx with nrm := fun s => FX (g102_G n) n (nav g102_B [1, 1, 1, 1, 1, 1, 1, 0]) (.fin none none (some g102_m1e) [] .leaf) s { cx with nrm := fun s => FX (g102_G n) n (nav g102_B [1, 1, 1, 1, 1, 1, 1, 1, 0, 0]) (.fin none none (some g102_m1e) [] .leaf) s { cx with nrm := fun s => FX (g102_G n) n (nav g102_B [1, 1, 1, 1, 1, 1, 1, 1, 0, 1]) (.fin none none (some g102_m1e) [] .leaf) s { cx with nrm := fun s => FX (g102_G n) n (nav g102_B [1, 1, 1, 1, 1, 1, 1, 1, 1, 0, 0]) (.fin none none (some g102_m1e) [] .leaf) s { cx with nrm := fun s => FX (g102_G n) n (nav g102_B [1, 1, 1, 1, 1, 1, 1, 1, 1, 0, 1]) (.fin none none (some g102_m1e) [] .leaf) s { cx with nrm := fun s => FX (g102_G n) n (nav g102_B [1, 1, 1, 1, 1, 1, 1, 1, 1, 1, 0]) (.fin none none (some g102_m1e) [] .leaf) s { cx with nrm := fun s => FX (g102_G n) n (nav g102_B [1, 1, 1, 1, 1, 1, 1, 1, 1, 1, 1]) (.fin none none (some g102_m1e) [] .leaf) s cx } } } } } } } } } }
theorem g102_2_fx {β : Type} (n : Nat) (cx : Cx β) (p0 : (Int × (Int × (Int × (Nat × (Int × (Int × Nat))))))) (x1 : List Int) (x2 : List Int) (x7 : List Int) (x8 : List Int) : g102_2F n (g102_m2 p0 x1 x2 x7 x8) cx = g102_2 n (cx.ret g102_m1) p0 x1 x2 x7 x8 := by kernel_rfl
noncomputable def g102_3 {β : Type} (n : Nat) (kr : Option β) (p0 : (Int × (Int × (Int × (Nat × (Int × (Int × Nat))))))) (x1 : List Int) (x2 : List Int) : Option β := g102_1 n (fun p0 x1 x2 x7 x8 => g102_2 n kr p0 x1 x2 x7 x8) kr p0 x1 x2
noncomputable def g102_3F {β : Type} (n : Nat) (s : FState) (cx : Cx β) : Option β := g102_1F n s { cx with nrm := fun s => g102_2F n s cx }
theorem g102_3_fx {β : Type} (n : Nat) (cx : Cx β) (p0 : (Int × (Int × (Int × (Nat × (Int × (Int × Nat))))))) (x1 : List Int) (x2 : List Int) : g102_3F n (g102_m0 p0 x1 x2) cx = g102_3 n (cx.ret g102_m1) p0 x1 x2 := by simp only [g102_3F, g102_3, g102_1_fx, g102_2_fx]
noncomputable def g102 (n : Nat) (p0 : (Int × (Int × (Int × (Nat × (Int × (Int × Nat))))))) (x1 : List Int) (x2 : List Int) : Option (DenR [.nsl]) := g102_3 n (some ((), ())) p0 x1 x2
noncomputable def g102_A : List AK := [.pro (.pair (.int .i64) (.pair (.int .i64) (.pair (.int .i64) (.pair (.flt .f64) (.pair (.int .i64) (.pair (.int .i64) (.flt .f64))))))) 74, .ro (.int .i32) 21, .ro (.int .i32) 21]
noncomputable def g102_R : List RK := [.nsl]
noncomputable def g102_f (n : Nat) (d : DenA g102_A) : Option (DenR g102_R) := g102 n d.1 d.2.1 d.2.2.1
noncomputable def g102_S (n : Nat) : Spec := mkSpec g102_A g102_R (g102_f n)
noncomputable def g102_K : Sk := (.nd (.fin none none (some g102_m1e) [] .leaf) (.nd (.nd (.fin none none (some g102_m1e) [] .leaf) (.fin none none (some g102_m1e) [] .leaf)) (.nd (.fin none none (some g102_m1e) [] .leaf) (.nd (.nd (.fin none none (some g102_m1e) [] .leaf) (.fin none (some g102_m2e) (some g102_m1e) [] .leaf)) (.nd (.nd (.fin none none (some g102_m1e) [] .leaf) (.fin none none (some g102_m1e) [] .leaf)) (.nd (.fin none none (some g102_m1e) [] .leaf) (.nd (.fin none none (some g102_m1e) [] .leaf) (.nd (.fin none none (some g102_m1e) [] .leaf) (.nd (.nd (.fin none none (some g102_m1e) [] .leaf) (.fin none none (some g102_m1e) [] .leaf)) (.nd (.nd (.fin none none (some g102_m1e) [] .leaf) (.fin none none (some g102_m1e) [] .leaf)) (.nd (.fin none none (some g102_m1e) [] .leaf) (.fin none none (some g102_m1e) [] .leaf))))))))))))
theorem g102_top {β : Type} (n : Nat) (s : FState) (cx : Cx β) : FX (g102_G n) n g102_B g102_K s cx = g102_3F n s cx := by kernel_rfl
theorem g102_fit (n : Nat) : Fit Tryd.prog 102 (g102_S n) :=
  fit_of (Γ := Γ0) (l := g102_C n) (n := n) (sk := g102_K) (ts := [(6, none)]) (fn := Tryd.f102) (c := g102_B) (by kernel_rfl) (by kernel_rfl) (by unfold Callable; kernel_rfl) tab_ok ⟨g120_fit n, trivial⟩ follows_mixed (by kernel_rfl) (by kernel_rfl) (Nat.le_of_ble_eq_true (by kernel_rfl)) (by kernel_rfl) (by kernel_rfl)
    (fun d => (g102_top n _ _).trans (Eq.trans (b := g102_3F n (g102_m0 d.1 d.2.1 d.2.2.1) (finCx (g102_G n) g102_R [(6, none)])) (by kernel_rfl) ((g102_3_fx n _ d.1 d.2.1 d.2.2.1).trans (by kernel_rfl))))
noncomputable def g103_A : List AK := [.pro (.pair (.int .i64) (.pair (.int .i64) (.pair (.int .i64) (.pair (.flt .f64) (.pair (.int .i64) (.pair (.int .i64) (.flt .f64))))))) 74, .ro (.int .i32) 21, .ro (.int .i32) 21]
noncomputable def g103_R : List RK := [.rw (.pair (.int .i8) .str) 81]
noncomputable def g103 (n : Nat) (v0 : (Int × (Int × (Int × (Nat × (Int × (Int × Nat))))))) (v1 : List Int) (v2 : List Int) : Option (DenR [.rw (.pair (.int .i8) .str) 81]) := none
noncomputable def g103_f (n : Nat) (d : DenA g103_A) : Option (DenR g103_R) := none
noncomputable def g103_S (n : Nat) : Spec := mkSpec g103_A g103_R (g103_f n)
theorem g103_fit (n : Nat) : Fit Tryd.prog 103 (g103_S n) := fit_none (by unfold Callable; kernel_rfl)
end Go.Proofs.YticibdjilmclgaaDoorUF
