import Derived.Test.YthkiaiilpaojnaaDoorUFT
import Derived.Test.YthkiaiilpaojnaaDoorUGA0
namespace Go.Proofs.YthkiaiilpaojnaaDoorUF
open Go Go.Proofs
set_option linter.unusedVariables false
set_option maxRecDepth 100000
noncomputable def g156_m0 (x0 : List Int) (x1 : List Int) : FState := ⟨tlist [(0, .sl 0 none false), (1, .sl 1 none false)], olist [(0, .row (.int .i32) 21 false x0), (1, .row (.int .i32) 21 false x1)]⟩
noncomputable def g156_m1 (v4 : Int) : FState := ⟨tlist [(4, .dat (.int .i64) v4)], olist []⟩
noncomputable def g156_m1e : List NE := [.keep 4]
noncomputable def g156_m2 (x0 : List Int) (x1 : List Int) (v5 : Int) (v6 : Int) : FState := ⟨tlist [(0, .sl 0 none false), (1, .sl 1 none false), (5, .dat (.int .i64) v5), (6, .dat (.int .i64) v6)], olist [(0, .row (.int .i32) 21 false x0), (1, .row (.int .i32) 21 false x1)]⟩
noncomputable def g156_m2e : List NE := [.row 0 (.int .i32) 21 false, .row 1 (.int .i32) 21 false, .keep 5, .keep 6]
noncomputable def g156_m3 : FState := ⟨tlist [], olist []⟩
noncomputable def g156_m3e : List NE := []
noncomputable def g156_C (n : Nat) : List (Nat × Spec) := [(133, g133_S n)]
noncomputable def g156_G (n : Nat) : Ctx := { Γ0 with calls := lkS (g156_C n) }
noncomputable def g156_B : Code := fb Tryd.f156
noncomputable def g156_1 {β : Type} (n : Nat) (kn : List Int → List Int → Int → Int → Option β) (x0 : List Int) (x1 : List Int) : Option β := kn x0 x1 (w64 ((x0.length : Int) - (x1.length : Int))) (0 : Int)
noncomputable def g156_1F {β : Type} (n : Nat) (s : FState) (cx : Cx β) : Option β := FX (g156_G n) n (nav g156_B [0]) (.fin none none none [] .leaf) s { cx with nrm := fun s => FX (g156_G n) n (nav g156_B [1, 0]) (.fin none none none [] .leaf) s { cx with nrm := fun s => FX (g156_G n) n (nav g156_B [1, 1, 0, 0]) (.fin none (some g156_m2e) none [] .leaf) s cx } }
theorem g156_1_fx {β : Type} (n : Nat) (cx : Cx β) (x0 : List Int) (x1 : List Int) : g156_1F n (g156_m0 x0 x1) cx = g156_1 n (fun x0 x1 v5 v6 => cx.nrm (g156_m2 x0 x1 v5 v6)) x0 x1 := by kernel_rfl
noncomputable def g156_2 {β : Type} (n : Nat) (kn : List Int → List Int → Int → Int → Option β) (kr : Int → Option β) (kx0 : Option β) (x0 : List Int) (x1 : List Int) (v5 : Int) (v6 : Int) : Option β := bif (decide (v6 ≤ v5)) then (bnd v6 (w64 (v6 + (x1.length : Int))) (x0.length : Int) <| (g133 n (cut x0 v6 (w64 (v6 + (x1.length : Int)))) x1).bind fun r1 => bif r1.1 then (kr v6) else (kn x0 x1 v5 (w64 (v6 + (1 : Int))))) else kx0
noncomputable def g156_2F {β : Type} (n : Nat) (s : FState) (cx : Cx β) : Option β := FX (g156_G n) n (nav g156_B [1, 1, 0, 1, 0, 0, 0, 0]) (.fin none none (some g156_m1e) [(0, g156_m3e)] .leaf) s { cx with nrm := fun s => FX (g156_G n) n (nav g156_B [1, 1, 0, 1, 0, 0, 0, 1]) (.fin none none (some g156_m1e) [(0, g156_m3e)] .leaf) s { cx with nrm := fun s => FX (g156_G n) n (nav g156_B [1, 1, 0, 1, 0, 0, 1, 0]) (.fin none none (some g156_m1e) [(0, g156_m3e)] .leaf) s { cx with nrm := fun s => FX (g156_G n) n (nav g156_B [1, 1, 0, 1, 0, 0, 1, 1]) (.fin none (some g156_m2e) (some g156_m1e) [(0, g156_m3e)] .leaf) s cx } } }
theorem g156_2_fx {β : Type} (n : Nat) (cx : Cx β) (x0 : List Int) (x1 : List Int) (v5 : Int) (v6 : Int) : g156_2F n (g156_m2 x0 x1 v5 v6) cx = g156_2 n (fun x0 x1 v5 v6 => cx.nrm (g156_m2 x0 x1 v5 v6)) (fun v4 => cx.ret (g156_m1 v4)) (cx.ex 0 g156_m3) x0 x1 v5 v6 := by kernel_rfl
noncomputable def g156_3L {β : Type} (n : Nat) (kr : Int → Option β) (kx0 : Option β) : Nat → List Int → List Int → Int → Int → Option β
  | 0, _, _, _, _ => none
  | m + 1, x0, x1, v5, v6 => g156_2 n (g156_3L n kr kx0 m) kr kx0 x0 x1 v5 v6
noncomputable def g156_3 {β : Type} (n : Nat) (kr : Int → Option β) (kx0 : Option β) (x0 : List Int) (x1 : List Int) (v5 : Int) (v6 : Int) : Option β := g156_3L n kr kx0 n x0 x1 v5 v6
noncomputable def g156_3F {β : Type} (n : Nat) (s : FState) (cx : Cx β) : Option β := loopN (fun again s => g156_2F n s { cx with nrm := again }) n s
theorem g156_3L_fx {β : Type} (n : Nat) (cx : Cx β) : ∀ (m : Nat) (x0 : List Int) (x1 : List Int) (v5 : Int) (v6 : Int), loopN (fun again s => g156_2F n s { cx with nrm := again }) m (g156_m2 x0 x1 v5 v6) = g156_3L n (fun v4 => cx.ret (g156_m1 v4)) (cx.ex 0 g156_m3) m x0 x1 v5 v6 := by
  intro m
  induction m with
  | zero => intros; rfl
  | succ m ih => intros; simp only [loopN, g156_3L, g156_2_fx, ih]
theorem g156_3_fx {β : Type} (n : Nat) (cx : Cx β) (x0 : List Int) (x1 : List Int) (v5 : Int) (v6 : Int) : g156_3F n (g156_m2 x0 x1 v5 v6) cx = g156_3 n (fun v4 => cx.ret (g156_m1 v4)) (cx.ex 0 g156_m3) x0 x1 v5 v6 := g156_3L_fx n cx n x0 x1 v5 v6
noncomputable def g156_4 {β : Type} (n : Nat) (kn : Option β) (kr : Int → Option β) (x0 : List Int) (x1 : List Int) (v5 : Int) (v6 : Int) : Option β := g156_3 n kr kn x0 x1 v5 v6
noncomputable def g156_4F {β : Type} (n : Nat) (s : FState) (cx : Cx β) : Option β := g156_3F n s { cx with ex := fun j s => bif Nat.beq j 0 then cx.nrm s else cx.ex j s }
theorem g156_4_fx {β : Type} (n : Nat) (cx : Cx β) (x0 : List Int) (x1 : List Int) (v5 : Int) (v6 : Int) : g156_4F n (g156_m2 x0 x1 v5 v6) cx = g156_4 n (cx.nrm g156_m3) (fun v4 => cx.ret (g156_m1 v4)) x0 x1 v5 v6 := g156_3_fx n _ x0 x1 v5 v6
noncomputable def g156_5 {β : Type} (n : Nat) (kr : Int → Option β) : Option β := kr (-1 : Int)
noncomputable def g156_5F {β : Type} (n : Nat) (s : FState) (cx : Cx β) : Option β := FX (g156_G n) n (nav g156_B [1, 1, 1, 0]) (.fin none none (some g156_m1e) [] .leaf) s { cx with nrm := fun s => FX (g156_G n) n (nav g156_B [1, 1, 1, 1]) (.fin none none (some g156_m1e) [] .leaf) s cx }
theorem g156_5_fx {β : Type} (n : Nat) (cx : Cx β) : g156_5F n g156_m3 cx = g156_5 n (fun v4 => cx.ret (g156_m1 v4)) := by kernel_rfl
noncomputable def g156_6 {β : Type} (n : Nat) (kr : Int → Option β) (x0 : List Int) (x1 : List Int) : Option β := g156_1 n (fun x0 x1 v5 v6 => g156_4 n (g156_5 n kr) kr x0 x1 v5 v6) x0 x1
noncomputable def g156_6F {β : Type} (n : Nat) (s : FState) (cx : Cx β) : Option β := g156_1F n s { cx with nrm := fun s => g156_4F n s { cx with nrm := fun s => g156_5F n s cx } }
theorem g156_6_fx {β : Type} (n : Nat) (cx : Cx β) (x0 : List Int) (x1 : List Int) : g156_6F n (g156_m0 x0 x1) cx = g156_6 n (fun v4 => cx.ret (g156_m1 v4)) x0 x1 := by simp only [g156_6F, g156_6, g156_1_fx, g156_4_fx, g156_5_fx]
noncomputable def g156 (n : Nat) (x0 : List Int) (x1 : List Int) : Option (DenR [.dat (.int .i64)]) := g156_6 n (fun v4 => some (v4, ())) x0 x1
noncomputable def g156_A : List AK := [.ro (.int .i32) 21, .ro (.int .i32) 21]
noncomputable def g156_R : List RK := [.dat (.int .i64)]
noncomputable def g156_f (n : Nat) (d : DenA g156_A) : Option (DenR g156_R) := g156 n d.1 d.2.1
noncomputable def g156_S (n : Nat) : Spec := mkSpec g156_A g156_R (g156_f n)
noncomputable def g156_K : Sk := (.nd (.fin none none none [] .leaf) (.nd (.fin none none none [] .leaf) (.nd (.nd (.fin none (some g156_m2e) none [] .leaf) (.nd (.nd (.nd (.nd (.fin none none (some g156_m1e) [(0, g156_m3e)] .leaf) (.fin none none (some g156_m1e) [(0, g156_m3e)] .leaf)) (.nd (.fin none none (some g156_m1e) [(0, g156_m3e)] .leaf) (.fin none (some g156_m2e) (some g156_m1e) [(0, g156_m3e)] .leaf))) .leaf) .leaf)) (.nd (.fin none none (some g156_m1e) [] .leaf) (.fin none none (some g156_m1e) [] .leaf)))))
theorem g156_top {β : Type} (n : Nat) (s : FState) (cx : Cx β) : FX (g156_G n) n g156_B g156_K s cx = g156_6F n s cx := by kernel_rfl
theorem g156_fit (n : Nat) : Fit Tryd.prog 156 (g156_S n) :=
  fit_of (Γ := Γ0) (l := g156_C n) (n := n) (sk := g156_K) (ts := [(4, none)]) (fn := Tryd.f156) (c := g156_B) (by kernel_rfl) (by kernel_rfl) (by unfold Callable; kernel_rfl) tab_ok ⟨g133_fit n, trivial⟩ follows_mixed (by kernel_rfl) (by kernel_rfl) (Nat.le_of_ble_eq_true (by kernel_rfl)) (by kernel_rfl) (by kernel_rfl)
    (fun d => (g156_top n _ _).trans (Eq.trans (b := g156_6F n (g156_m0 d.1 d.2.1) (finCx (g156_G n) g156_R [(4, none)])) (by kernel_rfl) ((g156_6_fx n _ d.1 d.2.1).trans (by kernel_rfl))))
noncomputable def g176_A : List AK := [.pro (.pair (.int .i64) (.pair (.int .i64) (.pair (.int .i64) (.pair (.flt .f64) (.pair (.int .i64) (.pair (.int .i64) (.flt .f64))))))) 106, .ro (.int .i32) 21, .ro (.int .i32) 21, .dat (.int .i64)]
noncomputable def g176_R : List RK := [.rw (.sl 21 (.int .i32)) 22]
noncomputable def g176 (n : Nat) (v0 : (Int × (Int × (Int × (Nat × (Int × (Int × Nat))))))) (v1 : List Int) (v2 : List Int) (v3 : Int) : Option (DenR [.rw (.sl 21 (.int .i32)) 22]) := none
noncomputable def g176_f (n : Nat) (d : DenA g176_A) : Option (DenR g176_R) := none
noncomputable def g176_S (n : Nat) : Spec := mkSpec g176_A g176_R (g176_f n)
theorem g176_fit (n : Nat) : Fit Tryd.prog 176 (g176_S n) := fit_none (by unfold Callable; kernel_rfl)
noncomputable def g157_m0 (p0 : (Int × (Int × (Int × (Nat × (Int × (Int × Nat))))))) (x1 : List Int) (x2 : List Int) : FState := ⟨tlist [(0, .ptr 0 0 0), (1, .sl 1 none false), (2, .sl 2 none false)], olist [(0, .row (.pair (.int .i64) (.pair (.int .i64) (.pair (.int .i64) (.pair (.flt .f64) (.pair (.int .i64) (.pair (.int .i64) (.flt .f64))))))) 106 false [p0]), (1, .row (.int .i32) 21 false x1), (2, .row (.int .i32) 21 false x2)]⟩
noncomputable def g157_m1 : FState := ⟨tlist [(6, .nsl)], olist []⟩
noncomputable def g157_m1e : List NE := [.keep 6]
noncomputable def g157_m2 (p0 : (Int × (Int × (Int × (Nat × (Int × (Int × Nat))))))) (x1 : List Int) (x2 : List Int) (x7 : List Int) (x8 : List Int) : FState := ⟨tlist [(0, .ptr 0 0 0), (1, .sl 1 none false), (2, .sl 2 none false), (7, .sl 7 none false), (8, .sl 8 none false)], olist [(0, .row (.pair (.int .i64) (.pair (.int .i64) (.pair (.int .i64) (.pair (.flt .f64) (.pair (.int .i64) (.pair (.int .i64) (.flt .f64))))))) 106 false [p0]), (1, .row (.int .i32) 21 false x1), (2, .row (.int .i32) 21 false x2), (7, .row (.int .i32) 21 false x7), (8, .row (.int .i32) 21 false x8)]⟩
noncomputable def g157_m2e : List NE := [.ptr 0 (.pair (.int .i64) (.pair (.int .i64) (.pair (.int .i64) (.pair (.flt .f64) (.pair (.int .i64) (.pair (.int .i64) (.flt .f64))))))) 106 false, .row 1 (.int .i32) 21 false, .row 2 (.int .i32) 21 false, .row 7 (.int .i32) 21 false, .row 8 (.int .i32) 21 false]
noncomputable def g157_C (n : Nat) : List (Nat × Spec) := [(176, g176_S n)]
noncomputable def g157_G (n : Nat) : Ctx := { Γ0 with calls := lkS (g157_C n) }
noncomputable def g157_B : Code := fb Tryd.f157
noncomputable def g157_1 {β : Type} (n : Nat) (kn : (Int × (Int × (Int × (Nat × (Int × (Int × Nat)))))) → List Int → List Int → List Int → List Int → Option β) (kr : Option β) (p0 : (Int × (Int × (Int × (Nat × (Int × (Int × Nat))))))) (x1 : List Int) (x2 : List Int) : Option β := bif (decide (p0.1 ≤ (0 : Int))) then kr else (bif (decide ((x1.length : Int) > (x2.length : Int))) then (kn p0 x1 x2 x1 x2) else (kn p0 x1 x2 x2 x1))
noncomputable def g157_1F {β : Type} (n : Nat) (s : FState) (cx : Cx β) : Option β := FX (g157_G n) n (nav g157_B [0]) (.fin none none (some g157_m1e) [] .leaf) s { cx with nrm := fun s => FX (g157_G n) n (nav g157_B [1, 0, 0]) (.fin none none (some g157_m1e) [] .leaf) s { cx with nrm := fun s => FX (g157_G n) n (nav g157_B [1, 0, 1]) (.fin none none (some g157_m1e) [] .leaf) s { cx with nrm := fun s => FX (g157_G n) n (nav g157_B [1, 1, 0]) (.fin none none (some g157_m1e) [] .leaf) s { cx with nrm := fun s => FX (g157_G n) n (nav g157_B [1, 1, 1, 0, 0]) (.fin none none (some g157_m1e) [] .leaf) s { cx with nrm := fun s => FX (g157_G n) n (nav g157_B [1, 1, 1, 0, 1]) (.fin none (some g157_m2e) (some g157_m1e) [] .leaf) s cx } } } } }
theorem g157_1_fx {β : Type} (n : Nat) (cx : Cx β) (p0 : (Int × (Int × (Int × (Nat × (Int × (Int × Nat))))))) (x1 : List Int) (x2 : List Int) : g157_1F n (g157_m0 p0 x1 x2) cx = g157_1 n (fun p0 x1 x2 x7 x8 => cx.nrm (g157_m2 p0 x1 x2 x7 x8)) (cx.ret g157_m1) p0 x1 x2 := by kernel_rfl
noncomputable def g157_2 {β : Type} (n : Nat) (kr : Option β) (p0 : (Int × (Int × (Int × (Nat × (Int × (Int × Nat))))))) (x1 : List Int) (x2 : List Int) (x7 : List Int) (x8 : List Int) : Option β := bif (decide ((x7.length : Int) < (4 : Int))) then kr else (bif (decide ((w64 ((x8.length : Int) * (2 : Int))) < (x7.length : Int))) then kr else (onS (floatBits .quo .f64 (floatOfInt .f64 (w64 ((x7.length : Int) + (3 : Int)))) (4616189618054758400 : Nat)) fun r1 => onS (floatToIntVal .f64 r1 .i64) fun r2 => (g176 n p0 x7 x8 r2).bind fun r3 => onS (floatBits .quo .f64 (floatOfInt .f64 (w64 ((x7.length : Int) + (1 : Int)))) (4611686018427387904 : Nat)) fun r4 => onS (floatToIntVal .f64 r4 .i64) fun r5 => (g176 n p0 x7 x8 r5).bind fun r6 => none))
noncomputable def g157_2F {β : Type} (n : Nat) (s : FState) (cx : Cx β) : Option β := FX (g157_G n) n (nav g157_B [1, 1, 1, 1, 0, 0]) (.fin none none (some g157_m1e) [] .leaf) s { cx with nrm := fun s => FX (g157_G n) n (nav g157_B [1, 1, 1, 1, 0, 1]) (.fin none none (some g157_m1e) [] .leaf) s { cx with nrm := fun s => FX (g157_G n) n (nav g157_B [1, 1, 1, 1, 1, 0]) (.fin none none (some g157_m1e) [] .leaf) s { cx with nrm := fun s => FX (g157_G n) n (nav g157_B [1, 1, 1, 1, 1, 1, 0]) (.fin none none (some g157_m1e) [] .leaf) s { cx with nrm := fun s => FX (g157_G n) n (nav g157_B [1, 1, 1, 1, 1, 1, 1, 0]) (.fin none none (some g157_m1e) [] .leaf) s { cx with nrm := fun s => FX (g157_G n) n (nav g157_B [1, 1, 1, 1, 1, 1, 1, 1, 0, 0]) (.fin none none (some g157_m1e) [] .leaf) s { cx with nrm := fun s => FX (g157_G n) n (nav g157_B [1, 1, 1, 1, 1, 1, 1, 1, 0, 1]) (.fin none none (some g157_m1e) [] .leaf) s { cx with nrm := fun s => FX (g157_G n) n (nav g157_B [1, 1, 1, 1, 1, 1, 1, 1, 1, 0, 0]) (.fin none none (some g157_m1e) [] .leaf) s { cx with nrm := fun s => FX (g157_G n) n (nav g157_B [1, 1, 1, 1, 1, 1, 1, 1, 1, 0, 1]) (.fin none none (some g157_m1e) [] .leaf) s { cx with nrm := fun s => FX (g157_G n) n (nav g157_B [1, 1, 1, 1, 1, 1, 1, 1, 1, 1, 0]) (.fin none none (some g157_m1e) [] .leaf) s { cx with nrm := fun s => FX (g157_G n) n (nav g157_B [1, 1, 1, 1, 1, 1, 1, 1, 1, 1, 1]) (.fin none none (some g157_m1e) [] .leaf) s cx } } } } } } } } } }
theorem g157_2_fx {β : Type} (n : Nat) (cx : Cx β) (p0 : (Int × (Int × (Int × (Nat × (Int × (Int × Nat))))))) (x1 : List Int) (x2 : List Int) (x7 : List Int) (x8 : List Int) : g157_2F n (g157_m2 p0 x1 x2 x7 x8) cx = g157_2 n (cx.ret g157_m1) p0 x1 x2 x7 x8 := by kernel_rfl
noncomputable def g157_3 {β : Type} (n : Nat) (kr : Option β) (p0 : (Int × (Int × (Int × (Nat × (Int × (Int × Nat))))))) (x1 : List Int) (x2 : List Int) : Option β := g157_1 n (fun p0 x1 x2 x7 x8 => g157_2 n kr p0 x1 x2 x7 x8) kr p0 x1 x2
noncomputable def g157_3F {β : Type} (n : Nat) (s : FState) (cx : Cx β) : Option β := g157_1F n s { cx with nrm := fun s => g157_2F n s cx }
theorem g157_3_fx {β : Type} (n : Nat) (cx : Cx β) (p0 : (Int × (Int × (Int × (Nat × (Int × (Int × Nat))))))) (x1 : List Int) (x2 : List Int) : g157_3F n (g157_m0 p0 x1 x2) cx = g157_3 n (cx.ret g157_m1) p0 x1 x2 := by simp only [g157_3F, g157_3, g157_1_fx, g157_2_fx]
noncomputable def g157 (n : Nat) (p0 : (Int × (Int × (Int × (Nat × (Int × (Int × Nat))))))) (x1 : List Int) (x2 : List Int) : Option (DenR [.nsl]) := g157_3 n (some ((), ())) p0 x1 x2
noncomputable def g157_A : List AK := [.pro (.pair (.int .i64) (.pair (.int .i64) (.pair (.int .i64) (.pair (.flt .f64) (.pair (.int .i64) (.pair (.int .i64) (.flt .f64))))))) 106, .ro (.int .i32) 21, .ro (.int .i32) 21]
noncomputable def g157_R : List RK := [.nsl]
noncomputable def g157_f (n : Nat) (d : DenA g157_A) : Option (DenR g157_R) := g157 n d.1 d.2.1 d.2.2.1
noncomputable def g157_S (n : Nat) : Spec := mkSpec g157_A g157_R (g157_f n)
noncomputable def g157_K : Sk := (.nd (.fin none none (some g157_m1e) [] .leaf) (.nd (.nd (.fin none none (some g157_m1e) [] .leaf) (.fin none none (some g157_m1e) [] .leaf)) (.nd (.fin none none (some g157_m1e) [] .leaf) (.nd (.nd (.fin none none (some g157_m1e) [] .leaf) (.fin none (some g157_m2e) (some g157_m1e) [] .leaf)) (.nd (.nd (.fin none none (some g157_m1e) [] .leaf) (.fin none none (some g157_m1e) [] .leaf)) (.nd (.fin none none (some g157_m1e) [] .leaf) (.nd (.fin none none (some g157_m1e) [] .leaf) (.nd (.fin none none (some g157_m1e) [] .leaf) (.nd (.nd (.fin none none (some g157_m1e) [] .leaf) (.fin none none (some g157_m1e) [] .leaf)) (.nd (.nd (.fin none none (some g157_m1e) [] .leaf) (.fin none none (some g157_m1e) [] .leaf)) (.nd (.fin none none (some g157_m1e) [] .leaf) (.fin none none (some g157_m1e) [] .leaf))))))))))))
theorem g157_top {β : Type} (n : Nat) (s : FState) (cx : Cx β) : FX (g157_G n) n g157_B g157_K s cx = g157_3F n s cx := by kernel_rfl
theorem g157_fit (n : Nat) : Fit Tryd.prog 157 (g157_S n) :=
  fit_of (Γ := Γ0) (l := g157_C n) (n := n) (sk := g157_K) (ts := [(6, none)]) (fn := Tryd.f157) (c := g157_B) (by kernel_rfl) (by kernel_rfl) (by unfold Callable; kernel_rfl) tab_ok ⟨g176_fit n, trivial⟩ follows_mixed (by kernel_rfl) (by kernel_rfl) (Nat.le_of_ble_eq_true (by kernel_rfl)) (by kernel_rfl) (by kernel_rfl)
    (fun d => (g157_top n _ _).trans (Eq.trans (b := g157_3F n (g157_m0 d.1 d.2.1 d.2.2.1) (finCx (g157_G n) g157_R [(6, none)])) (by kernel_rfl) ((g157_3_fx n _ d.1 d.2.1 d.2.2.1).trans (by kernel_rfl))))
noncomputable def g91_A : List AK := [.pro (.pair (.int .i64) (.pair (.int .i64) (.pair (.int .i64) (.pair (.flt .f64) (.pair (.int .i64) (.pair (.int .i64) (.flt .f64))))))) 106, .ro (.int .i32) 21, .ro (.int .i32) 21]
noncomputable def g91_R : List RK := [.rw (.pair (.int .i8) .str) 115]
noncomputable def g91 (n : Nat) (v0 : (Int × (Int × (Int × (Nat × (Int × (Int × Nat))))))) (v1 : List Int) (v2 : List Int) : Option (DenR [.rw (.pair (.int .i8) .str) 115]) := none
noncomputable def g91_f (n : Nat) (d : DenA g91_A) : Option (DenR g91_R) := none
noncomputable def g91_S (n : Nat) : Spec := mkSpec g91_A g91_R (g91_f n)
theorem g91_fit (n : Nat) : Fit Tryd.prog 91 (g91_S n) := fit_none (by unfold Callable; kernel_rfl)
end Go.Proofs.YthkiaiilpaojnaaDoorUF
