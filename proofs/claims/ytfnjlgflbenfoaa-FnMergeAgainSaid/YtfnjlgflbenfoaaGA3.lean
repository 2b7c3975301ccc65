import Derived.Test.YtfnjlgflbenfoaaFT
import Derived.Test.YtfnjlgflbenfoaaGA0
import Derived.Test.YtfnjlgflbenfoaaGA2
namespace Go.Proofs.YtfnjlgflbenfoaaF
open Go Go.Proofs
set_option linter.unusedVariables false
set_option maxRecDepth 100000
noncomputable def g30_m0 (x0 : List (Int × ByteArray)) : FState := ⟨tlist [(0, .sl 0 none false)], olist [(0, .row (.pair (.int .i8) .str) 51 false x0)]⟩
noncomputable def g30_m1 (x2 : List (Int × ByteArray)) : FState := ⟨tlist [(2, .sl 2 none false)], olist [(2, .row (.pair (.int .i64) .str) 28 true x2)]⟩
noncomputable def g30_m1e : List NE := [.row 2 (.pair (.int .i64) .str) 28 true]
noncomputable def g30_m2 (x3 : List (Int × ByteArray)) (x6 : List (Int × ByteArray)) (v7 : Int) (v8 : Int) : FState := ⟨tlist [(3, .sl 3 none false), (6, .sl 6 none false), (7, .dat (.int .i64) v7), (8, .dat (.int .i64) v8)], olist [(3, .row (.pair (.int .i64) .str) 28 true x3), (6, .row (.pair (.int .i8) .str) 51 false x6)]⟩
noncomputable def g30_m2e : List NE := [.row 3 (.pair (.int .i64) .str) 28 true, .row 6 (.pair (.int .i8) .str) 51 false, .keep 7, .keep 8]
noncomputable def g30_m3 (x3 : List (Int × ByteArray)) : FState := ⟨tlist [(3, .sl 3 none false)], olist [(3, .row (.pair (.int .i64) .str) 28 true x3)]⟩
noncomputable def g30_m3e : List NE := [.row 3 (.pair (.int .i64) .str) 28 true]
noncomputable def g30_C (n : Nat) : List (Nat × Spec) := []
noncomputable def g30_G (n : Nat) : Ctx := { Γ0 with calls := lkS (g30_C n) }
noncomputable def g30_B : Code := fb Try.f30
noncomputable def g30_1 {β : Type} (n : Nat) (kn : List (Int × ByteArray) → List (Int × ByteArray) → Int → Int → Option β) (x0 : List (Int × ByteArray)) : Option β := kn [] x0 (x0.length : Int) (0 : Int)
noncomputable def g30_1F {β : Type} (n : Nat) (s : FState) (cx : Cx β) : Option β := FX (g30_G n) n (nav g30_B [0]) (.fin none none none [] .leaf) s { cx with nrm := fun s => FX (g30_G n) n (nav g30_B [1, 0]) (.fin none none none [] .leaf) s { cx with nrm := fun s => FX (g30_G n) n (nav g30_B [1, 1, 0, 0]) (.fin none (some g30_m2e) none [] .leaf) s cx } }
theorem g30_1_fx {β : Type} (n : Nat) (cx : Cx β) (x0 : List (Int × ByteArray)) : g30_1F n (g30_m0 x0) cx = g30_1 n (fun x3 x6 v7 v8 => cx.nrm (g30_m2 x3 x6 v7 v8)) x0 := by kernel_rfl
noncomputable def g30_2 {β : Type} (n : Nat) (kn : List (Int × ByteArray) → List (Int × ByteArray) → Int → Int → Option β) (kx0 : List (Int × ByteArray) → Option β) (x3 : List (Int × ByteArray)) (x6 : List (Int × ByteArray)) (v7 : Int) (v8 : Int) : Option β := bif (decide (v8 < v7)) then (idx v8 (x6.length : Int) <| roomy (x3.length + [((w64 ((rd [(rd x6 v8 ((0 : Int), (⟨#[]⟩ : ByteArray)))] (0 : Int) ((0 : Int), (⟨#[]⟩ : ByteArray))).1)), (rd [(rd x6 v8 ((0 : Int), (⟨#[]⟩ : ByteArray)))] (0 : Int) ((0 : Int), (⟨#[]⟩ : ByteArray))).2)].length) <| kn (x3 ++ [((w64 ((rd [(rd x6 v8 ((0 : Int), (⟨#[]⟩ : ByteArray)))] (0 : Int) ((0 : Int), (⟨#[]⟩ : ByteArray))).1)), (rd [(rd x6 v8 ((0 : Int), (⟨#[]⟩ : ByteArray)))] (0 : Int) ((0 : Int), (⟨#[]⟩ : ByteArray))).2)]) x6 v7 (w64 (v8 + (1 : Int)))) else (kx0 x3)
noncomputable def g30_2F {β : Type} (n : Nat) (s : FState) (cx : Cx β) : Option β := FX (g30_G n) n (nav g30_B [1, 1, 0, 1, 0, 0, 0]) (.fin none none none [(0, g30_m3e)] .leaf) s { cx with nrm := fun s => FX (g30_G n) n (nav g30_B [1, 1, 0, 1, 0, 0, 1, 0]) (.fin none none none [(0, g30_m3e)] .leaf) s { cx with nrm := fun s => FX (g30_G n) n (nav g30_B [1, 1, 0, 1, 0, 0, 1, 1, 0]) (.fin none none none [(0, g30_m3e)] .leaf) s { cx with nrm := fun s => FX (g30_G n) n (nav g30_B [1, 1, 0, 1, 0, 0, 1, 1, 1]) (.fin none (some g30_m2e) none [(0, g30_m3e)] .leaf) s cx } } }
theorem g30_2_fx {β : Type} (n : Nat) (cx : Cx β) (x3 : List (Int × ByteArray)) (x6 : List (Int × ByteArray)) (v7 : Int) (v8 : Int) : g30_2F n (g30_m2 x3 x6 v7 v8) cx = g30_2 n (fun x3 x6 v7 v8 => cx.nrm (g30_m2 x3 x6 v7 v8)) (fun x3 => cx.ex 0 (g30_m3 x3)) x3 x6 v7 v8 := by kernel_rfl
noncomputable def g30_3L {β : Type} (n : Nat) (kx0 : List (Int × ByteArray) → Option β) : Nat → List (Int × ByteArray) → List (Int × ByteArray) → Int → Int → Option β
  | 0, _, _, _, _ => none
  | m + 1, x3, x6, v7, v8 => g30_2 n (g30_3L n kx0 m) kx0 x3 x6 v7 v8
noncomputable def g30_3 {β : Type} (n : Nat) (kx0 : List (Int × ByteArray) → Option β) (x3 : List (Int × ByteArray)) (x6 : List (Int × ByteArray)) (v7 : Int) (v8 : Int) : Option β := g30_3L n kx0 n x3 x6 v7 v8
noncomputable def g30_3F {β : Type} (n : Nat) (s : FState) (cx : Cx β) : Option β := loopN (fun again s => g30_2F n s { cx with nrm := again }) n s
theorem g30_3L_fx {β : Type} (n : Nat) (cx : Cx β) : ∀ (m : Nat) (x3 : List (Int × ByteArray)) (x6 : List (Int × ByteArray)) (v7 : Int) (v8 : Int), loopN (fun again s => g30_2F n s { cx with nrm := again }) m (g30_m2 x3 x6 v7 v8) = g30_3L n (fun x3 => cx.ex 0 (g30_m3 x3)) m x3 x6 v7 v8 := by
  intro m
  induction m with
  | zero => intros; rfl
  | succ m ih => intros; simp only [loopN, g30_3L, g30_2_fx, ih]
theorem g30_3_fx {β : Type} (n : Nat) (cx : Cx β) (x3 : List (Int × ByteArray)) (x6 : List (Int × ByteArray)) (v7 : Int) (v8 : Int) : g30_3F n (g30_m2 x3 x6 v7 v8) cx = g30_3 n (fun x3 => cx.ex 0 (g30_m3 x3)) x3 x6 v7 v8 := g30_3L_fx n cx n x3 x6 v7 v8
noncomputable def g30_4 {β : Type} (n : Nat) (kn : List (Int × ByteArray) → Option β) (x3 : List (Int × ByteArray)) (x6 : List (Int × ByteArray)) (v7 : Int) (v8 : Int) : Option β := g30_3 n kn x3 x6 v7 v8
noncomputable def g30_4F {β : Type} (n : Nat) (s : FState) (cx : Cx β) : Option β := g30_3F n s { cx with ex := fun j s => bif Nat.beq j 0 then cx.nrm s else cx.ex j s }
theorem g30_4_fx {β : Type} (n : Nat) (cx : Cx β) (x3 : List (Int × ByteArray)) (x6 : List (Int × ByteArray)) (v7 : Int) (v8 : Int) : g30_4F n (g30_m2 x3 x6 v7 v8) cx = g30_4 n (fun x3 => cx.nrm (g30_m3 x3)) x3 x6 v7 v8 := g30_3_fx n _ x3 x6 v7 v8
noncomputable def g30_5 {β : Type} (n : Nat) (kr : List (Int × ByteArray) → Option β) (x3 : List (Int × ByteArray)) : Option β := kr x3
noncomputable def g30_5F {β : Type} (n : Nat) (s : FState) (cx : Cx β) : Option β := FX (g30_G n) n (nav g30_B [1, 1, 1, 0]) (.fin none none (some g30_m1e) [] .leaf) s { cx with nrm := fun s => FX (g30_G n) n (nav g30_B [1, 1, 1, 1]) (.fin none none (some g30_m1e) [] .leaf) s cx }
theorem g30_5_fx {β : Type} (n : Nat) (cx : Cx β) (x3 : List (Int × ByteArray)) : g30_5F n (g30_m3 x3) cx = g30_5 n (fun x2 => cx.ret (g30_m1 x2)) x3 := by kernel_rfl
noncomputable def g30_6 {β : Type} (n : Nat) (kr : List (Int × ByteArray) → Option β) (x0 : List (Int × ByteArray)) : Option β := g30_1 n (fun x3 x6 v7 v8 => g30_4 n (fun x3 => g30_5 n kr x3) x3 x6 v7 v8) x0
noncomputable def g30_6F {β : Type} (n : Nat) (s : FState) (cx : Cx β) : Option β := g30_1F n s { cx with nrm := fun s => g30_4F n s { cx with nrm := fun s => g30_5F n s cx } }
theorem g30_6_fx {β : Type} (n : Nat) (cx : Cx β) (x0 : List (Int × ByteArray)) : g30_6F n (g30_m0 x0) cx = g30_6 n (fun x2 => cx.ret (g30_m1 x2)) x0 := by simp only [g30_6F, g30_6, g30_1_fx, g30_4_fx, g30_5_fx]
noncomputable def g30 (n : Nat) (x0 : List (Int × ByteArray)) : Option (DenR [.rw (.pair (.int .i64) .str) 28]) := g30_6 n (fun x2 => some (x2, ())) x0
noncomputable def g30_A : List AK := [.ro (.pair (.int .i8) .str) 51]
noncomputable def g30_R : List RK := [.rw (.pair (.int .i64) .str) 28]
noncomputable def g30_f (n : Nat) (d : DenA g30_A) : Option (DenR g30_R) := g30 n d.1
noncomputable def g30_S (n : Nat) : Spec := mkSpec g30_A g30_R (g30_f n)
noncomputable def g30_K : Sk := (.nd (.fin none none none [] .leaf) (.nd (.fin none none none [] .leaf) (.nd (.nd (.fin none (some g30_m2e) none [] .leaf) (.nd (.nd (.nd (.fin none none none [(0, g30_m3e)] .leaf) (.nd (.fin none none none [(0, g30_m3e)] .leaf) (.nd (.fin none none none [(0, g30_m3e)] .leaf) (.fin none (some g30_m2e) none [(0, g30_m3e)] .leaf)))) .leaf) .leaf)) (.nd (.fin none none (some g30_m1e) [] .leaf) (.fin none none (some g30_m1e) [] .leaf)))))
theorem g30_top {β : Type} (n : Nat) (s : FState) (cx : Cx β) : FX (g30_G n) n g30_B g30_K s cx = g30_6F n s cx := by kernel_rfl
theorem g30_fit (n : Nat) : Fit Try.prog 30 (g30_S n) :=
  fit_of (Γ := Γ0) (l := g30_C n) (n := n) (sk := g30_K) (ts := [(2, none)]) (fn := Try.f30) (c := g30_B) (by kernel_rfl) (by kernel_rfl) (by unfold Callable; kernel_rfl) tab_ok trivial follows_mixed (by kernel_rfl) (by kernel_rfl) (Nat.le_of_ble_eq_true (by kernel_rfl)) (by kernel_rfl) (by kernel_rfl)
    (fun d => (g30_top n _ _).trans (Eq.trans (b := g30_6F n (g30_m0 d.1) (finCx (g30_G n) g30_R [(2, none)])) (by kernel_rfl) ((g30_6_fx n _ d.1).trans (by kernel_rfl))))
theorem g29_idle : Idle Try.prog 29 2 := fun vs w hv => by
  obtain ⟨p0, p1, rfl⟩ := arr2 hv
  refine callsD_of_wpS (fn := Try.f29) (c := fb Try.f29) (by kernel_rfl) (by kernel_rfl) fun c₀ cs hu => ?_
  show Code.wpS Try.prog (.seq (nav (fb Try.f29) [0]) (.cond (.tmp 3) (nav (fb Try.f29) [1, 0]) .skip)) _ _ _ _
  apply wpS_seq
  apply wpS_region
  simp [wpOpsS, go_sem, recoverD, hu, Exit.thenS]
  refine wpS_cond (t := false) (by simp [Act.eval, Array.replicate]) ?_
  simp only [Bool.false_eq_true, if_false]
  refine wpS_of_wp (wp_skip ?_)
  cases c₀
  simp_all [bodyPostS, results]
noncomputable def g22_m0 (x0 : List (Int × ByteArray)) : FState := ⟨tlist [(0, .sl 0 none false)], olist [(0, .row (.pair (.int .i64) .str) 28 false x0)]⟩
noncomputable def g22_m1 (p2 : (List (Int × ByteArray))) (p3 : Int) : FState := ⟨tlist [(2, .ptr 2 0 0), (3, .ptr 3 0 0)], olist [(2, .row (.sl 28 (.pair (.int .i64) .str)) 22 true [p2]), (3, .row (.int .i64) 3 true [p3])]⟩
noncomputable def g22_m1e : List NE := [.ptr 2 (.sl 28 (.pair (.int .i64) .str)) 22 true, .ptr 3 (.int .i64) 3 true]
noncomputable def g22_m2 (x0 : List (Int × ByteArray)) (p2 : (List (Int × ByteArray))) (p3 : Int) : FState := ⟨tlist [(0, .sl 0 none false), (2, .ptr 2 0 0), (3, .ptr 3 0 0)], olist [(0, .row (.pair (.int .i64) .str) 28 false x0), (2, .row (.sl 28 (.pair (.int .i64) .str)) 22 true [p2]), (3, .row (.int .i64) 3 true [p3])]⟩
noncomputable def g22_m2e : List NE := [.row 0 (.pair (.int .i64) .str) 28 false, .ptr 2 (.sl 28 (.pair (.int .i64) .str)) 22 true, .ptr 3 (.int .i64) 3 true]
noncomputable def g22_C (n : Nat) : List (Nat × Spec) := [(30, g30_S n), (31, g31_S n), (32, g32_S n), (33, g33_S n)]
noncomputable def g22_G (n : Nat) : Ctx := { Γ0 with calls := lkS (g22_C n) }
noncomputable def g22_B : Code := fb Try.f22
noncomputable def g22_1 {β : Type} (n : Nat) (kn : List (Int × ByteArray) → (List (Int × ByteArray)) → Int → Option β) (x0 : List (Int × ByteArray)) : Option β := kn x0 ([] : List (Int × ByteArray)) (0 : Int)
noncomputable def g22_1F {β : Type} (n : Nat) (s : FState) (cx : Cx β) : Option β := FX (g22_G n) n (nav g22_B [0]) (.fin none (some g22_m2e) none [] .leaf) s cx
theorem g22_1_fx {β : Type} (n : Nat) (cx : Cx β) (x0 : List (Int × ByteArray)) : g22_1F n (g22_m0 x0) cx = g22_1 n (fun x0 p2 p3 => cx.nrm (g22_m2 x0 p2 p3)) x0 := by kernel_rfl
noncomputable def g22_2 {β : Type} (n : Nat) (kr : (List (Int × ByteArray)) → Int → Option β) (x0 : List (Int × ByteArray)) (p2 : (List (Int × ByteArray))) (p3 : Int) : Option β := (g31 n).bind fun r1 => (g33 n x0).bind fun r2 => (g32 n r1.1 r2.1).bind fun r3 => (g30 n r3.1).bind fun r4 => kr r4.1 (0 : Int)
noncomputable def g22_2F {β : Type} (n : Nat) (s : FState) (cx : Cx β) : Option β := FX (g22_G n) n (nav g22_B [1, 1, 0]) (.fin none none (some g22_m1e) [] .leaf) s { cx with nrm := fun s => FX (g22_G n) n (nav g22_B [1, 1, 1]) (.fin none none (some g22_m1e) [] .leaf) s cx }
theorem g22_2_fx {β : Type} (n : Nat) (cx : Cx β) (x0 : List (Int × ByteArray)) (p2 : (List (Int × ByteArray))) (p3 : Int) : g22_2F n (g22_m2 x0 p2 p3) cx = g22_2 n (fun p2 p3 => cx.ret (g22_m1 p2 p3)) x0 p2 p3 := by kernel_rfl
noncomputable def g22 (n : Nat) (x0 : List (Int × ByteArray)) : Option (DenR [.ro (.pair (.int .i64) .str) 28, .dat (.int .i64)]) := g22_1 n (fun x0 p2 p3 => g22_2 n (fun p2 p3 => some (p2, (p3, ()))) x0 p2 p3) x0
noncomputable def g22_A : List AK := [.ro (.pair (.int .i64) .str) 28]
noncomputable def g22_R : List RK := [.ro (.pair (.int .i64) .str) 28, .dat (.int .i64)]
noncomputable def g22_f (n : Nat) (d : DenA g22_A) : Option (DenR g22_R) := g22 n d.1
noncomputable def g22_S (n : Nat) : Spec := mkSpec g22_A g22_R (g22_f n)
noncomputable def g22_K0 : Sk := (.fin none (some g22_m2e) none [] .leaf)
noncomputable def g22_K1 : Sk := (.nd (.fin none none (some g22_m1e) [] .leaf) (.fin none none (some g22_m1e) [] .leaf))
noncomputable def g22_K2 : Sk := (.fin (some g22_m2e) none none [] (.nd (.fin none none (some g22_m1e) [] .leaf) (.fin none none (some g22_m1e) [] .leaf)))
theorem g22_top {β : Type} (n : Nat) (s : FState) (cx : Cx β) : FX (g22_G n) n (nav g22_B [1, 1]) g22_K1 s cx = g22_2F n s cx := by kernel_rfl
theorem g22_mid {β : Type} (n : Nat) (cx : Cx β) (x0 : List (Int × ByteArray)) (p2 : (List (Int × ByteArray))) (p3 : Int) : FX (g22_G n) n (nav g22_B [1, 1]) g22_K2 (FState.set (g22_m2 x0 p2 p3) 4 .dead) cx = g22_2 n (fun p2 p3 => cx.ret (g22_m1 p2 p3)) x0 p2 p3 :=
  Eq.trans (b := FX (g22_G n) n (nav g22_B [1, 1]) g22_K1 (g22_m2 x0 p2 p3) cx) (by kernel_rfl) ((g22_top n _ _).trans (g22_2_fx n cx x0 p2 p3))
theorem g22_fit (n : Nat) : Fit Try.prog 22 (g22_S n) :=
  fit_of_wrap (Γ := Γ0) (l := g22_C n) (n := n) (sk0 := g22_K0) (sk1 := g22_K2) (ts := [(2, some 22), (3, some 3)]) (fn := Try.f22) (c := g22_B) (c0 := nav g22_B [0]) (c1 := nav g22_B [1, 1]) (tm := 4) (g := 29) (k := 2) (by kernel_rfl) (by kernel_rfl) (by kernel_rfl) (by unfold Callable; kernel_rfl) tab_ok ⟨g30_fit n, g31_fit n, g32_fit n, g33_fit n, trivial⟩ follows_mixed (by unfold Callable; kernel_rfl) g29_idle (by kernel_rfl) (by kernel_rfl) (by kernel_rfl) (Nat.le_of_ble_eq_true (by kernel_rfl)) (Nat.le_of_ble_eq_true (by kernel_rfl)) (by kernel_rfl) (by kernel_rfl)
    (fun d => Eq.trans (b := g22_1F n (g22_m0 d.1) ⟨fun s => FX (g22_G n) n (nav g22_B [1, 1]) g22_K2 (FState.set s 4 .dead) (finCx (g22_G n) g22_R [(2, some 22), (3, some 3)]), fun _ => none, fun _ _ => none⟩) (by kernel_rfl) ((g22_1_fx n _ d.1).trans (Eq.trans (b := g22_1 n (fun x0 p2 p3 => g22_2 n (fun p2 p3 => (finCx (g22_G n) g22_R [(2, some 22), (3, some 3)]).ret (g22_m1 p2 p3)) x0 p2 p3) d.1) (congrArg (fun k_ => g22_1 n k_ d.1) (funext fun x0 => (funext fun p2 => (funext fun p3 => g22_mid n (finCx (g22_G n) g22_R [(2, some 22), (3, some 3)]) x0 p2 p3)))) (by kernel_rfl))))
noncomputable def g23_m0 (x0 : List (Int × ByteArray)) (v1 : Int) : FState := ⟨tlist [(0, .sl 0 none false), (1, .dat (.int .i64) v1)], olist [(0, .row (.pair (.int .i64) .str) 28 false x0)]⟩
noncomputable def g23_m1 (x4 : List (Int × ByteArray)) : FState := ⟨tlist [(4, .sl 4 none false)], olist [(4, .row (.pair (.int .i64) .str) 28 false x4)]⟩
noncomputable def g23_m1e : List NE := [.row 4 (.pair (.int .i64) .str) 28 false]
noncomputable def g23_C (n : Nat) : List (Nat × Spec) := []
noncomputable def g23_G (n : Nat) : Ctx := { Γ0 with calls := lkS (g23_C n) }
noncomputable def g23_B : Code := fb Try.f23
noncomputable def g23_1 {β : Type} (n : Nat) (kr : List (Int × ByteArray) → Option β) (x0 : List (Int × ByteArray)) (v1 : Int) : Option β := bif (v1 != (0 : Int)) then (kr [((1 : Int), (⟨#[0, 102, 97, 117, 108, 116]⟩ : ByteArray)), ((1 : Int), (⟨#[]⟩ : ByteArray))]) else (kr x0)
noncomputable def g23_1F {β : Type} (n : Nat) (s : FState) (cx : Cx β) : Option β := FX (g23_G n) n (nav g23_B [0]) (.fin none none (some g23_m1e) [] .leaf) s { cx with nrm := fun s => FX (g23_G n) n (nav g23_B [1, 0, 0]) (.fin none none (some g23_m1e) [] .leaf) s { cx with nrm := fun s => FX (g23_G n) n (nav g23_B [1, 0, 1]) (.fin none none (some g23_m1e) [] .leaf) s { cx with nrm := fun s => FX (g23_G n) n (nav g23_B [1, 1, 0]) (.fin none none (some g23_m1e) [] .leaf) s { cx with nrm := fun s => FX (g23_G n) n (nav g23_B [1, 1, 1]) (.fin none none (some g23_m1e) [] .leaf) s cx } } } }
theorem g23_1_fx {β : Type} (n : Nat) (cx : Cx β) (x0 : List (Int × ByteArray)) (v1 : Int) : g23_1F n (g23_m0 x0 v1) cx = g23_1 n (fun x4 => cx.ret (g23_m1 x4)) x0 v1 := by kernel_rfl
noncomputable def g23 (n : Nat) (x0 : List (Int × ByteArray)) (v1 : Int) : Option (DenR [.ro (.pair (.int .i64) .str) 28]) := g23_1 n (fun x4 => some (x4, ())) x0 v1
noncomputable def g23_A : List AK := [.ro (.pair (.int .i64) .str) 28, .dat (.int .i64)]
noncomputable def g23_R : List RK := [.ro (.pair (.int .i64) .str) 28]
noncomputable def g23_f (n : Nat) (d : DenA g23_A) : Option (DenR g23_R) := g23 n d.1 d.2.1
noncomputable def g23_S (n : Nat) : Spec := mkSpec g23_A g23_R (g23_f n)
noncomputable def g23_K : Sk := (.nd (.fin none none (some g23_m1e) [] .leaf) (.nd (.nd (.fin none none (some g23_m1e) [] .leaf) (.fin none none (some g23_m1e) [] .leaf)) (.nd (.fin none none (some g23_m1e) [] .leaf) (.fin none none (some g23_m1e) [] .leaf))))
theorem g23_top {β : Type} (n : Nat) (s : FState) (cx : Cx β) : FX (g23_G n) n g23_B g23_K s cx = g23_1F n s cx := by kernel_rfl
theorem g23_fit (n : Nat) : Fit Try.prog 23 (g23_S n) :=
  fit_of (Γ := Γ0) (l := g23_C n) (n := n) (sk := g23_K) (ts := [(4, none)]) (fn := Try.f23) (c := g23_B) (by kernel_rfl) (by kernel_rfl) (by unfold Callable; kernel_rfl) tab_ok trivial follows_mixed (by kernel_rfl) (by kernel_rfl) (Nat.le_of_ble_eq_true (by kernel_rfl)) (by kernel_rfl) (by kernel_rfl)
    (fun d => (g23_top n _ _).trans (Eq.trans (b := g23_1F n (g23_m0 d.1 d.2.1) (finCx (g23_G n) g23_R [(4, none)])) (by kernel_rfl) ((g23_1_fx n _ d.1 d.2.1).trans (by kernel_rfl))))
noncomputable def g11_m0 (x0 : List (Int × ByteArray)) : FState := ⟨tlist [(0, .sl 0 none false)], olist [(0, .row (.pair (.int .i64) .str) 28 false x0)]⟩
noncomputable def g11_m1 (x2 : List (Int × ByteArray)) : FState := ⟨tlist [(2, .sl 2 none false)], olist [(2, .row (.pair (.int .i64) .str) 28 false x2)]⟩
noncomputable def g11_m1e : List NE := [.row 2 (.pair (.int .i64) .str) 28 false]
noncomputable def g11_C (n : Nat) : List (Nat × Spec) := [(22, g22_S n), (23, g23_S n)]
noncomputable def g11_G (n : Nat) : Ctx := { Γ0 with calls := lkS (g11_C n) }
noncomputable def g11_B : Code := fb Try.f11
noncomputable def g11_1 {β : Type} (n : Nat) (kr : List (Int × ByteArray) → Option β) (x0 : List (Int × ByteArray)) : Option β := (g22 n x0).bind fun r1 => (g23 n r1.1 r1.2.1).bind fun r2 => kr r2.1
noncomputable def g11_1F {β : Type} (n : Nat) (s : FState) (cx : Cx β) : Option β := FX (g11_G n) n (nav g11_B [0]) (.fin none none (some g11_m1e) [] .leaf) s { cx with nrm := fun s => FX (g11_G n) n (nav g11_B [1, 0]) (.fin none none (some g11_m1e) [] .leaf) s { cx with nrm := fun s => FX (g11_G n) n (nav g11_B [1, 1, 0]) (.fin none none (some g11_m1e) [] .leaf) s { cx with nrm := fun s => FX (g11_G n) n (nav g11_B [1, 1, 1]) (.fin none none (some g11_m1e) [] .leaf) s cx } } }
theorem g11_1_fx {β : Type} (n : Nat) (cx : Cx β) (x0 : List (Int × ByteArray)) : g11_1F n (g11_m0 x0) cx = g11_1 n (fun x2 => cx.ret (g11_m1 x2)) x0 := by kernel_rfl
noncomputable def g11 (n : Nat) (x0 : List (Int × ByteArray)) : Option (DenR [.ro (.pair (.int .i64) .str) 28]) := g11_1 n (fun x2 => some (x2, ())) x0
noncomputable def g11_A : List AK := [.ro (.pair (.int .i64) .str) 28]
noncomputable def g11_R : List RK := [.ro (.pair (.int .i64) .str) 28]
noncomputable def g11_f (n : Nat) (d : DenA g11_A) : Option (DenR g11_R) := g11 n d.1
noncomputable def g11_S (n : Nat) : Spec := mkSpec g11_A g11_R (g11_f n)
noncomputable def g11_K : Sk := (.nd (.fin none none (some g11_m1e) [] .leaf) (.nd (.fin none none (some g11_m1e) [] .leaf) (.nd (.fin none none (some g11_m1e) [] .leaf) (.fin none none (some g11_m1e) [] .leaf))))
theorem g11_top {β : Type} (n : Nat) (s : FState) (cx : Cx β) : FX (g11_G n) n g11_B g11_K s cx = g11_1F n s cx := by kernel_rfl
theorem g11_fit (n : Nat) : Fit Try.prog 11 (g11_S n) :=
  fit_of (Γ := Γ0) (l := g11_C n) (n := n) (sk := g11_K) (ts := [(2, none)]) (fn := Try.f11) (c := g11_B) (by kernel_rfl) (by kernel_rfl) (by unfold Callable; kernel_rfl) tab_ok ⟨g22_fit n, g23_fit n, trivial⟩ follows_mixed (by kernel_rfl) (by kernel_rfl) (Nat.le_of_ble_eq_true (by kernel_rfl)) (by kernel_rfl) (by kernel_rfl)
    (fun d => (g11_top n _ _).trans (Eq.trans (b := g11_1F n (g11_m0 d.1) (finCx (g11_G n) g11_R [(2, none)])) (by kernel_rfl) ((g11_1_fx n _ d.1).trans (by kernel_rfl))))
noncomputable def g24_m0 (x0 : List (Int × ByteArray)) : FState := ⟨tlist [(0, .sl 0 none false)], olist [(0, .row (.pair (.int .i64) .str) 28 false x0)]⟩
noncomputable def g24_m1 (v2 : ByteArray) : FState := ⟨tlist [(2, .dat .str v2)], olist []⟩
noncomputable def g24_m1e : List NE := [.keep 2]
noncomputable def g24_m2 (v3 : ByteArray) (x6 : List (Int × ByteArray)) (v7 : Int) (v8 : Int) : FState := ⟨tlist [(3, .dat .str v3), (6, .sl 6 none false), (7, .dat (.int .i64) v7), (8, .dat (.int .i64) v8)], olist [(6, .row (.pair (.int .i64) .str) 28 false x6)]⟩
noncomputable def g24_m2e : List NE := [.keep 3, .row 6 (.pair (.int .i64) .str) 28 false, .keep 7, .keep 8]
noncomputable def g24_m3 (v3 : ByteArray) : FState := ⟨tlist [(3, .dat .str v3)], olist []⟩
noncomputable def g24_m3e : List NE := [.keep 3]
noncomputable def g24_C (n : Nat) : List (Nat × Spec) := []
noncomputable def g24_G (n : Nat) : Ctx := { Γ0 with calls := lkS (g24_C n) }
noncomputable def g24_B : Code := fb Try.f24
noncomputable def g24_1 {β : Type} (n : Nat) (kn : ByteArray → List (Int × ByteArray) → Int → Int → Option β) (x0 : List (Int × ByteArray)) : Option β := kn (⟨#[]⟩ : ByteArray) x0 (x0.length : Int) (0 : Int)
noncomputable def g24_1F {β : Type} (n : Nat) (s : FState) (cx : Cx β) : Option β := FX (g24_G n) n (nav g24_B [0]) (.fin none none none [] .leaf) s { cx with nrm := fun s => FX (g24_G n) n (nav g24_B [1, 0]) (.fin none none none [] .leaf) s { cx with nrm := fun s => FX (g24_G n) n (nav g24_B [1, 1, 0, 0]) (.fin none (some g24_m2e) none [] .leaf) s cx } }
theorem g24_1_fx {β : Type} (n : Nat) (cx : Cx β) (x0 : List (Int × ByteArray)) : g24_1F n (g24_m0 x0) cx = g24_1 n (fun v3 x6 v7 v8 => cx.nrm (g24_m2 v3 x6 v7 v8)) x0 := by kernel_rfl
noncomputable def g24_2 {β : Type} (n : Nat) (kn : ByteArray → List (Int × ByteArray) → Int → Int → Option β) (kx0 : ByteArray → Option β) (v3 : ByteArray) (x6 : List (Int × ByteArray)) (v7 : Int) (v8 : Int) : Option β := bif (decide (v8 < v7)) then (idx v8 (x6.length : Int) <| bif ((rd [(rd x6 v8 ((0 : Int), (⟨#[]⟩ : ByteArray)))] (0 : Int) ((0 : Int), (⟨#[]⟩ : ByteArray))).1 != (1 : Int)) then (roomy (v3.size + ((rd [(rd x6 v8 ((0 : Int), (⟨#[]⟩ : ByteArray)))] (0 : Int) ((0 : Int), (⟨#[]⟩ : ByteArray))).2).size) <| kn (v3 ++ (rd [(rd x6 v8 ((0 : Int), (⟨#[]⟩ : ByteArray)))] (0 : Int) ((0 : Int), (⟨#[]⟩ : ByteArray))).2) x6 v7 (w64 (v8 + (1 : Int)))) else (kn v3 x6 v7 (w64 (v8 + (1 : Int))))) else (kx0 v3)
noncomputable def g24_2F {β : Type} (n : Nat) (s : FState) (cx : Cx β) : Option β := FX (g24_G n) n (nav g24_B [1, 1, 0, 1, 0, 0, 0]) (.fin none none none [(0, g24_m3e)] .leaf) s { cx with nrm := fun s => FX (g24_G n) n (nav g24_B [1, 1, 0, 1, 0, 0, 1, 0]) (.fin none none none [(0, g24_m3e)] .leaf) s { cx with nrm := fun s => FX (g24_G n) n (nav g24_B [1, 1, 0, 1, 0, 0, 1, 1, 0]) (.fin none none none [(0, g24_m3e)] .leaf) s { cx with nrm := fun s => FX (g24_G n) n (nav g24_B [1, 1, 0, 1, 0, 0, 1, 1, 1]) (.fin none (some g24_m2e) none [(0, g24_m3e)] .leaf) s cx } } }
theorem g24_2_fx {β : Type} (n : Nat) (cx : Cx β) (v3 : ByteArray) (x6 : List (Int × ByteArray)) (v7 : Int) (v8 : Int) : g24_2F n (g24_m2 v3 x6 v7 v8) cx = g24_2 n (fun v3 x6 v7 v8 => cx.nrm (g24_m2 v3 x6 v7 v8)) (fun v3 => cx.ex 0 (g24_m3 v3)) v3 x6 v7 v8 := by kernel_rfl
noncomputable def g24_3L {β : Type} (n : Nat) (kx0 : ByteArray → Option β) : Nat → ByteArray → List (Int × ByteArray) → Int → Int → Option β
  | 0, _, _, _, _ => none
  | m + 1, v3, x6, v7, v8 => g24_2 n (g24_3L n kx0 m) kx0 v3 x6 v7 v8
noncomputable def g24_3 {β : Type} (n : Nat) (kx0 : ByteArray → Option β) (v3 : ByteArray) (x6 : List (Int × ByteArray)) (v7 : Int) (v8 : Int) : Option β := g24_3L n kx0 n v3 x6 v7 v8
noncomputable def g24_3F {β : Type} (n : Nat) (s : FState) (cx : Cx β) : Option β := loopN (fun again s => g24_2F n s { cx with nrm := again }) n s
theorem g24_3L_fx {β : Type} (n : Nat) (cx : Cx β) : ∀ (m : Nat) (v3 : ByteArray) (x6 : List (Int × ByteArray)) (v7 : Int) (v8 : Int), loopN (fun again s => g24_2F n s { cx with nrm := again }) m (g24_m2 v3 x6 v7 v8) = g24_3L n (fun v3 => cx.ex 0 (g24_m3 v3)) m v3 x6 v7 v8 := by
  intro m
  induction m with
  | zero => intros; rfl
  | succ m ih => intros; simp only [loopN, g24_3L, g24_2_fx, ih]
theorem g24_3_fx {β : Type} (n : Nat) (cx : Cx β) (v3 : ByteArray) (x6 : List (Int × ByteArray)) (v7 : Int) (v8 : Int) : g24_3F n (g24_m2 v3 x6 v7 v8) cx = g24_3 n (fun v3 => cx.ex 0 (g24_m3 v3)) v3 x6 v7 v8 := g24_3L_fx n cx n v3 x6 v7 v8
noncomputable def g24_4 {β : Type} (n : Nat) (kn : ByteArray → Option β) (v3 : ByteArray) (x6 : List (Int × ByteArray)) (v7 : Int) (v8 : Int) : Option β := g24_3 n kn v3 x6 v7 v8
noncomputable def g24_4F {β : Type} (n : Nat) (s : FState) (cx : Cx β) : Option β := g24_3F n s { cx with ex := fun j s => bif Nat.beq j 0 then cx.nrm s else cx.ex j s }
theorem g24_4_fx {β : Type} (n : Nat) (cx : Cx β) (v3 : ByteArray) (x6 : List (Int × ByteArray)) (v7 : Int) (v8 : Int) : g24_4F n (g24_m2 v3 x6 v7 v8) cx = g24_4 n (fun v3 => cx.nrm (g24_m3 v3)) v3 x6 v7 v8 := g24_3_fx n _ v3 x6 v7 v8
noncomputable def g24_5 {β : Type} (n : Nat) (kr : ByteArray → Option β) (v3 : ByteArray) : Option β := kr v3
noncomputable def g24_5F {β : Type} (n : Nat) (s : FState) (cx : Cx β) : Option β := FX (g24_G n) n (nav g24_B [1, 1, 1, 0]) (.fin none none (some g24_m1e) [] .leaf) s { cx with nrm := fun s => FX (g24_G n) n (nav g24_B [1, 1, 1, 1]) (.fin none none (some g24_m1e) [] .leaf) s cx }
theorem g24_5_fx {β : Type} (n : Nat) (cx : Cx β) (v3 : ByteArray) : g24_5F n (g24_m3 v3) cx = g24_5 n (fun v2 => cx.ret (g24_m1 v2)) v3 := by kernel_rfl
noncomputable def g24_6 {β : Type} (n : Nat) (kr : ByteArray → Option β) (x0 : List (Int × ByteArray)) : Option β := g24_1 n (fun v3 x6 v7 v8 => g24_4 n (fun v3 => g24_5 n kr v3) v3 x6 v7 v8) x0
noncomputable def g24_6F {β : Type} (n : Nat) (s : FState) (cx : Cx β) : Option β := g24_1F n s { cx with nrm := fun s => g24_4F n s { cx with nrm := fun s => g24_5F n s cx } }
theorem g24_6_fx {β : Type} (n : Nat) (cx : Cx β) (x0 : List (Int × ByteArray)) : g24_6F n (g24_m0 x0) cx = g24_6 n (fun v2 => cx.ret (g24_m1 v2)) x0 := by simp only [g24_6F, g24_6, g24_1_fx, g24_4_fx, g24_5_fx]
noncomputable def g24 (n : Nat) (x0 : List (Int × ByteArray)) : Option (DenR [.dat .str]) := g24_6 n (fun v2 => some (v2, ())) x0
noncomputable def g24_A : List AK := [.ro (.pair (.int .i64) .str) 28]
noncomputable def g24_R : List RK := [.dat .str]
noncomputable def g24_f (n : Nat) (d : DenA g24_A) : Option (DenR g24_R) := g24 n d.1
noncomputable def g24_S (n : Nat) : Spec := mkSpec g24_A g24_R (g24_f n)
noncomputable def g24_K : Sk := (.nd (.fin none none none [] .leaf) (.nd (.fin none none none [] .leaf) (.nd (.nd (.fin none (some g24_m2e) none [] .leaf) (.nd (.nd (.nd (.fin none none none [(0, g24_m3e)] .leaf) (.nd (.fin none none none [(0, g24_m3e)] .leaf) (.nd (.fin none none none [(0, g24_m3e)] .leaf) (.fin none (some g24_m2e) none [(0, g24_m3e)] .leaf)))) .leaf) .leaf)) (.nd (.fin none none (some g24_m1e) [] .leaf) (.fin none none (some g24_m1e) [] .leaf)))))
theorem g24_top {β : Type} (n : Nat) (s : FState) (cx : Cx β) : FX (g24_G n) n g24_B g24_K s cx = g24_6F n s cx := by kernel_rfl
theorem g24_fit (n : Nat) : Fit Try.prog 24 (g24_S n) :=
  fit_of (Γ := Γ0) (l := g24_C n) (n := n) (sk := g24_K) (ts := [(2, none)]) (fn := Try.f24) (c := g24_B) (by kernel_rfl) (by kernel_rfl) (by unfold Callable; kernel_rfl) tab_ok trivial follows_mixed (by kernel_rfl) (by kernel_rfl) (Nat.le_of_ble_eq_true (by kernel_rfl)) (by kernel_rfl) (by kernel_rfl)
    (fun d => (g24_top n _ _).trans (Eq.trans (b := g24_6F n (g24_m0 d.1) (finCx (g24_G n) g24_R [(2, none)])) (by kernel_rfl) ((g24_6_fx n _ d.1).trans (by kernel_rfl))))
noncomputable def g25_m0 (x0 : List (Int × ByteArray)) : FState := ⟨tlist [(0, .sl 0 none false)], olist [(0, .row (.pair (.int .i64) .str) 28 false x0)]⟩
noncomputable def g25_m1 (v2 : ByteArray) : FState := ⟨tlist [(2, .dat .str v2)], olist []⟩
noncomputable def g25_m1e : List NE := [.keep 2]
noncomputable def g25_m2 (v3 : ByteArray) (x6 : List (Int × ByteArray)) (v7 : Int) (v8 : Int) : FState := ⟨tlist [(3, .dat .str v3), (6, .sl 6 none false), (7, .dat (.int .i64) v7), (8, .dat (.int .i64) v8)], olist [(6, .row (.pair (.int .i64) .str) 28 false x6)]⟩
noncomputable def g25_m2e : List NE := [.keep 3, .row 6 (.pair (.int .i64) .str) 28 false, .keep 7, .keep 8]
noncomputable def g25_m3 (v3 : ByteArray) : FState := ⟨tlist [(3, .dat .str v3)], olist []⟩
noncomputable def g25_m3e : List NE := [.keep 3]
noncomputable def g25_C (n : Nat) : List (Nat × Spec) := []
noncomputable def g25_G (n : Nat) : Ctx := { Γ0 with calls := lkS (g25_C n) }
noncomputable def g25_B : Code := fb Try.f25
noncomputable def g25_1 {β : Type} (n : Nat) (kn : ByteArray → List (Int × ByteArray) → Int → Int → Option β) (x0 : List (Int × ByteArray)) : Option β := kn (⟨#[]⟩ : ByteArray) x0 (x0.length : Int) (0 : Int)
noncomputable def g25_1F {β : Type} (n : Nat) (s : FState) (cx : Cx β) : Option β := FX (g25_G n) n (nav g25_B [0]) (.fin none none none [] .leaf) s { cx with nrm := fun s => FX (g25_G n) n (nav g25_B [1, 0]) (.fin none none none [] .leaf) s { cx with nrm := fun s => FX (g25_G n) n (nav g25_B [1, 1, 0, 0]) (.fin none (some g25_m2e) none [] .leaf) s cx } }
theorem g25_1_fx {β : Type} (n : Nat) (cx : Cx β) (x0 : List (Int × ByteArray)) : g25_1F n (g25_m0 x0) cx = g25_1 n (fun v3 x6 v7 v8 => cx.nrm (g25_m2 v3 x6 v7 v8)) x0 := by kernel_rfl
noncomputable def g25_2 {β : Type} (n : Nat) (kn : ByteArray → List (Int × ByteArray) → Int → Int → Option β) (kx0 : ByteArray → Option β) (v3 : ByteArray) (x6 : List (Int × ByteArray)) (v7 : Int) (v8 : Int) : Option β := bif (decide (v8 < v7)) then (idx v8 (x6.length : Int) <| bif ((rd [(rd x6 v8 ((0 : Int), (⟨#[]⟩ : ByteArray)))] (0 : Int) ((0 : Int), (⟨#[]⟩ : ByteArray))).1 != (-1 : Int)) then (roomy (v3.size + ((rd [(rd x6 v8 ((0 : Int), (⟨#[]⟩ : ByteArray)))] (0 : Int) ((0 : Int), (⟨#[]⟩ : ByteArray))).2).size) <| kn (v3 ++ (rd [(rd x6 v8 ((0 : Int), (⟨#[]⟩ : ByteArray)))] (0 : Int) ((0 : Int), (⟨#[]⟩ : ByteArray))).2) x6 v7 (w64 (v8 + (1 : Int)))) else (kn v3 x6 v7 (w64 (v8 + (1 : Int))))) else (kx0 v3)
noncomputable def g25_2F {β : Type} (n : Nat) (s : FState) (cx : Cx β) : Option β := FX (g25_G n) n (nav g25_B [1, 1, 0, 1, 0, 0, 0]) (.fin none none none [(0, g25_m3e)] .leaf) s { cx with nrm := fun s => FX (g25_G n) n (nav g25_B [1, 1, 0, 1, 0, 0, 1, 0]) (.fin none none none [(0, g25_m3e)] .leaf) s { cx with nrm := fun s => FX (g25_G n) n (nav g25_B [1, 1, 0, 1, 0, 0, 1, 1, 0]) (.fin none none none [(0, g25_m3e)] .leaf) s { cx with nrm := fun s => FX (g25_G n) n (nav g25_B [1, 1, 0, 1, 0, 0, 1, 1, 1]) (.fin none (some g25_m2e) none [(0, g25_m3e)] .leaf) s cx } } }
theorem g25_2_fx {β : Type} (n : Nat) (cx : Cx β) (v3 : ByteArray) (x6 : List (Int × ByteArray)) (v7 : Int) (v8 : Int) : g25_2F n (g25_m2 v3 x6 v7 v8) cx = g25_2 n (fun v3 x6 v7 v8 => cx.nrm (g25_m2 v3 x6 v7 v8)) (fun v3 => cx.ex 0 (g25_m3 v3)) v3 x6 v7 v8 := by kernel_rfl
noncomputable def g25_3L {β : Type} (n : Nat) (kx0 : ByteArray → Option β) : Nat → ByteArray → List (Int × ByteArray) → Int → Int → Option β
  | 0, _, _, _, _ => none
  | m + 1, v3, x6, v7, v8 => g25_2 n (g25_3L n kx0 m) kx0 v3 x6 v7 v8
noncomputable def g25_3 {β : Type} (n : Nat) (kx0 : ByteArray → Option β) (v3 : ByteArray) (x6 : List (Int × ByteArray)) (v7 : Int) (v8 : Int) : Option β := g25_3L n kx0 n v3 x6 v7 v8
noncomputable def g25_3F {β : Type} (n : Nat) (s : FState) (cx : Cx β) : Option β := loopN (fun again s => g25_2F n s { cx with nrm := again }) n s
theorem g25_3L_fx {β : Type} (n : Nat) (cx : Cx β) : ∀ (m : Nat) (v3 : ByteArray) (x6 : List (Int × ByteArray)) (v7 : Int) (v8 : Int), loopN (fun again s => g25_2F n s { cx with nrm := again }) m (g25_m2 v3 x6 v7 v8) = g25_3L n (fun v3 => cx.ex 0 (g25_m3 v3)) m v3 x6 v7 v8 := by
  intro m
  induction m with
  | zero => intros; rfl
  | succ m ih => intros; simp only [loopN, g25_3L, g25_2_fx, ih]
theorem g25_3_fx {β : Type} (n : Nat) (cx : Cx β) (v3 : ByteArray) (x6 : List (Int × ByteArray)) (v7 : Int) (v8 : Int) : g25_3F n (g25_m2 v3 x6 v7 v8) cx = g25_3 n (fun v3 => cx.ex 0 (g25_m3 v3)) v3 x6 v7 v8 := g25_3L_fx n cx n v3 x6 v7 v8
noncomputable def g25_4 {β : Type} (n : Nat) (kn : ByteArray → Option β) (v3 : ByteArray) (x6 : List (Int × ByteArray)) (v7 : Int) (v8 : Int) : Option β := g25_3 n kn v3 x6 v7 v8
noncomputable def g25_4F {β : Type} (n : Nat) (s : FState) (cx : Cx β) : Option β := g25_3F n s { cx with ex := fun j s => bif Nat.beq j 0 then cx.nrm s else cx.ex j s }
theorem g25_4_fx {β : Type} (n : Nat) (cx : Cx β) (v3 : ByteArray) (x6 : List (Int × ByteArray)) (v7 : Int) (v8 : Int) : g25_4F n (g25_m2 v3 x6 v7 v8) cx = g25_4 n (fun v3 => cx.nrm (g25_m3 v3)) v3 x6 v7 v8 := g25_3_fx n _ v3 x6 v7 v8
noncomputable def g25_5 {β : Type} (n : Nat) (kr : ByteArray → Option β) (v3 : ByteArray) : Option β := kr v3
noncomputable def g25_5F {β : Type} (n : Nat) (s : FState) (cx : Cx β) : Option β := FX (g25_G n) n (nav g25_B [1, 1, 1, 0]) (.fin none none (some g25_m1e) [] .leaf) s { cx with nrm := fun s => FX (g25_G n) n (nav g25_B [1, 1, 1, 1]) (.fin none none (some g25_m1e) [] .leaf) s cx }
theorem g25_5_fx {β : Type} (n : Nat) (cx : Cx β) (v3 : ByteArray) : g25_5F n (g25_m3 v3) cx = g25_5 n (fun v2 => cx.ret (g25_m1 v2)) v3 := by kernel_rfl
noncomputable def g25_6 {β : Type} (n : Nat) (kr : ByteArray → Option β) (x0 : List (Int × ByteArray)) : Option β := g25_1 n (fun v3 x6 v7 v8 => g25_4 n (fun v3 => g25_5 n kr v3) v3 x6 v7 v8) x0
noncomputable def g25_6F {β : Type} (n : Nat) (s : FState) (cx : Cx β) : Option β := g25_1F n s { cx with nrm := fun s => g25_4F n s { cx with nrm := fun s => g25_5F n s cx } }
theorem g25_6_fx {β : Type} (n : Nat) (cx : Cx β) (x0 : List (Int × ByteArray)) : g25_6F n (g25_m0 x0) cx = g25_6 n (fun v2 => cx.ret (g25_m1 v2)) x0 := by simp only [g25_6F, g25_6, g25_1_fx, g25_4_fx, g25_5_fx]
noncomputable def g25 (n : Nat) (x0 : List (Int × ByteArray)) : Option (DenR [.dat .str]) := g25_6 n (fun v2 => some (v2, ())) x0
noncomputable def g25_A : List AK := [.ro (.pair (.int .i64) .str) 28]
noncomputable def g25_R : List RK := [.dat .str]
noncomputable def g25_f (n : Nat) (d : DenA g25_A) : Option (DenR g25_R) := g25 n d.1
noncomputable def g25_S (n : Nat) : Spec := mkSpec g25_A g25_R (g25_f n)
noncomputable def g25_K : Sk := (.nd (.fin none none none [] .leaf) (.nd (.fin none none none [] .leaf) (.nd (.nd (.fin none (some g25_m2e) none [] .leaf) (.nd (.nd (.nd (.fin none none none [(0, g25_m3e)] .leaf) (.nd (.fin none none none [(0, g25_m3e)] .leaf) (.nd (.fin none none none [(0, g25_m3e)] .leaf) (.fin none (some g25_m2e) none [(0, g25_m3e)] .leaf)))) .leaf) .leaf)) (.nd (.fin none none (some g25_m1e) [] .leaf) (.fin none none (some g25_m1e) [] .leaf)))))
theorem g25_top {β : Type} (n : Nat) (s : FState) (cx : Cx β) : FX (g25_G n) n g25_B g25_K s cx = g25_6F n s cx := by kernel_rfl
theorem g25_fit (n : Nat) : Fit Try.prog 25 (g25_S n) :=
  fit_of (Γ := Γ0) (l := g25_C n) (n := n) (sk := g25_K) (ts := [(2, none)]) (fn := Try.f25) (c := g25_B) (by kernel_rfl) (by kernel_rfl) (by unfold Callable; kernel_rfl) tab_ok trivial follows_mixed (by kernel_rfl) (by kernel_rfl) (Nat.le_of_ble_eq_true (by kernel_rfl)) (by kernel_rfl) (by kernel_rfl)
    (fun d => (g25_top n _ _).trans (Eq.trans (b := g25_6F n (g25_m0 d.1) (finCx (g25_G n) g25_R [(2, none)])) (by kernel_rfl) ((g25_6_fx n _ d.1).trans (by kernel_rfl))))
noncomputable def g13_m0 (x0 : List (Int × ByteArray)) (x1 : List (Int × ByteArray)) : FState := ⟨tlist [(0, .sl 0 none false), (1, .sl 1 none false)], olist [(0, .row (.pair (.int .i64) .str) 28 false x0), (1, .row (.pair (.int .i64) .str) 28 false x1)]⟩
noncomputable def g13_m1 (v4 : Bool) : FState := ⟨tlist [(4, .dat .bool v4)], olist []⟩
noncomputable def g13_m1e : List NE := [.keep 4]
noncomputable def g13_C (n : Nat) : List (Nat × Spec) := [(24, g24_S n), (25, g25_S n)]
noncomputable def g13_G (n : Nat) : Ctx := { Γ0 with calls := lkS (g13_C n) }
noncomputable def g13_B : Code := fb Try.f13
noncomputable def g13_1 {β : Type} (n : Nat) (kr : Bool → Option β) (x0 : List (Int × ByteArray)) (x1 : List (Int × ByteArray)) : Option β := (g24 n x1).bind fun r1 => (g25 n x1).bind fun r2 => (g24 n x0).bind fun r3 => bif (strEq r3.1 r1.1) then ((g25 n x0).bind fun r4 => bif (strEq r4.1 r2.1) then (bif (decide ((x0.length : Int) > (0 : Int))) then (kr true) else (roomy (r1.1.size + r2.1.size) <| kr (strEq (r1.1 ++ r2.1) (⟨#[]⟩ : ByteArray)))) else (kr false)) else (kr false)
noncomputable def g13_1F {β : Type} (n : Nat) (s : FState) (cx : Cx β) : Option β := FX (g13_G n) n (nav g13_B [0]) (.fin none none (some g13_m1e) [] .leaf) s { cx with nrm := fun s => FX (g13_G n) n (nav g13_B [1, 0]) (.fin none none (some g13_m1e) [] .leaf) s { cx with nrm := fun s => FX (g13_G n) n (nav g13_B [1, 1, 0]) (.fin none none (some g13_m1e) [] .leaf) s { cx with nrm := fun s => FX (g13_G n) n (nav g13_B [1, 1, 1]) (.fin none none (some g13_m1e) [] .leaf) s cx } } }
theorem g13_1_fx {β : Type} (n : Nat) (cx : Cx β) (x0 : List (Int × ByteArray)) (x1 : List (Int × ByteArray)) : g13_1F n (g13_m0 x0 x1) cx = g13_1 n (fun v4 => cx.ret (g13_m1 v4)) x0 x1 := by kernel_rfl
noncomputable def g13 (n : Nat) (x0 : List (Int × ByteArray)) (x1 : List (Int × ByteArray)) : Option (DenR [.dat .bool]) := g13_1 n (fun v4 => some (v4, ())) x0 x1
noncomputable def g13_A : List AK := [.ro (.pair (.int .i64) .str) 28, .ro (.pair (.int .i64) .str) 28]
noncomputable def g13_R : List RK := [.dat .bool]
noncomputable def g13_f (n : Nat) (d : DenA g13_A) : Option (DenR g13_R) := g13 n d.1 d.2.1
noncomputable def g13_S (n : Nat) : Spec := mkSpec g13_A g13_R (g13_f n)
noncomputable def g13_K : Sk := (.nd (.fin none none (some g13_m1e) [] .leaf) (.nd (.fin none none (some g13_m1e) [] .leaf) (.nd (.fin none none (some g13_m1e) [] .leaf) (.fin none none (some g13_m1e) [] .leaf))))
theorem g13_top {β : Type} (n : Nat) (s : FState) (cx : Cx β) : FX (g13_G n) n g13_B g13_K s cx = g13_1F n s cx := by kernel_rfl
theorem g13_fit (n : Nat) : Fit Try.prog 13 (g13_S n) :=
  fit_of (Γ := Γ0) (l := g13_C n) (n := n) (sk := g13_K) (ts := [(4, none)]) (fn := Try.f13) (c := g13_B) (by kernel_rfl) (by kernel_rfl) (by unfold Callable; kernel_rfl) tab_ok ⟨g24_fit n, g25_fit n, trivial⟩ follows_mixed (by kernel_rfl) (by kernel_rfl) (Nat.le_of_ble_eq_true (by kernel_rfl)) (by kernel_rfl) (by kernel_rfl)
    (fun d => (g13_top n _ _).trans (Eq.trans (b := g13_1F n (g13_m0 d.1 d.2.1) (finCx (g13_G n) g13_R [(4, none)])) (by kernel_rfl) ((g13_1_fx n _ d.1 d.2.1).trans (by kernel_rfl))))
noncomputable def g7_m0 (x0 : List (Int × ByteArray)) : FState := ⟨tlist [(0, .sl 0 none false)], olist [(0, .row (.pair (.int .i64) .str) 28 false x0)]⟩
noncomputable def g7_m1 (v2 : Bool) : FState := ⟨tlist [(2, .dat .bool v2)], olist []⟩
noncomputable def g7_m1e : List NE := [.keep 2]
noncomputable def g7_C (n : Nat) : List (Nat × Spec) := [(9, g9_S n), (10, g10_S n), (11, g11_S n), (13, g13_S n)]
noncomputable def g7_G (n : Nat) : Ctx := { Γ0 with calls := lkS (g7_C n) }
noncomputable def g7_B : Code := fb Try.f7
noncomputable def g7_1 {β : Type} (n : Nat) (kr : Bool → Option β) (x0 : List (Int × ByteArray)) : Option β := (g9 n x0).bind fun r1 => bif (!r1.1) then (kr true) else ((g10 n x0 (12 : Int)).bind fun r2 => (g11 n r2.1).bind fun r3 => (g13 n r3.1 r2.1).bind fun r4 => kr r4.1)
noncomputable def g7_1F {β : Type} (n : Nat) (s : FState) (cx : Cx β) : Option β := FX (g7_G n) n (nav g7_B [0]) (.fin none none (some g7_m1e) [] .leaf) s { cx with nrm := fun s => FX (g7_G n) n (nav g7_B [1, 0, 0]) (.fin none none (some g7_m1e) [] .leaf) s { cx with nrm := fun s => FX (g7_G n) n (nav g7_B [1, 0, 1]) (.fin none none (some g7_m1e) [] .leaf) s { cx with nrm := fun s => FX (g7_G n) n (nav g7_B [1, 1, 0]) (.fin none none (some g7_m1e) [] .leaf) s { cx with nrm := fun s => FX (g7_G n) n (nav g7_B [1, 1, 1, 0]) (.fin none none (some g7_m1e) [] .leaf) s { cx with nrm := fun s => FX (g7_G n) n (nav g7_B [1, 1, 1, 1]) (.fin none none (some g7_m1e) [] .leaf) s cx } } } } }
theorem g7_1_fx {β : Type} (n : Nat) (cx : Cx β) (x0 : List (Int × ByteArray)) : g7_1F n (g7_m0 x0) cx = g7_1 n (fun v2 => cx.ret (g7_m1 v2)) x0 := by kernel_rfl
noncomputable def g7 (n : Nat) (x0 : List (Int × ByteArray)) : Option (DenR [.dat .bool]) := g7_1 n (fun v2 => some (v2, ())) x0
noncomputable def g7_A : List AK := [.ro (.pair (.int .i64) .str) 28]
noncomputable def g7_R : List RK := [.dat .bool]
noncomputable def g7_f (n : Nat) (d : DenA g7_A) : Option (DenR g7_R) := g7 n d.1
noncomputable def g7_S (n : Nat) : Spec := mkSpec g7_A g7_R (g7_f n)
noncomputable def g7_K : Sk := (.nd (.fin none none (some g7_m1e) [] .leaf) (.nd (.nd (.fin none none (some g7_m1e) [] .leaf) (.fin none none (some g7_m1e) [] .leaf)) (.nd (.fin none none (some g7_m1e) [] .leaf) (.nd (.fin none none (some g7_m1e) [] .leaf) (.fin none none (some g7_m1e) [] .leaf)))))
theorem g7_top {β : Type} (n : Nat) (s : FState) (cx : Cx β) : FX (g7_G n) n g7_B g7_K s cx = g7_1F n s cx := by kernel_rfl
theorem g7_fit (n : Nat) : Fit Try.prog 7 (g7_S n) :=
  fit_of (Γ := Γ0) (l := g7_C n) (n := n) (sk := g7_K) (ts := [(2, none)]) (fn := Try.f7) (c := g7_B) (by kernel_rfl) (by kernel_rfl) (by unfold Callable; kernel_rfl) tab_ok ⟨g9_fit n, g10_fit n, g11_fit n, g13_fit n, trivial⟩ follows_mixed (by kernel_rfl) (by kernel_rfl) (Nat.le_of_ble_eq_true (by kernel_rfl)) (by kernel_rfl) (by kernel_rfl)
    (fun d => (g7_top n _ _).trans (Eq.trans (b := g7_1F n (g7_m0 d.1) (finCx (g7_G n) g7_R [(2, none)])) (by kernel_rfl) ((g7_1_fx n _ d.1).trans (by kernel_rfl))))
noncomputable def g16_m0 (x0 : List (Int × ByteArray)) : FState := ⟨tlist [(0, .sl 0 none false)], olist [(0, .row (.pair (.int .i64) .str) 28 false x0)]⟩
noncomputable def g16_m1 (v2 : Int) : FState := ⟨tlist [(2, .dat (.int .i64) v2)], olist []⟩
noncomputable def g16_m1e : List NE := [.keep 2]
noncomputable def g16_m2 (v3 : Int) (x6 : List (Int × ByteArray)) (v7 : Int) (v8 : Int) : FState := ⟨tlist [(3, .dat (.int .i64) v3), (6, .sl 6 none false), (7, .dat (.int .i64) v7), (8, .dat (.int .i64) v8)], olist [(6, .row (.pair (.int .i64) .str) 28 false x6)]⟩
noncomputable def g16_m2e : List NE := [.keep 3, .row 6 (.pair (.int .i64) .str) 28 false, .keep 7, .keep 8]
noncomputable def g16_m3 (v3 : Int) : FState := ⟨tlist [(3, .dat (.int .i64) v3)], olist []⟩
noncomputable def g16_m3e : List NE := [.keep 3]
noncomputable def g16_C (n : Nat) : List (Nat × Spec) := [(28, g28_S n)]
noncomputable def g16_G (n : Nat) : Ctx := { Γ0 with calls := lkS (g16_C n) }
noncomputable def g16_B : Code := fb Try.f16
noncomputable def g16_1 {β : Type} (n : Nat) (kn : Int → List (Int × ByteArray) → Int → Int → Option β) (x0 : List (Int × ByteArray)) : Option β := kn (0 : Int) x0 (x0.length : Int) (0 : Int)
noncomputable def g16_1F {β : Type} (n : Nat) (s : FState) (cx : Cx β) : Option β := FX (g16_G n) n (nav g16_B [0]) (.fin none none none [] .leaf) s { cx with nrm := fun s => FX (g16_G n) n (nav g16_B [1, 0]) (.fin none none none [] .leaf) s { cx with nrm := fun s => FX (g16_G n) n (nav g16_B [1, 1, 0, 0]) (.fin none (some g16_m2e) none [] .leaf) s cx } }
theorem g16_1_fx {β : Type} (n : Nat) (cx : Cx β) (x0 : List (Int × ByteArray)) : g16_1F n (g16_m0 x0) cx = g16_1 n (fun v3 x6 v7 v8 => cx.nrm (g16_m2 v3 x6 v7 v8)) x0 := by kernel_rfl
noncomputable def g16_2 {β : Type} (n : Nat) (kn : Int → List (Int × ByteArray) → Int → Int → Option β) (kx0 : Int → Option β) (v3 : Int) (x6 : List (Int × ByteArray)) (v7 : Int) (v8 : Int) : Option β := bif (decide (v8 < v7)) then (idx v8 (x6.length : Int) <| bif ((rd [(rd x6 v8 ((0 : Int), (⟨#[]⟩ : ByteArray)))] (0 : Int) ((0 : Int), (⟨#[]⟩ : ByteArray))).1 != (0 : Int)) then ((g28 n ((rd [(rd x6 v8 ((0 : Int), (⟨#[]⟩ : ByteArray)))] (0 : Int) ((0 : Int), (⟨#[]⟩ : ByteArray))).2)).bind fun r1 => kn (w64 (v3 + (r1.1.length : Int))) x6 v7 (w64 (v8 + (1 : Int)))) else (kn v3 x6 v7 (w64 (v8 + (1 : Int))))) else (kx0 v3)
noncomputable def g16_2F {β : Type} (n : Nat) (s : FState) (cx : Cx β) : Option β := FX (g16_G n) n (nav g16_B [1, 1, 0, 1, 0, 0, 0]) (.fin none none none [(0, g16_m3e)] .leaf) s { cx with nrm := fun s => FX (g16_G n) n (nav g16_B [1, 1, 0, 1, 0, 0, 1, 0]) (.fin none none none [(0, g16_m3e)] .leaf) s { cx with nrm := fun s => FX (g16_G n) n (nav g16_B [1, 1, 0, 1, 0, 0, 1, 1, 0]) (.fin none none none [(0, g16_m3e)] .leaf) s { cx with nrm := fun s => FX (g16_G n) n (nav g16_B [1, 1, 0, 1, 0, 0, 1, 1, 1]) (.fin none (some g16_m2e) none [(0, g16_m3e)] .leaf) s cx } } }
theorem g16_2_fx {β : Type} (n : Nat) (cx : Cx β) (v3 : Int) (x6 : List (Int × ByteArray)) (v7 : Int) (v8 : Int) : g16_2F n (g16_m2 v3 x6 v7 v8) cx = g16_2 n (fun v3 x6 v7 v8 => cx.nrm (g16_m2 v3 x6 v7 v8)) (fun v3 => cx.ex 0 (g16_m3 v3)) v3 x6 v7 v8 := by kernel_rfl
noncomputable def g16_3L {β : Type} (n : Nat) (kx0 : Int → Option β) : Nat → Int → List (Int × ByteArray) → Int → Int → Option β
  | 0, _, _, _, _ => none
  | m + 1, v3, x6, v7, v8 => g16_2 n (g16_3L n kx0 m) kx0 v3 x6 v7 v8
noncomputable def g16_3 {β : Type} (n : Nat) (kx0 : Int → Option β) (v3 : Int) (x6 : List (Int × ByteArray)) (v7 : Int) (v8 : Int) : Option β := g16_3L n kx0 n v3 x6 v7 v8
noncomputable def g16_3F {β : Type} (n : Nat) (s : FState) (cx : Cx β) : Option β := loopN (fun again s => g16_2F n s { cx with nrm := again }) n s
theorem g16_3L_fx {β : Type} (n : Nat) (cx : Cx β) : ∀ (m : Nat) (v3 : Int) (x6 : List (Int × ByteArray)) (v7 : Int) (v8 : Int), loopN (fun again s => g16_2F n s { cx with nrm := again }) m (g16_m2 v3 x6 v7 v8) = g16_3L n (fun v3 => cx.ex 0 (g16_m3 v3)) m v3 x6 v7 v8 := by
  intro m
  induction m with
  | zero => intros; rfl
  | succ m ih => intros; simp only [loopN, g16_3L, g16_2_fx, ih]
theorem g16_3_fx {β : Type} (n : Nat) (cx : Cx β) (v3 : Int) (x6 : List (Int × ByteArray)) (v7 : Int) (v8 : Int) : g16_3F n (g16_m2 v3 x6 v7 v8) cx = g16_3 n (fun v3 => cx.ex 0 (g16_m3 v3)) v3 x6 v7 v8 := g16_3L_fx n cx n v3 x6 v7 v8
noncomputable def g16_4 {β : Type} (n : Nat) (kn : Int → Option β) (v3 : Int) (x6 : List (Int × ByteArray)) (v7 : Int) (v8 : Int) : Option β := g16_3 n kn v3 x6 v7 v8
noncomputable def g16_4F {β : Type} (n : Nat) (s : FState) (cx : Cx β) : Option β := g16_3F n s { cx with ex := fun j s => bif Nat.beq j 0 then cx.nrm s else cx.ex j s }
theorem g16_4_fx {β : Type} (n : Nat) (cx : Cx β) (v3 : Int) (x6 : List (Int × ByteArray)) (v7 : Int) (v8 : Int) : g16_4F n (g16_m2 v3 x6 v7 v8) cx = g16_4 n (fun v3 => cx.nrm (g16_m3 v3)) v3 x6 v7 v8 := g16_3_fx n _ v3 x6 v7 v8
noncomputable def g16_5 {β : Type} (n : Nat) (kr : Int → Option β) (v3 : Int) : Option β := kr v3
noncomputable def g16_5F {β : Type} (n : Nat) (s : FState) (cx : Cx β) : Option β := FX (g16_G n) n (nav g16_B [1, 1, 1, 0]) (.fin none none (some g16_m1e) [] .leaf) s { cx with nrm := fun s => FX (g16_G n) n (nav g16_B [1, 1, 1, 1]) (.fin none none (some g16_m1e) [] .leaf) s cx }
theorem g16_5_fx {β : Type} (n : Nat) (cx : Cx β) (v3 : Int) : g16_5F n (g16_m3 v3) cx = g16_5 n (fun v2 => cx.ret (g16_m1 v2)) v3 := by kernel_rfl
noncomputable def g16_6 {β : Type} (n : Nat) (kr : Int → Option β) (x0 : List (Int × ByteArray)) : Option β := g16_1 n (fun v3 x6 v7 v8 => g16_4 n (fun v3 => g16_5 n kr v3) v3 x6 v7 v8) x0
noncomputable def g16_6F {β : Type} (n : Nat) (s : FState) (cx : Cx β) : Option β := g16_1F n s { cx with nrm := fun s => g16_4F n s { cx with nrm := fun s => g16_5F n s cx } }
theorem g16_6_fx {β : Type} (n : Nat) (cx : Cx β) (x0 : List (Int × ByteArray)) : g16_6F n (g16_m0 x0) cx = g16_6 n (fun v2 => cx.ret (g16_m1 v2)) x0 := by simp only [g16_6F, g16_6, g16_1_fx, g16_4_fx, g16_5_fx]
noncomputable def g16 (n : Nat) (x0 : List (Int × ByteArray)) : Option (DenR [.dat (.int .i64)]) := g16_6 n (fun v2 => some (v2, ())) x0
noncomputable def g16_A : List AK := [.ro (.pair (.int .i64) .str) 28]
noncomputable def g16_R : List RK := [.dat (.int .i64)]
noncomputable def g16_f (n : Nat) (d : DenA g16_A) : Option (DenR g16_R) := g16 n d.1
noncomputable def g16_S (n : Nat) : Spec := mkSpec g16_A g16_R (g16_f n)
noncomputable def g16_K : Sk := (.nd (.fin none none none [] .leaf) (.nd (.fin none none none [] .leaf) (.nd (.nd (.fin none (some g16_m2e) none [] .leaf) (.nd (.nd (.nd (.fin none none none [(0, g16_m3e)] .leaf) (.nd (.fin none none none [(0, g16_m3e)] .leaf) (.nd (.fin none none none [(0, g16_m3e)] .leaf) (.fin none (some g16_m2e) none [(0, g16_m3e)] .leaf)))) .leaf) .leaf)) (.nd (.fin none none (some g16_m1e) [] .leaf) (.fin none none (some g16_m1e) [] .leaf)))))
theorem g16_top {β : Type} (n : Nat) (s : FState) (cx : Cx β) : FX (g16_G n) n g16_B g16_K s cx = g16_6F n s cx := by kernel_rfl
theorem g16_fit (n : Nat) : Fit Try.prog 16 (g16_S n) :=
  fit_of (Γ := Γ0) (l := g16_C n) (n := n) (sk := g16_K) (ts := [(2, none)]) (fn := Try.f16) (c := g16_B) (by kernel_rfl) (by kernel_rfl) (by unfold Callable; kernel_rfl) tab_ok ⟨g28_fit n, trivial⟩ follows_mixed (by kernel_rfl) (by kernel_rfl) (Nat.le_of_ble_eq_true (by kernel_rfl)) (by kernel_rfl) (by kernel_rfl)
    (fun d => (g16_top n _ _).trans (Eq.trans (b := g16_6F n (g16_m0 d.1) (finCx (g16_G n) g16_R [(2, none)])) (by kernel_rfl) ((g16_6_fx n _ d.1).trans (by kernel_rfl))))
noncomputable def g5_m0 (x0 : List (Int × ByteArray)) : FState := ⟨tlist [(0, .sl 0 none false)], olist [(0, .row (.pair (.int .i64) .str) 28 false x0)]⟩
noncomputable def g5_m1 (v2 : Bool) : FState := ⟨tlist [(2, .dat .bool v2)], olist []⟩
noncomputable def g5_m1e : List NE := [.keep 2]
noncomputable def g5_C (n : Nat) : List (Nat × Spec) := [(9, g9_S n), (10, g10_S n), (11, g11_S n), (13, g13_S n), (16, g16_S n)]
noncomputable def g5_G (n : Nat) : Ctx := { Γ0 with calls := lkS (g5_C n) }
noncomputable def g5_B : Code := fb Try.f5
noncomputable def g5_1 {β : Type} (n : Nat) (kr : Bool → Option β) (x0 : List (Int × ByteArray)) : Option β := (g9 n x0).bind fun r1 => bif (!r1.1) then (kr true) else ((g10 n x0 (12 : Int)).bind fun r2 => (g11 n r2.1).bind fun r3 => (g16 n r3.1).bind fun r4 => (g16 n r2.1).bind fun r5 => bif (decide (r4.1 ≤ r5.1)) then ((g13 n r3.1 r2.1).bind fun r6 => kr r6.1) else (kr false))
noncomputable def g5_1F {β : Type} (n : Nat) (s : FState) (cx : Cx β) : Option β := FX (g5_G n) n (nav g5_B [0]) (.fin none none (some g5_m1e) [] .leaf) s { cx with nrm := fun s => FX (g5_G n) n (nav g5_B [1, 0, 0]) (.fin none none (some g5_m1e) [] .leaf) s { cx with nrm := fun s => FX (g5_G n) n (nav g5_B [1, 0, 1]) (.fin none none (some g5_m1e) [] .leaf) s { cx with nrm := fun s => FX (g5_G n) n (nav g5_B [1, 1, 0]) (.fin none none (some g5_m1e) [] .leaf) s { cx with nrm := fun s => FX (g5_G n) n (nav g5_B [1, 1, 1, 0]) (.fin none none (some g5_m1e) [] .leaf) s { cx with nrm := fun s => FX (g5_G n) n (nav g5_B [1, 1, 1, 1, 0]) (.fin none none (some g5_m1e) [] .leaf) s { cx with nrm := fun s => FX (g5_G n) n (nav g5_B [1, 1, 1, 1, 1]) (.fin none none (some g5_m1e) [] .leaf) s cx } } } } } }
theorem g5_1_fx {β : Type} (n : Nat) (cx : Cx β) (x0 : List (Int × ByteArray)) : g5_1F n (g5_m0 x0) cx = g5_1 n (fun v2 => cx.ret (g5_m1 v2)) x0 := by kernel_rfl
noncomputable def g5 (n : Nat) (x0 : List (Int × ByteArray)) : Option (DenR [.dat .bool]) := g5_1 n (fun v2 => some (v2, ())) x0
noncomputable def g5_A : List AK := [.ro (.pair (.int .i64) .str) 28]
noncomputable def g5_R : List RK := [.dat .bool]
noncomputable def g5_f (n : Nat) (d : DenA g5_A) : Option (DenR g5_R) := g5 n d.1
noncomputable def g5_S (n : Nat) : Spec := mkSpec g5_A g5_R (g5_f n)
noncomputable def g5_K : Sk := (.nd (.fin none none (some g5_m1e) [] .leaf) (.nd (.nd (.fin none none (some g5_m1e) [] .leaf) (.fin none none (some g5_m1e) [] .leaf)) (.nd (.fin none none (some g5_m1e) [] .leaf) (.nd (.fin none none (some g5_m1e) [] .leaf) (.nd (.fin none none (some g5_m1e) [] .leaf) (.fin none none (some g5_m1e) [] .leaf))))))
theorem g5_top {β : Type} (n : Nat) (s : FState) (cx : Cx β) : FX (g5_G n) n g5_B g5_K s cx = g5_1F n s cx := by kernel_rfl
theorem g5_fit (n : Nat) : Fit Try.prog 5 (g5_S n) :=
  fit_of (Γ := Γ0) (l := g5_C n) (n := n) (sk := g5_K) (ts := [(2, none)]) (fn := Try.f5) (c := g5_B) (by kernel_rfl) (by kernel_rfl) (by unfold Callable; kernel_rfl) tab_ok ⟨g9_fit n, g10_fit n, g11_fit n, g13_fit n, g16_fit n, trivial⟩ follows_mixed (by kernel_rfl) (by kernel_rfl) (Nat.le_of_ble_eq_true (by kernel_rfl)) (by kernel_rfl) (by kernel_rfl)
    (fun d => (g5_top n _ _).trans (Eq.trans (b := g5_1F n (g5_m0 d.1) (finCx (g5_G n) g5_R [(2, none)])) (by kernel_rfl) ((g5_1_fx n _ d.1).trans (by kernel_rfl))))
noncomputable def g12_m0 (x0 : List (Int × ByteArray)) (x1 : List (Int × ByteArray)) : FState := ⟨tlist [(0, .sl 0 none false), (1, .sl 1 none false)], olist [(0, .row (.pair (.int .i64) .str) 28 false x0), (1, .row (.pair (.int .i64) .str) 28 false x1)]⟩
noncomputable def g12_m1 (v4 : Bool) : FState := ⟨tlist [(4, .dat .bool v4)], olist []⟩
noncomputable def g12_m1e : List NE := [.keep 4]
noncomputable def g12_m2 (x0 : List (Int × ByteArray)) (x1 : List (Int × ByteArray)) (v12 : Int) (v13 : Int) : FState := ⟨tlist [(0, .sl 0 none false), (1, .sl 1 none false), (12, .dat (.int .i64) v12), (13, .dat (.int .i64) v13)], olist [(0, .row (.pair (.int .i64) .str) 28 false x0), (1, .row (.pair (.int .i64) .str) 28 false x1)]⟩
noncomputable def g12_m2e : List NE := [.row 0 (.pair (.int .i64) .str) 28 false, .row 1 (.pair (.int .i64) .str) 28 false, .keep 12, .keep 13]
noncomputable def g12_m3 : FState := ⟨tlist [], olist []⟩
noncomputable def g12_m3e : List NE := []
noncomputable def g12_C (n : Nat) : List (Nat × Spec) := []
noncomputable def g12_G (n : Nat) : Ctx := { Γ0 with calls := lkS (g12_C n) }
noncomputable def g12_B : Code := fb Try.f12
noncomputable def g12_1 {β : Type} (n : Nat) (kn : List (Int × ByteArray) → List (Int × ByteArray) → Int → Int → Option β) (kr : Bool → Option β) (x0 : List (Int × ByteArray)) (x1 : List (Int × ByteArray)) : Option β := bif ((x0.length : Int) != (x1.length : Int)) then (kr false) else (kn x0 x1 (x0.length : Int) (0 : Int))
noncomputable def g12_1F {β : Type} (n : Nat) (s : FState) (cx : Cx β) : Option β := FX (g12_G n) n (nav g12_B [0]) (.fin none none (some g12_m1e) [] .leaf) s { cx with nrm := fun s => FX (g12_G n) n (nav g12_B [1, 0, 0]) (.fin none none (some g12_m1e) [] .leaf) s { cx with nrm := fun s => FX (g12_G n) n (nav g12_B [1, 0, 1]) (.fin none none (some g12_m1e) [] .leaf) s { cx with nrm := fun s => FX (g12_G n) n (nav g12_B [1, 1, 0, 0]) (.fin none (some g12_m2e) (some g12_m1e) [] .leaf) s cx } } }
theorem g12_1_fx {β : Type} (n : Nat) (cx : Cx β) (x0 : List (Int × ByteArray)) (x1 : List (Int × ByteArray)) : g12_1F n (g12_m0 x0 x1) cx = g12_1 n (fun x0 x1 v12 v13 => cx.nrm (g12_m2 x0 x1 v12 v13)) (fun v4 => cx.ret (g12_m1 v4)) x0 x1 := by kernel_rfl
noncomputable def g12_2 {β : Type} (n : Nat) (kn : List (Int × ByteArray) → List (Int × ByteArray) → Int → Int → Option β) (kr : Bool → Option β) (kx0 : Option β) (x0 : List (Int × ByteArray)) (x1 : List (Int × ByteArray)) (v12 : Int) (v13 : Int) : Option β := bif (decide (v13 < v12)) then (idx v13 (x0.length : Int) <| idx v13 (x1.length : Int) <| bif (!(((rd x0 v13 ((0 : Int), (⟨#[]⟩ : ByteArray))).1 == (rd x1 v13 ((0 : Int), (⟨#[]⟩ : ByteArray))).1) && (strEq ((rd x0 v13 ((0 : Int), (⟨#[]⟩ : ByteArray))).2) ((rd x1 v13 ((0 : Int), (⟨#[]⟩ : ByteArray))).2)))) then (kr false) else (kn x0 x1 v12 (w64 (v13 + (1 : Int))))) else kx0
noncomputable def g12_2F {β : Type} (n : Nat) (s : FState) (cx : Cx β) : Option β := FX (g12_G n) n (nav g12_B [1, 1, 0, 1, 0, 0, 0]) (.fin none none (some g12_m1e) [(0, g12_m3e)] .leaf) s { cx with nrm := fun s => FX (g12_G n) n (nav g12_B [1, 1, 0, 1, 0, 0, 1, 0]) (.fin none none (some g12_m1e) [(0, g12_m3e)] .leaf) s { cx with nrm := fun s => FX (g12_G n) n (nav g12_B [1, 1, 0, 1, 0, 0, 1, 1, 0]) (.fin none none (some g12_m1e) [(0, g12_m3e)] .leaf) s { cx with nrm := fun s => FX (g12_G n) n (nav g12_B [1, 1, 0, 1, 0, 0, 1, 1, 1]) (.fin none (some g12_m2e) (some g12_m1e) [(0, g12_m3e)] .leaf) s cx } } }
theorem g12_2_fx {β : Type} (n : Nat) (cx : Cx β) (x0 : List (Int × ByteArray)) (x1 : List (Int × ByteArray)) (v12 : Int) (v13 : Int) : g12_2F n (g12_m2 x0 x1 v12 v13) cx = g12_2 n (fun x0 x1 v12 v13 => cx.nrm (g12_m2 x0 x1 v12 v13)) (fun v4 => cx.ret (g12_m1 v4)) (cx.ex 0 g12_m3) x0 x1 v12 v13 := by kernel_rfl
noncomputable def g12_3L {β : Type} (n : Nat) (kr : Bool → Option β) (kx0 : Option β) : Nat → List (Int × ByteArray) → List (Int × ByteArray) → Int → Int → Option β
  | 0, _, _, _, _ => none
  | m + 1, x0, x1, v12, v13 => g12_2 n (g12_3L n kr kx0 m) kr kx0 x0 x1 v12 v13
noncomputable def g12_3 {β : Type} (n : Nat) (kr : Bool → Option β) (kx0 : Option β) (x0 : List (Int × ByteArray)) (x1 : List (Int × ByteArray)) (v12 : Int) (v13 : Int) : Option β := g12_3L n kr kx0 n x0 x1 v12 v13
noncomputable def g12_3F {β : Type} (n : Nat) (s : FState) (cx : Cx β) : Option β := loopN (fun again s => g12_2F n s { cx with nrm := again }) n s
theorem g12_3L_fx {β : Type} (n : Nat) (cx : Cx β) : ∀ (m : Nat) (x0 : List (Int × ByteArray)) (x1 : List (Int × ByteArray)) (v12 : Int) (v13 : Int), loopN (fun again s => g12_2F n s { cx with nrm := again }) m (g12_m2 x0 x1 v12 v13) = g12_3L n (fun v4 => cx.ret (g12_m1 v4)) (cx.ex 0 g12_m3) m x0 x1 v12 v13 := by
  intro m
  induction m with
  | zero => intros; rfl
  | succ m ih => intros; simp only [loopN, g12_3L, g12_2_fx, ih]
theorem g12_3_fx {β : Type} (n : Nat) (cx : Cx β) (x0 : List (Int × ByteArray)) (x1 : List (Int × ByteArray)) (v12 : Int) (v13 : Int) : g12_3F n (g12_m2 x0 x1 v12 v13) cx = g12_3 n (fun v4 => cx.ret (g12_m1 v4)) (cx.ex 0 g12_m3) x0 x1 v12 v13 := g12_3L_fx n cx n x0 x1 v12 v13
noncomputable def g12_4 {β : Type} (n : Nat) (kn : Option β) (kr : Bool → Option β) (x0 : List (Int × ByteArray)) (x1 : List (Int × ByteArray)) (v12 : Int) (v13 : Int) : Option β := g12_3 n kr kn x0 x1 v12 v13
noncomputable def g12_4F {β : Type} (n : Nat) (s : FState) (cx : Cx β) : Option β := g12_3F n s { cx with ex := fun j s => bif Nat.beq j 0 then cx.nrm s else cx.ex j s }
theorem g12_4_fx {β : Type} (n : Nat) (cx : Cx β) (x0 : List (Int × ByteArray)) (x1 : List (Int × ByteArray)) (v12 : Int) (v13 : Int) : g12_4F n (g12_m2 x0 x1 v12 v13) cx = g12_4 n (cx.nrm g12_m3) (fun v4 => cx.ret (g12_m1 v4)) x0 x1 v12 v13 := g12_3_fx n _ x0 x1 v12 v13
noncomputable def g12_5 {β : Type} (n : Nat) (kr : Bool → Option β) : Option β := kr true
noncomputable def g12_5F {β : Type} (n : Nat) (s : FState) (cx : Cx β) : Option β := FX (g12_G n) n (nav g12_B [1, 1, 1, 0]) (.fin none none (some g12_m1e) [] .leaf) s { cx with nrm := fun s => FX (g12_G n) n (nav g12_B [1, 1, 1, 1]) (.fin none none (some g12_m1e) [] .leaf) s cx }
theorem g12_5_fx {β : Type} (n : Nat) (cx : Cx β) : g12_5F n g12_m3 cx = g12_5 n (fun v4 => cx.ret (g12_m1 v4)) := by kernel_rfl
noncomputable def g12_6 {β : Type} (n : Nat) (kr : Bool → Option β) (x0 : List (Int × ByteArray)) (x1 : List (Int × ByteArray)) : Option β := g12_1 n (fun x0 x1 v12 v13 => g12_4 n (g12_5 n kr) kr x0 x1 v12 v13) kr x0 x1
noncomputable def g12_6F {β : Type} (n : Nat) (s : FState) (cx : Cx β) : Option β := g12_1F n s { cx with nrm := fun s => g12_4F n s { cx with nrm := fun s => g12_5F n s cx } }
theorem g12_6_fx {β : Type} (n : Nat) (cx : Cx β) (x0 : List (Int × ByteArray)) (x1 : List (Int × ByteArray)) : g12_6F n (g12_m0 x0 x1) cx = g12_6 n (fun v4 => cx.ret (g12_m1 v4)) x0 x1 := by simp only [g12_6F, g12_6, g12_1_fx, g12_4_fx, g12_5_fx]
noncomputable def g12 (n : Nat) (x0 : List (Int × ByteArray)) (x1 : List (Int × ByteArray)) : Option (DenR [.dat .bool]) := g12_6 n (fun v4 => some (v4, ())) x0 x1
noncomputable def g12_A : List AK := [.ro (.pair (.int .i64) .str) 28, .ro (.pair (.int .i64) .str) 28]
noncomputable def g12_R : List RK := [.dat .bool]
noncomputable def g12_f (n : Nat) (d : DenA g12_A) : Option (DenR g12_R) := g12 n d.1 d.2.1
noncomputable def g12_S (n : Nat) : Spec := mkSpec g12_A g12_R (g12_f n)
noncomputable def g12_K : Sk := (.nd (.fin none none (some g12_m1e) [] .leaf) (.nd (.nd (.fin none none (some g12_m1e) [] .leaf) (.fin none none (some g12_m1e) [] .leaf)) (.nd (.nd (.fin none (some g12_m2e) (some g12_m1e) [] .leaf) (.nd (.nd (.nd (.fin none none (some g12_m1e) [(0, g12_m3e)] .leaf) (.nd (.fin none none (some g12_m1e) [(0, g12_m3e)] .leaf) (.nd (.fin none none (some g12_m1e) [(0, g12_m3e)] .leaf) (.fin none (some g12_m2e) (some g12_m1e) [(0, g12_m3e)] .leaf)))) .leaf) .leaf)) (.nd (.fin none none (some g12_m1e) [] .leaf) (.fin none none (some g12_m1e) [] .leaf)))))
theorem g12_top {β : Type} (n : Nat) (s : FState) (cx : Cx β) : FX (g12_G n) n g12_B g12_K s cx = g12_6F n s cx := by kernel_rfl
theorem g12_fit (n : Nat) : Fit Try.prog 12 (g12_S n) :=
  fit_of (Γ := Γ0) (l := g12_C n) (n := n) (sk := g12_K) (ts := [(4, none)]) (fn := Try.f12) (c := g12_B) (by kernel_rfl) (by kernel_rfl) (by unfold Callable; kernel_rfl) tab_ok trivial follows_mixed (by kernel_rfl) (by kernel_rfl) (Nat.le_of_ble_eq_true (by kernel_rfl)) (by kernel_rfl) (by kernel_rfl)
    (fun d => (g12_top n _ _).trans (Eq.trans (b := g12_6F n (g12_m0 d.1 d.2.1) (finCx (g12_G n) g12_R [(4, none)])) (by kernel_rfl) ((g12_6_fx n _ d.1 d.2.1).trans (by kernel_rfl))))
noncomputable def g3_m0 (x0 : List (Int × ByteArray)) : FState := ⟨tlist [(0, .sl 0 none false)], olist [(0, .row (.pair (.int .i64) .str) 28 false x0)]⟩
noncomputable def g3_m1 (v2 : Bool) : FState := ⟨tlist [(2, .dat .bool v2)], olist []⟩
noncomputable def g3_m1e : List NE := [.keep 2]
noncomputable def g3_C (n : Nat) : List (Nat × Spec) := [(9, g9_S n), (10, g10_S n), (11, g11_S n), (12, g12_S n), (13, g13_S n)]
noncomputable def g3_G (n : Nat) : Ctx := { Γ0 with calls := lkS (g3_C n) }
noncomputable def g3_B : Code := fb Try.f3
noncomputable def g3_1 {β : Type} (n : Nat) (kr : Bool → Option β) (x0 : List (Int × ByteArray)) : Option β := (g9 n x0).bind fun r1 => bif (!r1.1) then (kr true) else ((g10 n x0 (12 : Int)).bind fun r2 => (g11 n r2.1).bind fun r3 => (g11 n r3.1).bind fun r4 => (g12 n r4.1 r3.1).bind fun r5 => bif r5.1 then ((g13 n r3.1 r2.1).bind fun r6 => kr r6.1) else (kr false))
noncomputable def g3_1F {β : Type} (n : Nat) (s : FState) (cx : Cx β) : Option β := FX (g3_G n) n (nav g3_B [0]) (.fin none none (some g3_m1e) [] .leaf) s { cx with nrm := fun s => FX (g3_G n) n (nav g3_B [1, 0, 0]) (.fin none none (some g3_m1e) [] .leaf) s { cx with nrm := fun s => FX (g3_G n) n (nav g3_B [1, 0, 1]) (.fin none none (some g3_m1e) [] .leaf) s { cx with nrm := fun s => FX (g3_G n) n (nav g3_B [1, 1, 0]) (.fin none none (some g3_m1e) [] .leaf) s { cx with nrm := fun s => FX (g3_G n) n (nav g3_B [1, 1, 1, 0]) (.fin none none (some g3_m1e) [] .leaf) s { cx with nrm := fun s => FX (g3_G n) n (nav g3_B [1, 1, 1, 1, 0]) (.fin none none (some g3_m1e) [] .leaf) s { cx with nrm := fun s => FX (g3_G n) n (nav g3_B [1, 1, 1, 1, 1]) (.fin none none (some g3_m1e) [] .leaf) s cx } } } } } }
theorem g3_1_fx {β : Type} (n : Nat) (cx : Cx β) (x0 : List (Int × ByteArray)) : g3_1F n (g3_m0 x0) cx = g3_1 n (fun v2 => cx.ret (g3_m1 v2)) x0 := by kernel_rfl
noncomputable def g3 (n : Nat) (x0 : List (Int × ByteArray)) : Option (DenR [.dat .bool]) := g3_1 n (fun v2 => some (v2, ())) x0
noncomputable def g3_A : List AK := [.ro (.pair (.int .i64) .str) 28]
noncomputable def g3_R : List RK := [.dat .bool]
noncomputable def g3_f (n : Nat) (d : DenA g3_A) : Option (DenR g3_R) := g3 n d.1
noncomputable def g3_S (n : Nat) : Spec := mkSpec g3_A g3_R (g3_f n)
noncomputable def g3_K : Sk := (.nd (.fin none none (some g3_m1e) [] .leaf) (.nd (.nd (.fin none none (some g3_m1e) [] .leaf) (.fin none none (some g3_m1e) [] .leaf)) (.nd (.fin none none (some g3_m1e) [] .leaf) (.nd (.fin none none (some g3_m1e) [] .leaf) (.nd (.fin none none (some g3_m1e) [] .leaf) (.fin none none (some g3_m1e) [] .leaf))))))
theorem g3_top {β : Type} (n : Nat) (s : FState) (cx : Cx β) : FX (g3_G n) n g3_B g3_K s cx = g3_1F n s cx := by kernel_rfl
theorem g3_fit (n : Nat) : Fit Try.prog 3 (g3_S n) :=
  fit_of (Γ := Γ0) (l := g3_C n) (n := n) (sk := g3_K) (ts := [(2, none)]) (fn := Try.f3) (c := g3_B) (by kernel_rfl) (by kernel_rfl) (by unfold Callable; kernel_rfl) tab_ok ⟨g9_fit n, g10_fit n, g11_fit n, g12_fit n, g13_fit n, trivial⟩ follows_mixed (by kernel_rfl) (by kernel_rfl) (Nat.le_of_ble_eq_true (by kernel_rfl)) (by kernel_rfl) (by kernel_rfl)
    (fun d => (g3_top n _ _).trans (Eq.trans (b := g3_1F n (g3_m0 d.1) (finCx (g3_G n) g3_R [(2, none)])) (by kernel_rfl) ((g3_1_fx n _ d.1).trans (by kernel_rfl))))
noncomputable def g14_m0 (x0 : List (Int × ByteArray)) : FState := ⟨tlist [(0, .sl 0 none false)], olist [(0, .row (.pair (.int .i64) .str) 28 false x0)]⟩
noncomputable def g14_m1 (x2 : List (Int × ByteArray)) : FState := ⟨tlist [(2, .sl 2 none false)], olist [(2, .row (.pair (.int .i64) .str) 28 true x2)]⟩
noncomputable def g14_m1e : List NE := [.row 2 (.pair (.int .i64) .str) 28 true]
noncomputable def g14_m2 (x3 : List (Int × ByteArray)) (x6 : List (Int × ByteArray)) (v7 : Int) (v8 : Int) : FState := ⟨tlist [(3, .sl 3 none false), (6, .sl 6 none false), (7, .dat (.int .i64) v7), (8, .dat (.int .i64) v8)], olist [(3, .row (.pair (.int .i64) .str) 28 true x3), (6, .row (.pair (.int .i64) .str) 28 false x6)]⟩
noncomputable def g14_m2e : List NE := [.row 3 (.pair (.int .i64) .str) 28 true, .row 6 (.pair (.int .i64) .str) 28 false, .keep 7, .keep 8]
noncomputable def g14_m3 (x3 : List (Int × ByteArray)) : FState := ⟨tlist [(3, .sl 3 none false)], olist [(3, .row (.pair (.int .i64) .str) 28 true x3)]⟩
noncomputable def g14_m3e : List NE := [.row 3 (.pair (.int .i64) .str) 28 true]
noncomputable def g14_C (n : Nat) : List (Nat × Spec) := []
noncomputable def g14_G (n : Nat) : Ctx := { Γ0 with calls := lkS (g14_C n) }
noncomputable def g14_B : Code := fb Try.f14
noncomputable def g14_1 {β : Type} (n : Nat) (kn : List (Int × ByteArray) → List (Int × ByteArray) → Int → Int → Option β) (x0 : List (Int × ByteArray)) : Option β := kn [] x0 (x0.length : Int) (0 : Int)
noncomputable def g14_1F {β : Type} (n : Nat) (s : FState) (cx : Cx β) : Option β := FX (g14_G n) n (nav g14_B [0]) (.fin none none none [] .leaf) s { cx with nrm := fun s => FX (g14_G n) n (nav g14_B [1, 0]) (.fin none none none [] .leaf) s { cx with nrm := fun s => FX (g14_G n) n (nav g14_B [1, 1, 0, 0]) (.fin none (some g14_m2e) none [] .leaf) s cx } }
theorem g14_1_fx {β : Type} (n : Nat) (cx : Cx β) (x0 : List (Int × ByteArray)) : g14_1F n (g14_m0 x0) cx = g14_1 n (fun x3 x6 v7 v8 => cx.nrm (g14_m2 x3 x6 v7 v8)) x0 := by kernel_rfl
noncomputable def g14_2 {β : Type} (n : Nat) (kn : List (Int × ByteArray) → List (Int × ByteArray) → Int → Int → Option β) (kx0 : List (Int × ByteArray) → Option β) (x3 : List (Int × ByteArray)) (x6 : List (Int × ByteArray)) (v7 : Int) (v8 : Int) : Option β := bif (decide (v8 < v7)) then (idx v8 (x6.length : Int) <| bif (!strEq ((rd [(rd x6 v8 ((0 : Int), (⟨#[]⟩ : ByteArray)))] (0 : Int) ((0 : Int), (⟨#[]⟩ : ByteArray))).2) (⟨#[]⟩ : ByteArray)) then (roomy (x3.length + [(rd [(rd x6 v8 ((0 : Int), (⟨#[]⟩ : ByteArray)))] (0 : Int) ((0 : Int), (⟨#[]⟩ : ByteArray)))].length) <| kn (x3 ++ [(rd [(rd x6 v8 ((0 : Int), (⟨#[]⟩ : ByteArray)))] (0 : Int) ((0 : Int), (⟨#[]⟩ : ByteArray)))]) x6 v7 (w64 (v8 + (1 : Int)))) else (kn x3 x6 v7 (w64 (v8 + (1 : Int))))) else (kx0 x3)
noncomputable def g14_2F {β : Type} (n : Nat) (s : FState) (cx : Cx β) : Option β := FX (g14_G n) n (nav g14_B [1, 1, 0, 1, 0, 0, 0]) (.fin none none none [(0, g14_m3e)] .leaf) s { cx with nrm := fun s => FX (g14_G n) n (nav g14_B [1, 1, 0, 1, 0, 0, 1, 0]) (.fin none none none [(0, g14_m3e)] .leaf) s { cx with nrm := fun s => FX (g14_G n) n (nav g14_B [1, 1, 0, 1, 0, 0, 1, 1, 0]) (.fin none none none [(0, g14_m3e)] .leaf) s { cx with nrm := fun s => FX (g14_G n) n (nav g14_B [1, 1, 0, 1, 0, 0, 1, 1, 1]) (.fin none (some g14_m2e) none [(0, g14_m3e)] .leaf) s cx } } }
theorem g14_2_fx {β : Type} (n : Nat) (cx : Cx β) (x3 : List (Int × ByteArray)) (x6 : List (Int × ByteArray)) (v7 : Int) (v8 : Int) : g14_2F n (g14_m2 x3 x6 v7 v8) cx = g14_2 n (fun x3 x6 v7 v8 => cx.nrm (g14_m2 x3 x6 v7 v8)) (fun x3 => cx.ex 0 (g14_m3 x3)) x3 x6 v7 v8 := by kernel_rfl
noncomputable def g14_3L {β : Type} (n : Nat) (kx0 : List (Int × ByteArray) → Option β) : Nat → List (Int × ByteArray) → List (Int × ByteArray) → Int → Int → Option β
  | 0, _, _, _, _ => none
  | m + 1, x3, x6, v7, v8 => g14_2 n (g14_3L n kx0 m) kx0 x3 x6 v7 v8
noncomputable def g14_3 {β : Type} (n : Nat) (kx0 : List (Int × ByteArray) → Option β) (x3 : List (Int × ByteArray)) (x6 : List (Int × ByteArray)) (v7 : Int) (v8 : Int) : Option β := g14_3L n kx0 n x3 x6 v7 v8
noncomputable def g14_3F {β : Type} (n : Nat) (s : FState) (cx : Cx β) : Option β := loopN (fun again s => g14_2F n s { cx with nrm := again }) n s
theorem g14_3L_fx {β : Type} (n : Nat) (cx : Cx β) : ∀ (m : Nat) (x3 : List (Int × ByteArray)) (x6 : List (Int × ByteArray)) (v7 : Int) (v8 : Int), loopN (fun again s => g14_2F n s { cx with nrm := again }) m (g14_m2 x3 x6 v7 v8) = g14_3L n (fun x3 => cx.ex 0 (g14_m3 x3)) m x3 x6 v7 v8 := by
  intro m
  induction m with
  | zero => intros; rfl
  | succ m ih => intros; simp only [loopN, g14_3L, g14_2_fx, ih]
theorem g14_3_fx {β : Type} (n : Nat) (cx : Cx β) (x3 : List (Int × ByteArray)) (x6 : List (Int × ByteArray)) (v7 : Int) (v8 : Int) : g14_3F n (g14_m2 x3 x6 v7 v8) cx = g14_3 n (fun x3 => cx.ex 0 (g14_m3 x3)) x3 x6 v7 v8 := g14_3L_fx n cx n x3 x6 v7 v8
noncomputable def g14_4 {β : Type} (n : Nat) (kn : List (Int × ByteArray) → Option β) (x3 : List (Int × ByteArray)) (x6 : List (Int × ByteArray)) (v7 : Int) (v8 : Int) : Option β := g14_3 n kn x3 x6 v7 v8
noncomputable def g14_4F {β : Type} (n : Nat) (s : FState) (cx : Cx β) : Option β := g14_3F n s { cx with ex := fun j s => bif Nat.beq j 0 then cx.nrm s else cx.ex j s }
theorem g14_4_fx {β : Type} (n : Nat) (cx : Cx β) (x3 : List (Int × ByteArray)) (x6 : List (Int × ByteArray)) (v7 : Int) (v8 : Int) : g14_4F n (g14_m2 x3 x6 v7 v8) cx = g14_4 n (fun x3 => cx.nrm (g14_m3 x3)) x3 x6 v7 v8 := g14_3_fx n _ x3 x6 v7 v8
noncomputable def g14_5 {β : Type} (n : Nat) (kr : List (Int × ByteArray) → Option β) (x3 : List (Int × ByteArray)) : Option β := kr x3
noncomputable def g14_5F {β : Type} (n : Nat) (s : FState) (cx : Cx β) : Option β := FX (g14_G n) n (nav g14_B [1, 1, 1, 0]) (.fin none none (some g14_m1e) [] .leaf) s { cx with nrm := fun s => FX (g14_G n) n (nav g14_B [1, 1, 1, 1]) (.fin none none (some g14_m1e) [] .leaf) s cx }
theorem g14_5_fx {β : Type} (n : Nat) (cx : Cx β) (x3 : List (Int × ByteArray)) : g14_5F n (g14_m3 x3) cx = g14_5 n (fun x2 => cx.ret (g14_m1 x2)) x3 := by kernel_rfl
noncomputable def g14_6 {β : Type} (n : Nat) (kr : List (Int × ByteArray) → Option β) (x0 : List (Int × ByteArray)) : Option β := g14_1 n (fun x3 x6 v7 v8 => g14_4 n (fun x3 => g14_5 n kr x3) x3 x6 v7 v8) x0
noncomputable def g14_6F {β : Type} (n : Nat) (s : FState) (cx : Cx β) : Option β := g14_1F n s { cx with nrm := fun s => g14_4F n s { cx with nrm := fun s => g14_5F n s cx } }
theorem g14_6_fx {β : Type} (n : Nat) (cx : Cx β) (x0 : List (Int × ByteArray)) : g14_6F n (g14_m0 x0) cx = g14_6 n (fun x2 => cx.ret (g14_m1 x2)) x0 := by simp only [g14_6F, g14_6, g14_1_fx, g14_4_fx, g14_5_fx]
noncomputable def g14 (n : Nat) (x0 : List (Int × ByteArray)) : Option (DenR [.rw (.pair (.int .i64) .str) 28]) := g14_6 n (fun x2 => some (x2, ())) x0
noncomputable def g14_A : List AK := [.ro (.pair (.int .i64) .str) 28]
noncomputable def g14_R : List RK := [.rw (.pair (.int .i64) .str) 28]
noncomputable def g14_f (n : Nat) (d : DenA g14_A) : Option (DenR g14_R) := g14 n d.1
noncomputable def g14_S (n : Nat) : Spec := mkSpec g14_A g14_R (g14_f n)
noncomputable def g14_K : Sk := (.nd (.fin none none none [] .leaf) (.nd (.fin none none none [] .leaf) (.nd (.nd (.fin none (some g14_m2e) none [] .leaf) (.nd (.nd (.nd (.fin none none none [(0, g14_m3e)] .leaf) (.nd (.fin none none none [(0, g14_m3e)] .leaf) (.nd (.fin none none none [(0, g14_m3e)] .leaf) (.fin none (some g14_m2e) none [(0, g14_m3e)] .leaf)))) .leaf) .leaf)) (.nd (.fin none none (some g14_m1e) [] .leaf) (.fin none none (some g14_m1e) [] .leaf)))))
theorem g14_top {β : Type} (n : Nat) (s : FState) (cx : Cx β) : FX (g14_G n) n g14_B g14_K s cx = g14_6F n s cx := by kernel_rfl
theorem g14_fit (n : Nat) : Fit Try.prog 14 (g14_S n) :=
  fit_of (Γ := Γ0) (l := g14_C n) (n := n) (sk := g14_K) (ts := [(2, none)]) (fn := Try.f14) (c := g14_B) (by kernel_rfl) (by kernel_rfl) (by unfold Callable; kernel_rfl) tab_ok trivial follows_mixed (by kernel_rfl) (by kernel_rfl) (Nat.le_of_ble_eq_true (by kernel_rfl)) (by kernel_rfl) (by kernel_rfl)
    (fun d => (g14_top n _ _).trans (Eq.trans (b := g14_6F n (g14_m0 d.1) (finCx (g14_G n) g14_R [(2, none)])) (by kernel_rfl) ((g14_6_fx n _ d.1).trans (by kernel_rfl))))
end Go.Proofs.YtfnjlgflbenfoaaF
