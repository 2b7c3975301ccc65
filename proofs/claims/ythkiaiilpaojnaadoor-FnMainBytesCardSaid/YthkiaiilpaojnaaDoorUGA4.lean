import Derived.Test.YthkiaiilpaojnaaDoorUFT
import Derived.Test.YthkiaiilpaojnaaDoorUGA0
import Derived.Test.YthkiaiilpaojnaaDoorUGA3
namespace Go.Proofs.YthkiaiilpaojnaaDoorUF
open Go Go.Proofs
set_option linter.unusedVariables false
set_option maxRecDepth 100000
noncomputable def g93_m0 (p0 : (Int × (Int × (Int × (Nat × (Int × (Int × Nat))))))) (v1 : ByteArray) (v2 : ByteArray) : FState := ⟨tlist [(0, .ptr 0 0 0), (1, .dat .str v1), (2, .dat .str v2)], olist [(0, .row (.pair (.int .i64) (.pair (.int .i64) (.pair (.int .i64) (.pair (.flt .f64) (.pair (.int .i64) (.pair (.int .i64) (.flt .f64))))))) 106 false [p0])]⟩
noncomputable def g93_m1 (x6 : List (Int × ByteArray)) : FState := ⟨tlist [(6, .sl 6 none false)], olist [(6, .row (.pair (.int .i8) .str) 115 true x6)]⟩
noncomputable def g93_m1e : List NE := [.row 6 (.pair (.int .i8) .str) 115 true]
noncomputable def g93_C (n : Nat) : List (Nat × Spec) := [(114, g114_S n)]
noncomputable def g93_G (n : Nat) : Ctx := { Γ0 with calls := lkS (g93_C n) }
noncomputable def g93_B : Code := fb Tryd.f93
noncomputable def g93_1 {β : Type} (n : Nat) (kr : List (Int × ByteArray) → Option β) (p0 : (Int × (Int × (Int × (Nat × (Int × (Int × Nat))))))) (v1 : ByteArray) (v2 : ByteArray) : Option β := room46 v1 <| room46 v2 <| (g114 n p0 (runesOf v1) (runesOf v2)).bind fun r1 => kr r1.1
noncomputable def g93_1F {β : Type} (n : Nat) (s : FState) (cx : Cx β) : Option β := FX (g93_G n) n (nav g93_B [0]) (.fin none none (some g93_m1e) [] .leaf) s { cx with nrm := fun s => FX (g93_G n) n (nav g93_B [1, 0]) (.fin none none (some g93_m1e) [] .leaf) s { cx with nrm := fun s => FX (g93_G n) n (nav g93_B [1, 1]) (.fin none none (some g93_m1e) [] .leaf) s cx } }
theorem g93_1_fx {β : Type} (n : Nat) (cx : Cx β) (p0 : (Int × (Int × (Int × (Nat × (Int × (Int × Nat))))))) (v1 : ByteArray) (v2 : ByteArray) : g93_1F n (g93_m0 p0 v1 v2) cx = g93_1 n (fun x6 => cx.ret (g93_m1 x6)) p0 v1 v2 := by kernel_rfl
noncomputable def g93 (n : Nat) (p0 : (Int × (Int × (Int × (Nat × (Int × (Int × Nat))))))) (v1 : ByteArray) (v2 : ByteArray) : Option (DenR [.rw (.pair (.int .i8) .str) 115]) := g93_1 n (fun x6 => some (x6, ())) p0 v1 v2
noncomputable def g93_A : List AK := [.pro (.pair (.int .i64) (.pair (.int .i64) (.pair (.int .i64) (.pair (.flt .f64) (.pair (.int .i64) (.pair (.int .i64) (.flt .f64))))))) 106, .dat .str, .dat .str]
noncomputable def g93_R : List RK := [.rw (.pair (.int .i8) .str) 115]
noncomputable def g93_f (n : Nat) (d : DenA g93_A) : Option (DenR g93_R) := g93 n d.1 d.2.1 d.2.2.1
noncomputable def g93_S (n : Nat) : Spec := mkSpec g93_A g93_R (g93_f n)
noncomputable def g93_K : Sk := (.nd (.fin none none (some g93_m1e) [] .leaf) (.nd (.fin none none (some g93_m1e) [] .leaf) (.fin none none (some g93_m1e) [] .leaf)))
theorem g93_top {β : Type} (n : Nat) (s : FState) (cx : Cx β) : FX (g93_G n) n g93_B g93_K s cx = g93_1F n s cx := by kernel_rfl
theorem g93_fit (n : Nat) : Fit Tryd.prog 93 (g93_S n) :=
  fit_of (Γ := Γ0) (l := g93_C n) (n := n) (sk := g93_K) (ts := [(6, none)]) (fn := Tryd.f93) (c := g93_B) (by kernel_rfl) (by kernel_rfl) (by unfold Callable; kernel_rfl) tab_ok ⟨g114_fit n, trivial⟩ follows_mixed (by kernel_rfl) (by kernel_rfl) (Nat.le_of_ble_eq_true (by kernel_rfl)) (by kernel_rfl) (by kernel_rfl)
    (fun d => (g93_top n _ _).trans (Eq.trans (b := g93_1F n (g93_m0 d.1 d.2.1 d.2.2.1) (finCx (g93_G n) g93_R [(6, none)])) (by kernel_rfl) ((g93_1_fx n _ d.1 d.2.1 d.2.2.1).trans (by kernel_rfl))))
noncomputable def g45_m0 (x0 : List (Int × ByteArray)) : FState := ⟨tlist [(0, .sl 0 none false)], olist [(0, .row (.pair (.int .i8) .str) 115 false x0)]⟩
noncomputable def g45_m1 (x2 : List (Int × ByteArray)) : FState := ⟨tlist [(2, .sl 2 none false)], olist [(2, .row (.pair (.int .i64) .str) 68 true x2)]⟩
noncomputable def g45_m1e : List NE := [.row 2 (.pair (.int .i64) .str) 68 true]
noncomputable def g45_m2 (x3 : List (Int × ByteArray)) (x6 : List (Int × ByteArray)) (v7 : Int) (v8 : Int) : FState := ⟨tlist [(3, .sl 3 none false), (6, .sl 6 none false), (7, .dat (.int .i64) v7), (8, .dat (.int .i64) v8)], olist [(3, .row (.pair (.int .i64) .str) 68 true x3), (6, .row (.pair (.int .i8) .str) 115 false x6)]⟩
noncomputable def g45_m2e : List NE := [.row 3 (.pair (.int .i64) .str) 68 true, .row 6 (.pair (.int .i8) .str) 115 false, .keep 7, .keep 8]
noncomputable def g45_m3 (x3 : List (Int × ByteArray)) : FState := ⟨tlist [(3, .sl 3 none false)], olist [(3, .row (.pair (.int .i64) .str) 68 true x3)]⟩
noncomputable def g45_m3e : List NE := [.row 3 (.pair (.int .i64) .str) 68 true]
noncomputable def g45_C (n : Nat) : List (Nat × Spec) := []
noncomputable def g45_G (n : Nat) : Ctx := { Γ0 with calls := lkS (g45_C n) }
noncomputable def g45_B : Code := fb Tryd.f45
noncomputable def g45_1 {β : Type} (n : Nat) (kn : List (Int × ByteArray) → List (Int × ByteArray) → Int → Int → Option β) (x0 : List (Int × ByteArray)) : Option β := kn [] x0 (x0.length : Int) (0 : Int)
noncomputable def g45_1F {β : Type} (n : Nat) (s : FState) (cx : Cx β) : Option β := FX (g45_G n) n (nav g45_B [0]) (.fin none none none [] .leaf) s { cx with nrm := fun s => FX (g45_G n) n (nav g45_B [1, 0]) (.fin none none none [] .leaf) s { cx with nrm := fun s => FX (g45_G n) n (nav g45_B [1, 1, 0, 0]) (.fin none (some g45_m2e) none [] .leaf) s cx } }
theorem g45_1_fx {β : Type} (n : Nat) (cx : Cx β) (x0 : List (Int × ByteArray)) : g45_1F n (g45_m0 x0) cx = g45_1 n (fun x3 x6 v7 v8 => cx.nrm (g45_m2 x3 x6 v7 v8)) x0 := by kernel_rfl
noncomputable def g45_2 {β : Type} (n : Nat) (kn : List (Int × ByteArray) → List (Int × ByteArray) → Int → Int → Option β) (kx0 : List (Int × ByteArray) → Option β) (x3 : List (Int × ByteArray)) (x6 : List (Int × ByteArray)) (v7 : Int) (v8 : Int) : Option β := bif (decide (v8 < v7)) then (idx v8 (x6.length : Int) <| roomy (x3.length + [((w64 ((rd [(rd x6 v8 ((0 : Int), (⟨#[]⟩ : ByteArray)))] (0 : Int) ((0 : Int), (⟨#[]⟩ : ByteArray))).1)), (rd [(rd x6 v8 ((0 : Int), (⟨#[]⟩ : ByteArray)))] (0 : Int) ((0 : Int), (⟨#[]⟩ : ByteArray))).2)].length) <| kn (x3 ++ [((w64 ((rd [(rd x6 v8 ((0 : Int), (⟨#[]⟩ : ByteArray)))] (0 : Int) ((0 : Int), (⟨#[]⟩ : ByteArray))).1)), (rd [(rd x6 v8 ((0 : Int), (⟨#[]⟩ : ByteArray)))] (0 : Int) ((0 : Int), (⟨#[]⟩ : ByteArray))).2)]) x6 v7 (w64 (v8 + (1 : Int)))) else (kx0 x3)
noncomputable def g45_2F {β : Type} (n : Nat) (s : FState) (cx : Cx β) : Option β := FX (g45_G n) n (nav g45_B [1, 1, 0, 1, 0, 0, 0]) (.fin none none none [(0, g45_m3e)] .leaf) s { cx with nrm := fun s => FX (g45_G n) n (nav g45_B [1, 1, 0, 1, 0, 0, 1, 0]) (.fin none none none [(0, g45_m3e)] .leaf) s { cx with nrm := fun s => FX (g45_G n) n (nav g45_B [1, 1, 0, 1, 0, 0, 1, 1, 0]) (.fin none none none [(0, g45_m3e)] .leaf) s { cx with nrm := fun s => FX (g45_G n) n (nav g45_B [1, 1, 0, 1, 0, 0, 1, 1, 1]) (.fin none (some g45_m2e) none [(0, g45_m3e)] .leaf) s cx } } }
theorem g45_2_fx {β : Type} (n : Nat) (cx : Cx β) (x3 : List (Int × ByteArray)) (x6 : List (Int × ByteArray)) (v7 : Int) (v8 : Int) : g45_2F n (g45_m2 x3 x6 v7 v8) cx = g45_2 n (fun x3 x6 v7 v8 => cx.nrm (g45_m2 x3 x6 v7 v8)) (fun x3 => cx.ex 0 (g45_m3 x3)) x3 x6 v7 v8 := by kernel_rfl
noncomputable def g45_3L {β : Type} (n : Nat) (kx0 : List (Int × ByteArray) → Option β) : Nat → List (Int × ByteArray) → List (Int × ByteArray) → Int → Int → Option β
  | 0, _, _, _, _ => none
  | m + 1, x3, x6, v7, v8 => g45_2 n (g45_3L n kx0 m) kx0 x3 x6 v7 v8
noncomputable def g45_3 {β : Type} (n : Nat) (kx0 : List (Int × ByteArray) → Option β) (x3 : List (Int × ByteArray)) (x6 : List (Int × ByteArray)) (v7 : Int) (v8 : Int) : Option β := g45_3L n kx0 n x3 x6 v7 v8
noncomputable def g45_3F {β : Type} (n : Nat) (s : FState) (cx : Cx β) : Option β := loopN (fun again s => g45_2F n s { cx with nrm := again }) n s
theorem g45_3L_fx {β : Type} (n : Nat) (cx : Cx β) : ∀ (m : Nat) (x3 : List (Int × ByteArray)) (x6 : List (Int × ByteArray)) (v7 : Int) (v8 : Int), loopN (fun again s => g45_2F n s { cx with nrm := again }) m (g45_m2 x3 x6 v7 v8) = g45_3L n (fun x3 => cx.ex 0 (g45_m3 x3)) m x3 x6 v7 v8 := by
  intro m
  induction m with
  | zero => intros; rfl
  | succ m ih => intros; simp only [loopN, g45_3L, g45_2_fx, ih]
theorem g45_3_fx {β : Type} (n : Nat) (cx : Cx β) (x3 : List (Int × ByteArray)) (x6 : List (Int × ByteArray)) (v7 : Int) (v8 : Int) : g45_3F n (g45_m2 x3 x6 v7 v8) cx = g45_3 n (fun x3 => cx.ex 0 (g45_m3 x3)) x3 x6 v7 v8 := g45_3L_fx n cx n x3 x6 v7 v8
noncomputable def g45_4 {β : Type} (n : Nat) (kn : List (Int × ByteArray) → Option β) (x3 : List (Int × ByteArray)) (x6 : List (Int × ByteArray)) (v7 : Int) (v8 : Int) : Option β := g45_3 n kn x3 x6 v7 v8
noncomputable def g45_4F {β : Type} (n : Nat) (s : FState) (cx : Cx β) : Option β := g45_3F n s { cx with ex := fun j s => bif Nat.beq j 0 then cx.nrm s else cx.ex j s }
theorem g45_4_fx {β : Type} (n : Nat) (cx : Cx β) (x3 : List (Int × ByteArray)) (x6 : List (Int × ByteArray)) (v7 : Int) (v8 : Int) : g45_4F n (g45_m2 x3 x6 v7 v8) cx = g45_4 n (fun x3 => cx.nrm (g45_m3 x3)) x3 x6 v7 v8 := g45_3_fx n _ x3 x6 v7 v8
noncomputable def g45_5 {β : Type} (n : Nat) (kr : List (Int × ByteArray) → Option β) (x3 : List (Int × ByteArray)) : Option β := kr x3
noncomputable def g45_5F {β : Type} (n : Nat) (s : FState) (cx : Cx β) : Option β := FX (g45_G n) n (nav g45_B [1, 1, 1, 0]) (.fin none none (some g45_m1e) [] .leaf) s { cx with nrm := fun s => FX (g45_G n) n (nav g45_B [1, 1, 1, 1]) (.fin none none (some g45_m1e) [] .leaf) s cx }
theorem g45_5_fx {β : Type} (n : Nat) (cx : Cx β) (x3 : List (Int × ByteArray)) : g45_5F n (g45_m3 x3) cx = g45_5 n (fun x2 => cx.ret (g45_m1 x2)) x3 := by kernel_rfl
noncomputable def g45_6 {β : Type} (n : Nat) (kr : List (Int × ByteArray) → Option β) (x0 : List (Int × ByteArray)) : Option β := g45_1 n (fun x3 x6 v7 v8 => g45_4 n (fun x3 => g45_5 n kr x3) x3 x6 v7 v8) x0
noncomputable def g45_6F {β : Type} (n : Nat) (s : FState) (cx : Cx β) : Option β := g45_1F n s { cx with nrm := fun s => g45_4F n s { cx with nrm := fun s => g45_5F n s cx } }
theorem g45_6_fx {β : Type} (n : Nat) (cx : Cx β) (x0 : List (Int × ByteArray)) : g45_6F n (g45_m0 x0) cx = g45_6 n (fun x2 => cx.ret (g45_m1 x2)) x0 := by simp only [g45_6F, g45_6, g45_1_fx, g45_4_fx, g45_5_fx]
noncomputable def g45 (n : Nat) (x0 : List (Int × ByteArray)) : Option (DenR [.rw (.pair (.int .i64) .str) 68]) := g45_6 n (fun x2 => some (x2, ())) x0
noncomputable def g45_A : List AK := [.ro (.pair (.int .i8) .str) 115]
noncomputable def g45_R : List RK := [.rw (.pair (.int .i64) .str) 68]
noncomputable def g45_f (n : Nat) (d : DenA g45_A) : Option (DenR g45_R) := g45 n d.1
noncomputable def g45_S (n : Nat) : Spec := mkSpec g45_A g45_R (g45_f n)
noncomputable def g45_K : Sk := (.nd (.fin none none none [] .leaf) (.nd (.fin none none none [] .leaf) (.nd (.nd (.fin none (some g45_m2e) none [] .leaf) (.nd (.nd (.nd (.fin none none none [(0, g45_m3e)] .leaf) (.nd (.fin none none none [(0, g45_m3e)] .leaf) (.nd (.fin none none none [(0, g45_m3e)] .leaf) (.fin none (some g45_m2e) none [(0, g45_m3e)] .leaf)))) .leaf) .leaf)) (.nd (.fin none none (some g45_m1e) [] .leaf) (.fin none none (some g45_m1e) [] .leaf)))))
theorem g45_top {β : Type} (n : Nat) (s : FState) (cx : Cx β) : FX (g45_G n) n g45_B g45_K s cx = g45_6F n s cx := by kernel_rfl
theorem g45_fit (n : Nat) : Fit Tryd.prog 45 (g45_S n) :=
  fit_of (Γ := Γ0) (l := g45_C n) (n := n) (sk := g45_K) (ts := [(2, none)]) (fn := Tryd.f45) (c := g45_B) (by kernel_rfl) (by kernel_rfl) (by unfold Callable; kernel_rfl) tab_ok trivial follows_mixed (by kernel_rfl) (by kernel_rfl) (Nat.le_of_ble_eq_true (by kernel_rfl)) (by kernel_rfl) (by kernel_rfl)
    (fun d => (g45_top n _ _).trans (Eq.trans (b := g45_6F n (g45_m0 d.1) (finCx (g45_G n) g45_R [(2, none)])) (by kernel_rfl) ((g45_6_fx n _ d.1).trans (by kernel_rfl))))
theorem g92_idle : Idle Tryd.prog 92 2 := fun vs w hv => by
  obtain ⟨p0, p1, rfl⟩ := arr2 hv
  refine callsD_of_wpS (fn := Tryd.f92) (c := fb Tryd.f92) (by kernel_rfl) (by kernel_rfl) fun c₀ cs hu => ?_
  show Code.wpS Tryd.prog (.seq (nav (fb Tryd.f92) [0]) (.cond (.tmp 3) (nav (fb Tryd.f92) [1, 0]) .skip)) _ _ _ _
  apply wpS_seq
  apply wpS_region
  simp [wpOpsS, go_sem, recoverD, hu, Exit.thenS]
  refine wpS_cond (t := false) (by simp [Act.eval, Array.replicate]) ?_
  simp only [Bool.false_eq_true, if_false]
  refine wpS_of_wp (wp_skip ?_)
  cases c₀
  simp_all [bodyPostS, results]
noncomputable def g64_m0 (v0 : (Bool × (Int × (Int × (Nat × (Nat × (Int × Int))))))) (v1 : ByteArray) (v2 : ByteArray) : FState := ⟨tlist [(0, .dat (.pair .bool (.pair (.int .i64) (.pair (.int .i64) (.pair (.flt .f64) (.pair (.flt .f64) (.pair (.int .i64) (.int .i64))))))) v0), (1, .dat .str v1), (2, .dat .str v2)], olist []⟩
noncomputable def g64_m1 (p6 : (List (Int × ByteArray))) (p7 : Int) : FState := ⟨tlist [(6, .ptr 6 0 0), (7, .ptr 7 0 0)], olist [(6, .row (.sl 68 (.pair (.int .i64) .str)) 27 true [p6]), (7, .row (.int .i64) 3 true [p7])]⟩
noncomputable def g64_m1e : List NE := [.ptr 6 (.sl 68 (.pair (.int .i64) .str)) 27 true, .ptr 7 (.int .i64) 3 true]
noncomputable def g64_m2 (v1 : ByteArray) (v2 : ByteArray) (p3 : (Bool × (Int × (Int × (Nat × (Nat × (Int × Int))))))) (p6 : (List (Int × ByteArray))) (p7 : Int) : FState := ⟨tlist [(1, .dat .str v1), (2, .dat .str v2), (3, .ptr 3 0 0), (6, .ptr 6 0 0), (7, .ptr 7 0 0)], olist [(3, .row (.pair .bool (.pair (.int .i64) (.pair (.int .i64) (.pair (.flt .f64) (.pair (.flt .f64) (.pair (.int .i64) (.int .i64))))))) 59 true [p3]), (6, .row (.sl 68 (.pair (.int .i64) .str)) 27 true [p6]), (7, .row (.int .i64) 3 true [p7])]⟩
noncomputable def g64_m2e : List NE := [.keep 1, .keep 2, .ptr 3 (.pair .bool (.pair (.int .i64) (.pair (.int .i64) (.pair (.flt .f64) (.pair (.flt .f64) (.pair (.int .i64) (.int .i64))))))) 59 true, .ptr 6 (.sl 68 (.pair (.int .i64) .str)) 27 true, .ptr 7 (.int .i64) 3 true]
noncomputable def g64_C (n : Nat) : List (Nat × Spec) := [(45, g45_S n), (62, g62_S n), (93, g93_S n)]
noncomputable def g64_G (n : Nat) : Ctx := { Γ0 with calls := lkS (g64_C n) }
noncomputable def g64_B : Code := fb Tryd.f64
noncomputable def g64_1 {β : Type} (n : Nat) (kn : ByteArray → ByteArray → (Bool × (Int × (Int × (Nat × (Nat × (Int × Int)))))) → (List (Int × ByteArray)) → Int → Option β) (v0 : (Bool × (Int × (Int × (Nat × (Nat × (Int × Int))))))) (v1 : ByteArray) (v2 : ByteArray) : Option β := kn v1 v2 v0 ([] : List (Int × ByteArray)) (0 : Int)
noncomputable def g64_1F {β : Type} (n : Nat) (s : FState) (cx : Cx β) : Option β := FX (g64_G n) n (nav g64_B [0]) (.fin none (some g64_m2e) none [] .leaf) s cx
theorem g64_1_fx {β : Type} (n : Nat) (cx : Cx β) (v0 : (Bool × (Int × (Int × (Nat × (Nat × (Int × Int))))))) (v1 : ByteArray) (v2 : ByteArray) : g64_1F n (g64_m0 v0 v1 v2) cx = g64_1 n (fun v1 v2 p3 p6 p7 => cx.nrm (g64_m2 v1 v2 p3 p6 p7)) v0 v1 v2 := by kernel_rfl
noncomputable def g64_2 {β : Type} (n : Nat) (kr : (List (Int × ByteArray)) → Int → Option β) (v1 : ByteArray) (v2 : ByteArray) (p3 : (Bool × (Int × (Int × (Nat × (Nat × (Int × Int))))))) (p6 : (List (Int × ByteArray))) (p7 : Int) : Option β := (g62 n p3).bind fun r1 => (g93 n r1.1 v1 v2).bind fun r2 => (g45 n r2.1).bind fun r3 => kr r3.1 (0 : Int)
noncomputable def g64_2F {β : Type} (n : Nat) (s : FState) (cx : Cx β) : Option β := FX (g64_G n) n (nav g64_B [1, 1, 0]) (.fin none none (some g64_m1e) [] .leaf) s { cx with nrm := fun s => FX (g64_G n) n (nav g64_B [1, 1, 1]) (.fin none none (some g64_m1e) [] .leaf) s cx }
theorem g64_2_fx {β : Type} (n : Nat) (cx : Cx β) (v1 : ByteArray) (v2 : ByteArray) (p3 : (Bool × (Int × (Int × (Nat × (Nat × (Int × Int))))))) (p6 : (List (Int × ByteArray))) (p7 : Int) : g64_2F n (g64_m2 v1 v2 p3 p6 p7) cx = g64_2 n (fun p6 p7 => cx.ret (g64_m1 p6 p7)) v1 v2 p3 p6 p7 := by kernel_rfl
noncomputable def g64 (n : Nat) (v0 : (Bool × (Int × (Int × (Nat × (Nat × (Int × Int))))))) (v1 : ByteArray) (v2 : ByteArray) : Option (DenR [.ro (.pair (.int .i64) .str) 68, .dat (.int .i64)]) := g64_1 n (fun v1 v2 p3 p6 p7 => g64_2 n (fun p6 p7 => some (p6, (p7, ()))) v1 v2 p3 p6 p7) v0 v1 v2
noncomputable def g64_A : List AK := [.dat (.pair .bool (.pair (.int .i64) (.pair (.int .i64) (.pair (.flt .f64) (.pair (.flt .f64) (.pair (.int .i64) (.int .i64))))))), .dat .str, .dat .str]
noncomputable def g64_R : List RK := [.ro (.pair (.int .i64) .str) 68, .dat (.int .i64)]
noncomputable def g64_f (n : Nat) (d : DenA g64_A) : Option (DenR g64_R) := g64 n d.1 d.2.1 d.2.2.1
noncomputable def g64_S (n : Nat) : Spec := mkSpec g64_A g64_R (g64_f n)
noncomputable def g64_K0 : Sk := (.fin none (some g64_m2e) none [] .leaf)
noncomputable def g64_K1 : Sk := (.nd (.fin none none (some g64_m1e) [] .leaf) (.fin none none (some g64_m1e) [] .leaf))
noncomputable def g64_K2 : Sk := (.fin (some g64_m2e) none none [] (.nd (.fin none none (some g64_m1e) [] .leaf) (.fin none none (some g64_m1e) [] .leaf)))
theorem g64_top {β : Type} (n : Nat) (s : FState) (cx : Cx β) : FX (g64_G n) n (nav g64_B [1, 1]) g64_K1 s cx = g64_2F n s cx := by kernel_rfl
theorem g64_mid {β : Type} (n : Nat) (cx : Cx β) (v1 : ByteArray) (v2 : ByteArray) (p3 : (Bool × (Int × (Int × (Nat × (Nat × (Int × Int))))))) (p6 : (List (Int × ByteArray))) (p7 : Int) : FX (g64_G n) n (nav g64_B [1, 1]) g64_K2 (FState.set (g64_m2 v1 v2 p3 p6 p7) 8 .dead) cx = g64_2 n (fun p6 p7 => cx.ret (g64_m1 p6 p7)) v1 v2 p3 p6 p7 :=
  Eq.trans (b := FX (g64_G n) n (nav g64_B [1, 1]) g64_K1 (g64_m2 v1 v2 p3 p6 p7) cx) (by kernel_rfl) ((g64_top n _ _).trans (g64_2_fx n cx v1 v2 p3 p6 p7))
theorem g64_fit (n : Nat) : Fit Tryd.prog 64 (g64_S n) :=
  fit_of_wrap (Γ := Γ0) (l := g64_C n) (n := n) (sk0 := g64_K0) (sk1 := g64_K2) (ts := [(6, some 27), (7, some 3)]) (fn := Tryd.f64) (c := g64_B) (c0 := nav g64_B [0]) (c1 := nav g64_B [1, 1]) (tm := 8) (g := 92) (k := 2) (by kernel_rfl) (by kernel_rfl) (by kernel_rfl) (by unfold Callable; kernel_rfl) tab_ok ⟨g45_fit n, g62_fit n, g93_fit n, trivial⟩ follows_mixed (by unfold Callable; kernel_rfl) g92_idle (by kernel_rfl) (by kernel_rfl) (by kernel_rfl) (Nat.le_of_ble_eq_true (by kernel_rfl)) (Nat.le_of_ble_eq_true (by kernel_rfl)) (by kernel_rfl) (by kernel_rfl)
    (fun d => Eq.trans (b := g64_1F n (g64_m0 d.1 d.2.1 d.2.2.1) ⟨fun s => FX (g64_G n) n (nav g64_B [1, 1]) g64_K2 (FState.set s 8 .dead) (finCx (g64_G n) g64_R [(6, some 27), (7, some 3)]), fun _ => none, fun _ _ => none⟩) (by kernel_rfl) ((g64_1_fx n _ d.1 d.2.1 d.2.2.1).trans (Eq.trans (b := g64_1 n (fun v1 v2 p3 p6 p7 => g64_2 n (fun p6 p7 => (finCx (g64_G n) g64_R [(6, some 27), (7, some 3)]).ret (g64_m1 p6 p7)) v1 v2 p3 p6 p7) d.1 d.2.1 d.2.2.1) (congrArg (fun k_ => g64_1 n k_ d.1 d.2.1 d.2.2.1) (funext fun v1 => (funext fun v2 => (funext fun p3 => (funext fun p6 => (funext fun p7 => g64_mid n (finCx (g64_G n) g64_R [(6, some 27), (7, some 3)]) v1 v2 p3 p6 p7)))))) (by kernel_rfl))))
noncomputable def g65_m0 (x0 : List (Int × ByteArray)) (v1 : Int) : FState := ⟨tlist [(0, .sl 0 none false), (1, .dat (.int .i64) v1)], olist [(0, .row (.pair (.int .i64) .str) 68 false x0)]⟩
noncomputable def g65_m1 (x4 : List (Int × ByteArray)) : FState := ⟨tlist [(4, .sl 4 none false)], olist [(4, .row (.pair (.int .i64) .str) 68 false x4)]⟩
noncomputable def g65_m1e : List NE := [.row 4 (.pair (.int .i64) .str) 68 false]
noncomputable def g65_C (n : Nat) : List (Nat × Spec) := []
noncomputable def g65_G (n : Nat) : Ctx := { Γ0 with calls := lkS (g65_C n) }
noncomputable def g65_B : Code := fb Tryd.f65
noncomputable def g65_1 {β : Type} (n : Nat) (kr : List (Int × ByteArray) → Option β) (x0 : List (Int × ByteArray)) (v1 : Int) : Option β := bif (v1 != (0 : Int)) then (kr [((1 : Int), (⟨#[0, 102, 97, 117, 108, 116]⟩ : ByteArray)), ((1 : Int), (⟨#[]⟩ : ByteArray))]) else (kr x0)
noncomputable def g65_1F {β : Type} (n : Nat) (s : FState) (cx : Cx β) : Option β := FX (g65_G n) n (nav g65_B [0]) (.fin none none (some g65_m1e) [] .leaf) s { cx with nrm := fun s => FX (g65_G n) n (nav g65_B [1, 0, 0]) (.fin none none (some g65_m1e) [] .leaf) s { cx with nrm := fun s => FX (g65_G n) n (nav g65_B [1, 0, 1]) (.fin none none (some g65_m1e) [] .leaf) s { cx with nrm := fun s => FX (g65_G n) n (nav g65_B [1, 1, 0]) (.fin none none (some g65_m1e) [] .leaf) s { cx with nrm := fun s => FX (g65_G n) n (nav g65_B [1, 1, 1]) (.fin none none (some g65_m1e) [] .leaf) s cx } } } }
theorem g65_1_fx {β : Type} (n : Nat) (cx : Cx β) (x0 : List (Int × ByteArray)) (v1 : Int) : g65_1F n (g65_m0 x0 v1) cx = g65_1 n (fun x4 => cx.ret (g65_m1 x4)) x0 v1 := by kernel_rfl
noncomputable def g65 (n : Nat) (x0 : List (Int × ByteArray)) (v1 : Int) : Option (DenR [.ro (.pair (.int .i64) .str) 68]) := g65_1 n (fun x4 => some (x4, ())) x0 v1
noncomputable def g65_A : List AK := [.ro (.pair (.int .i64) .str) 68, .dat (.int .i64)]
noncomputable def g65_R : List RK := [.ro (.pair (.int .i64) .str) 68]
noncomputable def g65_f (n : Nat) (d : DenA g65_A) : Option (DenR g65_R) := g65 n d.1 d.2.1
noncomputable def g65_S (n : Nat) : Spec := mkSpec g65_A g65_R (g65_f n)
noncomputable def g65_K : Sk := (.nd (.fin none none (some g65_m1e) [] .leaf) (.nd (.nd (.fin none none (some g65_m1e) [] .leaf) (.fin none none (some g65_m1e) [] .leaf)) (.nd (.fin none none (some g65_m1e) [] .leaf) (.fin none none (some g65_m1e) [] .leaf))))
theorem g65_top {β : Type} (n : Nat) (s : FState) (cx : Cx β) : FX (g65_G n) n g65_B g65_K s cx = g65_1F n s cx := by kernel_rfl
theorem g65_fit (n : Nat) : Fit Tryd.prog 65 (g65_S n) :=
  fit_of (Γ := Γ0) (l := g65_C n) (n := n) (sk := g65_K) (ts := [(4, none)]) (fn := Tryd.f65) (c := g65_B) (by kernel_rfl) (by kernel_rfl) (by unfold Callable; kernel_rfl) tab_ok trivial follows_mixed (by kernel_rfl) (by kernel_rfl) (Nat.le_of_ble_eq_true (by kernel_rfl)) (by kernel_rfl) (by kernel_rfl)
    (fun d => (g65_top n _ _).trans (Eq.trans (b := g65_1F n (g65_m0 d.1 d.2.1) (finCx (g65_G n) g65_R [(4, none)])) (by kernel_rfl) ((g65_1_fx n _ d.1 d.2.1).trans (by kernel_rfl))))
noncomputable def g36_m0 (v0 : ByteArray) (v1 : ByteArray) : FState := ⟨tlist [(0, .dat .str v0), (1, .dat .str v1)], olist []⟩
noncomputable def g36_m1 (x4 : List (Int × ByteArray)) : FState := ⟨tlist [(4, .sl 4 none false)], olist [(4, .row (.pair (.int .i64) .str) 68 false x4)]⟩
noncomputable def g36_m1e : List NE := [.row 4 (.pair (.int .i64) .str) 68 false]
noncomputable def g36_C (n : Nat) : List (Nat × Spec) := [(64, g64_S n), (65, g65_S n)]
noncomputable def g36_G (n : Nat) : Ctx := { Γ0 with calls := lkS (g36_C n) }
noncomputable def g36_B : Code := fb Tryd.f36
noncomputable def g36_1 {β : Type} (n : Nat) (kr : List (Int × ByteArray) → Option β) (v0 : ByteArray) (v1 : ByteArray) : Option β := (g64 n (false, ((0 : Int), ((0 : Int), ((0 : Nat), ((0 : Nat), ((0 : Int), (0 : Int))))))) v0 v1).bind fun r1 => (g65 n r1.1 r1.2.1).bind fun r2 => kr r2.1
noncomputable def g36_1F {β : Type} (n : Nat) (s : FState) (cx : Cx β) : Option β := FX (g36_G n) n (nav g36_B [0]) (.fin none none (some g36_m1e) [] .leaf) s { cx with nrm := fun s => FX (g36_G n) n (nav g36_B [1, 0]) (.fin none none (some g36_m1e) [] .leaf) s { cx with nrm := fun s => FX (g36_G n) n (nav g36_B [1, 1, 0]) (.fin none none (some g36_m1e) [] .leaf) s { cx with nrm := fun s => FX (g36_G n) n (nav g36_B [1, 1, 1]) (.fin none none (some g36_m1e) [] .leaf) s cx } } }
theorem g36_1_fx {β : Type} (n : Nat) (cx : Cx β) (v0 : ByteArray) (v1 : ByteArray) : g36_1F n (g36_m0 v0 v1) cx = g36_1 n (fun x4 => cx.ret (g36_m1 x4)) v0 v1 := by kernel_rfl
noncomputable def g36 (n : Nat) (v0 : ByteArray) (v1 : ByteArray) : Option (DenR [.ro (.pair (.int .i64) .str) 68]) := g36_1 n (fun x4 => some (x4, ())) v0 v1
noncomputable def g36_A : List AK := [.dat .str, .dat .str]
noncomputable def g36_R : List RK := [.ro (.pair (.int .i64) .str) 68]
noncomputable def g36_f (n : Nat) (d : DenA g36_A) : Option (DenR g36_R) := g36 n d.1 d.2.1
noncomputable def g36_S (n : Nat) : Spec := mkSpec g36_A g36_R (g36_f n)
noncomputable def g36_K : Sk := (.nd (.fin none none (some g36_m1e) [] .leaf) (.nd (.fin none none (some g36_m1e) [] .leaf) (.nd (.fin none none (some g36_m1e) [] .leaf) (.fin none none (some g36_m1e) [] .leaf))))
theorem g36_top {β : Type} (n : Nat) (s : FState) (cx : Cx β) : FX (g36_G n) n g36_B g36_K s cx = g36_1F n s cx := by kernel_rfl
theorem g36_fit (n : Nat) : Fit Tryd.prog 36 (g36_S n) :=
  fit_of (Γ := Γ0) (l := g36_C n) (n := n) (sk := g36_K) (ts := [(4, none)]) (fn := Tryd.f36) (c := g36_B) (by kernel_rfl) (by kernel_rfl) (by unfold Callable; kernel_rfl) tab_ok ⟨g64_fit n, g65_fit n, trivial⟩ follows_mixed (by kernel_rfl) (by kernel_rfl) (Nat.le_of_ble_eq_true (by kernel_rfl)) (by kernel_rfl) (by kernel_rfl)
    (fun d => (g36_top n _ _).trans (Eq.trans (b := g36_1F n (g36_m0 d.1 d.2.1) (finCx (g36_G n) g36_R [(4, none)])) (by kernel_rfl) ((g36_1_fx n _ d.1 d.2.1).trans (by kernel_rfl))))
noncomputable def g34_m0 (x0 : List (Int × ByteArray)) : FState := ⟨tlist [(0, .sl 0 none false)], olist [(0, .row (.pair (.int .i64) .str) 68 false x0)]⟩
noncomputable def g34_m1 (v2 : ByteArray) : FState := ⟨tlist [(2, .dat .str v2)], olist []⟩
noncomputable def g34_m1e : List NE := [.keep 2]
noncomputable def g34_m2 (v3 : ByteArray) (x6 : List (Int × ByteArray)) (v7 : Int) (v8 : Int) : FState := ⟨tlist [(3, .dat .str v3), (6, .sl 6 none false), (7, .dat (.int .i64) v7), (8, .dat (.int .i64) v8)], olist [(6, .row (.pair (.int .i64) .str) 68 false x6)]⟩
noncomputable def g34_m2e : List NE := [.keep 3, .row 6 (.pair (.int .i64) .str) 68 false, .keep 7, .keep 8]
noncomputable def g34_m3 (v3 : ByteArray) : FState := ⟨tlist [(3, .dat .str v3)], olist []⟩
noncomputable def g34_m3e : List NE := [.keep 3]
noncomputable def g34_C (n : Nat) : List (Nat × Spec) := []
noncomputable def g34_G (n : Nat) : Ctx := { Γ0 with calls := lkS (g34_C n) }
noncomputable def g34_B : Code := fb Tryd.f34
noncomputable def g34_1 {β : Type} (n : Nat) (kn : ByteArray → List (Int × ByteArray) → Int → Int → Option β) (x0 : List (Int × ByteArray)) : Option β := kn (⟨#[]⟩ : ByteArray) x0 (x0.length : Int) (0 : Int)
noncomputable def g34_1F {β : Type} (n : Nat) (s : FState) (cx : Cx β) : Option β := FX (g34_G n) n (nav g34_B [0]) (.fin none none none [] .leaf) s { cx with nrm := fun s => FX (g34_G n) n (nav g34_B [1, 0]) (.fin none none none [] .leaf) s { cx with nrm := fun s => FX (g34_G n) n (nav g34_B [1, 1, 0, 0]) (.fin none (some g34_m2e) none [] .leaf) s cx } }
theorem g34_1_fx {β : Type} (n : Nat) (cx : Cx β) (x0 : List (Int × ByteArray)) : g34_1F n (g34_m0 x0) cx = g34_1 n (fun v3 x6 v7 v8 => cx.nrm (g34_m2 v3 x6 v7 v8)) x0 := by kernel_rfl
noncomputable def g34_2 {β : Type} (n : Nat) (kn : ByteArray → List (Int × ByteArray) → Int → Int → Option β) (kx0 : ByteArray → Option β) (v3 : ByteArray) (x6 : List (Int × ByteArray)) (v7 : Int) (v8 : Int) : Option β := bif (decide (v8 < v7)) then (idx v8 (x6.length : Int) <| bif ((rd [(rd x6 v8 ((0 : Int), (⟨#[]⟩ : ByteArray)))] (0 : Int) ((0 : Int), (⟨#[]⟩ : ByteArray))).1 != (1 : Int)) then (roomy (v3.size + ((rd [(rd x6 v8 ((0 : Int), (⟨#[]⟩ : ByteArray)))] (0 : Int) ((0 : Int), (⟨#[]⟩ : ByteArray))).2).size) <| kn (v3 ++ (rd [(rd x6 v8 ((0 : Int), (⟨#[]⟩ : ByteArray)))] (0 : Int) ((0 : Int), (⟨#[]⟩ : ByteArray))).2) x6 v7 (w64 (v8 + (1 : Int)))) else (kn v3 x6 v7 (w64 (v8 + (1 : Int))))) else (kx0 v3)
noncomputable def g34_2F {β : Type} (n : Nat) (s : FState) (cx : Cx β) : Option β := FX (g34_G n) n (nav g34_B [1, 1, 0, 1, 0, 0, 0]) (.fin none none none [(0, g34_m3e)] .leaf) s { cx with nrm := fun s => FX (g34_G n) n (nav g34_B [1, 1, 0, 1, 0, 0, 1, 0]) (.fin none none none [(0, g34_m3e)] .leaf) s { cx with nrm := fun s => FX (g34_G n) n (nav g34_B [1, 1, 0, 1, 0, 0, 1, 1, 0]) (.fin none none none [(0, g34_m3e)] .leaf) s { cx with nrm := fun s => FX (g34_G n) n (nav g34_B [1, 1, 0, 1, 0, 0, 1, 1, 1]) (.fin none (some g34_m2e) none [(0, g34_m3e)] .leaf) s cx } } }
theorem g34_2_fx {β : Type} (n : Nat) (cx : Cx β) (v3 : ByteArray) (x6 : List (Int × ByteArray)) (v7 : Int) (v8 : Int) : g34_2F n (g34_m2 v3 x6 v7 v8) cx = g34_2 n (fun v3 x6 v7 v8 => cx.nrm (g34_m2 v3 x6 v7 v8)) (fun v3 => cx.ex 0 (g34_m3 v3)) v3 x6 v7 v8 := by kernel_rfl
noncomputable def g34_3L {β : Type} (n : Nat) (kx0 : ByteArray → Option β) : Nat → ByteArray → List (Int × ByteArray) → Int → Int → Option β
  | 0, _, _, _, _ => none
  | m + 1, v3, x6, v7, v8 => g34_2 n (g34_3L n kx0 m) kx0 v3 x6 v7 v8
noncomputable def g34_3 {β : Type} (n : Nat) (kx0 : ByteArray → Option β) (v3 : ByteArray) (x6 : List (Int × ByteArray)) (v7 : Int) (v8 : Int) : Option β := g34_3L n kx0 n v3 x6 v7 v8
noncomputable def g34_3F {β : Type} (n : Nat) (s : FState) (cx : Cx β) : Option β := loopN (fun again s => g34_2F n s { cx with nrm := again }) n s
theorem g34_3L_fx {β : Type} (n : Nat) (cx : Cx β) : ∀ (m : Nat) (v3 : ByteArray) (x6 : List (Int × ByteArray)) (v7 : Int) (v8 : Int), loopN (fun again s => g34_2F n s { cx with nrm := again }) m (g34_m2 v3 x6 v7 v8) = g34_3L n (fun v3 => cx.ex 0 (g34_m3 v3)) m v3 x6 v7 v8 := by
  intro m
  induction m with
  | zero => intros; rfl
  | succ m ih => intros; simp only [loopN, g34_3L, g34_2_fx, ih]
theorem g34_3_fx {β : Type} (n : Nat) (cx : Cx β) (v3 : ByteArray) (x6 : List (Int × ByteArray)) (v7 : Int) (v8 : Int) : g34_3F n (g34_m2 v3 x6 v7 v8) cx = g34_3 n (fun v3 => cx.ex 0 (g34_m3 v3)) v3 x6 v7 v8 := g34_3L_fx n cx n v3 x6 v7 v8
noncomputable def g34_4 {β : Type} (n : Nat) (kn : ByteArray → Option β) (v3 : ByteArray) (x6 : List (Int × ByteArray)) (v7 : Int) (v8 : Int) : Option β := g34_3 n kn v3 x6 v7 v8
noncomputable def g34_4F {β : Type} (n : Nat) (s : FState) (cx : Cx β) : Option β := g34_3F n s { cx with ex := fun j s => bif Nat.beq j 0 then cx.nrm s else cx.ex j s }
theorem g34_4_fx {β : Type} (n : Nat) (cx : Cx β) (v3 : ByteArray) (x6 : List (Int × ByteArray)) (v7 : Int) (v8 : Int) : g34_4F n (g34_m2 v3 x6 v7 v8) cx = g34_4 n (fun v3 => cx.nrm (g34_m3 v3)) v3 x6 v7 v8 := g34_3_fx n _ v3 x6 v7 v8
noncomputable def g34_5 {β : Type} (n : Nat) (kr : ByteArray → Option β) (v3 : ByteArray) : Option β := kr v3
noncomputable def g34_5F {β : Type} (n : Nat) (s : FState) (cx : Cx β) : Option β := FX (g34_G n) n (nav g34_B [1, 1, 1, 0]) (.fin none none (some g34_m1e) [] .leaf) s { cx with nrm := fun s => FX (g34_G n) n (nav g34_B [1, 1, 1, 1]) (.fin none none (some g34_m1e) [] .leaf) s cx }
theorem g34_5_fx {β : Type} (n : Nat) (cx : Cx β) (v3 : ByteArray) : g34_5F n (g34_m3 v3) cx = g34_5 n (fun v2 => cx.ret (g34_m1 v2)) v3 := by kernel_rfl
noncomputable def g34_6 {β : Type} (n : Nat) (kr : ByteArray → Option β) (x0 : List (Int × ByteArray)) : Option β := g34_1 n (fun v3 x6 v7 v8 => g34_4 n (fun v3 => g34_5 n kr v3) v3 x6 v7 v8) x0
noncomputable def g34_6F {β : Type} (n : Nat) (s : FState) (cx : Cx β) : Option β := g34_1F n s { cx with nrm := fun s => g34_4F n s { cx with nrm := fun s => g34_5F n s cx } }
theorem g34_6_fx {β : Type} (n : Nat) (cx : Cx β) (x0 : List (Int × ByteArray)) : g34_6F n (g34_m0 x0) cx = g34_6 n (fun v2 => cx.ret (g34_m1 v2)) x0 := by simp only [g34_6F, g34_6, g34_1_fx, g34_4_fx, g34_5_fx]
noncomputable def g34 (n : Nat) (x0 : List (Int × ByteArray)) : Option (DenR [.dat .str]) := g34_6 n (fun v2 => some (v2, ())) x0
noncomputable def g34_A : List AK := [.ro (.pair (.int .i64) .str) 68]
noncomputable def g34_R : List RK := [.dat .str]
noncomputable def g34_f (n : Nat) (d : DenA g34_A) : Option (DenR g34_R) := g34 n d.1
noncomputable def g34_S (n : Nat) : Spec := mkSpec g34_A g34_R (g34_f n)
noncomputable def g34_K : Sk := (.nd (.fin none none none [] .leaf) (.nd (.fin none none none [] .leaf) (.nd (.nd (.fin none (some g34_m2e) none [] .leaf) (.nd (.nd (.nd (.fin none none none [(0, g34_m3e)] .leaf) (.nd (.fin none none none [(0, g34_m3e)] .leaf) (.nd (.fin none none none [(0, g34_m3e)] .leaf) (.fin none (some g34_m2e) none [(0, g34_m3e)] .leaf)))) .leaf) .leaf)) (.nd (.fin none none (some g34_m1e) [] .leaf) (.fin none none (some g34_m1e) [] .leaf)))))
theorem g34_top {β : Type} (n : Nat) (s : FState) (cx : Cx β) : FX (g34_G n) n g34_B g34_K s cx = g34_6F n s cx := by kernel_rfl
theorem g34_fit (n : Nat) : Fit Tryd.prog 34 (g34_S n) :=
  fit_of (Γ := Γ0) (l := g34_C n) (n := n) (sk := g34_K) (ts := [(2, none)]) (fn := Tryd.f34) (c := g34_B) (by kernel_rfl) (by kernel_rfl) (by unfold Callable; kernel_rfl) tab_ok trivial follows_mixed (by kernel_rfl) (by kernel_rfl) (Nat.le_of_ble_eq_true (by kernel_rfl)) (by kernel_rfl) (by kernel_rfl)
    (fun d => (g34_top n _ _).trans (Eq.trans (b := g34_6F n (g34_m0 d.1) (finCx (g34_G n) g34_R [(2, none)])) (by kernel_rfl) ((g34_6_fx n _ d.1).trans (by kernel_rfl))))
noncomputable def g35_m0 (x0 : List (Int × ByteArray)) : FState := ⟨tlist [(0, .sl 0 none false)], olist [(0, .row (.pair (.int .i64) .str) 68 false x0)]⟩
noncomputable def g35_m1 (v2 : ByteArray) : FState := ⟨tlist [(2, .dat .str v2)], olist []⟩
noncomputable def g35_m1e : List NE := [.keep 2]
noncomputable def g35_m2 (v3 : ByteArray) (x6 : List (Int × ByteArray)) (v7 : Int) (v8 : Int) : FState := ⟨tlist [(3, .dat .str v3), (6, .sl 6 none false), (7, .dat (.int .i64) v7), (8, .dat (.int .i64) v8)], olist [(6, .row (.pair (.int .i64) .str) 68 false x6)]⟩
noncomputable def g35_m2e : List NE := [.keep 3, .row 6 (.pair (.int .i64) .str) 68 false, .keep 7, .keep 8]
noncomputable def g35_m3 (v3 : ByteArray) : FState := ⟨tlist [(3, .dat .str v3)], olist []⟩
noncomputable def g35_m3e : List NE := [.keep 3]
noncomputable def g35_C (n : Nat) : List (Nat × Spec) := []
noncomputable def g35_G (n : Nat) : Ctx := { Γ0 with calls := lkS (g35_C n) }
noncomputable def g35_B : Code := fb Tryd.f35
noncomputable def g35_1 {β : Type} (n : Nat) (kn : ByteArray → List (Int × ByteArray) → Int → Int → Option β) (x0 : List (Int × ByteArray)) : Option β := kn (⟨#[]⟩ : ByteArray) x0 (x0.length : Int) (0 : Int)
noncomputable def g35_1F {β : Type} (n : Nat) (s : FState) (cx : Cx β) : Option β := FX (g35_G n) n (nav g35_B [0]) (.fin none none none [] .leaf) s { cx with nrm := fun s => FX (g35_G n) n (nav g35_B [1, 0]) (.fin none none none [] .leaf) s { cx with nrm := fun s => FX (g35_G n) n (nav g35_B [1, 1, 0, 0]) (.fin none (some g35_m2e) none [] .leaf) s cx } }
theorem g35_1_fx {β : Type} (n : Nat) (cx : Cx β) (x0 : List (Int × ByteArray)) : g35_1F n (g35_m0 x0) cx = g35_1 n (fun v3 x6 v7 v8 => cx.nrm (g35_m2 v3 x6 v7 v8)) x0 := by kernel_rfl
noncomputable def g35_2 {β : Type} (n : Nat) (kn : ByteArray → List (Int × ByteArray) → Int → Int → Option β) (kx0 : ByteArray → Option β) (v3 : ByteArray) (x6 : List (Int × ByteArray)) (v7 : Int) (v8 : Int) : Option β := bif (decide (v8 < v7)) then (idx v8 (x6.length : Int) <| bif ((rd [(rd x6 v8 ((0 : Int), (⟨#[]⟩ : ByteArray)))] (0 : Int) ((0 : Int), (⟨#[]⟩ : ByteArray))).1 != (-1 : Int)) then (roomy (v3.size + ((rd [(rd x6 v8 ((0 : Int), (⟨#[]⟩ : ByteArray)))] (0 : Int) ((0 : Int), (⟨#[]⟩ : ByteArray))).2).size) <| kn (v3 ++ (rd [(rd x6 v8 ((0 : Int), (⟨#[]⟩ : ByteArray)))] (0 : Int) ((0 : Int), (⟨#[]⟩ : ByteArray))).2) x6 v7 (w64 (v8 + (1 : Int)))) else (kn v3 x6 v7 (w64 (v8 + (1 : Int))))) else (kx0 v3)
noncomputable def g35_2F {β : Type} (n : Nat) (s : FState) (cx : Cx β) : Option β := FX (g35_G n) n (nav g35_B [1, 1, 0, 1, 0, 0, 0]) (.fin none none none [(0, g35_m3e)] .leaf) s { cx with nrm := fun s => FX (g35_G n) n (nav g35_B [1, 1, 0, 1, 0, 0, 1, 0]) (.fin none none none [(0, g35_m3e)] .leaf) s { cx with nrm := fun s => FX (g35_G n) n (nav g35_B [1, 1, 0, 1, 0, 0, 1, 1, 0]) (.fin none none none [(0, g35_m3e)] .leaf) s { cx with nrm := fun s => FX (g35_G n) n (nav g35_B [1, 1, 0, 1, 0, 0, 1, 1, 1]) (.fin none (some g35_m2e) none [(0, g35_m3e)] .leaf) s cx } } }
theorem g35_2_fx {β : Type} (n : Nat) (cx : Cx β) (v3 : ByteArray) (x6 : List (Int × ByteArray)) (v7 : Int) (v8 : Int) : g35_2F n (g35_m2 v3 x6 v7 v8) cx = g35_2 n (fun v3 x6 v7 v8 => cx.nrm (g35_m2 v3 x6 v7 v8)) (fun v3 => cx.ex 0 (g35_m3 v3)) v3 x6 v7 v8 := by kernel_rfl
noncomputable def g35_3L {β : Type} (n : Nat) (kx0 : ByteArray → Option β) : Nat → ByteArray → List (Int × ByteArray) → Int → Int → Option β
  | 0, _, _, _, _ => none
  | m + 1, v3, x6, v7, v8 => g35_2 n (g35_3L n kx0 m) kx0 v3 x6 v7 v8
noncomputable def g35_3 {β : Type} (n : Nat) (kx0 : ByteArray → Option β) (v3 : ByteArray) (x6 : List (Int × ByteArray)) (v7 : Int) (v8 : Int) : Option β := g35_3L n kx0 n v3 x6 v7 v8
noncomputable def g35_3F {β : Type} (n : Nat) (s : FState) (cx : Cx β) : Option β := loopN (fun again s => g35_2F n s { cx with nrm := again }) n s
theorem g35_3L_fx {β : Type} (n : Nat) (cx : Cx β) : ∀ (m : Nat) (v3 : ByteArray) (x6 : List (Int × ByteArray)) (v7 : Int) (v8 : Int), loopN (fun again s => g35_2F n s { cx with nrm := again }) m (g35_m2 v3 x6 v7 v8) = g35_3L n (fun v3 => cx.ex 0 (g35_m3 v3)) m v3 x6 v7 v8 := by
  intro m
  induction m with
  | zero => intros; rfl
  | succ m ih => intros; simp only [loopN, g35_3L, g35_2_fx, ih]
theorem g35_3_fx {β : Type} (n : Nat) (cx : Cx β) (v3 : ByteArray) (x6 : List (Int × ByteArray)) (v7 : Int) (v8 : Int) : g35_3F n (g35_m2 v3 x6 v7 v8) cx = g35_3 n (fun v3 => cx.ex 0 (g35_m3 v3)) v3 x6 v7 v8 := g35_3L_fx n cx n v3 x6 v7 v8
noncomputable def g35_4 {β : Type} (n : Nat) (kn : ByteArray → Option β) (v3 : ByteArray) (x6 : List (Int × ByteArray)) (v7 : Int) (v8 : Int) : Option β := g35_3 n kn v3 x6 v7 v8
noncomputable def g35_4F {β : Type} (n : Nat) (s : FState) (cx : Cx β) : Option β := g35_3F n s { cx with ex := fun j s => bif Nat.beq j 0 then cx.nrm s else cx.ex j s }
theorem g35_4_fx {β : Type} (n : Nat) (cx : Cx β) (v3 : ByteArray) (x6 : List (Int × ByteArray)) (v7 : Int) (v8 : Int) : g35_4F n (g35_m2 v3 x6 v7 v8) cx = g35_4 n (fun v3 => cx.nrm (g35_m3 v3)) v3 x6 v7 v8 := g35_3_fx n _ v3 x6 v7 v8
noncomputable def g35_5 {β : Type} (n : Nat) (kr : ByteArray → Option β) (v3 : ByteArray) : Option β := kr v3
noncomputable def g35_5F {β : Type} (n : Nat) (s : FState) (cx : Cx β) : Option β := FX (g35_G n) n (nav g35_B [1, 1, 1, 0]) (.fin none none (some g35_m1e) [] .leaf) s { cx with nrm := fun s => FX (g35_G n) n (nav g35_B [1, 1, 1, 1]) (.fin none none (some g35_m1e) [] .leaf) s cx }
theorem g35_5_fx {β : Type} (n : Nat) (cx : Cx β) (v3 : ByteArray) : g35_5F n (g35_m3 v3) cx = g35_5 n (fun v2 => cx.ret (g35_m1 v2)) v3 := by kernel_rfl
noncomputable def g35_6 {β : Type} (n : Nat) (kr : ByteArray → Option β) (x0 : List (Int × ByteArray)) : Option β := g35_1 n (fun v3 x6 v7 v8 => g35_4 n (fun v3 => g35_5 n kr v3) v3 x6 v7 v8) x0
noncomputable def g35_6F {β : Type} (n : Nat) (s : FState) (cx : Cx β) : Option β := g35_1F n s { cx with nrm := fun s => g35_4F n s { cx with nrm := fun s => g35_5F n s cx } }
theorem g35_6_fx {β : Type} (n : Nat) (cx : Cx β) (x0 : List (Int × ByteArray)) : g35_6F n (g35_m0 x0) cx = g35_6 n (fun v2 => cx.ret (g35_m1 v2)) x0 := by simp only [g35_6F, g35_6, g35_1_fx, g35_4_fx, g35_5_fx]
noncomputable def g35 (n : Nat) (x0 : List (Int × ByteArray)) : Option (DenR [.dat .str]) := g35_6 n (fun v2 => some (v2, ())) x0
noncomputable def g35_A : List AK := [.ro (.pair (.int .i64) .str) 68]
noncomputable def g35_R : List RK := [.dat .str]
noncomputable def g35_f (n : Nat) (d : DenA g35_A) : Option (DenR g35_R) := g35 n d.1
noncomputable def g35_S (n : Nat) : Spec := mkSpec g35_A g35_R (g35_f n)
noncomputable def g35_K : Sk := (.nd (.fin none none none [] .leaf) (.nd (.fin none none none [] .leaf) (.nd (.nd (.fin none (some g35_m2e) none [] .leaf) (.nd (.nd (.nd (.fin none none none [(0, g35_m3e)] .leaf) (.nd (.fin none none none [(0, g35_m3e)] .leaf) (.nd (.fin none none none [(0, g35_m3e)] .leaf) (.fin none (some g35_m2e) none [(0, g35_m3e)] .leaf)))) .leaf) .leaf)) (.nd (.fin none none (some g35_m1e) [] .leaf) (.fin none none (some g35_m1e) [] .leaf)))))
theorem g35_top {β : Type} (n : Nat) (s : FState) (cx : Cx β) : FX (g35_G n) n g35_B g35_K s cx = g35_6F n s cx := by kernel_rfl
theorem g35_fit (n : Nat) : Fit Tryd.prog 35 (g35_S n) :=
  fit_of (Γ := Γ0) (l := g35_C n) (n := n) (sk := g35_K) (ts := [(2, none)]) (fn := Tryd.f35) (c := g35_B) (by kernel_rfl) (by kernel_rfl) (by unfold Callable; kernel_rfl) tab_ok trivial follows_mixed (by kernel_rfl) (by kernel_rfl) (Nat.le_of_ble_eq_true (by kernel_rfl)) (by kernel_rfl) (by kernel_rfl)
    (fun d => (g35_top n _ _).trans (Eq.trans (b := g35_6F n (g35_m0 d.1) (finCx (g35_G n) g35_R [(2, none)])) (by kernel_rfl) ((g35_6_fx n _ d.1).trans (by kernel_rfl))))
noncomputable def g37_m0 (x0 : List (Int × ByteArray)) : FState := ⟨tlist [(0, .sl 0 none false)], olist [(0, .row (.pair (.int .i64) .str) 68 false x0)]⟩
noncomputable def g37_m1 (v2 : Int) : FState := ⟨tlist [(2, .dat (.int .i64) v2)], olist []⟩
noncomputable def g37_m1e : List NE := [.keep 2]
noncomputable def g37_m2 (v3 : Int) (x6 : List (Int × ByteArray)) (v7 : Int) (v8 : Int) : FState := ⟨tlist [(3, .dat (.int .i64) v3), (6, .sl 6 none false), (7, .dat (.int .i64) v7), (8, .dat (.int .i64) v8)], olist [(6, .row (.pair (.int .i64) .str) 68 false x6)]⟩
noncomputable def g37_m2e : List NE := [.keep 3, .row 6 (.pair (.int .i64) .str) 68 false, .keep 7, .keep 8]
noncomputable def g37_m3 (v3 : Int) : FState := ⟨tlist [(3, .dat (.int .i64) v3)], olist []⟩
noncomputable def g37_m3e : List NE := [.keep 3]
noncomputable def g37_C (n : Nat) : List (Nat × Spec) := [(15, g15_S n)]
noncomputable def g37_G (n : Nat) : Ctx := { Γ0 with calls := lkS (g37_C n) }
noncomputable def g37_B : Code := fb Tryd.f37
noncomputable def g37_1 {β : Type} (n : Nat) (kn : Int → List (Int × ByteArray) → Int → Int → Option β) (x0 : List (Int × ByteArray)) : Option β := kn (0 : Int) x0 (x0.length : Int) (0 : Int)
noncomputable def g37_1F {β : Type} (n : Nat) (s : FState) (cx : Cx β) : Option β := FX (g37_G n) n (nav g37_B [0]) (.fin none none none [] .leaf) s { cx with nrm := fun s => FX (g37_G n) n (nav g37_B [1, 0]) (.fin none none none [] .leaf) s { cx with nrm := fun s => FX (g37_G n) n (nav g37_B [1, 1, 0, 0]) (.fin none (some g37_m2e) none [] .leaf) s cx } }
theorem g37_1_fx {β : Type} (n : Nat) (cx : Cx β) (x0 : List (Int × ByteArray)) : g37_1F n (g37_m0 x0) cx = g37_1 n (fun v3 x6 v7 v8 => cx.nrm (g37_m2 v3 x6 v7 v8)) x0 := by kernel_rfl
noncomputable def g37_2 {β : Type} (n : Nat) (kn : Int → List (Int × ByteArray) → Int → Int → Option β) (kx0 : Int → Option β) (v3 : Int) (x6 : List (Int × ByteArray)) (v7 : Int) (v8 : Int) : Option β := bif (decide (v8 < v7)) then (idx v8 (x6.length : Int) <| bif ((rd [(rd x6 v8 ((0 : Int), (⟨#[]⟩ : ByteArray)))] (0 : Int) ((0 : Int), (⟨#[]⟩ : ByteArray))).1 != (0 : Int)) then ((g15 n ((rd [(rd x6 v8 ((0 : Int), (⟨#[]⟩ : ByteArray)))] (0 : Int) ((0 : Int), (⟨#[]⟩ : ByteArray))).2)).bind fun r1 => kn (w64 (v3 + (r1.1.length : Int))) x6 v7 (w64 (v8 + (1 : Int)))) else (kn v3 x6 v7 (w64 (v8 + (1 : Int))))) else (kx0 v3)
noncomputable def g37_2F {β : Type} (n : Nat) (s : FState) (cx : Cx β) : Option β := FX (g37_G n) n (nav g37_B [1, 1, 0, 1, 0, 0, 0]) (.fin none none none [(0, g37_m3e)] .leaf) s { cx with nrm := fun s => FX (g37_G n) n (nav g37_B [1, 1, 0, 1, 0, 0, 1, 0]) (.fin none none none [(0, g37_m3e)] .leaf) s { cx with nrm := fun s => FX (g37_G n) n (nav g37_B [1, 1, 0, 1, 0, 0, 1, 1, 0]) (.fin none none none [(0, g37_m3e)] .leaf) s { cx with nrm := fun s => FX (g37_G n) n (nav g37_B [1, 1, 0, 1, 0, 0, 1, 1, 1]) (.fin none (some g37_m2e) none [(0, g37_m3e)] .leaf) s cx } } }
theorem g37_2_fx {β : Type} (n : Nat) (cx : Cx β) (v3 : Int) (x6 : List (Int × ByteArray)) (v7 : Int) (v8 : Int) : g37_2F n (g37_m2 v3 x6 v7 v8) cx = g37_2 n (fun v3 x6 v7 v8 => cx.nrm (g37_m2 v3 x6 v7 v8)) (fun v3 => cx.ex 0 (g37_m3 v3)) v3 x6 v7 v8 := by kernel_rfl
noncomputable def g37_3L {β : Type} (n : Nat) (kx0 : Int → Option β) : Nat → Int → List (Int × ByteArray) → Int → Int → Option β
  | 0, _, _, _, _ => none
  | m + 1, v3, x6, v7, v8 => g37_2 n (g37_3L n kx0 m) kx0 v3 x6 v7 v8
noncomputable def g37_3 {β : Type} (n : Nat) (kx0 : Int → Option β) (v3 : Int) (x6 : List (Int × ByteArray)) (v7 : Int) (v8 : Int) : Option β := g37_3L n kx0 n v3 x6 v7 v8
noncomputable def g37_3F {β : Type} (n : Nat) (s : FState) (cx : Cx β) : Option β := loopN (fun again s => g37_2F n s { cx with nrm := again }) n s
theorem g37_3L_fx {β : Type} (n : Nat) (cx : Cx β) : ∀ (m : Nat) (v3 : Int) (x6 : List (Int × ByteArray)) (v7 : Int) (v8 : Int), loopN (fun again s => g37_2F n s { cx with nrm := again }) m (g37_m2 v3 x6 v7 v8) = g37_3L n (fun v3 => cx.ex 0 (g37_m3 v3)) m v3 x6 v7 v8 := by
  intro m
  induction m with
  | zero => intros; rfl
  | succ m ih => intros; simp only [loopN, g37_3L, g37_2_fx, ih]
theorem g37_3_fx {β : Type} (n : Nat) (cx : Cx β) (v3 : Int) (x6 : List (Int × ByteArray)) (v7 : Int) (v8 : Int) : g37_3F n (g37_m2 v3 x6 v7 v8) cx = g37_3 n (fun v3 => cx.ex 0 (g37_m3 v3)) v3 x6 v7 v8 := g37_3L_fx n cx n v3 x6 v7 v8
noncomputable def g37_4 {β : Type} (n : Nat) (kn : Int → Option β) (v3 : Int) (x6 : List (Int × ByteArray)) (v7 : Int) (v8 : Int) : Option β := g37_3 n kn v3 x6 v7 v8
noncomputable def g37_4F {β : Type} (n : Nat) (s : FState) (cx : Cx β) : Option β := g37_3F n s { cx with ex := fun j s => bif Nat.beq j 0 then cx.nrm s else cx.ex j s }
theorem g37_4_fx {β : Type} (n : Nat) (cx : Cx β) (v3 : Int) (x6 : List (Int × ByteArray)) (v7 : Int) (v8 : Int) : g37_4F n (g37_m2 v3 x6 v7 v8) cx = g37_4 n (fun v3 => cx.nrm (g37_m3 v3)) v3 x6 v7 v8 := g37_3_fx n _ v3 x6 v7 v8
noncomputable def g37_5 {β : Type} (n : Nat) (kr : Int → Option β) (v3 : Int) : Option β := kr v3
noncomputable def g37_5F {β : Type} (n : Nat) (s : FState) (cx : Cx β) : Option β := FX (g37_G n) n (nav g37_B [1, 1, 1, 0]) (.fin none none (some g37_m1e) [] .leaf) s { cx with nrm := fun s => FX (g37_G n) n (nav g37_B [1, 1, 1, 1]) (.fin none none (some g37_m1e) [] .leaf) s cx }
theorem g37_5_fx {β : Type} (n : Nat) (cx : Cx β) (v3 : Int) : g37_5F n (g37_m3 v3) cx = g37_5 n (fun v2 => cx.ret (g37_m1 v2)) v3 := by kernel_rfl
noncomputable def g37_6 {β : Type} (n : Nat) (kr : Int → Option β) (x0 : List (Int × ByteArray)) : Option β := g37_1 n (fun v3 x6 v7 v8 => g37_4 n (fun v3 => g37_5 n kr v3) v3 x6 v7 v8) x0
noncomputable def g37_6F {β : Type} (n : Nat) (s : FState) (cx : Cx β) : Option β := g37_1F n s { cx with nrm := fun s => g37_4F n s { cx with nrm := fun s => g37_5F n s cx } }
theorem g37_6_fx {β : Type} (n : Nat) (cx : Cx β) (x0 : List (Int × ByteArray)) : g37_6F n (g37_m0 x0) cx = g37_6 n (fun v2 => cx.ret (g37_m1 v2)) x0 := by simp only [g37_6F, g37_6, g37_1_fx, g37_4_fx, g37_5_fx]
noncomputable def g37 (n : Nat) (x0 : List (Int × ByteArray)) : Option (DenR [.dat (.int .i64)]) := g37_6 n (fun v2 => some (v2, ())) x0
noncomputable def g37_A : List AK := [.ro (.pair (.int .i64) .str) 68]
noncomputable def g37_R : List RK := [.dat (.int .i64)]
noncomputable def g37_f (n : Nat) (d : DenA g37_A) : Option (DenR g37_R) := g37 n d.1
noncomputable def g37_S (n : Nat) : Spec := mkSpec g37_A g37_R (g37_f n)
noncomputable def g37_K : Sk := (.nd (.fin none none none [] .leaf) (.nd (.fin none none none [] .leaf) (.nd (.nd (.fin none (some g37_m2e) none [] .leaf) (.nd (.nd (.nd (.fin none none none [(0, g37_m3e)] .leaf) (.nd (.fin none none none [(0, g37_m3e)] .leaf) (.nd (.fin none none none [(0, g37_m3e)] .leaf) (.fin none (some g37_m2e) none [(0, g37_m3e)] .leaf)))) .leaf) .leaf)) (.nd (.fin none none (some g37_m1e) [] .leaf) (.fin none none (some g37_m1e) [] .leaf)))))
theorem g37_top {β : Type} (n : Nat) (s : FState) (cx : Cx β) : FX (g37_G n) n g37_B g37_K s cx = g37_6F n s cx := by kernel_rfl
theorem g37_fit (n : Nat) : Fit Tryd.prog 37 (g37_S n) :=
  fit_of (Γ := Γ0) (l := g37_C n) (n := n) (sk := g37_K) (ts := [(2, none)]) (fn := Tryd.f37) (c := g37_B) (by kernel_rfl) (by kernel_rfl) (by unfold Callable; kernel_rfl) tab_ok ⟨g15_fit n, trivial⟩ follows_mixed (by kernel_rfl) (by kernel_rfl) (Nat.le_of_ble_eq_true (by kernel_rfl)) (by kernel_rfl) (by kernel_rfl)
    (fun d => (g37_top n _ _).trans (Eq.trans (b := g37_6F n (g37_m0 d.1) (finCx (g37_G n) g37_R [(2, none)])) (by kernel_rfl) ((g37_6_fx n _ d.1).trans (by kernel_rfl))))
noncomputable def g66_m0 (x0 : List Int) (x1 : List Int) : FState := ⟨tlist [(0, .sl 0 none false), (1, .sl 1 none false)], olist [(0, .row (.int .i32) 21 false x0), (1, .row (.int .i32) 21 false x1)]⟩
noncomputable def g66_m1 (v4 : Int) : FState := ⟨tlist [(4, .dat (.int .i64) v4)], olist []⟩
noncomputable def g66_m1e : List NE := [.keep 4]
noncomputable def g66_m2 (x0 : List Int) (x1 : List Int) (x5 : List Int) (v15 : Int) (v16 : Int) : FState := ⟨tlist [(0, .sl 0 none false), (1, .sl 1 none false), (5, .sl 5 none false), (15, .dat (.int .i64) v15), (16, .dat (.int .i64) v16)], olist [(0, .row (.int .i32) 21 false x0), (1, .row (.int .i32) 21 false x1), (5, .row (.int .i64) 3 true x5)]⟩
noncomputable def g66_m2e : List NE := [.row 0 (.int .i32) 21 false, .row 1 (.int .i32) 21 false, .row 5 (.int .i64) 3 true, .keep 15, .keep 16]
noncomputable def g66_m3 (x1 : List Int) (x5 : List Int) : FState := ⟨tlist [(1, .sl 1 none false), (5, .sl 5 none false)], olist [(1, .row (.int .i32) 21 false x1), (5, .row (.int .i64) 3 true x5)]⟩
noncomputable def g66_m3e : List NE := [.row 1 (.int .i32) 21 false, .row 5 (.int .i64) 3 true]
noncomputable def g66_m4 (x0 : List Int) (x1 : List Int) (x5 : List Int) (v15 : Int) (v16 : Int) : FState := ⟨tlist [(0, .sl 0 none false), (1, .sl 1 none false), (5, .sl 5 none false), (15, .dat (.int .i64) v15), (16, .dat (.int .i64) v16)], olist [(0, .row (.int .i32) 21 false x0), (1, .row (.int .i32) 21 false x1), (5, .row (.int .i64) 3 true x5)]⟩
noncomputable def g66_m4e : List NE := [.row 0 (.int .i32) 21 false, .row 1 (.int .i32) 21 false, .row 5 (.int .i64) 3 true, .keep 15, .keep 16]
noncomputable def g66_m5 (x0 : List Int) (x1 : List Int) (x5 : List Int) (v15 : Int) (v16 : Int) : FState := ⟨tlist [(0, .sl 0 none false), (1, .sl 1 none false), (5, .sl 5 none false), (15, .dat (.int .i64) v15), (16, .dat (.int .i64) v16)], olist [(0, .row (.int .i32) 21 false x0), (1, .row (.int .i32) 21 false x1), (5, .row (.int .i64) 3 true x5)]⟩
noncomputable def g66_m5e : List NE := [.row 0 (.int .i32) 21 false, .row 1 (.int .i32) 21 false, .row 5 (.int .i64) 3 true, .keep 15, .keep 16]
noncomputable def g66_m6 (x0 : List Int) (x1 : List Int) (x5 : List Int) (v6 : Int) (v7 : Int) (v15 : Int) (v16 : Int) (v20 : Int) (v21 : Int) : FState := ⟨tlist [(0, .sl 0 none false), (1, .sl 1 none false), (5, .sl 5 none false), (6, .dat (.int .i64) v6), (7, .dat (.int .i64) v7), (15, .dat (.int .i64) v15), (16, .dat (.int .i64) v16), (20, .dat (.int .i64) v20), (21, .dat (.int .i64) v21)], olist [(0, .row (.int .i32) 21 false x0), (1, .row (.int .i32) 21 false x1), (5, .row (.int .i64) 3 true x5)]⟩
noncomputable def g66_m6e : List NE := [.row 0 (.int .i32) 21 false, .row 1 (.int .i32) 21 false, .row 5 (.int .i64) 3 true, .keep 6, .keep 7, .keep 15, .keep 16, .keep 20, .keep 21]
noncomputable def g66_C (n : Nat) : List (Nat × Spec) := []
noncomputable def g66_G (n : Nat) : Ctx := { Γ0 with calls := lkS (g66_C n) }
noncomputable def g66_B : Code := fb Tryd.f66
noncomputable def g66_1 {β : Type} (n : Nat) (kn : List Int → List Int → List Int → Int → Int → Option β) (x0 : List Int) (x1 : List Int) : Option β := bnd 0 (w64 ((x1.length : Int) + (1 : Int))) (w64 ((x1.length : Int) + (1 : Int))) <| roomI (w64 ((x1.length : Int) + (1 : Int))) <| kn x0 x1 (List.replicate (w64 ((x1.length : Int) + (1 : Int))).toNat (0 : Int)) (x0.length : Int) (0 : Int)
noncomputable def g66_1F {β : Type} (n : Nat) (s : FState) (cx : Cx β) : Option β := FX (g66_G n) n (nav g66_B [0]) (.fin none none none [] .leaf) s { cx with nrm := fun s => FX (g66_G n) n (nav g66_B [1, 0]) (.fin none none none [] .leaf) s { cx with nrm := fun s => FX (g66_G n) n (nav g66_B [1, 1, 0, 0]) (.fin none (some g66_m2e) none [] .leaf) s cx } }
theorem g66_1_fx {β : Type} (n : Nat) (cx : Cx β) (x0 : List Int) (x1 : List Int) : g66_1F n (g66_m0 x0 x1) cx = g66_1 n (fun x0 x1 x5 v15 v16 => cx.nrm (g66_m2 x0 x1 x5 v15 v16)) x0 x1 := by kernel_rfl
noncomputable def g66_2 {β : Type} (n : Nat) (kn : List Int → List Int → List Int → Int → Int → Option β) (kx0 : List Int → List Int → Option β) (x0 : List Int) (x1 : List Int) (x5 : List Int) (v15 : Int) (v16 : Int) : Option β := bif (decide (v16 < v15)) then (kn x0 x1 x5 v15 v16) else (kx0 x1 x5)
noncomputable def g66_2F {β : Type} (n : Nat) (s : FState) (cx : Cx β) : Option β := FX (g66_G n) n (nav g66_B [1, 1, 0, 1, 0, 0, 0]) (.fin none none none [(0, g66_m3e)] .leaf) s { cx with nrm := fun s => FX (g66_G n) n (nav g66_B [1, 1, 0, 1, 0, 0, 1, 0]) (.fin none (some g66_m4e) none [(0, g66_m3e)] .leaf) s cx }
theorem g66_2_fx {β : Type} (n : Nat) (cx : Cx β) (x0 : List Int) (x1 : List Int) (x5 : List Int) (v15 : Int) (v16 : Int) : g66_2F n (g66_m2 x0 x1 x5 v15 v16) cx = g66_2 n (fun x0 x1 x5 v15 v16 => cx.nrm (g66_m4 x0 x1 x5 v15 v16)) (fun x1 x5 => cx.ex 0 (g66_m3 x1 x5)) x0 x1 x5 v15 v16 := by kernel_rfl
noncomputable def g66_3 {β : Type} (n : Nat) (kn : List Int → List Int → List Int → Int → Int → Int → Int → Int → Int → Option β) (x0 : List Int) (x1 : List Int) (x5 : List Int) (v15 : Int) (v16 : Int) : Option β := kn x0 x1 x5 v16 (0 : Int) v15 v16 (x1.length : Int) (0 : Int)
noncomputable def g66_3F {β : Type} (n : Nat) (s : FState) (cx : Cx β) : Option β := FX (g66_G n) n (nav g66_B [1, 1, 0, 1, 0, 0, 1, 1, 0, 0, 0]) (.fin none none none [] .leaf) s { cx with nrm := fun s => FX (g66_G n) n (nav g66_B [1, 1, 0, 1, 0, 0, 1, 1, 0, 0, 1, 0]) (.fin none none none [] .leaf) s { cx with nrm := fun s => FX (g66_G n) n (nav g66_B [1, 1, 0, 1, 0, 0, 1, 1, 0, 0, 1, 1, 0]) (.fin none (some g66_m6e) none [] .leaf) s cx } }
theorem g66_3_fx {β : Type} (n : Nat) (cx : Cx β) (x0 : List Int) (x1 : List Int) (x5 : List Int) (v15 : Int) (v16 : Int) : g66_3F n (g66_m4 x0 x1 x5 v15 v16) cx = g66_3 n (fun x0 x1 x5 v6 v7 v15 v16 v20 v21 => cx.nrm (g66_m6 x0 x1 x5 v6 v7 v15 v16 v20 v21)) x0 x1 x5 v15 v16 := by kernel_rfl
noncomputable def g66_4 {β : Type} (n : Nat) (kn : List Int → List Int → List Int → Int → Int → Int → Int → Int → Int → Option β) (kx2 : List Int → List Int → List Int → Int → Int → Option β) (x0 : List Int) (x1 : List Int) (x5 : List Int) (v6 : Int) (v7 : Int) (v15 : Int) (v16 : Int) (v20 : Int) (v21 : Int) : Option β := bif (decide (v21 < v20)) then (idx (w64 (v21 + (1 : Int))) (x5.length : Int) <| idx v6 (x0.length : Int) <| idx v21 (x1.length : Int) <| bif ((rd x0 v6 (0 : Int)) == (rd x1 v21 (0 : Int))) then (idx (w64 (v21 + (1 : Int))) (x5.length : Int) <| kn x0 x1 (x5.set (w64 (v21 + (1 : Int))).toNat (w64 (v7 + (1 : Int)))) v6 (rd x5 (w64 (v21 + (1 : Int))) (0 : Int)) v15 v16 v20 (w64 (v21 + (1 : Int)))) else (idx v21 (x5.length : Int) <| bif (decide ((rd x5 v21 (0 : Int)) > (rd x5 (w64 (v21 + (1 : Int))) (0 : Int)))) then (idx v21 (x5.length : Int) <| idx (w64 (v21 + (1 : Int))) (x5.length : Int) <| kn x0 x1 (x5.set (w64 (v21 + (1 : Int))).toNat (rd x5 v21 (0 : Int))) v6 (rd x5 (w64 (v21 + (1 : Int))) (0 : Int)) v15 v16 v20 (w64 (v21 + (1 : Int)))) else (kn x0 x1 x5 v6 (rd x5 (w64 (v21 + (1 : Int))) (0 : Int)) v15 v16 v20 (w64 (v21 + (1 : Int)))))) else (kx2 x0 x1 x5 v15 v16)
noncomputable def g66_4F {β : Type} (n : Nat) (s : FState) (cx : Cx β) : Option β := FX (g66_G n) n (nav g66_B [1, 1, 0, 1, 0, 0, 1, 1, 0, 0, 1, 1, 1, 0, 0, 0]) (.fin none none none [(2, g66_m5e)] .leaf) s { cx with nrm := fun s => FX (g66_G n) n (nav g66_B [1, 1, 0, 1, 0, 0, 1, 1, 0, 0, 1, 1, 1, 0, 0, 1, 0]) (.fin none none none [(2, g66_m5e)] .leaf) s { cx with nrm := fun s => FX (g66_G n) n (nav g66_B [1, 1, 0, 1, 0, 0, 1, 1, 0, 0, 1, 1, 1, 0, 0, 1, 1, 0]) (.fin none none none [(2, g66_m5e)] .leaf) s { cx with nrm := fun s => FX (g66_G n) n (nav g66_B [1, 1, 0, 1, 0, 0, 1, 1, 0, 0, 1, 1, 1, 0, 0, 1, 1, 1]) (.fin none (some g66_m6e) none [(2, g66_m5e)] .leaf) s cx } } }
theorem g66_4_fx {β : Type} (n : Nat) (cx : Cx β) (x0 : List Int) (x1 : List Int) (x5 : List Int) (v6 : Int) (v7 : Int) (v15 : Int) (v16 : Int) (v20 : Int) (v21 : Int) : g66_4F n (g66_m6 x0 x1 x5 v6 v7 v15 v16 v20 v21) cx = g66_4 n (fun x0 x1 x5 v6 v7 v15 v16 v20 v21 => cx.nrm (g66_m6 x0 x1 x5 v6 v7 v15 v16 v20 v21)) (fun x0 x1 x5 v15 v16 => cx.ex 2 (g66_m5 x0 x1 x5 v15 v16)) x0 x1 x5 v6 v7 v15 v16 v20 v21 := by kernel_rfl
noncomputable def g66_5L {β : Type} (n : Nat) (kx2 : List Int → List Int → List Int → Int → Int → Option β) : Nat → List Int → List Int → List Int → Int → Int → Int → Int → Int → Int → Option β
  | 0, _, _, _, _, _, _, _, _, _ => none
  | m + 1, x0, x1, x5, v6, v7, v15, v16, v20, v21 => g66_4 n (g66_5L n kx2 m) kx2 x0 x1 x5 v6 v7 v15 v16 v20 v21
noncomputable def g66_5 {β : Type} (n : Nat) (kx2 : List Int → List Int → List Int → Int → Int → Option β) (x0 : List Int) (x1 : List Int) (x5 : List Int) (v6 : Int) (v7 : Int) (v15 : Int) (v16 : Int) (v20 : Int) (v21 : Int) : Option β := g66_5L n kx2 n x0 x1 x5 v6 v7 v15 v16 v20 v21
noncomputable def g66_5F {β : Type} (n : Nat) (s : FState) (cx : Cx β) : Option β := loopN (fun again s => g66_4F n s { cx with nrm := again }) n s
theorem g66_5L_fx {β : Type} (n : Nat) (cx : Cx β) : ∀ (m : Nat) (x0 : List Int) (x1 : List Int) (x5 : List Int) (v6 : Int) (v7 : Int) (v15 : Int) (v16 : Int) (v20 : Int) (v21 : Int), loopN (fun again s => g66_4F n s { cx with nrm := again }) m (g66_m6 x0 x1 x5 v6 v7 v15 v16 v20 v21) = g66_5L n (fun x0 x1 x5 v15 v16 => cx.ex 2 (g66_m5 x0 x1 x5 v15 v16)) m x0 x1 x5 v6 v7 v15 v16 v20 v21 := by
  intro m
  induction m with
  | zero => intros; rfl
  | succ m ih => intros; simp only [loopN, g66_5L, g66_4_fx, ih]
theorem g66_5_fx {β : Type} (n : Nat) (cx : Cx β) (x0 : List Int) (x1 : List Int) (x5 : List Int) (v6 : Int) (v7 : Int) (v15 : Int) (v16 : Int) (v20 : Int) (v21 : Int) : g66_5F n (g66_m6 x0 x1 x5 v6 v7 v15 v16 v20 v21) cx = g66_5 n (fun x0 x1 x5 v15 v16 => cx.ex 2 (g66_m5 x0 x1 x5 v15 v16)) x0 x1 x5 v6 v7 v15 v16 v20 v21 := g66_5L_fx n cx n x0 x1 x5 v6 v7 v15 v16 v20 v21
noncomputable def g66_6 {β : Type} (n : Nat) (kn : List Int → List Int → List Int → Int → Int → Option β) (x0 : List Int) (x1 : List Int) (x5 : List Int) (v6 : Int) (v7 : Int) (v15 : Int) (v16 : Int) (v20 : Int) (v21 : Int) : Option β := g66_5 n kn x0 x1 x5 v6 v7 v15 v16 v20 v21
noncomputable def g66_6F {β : Type} (n : Nat) (s : FState) (cx : Cx β) : Option β := g66_5F n s { cx with ex := fun j s => bif Nat.beq j 2 then cx.nrm s else cx.ex j s }
theorem g66_6_fx {β : Type} (n : Nat) (cx : Cx β) (x0 : List Int) (x1 : List Int) (x5 : List Int) (v6 : Int) (v7 : Int) (v15 : Int) (v16 : Int) (v20 : Int) (v21 : Int) : g66_6F n (g66_m6 x0 x1 x5 v6 v7 v15 v16 v20 v21) cx = g66_6 n (fun x0 x1 x5 v15 v16 => cx.nrm (g66_m5 x0 x1 x5 v15 v16)) x0 x1 x5 v6 v7 v15 v16 v20 v21 := g66_5_fx n _ x0 x1 x5 v6 v7 v15 v16 v20 v21
noncomputable def g66_7 {β : Type} (n : Nat) (kn : List Int → List Int → List Int → Int → Int → Option β) (x0 : List Int) (x1 : List Int) (x5 : List Int) (v15 : Int) (v16 : Int) : Option β := g66_3 n (fun x0 x1 x5 v6 v7 v15 v16 v20 v21 => g66_6 n kn x0 x1 x5 v6 v7 v15 v16 v20 v21) x0 x1 x5 v15 v16
noncomputable def g66_7F {β : Type} (n : Nat) (s : FState) (cx : Cx β) : Option β := g66_3F n s { cx with nrm := fun s => g66_6F n s cx }
theorem g66_7_fx {β : Type} (n : Nat) (cx : Cx β) (x0 : List Int) (x1 : List Int) (x5 : List Int) (v15 : Int) (v16 : Int) : g66_7F n (g66_m4 x0 x1 x5 v15 v16) cx = g66_7 n (fun x0 x1 x5 v15 v16 => cx.nrm (g66_m5 x0 x1 x5 v15 v16)) x0 x1 x5 v15 v16 := by simp only [g66_7F, g66_7, g66_3_fx, g66_6_fx]
noncomputable def g66_8 {β : Type} (n : Nat) (kn : List Int → List Int → List Int → Int → Int → Option β) (x0 : List Int) (x1 : List Int) (x5 : List Int) (v15 : Int) (v16 : Int) : Option β := g66_7 n kn x0 x1 x5 v15 v16
noncomputable def g66_8F {β : Type} (n : Nat) (s : FState) (cx : Cx β) : Option β := g66_7F n s { cx with ex := fun j s => bif Nat.beq j 1 then cx.nrm s else cx.ex j s }
theorem g66_8_fx {β : Type} (n : Nat) (cx : Cx β) (x0 : List Int) (x1 : List Int) (x5 : List Int) (v15 : Int) (v16 : Int) : g66_8F n (g66_m4 x0 x1 x5 v15 v16) cx = g66_8 n (fun x0 x1 x5 v15 v16 => cx.nrm (g66_m5 x0 x1 x5 v15 v16)) x0 x1 x5 v15 v16 := g66_7_fx n _ x0 x1 x5 v15 v16
noncomputable def g66_9 {β : Type} (n : Nat) (kn : List Int → List Int → List Int → Int → Int → Option β) (x0 : List Int) (x1 : List Int) (x5 : List Int) (v15 : Int) (v16 : Int) : Option β := kn x0 x1 x5 v15 (w64 (v16 + (1 : Int)))
noncomputable def g66_9F {β : Type} (n : Nat) (s : FState) (cx : Cx β) : Option β := FX (g66_G n) n (nav g66_B [1, 1, 0, 1, 0, 0, 1, 1, 1]) (.fin none (some g66_m2e) none [] .leaf) s cx
theorem g66_9_fx {β : Type} (n : Nat) (cx : Cx β) (x0 : List Int) (x1 : List Int) (x5 : List Int) (v15 : Int) (v16 : Int) : g66_9F n (g66_m5 x0 x1 x5 v15 v16) cx = g66_9 n (fun x0 x1 x5 v15 v16 => cx.nrm (g66_m2 x0 x1 x5 v15 v16)) x0 x1 x5 v15 v16 := by kernel_rfl
noncomputable def g66_10 {β : Type} (n : Nat) (kn : List Int → List Int → List Int → Int → Int → Option β) (kx0 : List Int → List Int → Option β) (x0 : List Int) (x1 : List Int) (x5 : List Int) (v15 : Int) (v16 : Int) : Option β := g66_2 n (fun x0 x1 x5 v15 v16 => g66_8 n (fun x0 x1 x5 v15 v16 => g66_9 n kn x0 x1 x5 v15 v16) x0 x1 x5 v15 v16) kx0 x0 x1 x5 v15 v16
noncomputable def g66_10F {β : Type} (n : Nat) (s : FState) (cx : Cx β) : Option β := g66_2F n s { cx with nrm := fun s => g66_8F n s { cx with nrm := fun s => g66_9F n s cx } }
theorem g66_10_fx {β : Type} (n : Nat) (cx : Cx β) (x0 : List Int) (x1 : List Int) (x5 : List Int) (v15 : Int) (v16 : Int) : g66_10F n (g66_m2 x0 x1 x5 v15 v16) cx = g66_10 n (fun x0 x1 x5 v15 v16 => cx.nrm (g66_m2 x0 x1 x5 v15 v16)) (fun x1 x5 => cx.ex 0 (g66_m3 x1 x5)) x0 x1 x5 v15 v16 := by simp only [g66_10F, g66_10, g66_2_fx, g66_8_fx, g66_9_fx]
noncomputable def g66_11L {β : Type} (n : Nat) (kx0 : List Int → List Int → Option β) : Nat → List Int → List Int → List Int → Int → Int → Option β
  | 0, _, _, _, _, _ => none
  | m + 1, x0, x1, x5, v15, v16 => g66_10 n (g66_11L n kx0 m) kx0 x0 x1 x5 v15 v16
noncomputable def g66_11 {β : Type} (n : Nat) (kx0 : List Int → List Int → Option β) (x0 : List Int) (x1 : List Int) (x5 : List Int) (v15 : Int) (v16 : Int) : Option β := g66_11L n kx0 n x0 x1 x5 v15 v16
noncomputable def g66_11F {β : Type} (n : Nat) (s : FState) (cx : Cx β) : Option β := loopN (fun again s => g66_10F n s { cx with nrm := again }) n s
theorem g66_11L_fx {β : Type} (n : Nat) (cx : Cx β) : ∀ (m : Nat) (x0 : List Int) (x1 : List Int) (x5 : List Int) (v15 : Int) (v16 : Int), loopN (fun again s => g66_10F n s { cx with nrm := again }) m (g66_m2 x0 x1 x5 v15 v16) = g66_11L n (fun x1 x5 => cx.ex 0 (g66_m3 x1 x5)) m x0 x1 x5 v15 v16 := by
  intro m
  induction m with
  | zero => intros; rfl
  | succ m ih => intros; simp only [loopN, g66_11L, g66_10_fx, ih]
theorem g66_11_fx {β : Type} (n : Nat) (cx : Cx β) (x0 : List Int) (x1 : List Int) (x5 : List Int) (v15 : Int) (v16 : Int) : g66_11F n (g66_m2 x0 x1 x5 v15 v16) cx = g66_11 n (fun x1 x5 => cx.ex 0 (g66_m3 x1 x5)) x0 x1 x5 v15 v16 := g66_11L_fx n cx n x0 x1 x5 v15 v16
noncomputable def g66_12 {β : Type} (n : Nat) (kn : List Int → List Int → Option β) (x0 : List Int) (x1 : List Int) (x5 : List Int) (v15 : Int) (v16 : Int) : Option β := g66_11 n kn x0 x1 x5 v15 v16
noncomputable def g66_12F {β : Type} (n : Nat) (s : FState) (cx : Cx β) : Option β := g66_11F n s { cx with ex := fun j s => bif Nat.beq j 0 then cx.nrm s else cx.ex j s }
theorem g66_12_fx {β : Type} (n : Nat) (cx : Cx β) (x0 : List Int) (x1 : List Int) (x5 : List Int) (v15 : Int) (v16 : Int) : g66_12F n (g66_m2 x0 x1 x5 v15 v16) cx = g66_12 n (fun x1 x5 => cx.nrm (g66_m3 x1 x5)) x0 x1 x5 v15 v16 := g66_11_fx n _ x0 x1 x5 v15 v16
noncomputable def g66_13 {β : Type} (n : Nat) (kr : Int → Option β) (x1 : List Int) (x5 : List Int) : Option β := idx (x1.length : Int) (x5.length : Int) <| kr (rd x5 (x1.length : Int) (0 : Int))
noncomputable def g66_13F {β : Type} (n : Nat) (s : FState) (cx : Cx β) : Option β := FX (g66_G n) n (nav g66_B [1, 1, 1, 0]) (.fin none none (some g66_m1e) [] .leaf) s { cx with nrm := fun s => FX (g66_G n) n (nav g66_B [1, 1, 1, 1]) (.fin none none (some g66_m1e) [] .leaf) s cx }
theorem g66_13_fx {β : Type} (n : Nat) (cx : Cx β) (x1 : List Int) (x5 : List Int) : g66_13F n (g66_m3 x1 x5) cx = g66_13 n (fun v4 => cx.ret (g66_m1 v4)) x1 x5 := by kernel_rfl
noncomputable def g66_14 {β : Type} (n : Nat) (kr : Int → Option β) (x0 : List Int) (x1 : List Int) : Option β := g66_1 n (fun x0 x1 x5 v15 v16 => g66_12 n (fun x1 x5 => g66_13 n kr x1 x5) x0 x1 x5 v15 v16) x0 x1
noncomputable def g66_14F {β : Type} (n : Nat) (s : FState) (cx : Cx β) : Option β := g66_1F n s { cx with nrm := fun s => g66_12F n s { cx with nrm := fun s => g66_13F n s cx } }
theorem g66_14_fx {β : Type} (n : Nat) (cx : Cx β) (x0 : List Int) (x1 : List Int) : g66_14F n (g66_m0 x0 x1) cx = g66_14 n (fun v4 => cx.ret (g66_m1 v4)) x0 x1 := by simp only [g66_14F, g66_14, g66_1_fx, g66_12_fx, g66_13_fx]
noncomputable def g66 (n : Nat) (x0 : List Int) (x1 : List Int) : Option (DenR [.dat (.int .i64)]) := g66_14 n (fun v4 => some (v4, ())) x0 x1
noncomputable def g66_A : List AK := [.ro (.int .i32) 21, .ro (.int .i32) 21]
noncomputable def g66_R : List RK := [.dat (.int .i64)]
noncomputable def g66_f (n : Nat) (d : DenA g66_A) : Option (DenR g66_R) := g66 n d.1 d.2.1
noncomputable def g66_S (n : Nat) : Spec := mkSpec g66_A g66_R (g66_f n)
noncomputable def g66_K : Sk := (.nd (.fin none none none [] .leaf) (.nd (.fin none none none [] .leaf) (.nd (.nd (.fin none (some g66_m2e) none [] .leaf) (.nd (.nd (.nd (.fin none none none [(0, g66_m3e)] .leaf) (.nd (.fin none (some g66_m4e) none [(0, g66_m3e)] .leaf) (.nd (.nd (.nd (.fin none none none [] .leaf) (.nd (.fin none none none [] .leaf) (.nd (.fin none (some g66_m6e) none [] .leaf) (.nd (.nd (.nd (.fin none none none [(2, g66_m5e)] .leaf) (.nd (.fin none none none [(2, g66_m5e)] .leaf) (.nd (.fin none none none [(2, g66_m5e)] .leaf) (.fin none (some g66_m6e) none [(2, g66_m5e)] .leaf)))) .leaf) .leaf)))) .leaf) (.fin none (some g66_m2e) none [] .leaf)))) .leaf) .leaf)) (.nd (.fin none none (some g66_m1e) [] .leaf) (.fin none none (some g66_m1e) [] .leaf)))))
theorem g66_top {β : Type} (n : Nat) (s : FState) (cx : Cx β) : FX (g66_G n) n g66_B g66_K s cx = g66_14F n s cx := by kernel_rfl
theorem g66_fit (n : Nat) : Fit Tryd.prog 66 (g66_S n) :=
  fit_of (Γ := Γ0) (l := g66_C n) (n := n) (sk := g66_K) (ts := [(4, none)]) (fn := Tryd.f66) (c := g66_B) (by kernel_rfl) (by kernel_rfl) (by unfold Callable; kernel_rfl) tab_ok trivial follows_mixed (by kernel_rfl) (by kernel_rfl) (Nat.le_of_ble_eq_true (by kernel_rfl)) (by kernel_rfl) (by kernel_rfl)
    (fun d => (g66_top n _ _).trans (Eq.trans (b := g66_14F n (g66_m0 d.1 d.2.1) (finCx (g66_G n) g66_R [(4, none)])) (by kernel_rfl) ((g66_14_fx n _ d.1 d.2.1).trans (by kernel_rfl))))
noncomputable def g38_m0 (x0 : List Int) (x1 : List Int) : FState := ⟨tlist [(0, .sl 0 none false), (1, .sl 1 none false)], olist [(0, .row (.int .i32) 21 false x0), (1, .row (.int .i32) 21 false x1)]⟩
noncomputable def g38_m1 (v4 : Int) : FState := ⟨tlist [(4, .dat (.int .i64) v4)], olist []⟩
noncomputable def g38_m1e : List NE := [.keep 4]
noncomputable def g38_C (n : Nat) : List (Nat × Spec) := [(66, g66_S n)]
noncomputable def g38_G (n : Nat) : Ctx := { Γ0 with calls := lkS (g38_C n) }
noncomputable def g38_B : Code := fb Tryd.f38
noncomputable def g38_1 {β : Type} (n : Nat) (kr : Int → Option β) (x0 : List Int) (x1 : List Int) : Option β := (g66 n x0 x1).bind fun r1 => kr (w64 ((w64 ((x0.length : Int) + (x1.length : Int))) - (w64 ((2 : Int) * r1.1))))
noncomputable def g38_1F {β : Type} (n : Nat) (s : FState) (cx : Cx β) : Option β := FX (g38_G n) n (nav g38_B [0]) (.fin none none (some g38_m1e) [] .leaf) s { cx with nrm := fun s => FX (g38_G n) n (nav g38_B [1, 0]) (.fin none none (some g38_m1e) [] .leaf) s { cx with nrm := fun s => FX (g38_G n) n (nav g38_B [1, 1]) (.fin none none (some g38_m1e) [] .leaf) s cx } }
theorem g38_1_fx {β : Type} (n : Nat) (cx : Cx β) (x0 : List Int) (x1 : List Int) : g38_1F n (g38_m0 x0 x1) cx = g38_1 n (fun v4 => cx.ret (g38_m1 v4)) x0 x1 := by kernel_rfl
noncomputable def g38 (n : Nat) (x0 : List Int) (x1 : List Int) : Option (DenR [.dat (.int .i64)]) := g38_1 n (fun v4 => some (v4, ())) x0 x1
noncomputable def g38_A : List AK := [.ro (.int .i32) 21, .ro (.int .i32) 21]
noncomputable def g38_R : List RK := [.dat (.int .i64)]
noncomputable def g38_f (n : Nat) (d : DenA g38_A) : Option (DenR g38_R) := g38 n d.1 d.2.1
noncomputable def g38_S (n : Nat) : Spec := mkSpec g38_A g38_R (g38_f n)
noncomputable def g38_K : Sk := (.nd (.fin none none (some g38_m1e) [] .leaf) (.nd (.fin none none (some g38_m1e) [] .leaf) (.fin none none (some g38_m1e) [] .leaf)))
theorem g38_top {β : Type} (n : Nat) (s : FState) (cx : Cx β) : FX (g38_G n) n g38_B g38_K s cx = g38_1F n s cx := by kernel_rfl
theorem g38_fit (n : Nat) : Fit Tryd.prog 38 (g38_S n) :=
  fit_of (Γ := Γ0) (l := g38_C n) (n := n) (sk := g38_K) (ts := [(4, none)]) (fn := Tryd.f38) (c := g38_B) (by kernel_rfl) (by kernel_rfl) (by unfold Callable; kernel_rfl) tab_ok ⟨g66_fit n, trivial⟩ follows_mixed (by kernel_rfl) (by kernel_rfl) (Nat.le_of_ble_eq_true (by kernel_rfl)) (by kernel_rfl) (by kernel_rfl)
    (fun d => (g38_top n _ _).trans (Eq.trans (b := g38_1F n (g38_m0 d.1 d.2.1) (finCx (g38_G n) g38_R [(4, none)])) (by kernel_rfl) ((g38_1_fx n _ d.1 d.2.1).trans (by kernel_rfl))))
noncomputable def g8_m0 (v0 : ByteArray) (v1 : ByteArray) : FState := ⟨tlist [(0, .dat .str v0), (1, .dat .str v1)], olist []⟩
noncomputable def g8_m1 (v4 : Bool) : FState := ⟨tlist [(4, .dat .bool v4)], olist []⟩
noncomputable def g8_m1e : List NE := [.keep 4]
noncomputable def g8_C (n : Nat) : List (Nat × Spec) := [(15, g15_S n), (32, g32_S n), (34, g34_S n), (35, g35_S n), (36, g36_S n), (37, g37_S n), (38, g38_S n)]
noncomputable def g8_G (n : Nat) : Ctx := { Γ0 with calls := lkS (g8_C n) }
noncomputable def g8_B : Code := fb Tryd.f8
noncomputable def g8_1 {β : Type} (n : Nat) (kr : Bool → Option β) (v0 : ByteArray) (v1 : ByteArray) : Option β := bif (decide ((v0.size : Int) > (2147483647 : Int))) then (kr true) else (bif (decide ((v1.size : Int) > (2147483647 : Int))) then (kr true) else ((g32 n v0 (60 : Int)).bind fun r1 => roomy ((⟨#[120, 120]⟩ : ByteArray).size + r1.1.size) <| (g32 n v1 (60 : Int)).bind fun r2 => roomy ((⟨#[121]⟩ : ByteArray).size + r2.1.size) <| (g36 n ((⟨#[120, 120]⟩ : ByteArray) ++ r1.1) ((⟨#[121]⟩ : ByteArray) ++ r2.1)).bind fun r3 => (g34 n r3.1).bind fun r4 => bif (strEq r4.1 ((⟨#[120, 120]⟩ : ByteArray) ++ r1.1)) then ((g35 n r3.1).bind fun r5 => bif (strEq r5.1 ((⟨#[121]⟩ : ByteArray) ++ r2.1)) then ((g37 n r3.1).bind fun r6 => (g15 n ((⟨#[120, 120]⟩ : ByteArray) ++ r1.1)).bind fun r7 => (g15 n ((⟨#[121]⟩ : ByteArray) ++ r2.1)).bind fun r8 => (g38 n r7.1 r8.1).bind fun r9 => kr (r6.1 == r9.1)) else (kr false)) else (kr false)))
noncomputable def g8_1F {β : Type} (n : Nat) (s : FState) (cx : Cx β) : Option β := FX (g8_G n) n (nav g8_B [0]) (.fin none none (some g8_m1e) [] .leaf) s { cx with nrm := fun s => FX (g8_G n) n (nav g8_B [1, 0, 0]) (.fin none none (some g8_m1e) [] .leaf) s { cx with nrm := fun s => FX (g8_G n) n (nav g8_B [1, 0, 1]) (.fin none none (some g8_m1e) [] .leaf) s { cx with nrm := fun s => FX (g8_G n) n (nav g8_B [1, 1, 0]) (.fin none none (some g8_m1e) [] .leaf) s { cx with nrm := fun s => FX (g8_G n) n (nav g8_B [1, 1, 1, 0]) (.fin none none (some g8_m1e) [] .leaf) s { cx with nrm := fun s => FX (g8_G n) n (nav g8_B [1, 1, 1, 1, 0]) (.fin none none (some g8_m1e) [] .leaf) s { cx with nrm := fun s => FX (g8_G n) n (nav g8_B [1, 1, 1, 1, 1]) (.fin none none (some g8_m1e) [] .leaf) s cx } } } } } }
theorem g8_1_fx {β : Type} (n : Nat) (cx : Cx β) (v0 : ByteArray) (v1 : ByteArray) : g8_1F n (g8_m0 v0 v1) cx = g8_1 n (fun v4 => cx.ret (g8_m1 v4)) v0 v1 := by kernel_rfl
noncomputable def g8 (n : Nat) (v0 : ByteArray) (v1 : ByteArray) : Option (DenR [.dat .bool]) := g8_1 n (fun v4 => some (v4, ())) v0 v1
noncomputable def g8_A : List AK := [.dat .str, .dat .str]
noncomputable def g8_R : List RK := [.dat .bool]
noncomputable def g8_f (n : Nat) (d : DenA g8_A) : Option (DenR g8_R) := g8 n d.1 d.2.1
noncomputable def g8_S (n : Nat) : Spec := mkSpec g8_A g8_R (g8_f n)
noncomputable def g8_K : Sk := (.nd (.fin none none (some g8_m1e) [] .leaf) (.nd (.nd (.fin none none (some g8_m1e) [] .leaf) (.fin none none (some g8_m1e) [] .leaf)) (.nd (.fin none none (some g8_m1e) [] .leaf) (.nd (.fin none none (some g8_m1e) [] .leaf) (.nd (.fin none none (some g8_m1e) [] .leaf) (.fin none none (some g8_m1e) [] .leaf))))))
theorem g8_top {β : Type} (n : Nat) (s : FState) (cx : Cx β) : FX (g8_G n) n g8_B g8_K s cx = g8_1F n s cx := by kernel_rfl
theorem g8_fit (n : Nat) : Fit Tryd.prog 8 (g8_S n) :=
  fit_of (Γ := Γ0) (l := g8_C n) (n := n) (sk := g8_K) (ts := [(4, none)]) (fn := Tryd.f8) (c := g8_B) (by kernel_rfl) (by kernel_rfl) (by unfold Callable; kernel_rfl) tab_ok ⟨g15_fit n, g32_fit n, g34_fit n, g35_fit n, g36_fit n, g37_fit n, g38_fit n, trivial⟩ follows_mixed (by kernel_rfl) (by kernel_rfl) (Nat.le_of_ble_eq_true (by kernel_rfl)) (by kernel_rfl) (by kernel_rfl)
    (fun d => (g8_top n _ _).trans (Eq.trans (b := g8_1F n (g8_m0 d.1 d.2.1) (finCx (g8_G n) g8_R [(4, none)])) (by kernel_rfl) ((g8_1_fx n _ d.1 d.2.1).trans (by kernel_rfl))))
noncomputable def g94_m0 (p0 : (Int × (Int × (Int × (Nat × (Int × (Int × Nat))))))) (x1 : List Int) (x2 : List Int) (v3 : Bool) : FState := ⟨tlist [(0, .ptr 0 0 0), (1, .sl 1 none false), (2, .sl 2 none false), (3, .dat .bool v3)], olist [(0, .row (.pair (.int .i64) (.pair (.int .i64) (.pair (.int .i64) (.pair (.flt .f64) (.pair (.int .i64) (.pair (.int .i64) (.flt .f64))))))) 106 false [p0]), (1, .row (.int .i32) 21 false x1), (2, .row (.int .i32) 21 false x2)]⟩
noncomputable def g94_m1 (x8 : List (Int × ByteArray)) : FState := ⟨tlist [(8, .sl 8 none false)], olist [(8, .row (.pair (.int .i8) .str) 115 true x8)]⟩
noncomputable def g94_m1e : List NE := [.row 8 (.pair (.int .i8) .str) 115 true]
noncomputable def g94_C (n : Nat) : List (Nat × Spec) := [(110, g110_S n)]
noncomputable def g94_G (n : Nat) : Ctx := { Γ0 with calls := lkS (g94_C n) }
noncomputable def g94_B : Code := fb Tryd.f94
noncomputable def g94_1 {β : Type} (n : Nat) (kr : List (Int × ByteArray) → Option β) (p0 : (Int × (Int × (Int × (Nat × (Int × (Int × Nat))))))) (x1 : List Int) (x2 : List Int) (v3 : Bool) : Option β := (g110 n p0 x1 x2 v3).bind fun r1 => kr r1.1
noncomputable def g94_1F {β : Type} (n : Nat) (s : FState) (cx : Cx β) : Option β := FX (g94_G n) n (nav g94_B [0]) (.fin none none (some g94_m1e) [] .leaf) s { cx with nrm := fun s => FX (g94_G n) n (nav g94_B [1, 0]) (.fin none none (some g94_m1e) [] .leaf) s { cx with nrm := fun s => FX (g94_G n) n (nav g94_B [1, 1]) (.fin none none (some g94_m1e) [] .leaf) s cx } }
theorem g94_1_fx {β : Type} (n : Nat) (cx : Cx β) (p0 : (Int × (Int × (Int × (Nat × (Int × (Int × Nat))))))) (x1 : List Int) (x2 : List Int) (v3 : Bool) : g94_1F n (g94_m0 p0 x1 x2 v3) cx = g94_1 n (fun x8 => cx.ret (g94_m1 x8)) p0 x1 x2 v3 := by kernel_rfl
noncomputable def g94 (n : Nat) (p0 : (Int × (Int × (Int × (Nat × (Int × (Int × Nat))))))) (x1 : List Int) (x2 : List Int) (v3 : Bool) : Option (DenR [.rw (.pair (.int .i8) .str) 115]) := g94_1 n (fun x8 => some (x8, ())) p0 x1 x2 v3
noncomputable def g94_A : List AK := [.pro (.pair (.int .i64) (.pair (.int .i64) (.pair (.int .i64) (.pair (.flt .f64) (.pair (.int .i64) (.pair (.int .i64) (.flt .f64))))))) 106, .ro (.int .i32) 21, .ro (.int .i32) 21, .dat .bool]
noncomputable def g94_R : List RK := [.rw (.pair (.int .i8) .str) 115]
noncomputable def g94_f (n : Nat) (d : DenA g94_A) : Option (DenR g94_R) := g94 n d.1 d.2.1 d.2.2.1 d.2.2.2.1
noncomputable def g94_S (n : Nat) : Spec := mkSpec g94_A g94_R (g94_f n)
noncomputable def g94_K : Sk := (.nd (.fin none none (some g94_m1e) [] .leaf) (.nd (.fin none none (some g94_m1e) [] .leaf) (.fin none none (some g94_m1e) [] .leaf)))
theorem g94_top {β : Type} (n : Nat) (s : FState) (cx : Cx β) : FX (g94_G n) n g94_B g94_K s cx = g94_1F n s cx := by kernel_rfl
theorem g94_fit (n : Nat) : Fit Tryd.prog 94 (g94_S n) :=
  fit_of (Γ := Γ0) (l := g94_C n) (n := n) (sk := g94_K) (ts := [(8, none)]) (fn := Tryd.f94) (c := g94_B) (by kernel_rfl) (by kernel_rfl) (by unfold Callable; kernel_rfl) tab_ok ⟨g110_fit n, trivial⟩ follows_mixed (by kernel_rfl) (by kernel_rfl) (Nat.le_of_ble_eq_true (by kernel_rfl)) (by kernel_rfl) (by kernel_rfl)
    (fun d => (g94_top n _ _).trans (Eq.trans (b := g94_1F n (g94_m0 d.1 d.2.1 d.2.2.1 d.2.2.2.1) (finCx (g94_G n) g94_R [(8, none)])) (by kernel_rfl) ((g94_1_fx n _ d.1 d.2.1 d.2.2.1 d.2.2.2.1).trans (by kernel_rfl))))
noncomputable def g68_m0 (p0 : (Int × (Int × (Int × (Nat × (Int × (Int × Nat))))))) (v1 : ByteArray) (v2 : ByteArray) (v3 : Bool) : FState := ⟨tlist [(0, .ptr 0 0 0), (1, .dat .str v1), (2, .dat .str v2), (3, .dat .bool v3)], olist [(0, .row (.pair (.int .i64) (.pair (.int .i64) (.pair (.int .i64) (.pair (.flt .f64) (.pair (.int .i64) (.pair (.int .i64) (.flt .f64))))))) 106 false [p0])]⟩
noncomputable def g68_m1 (x8 : List (Int × ByteArray)) : FState := ⟨tlist [(8, .sl 8 none false)], olist [(8, .row (.pair (.int .i8) .str) 115 true x8)]⟩
noncomputable def g68_m1e : List NE := [.row 8 (.pair (.int .i8) .str) 115 true]
noncomputable def g68_C (n : Nat) : List (Nat × Spec) := [(94, g94_S n)]
noncomputable def g68_G (n : Nat) : Ctx := { Γ0 with calls := lkS (g68_C n) }
noncomputable def g68_B : Code := fb Tryd.f68
noncomputable def g68_1 {β : Type} (n : Nat) (kr : List (Int × ByteArray) → Option β) (p0 : (Int × (Int × (Int × (Nat × (Int × (Int × Nat))))))) (v1 : ByteArray) (v2 : ByteArray) (v3 : Bool) : Option β := room46 v1 <| room46 v2 <| (g94 n p0 (runesOf v1) (runesOf v2) v3).bind fun r1 => kr r1.1
noncomputable def g68_1F {β : Type} (n : Nat) (s : FState) (cx : Cx β) : Option β := FX (g68_G n) n (nav g68_B [0]) (.fin none none (some g68_m1e) [] .leaf) s { cx with nrm := fun s => FX (g68_G n) n (nav g68_B [1, 0]) (.fin none none (some g68_m1e) [] .leaf) s { cx with nrm := fun s => FX (g68_G n) n (nav g68_B [1, 1]) (.fin none none (some g68_m1e) [] .leaf) s cx } }
theorem g68_1_fx {β : Type} (n : Nat) (cx : Cx β) (p0 : (Int × (Int × (Int × (Nat × (Int × (Int × Nat))))))) (v1 : ByteArray) (v2 : ByteArray) (v3 : Bool) : g68_1F n (g68_m0 p0 v1 v2 v3) cx = g68_1 n (fun x8 => cx.ret (g68_m1 x8)) p0 v1 v2 v3 := by kernel_rfl
noncomputable def g68 (n : Nat) (p0 : (Int × (Int × (Int × (Nat × (Int × (Int × Nat))))))) (v1 : ByteArray) (v2 : ByteArray) (v3 : Bool) : Option (DenR [.rw (.pair (.int .i8) .str) 115]) := g68_1 n (fun x8 => some (x8, ())) p0 v1 v2 v3
noncomputable def g68_A : List AK := [.pro (.pair (.int .i64) (.pair (.int .i64) (.pair (.int .i64) (.pair (.flt .f64) (.pair (.int .i64) (.pair (.int .i64) (.flt .f64))))))) 106, .dat .str, .dat .str, .dat .bool]
noncomputable def g68_R : List RK := [.rw (.pair (.int .i8) .str) 115]
noncomputable def g68_f (n : Nat) (d : DenA g68_A) : Option (DenR g68_R) := g68 n d.1 d.2.1 d.2.2.1 d.2.2.2.1
noncomputable def g68_S (n : Nat) : Spec := mkSpec g68_A g68_R (g68_f n)
noncomputable def g68_K : Sk := (.nd (.fin none none (some g68_m1e) [] .leaf) (.nd (.fin none none (some g68_m1e) [] .leaf) (.fin none none (some g68_m1e) [] .leaf)))
theorem g68_top {β : Type} (n : Nat) (s : FState) (cx : Cx β) : FX (g68_G n) n g68_B g68_K s cx = g68_1F n s cx := by kernel_rfl
theorem g68_fit (n : Nat) : Fit Tryd.prog 68 (g68_S n) :=
  fit_of (Γ := Γ0) (l := g68_C n) (n := n) (sk := g68_K) (ts := [(8, none)]) (fn := Tryd.f68) (c := g68_B) (by kernel_rfl) (by kernel_rfl) (by unfold Callable; kernel_rfl) tab_ok ⟨g94_fit n, trivial⟩ follows_mixed (by kernel_rfl) (by kernel_rfl) (Nat.le_of_ble_eq_true (by kernel_rfl)) (by kernel_rfl) (by kernel_rfl)
    (fun d => (g68_top n _ _).trans (Eq.trans (b := g68_1F n (g68_m0 d.1 d.2.1 d.2.2.1 d.2.2.2.1) (finCx (g68_G n) g68_R [(8, none)])) (by kernel_rfl) ((g68_1_fx n _ d.1 d.2.1 d.2.2.1 d.2.2.2.1).trans (by kernel_rfl))))
theorem g67_idle : Idle Tryd.prog 67 2 := fun vs w hv => by
  obtain ⟨p0, p1, rfl⟩ := arr2 hv
  refine callsD_of_wpS (fn := Tryd.f67) (c := fb Tryd.f67) (by kernel_rfl) (by kernel_rfl) fun c₀ cs hu => ?_
  show Code.wpS Tryd.prog (.seq (nav (fb Tryd.f67) [0]) (.cond (.tmp 3) (nav (fb Tryd.f67) [1, 0]) .skip)) _ _ _ _
  apply wpS_seq
  apply wpS_region
  simp [wpOpsS, go_sem, recoverD, hu, Exit.thenS]
  refine wpS_cond (t := false) (by simp [Act.eval, Array.replicate]) ?_
  simp only [Bool.false_eq_true, if_false]
  refine wpS_of_wp (wp_skip ?_)
  cases c₀
  simp_all [bodyPostS, results]
noncomputable def g40_m0 (v0 : (Bool × (Int × (Int × (Nat × (Nat × (Int × Int))))))) (v1 : ByteArray) (v2 : ByteArray) (v3 : Bool) : FState := ⟨tlist [(0, .dat (.pair .bool (.pair (.int .i64) (.pair (.int .i64) (.pair (.flt .f64) (.pair (.flt .f64) (.pair (.int .i64) (.int .i64))))))) v0), (1, .dat .str v1), (2, .dat .str v2), (3, .dat .bool v3)], olist []⟩
noncomputable def g40_m1 (p8 : (List (Int × ByteArray))) (p9 : Int) : FState := ⟨tlist [(8, .ptr 8 0 0), (9, .ptr 9 0 0)], olist [(8, .row (.sl 68 (.pair (.int .i64) .str)) 27 true [p8]), (9, .row (.int .i64) 3 true [p9])]⟩
noncomputable def g40_m1e : List NE := [.ptr 8 (.sl 68 (.pair (.int .i64) .str)) 27 true, .ptr 9 (.int .i64) 3 true]
noncomputable def g40_m2 (v1 : ByteArray) (v2 : ByteArray) (v3 : Bool) (p4 : (Bool × (Int × (Int × (Nat × (Nat × (Int × Int))))))) (p8 : (List (Int × ByteArray))) (p9 : Int) : FState := ⟨tlist [(1, .dat .str v1), (2, .dat .str v2), (3, .dat .bool v3), (4, .ptr 4 0 0), (8, .ptr 8 0 0), (9, .ptr 9 0 0)], olist [(4, .row (.pair .bool (.pair (.int .i64) (.pair (.int .i64) (.pair (.flt .f64) (.pair (.flt .f64) (.pair (.int .i64) (.int .i64))))))) 59 true [p4]), (8, .row (.sl 68 (.pair (.int .i64) .str)) 27 true [p8]), (9, .row (.int .i64) 3 true [p9])]⟩
noncomputable def g40_m2e : List NE := [.keep 1, .keep 2, .keep 3, .ptr 4 (.pair .bool (.pair (.int .i64) (.pair (.int .i64) (.pair (.flt .f64) (.pair (.flt .f64) (.pair (.int .i64) (.int .i64))))))) 59 true, .ptr 8 (.sl 68 (.pair (.int .i64) .str)) 27 true, .ptr 9 (.int .i64) 3 true]
noncomputable def g40_C (n : Nat) : List (Nat × Spec) := [(45, g45_S n), (62, g62_S n), (68, g68_S n)]
noncomputable def g40_G (n : Nat) : Ctx := { Γ0 with calls := lkS (g40_C n) }
noncomputable def g40_B : Code := fb Tryd.f40
noncomputable def g40_1 {β : Type} (n : Nat) (kn : ByteArray → ByteArray → Bool → (Bool × (Int × (Int × (Nat × (Nat × (Int × Int)))))) → (List (Int × ByteArray)) → Int → Option β) (v0 : (Bool × (Int × (Int × (Nat × (Nat × (Int × Int))))))) (v1 : ByteArray) (v2 : ByteArray) (v3 : Bool) : Option β := kn v1 v2 v3 v0 ([] : List (Int × ByteArray)) (0 : Int)
noncomputable def g40_1F {β : Type} (n : Nat) (s : FState) (cx : Cx β) : Option β := FX (g40_G n) n (nav g40_B [0]) (.fin none (some g40_m2e) none [] .leaf) s cx
theorem g40_1_fx {β : Type} (n : Nat) (cx : Cx β) (v0 : (Bool × (Int × (Int × (Nat × (Nat × (Int × Int))))))) (v1 : ByteArray) (v2 : ByteArray) (v3 : Bool) : g40_1F n (g40_m0 v0 v1 v2 v3) cx = g40_1 n (fun v1 v2 v3 p4 p8 p9 => cx.nrm (g40_m2 v1 v2 v3 p4 p8 p9)) v0 v1 v2 v3 := by kernel_rfl
noncomputable def g40_2 {β : Type} (n : Nat) (kr : (List (Int × ByteArray)) → Int → Option β) (v1 : ByteArray) (v2 : ByteArray) (v3 : Bool) (p4 : (Bool × (Int × (Int × (Nat × (Nat × (Int × Int))))))) (p8 : (List (Int × ByteArray))) (p9 : Int) : Option β := (g62 n p4).bind fun r1 => (g68 n r1.1 v1 v2 v3).bind fun r2 => (g45 n r2.1).bind fun r3 => kr r3.1 (0 : Int)
noncomputable def g40_2F {β : Type} (n : Nat) (s : FState) (cx : Cx β) : Option β := FX (g40_G n) n (nav g40_B [1, 1, 0]) (.fin none none (some g40_m1e) [] .leaf) s { cx with nrm := fun s => FX (g40_G n) n (nav g40_B [1, 1, 1]) (.fin none none (some g40_m1e) [] .leaf) s cx }
theorem g40_2_fx {β : Type} (n : Nat) (cx : Cx β) (v1 : ByteArray) (v2 : ByteArray) (v3 : Bool) (p4 : (Bool × (Int × (Int × (Nat × (Nat × (Int × Int))))))) (p8 : (List (Int × ByteArray))) (p9 : Int) : g40_2F n (g40_m2 v1 v2 v3 p4 p8 p9) cx = g40_2 n (fun p8 p9 => cx.ret (g40_m1 p8 p9)) v1 v2 v3 p4 p8 p9 := by kernel_rfl
noncomputable def g40 (n : Nat) (v0 : (Bool × (Int × (Int × (Nat × (Nat × (Int × Int))))))) (v1 : ByteArray) (v2 : ByteArray) (v3 : Bool) : Option (DenR [.ro (.pair (.int .i64) .str) 68, .dat (.int .i64)]) := g40_1 n (fun v1 v2 v3 p4 p8 p9 => g40_2 n (fun p8 p9 => some (p8, (p9, ()))) v1 v2 v3 p4 p8 p9) v0 v1 v2 v3
noncomputable def g40_A : List AK := [.dat (.pair .bool (.pair (.int .i64) (.pair (.int .i64) (.pair (.flt .f64) (.pair (.flt .f64) (.pair (.int .i64) (.int .i64))))))), .dat .str, .dat .str, .dat .bool]
noncomputable def g40_R : List RK := [.ro (.pair (.int .i64) .str) 68, .dat (.int .i64)]
noncomputable def g40_f (n : Nat) (d : DenA g40_A) : Option (DenR g40_R) := g40 n d.1 d.2.1 d.2.2.1 d.2.2.2.1
noncomputable def g40_S (n : Nat) : Spec := mkSpec g40_A g40_R (g40_f n)
noncomputable def g40_K0 : Sk := (.fin none (some g40_m2e) none [] .leaf)
noncomputable def g40_K1 : Sk := (.nd (.fin none none (some g40_m1e) [] .leaf) (.fin none none (some g40_m1e) [] .leaf))
noncomputable def g40_K2 : Sk := (.fin (some g40_m2e) none none [] (.nd (.fin none none (some g40_m1e) [] .leaf) (.fin none none (some g40_m1e) [] .leaf)))
theorem g40_top {β : Type} (n : Nat) (s : FState) (cx : Cx β) : FX (g40_G n) n (nav g40_B [1, 1]) g40_K1 s cx = g40_2F n s cx := by kernel_rfl
theorem g40_mid {β : Type} (n : Nat) (cx : Cx β) (v1 : ByteArray) (v2 : ByteArray) (v3 : Bool) (p4 : (Bool × (Int × (Int × (Nat × (Nat × (Int × Int))))))) (p8 : (List (Int × ByteArray))) (p9 : Int) : FX (g40_G n) n (nav g40_B [1, 1]) g40_K2 (FState.set (g40_m2 v1 v2 v3 p4 p8 p9) 10 .dead) cx = g40_2 n (fun p8 p9 => cx.ret (g40_m1 p8 p9)) v1 v2 v3 p4 p8 p9 :=
  Eq.trans (b := FX (g40_G n) n (nav g40_B [1, 1]) g40_K1 (g40_m2 v1 v2 v3 p4 p8 p9) cx) (by kernel_rfl) ((g40_top n _ _).trans (g40_2_fx n cx v1 v2 v3 p4 p8 p9))
theorem g40_fit (n : Nat) : Fit Tryd.prog 40 (g40_S n) :=
  fit_of_wrap (Γ := Γ0) (l := g40_C n) (n := n) (sk0 := g40_K0) (sk1 := g40_K2) (ts := [(8, some 27), (9, some 3)]) (fn := Tryd.f40) (c := g40_B) (c0 := nav g40_B [0]) (c1 := nav g40_B [1, 1]) (tm := 10) (g := 67) (k := 2) (by kernel_rfl) (by kernel_rfl) (by kernel_rfl) (by unfold Callable; kernel_rfl) tab_ok ⟨g45_fit n, g62_fit n, g68_fit n, trivial⟩ follows_mixed (by unfold Callable; kernel_rfl) g67_idle (by kernel_rfl) (by kernel_rfl) (by kernel_rfl) (Nat.le_of_ble_eq_true (by kernel_rfl)) (Nat.le_of_ble_eq_true (by kernel_rfl)) (by kernel_rfl) (by kernel_rfl)
    (fun d => Eq.trans (b := g40_1F n (g40_m0 d.1 d.2.1 d.2.2.1 d.2.2.2.1) ⟨fun s => FX (g40_G n) n (nav g40_B [1, 1]) g40_K2 (FState.set s 10 .dead) (finCx (g40_G n) g40_R [(8, some 27), (9, some 3)]), fun _ => none, fun _ _ => none⟩) (by kernel_rfl) ((g40_1_fx n _ d.1 d.2.1 d.2.2.1 d.2.2.2.1).trans (Eq.trans (b := g40_1 n (fun v1 v2 v3 p4 p8 p9 => g40_2 n (fun p8 p9 => (finCx (g40_G n) g40_R [(8, some 27), (9, some 3)]).ret (g40_m1 p8 p9)) v1 v2 v3 p4 p8 p9) d.1 d.2.1 d.2.2.1 d.2.2.2.1) (congrArg (fun k_ => g40_1 n k_ d.1 d.2.1 d.2.2.1 d.2.2.2.1) (funext fun v1 => (funext fun v2 => (funext fun v3 => (funext fun p4 => (funext fun p8 => (funext fun p9 => g40_mid n (finCx (g40_G n) g40_R [(8, some 27), (9, some 3)]) v1 v2 v3 p4 p8 p9))))))) (by kernel_rfl))))
end Go.Proofs.YthkiaiilpaojnaaDoorUF
