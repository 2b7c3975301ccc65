import Derived.Test.YticibdjilmclgaaDoorUFT
import Derived.Test.YticibdjilmclgaaDoorUGA0
import Derived.Test.YticibdjilmclgaaDoorUGA3
namespace Go.Proofs.YticibdjilmclgaaDoorUF
open Go Go.Proofs
set_option linter.unusedVariables false
set_option maxRecDepth 100000
noncomputable def g53_m0 (p0 : (Int × (Int × (Int × (Nat × (Int × (Int × Nat))))))) (x1 : List Int) (x2 : List Int) (v3 : Bool) : FState := ⟨tlist [(0, .ptr 0 0 0), (1, .sl 1 none false), (2, .sl 2 none false), (3, .dat .bool v3)], olist [(0, .row (.pair (.int .i64) (.pair (.int .i64) (.pair (.int .i64) (.pair (.flt .f64) (.pair (.int .i64) (.pair (.int .i64) (.flt .f64))))))) 74 false [p0]), (1, .row (.int .i32) 21 false x1), (2, .row (.int .i32) 21 false x2)]⟩
noncomputable def g53_m1 (x8 : List (Int × ByteArray)) : FState := ⟨tlist [(8, .sl 8 none false)], olist [(8, .row (.pair (.int .i8) .str) 81 true x8)]⟩
noncomputable def g53_m1e : List NE := [.row 8 (.pair (.int .i8) .str) 81 true]
noncomputable def g53_C (n : Nat) : List (Nat × Spec) := [(67, g67_S n)]
noncomputable def g53_G (n : Nat) : Ctx := { Γ0 with calls := lkS (g53_C n) }
noncomputable def g53_B : Code := fb Tryd.f53
noncomputable def g53_1 {β : Type} (n : Nat) (kr : List (Int × ByteArray) → Option β) (p0 : (Int × (Int × (Int × (Nat × (Int × (Int × Nat))))))) (x1 : List Int) (x2 : List Int) (v3 : Bool) : Option β := (g67 n p0 x1 x2 v3).bind fun r1 => kr r1.1
noncomputable def g53_1F {β : Type} (n : Nat) (s : FState) (cx : Cx β) : Option β := FX (g53_G n) n (nav g53_B [0]) (.fin none none (some g53_m1e) [] .leaf) s { cx with nrm := fun s => FX (g53_G n) n (nav g53_B [1, 0]) (.fin none none (some g53_m1e) [] .leaf) s { cx with nrm := fun s => FX (g53_G n) n (nav g53_B [1, 1]) (.fin none none (some g53_m1e) [] .leaf) s cx } }
theorem g53_1_fx {β : Type} (n : Nat) (cx : Cx β) (p0 : (Int × (Int × (Int × (Nat × (Int × (Int × Nat))))))) (x1 : List Int) (x2 : List Int) (v3 : Bool) : g53_1F n (g53_m0 p0 x1 x2 v3) cx = g53_1 n (fun x8 => cx.ret (g53_m1 x8)) p0 x1 x2 v3 := by kernel_rfl
noncomputable def g53 (n : Nat) (p0 : (Int × (Int × (Int × (Nat × (Int × (Int × Nat))))))) (x1 : List Int) (x2 : List Int) (v3 : Bool) : Option (DenR [.rw (.pair (.int .i8) .str) 81]) := g53_1 n (fun x8 => some (x8, ())) p0 x1 x2 v3
noncomputable def g53_A : List AK := [.pro (.pair (.int .i64) (.pair (.int .i64) (.pair (.int .i64) (.pair (.flt .f64) (.pair (.int .i64) (.pair (.int .i64) (.flt .f64))))))) 74, .ro (.int .i32) 21, .ro (.int .i32) 21, .dat .bool]
noncomputable def g53_R : List RK := [.rw (.pair (.int .i8) .str) 81]
noncomputable def g53_f (n : Nat) (d : DenA g53_A) : Option (DenR g53_R) := g53 n d.1 d.2.1 d.2.2.1 d.2.2.2.1
noncomputable def g53_S (n : Nat) : Spec := mkSpec g53_A g53_R (g53_f n)
noncomputable def g53_K : Sk := (.nd (.fin none none (some g53_m1e) [] .leaf) (.nd (.fin none none (some g53_m1e) [] .leaf) (.fin none none (some g53_m1e) [] .leaf)))
theorem g53_top {β : Type} (n : Nat) (s : FState) (cx : Cx β) : FX (g53_G n) n g53_B g53_K s cx = g53_1F n s cx := by kernel_rfl
theorem g53_fit (n : Nat) : Fit Tryd.prog 53 (g53_S n) :=
  fit_of (Γ := Γ0) (l := g53_C n) (n := n) (sk := g53_K) (ts := [(8, none)]) (fn := Tryd.f53) (c := g53_B) (by kernel_rfl) (by kernel_rfl) (by unfold Callable; kernel_rfl) tab_ok ⟨g67_fit n, trivial⟩ follows_mixed (by kernel_rfl) (by kernel_rfl) (Nat.le_of_ble_eq_true (by kernel_rfl)) (by kernel_rfl) (by kernel_rfl)
    (fun d => (g53_top n _ _).trans (Eq.trans (b := g53_1F n (g53_m0 d.1 d.2.1 d.2.2.1 d.2.2.2.1) (finCx (g53_G n) g53_R [(8, none)])) (by kernel_rfl) ((g53_1_fx n _ d.1 d.2.1 d.2.2.1 d.2.2.2.1).trans (by kernel_rfl))))
noncomputable def g51_m0 (p0 : (Int × (Int × (Int × (Nat × (Int × (Int × Nat))))))) (v1 : ByteArray) (v2 : ByteArray) (v3 : Bool) : FState := ⟨tlist [(0, .ptr 0 0 0), (1, .dat .str v1), (2, .dat .str v2), (3, .dat .bool v3)], olist [(0, .row (.pair (.int .i64) (.pair (.int .i64) (.pair (.int .i64) (.pair (.flt .f64) (.pair (.int .i64) (.pair (.int .i64) (.flt .f64))))))) 74 false [p0])]⟩
noncomputable def g51_m1 (x8 : List (Int × ByteArray)) : FState := ⟨tlist [(8, .sl 8 none false)], olist [(8, .row (.pair (.int .i8) .str) 81 true x8)]⟩
noncomputable def g51_m1e : List NE := [.row 8 (.pair (.int .i8) .str) 81 true]
noncomputable def g51_C (n : Nat) : List (Nat × Spec) := [(53, g53_S n)]
noncomputable def g51_G (n : Nat) : Ctx := { Γ0 with calls := lkS (g51_C n) }
noncomputable def g51_B : Code := fb Tryd.f51
noncomputable def g51_1 {β : Type} (n : Nat) (kr : List (Int × ByteArray) → Option β) (p0 : (Int × (Int × (Int × (Nat × (Int × (Int × Nat))))))) (v1 : ByteArray) (v2 : ByteArray) (v3 : Bool) : Option β := room46 v1 <| room46 v2 <| (g53 n p0 (runesOf v1) (runesOf v2) v3).bind fun r1 => kr r1.1
noncomputable def g51_1F {β : Type} (n : Nat) (s : FState) (cx : Cx β) : Option β := FX (g51_G n) n (nav g51_B [0]) (.fin none none (some g51_m1e) [] .leaf) s { cx with nrm := fun s => FX (g51_G n) n (nav g51_B [1, 0]) (.fin none none (some g51_m1e) [] .leaf) s { cx with nrm := fun s => FX (g51_G n) n (nav g51_B [1, 1]) (.fin none none (some g51_m1e) [] .leaf) s cx } }
theorem g51_1_fx {β : Type} (n : Nat) (cx : Cx β) (p0 : (Int × (Int × (Int × (Nat × (Int × (Int × Nat))))))) (v1 : ByteArray) (v2 : ByteArray) (v3 : Bool) : g51_1F n (g51_m0 p0 v1 v2 v3) cx = g51_1 n (fun x8 => cx.ret (g51_m1 x8)) p0 v1 v2 v3 := by kernel_rfl
noncomputable def g51 (n : Nat) (p0 : (Int × (Int × (Int × (Nat × (Int × (Int × Nat))))))) (v1 : ByteArray) (v2 : ByteArray) (v3 : Bool) : Option (DenR [.rw (.pair (.int .i8) .str) 81]) := g51_1 n (fun x8 => some (x8, ())) p0 v1 v2 v3
noncomputable def g51_A : List AK := [.pro (.pair (.int .i64) (.pair (.int .i64) (.pair (.int .i64) (.pair (.flt .f64) (.pair (.int .i64) (.pair (.int .i64) (.flt .f64))))))) 74, .dat .str, .dat .str, .dat .bool]
noncomputable def g51_R : List RK := [.rw (.pair (.int .i8) .str) 81]
noncomputable def g51_f (n : Nat) (d : DenA g51_A) : Option (DenR g51_R) := g51 n d.1 d.2.1 d.2.2.1 d.2.2.2.1
noncomputable def g51_S (n : Nat) : Spec := mkSpec g51_A g51_R (g51_f n)
noncomputable def g51_K : Sk := (.nd (.fin none none (some g51_m1e) [] .leaf) (.nd (.fin none none (some g51_m1e) [] .leaf) (.fin none none (some g51_m1e) [] .leaf)))
theorem g51_top {β : Type} (n : Nat) (s : FState) (cx : Cx β) : FX (g51_G n) n g51_B g51_K s cx = g51_1F n s cx := by kernel_rfl
theorem g51_fit (n : Nat) : Fit Tryd.prog 51 (g51_S n) :=
  fit_of (Γ := Γ0) (l := g51_C n) (n := n) (sk := g51_K) (ts := [(8, none)]) (fn := Tryd.f51) (c := g51_B) (by kernel_rfl) (by kernel_rfl) (by unfold Callable; kernel_rfl) tab_ok ⟨g53_fit n, trivial⟩ follows_mixed (by kernel_rfl) (by kernel_rfl) (Nat.le_of_ble_eq_true (by kernel_rfl)) (by kernel_rfl) (by kernel_rfl)
    (fun d => (g51_top n _ _).trans (Eq.trans (b := g51_1F n (g51_m0 d.1 d.2.1 d.2.2.1 d.2.2.2.1) (finCx (g51_G n) g51_R [(8, none)])) (by kernel_rfl) ((g51_1_fx n _ d.1 d.2.1 d.2.2.1 d.2.2.2.1).trans (by kernel_rfl))))
noncomputable def g49_m0 (x0 : List (Int × ByteArray)) : FState := ⟨tlist [(0, .sl 0 none false)], olist [(0, .row (.pair (.int .i8) .str) 81 false x0)]⟩
noncomputable def g49_m1 (x2 : List (Int × ByteArray)) : FState := ⟨tlist [(2, .sl 2 none false)], olist [(2, .row (.pair (.int .i64) .str) 31 true x2)]⟩
noncomputable def g49_m1e : List NE := [.row 2 (.pair (.int .i64) .str) 31 true]
noncomputable def g49_m2 (x3 : List (Int × ByteArray)) (x6 : List (Int × ByteArray)) (v7 : Int) (v8 : Int) : FState := ⟨tlist [(3, .sl 3 none false), (6, .sl 6 none false), (7, .dat (.int .i64) v7), (8, .dat (.int .i64) v8)], olist [(3, .row (.pair (.int .i64) .str) 31 true x3), (6, .row (.pair (.int .i8) .str) 81 false x6)]⟩
noncomputable def g49_m2e : List NE := [.row 3 (.pair (.int .i64) .str) 31 true, .row 6 (.pair (.int .i8) .str) 81 false, .keep 7, .keep 8]
noncomputable def g49_m3 (x3 : List (Int × ByteArray)) : FState := ⟨tlist [(3, .sl 3 none false)], olist [(3, .row (.pair (.int .i64) .str) 31 true x3)]⟩
noncomputable def g49_m3e : List NE := [.row 3 (.pair (.int .i64) .str) 31 true]
noncomputable def g49_C (n : Nat) : List (Nat × Spec) := []
noncomputable def g49_G (n : Nat) : Ctx := { Γ0 with calls := lkS (g49_C n) }
noncomputable def g49_B : Code := fb Tryd.f49
noncomputable def g49_1 {β : Type} (n : Nat) (kn : List (Int × ByteArray) → List (Int × ByteArray) → Int → Int → Option β) (x0 : List (Int × ByteArray)) : Option β := kn [] x0 (x0.length : Int) (0 : Int)
noncomputable def g49_1F {β : Type} (n : Nat) (s : FState) (cx : Cx β) : Option β := FX (g49_G n) n (nav g49_B [0]) (.fin none none none [] .leaf) s { cx with nrm := fun s => FX (g49_G n) n (nav g49_B [1, 0]) (.fin none none none [] .leaf) s { cx with nrm := fun s => FX (g49_G n) n (nav g49_B [1, 1, 0, 0]) (.fin none (some g49_m2e) none [] .leaf) s cx } }
theorem g49_1_fx {β : Type} (n : Nat) (cx : Cx β) (x0 : List (Int × ByteArray)) : g49_1F n (g49_m0 x0) cx = g49_1 n (fun x3 x6 v7 v8 => cx.nrm (g49_m2 x3 x6 v7 v8)) x0 := by kernel_rfl
noncomputable def g49_2 {β : Type} (n : Nat) (kn : List (Int × ByteArray) → List (Int × ByteArray) → Int → Int → Option β) (kx0 : List (Int × ByteArray) → Option β) (x3 : List (Int × ByteArray)) (x6 : List (Int × ByteArray)) (v7 : Int) (v8 : Int) : Option β := bif (decide (v8 < v7)) then (idx v8 (x6.length : Int) <| roomy (x3.length + [((w64 ((rd [(rd x6 v8 ((0 : Int), (⟨#[]⟩ : ByteArray)))] (0 : Int) ((0 : Int), (⟨#[]⟩ : ByteArray))).1)), (rd [(rd x6 v8 ((0 : Int), (⟨#[]⟩ : ByteArray)))] (0 : Int) ((0 : Int), (⟨#[]⟩ : ByteArray))).2)].length) <| kn (x3 ++ [((w64 ((rd [(rd x6 v8 ((0 : Int), (⟨#[]⟩ : ByteArray)))] (0 : Int) ((0 : Int), (⟨#[]⟩ : ByteArray))).1)), (rd [(rd x6 v8 ((0 : Int), (⟨#[]⟩ : ByteArray)))] (0 : Int) ((0 : Int), (⟨#[]⟩ : ByteArray))).2)]) x6 v7 (w64 (v8 + (1 : Int)))) else (kx0 x3)
noncomputable def g49_2F {β : Type} (n : Nat) (s : FState) (cx : Cx β) : Option β := FX (g49_G n) n (nav g49_B [1, 1, 0, 1, 0, 0, 0]) (.fin none none none [(0, g49_m3e)] .leaf) s { cx with nrm := fun s => FX (g49_G n) n (nav g49_B [1, 1, 0, 1, 0, 0, 1, 0]) (.fin none none none [(0, g49_m3e)] .leaf) s { cx with nrm := fun s => FX (g49_G n) n (nav g49_B [1, 1, 0, 1, 0, 0, 1, 1, 0]) (.fin none none none [(0, g49_m3e)] .leaf) s { cx with nrm := fun s => FX (g49_G n) n (nav g49_B [1, 1, 0, 1, 0, 0, 1, 1, 1]) (.fin none (some g49_m2e) none [(0, g49_m3e)] .leaf) s cx } } }
theorem g49_2_fx {β : Type} (n : Nat) (cx : Cx β) (x3 : List (Int × ByteArray)) (x6 : List (Int × ByteArray)) (v7 : Int) (v8 : Int) : g49_2F n (g49_m2 x3 x6 v7 v8) cx = g49_2 n (fun x3 x6 v7 v8 => cx.nrm (g49_m2 x3 x6 v7 v8)) (fun x3 => cx.ex 0 (g49_m3 x3)) x3 x6 v7 v8 := by kernel_rfl
noncomputable def g49_3L {β : Type} (n : Nat) (kx0 : List (Int × ByteArray) → Option β) : Nat → List (Int × ByteArray) → List (Int × ByteArray) → Int → Int → Option β
  | 0, _, _, _, _ => none
  | m + 1, x3, x6, v7, v8 => g49_2 n (g49_3L n kx0 m) kx0 x3 x6 v7 v8
noncomputable def g49_3 {β : Type} (n : Nat) (kx0 : List (Int × ByteArray) → Option β) (x3 : List (Int × ByteArray)) (x6 : List (Int × ByteArray)) (v7 : Int) (v8 : Int) : Option β := g49_3L n kx0 n x3 x6 v7 v8
noncomputable def g49_3F {β : Type} (n : Nat) (s : FState) (cx : Cx β) : Option β := loopN (fun again s => g49_2F n s { cx with nrm := again }) n s
theorem g49_3L_fx {β : Type} (n : Nat) (cx : Cx β) : ∀ (m : Nat) (x3 : List (Int × ByteArray)) (x6 : List (Int × ByteArray)) (v7 : Int) (v8 : Int), loopN (fun again s => g49_2F n s { cx with nrm := again }) m (g49_m2 x3 x6 v7 v8) = g49_3L n (fun x3 => cx.ex 0 (g49_m3 x3)) m x3 x6 v7 v8 := by
  intro m
  induction m with
  | zero => intros; rfl
  | succ m ih => intros; simp only [loopN, g49_3L, g49_2_fx, ih]
theorem g49_3_fx {β : Type} (n : Nat) (cx : Cx β) (x3 : List (Int × ByteArray)) (x6 : List (Int × ByteArray)) (v7 : Int) (v8 : Int) : g49_3F n (g49_m2 x3 x6 v7 v8) cx = g49_3 n (fun x3 => cx.ex 0 (g49_m3 x3)) x3 x6 v7 v8 := g49_3L_fx n cx n x3 x6 v7 v8
noncomputable def g49_4 {β : Type} (n : Nat) (kn : List (Int × ByteArray) → Option β) (x3 : List (Int × ByteArray)) (x6 : List (Int × ByteArray)) (v7 : Int) (v8 : Int) : Option β := g49_3 n kn x3 x6 v7 v8
noncomputable def g49_4F {β : Type} (n : Nat) (s : FState) (cx : Cx β) : Option β := g49_3F n s { cx with ex := fun j s => bif Nat.beq j 0 then cx.nrm s else cx.ex j s }
theorem g49_4_fx {β : Type} (n : Nat) (cx : Cx β) (x3 : List (Int × ByteArray)) (x6 : List (Int × ByteArray)) (v7 : Int) (v8 : Int) : g49_4F n (g49_m2 x3 x6 v7 v8) cx = g49_4 n (fun x3 => cx.nrm (g49_m3 x3)) x3 x6 v7 v8 := g49_3_fx n _ x3 x6 v7 v8
noncomputable def g49_5 {β : Type} (n : Nat) (kr : List (Int × ByteArray) → Option β) (x3 : List (Int × ByteArray)) : Option β := kr x3
noncomputable def g49_5F {β : Type} (n : Nat) (s : FState) (cx : Cx β) : Option β := FX (g49_G n) n (nav g49_B [1, 1, 1, 0]) (.fin none none (some g49_m1e) [] .leaf) s { cx with nrm := fun s => FX (g49_G n) n (nav g49_B [1, 1, 1, 1]) (.fin none none (some g49_m1e) [] .leaf) s cx }
theorem g49_5_fx {β : Type} (n : Nat) (cx : Cx β) (x3 : List (Int × ByteArray)) : g49_5F n (g49_m3 x3) cx = g49_5 n (fun x2 => cx.ret (g49_m1 x2)) x3 := by kernel_rfl
noncomputable def g49_6 {β : Type} (n : Nat) (kr : List (Int × ByteArray) → Option β) (x0 : List (Int × ByteArray)) : Option β := g49_1 n (fun x3 x6 v7 v8 => g49_4 n (fun x3 => g49_5 n kr x3) x3 x6 v7 v8) x0
noncomputable def g49_6F {β : Type} (n : Nat) (s : FState) (cx : Cx β) : Option β := g49_1F n s { cx with nrm := fun s => g49_4F n s { cx with nrm := fun s => g49_5F n s cx } }
theorem g49_6_fx {β : Type} (n : Nat) (cx : Cx β) (x0 : List (Int × ByteArray)) : g49_6F n (g49_m0 x0) cx = g49_6 n (fun x2 => cx.ret (g49_m1 x2)) x0 := by simp only [g49_6F, g49_6, g49_1_fx, g49_4_fx, g49_5_fx]
noncomputable def g49 (n : Nat) (x0 : List (Int × ByteArray)) : Option (DenR [.rw (.pair (.int .i64) .str) 31]) := g49_6 n (fun x2 => some (x2, ())) x0
noncomputable def g49_A : List AK := [.ro (.pair (.int .i8) .str) 81]
noncomputable def g49_R : List RK := [.rw (.pair (.int .i64) .str) 31]
noncomputable def g49_f (n : Nat) (d : DenA g49_A) : Option (DenR g49_R) := g49 n d.1
noncomputable def g49_S (n : Nat) : Spec := mkSpec g49_A g49_R (g49_f n)
noncomputable def g49_K : Sk := (.nd (.fin none none none [] .leaf) (.nd (.fin none none none [] .leaf) (.nd (.nd (.fin none (some g49_m2e) none [] .leaf) (.nd (.nd (.nd (.fin none none none [(0, g49_m3e)] .leaf) (.nd (.fin none none none [(0, g49_m3e)] .leaf) (.nd (.fin none none none [(0, g49_m3e)] .leaf) (.fin none (some g49_m2e) none [(0, g49_m3e)] .leaf)))) .leaf) .leaf)) (.nd (.fin none none (some g49_m1e) [] .leaf) (.fin none none (some g49_m1e) [] .leaf)))))
theorem g49_top {β : Type} (n : Nat) (s : FState) (cx : Cx β) : FX (g49_G n) n g49_B g49_K s cx = g49_6F n s cx := by kernel_rfl
theorem g49_fit (n : Nat) : Fit Tryd.prog 49 (g49_S n) :=
  fit_of (Γ := Γ0) (l := g49_C n) (n := n) (sk := g49_K) (ts := [(2, none)]) (fn := Tryd.f49) (c := g49_B) (by kernel_rfl) (by kernel_rfl) (by unfold Callable; kernel_rfl) tab_ok trivial follows_mixed (by kernel_rfl) (by kernel_rfl) (Nat.le_of_ble_eq_true (by kernel_rfl)) (by kernel_rfl) (by kernel_rfl)
    (fun d => (g49_top n _ _).trans (Eq.trans (b := g49_6F n (g49_m0 d.1) (finCx (g49_G n) g49_R [(2, none)])) (by kernel_rfl) ((g49_6_fx n _ d.1).trans (by kernel_rfl))))
theorem g48_idle : Idle Tryd.prog 48 2 := fun vs w hv => by
  obtain ⟨p0, p1, rfl⟩ := arr2 hv
  refine callsD_of_wpS (fn := Tryd.f48) (c := fb Tryd.f48) (by kernel_rfl) (by kernel_rfl) fun c₀ cs hu => ?_
  show Code.wpS Tryd.prog (.seq (nav (fb Tryd.f48) [0]) (.cond (.tmp 3) (nav (fb Tryd.f48) [1, 0]) .skip)) _ _ _ _
  apply wpS_seq
  apply wpS_region
  simp [wpOpsS, go_sem, recoverD, hu, Exit.thenS]
  refine wpS_cond (t := false) (by simp [Act.eval, Array.replicate]) ?_
  simp only [Bool.false_eq_true, if_false]
  refine wpS_of_wp (wp_skip ?_)
  cases c₀
  simp_all [bodyPostS, results]
noncomputable def g35_m0 (v0 : (Bool × (Int × (Int × (Nat × (Nat × (Int × Int))))))) (v1 : ByteArray) (v2 : ByteArray) (v3 : Bool) : FState := ⟨tlist [(0, .dat (.pair .bool (.pair (.int .i64) (.pair (.int .i64) (.pair (.flt .f64) (.pair (.flt .f64) (.pair (.int .i64) (.int .i64))))))) v0), (1, .dat .str v1), (2, .dat .str v2), (3, .dat .bool v3)], olist []⟩
noncomputable def g35_m1 (p8 : (List (Int × ByteArray))) (p9 : Int) : FState := ⟨tlist [(8, .ptr 8 0 0), (9, .ptr 9 0 0)], olist [(8, .row (.sl 31 (.pair (.int .i64) .str)) 23 true [p8]), (9, .row (.int .i64) 3 true [p9])]⟩
noncomputable def g35_m1e : List NE := [.ptr 8 (.sl 31 (.pair (.int .i64) .str)) 23 true, .ptr 9 (.int .i64) 3 true]
noncomputable def g35_m2 (v1 : ByteArray) (v2 : ByteArray) (v3 : Bool) (p4 : (Bool × (Int × (Int × (Nat × (Nat × (Int × Int))))))) (p8 : (List (Int × ByteArray))) (p9 : Int) : FState := ⟨tlist [(1, .dat .str v1), (2, .dat .str v2), (3, .dat .bool v3), (4, .ptr 4 0 0), (8, .ptr 8 0 0), (9, .ptr 9 0 0)], olist [(4, .row (.pair .bool (.pair (.int .i64) (.pair (.int .i64) (.pair (.flt .f64) (.pair (.flt .f64) (.pair (.int .i64) (.int .i64))))))) 54 true [p4]), (8, .row (.sl 31 (.pair (.int .i64) .str)) 23 true [p8]), (9, .row (.int .i64) 3 true [p9])]⟩
noncomputable def g35_m2e : List NE := [.keep 1, .keep 2, .keep 3, .ptr 4 (.pair .bool (.pair (.int .i64) (.pair (.int .i64) (.pair (.flt .f64) (.pair (.flt .f64) (.pair (.int .i64) (.int .i64))))))) 54 true, .ptr 8 (.sl 31 (.pair (.int .i64) .str)) 23 true, .ptr 9 (.int .i64) 3 true]
noncomputable def g35_C (n : Nat) : List (Nat × Spec) := [(49, g49_S n), (50, g50_S n), (51, g51_S n)]
noncomputable def g35_G (n : Nat) : Ctx := { Γ0 with calls := lkS (g35_C n) }
noncomputable def g35_B : Code := fb Tryd.f35
noncomputable def g35_1 {β : Type} (n : Nat) (kn : ByteArray → ByteArray → Bool → (Bool × (Int × (Int × (Nat × (Nat × (Int × Int)))))) → (List (Int × ByteArray)) → Int → Option β) (v0 : (Bool × (Int × (Int × (Nat × (Nat × (Int × Int))))))) (v1 : ByteArray) (v2 : ByteArray) (v3 : Bool) : Option β := kn v1 v2 v3 v0 ([] : List (Int × ByteArray)) (0 : Int)
noncomputable def g35_1F {β : Type} (n : Nat) (s : FState) (cx : Cx β) : Option β := FX (g35_G n) n (nav g35_B [0]) (.fin none (some g35_m2e) none [] .leaf) s cx
theorem g35_1_fx {β : Type} (n : Nat) (cx : Cx β) (v0 : (Bool × (Int × (Int × (Nat × (Nat × (Int × Int))))))) (v1 : ByteArray) (v2 : ByteArray) (v3 : Bool) : g35_1F n (g35_m0 v0 v1 v2 v3) cx = g35_1 n (fun v1 v2 v3 p4 p8 p9 => cx.nrm (g35_m2 v1 v2 v3 p4 p8 p9)) v0 v1 v2 v3 := by kernel_rfl
noncomputable def g35_2 {β : Type} (n : Nat) (kr : (List (Int × ByteArray)) → Int → Option β) (v1 : ByteArray) (v2 : ByteArray) (v3 : Bool) (p4 : (Bool × (Int × (Int × (Nat × (Nat × (Int × Int))))))) (p8 : (List (Int × ByteArray))) (p9 : Int) : Option β := (g50 n p4).bind fun r1 => (g51 n r1.1 v1 v2 v3).bind fun r2 => (g49 n r2.1).bind fun r3 => kr r3.1 (0 : Int)
noncomputable def g35_2F {β : Type} (n : Nat) (s : FState) (cx : Cx β) : Option β := FX (g35_G n) n (nav g35_B [1, 1, 0]) (.fin none none (some g35_m1e) [] .leaf) s { cx with nrm := fun s => FX (g35_G n) n (nav g35_B [1, 1, 1]) (.fin none none (some g35_m1e) [] .leaf) s cx }
theorem g35_2_fx {β : Type} (n : Nat) (cx : Cx β) (v1 : ByteArray) (v2 : ByteArray) (v3 : Bool) (p4 : (Bool × (Int × (Int × (Nat × (Nat × (Int × Int))))))) (p8 : (List (Int × ByteArray))) (p9 : Int) : g35_2F n (g35_m2 v1 v2 v3 p4 p8 p9) cx = g35_2 n (fun p8 p9 => cx.ret (g35_m1 p8 p9)) v1 v2 v3 p4 p8 p9 := by kernel_rfl
noncomputable def g35 (n : Nat) (v0 : (Bool × (Int × (Int × (Nat × (Nat × (Int × Int))))))) (v1 : ByteArray) (v2 : ByteArray) (v3 : Bool) : Option (DenR [.ro (.pair (.int .i64) .str) 31, .dat (.int .i64)]) := g35_1 n (fun v1 v2 v3 p4 p8 p9 => g35_2 n (fun p8 p9 => some (p8, (p9, ()))) v1 v2 v3 p4 p8 p9) v0 v1 v2 v3
noncomputable def g35_A : List AK := [.dat (.pair .bool (.pair (.int .i64) (.pair (.int .i64) (.pair (.flt .f64) (.pair (.flt .f64) (.pair (.int .i64) (.int .i64))))))), .dat .str, .dat .str, .dat .bool]
noncomputable def g35_R : List RK := [.ro (.pair (.int .i64) .str) 31, .dat (.int .i64)]
noncomputable def g35_f (n : Nat) (d : DenA g35_A) : Option (DenR g35_R) := g35 n d.1 d.2.1 d.2.2.1 d.2.2.2.1
noncomputable def g35_S (n : Nat) : Spec := mkSpec g35_A g35_R (g35_f n)
noncomputable def g35_K0 : Sk := (.fin none (some g35_m2e) none [] .leaf)
noncomputable def g35_K1 : Sk := (.nd (.fin none none (some g35_m1e) [] .leaf) (.fin none none (some g35_m1e) [] .leaf))
noncomputable def g35_K2 : Sk := (.fin (some g35_m2e) none none [] (.nd (.fin none none (some g35_m1e) [] .leaf) (.fin none none (some g35_m1e) [] .leaf)))
theorem g35_top {β : Type} (n : Nat) (s : FState) (cx : Cx β) : FX (g35_G n) n (nav g35_B [1, 1]) g35_K1 s cx = g35_2F n s cx := by kernel_rfl
theorem g35_mid {β : Type} (n : Nat) (cx : Cx β) (v1 : ByteArray) (v2 : ByteArray) (v3 : Bool) (p4 : (Bool × (Int × (Int × (Nat × (Nat × (Int × Int))))))) (p8 : (List (Int × ByteArray))) (p9 : Int) : FX (g35_G n) n (nav g35_B [1, 1]) g35_K2 (FState.set (g35_m2 v1 v2 v3 p4 p8 p9) 10 .dead) cx = g35_2 n (fun p8 p9 => cx.ret (g35_m1 p8 p9)) v1 v2 v3 p4 p8 p9 :=
  Eq.trans (b := FX (g35_G n) n (nav g35_B [1, 1]) g35_K1 (g35_m2 v1 v2 v3 p4 p8 p9) cx) (by kernel_rfl) ((g35_top n _ _).trans (g35_2_fx n cx v1 v2 v3 p4 p8 p9))
theorem g35_fit (n : Nat) : Fit Tryd.prog 35 (g35_S n) :=
  fit_of_wrap (Γ := Γ0) (l := g35_C n) (n := n) (sk0 := g35_K0) (sk1 := g35_K2) (ts := [(8, some 23), (9, some 3)]) (fn := Tryd.f35) (c := g35_B) (c0 := nav g35_B [0]) (c1 := nav g35_B [1, 1]) (tm := 10) (g := 48) (k := 2) (by kernel_rfl) (by kernel_rfl) (by kernel_rfl) (by unfold Callable; kernel_rfl) tab_ok ⟨g49_fit n, g50_fit n, g51_fit n, trivial⟩ follows_mixed (by unfold Callable; kernel_rfl) g48_idle (by kernel_rfl) (by kernel_rfl) (by kernel_rfl) (Nat.le_of_ble_eq_true (by kernel_rfl)) (Nat.le_of_ble_eq_true (by kernel_rfl)) (by kernel_rfl) (by kernel_rfl)
    (fun d => Eq.trans (b := g35_1F n (g35_m0 d.1 d.2.1 d.2.2.1 d.2.2.2.1) ⟨fun s => FX (g35_G n) n (nav g35_B [1, 1]) g35_K2 (FState.set s 10 .dead) (finCx (g35_G n) g35_R [(8, some 23), (9, some 3)]), fun _ => none, fun _ _ => none⟩) (by kernel_rfl) ((g35_1_fx n _ d.1 d.2.1 d.2.2.1 d.2.2.2.1).trans (Eq.trans (b := g35_1 n (fun v1 v2 v3 p4 p8 p9 => g35_2 n (fun p8 p9 => (finCx (g35_G n) g35_R [(8, some 23), (9, some 3)]).ret (g35_m1 p8 p9)) v1 v2 v3 p4 p8 p9) d.1 d.2.1 d.2.2.1 d.2.2.2.1) (congrArg (fun k_ => g35_1 n k_ d.1 d.2.1 d.2.2.1 d.2.2.2.1) (funext fun v1 => (funext fun v2 => (funext fun v3 => (funext fun p4 => (funext fun p8 => (funext fun p9 => g35_mid n (finCx (g35_G n) g35_R [(8, some 23), (9, some 3)]) v1 v2 v3 p4 p8 p9))))))) (by kernel_rfl))))
noncomputable def g36_m0 (x0 : List (Int × ByteArray)) (v1 : Int) : FState := ⟨tlist [(0, .sl 0 none false), (1, .dat (.int .i64) v1)], olist [(0, .row (.pair (.int .i64) .str) 31 false x0)]⟩
noncomputable def g36_m1 (x4 : List (Int × ByteArray)) : FState := ⟨tlist [(4, .sl 4 none false)], olist [(4, .row (.pair (.int .i64) .str) 31 false x4)]⟩
noncomputable def g36_m1e : List NE := [.row 4 (.pair (.int .i64) .str) 31 false]
noncomputable def g36_C (n : Nat) : List (Nat × Spec) := []
noncomputable def g36_G (n : Nat) : Ctx := { Γ0 with calls := lkS (g36_C n) }
noncomputable def g36_B : Code := fb Tryd.f36
noncomputable def g36_1 {β : Type} (n : Nat) (kr : List (Int × ByteArray) → Option β) (x0 : List (Int × ByteArray)) (v1 : Int) : Option β := bif (v1 != (0 : Int)) then (kr [((1 : Int), (⟨#[0, 102, 97, 117, 108, 116]⟩ : ByteArray)), ((1 : Int), (⟨#[]⟩ : ByteArray))]) else (kr x0)
noncomputable def g36_1F {β : Type} (n : Nat) (s : FState) (cx : Cx β) : Option β := FX (g36_G n) n (nav g36_B [0]) (.fin none none (some g36_m1e) [] .leaf) s { cx with nrm := fun s => FX (g36_G n) n (nav g36_B [1, 0, 0]) (.fin none none (some g36_m1e) [] .leaf) s { cx with nrm := fun s => FX (g36_G n) n (nav g36_B [1, 0, 1]) (.fin none none (some g36_m1e) [] .leaf) s { cx with nrm := fun s => FX (g36_G n) n (nav g36_B [1, 1, 0]) (.fin none none (some g36_m1e) [] .leaf) s { cx with nrm := fun s => FX (g36_G n) n (nav g36_B [1, 1, 1]) (.fin none none (some g36_m1e) [] .leaf) s cx } } } }
theorem g36_1_fx {β : Type} (n : Nat) (cx : Cx β) (x0 : List (Int × ByteArray)) (v1 : Int) : g36_1F n (g36_m0 x0 v1) cx = g36_1 n (fun x4 => cx.ret (g36_m1 x4)) x0 v1 := by kernel_rfl
noncomputable def g36 (n : Nat) (x0 : List (Int × ByteArray)) (v1 : Int) : Option (DenR [.ro (.pair (.int .i64) .str) 31]) := g36_1 n (fun x4 => some (x4, ())) x0 v1
noncomputable def g36_A : List AK := [.ro (.pair (.int .i64) .str) 31, .dat (.int .i64)]
noncomputable def g36_R : List RK := [.ro (.pair (.int .i64) .str) 31]
noncomputable def g36_f (n : Nat) (d : DenA g36_A) : Option (DenR g36_R) := g36 n d.1 d.2.1
noncomputable def g36_S (n : Nat) : Spec := mkSpec g36_A g36_R (g36_f n)
noncomputable def g36_K : Sk := (.nd (.fin none none (some g36_m1e) [] .leaf) (.nd (.nd (.fin none none (some g36_m1e) [] .leaf) (.fin none none (some g36_m1e) [] .leaf)) (.nd (.fin none none (some g36_m1e) [] .leaf) (.fin none none (some g36_m1e) [] .leaf))))
theorem g36_top {β : Type} (n : Nat) (s : FState) (cx : Cx β) : FX (g36_G n) n g36_B g36_K s cx = g36_1F n s cx := by kernel_rfl
theorem g36_fit (n : Nat) : Fit Tryd.prog 36 (g36_S n) :=
  fit_of (Γ := Γ0) (l := g36_C n) (n := n) (sk := g36_K) (ts := [(4, none)]) (fn := Tryd.f36) (c := g36_B) (by kernel_rfl) (by kernel_rfl) (by unfold Callable; kernel_rfl) tab_ok trivial follows_mixed (by kernel_rfl) (by kernel_rfl) (Nat.le_of_ble_eq_true (by kernel_rfl)) (by kernel_rfl) (by kernel_rfl)
    (fun d => (g36_top n _ _).trans (Eq.trans (b := g36_1F n (g36_m0 d.1 d.2.1) (finCx (g36_G n) g36_R [(4, none)])) (by kernel_rfl) ((g36_1_fx n _ d.1 d.2.1).trans (by kernel_rfl))))
noncomputable def g14_m0 (v0 : ByteArray) (v1 : ByteArray) (v2 : Bool) : FState := ⟨tlist [(0, .dat .str v0), (1, .dat .str v1), (2, .dat .bool v2)], olist []⟩
noncomputable def g14_m1 (x6 : List (Int × ByteArray)) : FState := ⟨tlist [(6, .sl 6 none false)], olist [(6, .row (.pair (.int .i64) .str) 31 false x6)]⟩
noncomputable def g14_m1e : List NE := [.row 6 (.pair (.int .i64) .str) 31 false]
noncomputable def g14_C (n : Nat) : List (Nat × Spec) := [(35, g35_S n), (36, g36_S n)]
noncomputable def g14_G (n : Nat) : Ctx := { Γ0 with calls := lkS (g14_C n) }
noncomputable def g14_B : Code := fb Tryd.f14
noncomputable def g14_1 {β : Type} (n : Nat) (kr : List (Int × ByteArray) → Option β) (v0 : ByteArray) (v1 : ByteArray) (v2 : Bool) : Option β := (g35 n (false, ((0 : Int), ((0 : Int), ((0 : Nat), ((0 : Nat), ((0 : Int), (0 : Int))))))) v0 v1 v2).bind fun r1 => (g36 n r1.1 r1.2.1).bind fun r2 => kr r2.1
noncomputable def g14_1F {β : Type} (n : Nat) (s : FState) (cx : Cx β) : Option β := FX (g14_G n) n (nav g14_B [0]) (.fin none none (some g14_m1e) [] .leaf) s { cx with nrm := fun s => FX (g14_G n) n (nav g14_B [1, 0]) (.fin none none (some g14_m1e) [] .leaf) s { cx with nrm := fun s => FX (g14_G n) n (nav g14_B [1, 1, 0]) (.fin none none (some g14_m1e) [] .leaf) s { cx with nrm := fun s => FX (g14_G n) n (nav g14_B [1, 1, 1]) (.fin none none (some g14_m1e) [] .leaf) s cx } } }
theorem g14_1_fx {β : Type} (n : Nat) (cx : Cx β) (v0 : ByteArray) (v1 : ByteArray) (v2 : Bool) : g14_1F n (g14_m0 v0 v1 v2) cx = g14_1 n (fun x6 => cx.ret (g14_m1 x6)) v0 v1 v2 := by kernel_rfl
noncomputable def g14 (n : Nat) (v0 : ByteArray) (v1 : ByteArray) (v2 : Bool) : Option (DenR [.ro (.pair (.int .i64) .str) 31]) := g14_1 n (fun x6 => some (x6, ())) v0 v1 v2
noncomputable def g14_A : List AK := [.dat .str, .dat .str, .dat .bool]
noncomputable def g14_R : List RK := [.ro (.pair (.int .i64) .str) 31]
noncomputable def g14_f (n : Nat) (d : DenA g14_A) : Option (DenR g14_R) := g14 n d.1 d.2.1 d.2.2.1
noncomputable def g14_S (n : Nat) : Spec := mkSpec g14_A g14_R (g14_f n)
noncomputable def g14_K : Sk := (.nd (.fin none none (some g14_m1e) [] .leaf) (.nd (.fin none none (some g14_m1e) [] .leaf) (.nd (.fin none none (some g14_m1e) [] .leaf) (.fin none none (some g14_m1e) [] .leaf))))
theorem g14_top {β : Type} (n : Nat) (s : FState) (cx : Cx β) : FX (g14_G n) n g14_B g14_K s cx = g14_1F n s cx := by kernel_rfl
theorem g14_fit (n : Nat) : Fit Tryd.prog 14 (g14_S n) :=
  fit_of (Γ := Γ0) (l := g14_C n) (n := n) (sk := g14_K) (ts := [(6, none)]) (fn := Tryd.f14) (c := g14_B) (by kernel_rfl) (by kernel_rfl) (by unfold Callable; kernel_rfl) tab_ok ⟨g35_fit n, g36_fit n, trivial⟩ follows_mixed (by kernel_rfl) (by kernel_rfl) (Nat.le_of_ble_eq_true (by kernel_rfl)) (by kernel_rfl) (by kernel_rfl)
    (fun d => (g14_top n _ _).trans (Eq.trans (b := g14_1F n (g14_m0 d.1 d.2.1 d.2.2.1) (finCx (g14_G n) g14_R [(6, none)])) (by kernel_rfl) ((g14_1_fx n _ d.1 d.2.1 d.2.2.1).trans (by kernel_rfl))))
noncomputable def g15_m0 (x0 : List (Int × ByteArray)) : FState := ⟨tlist [(0, .sl 0 none false)], olist [(0, .row (.pair (.int .i64) .str) 31 false x0)]⟩
noncomputable def g15_m1 (v2 : Int) : FState := ⟨tlist [(2, .dat (.int .i64) v2)], olist []⟩
noncomputable def g15_m1e : List NE := [.keep 2]
noncomputable def g15_m2 (v3 : Int) (x6 : List (Int × ByteArray)) (v7 : Int) (v8 : Int) : FState := ⟨tlist [(3, .dat (.int .i64) v3), (6, .sl 6 none false), (7, .dat (.int .i64) v7), (8, .dat (.int .i64) v8)], olist [(6, .row (.pair (.int .i64) .str) 31 false x6)]⟩
noncomputable def g15_m2e : List NE := [.keep 3, .row 6 (.pair (.int .i64) .str) 31 false, .keep 7, .keep 8]
noncomputable def g15_m3 (v3 : Int) : FState := ⟨tlist [(3, .dat (.int .i64) v3)], olist []⟩
noncomputable def g15_m3e : List NE := [.keep 3]
noncomputable def g15_C (n : Nat) : List (Nat × Spec) := [(20, g20_S n)]
noncomputable def g15_G (n : Nat) : Ctx := { Γ0 with calls := lkS (g15_C n) }
noncomputable def g15_B : Code := fb Tryd.f15
noncomputable def g15_1 {β : Type} (n : Nat) (kn : Int → List (Int × ByteArray) → Int → Int → Option β) (x0 : List (Int × ByteArray)) : Option β := kn (0 : Int) x0 (x0.length : Int) (0 : Int)
noncomputable def g15_1F {β : Type} (n : Nat) (s : FState) (cx : Cx β) : Option β := FX (g15_G n) n (nav g15_B [0]) (.fin none none none [] .leaf) s { cx with nrm := fun s => FX (g15_G n) n (nav g15_B [1, 0]) (.fin none none none [] .leaf) s { cx with nrm := fun s => FX (g15_G n) n (nav g15_B [1, 1, 0, 0]) (.fin none (some g15_m2e) none [] .leaf) s cx } }
theorem g15_1_fx {β : Type} (n : Nat) (cx : Cx β) (x0 : List (Int × ByteArray)) : g15_1F n (g15_m0 x0) cx = g15_1 n (fun v3 x6 v7 v8 => cx.nrm (g15_m2 v3 x6 v7 v8)) x0 := by kernel_rfl
noncomputable def g15_2 {β : Type} (n : Nat) (kn : Int → List (Int × ByteArray) → Int → Int → Option β) (kx0 : Int → Option β) (v3 : Int) (x6 : List (Int × ByteArray)) (v7 : Int) (v8 : Int) : Option β := bif (decide (v8 < v7)) then (idx v8 (x6.length : Int) <| bif ((rd [(rd x6 v8 ((0 : Int), (⟨#[]⟩ : ByteArray)))] (0 : Int) ((0 : Int), (⟨#[]⟩ : ByteArray))).1 != (0 : Int)) then ((g20 n ((rd [(rd x6 v8 ((0 : Int), (⟨#[]⟩ : ByteArray)))] (0 : Int) ((0 : Int), (⟨#[]⟩ : ByteArray))).2)).bind fun r1 => kn (w64 (v3 + (r1.1.length : Int))) x6 v7 (w64 (v8 + (1 : Int)))) else (kn v3 x6 v7 (w64 (v8 + (1 : Int))))) else (kx0 v3)
noncomputable def g15_2F {β : Type} (n : Nat) (s : FState) (cx : Cx β) : Option β := FX (g15_G n) n (nav g15_B [1, 1, 0, 1, 0, 0, 0]) (.fin none none none [(0, g15_m3e)] .leaf) s { cx with nrm := fun s => FX (g15_G n) n (nav g15_B [1, 1, 0, 1, 0, 0, 1, 0]) (.fin none none none [(0, g15_m3e)] .leaf) s { cx with nrm := fun s => FX (g15_G n) n (nav g15_B [1, 1, 0, 1, 0, 0, 1, 1, 0]) (.fin none none none [(0, g15_m3e)] .leaf) s { cx with nrm := fun s => FX (g15_G n) n (nav g15_B [1, 1, 0, 1, 0, 0, 1, 1, 1]) (.fin none (some g15_m2e) none [(0, g15_m3e)] .leaf) s cx } } }
theorem g15_2_fx {β : Type} (n : Nat) (cx : Cx β) (v3 : Int) (x6 : List (Int × ByteArray)) (v7 : Int) (v8 : Int) : g15_2F n (g15_m2 v3 x6 v7 v8) cx = g15_2 n (fun v3 x6 v7 v8 => cx.nrm (g15_m2 v3 x6 v7 v8)) (fun v3 => cx.ex 0 (g15_m3 v3)) v3 x6 v7 v8 := by kernel_rfl
noncomputable def g15_3L {β : Type} (n : Nat) (kx0 : Int → Option β) : Nat → Int → List (Int × ByteArray) → Int → Int → Option β
  | 0, _, _, _, _ => none
  | m + 1, v3, x6, v7, v8 => g15_2 n (g15_3L n kx0 m) kx0 v3 x6 v7 v8
noncomputable def g15_3 {β : Type} (n : Nat) (kx0 : Int → Option β) (v3 : Int) (x6 : List (Int × ByteArray)) (v7 : Int) (v8 : Int) : Option β := g15_3L n kx0 n v3 x6 v7 v8
noncomputable def g15_3F {β : Type} (n : Nat) (s : FState) (cx : Cx β) : Option β := loopN (fun again s => g15_2F n s { cx with nrm := again }) n s
theorem g15_3L_fx {β : Type} (n : Nat) (cx : Cx β) : ∀ (m : Nat) (v3 : Int) (x6 : List (Int × ByteArray)) (v7 : Int) (v8 : Int), loopN (fun again s => g15_2F n s { cx with nrm := again }) m (g15_m2 v3 x6 v7 v8) = g15_3L n (fun v3 => cx.ex 0 (g15_m3 v3)) m v3 x6 v7 v8 := by
  intro m
  induction m with
  | zero => intros; rfl
  | succ m ih => intros; simp only [loopN, g15_3L, g15_2_fx, ih]
theorem g15_3_fx {β : Type} (n : Nat) (cx : Cx β) (v3 : Int) (x6 : List (Int × ByteArray)) (v7 : Int) (v8 : Int) : g15_3F n (g15_m2 v3 x6 v7 v8) cx = g15_3 n (fun v3 => cx.ex 0 (g15_m3 v3)) v3 x6 v7 v8 := g15_3L_fx n cx n v3 x6 v7 v8
noncomputable def g15_4 {β : Type} (n : Nat) (kn : Int → Option β) (v3 : Int) (x6 : List (Int × ByteArray)) (v7 : Int) (v8 : Int) : Option β := g15_3 n kn v3 x6 v7 v8
noncomputable def g15_4F {β : Type} (n : Nat) (s : FState) (cx : Cx β) : Option β := g15_3F n s { cx with ex := fun j s => bif Nat.beq j 0 then cx.nrm s else cx.ex j s }
theorem g15_4_fx {β : Type} (n : Nat) (cx : Cx β) (v3 : Int) (x6 : List (Int × ByteArray)) (v7 : Int) (v8 : Int) : g15_4F n (g15_m2 v3 x6 v7 v8) cx = g15_4 n (fun v3 => cx.nrm (g15_m3 v3)) v3 x6 v7 v8 := g15_3_fx n _ v3 x6 v7 v8
noncomputable def g15_5 {β : Type} (n : Nat) (kr : Int → Option β) (v3 : Int) : Option β := kr v3
noncomputable def g15_5F {β : Type} (n : Nat) (s : FState) (cx : Cx β) : Option β := FX (g15_G n) n (nav g15_B [1, 1, 1, 0]) (.fin none none (some g15_m1e) [] .leaf) s { cx with nrm := fun s => FX (g15_G n) n (nav g15_B [1, 1, 1, 1]) (.fin none none (some g15_m1e) [] .leaf) s cx }
theorem g15_5_fx {β : Type} (n : Nat) (cx : Cx β) (v3 : Int) : g15_5F n (g15_m3 v3) cx = g15_5 n (fun v2 => cx.ret (g15_m1 v2)) v3 := by kernel_rfl
noncomputable def g15_6 {β : Type} (n : Nat) (kr : Int → Option β) (x0 : List (Int × ByteArray)) : Option β := g15_1 n (fun v3 x6 v7 v8 => g15_4 n (fun v3 => g15_5 n kr v3) v3 x6 v7 v8) x0
noncomputable def g15_6F {β : Type} (n : Nat) (s : FState) (cx : Cx β) : Option β := g15_1F n s { cx with nrm := fun s => g15_4F n s { cx with nrm := fun s => g15_5F n s cx } }
theorem g15_6_fx {β : Type} (n : Nat) (cx : Cx β) (x0 : List (Int × ByteArray)) : g15_6F n (g15_m0 x0) cx = g15_6 n (fun v2 => cx.ret (g15_m1 v2)) x0 := by simp only [g15_6F, g15_6, g15_1_fx, g15_4_fx, g15_5_fx]
noncomputable def g15 (n : Nat) (x0 : List (Int × ByteArray)) : Option (DenR [.dat (.int .i64)]) := g15_6 n (fun v2 => some (v2, ())) x0
noncomputable def g15_A : List AK := [.ro (.pair (.int .i64) .str) 31]
noncomputable def g15_R : List RK := [.dat (.int .i64)]
noncomputable def g15_f (n : Nat) (d : DenA g15_A) : Option (DenR g15_R) := g15 n d.1
noncomputable def g15_S (n : Nat) : Spec := mkSpec g15_A g15_R (g15_f n)
noncomputable def g15_K : Sk := (.nd (.fin none none none [] .leaf) (.nd (.fin none none none [] .leaf) (.nd (.nd (.fin none (some g15_m2e) none [] .leaf) (.nd (.nd (.nd (.fin none none none [(0, g15_m3e)] .leaf) (.nd (.fin none none none [(0, g15_m3e)] .leaf) (.nd (.fin none none none [(0, g15_m3e)] .leaf) (.fin none (some g15_m2e) none [(0, g15_m3e)] .leaf)))) .leaf) .leaf)) (.nd (.fin none none (some g15_m1e) [] .leaf) (.fin none none (some g15_m1e) [] .leaf)))))
theorem g15_top {β : Type} (n : Nat) (s : FState) (cx : Cx β) : FX (g15_G n) n g15_B g15_K s cx = g15_6F n s cx := by kernel_rfl
theorem g15_fit (n : Nat) : Fit Tryd.prog 15 (g15_S n) :=
  fit_of (Γ := Γ0) (l := g15_C n) (n := n) (sk := g15_K) (ts := [(2, none)]) (fn := Tryd.f15) (c := g15_B) (by kernel_rfl) (by kernel_rfl) (by unfold Callable; kernel_rfl) tab_ok ⟨g20_fit n, trivial⟩ follows_mixed (by kernel_rfl) (by kernel_rfl) (Nat.le_of_ble_eq_true (by kernel_rfl)) (by kernel_rfl) (by kernel_rfl)
    (fun d => (g15_top n _ _).trans (Eq.trans (b := g15_6F n (g15_m0 d.1) (finCx (g15_G n) g15_R [(2, none)])) (by kernel_rfl) ((g15_6_fx n _ d.1).trans (by kernel_rfl))))
noncomputable def g16_m0 (x0 : List (Int × ByteArray)) : FState := ⟨tlist [(0, .sl 0 none false)], olist [(0, .row (.pair (.int .i64) .str) 31 false x0)]⟩
noncomputable def g16_m1 (v2 : ByteArray) : FState := ⟨tlist [(2, .dat .str v2)], olist []⟩
noncomputable def g16_m1e : List NE := [.keep 2]
noncomputable def g16_m2 (v3 : ByteArray) (x6 : List (Int × ByteArray)) (v7 : Int) (v8 : Int) : FState := ⟨tlist [(3, .dat .str v3), (6, .sl 6 none false), (7, .dat (.int .i64) v7), (8, .dat (.int .i64) v8)], olist [(6, .row (.pair (.int .i64) .str) 31 false x6)]⟩
noncomputable def g16_m2e : List NE := [.keep 3, .row 6 (.pair (.int .i64) .str) 31 false, .keep 7, .keep 8]
noncomputable def g16_m3 (v3 : ByteArray) : FState := ⟨tlist [(3, .dat .str v3)], olist []⟩
noncomputable def g16_m3e : List NE := [.keep 3]
noncomputable def g16_C (n : Nat) : List (Nat × Spec) := []
noncomputable def g16_G (n : Nat) : Ctx := { Γ0 with calls := lkS (g16_C n) }
noncomputable def g16_B : Code := fb Tryd.f16
noncomputable def g16_1 {β : Type} (n : Nat) (kn : ByteArray → List (Int × ByteArray) → Int → Int → Option β) (x0 : List (Int × ByteArray)) : Option β := kn (⟨#[]⟩ : ByteArray) x0 (x0.length : Int) (0 : Int)
noncomputable def g16_1F {β : Type} (n : Nat) (s : FState) (cx : Cx β) : Option β := FX (g16_G n) n (nav g16_B [0]) (.fin none none none [] .leaf) s { cx with nrm := fun s => FX (g16_G n) n (nav g16_B [1, 0]) (.fin none none none [] .leaf) s { cx with nrm := fun s => FX (g16_G n) n (nav g16_B [1, 1, 0, 0]) (.fin none (some g16_m2e) none [] .leaf) s cx } }
theorem g16_1_fx {β : Type} (n : Nat) (cx : Cx β) (x0 : List (Int × ByteArray)) : g16_1F n (g16_m0 x0) cx = g16_1 n (fun v3 x6 v7 v8 => cx.nrm (g16_m2 v3 x6 v7 v8)) x0 := by kernel_rfl
noncomputable def g16_2 {β : Type} (n : Nat) (kn : ByteArray → List (Int × ByteArray) → Int → Int → Option β) (kx0 : ByteArray → Option β) (v3 : ByteArray) (x6 : List (Int × ByteArray)) (v7 : Int) (v8 : Int) : Option β := bif (decide (v8 < v7)) then (idx v8 (x6.length : Int) <| bif ((rd [(rd x6 v8 ((0 : Int), (⟨#[]⟩ : ByteArray)))] (0 : Int) ((0 : Int), (⟨#[]⟩ : ByteArray))).1 != (1 : Int)) then (roomy (v3.size + ((rd [(rd x6 v8 ((0 : Int), (⟨#[]⟩ : ByteArray)))] (0 : Int) ((0 : Int), (⟨#[]⟩ : ByteArray))).2).size) <| kn (v3 ++ (rd [(rd x6 v8 ((0 : Int), (⟨#[]⟩ : ByteArray)))] (0 : Int) ((0 : Int), (⟨#[]⟩ : ByteArray))).2) x6 v7 (w64 (v8 + (1 : Int)))) else (kn v3 x6 v7 (w64 (v8 + (1 : Int))))) else (kx0 v3)
noncomputable def g16_2F {β : Type} (n : Nat) (s : FState) (cx : Cx β) : Option β := FX (g16_G n) n (nav g16_B [1, 1, 0, 1, 0, 0, 0]) (.fin none none none [(0, g16_m3e)] .leaf) s { cx with nrm := fun s => FX (g16_G n) n (nav g16_B [1, 1, 0, 1, 0, 0, 1, 0]) (.fin none none none [(0, g16_m3e)] .leaf) s { cx with nrm := fun s => FX (g16_G n) n (nav g16_B [1, 1, 0, 1, 0, 0, 1, 1, 0]) (.fin none none none [(0, g16_m3e)] .leaf) s { cx with nrm := fun s => FX (g16_G n) n (nav g16_B [1, 1, 0, 1, 0, 0, 1, 1, 1]) (.fin none (some g16_m2e) none [(0, g16_m3e)] .leaf) s cx } } }
theorem g16_2_fx {β : Type} (n : Nat) (cx : Cx β) (v3 : ByteArray) (x6 : List (Int × ByteArray)) (v7 : Int) (v8 : Int) : g16_2F n (g16_m2 v3 x6 v7 v8) cx = g16_2 n (fun v3 x6 v7 v8 => cx.nrm (g16_m2 v3 x6 v7 v8)) (fun v3 => cx.ex 0 (g16_m3 v3)) v3 x6 v7 v8 := by kernel_rfl
noncomputable def g16_3L {β : Type} (n : Nat) (kx0 : ByteArray → Option β) : Nat → ByteArray → List (Int × ByteArray) → Int → Int → Option β
  | 0, _, _, _, _ => none
  | m + 1, v3, x6, v7, v8 => g16_2 n (g16_3L n kx0 m) kx0 v3 x6 v7 v8
noncomputable def g16_3 {β : Type} (n : Nat) (kx0 : ByteArray → Option β) (v3 : ByteArray) (x6 : List (Int × ByteArray)) (v7 : Int) (v8 : Int) : Option β := g16_3L n kx0 n v3 x6 v7 v8
noncomputable def g16_3F {β : Type} (n : Nat) (s : FState) (cx : Cx β) : Option β := loopN (fun again s => g16_2F n s { cx with nrm := again }) n s
theorem g16_3L_fx {β : Type} (n : Nat) (cx : Cx β) : ∀ (m : Nat) (v3 : ByteArray) (x6 : List (Int × ByteArray)) (v7 : Int) (v8 : Int), loopN (fun again s => g16_2F n s { cx with nrm := again }) m (g16_m2 v3 x6 v7 v8) = g16_3L n (fun v3 => cx.ex 0 (g16_m3 v3)) m v3 x6 v7 v8 := by
  intro m
  induction m with
  | zero => intros; rfl
  | succ m ih => intros; simp only [loopN, g16_3L, g16_2_fx, ih]
theorem g16_3_fx {β : Type} (n : Nat) (cx : Cx β) (v3 : ByteArray) (x6 : List (Int × ByteArray)) (v7 : Int) (v8 : Int) : g16_3F n (g16_m2 v3 x6 v7 v8) cx = g16_3 n (fun v3 => cx.ex 0 (g16_m3 v3)) v3 x6 v7 v8 := g16_3L_fx n cx n v3 x6 v7 v8
noncomputable def g16_4 {β : Type} (n : Nat) (kn : ByteArray → Option β) (v3 : ByteArray) (x6 : List (Int × ByteArray)) (v7 : Int) (v8 : Int) : Option β := g16_3 n kn v3 x6 v7 v8
noncomputable def g16_4F {β : Type} (n : Nat) (s : FState) (cx : Cx β) : Option β := g16_3F n s { cx with ex := fun j s => bif Nat.beq j 0 then cx.nrm s else cx.ex j s }
theorem g16_4_fx {β : Type} (n : Nat) (cx : Cx β) (v3 : ByteArray) (x6 : List (Int × ByteArray)) (v7 : Int) (v8 : Int) : g16_4F n (g16_m2 v3 x6 v7 v8) cx = g16_4 n (fun v3 => cx.nrm (g16_m3 v3)) v3 x6 v7 v8 := g16_3_fx n _ v3 x6 v7 v8
noncomputable def g16_5 {β : Type} (n : Nat) (kr : ByteArray → Option β) (v3 : ByteArray) : Option β := kr v3
noncomputable def g16_5F {β : Type} (n : Nat) (s : FState) (cx : Cx β) : Option β := FX (g16_G n) n (nav g16_B [1, 1, 1, 0]) (.fin none none (some g16_m1e) [] .leaf) s { cx with nrm := fun s => FX (g16_G n) n (nav g16_B [1, 1, 1, 1]) (.fin none none (some g16_m1e) [] .leaf) s cx }
theorem g16_5_fx {β : Type} (n : Nat) (cx : Cx β) (v3 : ByteArray) : g16_5F n (g16_m3 v3) cx = g16_5 n (fun v2 => cx.ret (g16_m1 v2)) v3 := by kernel_rfl
noncomputable def g16_6 {β : Type} (n : Nat) (kr : ByteArray → Option β) (x0 : List (Int × ByteArray)) : Option β := g16_1 n (fun v3 x6 v7 v8 => g16_4 n (fun v3 => g16_5 n kr v3) v3 x6 v7 v8) x0
noncomputable def g16_6F {β : Type} (n : Nat) (s : FState) (cx : Cx β) : Option β := g16_1F n s { cx with nrm := fun s => g16_4F n s { cx with nrm := fun s => g16_5F n s cx } }
theorem g16_6_fx {β : Type} (n : Nat) (cx : Cx β) (x0 : List (Int × ByteArray)) : g16_6F n (g16_m0 x0) cx = g16_6 n (fun v2 => cx.ret (g16_m1 v2)) x0 := by simp only [g16_6F, g16_6, g16_1_fx, g16_4_fx, g16_5_fx]
noncomputable def g16 (n : Nat) (x0 : List (Int × ByteArray)) : Option (DenR [.dat .str]) := g16_6 n (fun v2 => some (v2, ())) x0
noncomputable def g16_A : List AK := [.ro (.pair (.int .i64) .str) 31]
noncomputable def g16_R : List RK := [.dat .str]
noncomputable def g16_f (n : Nat) (d : DenA g16_A) : Option (DenR g16_R) := g16 n d.1
noncomputable def g16_S (n : Nat) : Spec := mkSpec g16_A g16_R (g16_f n)
noncomputable def g16_K : Sk := (.nd (.fin none none none [] .leaf) (.nd (.fin none none none [] .leaf) (.nd (.nd (.fin none (some g16_m2e) none [] .leaf) (.nd (.nd (.nd (.fin none none none [(0, g16_m3e)] .leaf) (.nd (.fin none none none [(0, g16_m3e)] .leaf) (.nd (.fin none none none [(0, g16_m3e)] .leaf) (.fin none (some g16_m2e) none [(0, g16_m3e)] .leaf)))) .leaf) .leaf)) (.nd (.fin none none (some g16_m1e) [] .leaf) (.fin none none (some g16_m1e) [] .leaf)))))
theorem g16_top {β : Type} (n : Nat) (s : FState) (cx : Cx β) : FX (g16_G n) n g16_B g16_K s cx = g16_6F n s cx := by kernel_rfl
theorem g16_fit (n : Nat) : Fit Tryd.prog 16 (g16_S n) :=
  fit_of (Γ := Γ0) (l := g16_C n) (n := n) (sk := g16_K) (ts := [(2, none)]) (fn := Tryd.f16) (c := g16_B) (by kernel_rfl) (by kernel_rfl) (by unfold Callable; kernel_rfl) tab_ok trivial follows_mixed (by kernel_rfl) (by kernel_rfl) (Nat.le_of_ble_eq_true (by kernel_rfl)) (by kernel_rfl) (by kernel_rfl)
    (fun d => (g16_top n _ _).trans (Eq.trans (b := g16_6F n (g16_m0 d.1) (finCx (g16_G n) g16_R [(2, none)])) (by kernel_rfl) ((g16_6_fx n _ d.1).trans (by kernel_rfl))))
noncomputable def g17_m0 (x0 : List (Int × ByteArray)) : FState := ⟨tlist [(0, .sl 0 none false)], olist [(0, .row (.pair (.int .i64) .str) 31 false x0)]⟩
noncomputable def g17_m1 (v2 : ByteArray) : FState := ⟨tlist [(2, .dat .str v2)], olist []⟩
noncomputable def g17_m1e : List NE := [.keep 2]
noncomputable def g17_m2 (v3 : ByteArray) (x6 : List (Int × ByteArray)) (v7 : Int) (v8 : Int) : FState := ⟨tlist [(3, .dat .str v3), (6, .sl 6 none false), (7, .dat (.int .i64) v7), (8, .dat (.int .i64) v8)], olist [(6, .row (.pair (.int .i64) .str) 31 false x6)]⟩
noncomputable def g17_m2e : List NE := [.keep 3, .row 6 (.pair (.int .i64) .str) 31 false, .keep 7, .keep 8]
noncomputable def g17_m3 (v3 : ByteArray) : FState := ⟨tlist [(3, .dat .str v3)], olist []⟩
noncomputable def g17_m3e : List NE := [.keep 3]
noncomputable def g17_C (n : Nat) : List (Nat × Spec) := []
noncomputable def g17_G (n : Nat) : Ctx := { Γ0 with calls := lkS (g17_C n) }
noncomputable def g17_B : Code := fb Tryd.f17
noncomputable def g17_1 {β : Type} (n : Nat) (kn : ByteArray → List (Int × ByteArray) → Int → Int → Option β) (x0 : List (Int × ByteArray)) : Option β := kn (⟨#[]⟩ : ByteArray) x0 (x0.length : Int) (0 : Int)
noncomputable def g17_1F {β : Type} (n : Nat) (s : FState) (cx : Cx β) : Option β := FX (g17_G n) n (nav g17_B [0]) (.fin none none none [] .leaf) s { cx with nrm := fun s => FX (g17_G n) n (nav g17_B [1, 0]) (.fin none none none [] .leaf) s { cx with nrm := fun s => FX (g17_G n) n (nav g17_B [1, 1, 0, 0]) (.fin none (some g17_m2e) none [] .leaf) s cx } }
theorem g17_1_fx {β : Type} (n : Nat) (cx : Cx β) (x0 : List (Int × ByteArray)) : g17_1F n (g17_m0 x0) cx = g17_1 n (fun v3 x6 v7 v8 => cx.nrm (g17_m2 v3 x6 v7 v8)) x0 := by kernel_rfl
noncomputable def g17_2 {β : Type} (n : Nat) (kn : ByteArray → List (Int × ByteArray) → Int → Int → Option β) (kx0 : ByteArray → Option β) (v3 : ByteArray) (x6 : List (Int × ByteArray)) (v7 : Int) (v8 : Int) : Option β := bif (decide (v8 < v7)) then (idx v8 (x6.length : Int) <| bif ((rd [(rd x6 v8 ((0 : Int), (⟨#[]⟩ : ByteArray)))] (0 : Int) ((0 : Int), (⟨#[]⟩ : ByteArray))).1 != (-1 : Int)) then (roomy (v3.size + ((rd [(rd x6 v8 ((0 : Int), (⟨#[]⟩ : ByteArray)))] (0 : Int) ((0 : Int), (⟨#[]⟩ : ByteArray))).2).size) <| kn (v3 ++ (rd [(rd x6 v8 ((0 : Int), (⟨#[]⟩ : ByteArray)))] (0 : Int) ((0 : Int), (⟨#[]⟩ : ByteArray))).2) x6 v7 (w64 (v8 + (1 : Int)))) else (kn v3 x6 v7 (w64 (v8 + (1 : Int))))) else (kx0 v3)
noncomputable def g17_2F {β : Type} (n : Nat) (s : FState) (cx : Cx β) : Option β := FX (g17_G n) n (nav g17_B [1, 1, 0, 1, 0, 0, 0]) (.fin none none none [(0, g17_m3e)] .leaf) s { cx with nrm := fun s => FX (g17_G n) n (nav g17_B [1, 1, 0, 1, 0, 0, 1, 0]) (.fin none none none [(0, g17_m3e)] .leaf) s { cx with nrm := fun s => FX (g17_G n) n (nav g17_B [1, 1, 0, 1, 0, 0, 1, 1, 0]) (.fin none none none [(0, g17_m3e)] .leaf) s { cx with nrm := fun s => FX (g17_G n) n (nav g17_B [1, 1, 0, 1, 0, 0, 1, 1, 1]) (.fin none (some g17_m2e) none [(0, g17_m3e)] .leaf) s cx } } }
theorem g17_2_fx {β : Type} (n : Nat) (cx : Cx β) (v3 : ByteArray) (x6 : List (Int × ByteArray)) (v7 : Int) (v8 : Int) : g17_2F n (g17_m2 v3 x6 v7 v8) cx = g17_2 n (fun v3 x6 v7 v8 => cx.nrm (g17_m2 v3 x6 v7 v8)) (fun v3 => cx.ex 0 (g17_m3 v3)) v3 x6 v7 v8 := by kernel_rfl
noncomputable def g17_3L {β : Type} (n : Nat) (kx0 : ByteArray → Option β) : Nat → ByteArray → List (Int × ByteArray) → Int → Int → Option β
  | 0, _, _, _, _ => none
  | m + 1, v3, x6, v7, v8 => g17_2 n (g17_3L n kx0 m) kx0 v3 x6 v7 v8
noncomputable def g17_3 {β : Type} (n : Nat) (kx0 : ByteArray → Option β) (v3 : ByteArray) (x6 : List (Int × ByteArray)) (v7 : Int) (v8 : Int) : Option β := g17_3L n kx0 n v3 x6 v7 v8
noncomputable def g17_3F {β : Type} (n : Nat) (s : FState) (cx : Cx β) : Option β := loopN (fun again s => g17_2F n s { cx with nrm := again }) n s
theorem g17_3L_fx {β : Type} (n : Nat) (cx : Cx β) : ∀ (m : Nat) (v3 : ByteArray) (x6 : List (Int × ByteArray)) (v7 : Int) (v8 : Int), loopN (fun again s => g17_2F n s { cx with nrm := again }) m (g17_m2 v3 x6 v7 v8) = g17_3L n (fun v3 => cx.ex 0 (g17_m3 v3)) m v3 x6 v7 v8 := by
  intro m
  induction m with
  | zero => intros; rfl
  | succ m ih => intros; simp only [loopN, g17_3L, g17_2_fx, ih]
theorem g17_3_fx {β : Type} (n : Nat) (cx : Cx β) (v3 : ByteArray) (x6 : List (Int × ByteArray)) (v7 : Int) (v8 : Int) : g17_3F n (g17_m2 v3 x6 v7 v8) cx = g17_3 n (fun v3 => cx.ex 0 (g17_m3 v3)) v3 x6 v7 v8 := g17_3L_fx n cx n v3 x6 v7 v8
noncomputable def g17_4 {β : Type} (n : Nat) (kn : ByteArray → Option β) (v3 : ByteArray) (x6 : List (Int × ByteArray)) (v7 : Int) (v8 : Int) : Option β := g17_3 n kn v3 x6 v7 v8
noncomputable def g17_4F {β : Type} (n : Nat) (s : FState) (cx : Cx β) : Option β := g17_3F n s { cx with ex := fun j s => bif Nat.beq j 0 then cx.nrm s else cx.ex j s }
theorem g17_4_fx {β : Type} (n : Nat) (cx : Cx β) (v3 : ByteArray) (x6 : List (Int × ByteArray)) (v7 : Int) (v8 : Int) : g17_4F n (g17_m2 v3 x6 v7 v8) cx = g17_4 n (fun v3 => cx.nrm (g17_m3 v3)) v3 x6 v7 v8 := g17_3_fx n _ v3 x6 v7 v8
noncomputable def g17_5 {β : Type} (n : Nat) (kr : ByteArray → Option β) (v3 : ByteArray) : Option β := kr v3
noncomputable def g17_5F {β : Type} (n : Nat) (s : FState) (cx : Cx β) : Option β := FX (g17_G n) n (nav g17_B [1, 1, 1, 0]) (.fin none none (some g17_m1e) [] .leaf) s { cx with nrm := fun s => FX (g17_G n) n (nav g17_B [1, 1, 1, 1]) (.fin none none (some g17_m1e) [] .leaf) s cx }
theorem g17_5_fx {β : Type} (n : Nat) (cx : Cx β) (v3 : ByteArray) : g17_5F n (g17_m3 v3) cx = g17_5 n (fun v2 => cx.ret (g17_m1 v2)) v3 := by kernel_rfl
noncomputable def g17_6 {β : Type} (n : Nat) (kr : ByteArray → Option β) (x0 : List (Int × ByteArray)) : Option β := g17_1 n (fun v3 x6 v7 v8 => g17_4 n (fun v3 => g17_5 n kr v3) v3 x6 v7 v8) x0
noncomputable def g17_6F {β : Type} (n : Nat) (s : FState) (cx : Cx β) : Option β := g17_1F n s { cx with nrm := fun s => g17_4F n s { cx with nrm := fun s => g17_5F n s cx } }
theorem g17_6_fx {β : Type} (n : Nat) (cx : Cx β) (x0 : List (Int × ByteArray)) : g17_6F n (g17_m0 x0) cx = g17_6 n (fun v2 => cx.ret (g17_m1 v2)) x0 := by simp only [g17_6F, g17_6, g17_1_fx, g17_4_fx, g17_5_fx]
noncomputable def g17 (n : Nat) (x0 : List (Int × ByteArray)) : Option (DenR [.dat .str]) := g17_6 n (fun v2 => some (v2, ())) x0
noncomputable def g17_A : List AK := [.ro (.pair (.int .i64) .str) 31]
noncomputable def g17_R : List RK := [.dat .str]
noncomputable def g17_f (n : Nat) (d : DenA g17_A) : Option (DenR g17_R) := g17 n d.1
noncomputable def g17_S (n : Nat) : Spec := mkSpec g17_A g17_R (g17_f n)
noncomputable def g17_K : Sk := (.nd (.fin none none none [] .leaf) (.nd (.fin none none none [] .leaf) (.nd (.nd (.fin none (some g17_m2e) none [] .leaf) (.nd (.nd (.nd (.fin none none none [(0, g17_m3e)] .leaf) (.nd (.fin none none none [(0, g17_m3e)] .leaf) (.nd (.fin none none none [(0, g17_m3e)] .leaf) (.fin none (some g17_m2e) none [(0, g17_m3e)] .leaf)))) .leaf) .leaf)) (.nd (.fin none none (some g17_m1e) [] .leaf) (.fin none none (some g17_m1e) [] .leaf)))))
theorem g17_top {β : Type} (n : Nat) (s : FState) (cx : Cx β) : FX (g17_G n) n g17_B g17_K s cx = g17_6F n s cx := by kernel_rfl
theorem g17_fit (n : Nat) : Fit Tryd.prog 17 (g17_S n) :=
  fit_of (Γ := Γ0) (l := g17_C n) (n := n) (sk := g17_K) (ts := [(2, none)]) (fn := Tryd.f17) (c := g17_B) (by kernel_rfl) (by kernel_rfl) (by unfold Callable; kernel_rfl) tab_ok trivial follows_mixed (by kernel_rfl) (by kernel_rfl) (Nat.le_of_ble_eq_true (by kernel_rfl)) (by kernel_rfl) (by kernel_rfl)
    (fun d => (g17_top n _ _).trans (Eq.trans (b := g17_6F n (g17_m0 d.1) (finCx (g17_G n) g17_R [(2, none)])) (by kernel_rfl) ((g17_6_fx n _ d.1).trans (by kernel_rfl))))
noncomputable def g3_m0 (v0 : ByteArray) (v1 : ByteArray) (v2 : ByteArray) : FState := ⟨tlist [(0, .dat .str v0), (1, .dat .str v1), (2, .dat .str v2)], olist []⟩
noncomputable def g3_m1 (v6 : Bool) : FState := ⟨tlist [(6, .dat .bool v6)], olist []⟩
noncomputable def g3_m1e : List NE := [.keep 6]
noncomputable def g3_C (n : Nat) : List (Nat × Spec) := [(13, g13_S n), (14, g14_S n), (15, g15_S n), (16, g16_S n), (17, g17_S n)]
noncomputable def g3_G (n : Nat) : Ctx := { Γ0 with calls := lkS (g3_C n) }
noncomputable def g3_B : Code := fb Tryd.f3
noncomputable def g3_1 {β : Type} (n : Nat) (kr : Bool → Option β) (v0 : ByteArray) (v1 : ByteArray) (v2 : ByteArray) : Option β := bif (decide ((v0.size : Int) > (2147483647 : Int))) then (kr true) else (bif (decide ((v1.size : Int) > (2147483647 : Int))) then (kr true) else (bif (decide ((v2.size : Int) > (2147483647 : Int))) then (kr true) else ((g13 n v0 (80 : Int)).bind fun r1 => (g13 n v1 (80 : Int)).bind fun r2 => (g13 n v2 (80 : Int)).bind fun r3 => (g14 n r1.1 r2.1 false).bind fun r4 => (g14 n r2.1 r3.1 false).bind fun r5 => (g14 n r1.1 r3.1 false).bind fun r6 => (g15 n r6.1).bind fun r7 => (g15 n r4.1).bind fun r8 => (g15 n r5.1).bind fun r9 => bif (decide (r7.1 ≤ (w64 (r8.1 + r9.1)))) then ((g16 n r6.1).bind fun r10 => bif (strEq r10.1 r1.1) then ((g17 n r6.1).bind fun r11 => kr (strEq r11.1 r3.1)) else (kr false)) else (kr false))))
noncomputable def g3_1F {β : Type} (n : Nat) (s : FState) (cx : Cx β) : Option β := FX (g3_G n) n (nav g3_B [0]) (.fin none none (some g3_m1e) [] .leaf) s { cx with nrm := fun s => FX (g3_G n) n (nav g3_B [1, 0, 0]) (.fin none none (some g3_m1e) [] .leaf) s { cx with nrm := fun s => FX (g3_G n) n (nav g3_B [1, 0, 1]) (.fin none none (some g3_m1e) [] .leaf) s { cx with nrm := fun s => FX (g3_G n) n (nav g3_B [1, 1, 0]) (.fin none none (some g3_m1e) [] .leaf) s { cx with nrm := fun s => FX (g3_G n) n (nav g3_B [1, 1, 1, 0]) (.fin none none (some g3_m1e) [] .leaf) s { cx with nrm := fun s => FX (g3_G n) n (nav g3_B [1, 1, 1, 1, 0]) (.fin none none (some g3_m1e) [] .leaf) s { cx with nrm := fun s => FX (g3_G n) n (nav g3_B [1, 1, 1, 1, 1]) (.fin none none (some g3_m1e) [] .leaf) s cx } } } } } }
theorem g3_1_fx {β : Type} (n : Nat) (cx : Cx β) (v0 : ByteArray) (v1 : ByteArray) (v2 : ByteArray) : g3_1F n (g3_m0 v0 v1 v2) cx = g3_1 n (fun v6 => cx.ret (g3_m1 v6)) v0 v1 v2 := by kernel_rfl
noncomputable def g3 (n : Nat) (v0 : ByteArray) (v1 : ByteArray) (v2 : ByteArray) : Option (DenR [.dat .bool]) := g3_1 n (fun v6 => some (v6, ())) v0 v1 v2
noncomputable def g3_A : List AK := [.dat .str, .dat .str, .dat .str]
noncomputable def g3_R : List RK := [.dat .bool]
noncomputable def g3_f (n : Nat) (d : DenA g3_A) : Option (DenR g3_R) := g3 n d.1 d.2.1 d.2.2.1
noncomputable def g3_S (n : Nat) : Spec := mkSpec g3_A g3_R (g3_f n)
noncomputable def g3_K : Sk := (.nd (.fin none none (some g3_m1e) [] .leaf) (.nd (.nd (.fin none none (some g3_m1e) [] .leaf) (.fin none none (some g3_m1e) [] .leaf)) (.nd (.fin none none (some g3_m1e) [] .leaf) (.nd (.fin none none (some g3_m1e) [] .leaf) (.nd (.fin none none (some g3_m1e) [] .leaf) (.fin none none (some g3_m1e) [] .leaf))))))
theorem g3_top {β : Type} (n : Nat) (s : FState) (cx : Cx β) : FX (g3_G n) n g3_B g3_K s cx = g3_1F n s cx := by kernel_rfl
theorem g3_fit (n : Nat) : Fit Tryd.prog 3 (g3_S n) :=
  fit_of (Γ := Γ0) (l := g3_C n) (n := n) (sk := g3_K) (ts := [(6, none)]) (fn := Tryd.f3) (c := g3_B) (by kernel_rfl) (by kernel_rfl) (by unfold Callable; kernel_rfl) tab_ok ⟨g13_fit n, g14_fit n, g15_fit n, g16_fit n, g17_fit n, trivial⟩ follows_mixed (by kernel_rfl) (by kernel_rfl) (Nat.le_of_ble_eq_true (by kernel_rfl)) (by kernel_rfl) (by kernel_rfl)
    (fun d => (g3_top n _ _).trans (Eq.trans (b := g3_1F n (g3_m0 d.1 d.2.1 d.2.2.1) (finCx (g3_G n) g3_R [(6, none)])) (by kernel_rfl) ((g3_1_fx n _ d.1 d.2.1 d.2.2.1).trans (by kernel_rfl))))
noncomputable def g18_m0 (x0 : List (Int × ByteArray)) : FState := ⟨tlist [(0, .sl 0 none false)], olist [(0, .row (.pair (.int .i64) .str) 31 false x0)]⟩
noncomputable def g18_m1 (v2 : Bool) : FState := ⟨tlist [(2, .dat .bool v2)], olist []⟩
noncomputable def g18_m1e : List NE := [.keep 2]
noncomputable def g18_m2 (x0 : List (Int × ByteArray)) (x5 : List (Int × ByteArray)) (v6 : Int) (v7 : Int) : FState := ⟨tlist [(0, .sl 0 none false), (5, .sl 5 none false), (6, .dat (.int .i64) v6), (7, .dat (.int .i64) v7)], olist [(0, .row (.pair (.int .i64) .str) 31 false x0), (5, .row (.pair (.int .i64) .str) 31 false x5)]⟩
noncomputable def g18_m2e : List NE := [.row 0 (.pair (.int .i64) .str) 31 false, .row 5 (.pair (.int .i64) .str) 31 false, .keep 6, .keep 7]
noncomputable def g18_m3 : FState := ⟨tlist [], olist []⟩
noncomputable def g18_m3e : List NE := []
noncomputable def g18_C (n : Nat) : List (Nat × Spec) := []
noncomputable def g18_G (n : Nat) : Ctx := { Γ0 with calls := lkS (g18_C n) }
noncomputable def g18_B : Code := fb Tryd.f18
noncomputable def g18_1 {β : Type} (n : Nat) (kn : List (Int × ByteArray) → List (Int × ByteArray) → Int → Int → Option β) (x0 : List (Int × ByteArray)) : Option β := kn x0 x0 (x0.length : Int) (0 : Int)
noncomputable def g18_1F {β : Type} (n : Nat) (s : FState) (cx : Cx β) : Option β := FX (g18_G n) n (nav g18_B [0]) (.fin none none none [] .leaf) s { cx with nrm := fun s => FX (g18_G n) n (nav g18_B [1, 0, 0]) (.fin none (some g18_m2e) none [] .leaf) s cx }
theorem g18_1_fx {β : Type} (n : Nat) (cx : Cx β) (x0 : List (Int × ByteArray)) : g18_1F n (g18_m0 x0) cx = g18_1 n (fun x0 x5 v6 v7 => cx.nrm (g18_m2 x0 x5 v6 v7)) x0 := by kernel_rfl
noncomputable def g18_2 {β : Type} (n : Nat) (kn : List (Int × ByteArray) → List (Int × ByteArray) → Int → Int → Option β) (kr : Bool → Option β) (kx0 : Option β) (x0 : List (Int × ByteArray)) (x5 : List (Int × ByteArray)) (v6 : Int) (v7 : Int) : Option β := bif (decide (v7 < v6)) then (idx v7 (x5.length : Int) <| bif (strEq ((rd [(rd x5 v7 ((0 : Int), (⟨#[]⟩ : ByteArray)))] (0 : Int) ((0 : Int), (⟨#[]⟩ : ByteArray))).2) (⟨#[]⟩ : ByteArray)) then (kr false) else (bif (decide ((rd [(rd x5 v7 ((0 : Int), (⟨#[]⟩ : ByteArray)))] (0 : Int) ((0 : Int), (⟨#[]⟩ : ByteArray))).1 < (-1 : Int))) then (kr false) else (bif (decide ((rd [(rd x5 v7 ((0 : Int), (⟨#[]⟩ : ByteArray)))] (0 : Int) ((0 : Int), (⟨#[]⟩ : ByteArray))).1 > (1 : Int))) then (kr false) else (bif (decide (v7 > (0 : Int))) then (idx (w64 (v7 - (1 : Int))) (x0.length : Int) <| bif ((rd x0 (w64 (v7 - (1 : Int))) ((0 : Int), (⟨#[]⟩ : ByteArray))).1 == (rd [(rd x5 v7 ((0 : Int), (⟨#[]⟩ : ByteArray)))] (0 : Int) ((0 : Int), (⟨#[]⟩ : ByteArray))).1) then (kr false) else (idx (w64 (v7 - (1 : Int))) (x0.length : Int) <| bif ((rd x0 (w64 (v7 - (1 : Int))) ((0 : Int), (⟨#[]⟩ : ByteArray))).1 == (1 : Int)) then (bif ((rd [(rd x5 v7 ((0 : Int), (⟨#[]⟩ : ByteArray)))] (0 : Int) ((0 : Int), (⟨#[]⟩ : ByteArray))).1 == (-1 : Int)) then (kr false) else (kn x0 x5 v6 (w64 (v7 + (1 : Int))))) else (kn x0 x5 v6 (w64 (v7 + (1 : Int)))))) else (kn x0 x5 v6 (w64 (v7 + (1 : Int)))))))) else kx0
noncomputable def g18_2F {β : Type} (n : Nat) (s : FState) (cx : Cx β) : Option β := FX (g18_G n) n (nav g18_B [1, 0, 1, 0, 0, 0]) (.fin none none (some g18_m1e) [(0, g18_m3e)] .leaf) s { cx with nrm := fun s => FX (g18_G n) n (nav g18_B [1, 0, 1, 0, 0, 1, 0]) (.fin none none (some g18_m1e) [(0, g18_m3e)] .leaf) s { cx with nrm := fun s => FX (g18_G n) n (nav g18_B [1, 0, 1, 0, 0, 1, 1, 0]) (.fin none none (some g18_m1e) [(0, g18_m3e)] .leaf) s { cx with nrm := fun s => FX (g18_G n) n (nav g18_B [1, 0, 1, 0, 0, 1, 1, 1]) (.fin none (some g18_m2e) (some g18_m1e) [(0, g18_m3e)] .leaf) s cx } } }
theorem g18_2_fx {β : Type} (n : Nat) (cx : Cx β) (x0 : List (Int × ByteArray)) (x5 : List (Int × ByteArray)) (v6 : Int) (v7 : Int) : g18_2F n (g18_m2 x0 x5 v6 v7) cx = g18_2 n (fun x0 x5 v6 v7 => cx.nrm (g18_m2 x0 x5 v6 v7)) (fun v2 => cx.ret (g18_m1 v2)) (cx.ex 0 g18_m3) x0 x5 v6 v7 := by kernel_rfl
noncomputable def g18_3L {β : Type} (n : Nat) (kr : Bool → Option β) (kx0 : Option β) : Nat → List (Int × ByteArray) → List (Int × ByteArray) → Int → Int → Option β
  | 0, _, _, _, _ => none
  | m + 1, x0, x5, v6, v7 => g18_2 n (g18_3L n kr kx0 m) kr kx0 x0 x5 v6 v7
noncomputable def g18_3 {β : Type} (n : Nat) (kr : Bool → Option β) (kx0 : Option β) (x0 : List (Int × ByteArray)) (x5 : List (Int × ByteArray)) (v6 : Int) (v7 : Int) : Option β := g18_3L n kr kx0 n x0 x5 v6 v7
noncomputable def g18_3F {β : Type} (n : Nat) (s : FState) (cx : Cx β) : Option β := loopN (fun again s => g18_2F n s { cx with nrm := again }) n s
theorem g18_3L_fx {β : Type} (n : Nat) (cx : Cx β) : ∀ (m : Nat) (x0 : List (Int × ByteArray)) (x5 : List (Int × ByteArray)) (v6 : Int) (v7 : Int), loopN (fun again s => g18_2F n s { cx with nrm := again }) m (g18_m2 x0 x5 v6 v7) = g18_3L n (fun v2 => cx.ret (g18_m1 v2)) (cx.ex 0 g18_m3) m x0 x5 v6 v7 := by
  intro m
  induction m with
  | zero => intros; rfl
  | succ m ih => intros; simp only [loopN, g18_3L, g18_2_fx, ih]
theorem g18_3_fx {β : Type} (n : Nat) (cx : Cx β) (x0 : List (Int × ByteArray)) (x5 : List (Int × ByteArray)) (v6 : Int) (v7 : Int) : g18_3F n (g18_m2 x0 x5 v6 v7) cx = g18_3 n (fun v2 => cx.ret (g18_m1 v2)) (cx.ex 0 g18_m3) x0 x5 v6 v7 := g18_3L_fx n cx n x0 x5 v6 v7
noncomputable def g18_4 {β : Type} (n : Nat) (kn : Option β) (kr : Bool → Option β) (x0 : List (Int × ByteArray)) (x5 : List (Int × ByteArray)) (v6 : Int) (v7 : Int) : Option β := g18_3 n kr kn x0 x5 v6 v7
noncomputable def g18_4F {β : Type} (n : Nat) (s : FState) (cx : Cx β) : Option β := g18_3F n s { cx with ex := fun j s => bif Nat.beq j 0 then cx.nrm s else cx.ex j s }
theorem g18_4_fx {β : Type} (n : Nat) (cx : Cx β) (x0 : List (Int × ByteArray)) (x5 : List (Int × ByteArray)) (v6 : Int) (v7 : Int) : g18_4F n (g18_m2 x0 x5 v6 v7) cx = g18_4 n (cx.nrm g18_m3) (fun v2 => cx.ret (g18_m1 v2)) x0 x5 v6 v7 := g18_3_fx n _ x0 x5 v6 v7
noncomputable def g18_5 {β : Type} (n : Nat) (kr : Bool → Option β) : Option β := kr true
noncomputable def g18_5F {β : Type} (n : Nat) (s : FState) (cx : Cx β) : Option β := FX (g18_G n) n (nav g18_B [1, 1, 0]) (.fin none none (some g18_m1e) [] .leaf) s { cx with nrm := fun s => FX (g18_G n) n (nav g18_B [1, 1, 1]) (.fin none none (some g18_m1e) [] .leaf) s cx }
theorem g18_5_fx {β : Type} (n : Nat) (cx : Cx β) : g18_5F n g18_m3 cx = g18_5 n (fun v2 => cx.ret (g18_m1 v2)) := by kernel_rfl
noncomputable def g18_6 {β : Type} (n : Nat) (kr : Bool → Option β) (x0 : List (Int × ByteArray)) : Option β := g18_1 n (fun x0 x5 v6 v7 => g18_4 n (g18_5 n kr) kr x0 x5 v6 v7) x0
noncomputable def g18_6F {β : Type} (n : Nat) (s : FState) (cx : Cx β) : Option β := g18_1F n s { cx with nrm := fun s => g18_4F n s { cx with nrm := fun s => g18_5F n s cx } }
theorem g18_6_fx {β : Type} (n : Nat) (cx : Cx β) (x0 : List (Int × ByteArray)) : g18_6F n (g18_m0 x0) cx = g18_6 n (fun v2 => cx.ret (g18_m1 v2)) x0 := by simp only [g18_6F, g18_6, g18_1_fx, g18_4_fx, g18_5_fx]
noncomputable def g18 (n : Nat) (x0 : List (Int × ByteArray)) : Option (DenR [.dat .bool]) := g18_6 n (fun v2 => some (v2, ())) x0
noncomputable def g18_A : List AK := [.ro (.pair (.int .i64) .str) 31]
noncomputable def g18_R : List RK := [.dat .bool]
noncomputable def g18_f (n : Nat) (d : DenA g18_A) : Option (DenR g18_R) := g18 n d.1
noncomputable def g18_S (n : Nat) : Spec := mkSpec g18_A g18_R (g18_f n)
noncomputable def g18_K : Sk := (.nd (.fin none none none [] .leaf) (.nd (.nd (.fin none (some g18_m2e) none [] .leaf) (.nd (.nd (.nd (.fin none none (some g18_m1e) [(0, g18_m3e)] .leaf) (.nd (.fin none none (some g18_m1e) [(0, g18_m3e)] .leaf) (.nd (.fin none none (some g18_m1e) [(0, g18_m3e)] .leaf) (.fin none (some g18_m2e) (some g18_m1e) [(0, g18_m3e)] .leaf)))) .leaf) .leaf)) (.nd (.fin none none (some g18_m1e) [] .leaf) (.fin none none (some g18_m1e) [] .leaf))))
theorem g18_top {β : Type} (n : Nat) (s : FState) (cx : Cx β) : FX (g18_G n) n g18_B g18_K s cx = g18_6F n s cx := by kernel_rfl
theorem g18_fit (n : Nat) : Fit Tryd.prog 18 (g18_S n) :=
  fit_of (Γ := Γ0) (l := g18_C n) (n := n) (sk := g18_K) (ts := [(2, none)]) (fn := Tryd.f18) (c := g18_B) (by kernel_rfl) (by kernel_rfl) (by unfold Callable; kernel_rfl) tab_ok trivial follows_mixed (by kernel_rfl) (by kernel_rfl) (Nat.le_of_ble_eq_true (by kernel_rfl)) (by kernel_rfl) (by kernel_rfl)
    (fun d => (g18_top n _ _).trans (Eq.trans (b := g18_6F n (g18_m0 d.1) (finCx (g18_G n) g18_R [(2, none)])) (by kernel_rfl) ((g18_6_fx n _ d.1).trans (by kernel_rfl))))
noncomputable def g37_m0 (x0 : List Int) (x1 : List Int) : FState := ⟨tlist [(0, .sl 0 none false), (1, .sl 1 none false)], olist [(0, .row (.int .i32) 21 false x0), (1, .row (.int .i32) 21 false x1)]⟩
noncomputable def g37_m1 (v4 : Int) : FState := ⟨tlist [(4, .dat (.int .i64) v4)], olist []⟩
noncomputable def g37_m1e : List NE := [.keep 4]
noncomputable def g37_m2 (x0 : List Int) (x1 : List Int) (v5 : Int) : FState := ⟨tlist [(0, .sl 0 none false), (1, .sl 1 none false), (5, .dat (.int .i64) v5)], olist [(0, .row (.int .i32) 21 false x0), (1, .row (.int .i32) 21 false x1)]⟩
noncomputable def g37_m2e : List NE := [.row 0 (.int .i32) 21 false, .row 1 (.int .i32) 21 false, .keep 5]
noncomputable def g37_m3 (v5 : Int) : FState := ⟨tlist [(5, .dat (.int .i64) v5)], olist []⟩
noncomputable def g37_m3e : List NE := [.keep 5]
noncomputable def g37_C (n : Nat) : List (Nat × Spec) := []
noncomputable def g37_G (n : Nat) : Ctx := { Γ0 with calls := lkS (g37_C n) }
noncomputable def g37_B : Code := fb Tryd.f37
noncomputable def g37_1 {β : Type} (n : Nat) (kn : List Int → List Int → Int → Option β) (x0 : List Int) (x1 : List Int) : Option β := kn x0 x1 (0 : Int)
noncomputable def g37_1F {β : Type} (n : Nat) (s : FState) (cx : Cx β) : Option β := FX (g37_G n) n (nav g37_B [0]) (.fin none none none [] .leaf) s { cx with nrm := fun s => FX (g37_G n) n (nav g37_B [1, 0]) (.fin none (some g37_m2e) none [] .leaf) s cx }
theorem g37_1_fx {β : Type} (n : Nat) (cx : Cx β) (x0 : List Int) (x1 : List Int) : g37_1F n (g37_m0 x0 x1) cx = g37_1 n (fun x0 x1 v5 => cx.nrm (g37_m2 x0 x1 v5)) x0 x1 := by kernel_rfl
noncomputable def g37_2 {β : Type} (n : Nat) (kn : List Int → List Int → Int → Option β) (kx0 : Int → Option β) (x0 : List Int) (x1 : List Int) (v5 : Int) : Option β := bif (decide (v5 < (x0.length : Int))) then (bif (decide (v5 < (x1.length : Int))) then (idx v5 (x0.length : Int) <| idx v5 (x1.length : Int) <| bif ((rd x0 v5 (0 : Int)) == (rd x1 v5 (0 : Int))) then (kn x0 x1 (w64 (v5 + (1 : Int)))) else (kx0 v5)) else (kx0 v5)) else (kx0 v5)
noncomputable def g37_2F {β : Type} (n : Nat) (s : FState) (cx : Cx β) : Option β := FX (g37_G n) n (nav g37_B [1, 1, 0, 0, 0, 0, 0]) (.fin none none none [(0, g37_m3e)] .leaf) s { cx with nrm := fun s => FX (g37_G n) n (nav g37_B [1, 1, 0, 0, 0, 0, 1]) (.fin none none none [(0, g37_m3e)] .leaf) s { cx with nrm := fun s => FX (g37_G n) n (nav g37_B [1, 1, 0, 0, 0, 1]) (.fin none (some g37_m2e) none [(0, g37_m3e)] .leaf) s cx } }
theorem g37_2_fx {β : Type} (n : Nat) (cx : Cx β) (x0 : List Int) (x1 : List Int) (v5 : Int) : g37_2F n (g37_m2 x0 x1 v5) cx = g37_2 n (fun x0 x1 v5 => cx.nrm (g37_m2 x0 x1 v5)) (fun v5 => cx.ex 0 (g37_m3 v5)) x0 x1 v5 := by kernel_rfl
noncomputable def g37_3L {β : Type} (n : Nat) (kx0 : Int → Option β) : Nat → List Int → List Int → Int → Option β
  | 0, _, _, _ => none
  | m + 1, x0, x1, v5 => g37_2 n (g37_3L n kx0 m) kx0 x0 x1 v5
noncomputable def g37_3 {β : Type} (n : Nat) (kx0 : Int → Option β) (x0 : List Int) (x1 : List Int) (v5 : Int) : Option β := g37_3L n kx0 n x0 x1 v5
noncomputable def g37_3F {β : Type} (n : Nat) (s : FState) (cx : Cx β) : Option β := loopN (fun again s => g37_2F n s { cx with nrm := again }) n s
theorem g37_3L_fx {β : Type} (n : Nat) (cx : Cx β) : ∀ (m : Nat) (x0 : List Int) (x1 : List Int) (v5 : Int), loopN (fun again s => g37_2F n s { cx with nrm := again }) m (g37_m2 x0 x1 v5) = g37_3L n (fun v5 => cx.ex 0 (g37_m3 v5)) m x0 x1 v5 := by
  intro m
  induction m with
  | zero => intros; rfl
  | succ m ih => intros; simp only [loopN, g37_3L, g37_2_fx, ih]
theorem g37_3_fx {β : Type} (n : Nat) (cx : Cx β) (x0 : List Int) (x1 : List Int) (v5 : Int) : g37_3F n (g37_m2 x0 x1 v5) cx = g37_3 n (fun v5 => cx.ex 0 (g37_m3 v5)) x0 x1 v5 := g37_3L_fx n cx n x0 x1 v5
noncomputable def g37_4 {β : Type} (n : Nat) (kn : Int → Option β) (x0 : List Int) (x1 : List Int) (v5 : Int) : Option β := g37_3 n kn x0 x1 v5
noncomputable def g37_4F {β : Type} (n : Nat) (s : FState) (cx : Cx β) : Option β := g37_3F n s { cx with ex := fun j s => bif Nat.beq j 0 then cx.nrm s else cx.ex j s }
theorem g37_4_fx {β : Type} (n : Nat) (cx : Cx β) (x0 : List Int) (x1 : List Int) (v5 : Int) : g37_4F n (g37_m2 x0 x1 v5) cx = g37_4 n (fun v5 => cx.nrm (g37_m3 v5)) x0 x1 v5 := g37_3_fx n _ x0 x1 v5
noncomputable def g37_5 {β : Type} (n : Nat) (kr : Int → Option β) (v5 : Int) : Option β := kr v5
noncomputable def g37_5F {β : Type} (n : Nat) (s : FState) (cx : Cx β) : Option β := FX (g37_G n) n (nav g37_B [1, 1, 1, 0]) (.fin none none (some g37_m1e) [] .leaf) s { cx with nrm := fun s => FX (g37_G n) n (nav g37_B [1, 1, 1, 1]) (.fin none none (some g37_m1e) [] .leaf) s cx }
theorem g37_5_fx {β : Type} (n : Nat) (cx : Cx β) (v5 : Int) : g37_5F n (g37_m3 v5) cx = g37_5 n (fun v4 => cx.ret (g37_m1 v4)) v5 := by kernel_rfl
noncomputable def g37_6 {β : Type} (n : Nat) (kr : Int → Option β) (x0 : List Int) (x1 : List Int) : Option β := g37_1 n (fun x0 x1 v5 => g37_4 n (fun v5 => g37_5 n kr v5) x0 x1 v5) x0 x1
noncomputable def g37_6F {β : Type} (n : Nat) (s : FState) (cx : Cx β) : Option β := g37_1F n s { cx with nrm := fun s => g37_4F n s { cx with nrm := fun s => g37_5F n s cx } }
theorem g37_6_fx {β : Type} (n : Nat) (cx : Cx β) (x0 : List Int) (x1 : List Int) : g37_6F n (g37_m0 x0 x1) cx = g37_6 n (fun v4 => cx.ret (g37_m1 v4)) x0 x1 := by simp only [g37_6F, g37_6, g37_1_fx, g37_4_fx, g37_5_fx]
noncomputable def g37 (n : Nat) (x0 : List Int) (x1 : List Int) : Option (DenR [.dat (.int .i64)]) := g37_6 n (fun v4 => some (v4, ())) x0 x1
noncomputable def g37_A : List AK := [.ro (.int .i32) 21, .ro (.int .i32) 21]
noncomputable def g37_R : List RK := [.dat (.int .i64)]
noncomputable def g37_f (n : Nat) (d : DenA g37_A) : Option (DenR g37_R) := g37 n d.1 d.2.1
noncomputable def g37_S (n : Nat) : Spec := mkSpec g37_A g37_R (g37_f n)
noncomputable def g37_K : Sk := (.nd (.fin none none none [] .leaf) (.nd (.fin none (some g37_m2e) none [] .leaf) (.nd (.nd (.nd (.nd (.nd (.fin none none none [(0, g37_m3e)] .leaf) (.fin none none none [(0, g37_m3e)] .leaf)) (.fin none (some g37_m2e) none [(0, g37_m3e)] .leaf)) .leaf) .leaf) (.nd (.fin none none (some g37_m1e) [] .leaf) (.fin none none (some g37_m1e) [] .leaf)))))
theorem g37_top {β : Type} (n : Nat) (s : FState) (cx : Cx β) : FX (g37_G n) n g37_B g37_K s cx = g37_6F n s cx := by kernel_rfl
theorem g37_fit (n : Nat) : Fit Tryd.prog 37 (g37_S n) :=
  fit_of (Γ := Γ0) (l := g37_C n) (n := n) (sk := g37_K) (ts := [(4, none)]) (fn := Tryd.f37) (c := g37_B) (by kernel_rfl) (by kernel_rfl) (by unfold Callable; kernel_rfl) tab_ok trivial follows_mixed (by kernel_rfl) (by kernel_rfl) (Nat.le_of_ble_eq_true (by kernel_rfl)) (by kernel_rfl) (by kernel_rfl)
    (fun d => (g37_top n _ _).trans (Eq.trans (b := g37_6F n (g37_m0 d.1 d.2.1) (finCx (g37_G n) g37_R [(4, none)])) (by kernel_rfl) ((g37_6_fx n _ d.1 d.2.1).trans (by kernel_rfl))))
noncomputable def g38_m0 (x0 : List Int) (x1 : List Int) : FState := ⟨tlist [(0, .sl 0 none false), (1, .sl 1 none false)], olist [(0, .row (.int .i32) 21 false x0), (1, .row (.int .i32) 21 false x1)]⟩
noncomputable def g38_m1 (v4 : Int) : FState := ⟨tlist [(4, .dat (.int .i64) v4)], olist []⟩
noncomputable def g38_m1e : List NE := [.keep 4]
noncomputable def g38_m2 (x0 : List Int) (x1 : List Int) (v5 : Int) : FState := ⟨tlist [(0, .sl 0 none false), (1, .sl 1 none false), (5, .dat (.int .i64) v5)], olist [(0, .row (.int .i32) 21 false x0), (1, .row (.int .i32) 21 false x1)]⟩
noncomputable def g38_m2e : List NE := [.row 0 (.int .i32) 21 false, .row 1 (.int .i32) 21 false, .keep 5]
noncomputable def g38_m3 (v5 : Int) : FState := ⟨tlist [(5, .dat (.int .i64) v5)], olist []⟩
noncomputable def g38_m3e : List NE := [.keep 5]
noncomputable def g38_C (n : Nat) : List (Nat × Spec) := []
noncomputable def g38_G (n : Nat) : Ctx := { Γ0 with calls := lkS (g38_C n) }
noncomputable def g38_B : Code := fb Tryd.f38
noncomputable def g38_1 {β : Type} (n : Nat) (kn : List Int → List Int → Int → Option β) (x0 : List Int) (x1 : List Int) : Option β := kn x0 x1 (0 : Int)
noncomputable def g38_1F {β : Type} (n : Nat) (s : FState) (cx : Cx β) : Option β := FX (g38_G n) n (nav g38_B [0]) (.fin none none none [] .leaf) s { cx with nrm := fun s => FX (g38_G n) n (nav g38_B [1, 0]) (.fin none (some g38_m2e) none [] .leaf) s cx }
theorem g38_1_fx {β : Type} (n : Nat) (cx : Cx β) (x0 : List Int) (x1 : List Int) : g38_1F n (g38_m0 x0 x1) cx = g38_1 n (fun x0 x1 v5 => cx.nrm (g38_m2 x0 x1 v5)) x0 x1 := by kernel_rfl
noncomputable def g38_2 {β : Type} (n : Nat) (kn : List Int → List Int → Int → Option β) (kx0 : Int → Option β) (x0 : List Int) (x1 : List Int) (v5 : Int) : Option β := bif (decide (v5 < (x0.length : Int))) then (bif (decide (v5 < (x1.length : Int))) then (idx (w64 ((w64 ((x0.length : Int) - (1 : Int))) - v5)) (x0.length : Int) <| idx (w64 ((w64 ((x1.length : Int) - (1 : Int))) - v5)) (x1.length : Int) <| bif ((rd x0 (w64 ((w64 ((x0.length : Int) - (1 : Int))) - v5)) (0 : Int)) == (rd x1 (w64 ((w64 ((x1.length : Int) - (1 : Int))) - v5)) (0 : Int))) then (kn x0 x1 (w64 (v5 + (1 : Int)))) else (kx0 v5)) else (kx0 v5)) else (kx0 v5)
noncomputable def g38_2F {β : Type} (n : Nat) (s : FState) (cx : Cx β) : Option β := FX (g38_G n) n (nav g38_B [1, 1, 0, 0, 0, 0, 0]) (.fin none none none [(0, g38_m3e)] .leaf) s { cx with nrm := fun s => FX (g38_G n) n (nav g38_B [1, 1, 0, 0, 0, 0, 1]) (.fin none none none [(0, g38_m3e)] .leaf) s { cx with nrm := fun s => FX (g38_G n) n (nav g38_B [1, 1, 0, 0, 0, 1]) (.fin none (some g38_m2e) none [(0, g38_m3e)] .leaf) s cx } }
theorem g38_2_fx {β : Type} (n : Nat) (cx : Cx β) (x0 : List Int) (x1 : List Int) (v5 : Int) : g38_2F n (g38_m2 x0 x1 v5) cx = g38_2 n (fun x0 x1 v5 => cx.nrm (g38_m2 x0 x1 v5)) (fun v5 => cx.ex 0 (g38_m3 v5)) x0 x1 v5 := by kernel_rfl
noncomputable def g38_3L {β : Type} (n : Nat) (kx0 : Int → Option β) : Nat → List Int → List Int → Int → Option β
  | 0, _, _, _ => none
  | m + 1, x0, x1, v5 => g38_2 n (g38_3L n kx0 m) kx0 x0 x1 v5
noncomputable def g38_3 {β : Type} (n : Nat) (kx0 : Int → Option β) (x0 : List Int) (x1 : List Int) (v5 : Int) : Option β := g38_3L n kx0 n x0 x1 v5
noncomputable def g38_3F {β : Type} (n : Nat) (s : FState) (cx : Cx β) : Option β := loopN (fun again s => g38_2F n s { cx with nrm := again }) n s
theorem g38_3L_fx {β : Type} (n : Nat) (cx : Cx β) : ∀ (m : Nat) (x0 : List Int) (x1 : List Int) (v5 : Int), loopN (fun again s => g38_2F n s { cx with nrm := again }) m (g38_m2 x0 x1 v5) = g38_3L n (fun v5 => cx.ex 0 (g38_m3 v5)) m x0 x1 v5 := by
  intro m
  induction m with
  | zero => intros; rfl
  | succ m ih => intros; simp only [loopN, g38_3L, g38_2_fx, ih]
theorem g38_3_fx {β : Type} (n : Nat) (cx : Cx β) (x0 : List Int) (x1 : List Int) (v5 : Int) : g38_3F n (g38_m2 x0 x1 v5) cx = g38_3 n (fun v5 => cx.ex 0 (g38_m3 v5)) x0 x1 v5 := g38_3L_fx n cx n x0 x1 v5
noncomputable def g38_4 {β : Type} (n : Nat) (kn : Int → Option β) (x0 : List Int) (x1 : List Int) (v5 : Int) : Option β := g38_3 n kn x0 x1 v5
noncomputable def g38_4F {β : Type} (n : Nat) (s : FState) (cx : Cx β) : Option β := g38_3F n s { cx with ex := fun j s => bif Nat.beq j 0 then cx.nrm s else cx.ex j s }
theorem g38_4_fx {β : Type} (n : Nat) (cx : Cx β) (x0 : List Int) (x1 : List Int) (v5 : Int) : g38_4F n (g38_m2 x0 x1 v5) cx = g38_4 n (fun v5 => cx.nrm (g38_m3 v5)) x0 x1 v5 := g38_3_fx n _ x0 x1 v5
noncomputable def g38_5 {β : Type} (n : Nat) (kr : Int → Option β) (v5 : Int) : Option β := kr v5
noncomputable def g38_5F {β : Type} (n : Nat) (s : FState) (cx : Cx β) : Option β := FX (g38_G n) n (nav g38_B [1, 1, 1, 0]) (.fin none none (some g38_m1e) [] .leaf) s { cx with nrm := fun s => FX (g38_G n) n (nav g38_B [1, 1, 1, 1]) (.fin none none (some g38_m1e) [] .leaf) s cx }
theorem g38_5_fx {β : Type} (n : Nat) (cx : Cx β) (v5 : Int) : g38_5F n (g38_m3 v5) cx = g38_5 n (fun v4 => cx.ret (g38_m1 v4)) v5 := by kernel_rfl
noncomputable def g38_6 {β : Type} (n : Nat) (kr : Int → Option β) (x0 : List Int) (x1 : List Int) : Option β := g38_1 n (fun x0 x1 v5 => g38_4 n (fun v5 => g38_5 n kr v5) x0 x1 v5) x0 x1
noncomputable def g38_6F {β : Type} (n : Nat) (s : FState) (cx : Cx β) : Option β := g38_1F n s { cx with nrm := fun s => g38_4F n s { cx with nrm := fun s => g38_5F n s cx } }
theorem g38_6_fx {β : Type} (n : Nat) (cx : Cx β) (x0 : List Int) (x1 : List Int) : g38_6F n (g38_m0 x0 x1) cx = g38_6 n (fun v4 => cx.ret (g38_m1 v4)) x0 x1 := by simp only [g38_6F, g38_6, g38_1_fx, g38_4_fx, g38_5_fx]
noncomputable def g38 (n : Nat) (x0 : List Int) (x1 : List Int) : Option (DenR [.dat (.int .i64)]) := g38_6 n (fun v4 => some (v4, ())) x0 x1
noncomputable def g38_A : List AK := [.ro (.int .i32) 21, .ro (.int .i32) 21]
noncomputable def g38_R : List RK := [.dat (.int .i64)]
noncomputable def g38_f (n : Nat) (d : DenA g38_A) : Option (DenR g38_R) := g38 n d.1 d.2.1
noncomputable def g38_S (n : Nat) : Spec := mkSpec g38_A g38_R (g38_f n)
noncomputable def g38_K : Sk := (.nd (.fin none none none [] .leaf) (.nd (.fin none (some g38_m2e) none [] .leaf) (.nd (.nd (.nd (.nd (.nd (.fin none none none [(0, g38_m3e)] .leaf) (.fin none none none [(0, g38_m3e)] .leaf)) (.fin none (some g38_m2e) none [(0, g38_m3e)] .leaf)) .leaf) .leaf) (.nd (.fin none none (some g38_m1e) [] .leaf) (.fin none none (some g38_m1e) [] .leaf)))))
theorem g38_top {β : Type} (n : Nat) (s : FState) (cx : Cx β) : FX (g38_G n) n g38_B g38_K s cx = g38_6F n s cx := by kernel_rfl
theorem g38_fit (n : Nat) : Fit Tryd.prog 38 (g38_S n) :=
  fit_of (Γ := Γ0) (l := g38_C n) (n := n) (sk := g38_K) (ts := [(4, none)]) (fn := Tryd.f38) (c := g38_B) (by kernel_rfl) (by kernel_rfl) (by unfold Callable; kernel_rfl) tab_ok trivial follows_mixed (by kernel_rfl) (by kernel_rfl) (Nat.le_of_ble_eq_true (by kernel_rfl)) (by kernel_rfl) (by kernel_rfl)
    (fun d => (g38_top n _ _).trans (Eq.trans (b := g38_6F n (g38_m0 d.1 d.2.1) (finCx (g38_G n) g38_R [(4, none)])) (by kernel_rfl) ((g38_6_fx n _ d.1 d.2.1).trans (by kernel_rfl))))
noncomputable def g19_m0 (x0 : List (Int × ByteArray)) : FState := ⟨tlist [(0, .sl 0 none false)], olist [(0, .row (.pair (.int .i64) .str) 31 false x0)]⟩
noncomputable def g19_m1 (v2 : Bool) : FState := ⟨tlist [(2, .dat .bool v2)], olist []⟩
noncomputable def g19_m1e : List NE := [.keep 2]
noncomputable def g19_m2 (x0 : List (Int × ByteArray)) (v3 : Int) : FState := ⟨tlist [(0, .sl 0 none false), (3, .dat (.int .i64) v3)], olist [(0, .row (.pair (.int .i64) .str) 31 false x0)]⟩
noncomputable def g19_m2e : List NE := [.row 0 (.pair (.int .i64) .str) 31 false, .keep 3]
noncomputable def g19_m3 : FState := ⟨tlist [], olist []⟩
noncomputable def g19_m3e : List NE := []
noncomputable def g19_C (n : Nat) : List (Nat × Spec) := [(20, g20_S n), (37, g37_S n), (38, g38_S n)]
noncomputable def g19_G (n : Nat) : Ctx := { Γ0 with calls := lkS (g19_C n) }
noncomputable def g19_B : Code := fb Tryd.f19
noncomputable def g19_1 {β : Type} (n : Nat) (kn : List (Int × ByteArray) → Int → Option β) (x0 : List (Int × ByteArray)) : Option β := kn x0 (1 : Int)
noncomputable def g19_1F {β : Type} (n : Nat) (s : FState) (cx : Cx β) : Option β := FX (g19_G n) n (nav g19_B [0]) (.fin none none none [] .leaf) s { cx with nrm := fun s => FX (g19_G n) n (nav g19_B [1, 0, 0]) (.fin none (some g19_m2e) none [] .leaf) s cx }
theorem g19_1_fx {β : Type} (n : Nat) (cx : Cx β) (x0 : List (Int × ByteArray)) : g19_1F n (g19_m0 x0) cx = g19_1 n (fun x0 v3 => cx.nrm (g19_m2 x0 v3)) x0 := by kernel_rfl
noncomputable def g19_2 {β : Type} (n : Nat) (kn : List (Int × ByteArray) → Int → Option β) (kr : Bool → Option β) (kx0 : Option β) (x0 : List (Int × ByteArray)) (v3 : Int) : Option β := bif (decide (v3 < (x0.length : Int))) then (idx (w64 (v3 - (1 : Int))) (x0.length : Int) <| (g20 n ((rd x0 (w64 (v3 - (1 : Int))) ((0 : Int), (⟨#[]⟩ : ByteArray))).2)).bind fun r1 => idx v3 (x0.length : Int) <| (g20 n ((rd x0 v3 ((0 : Int), (⟨#[]⟩ : ByteArray))).2)).bind fun r2 => idx (w64 (v3 - (1 : Int))) (x0.length : Int) <| bif ((rd x0 (w64 (v3 - (1 : Int))) ((0 : Int), (⟨#[]⟩ : ByteArray))).1 != (0 : Int)) then (idx v3 (x0.length : Int) <| bif ((rd x0 v3 ((0 : Int), (⟨#[]⟩ : ByteArray))).1 != (0 : Int)) then ((g37 n r1.1 r2.1).bind fun r3 => (g38 n r1.1 r2.1).bind fun r4 => bif (decide ((w64 (r3.1 + r4.1)) > (0 : Int))) then (kr false) else (kn x0 (w64 (v3 + (1 : Int))))) else (kn x0 (w64 (v3 + (1 : Int))))) else (kn x0 (w64 (v3 + (1 : Int))))) else kx0
noncomputable def g19_2F {β : Type} (n : Nat) (s : FState) (cx : Cx β) : Option β := FX (g19_G n) n (nav g19_B [1, 0, 1, 0, 0, 0, 0]) (.fin none none (some g19_m1e) [(0, g19_m3e)] .leaf) s { cx with nrm := fun s => FX (g19_G n) n (nav g19_B [1, 0, 1, 0, 0, 0, 1]) (.fin none none (some g19_m1e) [(0, g19_m3e)] .leaf) s { cx with nrm := fun s => FX (g19_G n) n (nav g19_B [1, 0, 1, 0, 0, 1, 0]) (.fin none none (some g19_m1e) [(0, g19_m3e)] .leaf) s { cx with nrm := fun s => FX (g19_G n) n (nav g19_B [1, 0, 1, 0, 0, 1, 1]) (.fin none (some g19_m2e) (some g19_m1e) [(0, g19_m3e)] .leaf) s cx } } }
theorem g19_2_fx {β : Type} (n : Nat) (cx : Cx β) (x0 : List (Int × ByteArray)) (v3 : Int) : g19_2F n (g19_m2 x0 v3) cx = g19_2 n (fun x0 v3 => cx.nrm (g19_m2 x0 v3)) (fun v2 => cx.ret (g19_m1 v2)) (cx.ex 0 g19_m3) x0 v3 := by kernel_rfl
noncomputable def g19_3L {β : Type} (n : Nat) (kr : Bool → Option β) (kx0 : Option β) : Nat → List (Int × ByteArray) → Int → Option β
  | 0, _, _ => none
  | m + 1, x0, v3 => g19_2 n (g19_3L n kr kx0 m) kr kx0 x0 v3
noncomputable def g19_3 {β : Type} (n : Nat) (kr : Bool → Option β) (kx0 : Option β) (x0 : List (Int × ByteArray)) (v3 : Int) : Option β := g19_3L n kr kx0 n x0 v3
noncomputable def g19_3F {β : Type} (n : Nat) (s : FState) (cx : Cx β) : Option β := loopN (fun again s => g19_2F n s { cx with nrm := again }) n s
theorem g19_3L_fx {β : Type} (n : Nat) (cx : Cx β) : ∀ (m : Nat) (x0 : List (Int × ByteArray)) (v3 : Int), loopN (fun again s => g19_2F n s { cx with nrm := again }) m (g19_m2 x0 v3) = g19_3L n (fun v2 => cx.ret (g19_m1 v2)) (cx.ex 0 g19_m3) m x0 v3 := by
  intro m
  induction m with
  | zero => intros; rfl
  | succ m ih => intros; simp only [loopN, g19_3L, g19_2_fx, ih]
theorem g19_3_fx {β : Type} (n : Nat) (cx : Cx β) (x0 : List (Int × ByteArray)) (v3 : Int) : g19_3F n (g19_m2 x0 v3) cx = g19_3 n (fun v2 => cx.ret (g19_m1 v2)) (cx.ex 0 g19_m3) x0 v3 := g19_3L_fx n cx n x0 v3
noncomputable def g19_4 {β : Type} (n : Nat) (kn : Option β) (kr : Bool → Option β) (x0 : List (Int × ByteArray)) (v3 : Int) : Option β := g19_3 n kr kn x0 v3
noncomputable def g19_4F {β : Type} (n : Nat) (s : FState) (cx : Cx β) : Option β := g19_3F n s { cx with ex := fun j s => bif Nat.beq j 0 then cx.nrm s else cx.ex j s }
theorem g19_4_fx {β : Type} (n : Nat) (cx : Cx β) (x0 : List (Int × ByteArray)) (v3 : Int) : g19_4F n (g19_m2 x0 v3) cx = g19_4 n (cx.nrm g19_m3) (fun v2 => cx.ret (g19_m1 v2)) x0 v3 := g19_3_fx n _ x0 v3
noncomputable def g19_5 {β : Type} (n : Nat) (kr : Bool → Option β) : Option β := kr true
noncomputable def g19_5F {β : Type} (n : Nat) (s : FState) (cx : Cx β) : Option β := FX (g19_G n) n (nav g19_B [1, 1, 0]) (.fin none none (some g19_m1e) [] .leaf) s { cx with nrm := fun s => FX (g19_G n) n (nav g19_B [1, 1, 1]) (.fin none none (some g19_m1e) [] .leaf) s cx }
theorem g19_5_fx {β : Type} (n : Nat) (cx : Cx β) : g19_5F n g19_m3 cx = g19_5 n (fun v2 => cx.ret (g19_m1 v2)) := by kernel_rfl
noncomputable def g19_6 {β : Type} (n : Nat) (kr : Bool → Option β) (x0 : List (Int × ByteArray)) : Option β := g19_1 n (fun x0 v3 => g19_4 n (g19_5 n kr) kr x0 v3) x0
noncomputable def g19_6F {β : Type} (n : Nat) (s : FState) (cx : Cx β) : Option β := g19_1F n s { cx with nrm := fun s => g19_4F n s { cx with nrm := fun s => g19_5F n s cx } }
theorem g19_6_fx {β : Type} (n : Nat) (cx : Cx β) (x0 : List (Int × ByteArray)) : g19_6F n (g19_m0 x0) cx = g19_6 n (fun v2 => cx.ret (g19_m1 v2)) x0 := by simp only [g19_6F, g19_6, g19_1_fx, g19_4_fx, g19_5_fx]
noncomputable def g19 (n : Nat) (x0 : List (Int × ByteArray)) : Option (DenR [.dat .bool]) := g19_6 n (fun v2 => some (v2, ())) x0
noncomputable def g19_A : List AK := [.ro (.pair (.int .i64) .str) 31]
noncomputable def g19_R : List RK := [.dat .bool]
noncomputable def g19_f (n : Nat) (d : DenA g19_A) : Option (DenR g19_R) := g19 n d.1
noncomputable def g19_S (n : Nat) : Spec := mkSpec g19_A g19_R (g19_f n)
noncomputable def g19_K : Sk := (.nd (.fin none none none [] .leaf) (.nd (.nd (.fin none (some g19_m2e) none [] .leaf) (.nd (.nd (.nd (.nd (.fin none none (some g19_m1e) [(0, g19_m3e)] .leaf) (.fin none none (some g19_m1e) [(0, g19_m3e)] .leaf)) (.nd (.fin none none (some g19_m1e) [(0, g19_m3e)] .leaf) (.fin none (some g19_m2e) (some g19_m1e) [(0, g19_m3e)] .leaf))) .leaf) .leaf)) (.nd (.fin none none (some g19_m1e) [] .leaf) (.fin none none (some g19_m1e) [] .leaf))))
theorem g19_top {β : Type} (n : Nat) (s : FState) (cx : Cx β) : FX (g19_G n) n g19_B g19_K s cx = g19_6F n s cx := by kernel_rfl
theorem g19_fit (n : Nat) : Fit Tryd.prog 19 (g19_S n) :=
  fit_of (Γ := Γ0) (l := g19_C n) (n := n) (sk := g19_K) (ts := [(2, none)]) (fn := Tryd.f19) (c := g19_B) (by kernel_rfl) (by kernel_rfl) (by unfold Callable; kernel_rfl) tab_ok ⟨g20_fit n, g37_fit n, g38_fit n, trivial⟩ follows_mixed (by kernel_rfl) (by kernel_rfl) (Nat.le_of_ble_eq_true (by kernel_rfl)) (by kernel_rfl) (by kernel_rfl)
    (fun d => (g19_top n _ _).trans (Eq.trans (b := g19_6F n (g19_m0 d.1) (finCx (g19_G n) g19_R [(2, none)])) (by kernel_rfl) ((g19_6_fx n _ d.1).trans (by kernel_rfl))))
end Go.Proofs.YticibdjilmclgaaDoorUF
