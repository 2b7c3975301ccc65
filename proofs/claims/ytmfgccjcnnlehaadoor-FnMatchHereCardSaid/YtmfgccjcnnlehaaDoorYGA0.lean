import Derived.Test.YtmfgccjcnnlehaaDoorYFT
namespace Go.Proofs.YtmfgccjcnnlehaaDoorYF
open Go Go.Proofs
set_option linter.unusedVariables false
set_option maxRecDepth 100000
variable {β : Type}
noncomputable def g48_m0 (v0 : (Bool × (Int × (Int × (Nat × (Nat × (Int × Int))))))) : FState := ⟨tlist [(0, .dat (.pair .bool (.pair (.int .i64) (.pair (.int .i64) (.pair (.flt .f64) (.pair (.flt .f64) (.pair (.int .i64) (.int .i64))))))) v0)], olist []⟩
noncomputable def g48_m1 (v2 : Bool) : FState := ⟨tlist [(2, .dat .bool v2)], olist []⟩
noncomputable def g48_m1e : List NE := [.keep 2]
noncomputable def g48_C (n : Nat) : List (Nat × Spec) := []
noncomputable def g48_G (n : Nat) : Ctx := { Γ0 with calls := lkS (g48_C n) }
noncomputable def g48_B : Code := fb Tryd.f48
noncomputable def g48_1 (n : Nat) (kr : Bool → Option β) (v0 : (Bool × (Int × (Int × (Nat × (Nat × (Int × Int))))))) : Option β := bif (decide (v0.2.1 ≥ (0 : Int))) then (bif (decide (v0.2.1 ≤ (1000 : Int))) then (bif (decide (v0.2.2.1 ≥ (0 : Int))) then (bif (decide (v0.2.2.1 ≤ (1048576 : Int))) then (bif ((fGt .f64 v0.2.2.2.1 (0 : Nat)) || (fEq .f64 v0.2.2.2.1 (0 : Nat))) then (bif ((fLt .f64 v0.2.2.2.1 (4607182418800017408 : Nat)) || (fEq .f64 v0.2.2.2.1 (4607182418800017408 : Nat))) then (bif ((fGt .f64 v0.2.2.2.2.1 (0 : Nat)) || (fEq .f64 v0.2.2.2.2.1 (0 : Nat))) then (bif ((fLt .f64 v0.2.2.2.2.1 (4607182418800017408 : Nat)) || (fEq .f64 v0.2.2.2.2.1 (4607182418800017408 : Nat))) then (bif (decide (v0.2.2.2.2.2.1 ≥ (1 : Int))) then (bif (decide (v0.2.2.2.2.2.1 ≤ (8 : Int))) then (bif (decide (v0.2.2.2.2.2.2 ≥ (32 : Int))) then (kr (decide (v0.2.2.2.2.2.2 ≤ (62 : Int)))) else (kr false)) else (kr false)) else (kr false)) else (kr false)) else (kr false)) else (kr false)) else (kr false)) else (kr false)) else (kr false)) else (kr false)) else (kr false)
noncomputable def g48_1F (n : Nat) (s : FState) (cx : Cx β) : Option β := FX (g48_G n) n (nav g48_B [0]) (.fin none none (some g48_m1e) [] .leaf) s { cx with nrm := fun s => FX (g48_G n) n (nav g48_B [1, 0]) (.fin none none (some g48_m1e) [] .leaf) s { cx with nrm := fun s => FX (g48_G n) n (nav g48_B [1, 1]) (.fin none none (some g48_m1e) [] .leaf) s cx } }
theorem g48_1_fx (n : Nat) (cx : Cx β) (v0 : (Bool × (Int × (Int × (Nat × (Nat × (Int × Int))))))) : g48_1F n (g48_m0 v0) cx = g48_1 n (fun v2 => cx.ret (g48_m1 v2)) v0 := by kernel_rfl
noncomputable def g48 (n : Nat) (v0 : (Bool × (Int × (Int × (Nat × (Nat × (Int × Int))))))) : Option (DenR [.dat .bool]) := g48_1 n (fun v2 => some (v2, ())) v0
noncomputable def g48_A : List AK := [.dat (.pair .bool (.pair (.int .i64) (.pair (.int .i64) (.pair (.flt .f64) (.pair (.flt .f64) (.pair (.int .i64) (.int .i64)))))))]
noncomputable def g48_R : List RK := [.dat .bool]
noncomputable def g48_f (n : Nat) (d : DenA g48_A) : Option (DenR g48_R) := g48 n d.1
noncomputable def g48_S (n : Nat) : Spec := mkSpec g48_A g48_R (g48_f n)
noncomputable def g48_K : Sk := (.nd (.fin none none (some g48_m1e) [] .leaf) (.nd (.fin none none (some g48_m1e) [] .leaf) (.fin none none (some g48_m1e) [] .leaf)))
theorem g48_top (n : Nat) (s : FState) (cx : Cx β) : FX (g48_G n) n g48_B g48_K s cx = g48_1F n s cx := by kernel_rfl
theorem g48_fit (n : Nat) : Fit Tryd.prog 48 (g48_S n) :=
  fit_of (Γ := Γ0) (l := g48_C n) (n := n) (sk := g48_K) (ts := [(2, none)]) (fn := Tryd.f48) (c := g48_B) (by kernel_rfl) (by kernel_rfl) (by unfold Callable; kernel_rfl) tab_ok trivial follows_mixed (by kernel_rfl) (by kernel_rfl) (Nat.le_of_ble_eq_true (by kernel_rfl)) (by kernel_rfl) (by kernel_rfl)
    (fun d => (g48_top n _ _).trans (Eq.trans (b := g48_1F n (g48_m0 d.1) (finCx (g48_G n) g48_R [(2, none)])) (by kernel_rfl) ((g48_1_fx n _ d.1).trans (by kernel_rfl))))
noncomputable def g17_m0 (v0 : (Bool × (Int × (Int × (Nat × (Nat × (Int × Int))))))) (v1 v2 : ByteArray) : FState := ⟨tlist [(0, .dat (.pair .bool (.pair (.int .i64) (.pair (.int .i64) (.pair (.flt .f64) (.pair (.flt .f64) (.pair (.int .i64) (.int .i64))))))) v0), (1, .dat .str v1), (2, .dat .str v2)], olist []⟩
noncomputable def g17_m1 (v6 : Bool) : FState := ⟨tlist [(6, .dat .bool v6)], olist []⟩
noncomputable def g17_m1e : List NE := [.keep 6]
noncomputable def g17_C (n : Nat) : List (Nat × Spec) := [(48, g48_S n)]
noncomputable def g17_G (n : Nat) : Ctx := { Γ0 with calls := lkS (g17_C n) }
noncomputable def g17_B : Code := fb Tryd.f17
noncomputable def g17_1 (n : Nat) (kr : Bool → Option β) (v0 : (Bool × (Int × (Int × (Nat × (Nat × (Int × Int))))))) (v1 v2 : ByteArray) : Option β := (g48 n v0).bind fun r1 => bif r1.1 then (bif (decide ((v1.size : Int) ≤ (600 : Int))) then (bif (decide ((v2.size : Int) > (0 : Int))) then (kr (decide ((v2.size : Int) ≤ v0.2.2.2.2.2.2))) else (kr false)) else (kr false)) else (kr false)
noncomputable def g17_1F (n : Nat) (s : FState) (cx : Cx β) : Option β := FX (g17_G n) n (nav g17_B [0]) (.fin none none (some g17_m1e) [] .leaf) s { cx with nrm := fun s => FX (g17_G n) n (nav g17_B [1, 0]) (.fin none none (some g17_m1e) [] .leaf) s { cx with nrm := fun s => FX (g17_G n) n (nav g17_B [1, 1]) (.fin none none (some g17_m1e) [] .leaf) s cx } }
theorem g17_1_fx (n : Nat) (cx : Cx β) (v0 : (Bool × (Int × (Int × (Nat × (Nat × (Int × Int))))))) (v1 v2 : ByteArray) : g17_1F n (g17_m0 v0 v1 v2) cx = g17_1 n (fun v6 => cx.ret (g17_m1 v6)) v0 v1 v2 := by kernel_rfl
noncomputable def g17 (n : Nat) (v0 : (Bool × (Int × (Int × (Nat × (Nat × (Int × Int))))))) (v1 v2 : ByteArray) : Option (DenR [.dat .bool]) := g17_1 n (fun v6 => some (v6, ())) v0 v1 v2
noncomputable def g17_A : List AK := [.dat (.pair .bool (.pair (.int .i64) (.pair (.int .i64) (.pair (.flt .f64) (.pair (.flt .f64) (.pair (.int .i64) (.int .i64))))))), .dat .str, .dat .str]
noncomputable def g17_R : List RK := [.dat .bool]
noncomputable def g17_f (n : Nat) (d : DenA g17_A) : Option (DenR g17_R) := g17 n d.1 d.2.1 d.2.2.1
noncomputable def g17_S (n : Nat) : Spec := mkSpec g17_A g17_R (g17_f n)
noncomputable def g17_K : Sk := (.nd (.fin none none (some g17_m1e) [] .leaf) (.nd (.fin none none (some g17_m1e) [] .leaf) (.fin none none (some g17_m1e) [] .leaf)))
theorem g17_top (n : Nat) (s : FState) (cx : Cx β) : FX (g17_G n) n g17_B g17_K s cx = g17_1F n s cx := by kernel_rfl
theorem g17_fit (n : Nat) : Fit Tryd.prog 17 (g17_S n) :=
  fit_of (Γ := Γ0) (l := g17_C n) (n := n) (sk := g17_K) (ts := [(6, none)]) (fn := Tryd.f17) (c := g17_B) (by kernel_rfl) (by kernel_rfl) (by unfold Callable; kernel_rfl) tab_ok ⟨g48_fit n, trivial⟩ follows_mixed (by kernel_rfl) (by kernel_rfl) (Nat.le_of_ble_eq_true (by kernel_rfl)) (by kernel_rfl) (by kernel_rfl)
    (fun d => (g17_top n _ _).trans (Eq.trans (b := g17_1F n (g17_m0 d.1 d.2.1 d.2.2.1) (finCx (g17_G n) g17_R [(6, none)])) (by kernel_rfl) ((g17_1_fx n _ d.1 d.2.1 d.2.2.1).trans (by kernel_rfl))))
noncomputable def g23_m0 (v0 v1 : Int) : FState := ⟨tlist [(0, .dat (.int .i64) v0), (1, .dat (.int .i64) v1)], olist []⟩
noncomputable def g23_m1 (v4 : Int) : FState := ⟨tlist [(4, .dat (.int .i64) v4)], olist []⟩
noncomputable def g23_m1e : List NE := [.keep 4]
noncomputable def g23_C (n : Nat) : List (Nat × Spec) := []
noncomputable def g23_G (n : Nat) : Ctx := { Γ0 with calls := lkS (g23_C n) }
noncomputable def g23_B : Code := fb Tryd.f23
noncomputable def g23_1 (n : Nat) (kr : Int → Option β) (v0 v1 : Int) : Option β := kr (maxI (0 : Int) (minI v0 v1))
noncomputable def g23_1F (n : Nat) (s : FState) (cx : Cx β) : Option β := FX (g23_G n) n (nav g23_B [0]) (.fin none none (some g23_m1e) [] .leaf) s { cx with nrm := fun s => FX (g23_G n) n (nav g23_B [1, 0]) (.fin none none (some g23_m1e) [] .leaf) s { cx with nrm := fun s => FX (g23_G n) n (nav g23_B [1, 1]) (.fin none none (some g23_m1e) [] .leaf) s cx } }
theorem g23_1_fx (n : Nat) (cx : Cx β) (v0 v1 : Int) : g23_1F n (g23_m0 v0 v1) cx = g23_1 n (fun v4 => cx.ret (g23_m1 v4)) v0 v1 := by kernel_rfl
noncomputable def g23 (n : Nat) (v0 v1 : Int) : Option (DenR [.dat (.int .i64)]) := g23_1 n (fun v4 => some (v4, ())) v0 v1
noncomputable def g23_A : List AK := [.dat (.int .i64), .dat (.int .i64)]
noncomputable def g23_R : List RK := [.dat (.int .i64)]
noncomputable def g23_f (n : Nat) (d : DenA g23_A) : Option (DenR g23_R) := g23 n d.1 d.2.1
noncomputable def g23_S (n : Nat) : Spec := mkSpec g23_A g23_R (g23_f n)
noncomputable def g23_K : Sk := (.nd (.fin none none (some g23_m1e) [] .leaf) (.nd (.fin none none (some g23_m1e) [] .leaf) (.fin none none (some g23_m1e) [] .leaf)))
theorem g23_top (n : Nat) (s : FState) (cx : Cx β) : FX (g23_G n) n g23_B g23_K s cx = g23_1F n s cx := by kernel_rfl
theorem g23_fit (n : Nat) : Fit Tryd.prog 23 (g23_S n) :=
  fit_of (Γ := Γ0) (l := g23_C n) (n := n) (sk := g23_K) (ts := [(4, none)]) (fn := Tryd.f23) (c := g23_B) (by kernel_rfl) (by kernel_rfl) (by unfold Callable; kernel_rfl) tab_ok trivial follows_mixed (by kernel_rfl) (by kernel_rfl) (Nat.le_of_ble_eq_true (by kernel_rfl)) (by kernel_rfl) (by kernel_rfl)
    (fun d => (g23_top n _ _).trans (Eq.trans (b := g23_1F n (g23_m0 d.1 d.2.1) (finCx (g23_G n) g23_R [(4, none)])) (by kernel_rfl) ((g23_1_fx n _ d.1 d.2.1).trans (by kernel_rfl))))
noncomputable def g21_m0 (v0 v1 : ByteArray) (v2 : Int) : FState := ⟨tlist [(0, .dat .str v0), (1, .dat .str v1), (2, .dat (.int .i64) v2)], olist []⟩
noncomputable def g21_m1 (v6 : Bool) : FState := ⟨tlist [(6, .dat .bool v6)], olist []⟩
noncomputable def g21_m1e : List NE := [.keep 6]
noncomputable def g21_C (n : Nat) : List (Nat × Spec) := []
noncomputable def g21_G (n : Nat) : Ctx := { Γ0 with calls := lkS (g21_C n) }
noncomputable def g21_B : Code := fb Tryd.f21
noncomputable def g21_1 (n : Nat) (kr : Bool → Option β) (v0 v1 : ByteArray) (v2 : Int) : Option β := bif (decide (v2 ≥ (0 : Int))) then (bif (decide ((w64 (v2 + (v1.size : Int))) ≤ (v0.size : Int))) then (bnd v2 (w64 (v2 + (v1.size : Int))) (v0.size : Int) <| kr (strEq (cutS v0 v2 (w64 (v2 + (v1.size : Int)))) v1)) else (kr false)) else (kr false)
noncomputable def g21_1F (n : Nat) (s : FState) (cx : Cx β) : Option β := FX (g21_G n) n (nav g21_B [0]) (.fin none none (some g21_m1e) [] .leaf) s { cx with nrm := fun s => FX (g21_G n) n (nav g21_B [1, 0]) (.fin none none (some g21_m1e) [] .leaf) s { cx with nrm := fun s => FX (g21_G n) n (nav g21_B [1, 1]) (.fin none none (some g21_m1e) [] .leaf) s cx } }
theorem g21_1_fx (n : Nat) (cx : Cx β) (v0 v1 : ByteArray) (v2 : Int) : g21_1F n (g21_m0 v0 v1 v2) cx = g21_1 n (fun v6 => cx.ret (g21_m1 v6)) v0 v1 v2 := by kernel_rfl
noncomputable def g21 (n : Nat) (v0 v1 : ByteArray) (v2 : Int) : Option (DenR [.dat .bool]) := g21_1 n (fun v6 => some (v6, ())) v0 v1 v2
noncomputable def g21_A : List AK := [.dat .str, .dat .str, .dat (.int .i64)]
noncomputable def g21_R : List RK := [.dat .bool]
noncomputable def g21_f (n : Nat) (d : DenA g21_A) : Option (DenR g21_R) := g21 n d.1 d.2.1 d.2.2.1
noncomputable def g21_S (n : Nat) : Spec := mkSpec g21_A g21_R (g21_f n)
noncomputable def g21_K : Sk := (.nd (.fin none none (some g21_m1e) [] .leaf) (.nd (.fin none none (some g21_m1e) [] .leaf) (.fin none none (some g21_m1e) [] .leaf)))
theorem g21_top (n : Nat) (s : FState) (cx : Cx β) : FX (g21_G n) n g21_B g21_K s cx = g21_1F n s cx := by kernel_rfl
theorem g21_fit (n : Nat) : Fit Tryd.prog 21 (g21_S n) :=
  fit_of (Γ := Γ0) (l := g21_C n) (n := n) (sk := g21_K) (ts := [(6, none)]) (fn := Tryd.f21) (c := g21_B) (by kernel_rfl) (by kernel_rfl) (by unfold Callable; kernel_rfl) tab_ok trivial follows_mixed (by kernel_rfl) (by kernel_rfl) (Nat.le_of_ble_eq_true (by kernel_rfl)) (by kernel_rfl) (by kernel_rfl)
    (fun d => (g21_top n _ _).trans (Eq.trans (b := g21_1F n (g21_m0 d.1 d.2.1 d.2.2.1) (finCx (g21_G n) g21_R [(6, none)])) (by kernel_rfl) ((g21_1_fx n _ d.1 d.2.1 d.2.2.1).trans (by kernel_rfl))))
noncomputable def g77_m0 (v0 v1 v2 v3 : Int) : FState := ⟨tlist [(0, .dat (.int .i64) v0), (1, .dat (.int .i64) v1), (2, .dat (.int .i64) v2), (3, .dat (.int .i64) v3)], olist []⟩
noncomputable def g77_m1 (v8 : Int) : FState := ⟨tlist [(8, .dat (.int .i64) v8)], olist []⟩
noncomputable def g77_m1e : List NE := [.keep 8]
noncomputable def g77_C (n : Nat) : List (Nat × Spec) := []
noncomputable def g77_G (n : Nat) : Ctx := { Γ0 with calls := lkS (g77_C n) }
noncomputable def g77_B : Code := fb Tryd.f77
noncomputable def g77_1 (n : Nat) (kr : Int → Option β) (v0 v1 v2 v3 : Int) : Option β := bif (decide (v0 < v1)) then (kr v3) else (bif (decide (v0 > v2)) then (kr v3) else (kr v0))
noncomputable def g77_1F (n : Nat) (s : FState) (cx : Cx β) : Option β := FX (g77_G n) n (nav g77_B [0]) (.fin none none (some g77_m1e) [] .leaf) s { cx with nrm := fun s => FX (g77_G n) n (nav g77_B [1, 0, 0]) (.fin none none (some g77_m1e) [] .leaf) s { cx with nrm := fun s => FX (g77_G n) n (nav g77_B [1, 0, 1]) (.fin none none (some g77_m1e) [] .leaf) s { cx with nrm := fun s => FX (g77_G n) n (nav g77_B [1, 1, 0]) (.fin none none (some g77_m1e) [] .leaf) s { cx with nrm := fun s => FX (g77_G n) n (nav g77_B [1, 1, 1]) (.fin none none (some g77_m1e) [] .leaf) s cx } } } }
theorem g77_1_fx (n : Nat) (cx : Cx β) (v0 v1 v2 v3 : Int) : g77_1F n (g77_m0 v0 v1 v2 v3) cx = g77_1 n (fun v8 => cx.ret (g77_m1 v8)) v0 v1 v2 v3 := by kernel_rfl
noncomputable def g77 (n : Nat) (v0 v1 v2 v3 : Int) : Option (DenR [.dat (.int .i64)]) := g77_1 n (fun v8 => some (v8, ())) v0 v1 v2 v3
noncomputable def g77_A : List AK := [.dat (.int .i64), .dat (.int .i64), .dat (.int .i64), .dat (.int .i64)]
noncomputable def g77_R : List RK := [.dat (.int .i64)]
noncomputable def g77_f (n : Nat) (d : DenA g77_A) : Option (DenR g77_R) := g77 n d.1 d.2.1 d.2.2.1 d.2.2.2.1
noncomputable def g77_S (n : Nat) : Spec := mkSpec g77_A g77_R (g77_f n)
noncomputable def g77_K : Sk := (.nd (.fin none none (some g77_m1e) [] .leaf) (.nd (.nd (.fin none none (some g77_m1e) [] .leaf) (.fin none none (some g77_m1e) [] .leaf)) (.nd (.fin none none (some g77_m1e) [] .leaf) (.fin none none (some g77_m1e) [] .leaf))))
theorem g77_top (n : Nat) (s : FState) (cx : Cx β) : FX (g77_G n) n g77_B g77_K s cx = g77_1F n s cx := by kernel_rfl
theorem g77_fit (n : Nat) : Fit Tryd.prog 77 (g77_S n) :=
  fit_of (Γ := Γ0) (l := g77_C n) (n := n) (sk := g77_K) (ts := [(8, none)]) (fn := Tryd.f77) (c := g77_B) (by kernel_rfl) (by kernel_rfl) (by unfold Callable; kernel_rfl) tab_ok trivial follows_mixed (by kernel_rfl) (by kernel_rfl) (Nat.le_of_ble_eq_true (by kernel_rfl)) (by kernel_rfl) (by kernel_rfl)
    (fun d => (g77_top n _ _).trans (Eq.trans (b := g77_1F n (g77_m0 d.1 d.2.1 d.2.2.1 d.2.2.2.1) (finCx (g77_G n) g77_R [(8, none)])) (by kernel_rfl) ((g77_1_fx n _ d.1 d.2.1 d.2.2.1 d.2.2.2.1).trans (by kernel_rfl))))
noncomputable def g78_m0 (v0 : Nat) : FState := ⟨tlist [(0, .dat (.flt .f64) v0)], olist []⟩
noncomputable def g78_m1 (v2 : Nat) : FState := ⟨tlist [(2, .dat (.flt .f64) v2)], olist []⟩
noncomputable def g78_m1e : List NE := [.keep 2]
noncomputable def g78_C (n : Nat) : List (Nat × Spec) := []
noncomputable def g78_G (n : Nat) : Ctx := { Γ0 with calls := lkS (g78_C n) }
noncomputable def g78_B : Code := fb Tryd.f78
noncomputable def g78_1 (n : Nat) (kr : Nat → Option β) (v0 : Nat) : Option β := bif ((fGt .f64 v0 (0 : Nat)) || (fEq .f64 v0 (0 : Nat))) then (bif ((fLt .f64 v0 (4607182418800017408 : Nat)) || (fEq .f64 v0 (4607182418800017408 : Nat))) then (kr v0) else (kr (4602678819172646912 : Nat))) else (kr (4602678819172646912 : Nat))
noncomputable def g78_1F (n : Nat) (s : FState) (cx : Cx β) : Option β := FX (g78_G n) n (nav g78_B [0]) (.fin none none (some g78_m1e) [] .leaf) s { cx with nrm := fun s => FX (g78_G n) n (nav g78_B [1, 0, 0]) (.fin none none (some g78_m1e) [] .leaf) s { cx with nrm := fun s => FX (g78_G n) n (nav g78_B [1, 0, 1]) (.fin none none (some g78_m1e) [] .leaf) s { cx with nrm := fun s => FX (g78_G n) n (nav g78_B [1, 1, 0]) (.fin none none (some g78_m1e) [] .leaf) s { cx with nrm := fun s => FX (g78_G n) n (nav g78_B [1, 1, 1]) (.fin none none (some g78_m1e) [] .leaf) s cx } } } }
theorem g78_1_fx (n : Nat) (cx : Cx β) (v0 : Nat) : g78_1F n (g78_m0 v0) cx = g78_1 n (fun v2 => cx.ret (g78_m1 v2)) v0 := by kernel_rfl
noncomputable def g78 (n v0 : Nat) : Option (DenR [.dat (.flt .f64)]) := g78_1 n (fun v2 => some (v2, ())) v0
noncomputable def g78_A : List AK := [.dat (.flt .f64)]
noncomputable def g78_R : List RK := [.dat (.flt .f64)]
noncomputable def g78_f (n : Nat) (d : DenA g78_A) : Option (DenR g78_R) := g78 n d.1
noncomputable def g78_S (n : Nat) : Spec := mkSpec g78_A g78_R (g78_f n)
noncomputable def g78_K : Sk := (.nd (.fin none none (some g78_m1e) [] .leaf) (.nd (.nd (.fin none none (some g78_m1e) [] .leaf) (.fin none none (some g78_m1e) [] .leaf)) (.nd (.fin none none (some g78_m1e) [] .leaf) (.fin none none (some g78_m1e) [] .leaf))))
theorem g78_top (n : Nat) (s : FState) (cx : Cx β) : FX (g78_G n) n g78_B g78_K s cx = g78_1F n s cx := by kernel_rfl
theorem g78_fit (n : Nat) : Fit Tryd.prog 78 (g78_S n) :=
  fit_of (Γ := Γ0) (l := g78_C n) (n := n) (sk := g78_K) (ts := [(2, none)]) (fn := Tryd.f78) (c := g78_B) (by kernel_rfl) (by kernel_rfl) (by unfold Callable; kernel_rfl) tab_ok trivial follows_mixed (by kernel_rfl) (by kernel_rfl) (Nat.le_of_ble_eq_true (by kernel_rfl)) (by kernel_rfl) (by kernel_rfl)
    (fun d => (g78_top n _ _).trans (Eq.trans (b := g78_1F n (g78_m0 d.1) (finCx (g78_G n) g78_R [(2, none)])) (by kernel_rfl) ((g78_1_fx n _ d.1).trans (by kernel_rfl))))
noncomputable def g50_m0 (v0 : (Bool × (Int × (Int × (Nat × (Nat × (Int × Int))))))) : FState := ⟨tlist [(0, .dat (.pair .bool (.pair (.int .i64) (.pair (.int .i64) (.pair (.flt .f64) (.pair (.flt .f64) (.pair (.int .i64) (.int .i64))))))) v0)], olist []⟩
noncomputable def g50_m1 (p2 : (Int × (Int × (Int × (Nat × (Int × (Int × Nat))))))) : FState := ⟨tlist [(2, .ptr 2 0 0)], olist [(2, .row (.pair (.int .i64) (.pair (.int .i64) (.pair (.int .i64) (.pair (.flt .f64) (.pair (.int .i64) (.pair (.int .i64) (.flt .f64))))))) 112 true [p2])]⟩
noncomputable def g50_m1e : List NE := [.ptr 2 (.pair (.int .i64) (.pair (.int .i64) (.pair (.int .i64) (.pair (.flt .f64) (.pair (.int .i64) (.pair (.int .i64) (.flt .f64))))))) 112 true]
noncomputable def g50_C (n : Nat) : List (Nat × Spec) := [(77, g77_S n), (78, g78_S n)]
noncomputable def g50_G (n : Nat) : Ctx := { Γ0 with calls := lkS (g50_C n) }
noncomputable def g50_B : Code := fb Tryd.f50
noncomputable def g50_1 (n : Nat) (kr : (Int × (Int × (Int × (Nat × (Int × (Int × Nat)))))) → Option β) (v0 : (Bool × (Int × (Int × (Nat × (Nat × (Int × Int))))))) : Option β := (g77 n v0.2.1 (0 : Int) (1000 : Int) (4 : Int)).bind fun r1 => (g77 n v0.2.2.1 (0 : Int) (1048576 : Int) (1000 : Int)).bind fun r2 => (g78 n v0.2.2.2.1).bind fun r3 => (g78 n v0.2.2.2.2.1).bind fun r4 => (g77 n v0.2.2.2.2.2.1 (1 : Int) (8 : Int) (4 : Int)).bind fun r5 => (g77 n v0.2.2.2.2.2.2 (32 : Int) (62 : Int) (32 : Int)).bind fun r6 => bif v0.1 then (kr ((1 : Int), (r1.1, (r2.1, (r4.1, (r5.1, (r6.1, r3.1))))))) else (kr ((0 : Int), (r1.1, (r2.1, (r4.1, (r5.1, (r6.1, r3.1)))))))
noncomputable def g50_1F (n : Nat) (s : FState) (cx : Cx β) : Option β := FX (g50_G n) n (nav g50_B [0]) (.fin none none (some g50_m1e) [] .leaf) s { cx with nrm := fun s => FX (g50_G n) n (nav g50_B [1, 0]) (.fin none none (some g50_m1e) [] .leaf) s { cx with nrm := fun s => FX (g50_G n) n (nav g50_B [1, 1, 0, 0]) (.fin none none (some g50_m1e) [] .leaf) s { cx with nrm := fun s => FX (g50_G n) n (nav g50_B [1, 1, 0, 1]) (.fin none none (some g50_m1e) [] .leaf) s { cx with nrm := fun s => FX (g50_G n) n (nav g50_B [1, 1, 1, 0]) (.fin none none (some g50_m1e) [] .leaf) s { cx with nrm := fun s => FX (g50_G n) n (nav g50_B [1, 1, 1, 1]) (.fin none none (some g50_m1e) [] .leaf) s cx } } } } }
theorem g50_1_fx (n : Nat) (cx : Cx β) (v0 : (Bool × (Int × (Int × (Nat × (Nat × (Int × Int))))))) : g50_1F n (g50_m0 v0) cx = g50_1 n (fun p2 => cx.ret (g50_m1 p2)) v0 := by kernel_rfl
noncomputable def g50 (n : Nat) (v0 : (Bool × (Int × (Int × (Nat × (Nat × (Int × Int))))))) : Option (DenR [.ptr (.pair (.int .i64) (.pair (.int .i64) (.pair (.int .i64) (.pair (.flt .f64) (.pair (.int .i64) (.pair (.int .i64) (.flt .f64))))))) 112]) := g50_1 n (fun p2 => some (p2, ())) v0
noncomputable def g50_A : List AK := [.dat (.pair .bool (.pair (.int .i64) (.pair (.int .i64) (.pair (.flt .f64) (.pair (.flt .f64) (.pair (.int .i64) (.int .i64)))))))]
noncomputable def g50_R : List RK := [.ptr (.pair (.int .i64) (.pair (.int .i64) (.pair (.int .i64) (.pair (.flt .f64) (.pair (.int .i64) (.pair (.int .i64) (.flt .f64))))))) 112]
noncomputable def g50_f (n : Nat) (d : DenA g50_A) : Option (DenR g50_R) := g50 n d.1
noncomputable def g50_S (n : Nat) : Spec := mkSpec g50_A g50_R (g50_f n)
noncomputable def g50_K : Sk := (.nd (.fin none none (some g50_m1e) [] .leaf) (.nd (.fin none none (some g50_m1e) [] .leaf) (.nd (.nd (.fin none none (some g50_m1e) [] .leaf) (.fin none none (some g50_m1e) [] .leaf)) (.nd (.fin none none (some g50_m1e) [] .leaf) (.fin none none (some g50_m1e) [] .leaf)))))
theorem g50_top (n : Nat) (s : FState) (cx : Cx β) : FX (g50_G n) n g50_B g50_K s cx = g50_1F n s cx := by kernel_rfl
theorem g50_fit (n : Nat) : Fit Tryd.prog 50 (g50_S n) :=
  fit_of (Γ := Γ0) (l := g50_C n) (n := n) (sk := g50_K) (ts := [(2, none)]) (fn := Tryd.f50) (c := g50_B) (by kernel_rfl) (by kernel_rfl) (by unfold Callable; kernel_rfl) tab_ok ⟨g77_fit n, g78_fit n, trivial⟩ follows_mixed (by kernel_rfl) (by kernel_rfl) (Nat.le_of_ble_eq_true (by kernel_rfl)) (by kernel_rfl) (by kernel_rfl)
    (fun d => (g50_top n _ _).trans (Eq.trans (b := g50_1F n (g50_m0 d.1) (finCx (g50_G n) g50_R [(2, none)])) (by kernel_rfl) ((g50_1_fx n _ d.1).trans (by kernel_rfl))))
theorem g81_c1 (a b : Nat) (w : World) : (callFunc 110 #[.float .f64 a, .float .f64 b]).run Tryd.prog w = .ok (.value (.float .f64 (fMin a b))) w := by
  rw [run_callFunc_extern (fn := Tryd.f110) (e := Extern.MathDim.pick "math.archMin" true .lt) (by rfl) (by rfl) (by rfl) (by kernel_rfl) (by kernel_rfl)]
  rfl
attribute [local go_sem] g81_c1
theorem g81_calls (a0 a1 : Nat) (w : World) : Calls Tryd.prog 81 #[.float .f64 a0, .float .f64 a1] w fun e w' => e = .returned (.float .f64 (fMin a0 a1)) ∧ w' = w := by
  go_enter Tryd.func81, Tryd.ntmps81
  go_wp2
  go_ret
  exact ⟨rfl, rfl⟩
noncomputable def g81_A : List AK := [.dat (.flt .f64), .dat (.flt .f64)]
noncomputable def g81_R : List RK := [.dat (.flt .f64)]
noncomputable def g81 (n v0 v1 : Nat) : Option (DenR [.dat (.flt .f64)]) := some (fMin v0 v1, ())
noncomputable def g81_f (n : Nat) (d : DenA g81_A) : Option (DenR g81_R) := g81 n d.1 d.2.1
noncomputable def g81_S (n : Nat) : Spec := mkSpec g81_A g81_R (g81_f n)
theorem g81_fit (n : Nat) : Fit Tryd.prog 81 (g81_S n) := fit_flat (by unfold Callable; kernel_rfl) rfl fun d x w vs hG ha hx => by
  obtain ⟨v, vs1, o1, o2, rfl, _, ⟨_, cs, h1, h2⟩, v', vs2, o3, o4, rfl, _, ⟨_, cs', h3, h4⟩, h5, _⟩ := ha
  obtain ⟨a, b, u⟩ := d
  subst h5
  have h1 : cs = [Value.float .f64 a] := h1
  have h3 : cs' = [Value.float .f64 b] := h3
  subst h1
  subst h3
  simp [K.isPair] at h2 h4
  subst h2
  subst h4
  cases hx
  exact (g81_calls a b w).mono fun e w' ⟨he, hw⟩ => ⟨[.float .f64 (fMin a b)], he, ⟨_, _, [], [], rfl, rfl, ⟨rfl, _, rfl, rfl⟩, rfl, rfl⟩, by rw [hw]; exact ⟨rfl, rfl, rfl, Nat.le_refl _, fun _ _ => rfl⟩⟩
theorem g84_c1 (a b : Nat) (w : World) : (callFunc 115 #[.float .f64 a, .float .f64 b]).run Tryd.prog w = .ok (.value (.float .f64 (fMax a b))) w := by
  rw [run_callFunc_extern (fn := Tryd.f115) (e := Extern.MathDim.pick "math.archMax" false .gt) (by rfl) (by rfl) (by rfl) (by kernel_rfl) (by kernel_rfl)]
  rfl
attribute [local go_sem] g84_c1
theorem g84_calls (a0 a1 : Nat) (w : World) : Calls Tryd.prog 84 #[.float .f64 a0, .float .f64 a1] w fun e w' => e = .returned (.float .f64 (fMax a0 a1)) ∧ w' = w := by
  go_enter Tryd.func84, Tryd.ntmps84
  go_wp2
  go_ret
  exact ⟨rfl, rfl⟩
noncomputable def g84_A : List AK := [.dat (.flt .f64), .dat (.flt .f64)]
noncomputable def g84_R : List RK := [.dat (.flt .f64)]
noncomputable def g84 (n v0 v1 : Nat) : Option (DenR [.dat (.flt .f64)]) := some (fMax v0 v1, ())
noncomputable def g84_f (n : Nat) (d : DenA g84_A) : Option (DenR g84_R) := g84 n d.1 d.2.1
noncomputable def g84_S (n : Nat) : Spec := mkSpec g84_A g84_R (g84_f n)
theorem g84_fit (n : Nat) : Fit Tryd.prog 84 (g84_S n) := fit_flat (by unfold Callable; kernel_rfl) rfl fun d x w vs hG ha hx => by
  obtain ⟨v, vs1, o1, o2, rfl, _, ⟨_, cs, h1, h2⟩, v', vs2, o3, o4, rfl, _, ⟨_, cs', h3, h4⟩, h5, _⟩ := ha
  obtain ⟨a, b, u⟩ := d
  subst h5
  have h1 : cs = [Value.float .f64 a] := h1
  have h3 : cs' = [Value.float .f64 b] := h3
  subst h1
  subst h3
  simp [K.isPair] at h2 h4
  subst h2
  subst h4
  cases hx
  exact (g84_calls a b w).mono fun e w' ⟨he, hw⟩ => ⟨[.float .f64 (fMax a b)], he, ⟨_, _, [], [], rfl, rfl, ⟨rfl, _, rfl, rfl⟩, rfl, rfl⟩, by rw [hw]; exact ⟨rfl, rfl, rfl, Nat.le_refl _, fun _ _ => rfl⟩⟩
noncomputable def g51_A : List AK := [.pro (.pair (.int .i64) (.pair (.int .i64) (.pair (.int .i64) (.pair (.flt .f64) (.pair (.int .i64) (.pair (.int .i64) (.flt .f64))))))) 112, .dat .str, .dat .str, .dat (.int .i64)]
noncomputable def g51_R : List RK := [.dat (.int .i64)]
noncomputable def g51 (n : Nat) (v0 : (Int × (Int × (Int × (Nat × (Int × (Int × Nat))))))) (v1 v2 : ByteArray) (v3 : Int) : Option (DenR [.dat (.int .i64)]) := none
noncomputable def g51_f (n : Nat) (d : DenA g51_A) : Option (DenR g51_R) := none
noncomputable def g51_S (n : Nat) : Spec := mkSpec g51_A g51_R (g51_f n)
theorem g51_fit (n : Nat) : Fit Tryd.prog 51 (g51_S n) := fit_none (by unfold Callable; kernel_rfl)
noncomputable def g53_m0 (p0 : (Int × (Int × (Int × (Nat × (Int × (Int × Nat))))))) (v1 v2 : ByteArray) (v3 : Int) : FState := ⟨tlist [(0, .ptr 0 0 0), (1, .dat .str v1), (2, .dat .str v2), (3, .dat (.int .i64) v3)], olist [(0, .row (.pair (.int .i64) (.pair (.int .i64) (.pair (.int .i64) (.pair (.flt .f64) (.pair (.int .i64) (.pair (.int .i64) (.flt .f64))))))) 112 false [p0])]⟩
noncomputable def g53_m1 (v8 : Int) : FState := ⟨tlist [(8, .dat (.int .i64) v8)], olist []⟩
noncomputable def g53_m1e : List NE := [.keep 8]
noncomputable def g53_C (n : Nat) : List (Nat × Spec) := [(51, g51_S n), (81, g81_S n), (84, g84_S n)]
noncomputable def g53_G (n : Nat) : Ctx := { Γ0 with calls := lkS (g53_C n) }
noncomputable def g53_B : Code := fb Tryd.f53
noncomputable def g53_1 (n : Nat) (kr : Int → Option β) (p0 : (Int × (Int × (Int × (Nat × (Int × (Int × Nat))))))) (v1 v2 : ByteArray) (v3 : Int) : Option β := (g81 n (floatOfInt .f64 v3) (floatOfInt .f64 (v1.size : Int))).bind fun r1 => (g84 n (0 : Nat) r1.1).bind fun r2 => onS (floatToIntVal .f64 r2.1 .i64) fun r3 => bif (strEq v1 v2) then (kr (0 : Int)) else (bif ((v1.size : Int) == (0 : Int)) then (kr (-1 : Int)) else (bif (decide ((w64 (r3 + (v2.size : Int))) ≤ (v1.size : Int))) then (bnd r3 (w64 (r3 + (v2.size : Int))) (v1.size : Int) <| bif (strEq (cutS v1 r3 (w64 (r3 + (v2.size : Int)))) v2) then (kr r3) else ((g51 n p0 v1 v2 r3).bind fun r4 => kr r4.1)) else ((g51 n p0 v1 v2 r3).bind fun r5 => kr r5.1)))
noncomputable def g53_1F (n : Nat) (s : FState) (cx : Cx β) : Option β := FX (g53_G n) n (nav g53_B [0]) (.fin none none (some g53_m1e) [] .leaf) s { cx with nrm := fun s => FX (g53_G n) n (nav g53_B [1, 0]) (.fin none none (some g53_m1e) [] .leaf) s { cx with nrm := fun s => FX (g53_G n) n (nav g53_B [1, 1, 0, 0]) (.fin none none (some g53_m1e) [] .leaf) s { cx with nrm := fun s => FX (g53_G n) n (nav g53_B [1, 1, 0, 1]) (.fin none none (some g53_m1e) [] .leaf) s { cx with nrm := fun s => FX (g53_G n) n (nav g53_B [1, 1, 1, 0]) (.fin none none (some g53_m1e) [] .leaf) s { cx with nrm := fun s => FX (g53_G n) n (nav g53_B [1, 1, 1, 1]) (.fin none none (some g53_m1e) [] .leaf) s cx } } } } }
theorem g53_1_fx (n : Nat) (cx : Cx β) (p0 : (Int × (Int × (Int × (Nat × (Int × (Int × Nat))))))) (v1 v2 : ByteArray) (v3 : Int) : g53_1F n (g53_m0 p0 v1 v2 v3) cx = g53_1 n (fun v8 => cx.ret (g53_m1 v8)) p0 v1 v2 v3 := by kernel_rfl
noncomputable def g53 (n : Nat) (p0 : (Int × (Int × (Int × (Nat × (Int × (Int × Nat))))))) (v1 v2 : ByteArray) (v3 : Int) : Option (DenR [.dat (.int .i64)]) := g53_1 n (fun v8 => some (v8, ())) p0 v1 v2 v3
noncomputable def g53_A : List AK := [.pro (.pair (.int .i64) (.pair (.int .i64) (.pair (.int .i64) (.pair (.flt .f64) (.pair (.int .i64) (.pair (.int .i64) (.flt .f64))))))) 112, .dat .str, .dat .str, .dat (.int .i64)]
noncomputable def g53_R : List RK := [.dat (.int .i64)]
noncomputable def g53_f (n : Nat) (d : DenA g53_A) : Option (DenR g53_R) := g53 n d.1 d.2.1 d.2.2.1 d.2.2.2.1
noncomputable def g53_S (n : Nat) : Spec := mkSpec g53_A g53_R (g53_f n)
noncomputable def g53_K : Sk := (.nd (.fin none none (some g53_m1e) [] .leaf) (.nd (.fin none none (some g53_m1e) [] .leaf) (.nd (.nd (.fin none none (some g53_m1e) [] .leaf) (.fin none none (some g53_m1e) [] .leaf)) (.nd (.fin none none (some g53_m1e) [] .leaf) (.fin none none (some g53_m1e) [] .leaf)))))
theorem g53_top (n : Nat) (s : FState) (cx : Cx β) : FX (g53_G n) n g53_B g53_K s cx = g53_1F n s cx := by kernel_rfl
theorem g53_fit (n : Nat) : Fit Tryd.prog 53 (g53_S n) :=
  fit_of (Γ := Γ0) (l := g53_C n) (n := n) (sk := g53_K) (ts := [(8, none)]) (fn := Tryd.f53) (c := g53_B) (by kernel_rfl) (by kernel_rfl) (by unfold Callable; kernel_rfl) tab_ok ⟨g51_fit n, g81_fit n, g84_fit n, trivial⟩ follows_mixed (by kernel_rfl) (by kernel_rfl) (Nat.le_of_ble_eq_true (by kernel_rfl)) (by kernel_rfl) (by kernel_rfl)
    (fun d => (g53_top n _ _).trans (Eq.trans (b := g53_1F n (g53_m0 d.1 d.2.1 d.2.2.1 d.2.2.2.1) (finCx (g53_G n) g53_R [(8, none)])) (by kernel_rfl) ((g53_1_fx n _ d.1 d.2.1 d.2.2.1 d.2.2.2.1).trans (by kernel_rfl))))
theorem g52_idle : Idle Tryd.prog 52 2 := fun vs w hv => by
  obtain ⟨p0, p1, rfl⟩ := arr2 hv
  refine callsD_of_wpS (fn := Tryd.f52) (c := fb Tryd.f52) (by kernel_rfl) (by kernel_rfl) fun c₀ cs hu => ?_
  show Code.wpS Tryd.prog (.seq (nav (fb Tryd.f52) [0]) (.cond (.tmp 3) (nav (fb Tryd.f52) [1, 0]) .skip)) _ _ _ _
  apply wpS_seq
  apply wpS_region
  simp [wpOpsS, go_sem, recoverD, hu, Exit.thenS]
  refine wpS_cond (t := false) (by simp [Act.eval, Array.replicate]) ?_
  simp only [Bool.false_eq_true, if_false]
  refine wpS_of_wp (wp_skip ?_)
  cases c₀
  simp_all [bodyPostS, results]
noncomputable def g22_m0 (v0 : (Bool × (Int × (Int × (Nat × (Nat × (Int × Int))))))) (v1 v2 : ByteArray) (v3 : Int) : FState := ⟨tlist [(0, .dat (.pair .bool (.pair (.int .i64) (.pair (.int .i64) (.pair (.flt .f64) (.pair (.flt .f64) (.pair (.int .i64) (.int .i64))))))) v0), (1, .dat .str v1), (2, .dat .str v2), (3, .dat (.int .i64) v3)], olist []⟩
noncomputable def g22_m1 (p8 p9 : Int) : FState := ⟨tlist [(8, .ptr 8 0 0), (9, .ptr 9 0 0)], olist [(8, .row (.int .i64) 3 true [p8]), (9, .row (.int .i64) 3 true [p9])]⟩
noncomputable def g22_m1e : List NE := [.ptr 8 (.int .i64) 3 true, .ptr 9 (.int .i64) 3 true]
noncomputable def g22_m2 (v1 v2 : ByteArray) (v3 : Int) (p4 : (Bool × (Int × (Int × (Nat × (Nat × (Int × Int))))))) (p8 p9 : Int) : FState := ⟨tlist [(1, .dat .str v1), (2, .dat .str v2), (3, .dat (.int .i64) v3), (4, .ptr 4 0 0), (8, .ptr 8 0 0), (9, .ptr 9 0 0)], olist [(4, .row (.pair .bool (.pair (.int .i64) (.pair (.int .i64) (.pair (.flt .f64) (.pair (.flt .f64) (.pair (.int .i64) (.int .i64))))))) 33 true [p4]), (8, .row (.int .i64) 3 true [p8]), (9, .row (.int .i64) 3 true [p9])]⟩
noncomputable def g22_m2e : List NE := [.keep 1, .keep 2, .keep 3, .ptr 4 (.pair .bool (.pair (.int .i64) (.pair (.int .i64) (.pair (.flt .f64) (.pair (.flt .f64) (.pair (.int .i64) (.int .i64))))))) 33 true, .ptr 8 (.int .i64) 3 true, .ptr 9 (.int .i64) 3 true]
noncomputable def g22_C (n : Nat) : List (Nat × Spec) := [(50, g50_S n), (53, g53_S n)]
noncomputable def g22_G (n : Nat) : Ctx := { Γ0 with calls := lkS (g22_C n) }
noncomputable def g22_B : Code := fb Tryd.f22
noncomputable def g22_1 (n : Nat) (kn : ByteArray → ByteArray → Int → (Bool × (Int × (Int × (Nat × (Nat × (Int × Int)))))) → Int → Int → Option β) (v0 : (Bool × (Int × (Int × (Nat × (Nat × (Int × Int))))))) (v1 v2 : ByteArray) (v3 : Int) : Option β := kn v1 v2 v3 v0 (0 : Int) (0 : Int)
noncomputable def g22_1F (n : Nat) (s : FState) (cx : Cx β) : Option β := FX (g22_G n) n (nav g22_B [0]) (.fin none (some g22_m2e) none [] .leaf) s cx
theorem g22_1_fx (n : Nat) (cx : Cx β) (v0 : (Bool × (Int × (Int × (Nat × (Nat × (Int × Int))))))) (v1 v2 : ByteArray) (v3 : Int) : g22_1F n (g22_m0 v0 v1 v2 v3) cx = g22_1 n (fun v1 v2 v3 p4 p8 p9 => cx.nrm (g22_m2 v1 v2 v3 p4 p8 p9)) v0 v1 v2 v3 := by kernel_rfl
noncomputable def g22_2 (n : Nat) (kr : Int → Int → Option β) (v1 v2 : ByteArray) (v3 : Int) (p4 : (Bool × (Int × (Int × (Nat × (Nat × (Int × Int))))))) (p8 p9 : Int) : Option β := (g50 n p4).bind fun r1 => (g53 n r1.1 v1 v2 v3).bind fun r2 => kr r2.1 (0 : Int)
noncomputable def g22_2F (n : Nat) (s : FState) (cx : Cx β) : Option β := FX (g22_G n) n (nav g22_B [1, 1, 0]) (.fin none none (some g22_m1e) [] .leaf) s { cx with nrm := fun s => FX (g22_G n) n (nav g22_B [1, 1, 1]) (.fin none none (some g22_m1e) [] .leaf) s cx }
theorem g22_2_fx (n : Nat) (cx : Cx β) (v1 v2 : ByteArray) (v3 : Int) (p4 : (Bool × (Int × (Int × (Nat × (Nat × (Int × Int))))))) (p8 p9 : Int) : g22_2F n (g22_m2 v1 v2 v3 p4 p8 p9) cx = g22_2 n (fun p8 p9 => cx.ret (g22_m1 p8 p9)) v1 v2 v3 p4 p8 p9 := by kernel_rfl
noncomputable def g22 (n : Nat) (v0 : (Bool × (Int × (Int × (Nat × (Nat × (Int × Int))))))) (v1 v2 : ByteArray) (v3 : Int) : Option (DenR [.dat (.int .i64), .dat (.int .i64)]) := g22_1 n (fun v1 v2 v3 p4 p8 p9 => g22_2 n (fun p8 p9 => some (p8, (p9, ()))) v1 v2 v3 p4 p8 p9) v0 v1 v2 v3
noncomputable def g22_A : List AK := [.dat (.pair .bool (.pair (.int .i64) (.pair (.int .i64) (.pair (.flt .f64) (.pair (.flt .f64) (.pair (.int .i64) (.int .i64))))))), .dat .str, .dat .str, .dat (.int .i64)]
noncomputable def g22_R : List RK := [.dat (.int .i64), .dat (.int .i64)]
noncomputable def g22_f (n : Nat) (d : DenA g22_A) : Option (DenR g22_R) := g22 n d.1 d.2.1 d.2.2.1 d.2.2.2.1
noncomputable def g22_S (n : Nat) : Spec := mkSpec g22_A g22_R (g22_f n)
noncomputable def g22_K0 : Sk := (.fin none (some g22_m2e) none [] .leaf)
noncomputable def g22_K1 : Sk := (.nd (.fin none none (some g22_m1e) [] .leaf) (.fin none none (some g22_m1e) [] .leaf))
noncomputable def g22_K2 : Sk := (.fin (some g22_m2e) none none [] (.nd (.fin none none (some g22_m1e) [] .leaf) (.fin none none (some g22_m1e) [] .leaf)))
theorem g22_top (n : Nat) (s : FState) (cx : Cx β) : FX (g22_G n) n (nav g22_B [1, 1]) g22_K1 s cx = g22_2F n s cx := by kernel_rfl
theorem g22_mid (n : Nat) (cx : Cx β) (v1 v2 : ByteArray) (v3 : Int) (p4 : (Bool × (Int × (Int × (Nat × (Nat × (Int × Int))))))) (p8 p9 : Int) : FX (g22_G n) n (nav g22_B [1, 1]) g22_K2 (FState.set (g22_m2 v1 v2 v3 p4 p8 p9) 10 .dead) cx = g22_2 n (fun p8 p9 => cx.ret (g22_m1 p8 p9)) v1 v2 v3 p4 p8 p9 :=
  Eq.trans (b := FX (g22_G n) n (nav g22_B [1, 1]) g22_K1 (g22_m2 v1 v2 v3 p4 p8 p9) cx) (by kernel_rfl) ((g22_top n _ _).trans (g22_2_fx n cx v1 v2 v3 p4 p8 p9))
theorem g22_fit (n : Nat) : Fit Tryd.prog 22 (g22_S n) :=
  fit_of_wrap (Γ := Γ0) (l := g22_C n) (n := n) (sk0 := g22_K0) (sk1 := g22_K2) (ts := [(8, some 3), (9, some 3)]) (fn := Tryd.f22) (c := g22_B) (c0 := nav g22_B [0]) (c1 := nav g22_B [1, 1]) (tm := 10) (g := 52) (k := 2) (by kernel_rfl) (by kernel_rfl) (by kernel_rfl) (by unfold Callable; kernel_rfl) tab_ok ⟨g50_fit n, g53_fit n, trivial⟩ follows_mixed (by unfold Callable; kernel_rfl) g52_idle (by kernel_rfl) (by kernel_rfl) (by kernel_rfl) (Nat.le_of_ble_eq_true (by kernel_rfl)) (Nat.le_of_ble_eq_true (by kernel_rfl)) (by kernel_rfl) (by kernel_rfl)
    (fun d => Eq.trans (b := g22_1F n (g22_m0 d.1 d.2.1 d.2.2.1 d.2.2.2.1) ⟨fun s => FX (g22_G n) n (nav g22_B [1, 1]) g22_K2 (FState.set s 10 .dead) (finCx (g22_G n) g22_R [(8, some 3), (9, some 3)]), fun _ => none, fun _ _ => none⟩) (by kernel_rfl) ((g22_1_fx n _ d.1 d.2.1 d.2.2.1 d.2.2.2.1).trans (Eq.trans (b := g22_1 n (fun v1 v2 v3 p4 p8 p9 => g22_2 n (fun p8 p9 => (finCx (g22_G n) g22_R [(8, some 3), (9, some 3)]).ret (g22_m1 p8 p9)) v1 v2 v3 p4 p8 p9) d.1 d.2.1 d.2.2.1 d.2.2.2.1) (congrArg (fun k_ => g22_1 n k_ d.1 d.2.1 d.2.2.1 d.2.2.2.1) (funext fun v1 => (funext fun v2 => (funext fun v3 => (funext fun p4 => (funext fun p8 => (funext fun p9 => g22_mid n (finCx (g22_G n) g22_R [(8, some 3), (9, some 3)]) v1 v2 v3 p4 p8 p9))))))) (by kernel_rfl))))
noncomputable def g7_m0 (v0 : (Bool × (Int × (Int × (Nat × (Nat × (Int × Int))))))) (v1 v2 : ByteArray) (v3 : Int) : FState := ⟨tlist [(0, .dat (.pair .bool (.pair (.int .i64) (.pair (.int .i64) (.pair (.flt .f64) (.pair (.flt .f64) (.pair (.int .i64) (.int .i64))))))) v0), (1, .dat .str v1), (2, .dat .str v2), (3, .dat (.int .i64) v3)], olist []⟩
noncomputable def g7_m1 (v8 : Bool) : FState := ⟨tlist [(8, .dat .bool v8)], olist []⟩
noncomputable def g7_m1e : List NE := [.keep 8]
noncomputable def g7_C (n : Nat) : List (Nat × Spec) := [(17, g17_S n), (21, g21_S n), (22, g22_S n), (23, g23_S n)]
noncomputable def g7_G (n : Nat) : Ctx := { Γ0 with calls := lkS (g7_C n) }
noncomputable def g7_B : Code := fb Tryd.f7
noncomputable def g7_1 (n : Nat) (kr : Bool → Option β) (v0 : (Bool × (Int × (Int × (Nat × (Nat × (Int × Int))))))) (v1 v2 : ByteArray) (v3 : Int) : Option β := bif (decide ((v1.size : Int) > (2147483647 : Int))) then (kr true) else (bif (decide ((v2.size : Int) > (2147483647 : Int))) then (kr true) else ((g17 n v0 v1 v2).bind fun r1 => bif (!r1.1) then (kr true) else ((g23 n v3 (v1.size : Int)).bind fun r2 => (g21 n v1 v2 r2.1).bind fun r3 => bif (!r3.1) then (kr true) else (bif (strEq v1 v2) then (kr true) else ((g22 n v0 v1 v2 v3).bind fun r4 => bif (r4.2.1 == (0 : Int)) then ((g23 n v3 (v1.size : Int)).bind fun r5 => kr (r4.1 == r5.1)) else (kr false))))))
noncomputable def g7_1F (n : Nat) (s : FState) (cx : Cx β) : Option β := FX (g7_G n) n (nav g7_B [0]) (.fin none none (some g7_m1e) [] .leaf) s { cx with nrm := fun s => FX (g7_G n) n (nav g7_B [1, 0, 0]) (.fin none none (some g7_m1e) [] .leaf) s { cx with nrm := fun s => FX (g7_G n) n (nav g7_B [1, 0, 1]) (.fin none none (some g7_m1e) [] .leaf) s { cx with nrm := fun s => FX (g7_G n) n (nav g7_B [1, 1, 0, 0]) (.fin none none (some g7_m1e) [] .leaf) s { cx with nrm := fun s => FX (g7_G n) n (nav g7_B [1, 1, 0, 1]) (.fin none none (some g7_m1e) [] .leaf) s { cx with nrm := fun s => FX (g7_G n) n (nav g7_B [1, 1, 1, 0]) (.fin none none (some g7_m1e) [] .leaf) s { cx with nrm := fun s => FX (g7_G n) n (nav g7_B [1, 1, 1, 1, 0]) (.fin none none (some g7_m1e) [] .leaf) s { cx with nrm := fun s => FX (g7_G n) n (nav g7_B [1, 1, 1, 1, 1]) (.fin none none (some g7_m1e) [] .leaf) s cx } } } } } } }
theorem g7_1_fx (n : Nat) (cx : Cx β) (v0 : (Bool × (Int × (Int × (Nat × (Nat × (Int × Int))))))) (v1 v2 : ByteArray) (v3 : Int) : g7_1F n (g7_m0 v0 v1 v2 v3) cx = g7_1 n (fun v8 => cx.ret (g7_m1 v8)) v0 v1 v2 v3 := by kernel_rfl
noncomputable def g7 (n : Nat) (v0 : (Bool × (Int × (Int × (Nat × (Nat × (Int × Int))))))) (v1 v2 : ByteArray) (v3 : Int) : Option (DenR [.dat .bool]) := g7_1 n (fun v8 => some (v8, ())) v0 v1 v2 v3
noncomputable def g7_A : List AK := [.dat (.pair .bool (.pair (.int .i64) (.pair (.int .i64) (.pair (.flt .f64) (.pair (.flt .f64) (.pair (.int .i64) (.int .i64))))))), .dat .str, .dat .str, .dat (.int .i64)]
noncomputable def g7_R : List RK := [.dat .bool]
noncomputable def g7_f (n : Nat) (d : DenA g7_A) : Option (DenR g7_R) := g7 n d.1 d.2.1 d.2.2.1 d.2.2.2.1
noncomputable def g7_S (n : Nat) : Spec := mkSpec g7_A g7_R (g7_f n)
noncomputable def g7_K : Sk := (.nd (.fin none none (some g7_m1e) [] .leaf) (.nd (.nd (.fin none none (some g7_m1e) [] .leaf) (.fin none none (some g7_m1e) [] .leaf)) (.nd (.nd (.fin none none (some g7_m1e) [] .leaf) (.fin none none (some g7_m1e) [] .leaf)) (.nd (.fin none none (some g7_m1e) [] .leaf) (.nd (.fin none none (some g7_m1e) [] .leaf) (.fin none none (some g7_m1e) [] .leaf))))))
theorem g7_top (n : Nat) (s : FState) (cx : Cx β) : FX (g7_G n) n g7_B g7_K s cx = g7_1F n s cx := by kernel_rfl
theorem g7_fit (n : Nat) : Fit Tryd.prog 7 (g7_S n) :=
  fit_of (Γ := Γ0) (l := g7_C n) (n := n) (sk := g7_K) (ts := [(8, none)]) (fn := Tryd.f7) (c := g7_B) (by kernel_rfl) (by kernel_rfl) (by unfold Callable; kernel_rfl) tab_ok ⟨g17_fit n, g21_fit n, g22_fit n, g23_fit n, trivial⟩ follows_mixed (by kernel_rfl) (by kernel_rfl) (Nat.le_of_ble_eq_true (by kernel_rfl)) (by kernel_rfl) (by kernel_rfl)
    (fun d => (g7_top n _ _).trans (Eq.trans (b := g7_1F n (g7_m0 d.1 d.2.1 d.2.2.1 d.2.2.2.1) (finCx (g7_G n) g7_R [(8, none)])) (by kernel_rfl) ((g7_1_fx n _ d.1 d.2.1 d.2.2.1 d.2.2.2.1).trans (by kernel_rfl))))
end Go.Proofs.YtmfgccjcnnlehaaDoorYF
