import Derived.Test.YticibdjilmclgaaDoorUFT
namespace Go.Proofs.YticibdjilmclgaaDoorUF
open Go Go.Proofs
set_option linter.unusedVariables false
set_option maxRecDepth 100000
noncomputable def g20_m0 (v0 : ByteArray) : FState := ⟨tlist [(0, .dat .str v0)], olist []⟩
noncomputable def g20_m1 (x2 : List Int) : FState := ⟨tlist [(2, .sl 2 none false)], olist [(2, .row (.int .i32) 21 true x2)]⟩
noncomputable def g20_m1e : List NE := [.row 2 (.int .i32) 21 true]
noncomputable def g20_C (n : Nat) : List (Nat × Spec) := []
noncomputable def g20_G (n : Nat) : Ctx := { Γ0 with calls := lkS (g20_C n) }
noncomputable def g20_B : Code := fb Tryd.f20
noncomputable def g20_1 {β : Type} (n : Nat) (kr : List Int → Option β) (v0 : ByteArray) : Option β := room46 v0 <| kr (runesOf v0)
noncomputable def g20_1F {β : Type} (n : Nat) (s : FState) (cx : Cx β) : Option β := FX (g20_G n) n (nav g20_B [0]) (.fin none none (some g20_m1e) [] .leaf) s { cx with nrm := fun s => FX (g20_G n) n (nav g20_B [1, 0]) (.fin none none (some g20_m1e) [] .leaf) s { cx with nrm := fun s => FX (g20_G n) n (nav g20_B [1, 1]) (.fin none none (some g20_m1e) [] .leaf) s cx } }
theorem g20_1_fx {β : Type} (n : Nat) (cx : Cx β) (v0 : ByteArray) : g20_1F n (g20_m0 v0) cx = g20_1 n (fun x2 => cx.ret (g20_m1 x2)) v0 := by kernel_rfl
noncomputable def g20 (n : Nat) (v0 : ByteArray) : Option (DenR [.rw (.int .i32) 21]) := g20_1 n (fun x2 => some (x2, ())) v0
noncomputable def g20_A : List AK := [.dat .str]
noncomputable def g20_R : List RK := [.rw (.int .i32) 21]
noncomputable def g20_f (n : Nat) (d : DenA g20_A) : Option (DenR g20_R) := g20 n d.1
noncomputable def g20_S (n : Nat) : Spec := mkSpec g20_A g20_R (g20_f n)
noncomputable def g20_K : Sk := (.nd (.fin none none (some g20_m1e) [] .leaf) (.nd (.fin none none (some g20_m1e) [] .leaf) (.fin none none (some g20_m1e) [] .leaf)))
theorem g20_top {β : Type} (n : Nat) (s : FState) (cx : Cx β) : FX (g20_G n) n g20_B g20_K s cx = g20_1F n s cx := by kernel_rfl
theorem g20_fit (n : Nat) : Fit Tryd.prog 20 (g20_S n) :=
  fit_of (Γ := Γ0) (l := g20_C n) (n := n) (sk := g20_K) (ts := [(2, none)]) (fn := Tryd.f20) (c := g20_B) (by kernel_rfl) (by kernel_rfl) (by unfold Callable; kernel_rfl) tab_ok trivial follows_mixed (by kernel_rfl) (by kernel_rfl) (Nat.le_of_ble_eq_true (by kernel_rfl)) (by kernel_rfl) (by kernel_rfl)
    (fun d => (g20_top n _ _).trans (Eq.trans (b := g20_1F n (g20_m0 d.1) (finCx (g20_G n) g20_R [(2, none)])) (by kernel_rfl) ((g20_1_fx n _ d.1).trans (by kernel_rfl))))
noncomputable def g13_m0 (v0 : ByteArray) (v1 : Int) : FState := ⟨tlist [(0, .dat .str v0), (1, .dat (.int .i64) v1)], olist []⟩
noncomputable def g13_m1 (v4 : ByteArray) : FState := ⟨tlist [(4, .dat .str v4)], olist []⟩
noncomputable def g13_m1e : List NE := [.keep 4]
noncomputable def g13_C (n : Nat) : List (Nat × Spec) := [(20, g20_S n)]
noncomputable def g13_G (n : Nat) : Ctx := { Γ0 with calls := lkS (g13_C n) }
noncomputable def g13_B : Code := fb Tryd.f13
noncomputable def g13_1 {β : Type} (n : Nat) (kr : ByteArray → Option β) (v0 : ByteArray) (v1 : Int) : Option β := (g20 n v0).bind fun r1 => bnd (0 : Int) (minI (r1.1.length : Int) v1) (r1.1.length : Int) <| kr (runesBytes (cut r1.1 (0 : Int) ((0 : Int) + ((minI (r1.1.length : Int) v1) - (0 : Int)))))
noncomputable def g13_1F {β : Type} (n : Nat) (s : FState) (cx : Cx β) : Option β := FX (g13_G n) n (nav g13_B [0]) (.fin none none (some g13_m1e) [] .leaf) s { cx with nrm := fun s => FX (g13_G n) n (nav g13_B [1, 0]) (.fin none none (some g13_m1e) [] .leaf) s { cx with nrm := fun s => FX (g13_G n) n (nav g13_B [1, 1, 0]) (.fin none none (some g13_m1e) [] .leaf) s { cx with nrm := fun s => FX (g13_G n) n (nav g13_B [1, 1, 1]) (.fin none none (some g13_m1e) [] .leaf) s cx } } }
theorem g13_1_fx {β : Type} (n : Nat) (cx : Cx β) (v0 : ByteArray) (v1 : Int) : g13_1F n (g13_m0 v0 v1) cx = g13_1 n (fun v4 => cx.ret (g13_m1 v4)) v0 v1 := by kernel_rfl
noncomputable def g13 (n : Nat) (v0 : ByteArray) (v1 : Int) : Option (DenR [.dat .str]) := g13_1 n (fun v4 => some (v4, ())) v0 v1
noncomputable def g13_A : List AK := [.dat .str, .dat (.int .i64)]
noncomputable def g13_R : List RK := [.dat .str]
noncomputable def g13_f (n : Nat) (d : DenA g13_A) : Option (DenR g13_R) := g13 n d.1 d.2.1
noncomputable def g13_S (n : Nat) : Spec := mkSpec g13_A g13_R (g13_f n)
noncomputable def g13_K : Sk := (.nd (.fin none none (some g13_m1e) [] .leaf) (.nd (.fin none none (some g13_m1e) [] .leaf) (.nd (.fin none none (some g13_m1e) [] .leaf) (.fin none none (some g13_m1e) [] .leaf))))
theorem g13_top {β : Type} (n : Nat) (s : FState) (cx : Cx β) : FX (g13_G n) n g13_B g13_K s cx = g13_1F n s cx := by kernel_rfl
theorem g13_fit (n : Nat) : Fit Tryd.prog 13 (g13_S n) :=
  fit_of (Γ := Γ0) (l := g13_C n) (n := n) (sk := g13_K) (ts := [(4, none)]) (fn := Tryd.f13) (c := g13_B) (by kernel_rfl) (by kernel_rfl) (by unfold Callable; kernel_rfl) tab_ok ⟨g20_fit n, trivial⟩ follows_mixed (by kernel_rfl) (by kernel_rfl) (Nat.le_of_ble_eq_true (by kernel_rfl)) (by kernel_rfl) (by kernel_rfl)
    (fun d => (g13_top n _ _).trans (Eq.trans (b := g13_1F n (g13_m0 d.1 d.2.1) (finCx (g13_G n) g13_R [(4, none)])) (by kernel_rfl) ((g13_1_fx n _ d.1 d.2.1).trans (by kernel_rfl))))
noncomputable def g65_m0 (v0 : Int) (v1 : Int) (v2 : Int) (v3 : Int) : FState := ⟨tlist [(0, .dat (.int .i64) v0), (1, .dat (.int .i64) v1), (2, .dat (.int .i64) v2), (3, .dat (.int .i64) v3)], olist []⟩
noncomputable def g65_m1 (v8 : Int) : FState := ⟨tlist [(8, .dat (.int .i64) v8)], olist []⟩
noncomputable def g65_m1e : List NE := [.keep 8]
noncomputable def g65_C (n : Nat) : List (Nat × Spec) := []
noncomputable def g65_G (n : Nat) : Ctx := { Γ0 with calls := lkS (g65_C n) }
noncomputable def g65_B : Code := fb Tryd.f65
noncomputable def g65_1 {β : Type} (n : Nat) (kr : Int → Option β) (v0 : Int) (v1 : Int) (v2 : Int) (v3 : Int) : Option β := bif (decide (v0 < v1)) then (kr v3) else (bif (decide (v0 > v2)) then (kr v3) else (kr v0))
noncomputable def g65_1F {β : Type} (n : Nat) (s : FState) (cx : Cx β) : Option β := FX (g65_G n) n (nav g65_B [0]) (.fin none none (some g65_m1e) [] .leaf) s { cx with nrm := fun s => FX (g65_G n) n (nav g65_B [1, 0, 0]) (.fin none none (some g65_m1e) [] .leaf) s { cx with nrm := fun s => FX (g65_G n) n (nav g65_B [1, 0, 1]) (.fin none none (some g65_m1e) [] .leaf) s { cx with nrm := fun s => FX (g65_G n) n (nav g65_B [1, 1, 0]) (.fin none none (some g65_m1e) [] .leaf) s { cx with nrm := fun s => FX (g65_G n) n (nav g65_B [1, 1, 1]) (.fin none none (some g65_m1e) [] .leaf) s cx } } } }
theorem g65_1_fx {β : Type} (n : Nat) (cx : Cx β) (v0 : Int) (v1 : Int) (v2 : Int) (v3 : Int) : g65_1F n (g65_m0 v0 v1 v2 v3) cx = g65_1 n (fun v8 => cx.ret (g65_m1 v8)) v0 v1 v2 v3 := by kernel_rfl
noncomputable def g65 (n : Nat) (v0 : Int) (v1 : Int) (v2 : Int) (v3 : Int) : Option (DenR [.dat (.int .i64)]) := g65_1 n (fun v8 => some (v8, ())) v0 v1 v2 v3
noncomputable def g65_A : List AK := [.dat (.int .i64), .dat (.int .i64), .dat (.int .i64), .dat (.int .i64)]
noncomputable def g65_R : List RK := [.dat (.int .i64)]
noncomputable def g65_f (n : Nat) (d : DenA g65_A) : Option (DenR g65_R) := g65 n d.1 d.2.1 d.2.2.1 d.2.2.2.1
noncomputable def g65_S (n : Nat) : Spec := mkSpec g65_A g65_R (g65_f n)
noncomputable def g65_K : Sk := (.nd (.fin none none (some g65_m1e) [] .leaf) (.nd (.nd (.fin none none (some g65_m1e) [] .leaf) (.fin none none (some g65_m1e) [] .leaf)) (.nd (.fin none none (some g65_m1e) [] .leaf) (.fin none none (some g65_m1e) [] .leaf))))
theorem g65_top {β : Type} (n : Nat) (s : FState) (cx : Cx β) : FX (g65_G n) n g65_B g65_K s cx = g65_1F n s cx := by kernel_rfl
theorem g65_fit (n : Nat) : Fit Tryd.prog 65 (g65_S n) :=
  fit_of (Γ := Γ0) (l := g65_C n) (n := n) (sk := g65_K) (ts := [(8, none)]) (fn := Tryd.f65) (c := g65_B) (by kernel_rfl) (by kernel_rfl) (by unfold Callable; kernel_rfl) tab_ok trivial follows_mixed (by kernel_rfl) (by kernel_rfl) (Nat.le_of_ble_eq_true (by kernel_rfl)) (by kernel_rfl) (by kernel_rfl)
    (fun d => (g65_top n _ _).trans (Eq.trans (b := g65_1F n (g65_m0 d.1 d.2.1 d.2.2.1 d.2.2.2.1) (finCx (g65_G n) g65_R [(8, none)])) (by kernel_rfl) ((g65_1_fx n _ d.1 d.2.1 d.2.2.1 d.2.2.2.1).trans (by kernel_rfl))))
noncomputable def g66_m0 (v0 : Nat) : FState := ⟨tlist [(0, .dat (.flt .f64) v0)], olist []⟩
noncomputable def g66_m1 (v2 : Nat) : FState := ⟨tlist [(2, .dat (.flt .f64) v2)], olist []⟩
noncomputable def g66_m1e : List NE := [.keep 2]
noncomputable def g66_C (n : Nat) : List (Nat × Spec) := []
noncomputable def g66_G (n : Nat) : Ctx := { Γ0 with calls := lkS (g66_C n) }
noncomputable def g66_B : Code := fb Tryd.f66
noncomputable def g66_1 {β : Type} (n : Nat) (kr : Nat → Option β) (v0 : Nat) : Option β := bif ((fGt .f64 v0 (0 : Nat)) || (fEq .f64 v0 (0 : Nat))) then (bif ((fLt .f64 v0 (4607182418800017408 : Nat)) || (fEq .f64 v0 (4607182418800017408 : Nat))) then (kr v0) else (kr (4602678819172646912 : Nat))) else (kr (4602678819172646912 : Nat))
noncomputable def g66_1F {β : Type} (n : Nat) (s : FState) (cx : Cx β) : Option β := FX (g66_G n) n (nav g66_B [0]) (.fin none none (some g66_m1e) [] .leaf) s { cx with nrm := fun s => FX (g66_G n) n (nav g66_B [1, 0, 0]) (.fin none none (some g66_m1e) [] .leaf) s { cx with nrm := fun s => FX (g66_G n) n (nav g66_B [1, 0, 1]) (.fin none none (some g66_m1e) [] .leaf) s { cx with nrm := fun s => FX (g66_G n) n (nav g66_B [1, 1, 0]) (.fin none none (some g66_m1e) [] .leaf) s { cx with nrm := fun s => FX (g66_G n) n (nav g66_B [1, 1, 1]) (.fin none none (some g66_m1e) [] .leaf) s cx } } } }
theorem g66_1_fx {β : Type} (n : Nat) (cx : Cx β) (v0 : Nat) : g66_1F n (g66_m0 v0) cx = g66_1 n (fun v2 => cx.ret (g66_m1 v2)) v0 := by kernel_rfl
noncomputable def g66 (n : Nat) (v0 : Nat) : Option (DenR [.dat (.flt .f64)]) := g66_1 n (fun v2 => some (v2, ())) v0
noncomputable def g66_A : List AK := [.dat (.flt .f64)]
noncomputable def g66_R : List RK := [.dat (.flt .f64)]
noncomputable def g66_f (n : Nat) (d : DenA g66_A) : Option (DenR g66_R) := g66 n d.1
noncomputable def g66_S (n : Nat) : Spec := mkSpec g66_A g66_R (g66_f n)
noncomputable def g66_K : Sk := (.nd (.fin none none (some g66_m1e) [] .leaf) (.nd (.nd (.fin none none (some g66_m1e) [] .leaf) (.fin none none (some g66_m1e) [] .leaf)) (.nd (.fin none none (some g66_m1e) [] .leaf) (.fin none none (some g66_m1e) [] .leaf))))
theorem g66_top {β : Type} (n : Nat) (s : FState) (cx : Cx β) : FX (g66_G n) n g66_B g66_K s cx = g66_1F n s cx := by kernel_rfl
theorem g66_fit (n : Nat) : Fit Tryd.prog 66 (g66_S n) :=
  fit_of (Γ := Γ0) (l := g66_C n) (n := n) (sk := g66_K) (ts := [(2, none)]) (fn := Tryd.f66) (c := g66_B) (by kernel_rfl) (by kernel_rfl) (by unfold Callable; kernel_rfl) tab_ok trivial follows_mixed (by kernel_rfl) (by kernel_rfl) (Nat.le_of_ble_eq_true (by kernel_rfl)) (by kernel_rfl) (by kernel_rfl)
    (fun d => (g66_top n _ _).trans (Eq.trans (b := g66_1F n (g66_m0 d.1) (finCx (g66_G n) g66_R [(2, none)])) (by kernel_rfl) ((g66_1_fx n _ d.1).trans (by kernel_rfl))))
noncomputable def g50_m0 (v0 : (Bool × (Int × (Int × (Nat × (Nat × (Int × Int))))))) : FState := ⟨tlist [(0, .dat (.pair .bool (.pair (.int .i64) (.pair (.int .i64) (.pair (.flt .f64) (.pair (.flt .f64) (.pair (.int .i64) (.int .i64))))))) v0)], olist []⟩
noncomputable def g50_m1 (p2 : (Int × (Int × (Int × (Nat × (Int × (Int × Nat))))))) : FState := ⟨tlist [(2, .ptr 2 0 0)], olist [(2, .row (.pair (.int .i64) (.pair (.int .i64) (.pair (.int .i64) (.pair (.flt .f64) (.pair (.int .i64) (.pair (.int .i64) (.flt .f64))))))) 74 true [p2])]⟩
noncomputable def g50_m1e : List NE := [.ptr 2 (.pair (.int .i64) (.pair (.int .i64) (.pair (.int .i64) (.pair (.flt .f64) (.pair (.int .i64) (.pair (.int .i64) (.flt .f64))))))) 74 true]
noncomputable def g50_C (n : Nat) : List (Nat × Spec) := [(65, g65_S n), (66, g66_S n)]
noncomputable def g50_G (n : Nat) : Ctx := { Γ0 with calls := lkS (g50_C n) }
noncomputable def g50_B : Code := fb Tryd.f50
noncomputable def g50_1 {β : Type} (n : Nat) (kr : (Int × (Int × (Int × (Nat × (Int × (Int × Nat)))))) → Option β) (v0 : (Bool × (Int × (Int × (Nat × (Nat × (Int × Int))))))) : Option β := (g65 n v0.2.1 (0 : Int) (1000 : Int) (4 : Int)).bind fun r1 => (g65 n v0.2.2.1 (0 : Int) (1048576 : Int) (1000 : Int)).bind fun r2 => (g66 n v0.2.2.2.1).bind fun r3 => (g66 n v0.2.2.2.2.1).bind fun r4 => (g65 n v0.2.2.2.2.2.1 (1 : Int) (8 : Int) (4 : Int)).bind fun r5 => (g65 n v0.2.2.2.2.2.2 (32 : Int) (62 : Int) (32 : Int)).bind fun r6 => bif v0.1 then (kr ((1 : Int), (r1.1, (r2.1, (r4.1, (r5.1, (r6.1, r3.1))))))) else (kr ((0 : Int), (r1.1, (r2.1, (r4.1, (r5.1, (r6.1, r3.1)))))))
noncomputable def g50_1F {β : Type} (n : Nat) (s : FState) (cx : Cx β) : Option β := FX (g50_G n) n (nav g50_B [0]) (.fin none none (some g50_m1e) [] .leaf) s { cx with nrm := fun s => FX (g50_G n) n (nav g50_B [1, 0]) (.fin none none (some g50_m1e) [] .leaf) s { cx with nrm := fun s => FX (g50_G n) n (nav g50_B [1, 1, 0, 0]) (.fin none none (some g50_m1e) [] .leaf) s { cx with nrm := fun s => FX (g50_G n) n (nav g50_B [1, 1, 0, 1]) (.fin none none (some g50_m1e) [] .leaf) s { cx with nrm := fun s => FX (g50_G n) n (nav g50_B [1, 1, 1, 0]) (.fin none none (some g50_m1e) [] .leaf) s { cx with nrm := fun s => FX (g50_G n) n (nav g50_B [1, 1, 1, 1]) (.fin none none (some g50_m1e) [] .leaf) s cx } } } } }
theorem g50_1_fx {β : Type} (n : Nat) (cx : Cx β) (v0 : (Bool × (Int × (Int × (Nat × (Nat × (Int × Int))))))) : g50_1F n (g50_m0 v0) cx = g50_1 n (fun p2 => cx.ret (g50_m1 p2)) v0 := by kernel_rfl
noncomputable def g50 (n : Nat) (v0 : (Bool × (Int × (Int × (Nat × (Nat × (Int × Int))))))) : Option (DenR [.ptr (.pair (.int .i64) (.pair (.int .i64) (.pair (.int .i64) (.pair (.flt .f64) (.pair (.int .i64) (.pair (.int .i64) (.flt .f64))))))) 74]) := g50_1 n (fun p2 => some (p2, ())) v0
noncomputable def g50_A : List AK := [.dat (.pair .bool (.pair (.int .i64) (.pair (.int .i64) (.pair (.flt .f64) (.pair (.flt .f64) (.pair (.int .i64) (.int .i64)))))))]
noncomputable def g50_R : List RK := [.ptr (.pair (.int .i64) (.pair (.int .i64) (.pair (.int .i64) (.pair (.flt .f64) (.pair (.int .i64) (.pair (.int .i64) (.flt .f64))))))) 74]
noncomputable def g50_f (n : Nat) (d : DenA g50_A) : Option (DenR g50_R) := g50 n d.1
noncomputable def g50_S (n : Nat) : Spec := mkSpec g50_A g50_R (g50_f n)
noncomputable def g50_K : Sk := (.nd (.fin none none (some g50_m1e) [] .leaf) (.nd (.fin none none (some g50_m1e) [] .leaf) (.nd (.nd (.fin none none (some g50_m1e) [] .leaf) (.fin none none (some g50_m1e) [] .leaf)) (.nd (.fin none none (some g50_m1e) [] .leaf) (.fin none none (some g50_m1e) [] .leaf)))))
theorem g50_top {β : Type} (n : Nat) (s : FState) (cx : Cx β) : FX (g50_G n) n g50_B g50_K s cx = g50_1F n s cx := by kernel_rfl
theorem g50_fit (n : Nat) : Fit Tryd.prog 50 (g50_S n) :=
  fit_of (Γ := Γ0) (l := g50_C n) (n := n) (sk := g50_K) (ts := [(2, none)]) (fn := Tryd.f50) (c := g50_B) (by kernel_rfl) (by kernel_rfl) (by unfold Callable; kernel_rfl) tab_ok ⟨g65_fit n, g66_fit n, trivial⟩ follows_mixed (by kernel_rfl) (by kernel_rfl) (Nat.le_of_ble_eq_true (by kernel_rfl)) (by kernel_rfl) (by kernel_rfl)
    (fun d => (g50_top n _ _).trans (Eq.trans (b := g50_1F n (g50_m0 d.1) (finCx (g50_G n) g50_R [(2, none)])) (by kernel_rfl) ((g50_1_fx n _ d.1).trans (by kernel_rfl))))
noncomputable def g79_m0 (x0 : List Int) (x1 : List Int) : FState := ⟨tlist [(0, .sl 0 none false), (1, .sl 1 none false)], olist [(0, .row (.int .i32) 21 false x0), (1, .row (.int .i32) 21 false x1)]⟩
noncomputable def g79_m1 (v4 : Bool) : FState := ⟨tlist [(4, .dat .bool v4)], olist []⟩
noncomputable def g79_m1e : List NE := [.keep 4]
noncomputable def g79_m2 (x1 : List Int) (x12 : List Int) (v13 : Int) (v14 : Int) : FState := ⟨tlist [(1, .sl 1 none false), (12, .sl 12 none false), (13, .dat (.int .i64) v13), (14, .dat (.int .i64) v14)], olist [(1, .row (.int .i32) 21 false x1), (12, .row (.int .i32) 21 false x12)]⟩
noncomputable def g79_m2e : List NE := [.row 1 (.int .i32) 21 false, .row 12 (.int .i32) 21 false, .keep 13, .keep 14]
noncomputable def g79_m3 : FState := ⟨tlist [], olist []⟩
noncomputable def g79_m3e : List NE := []
noncomputable def g79_C (n : Nat) : List (Nat × Spec) := []
noncomputable def g79_G (n : Nat) : Ctx := { Γ0 with calls := lkS (g79_C n) }
noncomputable def g79_B : Code := fb Tryd.f79
noncomputable def g79_1 {β : Type} (n : Nat) (kn : List Int → List Int → Int → Int → Option β) (kr : Bool → Option β) (x0 : List Int) (x1 : List Int) : Option β := bif ((x0.length : Int) != (x1.length : Int)) then (kr false) else (kn x1 x0 (x0.length : Int) (0 : Int))
noncomputable def g79_1F {β : Type} (n : Nat) (s : FState) (cx : Cx β) : Option β := FX (g79_G n) n (nav g79_B [0]) (.fin none none (some g79_m1e) [] .leaf) s { cx with nrm := fun s => FX (g79_G n) n (nav g79_B [1, 0, 0]) (.fin none none (some g79_m1e) [] .leaf) s { cx with nrm := fun s => FX (g79_G n) n (nav g79_B [1, 0, 1]) (.fin none none (some g79_m1e) [] .leaf) s { cx with nrm := fun s => FX (g79_G n) n (nav g79_B [1, 1, 0, 0]) (.fin none (some g79_m2e) (some g79_m1e) [] .leaf) s cx } } }
theorem g79_1_fx {β : Type} (n : Nat) (cx : Cx β) (x0 : List Int) (x1 : List Int) : g79_1F n (g79_m0 x0 x1) cx = g79_1 n (fun x1 x12 v13 v14 => cx.nrm (g79_m2 x1 x12 v13 v14)) (fun v4 => cx.ret (g79_m1 v4)) x0 x1 := by kernel_rfl
noncomputable def g79_2 {β : Type} (n : Nat) (kn : List Int → List Int → Int → Int → Option β) (kr : Bool → Option β) (kx0 : Option β) (x1 : List Int) (x12 : List Int) (v13 : Int) (v14 : Int) : Option β := bif (decide (v14 < v13)) then (idx v14 (x12.length : Int) <| idx v14 (x1.length : Int) <| bif ((rd x12 v14 (0 : Int)) != (rd x1 v14 (0 : Int))) then (kr false) else (kn x1 x12 v13 (w64 (v14 + (1 : Int))))) else kx0
noncomputable def g79_2F {β : Type} (n : Nat) (s : FState) (cx : Cx β) : Option β := FX (g79_G n) n (nav g79_B [1, 1, 0, 1, 0, 0, 0]) (.fin none none (some g79_m1e) [(0, g79_m3e)] .leaf) s { cx with nrm := fun s => FX (g79_G n) n (nav g79_B [1, 1, 0, 1, 0, 0, 1, 0]) (.fin none none (some g79_m1e) [(0, g79_m3e)] .leaf) s { cx with nrm := fun s => FX (g79_G n) n (nav g79_B [1, 1, 0, 1, 0, 0, 1, 1, 0]) (.fin none none (some g79_m1e) [(0, g79_m3e)] .leaf) s { cx with nrm := fun s => FX (g79_G n) n (nav g79_B [1, 1, 0, 1, 0, 0, 1, 1, 1]) (.fin none (some g79_m2e) (some g79_m1e) [(0, g79_m3e)] .leaf) s cx } } }
theorem g79_2_fx {β : Type} (n : Nat) (cx : Cx β) (x1 : List Int) (x12 : List Int) (v13 : Int) (v14 : Int) : g79_2F n (g79_m2 x1 x12 v13 v14) cx = g79_2 n (fun x1 x12 v13 v14 => cx.nrm (g79_m2 x1 x12 v13 v14)) (fun v4 => cx.ret (g79_m1 v4)) (cx.ex 0 g79_m3) x1 x12 v13 v14 := by kernel_rfl
noncomputable def g79_3L {β : Type} (n : Nat) (kr : Bool → Option β) (kx0 : Option β) : Nat → List Int → List Int → Int → Int → Option β
  | 0, _, _, _, _ => none
  | m + 1, x1, x12, v13, v14 => g79_2 n (g79_3L n kr kx0 m) kr kx0 x1 x12 v13 v14
noncomputable def g79_3 {β : Type} (n : Nat) (kr : Bool → Option β) (kx0 : Option β) (x1 : List Int) (x12 : List Int) (v13 : Int) (v14 : Int) : Option β := g79_3L n kr kx0 n x1 x12 v13 v14
noncomputable def g79_3F {β : Type} (n : Nat) (s : FState) (cx : Cx β) : Option β := loopN (fun again s => g79_2F n s { cx with nrm := again }) n s
theorem g79_3L_fx {β : Type} (n : Nat) (cx : Cx β) : ∀ (m : Nat) (x1 : List Int) (x12 : List Int) (v13 : Int) (v14 : Int), loopN (fun again s => g79_2F n s { cx with nrm := again }) m (g79_m2 x1 x12 v13 v14) = g79_3L n (fun v4 => cx.ret (g79_m1 v4)) (cx.ex 0 g79_m3) m x1 x12 v13 v14 := by
  intro m
  induction m with
  | zero => intros; rfl
  | succ m ih => intros; simp only [loopN, g79_3L, g79_2_fx, ih]
theorem g79_3_fx {β : Type} (n : Nat) (cx : Cx β) (x1 : List Int) (x12 : List Int) (v13 : Int) (v14 : Int) : g79_3F n (g79_m2 x1 x12 v13 v14) cx = g79_3 n (fun v4 => cx.ret (g79_m1 v4)) (cx.ex 0 g79_m3) x1 x12 v13 v14 := g79_3L_fx n cx n x1 x12 v13 v14
noncomputable def g79_4 {β : Type} (n : Nat) (kn : Option β) (kr : Bool → Option β) (x1 : List Int) (x12 : List Int) (v13 : Int) (v14 : Int) : Option β := g79_3 n kr kn x1 x12 v13 v14
noncomputable def g79_4F {β : Type} (n : Nat) (s : FState) (cx : Cx β) : Option β := g79_3F n s { cx with ex := fun j s => bif Nat.beq j 0 then cx.nrm s else cx.ex j s }
theorem g79_4_fx {β : Type} (n : Nat) (cx : Cx β) (x1 : List Int) (x12 : List Int) (v13 : Int) (v14 : Int) : g79_4F n (g79_m2 x1 x12 v13 v14) cx = g79_4 n (cx.nrm g79_m3) (fun v4 => cx.ret (g79_m1 v4)) x1 x12 v13 v14 := g79_3_fx n _ x1 x12 v13 v14
noncomputable def g79_5 {β : Type} (n : Nat) (kr : Bool → Option β) : Option β := kr true
noncomputable def g79_5F {β : Type} (n : Nat) (s : FState) (cx : Cx β) : Option β := FX (g79_G n) n (nav g79_B [1, 1, 1, 0]) (.fin none none (some g79_m1e) [] .leaf) s { cx with nrm := fun s => FX (g79_G n) n (nav g79_B [1, 1, 1, 1]) (.fin none none (some g79_m1e) [] .leaf) s cx }
theorem g79_5_fx {β : Type} (n : Nat) (cx : Cx β) : g79_5F n g79_m3 cx = g79_5 n (fun v4 => cx.ret (g79_m1 v4)) := by kernel_rfl
noncomputable def g79_6 {β : Type} (n : Nat) (kr : Bool → Option β) (x0 : List Int) (x1 : List Int) : Option β := g79_1 n (fun x1 x12 v13 v14 => g79_4 n (g79_5 n kr) kr x1 x12 v13 v14) kr x0 x1
noncomputable def g79_6F {β : Type} (n : Nat) (s : FState) (cx : Cx β) : Option β := g79_1F n s { cx with nrm := fun s => g79_4F n s { cx with nrm := fun s => g79_5F n s cx } }
theorem g79_6_fx {β : Type} (n : Nat) (cx : Cx β) (x0 : List Int) (x1 : List Int) : g79_6F n (g79_m0 x0 x1) cx = g79_6 n (fun v4 => cx.ret (g79_m1 v4)) x0 x1 := by simp only [g79_6F, g79_6, g79_1_fx, g79_4_fx, g79_5_fx]
noncomputable def g79 (n : Nat) (x0 : List Int) (x1 : List Int) : Option (DenR [.dat .bool]) := g79_6 n (fun v4 => some (v4, ())) x0 x1
noncomputable def g79_A : List AK := [.ro (.int .i32) 21, .ro (.int .i32) 21]
noncomputable def g79_R : List RK := [.dat .bool]
noncomputable def g79_f (n : Nat) (d : DenA g79_A) : Option (DenR g79_R) := g79 n d.1 d.2.1
noncomputable def g79_S (n : Nat) : Spec := mkSpec g79_A g79_R (g79_f n)
noncomputable def g79_K : Sk := (.nd (.fin none none (some g79_m1e) [] .leaf) (.nd (.nd (.fin none none (some g79_m1e) [] .leaf) (.fin none none (some g79_m1e) [] .leaf)) (.nd (.nd (.fin none (some g79_m2e) (some g79_m1e) [] .leaf) (.nd (.nd (.nd (.fin none none (some g79_m1e) [(0, g79_m3e)] .leaf) (.nd (.fin none none (some g79_m1e) [(0, g79_m3e)] .leaf) (.nd (.fin none none (some g79_m1e) [(0, g79_m3e)] .leaf) (.fin none (some g79_m2e) (some g79_m1e) [(0, g79_m3e)] .leaf)))) .leaf) .leaf)) (.nd (.fin none none (some g79_m1e) [] .leaf) (.fin none none (some g79_m1e) [] .leaf)))))
theorem g79_top {β : Type} (n : Nat) (s : FState) (cx : Cx β) : FX (g79_G n) n g79_B g79_K s cx = g79_6F n s cx := by kernel_rfl
theorem g79_fit (n : Nat) : Fit Tryd.prog 79 (g79_S n) :=
  fit_of (Γ := Γ0) (l := g79_C n) (n := n) (sk := g79_K) (ts := [(4, none)]) (fn := Tryd.f79) (c := g79_B) (by kernel_rfl) (by kernel_rfl) (by unfold Callable; kernel_rfl) tab_ok trivial follows_mixed (by kernel_rfl) (by kernel_rfl) (Nat.le_of_ble_eq_true (by kernel_rfl)) (by kernel_rfl) (by kernel_rfl)
    (fun d => (g79_top n _ _).trans (Eq.trans (b := g79_6F n (g79_m0 d.1 d.2.1) (finCx (g79_G n) g79_R [(4, none)])) (by kernel_rfl) ((g79_6_fx n _ d.1 d.2.1).trans (by kernel_rfl))))
noncomputable def g80_m0 (x0 : List Int) (x1 : List Int) : FState := ⟨tlist [(0, .sl 0 none false), (1, .sl 1 none false)], olist [(0, .row (.int .i32) 21 false x0), (1, .row (.int .i32) 21 false x1)]⟩
noncomputable def g80_m1 (v4 : Int) : FState := ⟨tlist [(4, .dat (.int .i64) v4)], olist []⟩
noncomputable def g80_m1e : List NE := [.keep 4]
noncomputable def g80_m2 (x0 : List Int) (x1 : List Int) (v5 : Int) : FState := ⟨tlist [(0, .sl 0 none false), (1, .sl 1 none false), (5, .dat (.int .i64) v5)], olist [(0, .row (.int .i32) 21 false x0), (1, .row (.int .i32) 21 false x1)]⟩
noncomputable def g80_m2e : List NE := [.row 0 (.int .i32) 21 false, .row 1 (.int .i32) 21 false, .keep 5]
noncomputable def g80_m3 (v5 : Int) : FState := ⟨tlist [(5, .dat (.int .i64) v5)], olist []⟩
noncomputable def g80_m3e : List NE := [.keep 5]
noncomputable def g80_C (n : Nat) : List (Nat × Spec) := []
noncomputable def g80_G (n : Nat) : Ctx := { Γ0 with calls := lkS (g80_C n) }
noncomputable def g80_B : Code := fb Tryd.f80
noncomputable def g80_1 {β : Type} (n : Nat) (kn : List Int → List Int → Int → Option β) (x0 : List Int) (x1 : List Int) : Option β := kn x0 x1 (0 : Int)
noncomputable def g80_1F {β : Type} (n : Nat) (s : FState) (cx : Cx β) : Option β := FX (g80_G n) n (nav g80_B [0]) (.fin none none none [] .leaf) s { cx with nrm := fun s => FX (g80_G n) n (nav g80_B [1, 0]) (.fin none (some g80_m2e) none [] .leaf) s cx }
theorem g80_1_fx {β : Type} (n : Nat) (cx : Cx β) (x0 : List Int) (x1 : List Int) : g80_1F n (g80_m0 x0 x1) cx = g80_1 n (fun x0 x1 v5 => cx.nrm (g80_m2 x0 x1 v5)) x0 x1 := by kernel_rfl
noncomputable def g80_2 {β : Type} (n : Nat) (kn : List Int → List Int → Int → Option β) (kr : Int → Option β) (kx0 : Int → Option β) (x0 : List Int) (x1 : List Int) (v5 : Int) : Option β := bif (decide (v5 < (x0.length : Int))) then (bif (decide (v5 < (x1.length : Int))) then (idx v5 (x0.length : Int) <| idx v5 (x1.length : Int) <| bif ((rd x0 v5 (0 : Int)) != (rd x1 v5 (0 : Int))) then (kr v5) else (kn x0 x1 (w64 (v5 + (1 : Int))))) else (kx0 v5)) else (kx0 v5)
noncomputable def g80_2F {β : Type} (n : Nat) (s : FState) (cx : Cx β) : Option β := FX (g80_G n) n (nav g80_B [1, 1, 0, 0, 0, 0, 0]) (.fin none none (some g80_m1e) [(0, g80_m3e)] .leaf) s { cx with nrm := fun s => FX (g80_G n) n (nav g80_B [1, 1, 0, 0, 0, 0, 1]) (.fin none none (some g80_m1e) [(0, g80_m3e)] .leaf) s { cx with nrm := fun s => FX (g80_G n) n (nav g80_B [1, 1, 0, 0, 0, 1, 0]) (.fin none none (some g80_m1e) [(0, g80_m3e)] .leaf) s { cx with nrm := fun s => FX (g80_G n) n (nav g80_B [1, 1, 0, 0, 0, 1, 1]) (.fin none (some g80_m2e) (some g80_m1e) [(0, g80_m3e)] .leaf) s cx } } }
theorem g80_2_fx {β : Type} (n : Nat) (cx : Cx β) (x0 : List Int) (x1 : List Int) (v5 : Int) : g80_2F n (g80_m2 x0 x1 v5) cx = g80_2 n (fun x0 x1 v5 => cx.nrm (g80_m2 x0 x1 v5)) (fun v4 => cx.ret (g80_m1 v4)) (fun v5 => cx.ex 0 (g80_m3 v5)) x0 x1 v5 := by kernel_rfl
noncomputable def g80_3L {β : Type} (n : Nat) (kr : Int → Option β) (kx0 : Int → Option β) : Nat → List Int → List Int → Int → Option β
  | 0, _, _, _ => none
  | m + 1, x0, x1, v5 => g80_2 n (g80_3L n kr kx0 m) kr kx0 x0 x1 v5
noncomputable def g80_3 {β : Type} (n : Nat) (kr : Int → Option β) (kx0 : Int → Option β) (x0 : List Int) (x1 : List Int) (v5 : Int) : Option β := g80_3L n kr kx0 n x0 x1 v5
noncomputable def g80_3F {β : Type} (n : Nat) (s : FState) (cx : Cx β) : Option β := loopN (fun again s => g80_2F n s { cx with nrm := again }) n s
theorem g80_3L_fx {β : Type} (n : Nat) (cx : Cx β) : ∀ (m : Nat) (x0 : List Int) (x1 : List Int) (v5 : Int), loopN (fun again s => g80_2F n s { cx with nrm := again }) m (g80_m2 x0 x1 v5) = g80_3L n (fun v4 => cx.ret (g80_m1 v4)) (fun v5 => cx.ex 0 (g80_m3 v5)) m x0 x1 v5 := by
  intro m
  induction m with
  | zero => intros; rfl
  | succ m ih => intros; simp only [loopN, g80_3L, g80_2_fx, ih]
theorem g80_3_fx {β : Type} (n : Nat) (cx : Cx β) (x0 : List Int) (x1 : List Int) (v5 : Int) : g80_3F n (g80_m2 x0 x1 v5) cx = g80_3 n (fun v4 => cx.ret (g80_m1 v4)) (fun v5 => cx.ex 0 (g80_m3 v5)) x0 x1 v5 := g80_3L_fx n cx n x0 x1 v5
noncomputable def g80_4 {β : Type} (n : Nat) (kn : Int → Option β) (kr : Int → Option β) (x0 : List Int) (x1 : List Int) (v5 : Int) : Option β := g80_3 n kr kn x0 x1 v5
noncomputable def g80_4F {β : Type} (n : Nat) (s : FState) (cx : Cx β) : Option β := g80_3F n s { cx with ex := fun j s => bif Nat.beq j 0 then cx.nrm s else cx.ex j s }
theorem g80_4_fx {β : Type} (n : Nat) (cx : Cx β) (x0 : List Int) (x1 : List Int) (v5 : Int) : g80_4F n (g80_m2 x0 x1 v5) cx = g80_4 n (fun v5 => cx.nrm (g80_m3 v5)) (fun v4 => cx.ret (g80_m1 v4)) x0 x1 v5 := g80_3_fx n _ x0 x1 v5
noncomputable def g80_5 {β : Type} (n : Nat) (kr : Int → Option β) (v5 : Int) : Option β := kr v5
noncomputable def g80_5F {β : Type} (n : Nat) (s : FState) (cx : Cx β) : Option β := FX (g80_G n) n (nav g80_B [1, 1, 1, 0]) (.fin none none (some g80_m1e) [] .leaf) s { cx with nrm := fun s => FX (g80_G n) n (nav g80_B [1, 1, 1, 1]) (.fin none none (some g80_m1e) [] .leaf) s cx }
theorem g80_5_fx {β : Type} (n : Nat) (cx : Cx β) (v5 : Int) : g80_5F n (g80_m3 v5) cx = g80_5 n (fun v4 => cx.ret (g80_m1 v4)) v5 := by kernel_rfl
noncomputable def g80_6 {β : Type} (n : Nat) (kr : Int → Option β) (x0 : List Int) (x1 : List Int) : Option β := g80_1 n (fun x0 x1 v5 => g80_4 n (fun v5 => g80_5 n kr v5) kr x0 x1 v5) x0 x1
noncomputable def g80_6F {β : Type} (n : Nat) (s : FState) (cx : Cx β) : Option β := g80_1F n s { cx with nrm := fun s => g80_4F n s { cx with nrm := fun s => g80_5F n s cx } }
theorem g80_6_fx {β : Type} (n : Nat) (cx : Cx β) (x0 : List Int) (x1 : List Int) : g80_6F n (g80_m0 x0 x1) cx = g80_6 n (fun v4 => cx.ret (g80_m1 v4)) x0 x1 := by simp only [g80_6F, g80_6, g80_1_fx, g80_4_fx, g80_5_fx]
noncomputable def g80 (n : Nat) (x0 : List Int) (x1 : List Int) : Option (DenR [.dat (.int .i64)]) := g80_6 n (fun v4 => some (v4, ())) x0 x1
noncomputable def g80_A : List AK := [.ro (.int .i32) 21, .ro (.int .i32) 21]
noncomputable def g80_R : List RK := [.dat (.int .i64)]
noncomputable def g80_f (n : Nat) (d : DenA g80_A) : Option (DenR g80_R) := g80 n d.1 d.2.1
noncomputable def g80_S (n : Nat) : Spec := mkSpec g80_A g80_R (g80_f n)
noncomputable def g80_K : Sk := (.nd (.fin none none none [] .leaf) (.nd (.fin none (some g80_m2e) none [] .leaf) (.nd (.nd (.nd (.nd (.nd (.fin none none (some g80_m1e) [(0, g80_m3e)] .leaf) (.fin none none (some g80_m1e) [(0, g80_m3e)] .leaf)) (.nd (.fin none none (some g80_m1e) [(0, g80_m3e)] .leaf) (.fin none (some g80_m2e) (some g80_m1e) [(0, g80_m3e)] .leaf))) .leaf) .leaf) (.nd (.fin none none (some g80_m1e) [] .leaf) (.fin none none (some g80_m1e) [] .leaf)))))
theorem g80_top {β : Type} (n : Nat) (s : FState) (cx : Cx β) : FX (g80_G n) n g80_B g80_K s cx = g80_6F n s cx := by kernel_rfl
theorem g80_fit (n : Nat) : Fit Tryd.prog 80 (g80_S n) :=
  fit_of (Γ := Γ0) (l := g80_C n) (n := n) (sk := g80_K) (ts := [(4, none)]) (fn := Tryd.f80) (c := g80_B) (by kernel_rfl) (by kernel_rfl) (by unfold Callable; kernel_rfl) tab_ok trivial follows_mixed (by kernel_rfl) (by kernel_rfl) (Nat.le_of_ble_eq_true (by kernel_rfl)) (by kernel_rfl) (by kernel_rfl)
    (fun d => (g80_top n _ _).trans (Eq.trans (b := g80_6F n (g80_m0 d.1 d.2.1) (finCx (g80_G n) g80_R [(4, none)])) (by kernel_rfl) ((g80_6_fx n _ d.1 d.2.1).trans (by kernel_rfl))))
noncomputable def g81_m0 (x0 : List Int) (x1 : List Int) : FState := ⟨tlist [(0, .sl 0 none false), (1, .sl 1 none false)], olist [(0, .row (.int .i32) 21 false x0), (1, .row (.int .i32) 21 false x1)]⟩
noncomputable def g81_m1 (v4 : Int) : FState := ⟨tlist [(4, .dat (.int .i64) v4)], olist []⟩
noncomputable def g81_m1e : List NE := [.keep 4]
noncomputable def g81_m2 (x0 : List Int) (x1 : List Int) (v5 : Int) (v6 : Int) (v7 : Int) : FState := ⟨tlist [(0, .sl 0 none false), (1, .sl 1 none false), (5, .dat (.int .i64) v5), (6, .dat (.int .i64) v6), (7, .dat (.int .i64) v7)], olist [(0, .row (.int .i32) 21 false x0), (1, .row (.int .i32) 21 false x1)]⟩
noncomputable def g81_m2e : List NE := [.row 0 (.int .i32) 21 false, .row 1 (.int .i32) 21 false, .keep 5, .keep 6, .keep 7]
noncomputable def g81_C (n : Nat) : List (Nat × Spec) := []
noncomputable def g81_G (n : Nat) : Ctx := { Γ0 with calls := lkS (g81_C n) }
noncomputable def g81_B : Code := fb Tryd.f81
noncomputable def g81_1 {β : Type} (n : Nat) (kn : List Int → List Int → Int → Int → Int → Option β) (x0 : List Int) (x1 : List Int) : Option β := kn x0 x1 (x0.length : Int) (x1.length : Int) (0 : Int)
noncomputable def g81_1F {β : Type} (n : Nat) (s : FState) (cx : Cx β) : Option β := FX (g81_G n) n (nav g81_B [0]) (.fin none none none [] .leaf) s { cx with nrm := fun s => FX (g81_G n) n (nav g81_B [1, 0]) (.fin none none none [] .leaf) s { cx with nrm := fun s => FX (g81_G n) n (nav g81_B [1, 1, 0]) (.fin none none none [] .leaf) s { cx with nrm := fun s => FX (g81_G n) n (nav g81_B [1, 1, 1, 0]) (.fin none (some g81_m2e) none [] .leaf) s cx } } }
theorem g81_1_fx {β : Type} (n : Nat) (cx : Cx β) (x0 : List Int) (x1 : List Int) : g81_1F n (g81_m0 x0 x1) cx = g81_1 n (fun x0 x1 v5 v6 v7 => cx.nrm (g81_m2 x0 x1 v5 v6 v7)) x0 x1 := by kernel_rfl
noncomputable def g81_2 {β : Type} (n : Nat) (kn : List Int → List Int → Int → Int → Int → Option β) (kr : Int → Option β) (x0 : List Int) (x1 : List Int) (v5 : Int) (v6 : Int) (v7 : Int) : Option β := bif (decide ((w64 (v5 - (1 : Int))) < (0 : Int))) then (kr v7) else (bif (decide ((w64 (v6 - (1 : Int))) < (0 : Int))) then (kr v7) else (idx (w64 (v5 - (1 : Int))) (x0.length : Int) <| idx (w64 (v6 - (1 : Int))) (x1.length : Int) <| bif ((rd x0 (w64 (v5 - (1 : Int))) (0 : Int)) != (rd x1 (w64 (v6 - (1 : Int))) (0 : Int))) then (kr v7) else (kn x0 x1 (w64 (v5 - (1 : Int))) (w64 (v6 - (1 : Int))) (w64 (v7 + (1 : Int))))))
noncomputable def g81_2F {β : Type} (n : Nat) (s : FState) (cx : Cx β) : Option β := FX (g81_G n) n (nav g81_B [1, 1, 1, 1, 0, 0, 0]) (.fin none none (some g81_m1e) [] .leaf) s { cx with nrm := fun s => FX (g81_G n) n (nav g81_B [1, 1, 1, 1, 0, 0, 1]) (.fin none (some g81_m2e) (some g81_m1e) [] .leaf) s cx }
theorem g81_2_fx {β : Type} (n : Nat) (cx : Cx β) (x0 : List Int) (x1 : List Int) (v5 : Int) (v6 : Int) (v7 : Int) : g81_2F n (g81_m2 x0 x1 v5 v6 v7) cx = g81_2 n (fun x0 x1 v5 v6 v7 => cx.nrm (g81_m2 x0 x1 v5 v6 v7)) (fun v4 => cx.ret (g81_m1 v4)) x0 x1 v5 v6 v7 := by kernel_rfl
noncomputable def g81_3L {β : Type} (n : Nat) (kr : Int → Option β) : Nat → List Int → List Int → Int → Int → Int → Option β
  | 0, _, _, _, _, _ => none
  | m + 1, x0, x1, v5, v6, v7 => g81_2 n (g81_3L n kr m) kr x0 x1 v5 v6 v7
noncomputable def g81_3 {β : Type} (n : Nat) (kr : Int → Option β) (x0 : List Int) (x1 : List Int) (v5 : Int) (v6 : Int) (v7 : Int) : Option β := g81_3L n kr n x0 x1 v5 v6 v7
noncomputable def g81_3F {β : Type} (n : Nat) (s : FState) (cx : Cx β) : Option β := loopN (fun again s => g81_2F n s { cx with nrm := again }) n s
theorem g81_3L_fx {β : Type} (n : Nat) (cx : Cx β) : ∀ (m : Nat) (x0 : List Int) (x1 : List Int) (v5 : Int) (v6 : Int) (v7 : Int), loopN (fun again s => g81_2F n s { cx with nrm := again }) m (g81_m2 x0 x1 v5 v6 v7) = g81_3L n (fun v4 => cx.ret (g81_m1 v4)) m x0 x1 v5 v6 v7 := by
  intro m
  induction m with
  | zero => intros; rfl
  | succ m ih => intros; simp only [loopN, g81_3L, g81_2_fx, ih]
theorem g81_3_fx {β : Type} (n : Nat) (cx : Cx β) (x0 : List Int) (x1 : List Int) (v5 : Int) (v6 : Int) (v7 : Int) : g81_3F n (g81_m2 x0 x1 v5 v6 v7) cx = g81_3 n (fun v4 => cx.ret (g81_m1 v4)) x0 x1 v5 v6 v7 := g81_3L_fx n cx n x0 x1 v5 v6 v7
noncomputable def g81_4 {β : Type} (n : Nat) (kr : Int → Option β) (x0 : List Int) (x1 : List Int) (v5 : Int) (v6 : Int) (v7 : Int) : Option β := g81_3 n kr x0 x1 v5 v6 v7
noncomputable def g81_4F {β : Type} (n : Nat) (s : FState) (cx : Cx β) : Option β := g81_3F n s { cx with ex := fun j s => bif Nat.beq j 0 then cx.nrm s else cx.ex j s }
theorem g81_4_fx {β : Type} (n : Nat) (cx : Cx β) (x0 : List Int) (x1 : List Int) (v5 : Int) (v6 : Int) (v7 : Int) : g81_4F n (g81_m2 x0 x1 v5 v6 v7) cx = g81_4 n (fun v4 => cx.ret (g81_m1 v4)) x0 x1 v5 v6 v7 := g81_3_fx n _ x0 x1 v5 v6 v7
noncomputable def g81_5 {β : Type} (n : Nat) (kr : Int → Option β) (x0 : List Int) (x1 : List Int) : Option β := g81_1 n (fun x0 x1 v5 v6 v7 => g81_4 n kr x0 x1 v5 v6 v7) x0 x1
noncomputable def g81_5F {β : Type} (n : Nat) (s : FState) (cx : Cx β) : Option β := g81_1F n s { cx with nrm := fun s => g81_4F n s cx }
theorem g81_5_fx {β : Type} (n : Nat) (cx : Cx β) (x0 : List Int) (x1 : List Int) : g81_5F n (g81_m0 x0 x1) cx = g81_5 n (fun v4 => cx.ret (g81_m1 v4)) x0 x1 := by simp only [g81_5F, g81_5, g81_1_fx, g81_4_fx]
noncomputable def g81 (n : Nat) (x0 : List Int) (x1 : List Int) : Option (DenR [.dat (.int .i64)]) := g81_5 n (fun v4 => some (v4, ())) x0 x1
noncomputable def g81_A : List AK := [.ro (.int .i32) 21, .ro (.int .i32) 21]
noncomputable def g81_R : List RK := [.dat (.int .i64)]
noncomputable def g81_f (n : Nat) (d : DenA g81_A) : Option (DenR g81_R) := g81 n d.1 d.2.1
noncomputable def g81_S (n : Nat) : Spec := mkSpec g81_A g81_R (g81_f n)
noncomputable def g81_K : Sk := (.nd (.fin none none none [] .leaf) (.nd (.fin none none none [] .leaf) (.nd (.fin none none none [] .leaf) (.nd (.fin none (some g81_m2e) none [] .leaf) (.nd (.nd (.nd (.fin none none (some g81_m1e) [] .leaf) (.fin none (some g81_m2e) (some g81_m1e) [] .leaf)) .leaf) .leaf)))))
theorem g81_top {β : Type} (n : Nat) (s : FState) (cx : Cx β) : FX (g81_G n) n g81_B g81_K s cx = g81_5F n s cx := by kernel_rfl
theorem g81_fit (n : Nat) : Fit Tryd.prog 81 (g81_S n) :=
  fit_of (Γ := Γ0) (l := g81_C n) (n := n) (sk := g81_K) (ts := [(4, none)]) (fn := Tryd.f81) (c := g81_B) (by kernel_rfl) (by kernel_rfl) (by unfold Callable; kernel_rfl) tab_ok trivial follows_mixed (by kernel_rfl) (by kernel_rfl) (Nat.le_of_ble_eq_true (by kernel_rfl)) (by kernel_rfl) (by kernel_rfl)
    (fun d => (g81_top n _ _).trans (Eq.trans (b := g81_5F n (g81_m0 d.1 d.2.1) (finCx (g81_G n) g81_R [(4, none)])) (by kernel_rfl) ((g81_5_fx n _ d.1 d.2.1).trans (by kernel_rfl))))
noncomputable def g71_m0 (x0 : List (Int × ByteArray)) (v1 : Int) (v2 : Int) (x3 : List (Int × ByteArray)) : FState := ⟨tlist [(0, .sl 0 none false), (1, .dat (.int .i64) v1), (2, .dat (.int .i64) v2), (3, .sl 3 none false)], olist [(0, .row (.pair (.int .i8) .str) 81 true x0), (3, .row (.pair (.int .i8) .str) 81 false x3)]⟩
noncomputable def g71_m1 (x8 : List (Int × ByteArray)) : FState := ⟨tlist [(8, .sl 8 none false)], olist [(8, .row (.pair (.int .i8) .str) 81 true x8)]⟩
noncomputable def g71_m1e : List NE := [.row 8 (.pair (.int .i8) .str) 81 true]
noncomputable def g71_m2 (x0 : List (Int × ByteArray)) (v1 : Int) (v2 : Int) (x3 : List (Int × ByteArray)) (v26 : Bool) : FState := ⟨tlist [(0, .sl 0 none false), (1, .dat (.int .i64) v1), (2, .dat (.int .i64) v2), (3, .sl 3 none false), (26, .dat .bool v26)], olist [(0, .row (.pair (.int .i8) .str) 81 true x0), (3, .row (.pair (.int .i8) .str) 81 false x3)]⟩
noncomputable def g71_m2e : List NE := [.row 0 (.pair (.int .i8) .str) 81 true, .keep 1, .keep 2, .row 3 (.pair (.int .i8) .str) 81 false, .keep 26]
noncomputable def g71_m3 (x0 : List (Int × ByteArray)) (v1 : Int) (v2 : Int) (x3 : List (Int × ByteArray)) : FState := ⟨tlist [(0, .sl 0 none false), (1, .dat (.int .i64) v1), (2, .dat (.int .i64) v2), (3, .sl 3 none false)], olist [(0, .row (.pair (.int .i8) .str) 81 true x0), (3, .row (.pair (.int .i8) .str) 81 false x3)]⟩
noncomputable def g71_m3e : List NE := [.row 0 (.pair (.int .i8) .str) 81 true, .keep 1, .keep 2, .row 3 (.pair (.int .i8) .str) 81 false]
noncomputable def g71_m4 (x0 : List (Int × ByteArray)) (v9 : Int) (o10 : Int) (l10 : Int) (v55 : Int) (v56 : Int) : FState := ⟨tlist [(0, .sl 0 none false), (9, .dat (.int .i64) v9), (10, .sl 0 (some (o10, l10)) false), (55, .dat (.int .i64) v55), (56, .dat (.int .i64) v56)], olist [(0, .row (.pair (.int .i8) .str) 81 true x0)]⟩
noncomputable def g71_m4e : List NE := [.row 0 (.pair (.int .i8) .str) 81 true, .keep 9, .row 10 (.pair (.int .i8) .str) 81 true, .keep 55, .keep 56]
noncomputable def g71_m5 (x0 : List (Int × ByteArray)) (v9 : Int) : FState := ⟨tlist [(0, .sl 0 none false), (9, .dat (.int .i64) v9)], olist [(0, .row (.pair (.int .i8) .str) 81 true x0)]⟩
noncomputable def g71_m5e : List NE := [.row 0 (.pair (.int .i8) .str) 81 true, .keep 9]
noncomputable def g71_m6 (x0 : List (Int × ByteArray)) (v1 : Int) (v2 : Int) (x3 : List (Int × ByteArray)) (v12 : Int) : FState := ⟨tlist [(0, .sl 0 none false), (1, .dat (.int .i64) v1), (2, .dat (.int .i64) v2), (3, .sl 3 none false), (12, .dat (.int .i64) v12)], olist [(0, .row (.pair (.int .i8) .str) 81 true x0), (3, .row (.pair (.int .i8) .str) 81 false x3)]⟩
noncomputable def g71_m6e : List NE := [.row 0 (.pair (.int .i8) .str) 81 true, .keep 1, .keep 2, .row 3 (.pair (.int .i8) .str) 81 false, .keep 12]
noncomputable def g71_m7 (x0 : List (Int × ByteArray)) (v1 : Int) (v2 : Int) (x3 : List (Int × ByteArray)) : FState := ⟨tlist [(0, .sl 0 none false), (1, .dat (.int .i64) v1), (2, .dat (.int .i64) v2), (3, .sl 3 none false)], olist [(0, .row (.pair (.int .i8) .str) 81 true x0), (3, .row (.pair (.int .i8) .str) 81 false x3)]⟩
noncomputable def g71_m7e : List NE := [.row 0 (.pair (.int .i8) .str) 81 true, .keep 1, .keep 2, .row 3 (.pair (.int .i8) .str) 81 false]
noncomputable def g71_C (n : Nat) : List (Nat × Spec) := []
noncomputable def g71_G (n : Nat) : Ctx := { Γ0 with calls := lkS (g71_C n) }
noncomputable def g71_B : Code := fb Tryd.f71
noncomputable def g71_1 {β : Type} (n : Nat) (kn : List (Int × ByteArray) → Int → Int → List (Int × ByteArray) → Bool → Option β) (kr : List (Int × ByteArray) → Option β) (x0 : List (Int × ByteArray)) (v1 : Int) (v2 : Int) (x3 : List (Int × ByteArray)) : Option β := bif ((x3.length : Int) == v2) then (bnd v1 (x0.length : Int) (x0.length : Int) <| kr (pasted x0 (v1 + (0 : Int)) ((x0.length : Int) - v1) x3)) else (kn x0 v1 v2 x3 (decide ((x3.length : Int) < v2)))
noncomputable def g71_1F {β : Type} (n : Nat) (s : FState) (cx : Cx β) : Option β := FX (g71_G n) n (nav g71_B [0]) (.fin none none (some g71_m1e) [] .leaf) s { cx with nrm := fun s => FX (g71_G n) n (nav g71_B [1, 0, 0]) (.fin none none (some g71_m1e) [] .leaf) s { cx with nrm := fun s => FX (g71_G n) n (nav g71_B [1, 0, 1]) (.fin none none (some g71_m1e) [] .leaf) s { cx with nrm := fun s => FX (g71_G n) n (nav g71_B [1, 1, 0, 0]) (.fin none (some g71_m2e) (some g71_m1e) [] .leaf) s cx } } }
theorem g71_1_fx {β : Type} (n : Nat) (cx : Cx β) (x0 : List (Int × ByteArray)) (v1 : Int) (v2 : Int) (x3 : List (Int × ByteArray)) : g71_1F n (g71_m0 x0 v1 v2 x3) cx = g71_1 n (fun x0 v1 v2 x3 v26 => cx.nrm (g71_m2 x0 v1 v2 x3 v26)) (fun x8 => cx.ret (g71_m1 x8)) x0 v1 v2 x3 := by kernel_rfl
noncomputable def g71_2 {β : Type} (n : Nat) (kn : List (Int × ByteArray) → Int → Int → Int → Int → Int → Option β) (x0 : List (Int × ByteArray)) (v1 : Int) (v2 : Int) (x3 : List (Int × ByteArray)) (v26 : Bool) : Option β := bnd v1 (x0.length : Int) (x0.length : Int) <| bnd (w64 (v1 + (x3.length : Int))) ((pasted x0 (v1 + (0 : Int)) ((x0.length : Int) - v1) x3).length : Int) ((pasted x0 (v1 + (0 : Int)) ((x0.length : Int) - v1) x3).length : Int) <| bnd (w64 (v1 + v2)) ((pasted x0 (v1 + (0 : Int)) ((x0.length : Int) - v1) x3).length : Int) ((pasted x0 (v1 + (0 : Int)) ((x0.length : Int) - v1) x3).length : Int) <| bnd (w64 ((w64 (((pasted (pasted x0 (v1 + (0 : Int)) ((x0.length : Int) - v1) x3) ((w64 (v1 + (x3.length : Int))) + (0 : Int)) (((pasted x0 (v1 + (0 : Int)) ((x0.length : Int) - v1) x3).length : Int) - (w64 (v1 + (x3.length : Int)))) (cut (pasted x0 (v1 + (0 : Int)) ((x0.length : Int) - v1) x3) (w64 (v1 + v2)) ((w64 (v1 + v2)) + (((pasted x0 (v1 + (0 : Int)) ((x0.length : Int) - v1) x3).length : Int) - (w64 (v1 + v2)))))).length : Int) - v2)) + (x3.length : Int))) ((pasted (pasted x0 (v1 + (0 : Int)) ((x0.length : Int) - v1) x3) ((w64 (v1 + (x3.length : Int))) + (0 : Int)) (((pasted x0 (v1 + (0 : Int)) ((x0.length : Int) - v1) x3).length : Int) - (w64 (v1 + (x3.length : Int)))) (cut (pasted x0 (v1 + (0 : Int)) ((x0.length : Int) - v1) x3) (w64 (v1 + v2)) ((w64 (v1 + v2)) + (((pasted x0 (v1 + (0 : Int)) ((x0.length : Int) - v1) x3).length : Int) - (w64 (v1 + v2)))))).length : Int) ((pasted (pasted x0 (v1 + (0 : Int)) ((x0.length : Int) - v1) x3) ((w64 (v1 + (x3.length : Int))) + (0 : Int)) (((pasted x0 (v1 + (0 : Int)) ((x0.length : Int) - v1) x3).length : Int) - (w64 (v1 + (x3.length : Int)))) (cut (pasted x0 (v1 + (0 : Int)) ((x0.length : Int) - v1) x3) (w64 (v1 + v2)) ((w64 (v1 + v2)) + (((pasted x0 (v1 + (0 : Int)) ((x0.length : Int) - v1) x3).length : Int) - (w64 (v1 + v2)))))).length : Int) <| kn (pasted (pasted x0 (v1 + (0 : Int)) ((x0.length : Int) - v1) x3) ((w64 (v1 + (x3.length : Int))) + (0 : Int)) (((pasted x0 (v1 + (0 : Int)) ((x0.length : Int) - v1) x3).length : Int) - (w64 (v1 + (x3.length : Int)))) (cut (pasted x0 (v1 + (0 : Int)) ((x0.length : Int) - v1) x3) (w64 (v1 + v2)) ((w64 (v1 + v2)) + (((pasted x0 (v1 + (0 : Int)) ((x0.length : Int) - v1) x3).length : Int) - (w64 (v1 + v2)))))) (w64 ((w64 (((pasted (pasted x0 (v1 + (0 : Int)) ((x0.length : Int) - v1) x3) ((w64 (v1 + (x3.length : Int))) + (0 : Int)) (((pasted x0 (v1 + (0 : Int)) ((x0.length : Int) - v1) x3).length : Int) - (w64 (v1 + (x3.length : Int)))) (cut (pasted x0 (v1 + (0 : Int)) ((x0.length : Int) - v1) x3) (w64 (v1 + v2)) ((w64 (v1 + v2)) + (((pasted x0 (v1 + (0 : Int)) ((x0.length : Int) - v1) x3).length : Int) - (w64 (v1 + v2)))))).length : Int) - v2)) + (x3.length : Int))) (w64 ((w64 (((pasted (pasted x0 (v1 + (0 : Int)) ((x0.length : Int) - v1) x3) ((w64 (v1 + (x3.length : Int))) + (0 : Int)) (((pasted x0 (v1 + (0 : Int)) ((x0.length : Int) - v1) x3).length : Int) - (w64 (v1 + (x3.length : Int)))) (cut (pasted x0 (v1 + (0 : Int)) ((x0.length : Int) - v1) x3) (w64 (v1 + v2)) ((w64 (v1 + v2)) + (((pasted x0 (v1 + (0 : Int)) ((x0.length : Int) - v1) x3).length : Int) - (w64 (v1 + v2)))))).length : Int) - v2)) + (x3.length : Int))) (((pasted (pasted x0 (v1 + (0 : Int)) ((x0.length : Int) - v1) x3) ((w64 (v1 + (x3.length : Int))) + (0 : Int)) (((pasted x0 (v1 + (0 : Int)) ((x0.length : Int) - v1) x3).length : Int) - (w64 (v1 + (x3.length : Int)))) (cut (pasted x0 (v1 + (0 : Int)) ((x0.length : Int) - v1) x3) (w64 (v1 + v2)) ((w64 (v1 + v2)) + (((pasted x0 (v1 + (0 : Int)) ((x0.length : Int) - v1) x3).length : Int) - (w64 (v1 + v2)))))).length : Int) - (w64 ((w64 (((pasted (pasted x0 (v1 + (0 : Int)) ((x0.length : Int) - v1) x3) ((w64 (v1 + (x3.length : Int))) + (0 : Int)) (((pasted x0 (v1 + (0 : Int)) ((x0.length : Int) - v1) x3).length : Int) - (w64 (v1 + (x3.length : Int)))) (cut (pasted x0 (v1 + (0 : Int)) ((x0.length : Int) - v1) x3) (w64 (v1 + v2)) ((w64 (v1 + v2)) + (((pasted x0 (v1 + (0 : Int)) ((x0.length : Int) - v1) x3).length : Int) - (w64 (v1 + v2)))))).length : Int) - v2)) + (x3.length : Int)))) (((pasted (pasted x0 (v1 + (0 : Int)) ((x0.length : Int) - v1) x3) ((w64 (v1 + (x3.length : Int))) + (0 : Int)) (((pasted x0 (v1 + (0 : Int)) ((x0.length : Int) - v1) x3).length : Int) - (w64 (v1 + (x3.length : Int)))) (cut (pasted x0 (v1 + (0 : Int)) ((x0.length : Int) - v1) x3) (w64 (v1 + v2)) ((w64 (v1 + v2)) + (((pasted x0 (v1 + (0 : Int)) ((x0.length : Int) - v1) x3).length : Int) - (w64 (v1 + v2)))))).length : Int) - (w64 ((w64 (((pasted (pasted x0 (v1 + (0 : Int)) ((x0.length : Int) - v1) x3) ((w64 (v1 + (x3.length : Int))) + (0 : Int)) (((pasted x0 (v1 + (0 : Int)) ((x0.length : Int) - v1) x3).length : Int) - (w64 (v1 + (x3.length : Int)))) (cut (pasted x0 (v1 + (0 : Int)) ((x0.length : Int) - v1) x3) (w64 (v1 + v2)) ((w64 (v1 + v2)) + (((pasted x0 (v1 + (0 : Int)) ((x0.length : Int) - v1) x3).length : Int) - (w64 (v1 + v2)))))).length : Int) - v2)) + (x3.length : Int)))) (0 : Int)
noncomputable def g71_2F {β : Type} (n : Nat) (s : FState) (cx : Cx β) : Option β := FX (g71_G n) n (nav g71_B [1, 1, 0, 1, 0, 0]) (.fin none none none [] .leaf) s { cx with nrm := fun s => FX (g71_G n) n (nav g71_B [1, 1, 0, 1, 0, 1, 0]) (.fin none none none [] .leaf) s { cx with nrm := fun s => FX (g71_G n) n (nav g71_B [1, 1, 0, 1, 0, 1, 1, 0]) (.fin none none none [] .leaf) s { cx with nrm := fun s => FX (g71_G n) n (nav g71_B [1, 1, 0, 1, 0, 1, 1, 1, 0]) (.fin none none none [] .leaf) s { cx with nrm := fun s => FX (g71_G n) n (nav g71_B [1, 1, 0, 1, 0, 1, 1, 1, 1, 0, 0]) (.fin none (some g71_m4e) none [] .leaf) s cx } } } }
theorem g71_2_fx {β : Type} (n : Nat) (cx : Cx β) (x0 : List (Int × ByteArray)) (v1 : Int) (v2 : Int) (x3 : List (Int × ByteArray)) (v26 : Bool) : g71_2F n (g71_m2 x0 v1 v2 x3 v26) cx = g71_2 n (fun x0 v9 o10 l10 v55 v56 => cx.nrm (g71_m4 x0 v9 o10 l10 v55 v56)) x0 v1 v2 x3 v26 := by kernel_rfl
noncomputable def g71_3 {β : Type} (n : Nat) (kn : List (Int × ByteArray) → Int → Int → Int → Int → Int → Option β) (kx0 : List (Int × ByteArray) → Int → Option β) (x0 : List (Int × ByteArray)) (v9 : Int) (o10 : Int) (l10 : Int) (v55 : Int) (v56 : Int) : Option β := bif (decide (v56 < v55)) then (idx v56 l10 <| kn (x0.set (o10 + v56).toNat ((0 : Int), (⟨#[]⟩ : ByteArray))) v9 o10 l10 v55 (w64 (v56 + (1 : Int)))) else (kx0 x0 v9)
noncomputable def g71_3F {β : Type} (n : Nat) (s : FState) (cx : Cx β) : Option β := FX (g71_G n) n (nav g71_B [1, 1, 0, 1, 0, 1, 1, 1, 1, 0, 1, 0, 0, 0]) (.fin none none none [(0, g71_m5e)] .leaf) s { cx with nrm := fun s => FX (g71_G n) n (nav g71_B [1, 1, 0, 1, 0, 1, 1, 1, 1, 0, 1, 0, 0, 1, 0]) (.fin none none none [(0, g71_m5e)] .leaf) s { cx with nrm := fun s => FX (g71_G n) n (nav g71_B [1, 1, 0, 1, 0, 1, 1, 1, 1, 0, 1, 0, 0, 1, 1, 0]) (.fin none none none [(0, g71_m5e)] .leaf) s { cx with nrm := fun s => FX (g71_G n) n (nav g71_B [1, 1, 0, 1, 0, 1, 1, 1, 1, 0, 1, 0, 0, 1, 1, 1]) (.fin none (some g71_m4e) none [(0, g71_m5e)] .leaf) s cx } } }
theorem g71_3_fx {β : Type} (n : Nat) (cx : Cx β) (x0 : List (Int × ByteArray)) (v9 : Int) (o10 : Int) (l10 : Int) (v55 : Int) (v56 : Int) : g71_3F n (g71_m4 x0 v9 o10 l10 v55 v56) cx = g71_3 n (fun x0 v9 o10 l10 v55 v56 => cx.nrm (g71_m4 x0 v9 o10 l10 v55 v56)) (fun x0 v9 => cx.ex 0 (g71_m5 x0 v9)) x0 v9 o10 l10 v55 v56 := by kernel_rfl
noncomputable def g71_4L {β : Type} (n : Nat) (kx0 : List (Int × ByteArray) → Int → Option β) : Nat → List (Int × ByteArray) → Int → Int → Int → Int → Int → Option β
  | 0, _, _, _, _, _, _ => none
  | m + 1, x0, v9, o10, l10, v55, v56 => g71_3 n (g71_4L n kx0 m) kx0 x0 v9 o10 l10 v55 v56
noncomputable def g71_4 {β : Type} (n : Nat) (kx0 : List (Int × ByteArray) → Int → Option β) (x0 : List (Int × ByteArray)) (v9 : Int) (o10 : Int) (l10 : Int) (v55 : Int) (v56 : Int) : Option β := g71_4L n kx0 n x0 v9 o10 l10 v55 v56
noncomputable def g71_4F {β : Type} (n : Nat) (s : FState) (cx : Cx β) : Option β := loopN (fun again s => g71_3F n s { cx with nrm := again }) n s
theorem g71_4L_fx {β : Type} (n : Nat) (cx : Cx β) : ∀ (m : Nat) (x0 : List (Int × ByteArray)) (v9 : Int) (o10 : Int) (l10 : Int) (v55 : Int) (v56 : Int), loopN (fun again s => g71_3F n s { cx with nrm := again }) m (g71_m4 x0 v9 o10 l10 v55 v56) = g71_4L n (fun x0 v9 => cx.ex 0 (g71_m5 x0 v9)) m x0 v9 o10 l10 v55 v56 := by
  intro m
  induction m with
  | zero => intros; rfl
  | succ m ih => intros; simp only [loopN, g71_4L, g71_3_fx, ih]
theorem g71_4_fx {β : Type} (n : Nat) (cx : Cx β) (x0 : List (Int × ByteArray)) (v9 : Int) (o10 : Int) (l10 : Int) (v55 : Int) (v56 : Int) : g71_4F n (g71_m4 x0 v9 o10 l10 v55 v56) cx = g71_4 n (fun x0 v9 => cx.ex 0 (g71_m5 x0 v9)) x0 v9 o10 l10 v55 v56 := g71_4L_fx n cx n x0 v9 o10 l10 v55 v56
noncomputable def g71_5 {β : Type} (n : Nat) (kn : List (Int × ByteArray) → Int → Option β) (x0 : List (Int × ByteArray)) (v9 : Int) (o10 : Int) (l10 : Int) (v55 : Int) (v56 : Int) : Option β := g71_4 n kn x0 v9 o10 l10 v55 v56
noncomputable def g71_5F {β : Type} (n : Nat) (s : FState) (cx : Cx β) : Option β := g71_4F n s { cx with ex := fun j s => bif Nat.beq j 0 then cx.nrm s else cx.ex j s }
theorem g71_5_fx {β : Type} (n : Nat) (cx : Cx β) (x0 : List (Int × ByteArray)) (v9 : Int) (o10 : Int) (l10 : Int) (v55 : Int) (v56 : Int) : g71_5F n (g71_m4 x0 v9 o10 l10 v55 v56) cx = g71_5 n (fun x0 v9 => cx.nrm (g71_m5 x0 v9)) x0 v9 o10 l10 v55 v56 := g71_4_fx n _ x0 v9 o10 l10 v55 v56
noncomputable def g71_6 {β : Type} (n : Nat) (kr : List (Int × ByteArray) → Option β) (x0 : List (Int × ByteArray)) (v9 : Int) : Option β := bnd (0 : Int) v9 (x0.length : Int) <| kr (cut x0 (0 : Int) ((0 : Int) + (v9 - (0 : Int))))
noncomputable def g71_6F {β : Type} (n : Nat) (s : FState) (cx : Cx β) : Option β := FX (g71_G n) n (nav g71_B [1, 1, 0, 1, 0, 1, 1, 1, 1, 1, 0]) (.fin none none (some g71_m1e) [] .leaf) s { cx with nrm := fun s => FX (g71_G n) n (nav g71_B [1, 1, 0, 1, 0, 1, 1, 1, 1, 1, 1]) (.fin none none (some g71_m1e) [] .leaf) s cx }
theorem g71_6_fx {β : Type} (n : Nat) (cx : Cx β) (x0 : List (Int × ByteArray)) (v9 : Int) : g71_6F n (g71_m5 x0 v9) cx = g71_6 n (fun x8 => cx.ret (g71_m1 x8)) x0 v9 := by kernel_rfl
noncomputable def g71_7 {β : Type} (n : Nat) (kr : List (Int × ByteArray) → Option β) (x0 : List (Int × ByteArray)) (v1 : Int) (v2 : Int) (x3 : List (Int × ByteArray)) (v26 : Bool) : Option β := g71_2 n (fun x0 v9 o10 l10 v55 v56 => g71_5 n (fun x0 v9 => g71_6 n kr x0 v9) x0 v9 o10 l10 v55 v56) x0 v1 v2 x3 v26
noncomputable def g71_7F {β : Type} (n : Nat) (s : FState) (cx : Cx β) : Option β := g71_2F n s { cx with nrm := fun s => g71_5F n s { cx with nrm := fun s => g71_6F n s cx } }
theorem g71_7_fx {β : Type} (n : Nat) (cx : Cx β) (x0 : List (Int × ByteArray)) (v1 : Int) (v2 : Int) (x3 : List (Int × ByteArray)) (v26 : Bool) : g71_7F n (g71_m2 x0 v1 v2 x3 v26) cx = g71_7 n (fun x8 => cx.ret (g71_m1 x8)) x0 v1 v2 x3 v26 := by simp only [g71_7F, g71_7, g71_2_fx, g71_5_fx, g71_6_fx]
noncomputable def g71_8 {β : Type} (n : Nat) (kn : List (Int × ByteArray) → Int → Int → List (Int × ByteArray) → Option β) (x0 : List (Int × ByteArray)) (v1 : Int) (v2 : Int) (x3 : List (Int × ByteArray)) (v26 : Bool) : Option β := kn x0 v1 v2 x3
noncomputable def g71_8F {β : Type} (n : Nat) (s : FState) (cx : Cx β) : Option β := FX (g71_G n) n (nav g71_B [1, 1, 0, 1, 1]) (.fin none (some g71_m3e) none [] .leaf) s cx
theorem g71_8_fx {β : Type} (n : Nat) (cx : Cx β) (x0 : List (Int × ByteArray)) (v1 : Int) (v2 : Int) (x3 : List (Int × ByteArray)) (v26 : Bool) : g71_8F n (g71_m2 x0 v1 v2 x3 v26) cx = g71_8 n (fun x0 v1 v2 x3 => cx.nrm (g71_m3 x0 v1 v2 x3)) x0 v1 v2 x3 v26 := by kernel_rfl
noncomputable def g71_9 {β : Type} (n : Nat) (kn : List (Int × ByteArray) → Int → Int → List (Int × ByteArray) → Option β) (kr : List (Int × ByteArray) → Option β) (x0 : List (Int × ByteArray)) (v1 : Int) (v2 : Int) (x3 : List (Int × ByteArray)) (v26 : Bool) : Option β := bif v26 then g71_7 n kr x0 v1 v2 x3 v26 else g71_8 n kn x0 v1 v2 x3 v26
noncomputable def g71_9F {β : Type} (n : Nat) (s : FState) (cx : Cx β) : Option β := asBool (ev s (cond_of (nav g71_B [1, 1, 0, 1]))) fun t => cond t (g71_7F n s cx) (g71_8F n s cx)
theorem g71_9_fx {β : Type} (n : Nat) (cx : Cx β) (x0 : List (Int × ByteArray)) (v1 : Int) (v2 : Int) (x3 : List (Int × ByteArray)) (v26 : Bool) : g71_9F n (g71_m2 x0 v1 v2 x3 v26) cx = g71_9 n (fun x0 v1 v2 x3 => cx.nrm (g71_m3 x0 v1 v2 x3)) (fun x8 => cx.ret (g71_m1 x8)) x0 v1 v2 x3 v26 := by
  simp only [g71_9F, g71_9, g71_7_fx, g71_8_fx]
  kernel_rfl
noncomputable def g71_10 {β : Type} (n : Nat) (kn : List (Int × ByteArray) → Int → Int → List (Int × ByteArray) → Int → Option β) (x0 : List (Int × ByteArray)) (v1 : Int) (v2 : Int) (x3 : List (Int × ByteArray)) : Option β := kn x0 v1 v2 x3 (w64 ((w64 ((x0.length : Int) - v2)) + (x3.length : Int)))
noncomputable def g71_10F {β : Type} (n : Nat) (s : FState) (cx : Cx β) : Option β := FX (g71_G n) n (nav g71_B [1, 1, 1, 0]) (.fin none (some g71_m6e) none [] .leaf) s cx
theorem g71_10_fx {β : Type} (n : Nat) (cx : Cx β) (x0 : List (Int × ByteArray)) (v1 : Int) (v2 : Int) (x3 : List (Int × ByteArray)) : g71_10F n (g71_m3 x0 v1 v2 x3) cx = g71_10 n (fun x0 v1 v2 x3 v12 => cx.nrm (g71_m6 x0 v1 v2 x3 v12)) x0 v1 v2 x3 := by kernel_rfl
noncomputable def g71_11 {β : Type} (n : Nat) (kn : List (Int × ByteArray) → Int → Int → List (Int × ByteArray) → Int → Option β) (kx2 : List (Int × ByteArray) → Int → Int → List (Int × ByteArray) → Option β) (x0 : List (Int × ByteArray)) (v1 : Int) (v2 : Int) (x3 : List (Int × ByteArray)) (v12 : Int) : Option β := bif (decide ((x0.length : Int) < v12)) then (roomy (x0.length + [((0 : Int), (⟨#[]⟩ : ByteArray))].length) <| kn (x0 ++ [((0 : Int), (⟨#[]⟩ : ByteArray))]) v1 v2 x3 v12) else (kx2 x0 v1 v2 x3)
noncomputable def g71_11F {β : Type} (n : Nat) (s : FState) (cx : Cx β) : Option β := FX (g71_G n) n (nav g71_B [1, 1, 1, 1, 0, 0, 0, 0, 0]) (.fin none none none [(2, g71_m7e)] .leaf) s { cx with nrm := fun s => FX (g71_G n) n (nav g71_B [1, 1, 1, 1, 0, 0, 0, 0, 1]) (.fin none none none [(2, g71_m7e)] .leaf) s { cx with nrm := fun s => FX (g71_G n) n (nav g71_B [1, 1, 1, 1, 0, 0, 0, 1]) (.fin none (some g71_m6e) none [(2, g71_m7e)] .leaf) s cx } }
theorem g71_11_fx {β : Type} (n : Nat) (cx : Cx β) (x0 : List (Int × ByteArray)) (v1 : Int) (v2 : Int) (x3 : List (Int × ByteArray)) (v12 : Int) : g71_11F n (g71_m6 x0 v1 v2 x3 v12) cx = g71_11 n (fun x0 v1 v2 x3 v12 => cx.nrm (g71_m6 x0 v1 v2 x3 v12)) (fun x0 v1 v2 x3 => cx.ex 2 (g71_m7 x0 v1 v2 x3)) x0 v1 v2 x3 v12 := by kernel_rfl
noncomputable def g71_12L {β : Type} (n : Nat) (kx2 : List (Int × ByteArray) → Int → Int → List (Int × ByteArray) → Option β) : Nat → List (Int × ByteArray) → Int → Int → List (Int × ByteArray) → Int → Option β
  | 0, _, _, _, _, _ => none
  | m + 1, x0, v1, v2, x3, v12 => g71_11 n (g71_12L n kx2 m) kx2 x0 v1 v2 x3 v12
noncomputable def g71_12 {β : Type} (n : Nat) (kx2 : List (Int × ByteArray) → Int → Int → List (Int × ByteArray) → Option β) (x0 : List (Int × ByteArray)) (v1 : Int) (v2 : Int) (x3 : List (Int × ByteArray)) (v12 : Int) : Option β := g71_12L n kx2 n x0 v1 v2 x3 v12
noncomputable def g71_12F {β : Type} (n : Nat) (s : FState) (cx : Cx β) : Option β := loopN (fun again s => g71_11F n s { cx with nrm := again }) n s
theorem g71_12L_fx {β : Type} (n : Nat) (cx : Cx β) : ∀ (m : Nat) (x0 : List (Int × ByteArray)) (v1 : Int) (v2 : Int) (x3 : List (Int × ByteArray)) (v12 : Int), loopN (fun again s => g71_11F n s { cx with nrm := again }) m (g71_m6 x0 v1 v2 x3 v12) = g71_12L n (fun x0 v1 v2 x3 => cx.ex 2 (g71_m7 x0 v1 v2 x3)) m x0 v1 v2 x3 v12 := by
  intro m
  induction m with
  | zero => intros; rfl
  | succ m ih => intros; simp only [loopN, g71_12L, g71_11_fx, ih]
theorem g71_12_fx {β : Type} (n : Nat) (cx : Cx β) (x0 : List (Int × ByteArray)) (v1 : Int) (v2 : Int) (x3 : List (Int × ByteArray)) (v12 : Int) : g71_12F n (g71_m6 x0 v1 v2 x3 v12) cx = g71_12 n (fun x0 v1 v2 x3 => cx.ex 2 (g71_m7 x0 v1 v2 x3)) x0 v1 v2 x3 v12 := g71_12L_fx n cx n x0 v1 v2 x3 v12
noncomputable def g71_13 {β : Type} (n : Nat) (kn : List (Int × ByteArray) → Int → Int → List (Int × ByteArray) → Option β) (x0 : List (Int × ByteArray)) (v1 : Int) (v2 : Int) (x3 : List (Int × ByteArray)) (v12 : Int) : Option β := g71_12 n kn x0 v1 v2 x3 v12
noncomputable def g71_13F {β : Type} (n : Nat) (s : FState) (cx : Cx β) : Option β := g71_12F n s { cx with ex := fun j s => bif Nat.beq j 2 then cx.nrm s else cx.ex j s }
theorem g71_13_fx {β : Type} (n : Nat) (cx : Cx β) (x0 : List (Int × ByteArray)) (v1 : Int) (v2 : Int) (x3 : List (Int × ByteArray)) (v12 : Int) : g71_13F n (g71_m6 x0 v1 v2 x3 v12) cx = g71_13 n (fun x0 v1 v2 x3 => cx.nrm (g71_m7 x0 v1 v2 x3)) x0 v1 v2 x3 v12 := g71_12_fx n _ x0 v1 v2 x3 v12
noncomputable def g71_14 {β : Type} (n : Nat) (kr : List (Int × ByteArray) → Option β) (x0 : List (Int × ByteArray)) (v1 : Int) (v2 : Int) (x3 : List (Int × ByteArray)) : Option β := bnd (w64 (v1 + (x3.length : Int))) (x0.length : Int) (x0.length : Int) <| bnd (w64 (v1 + v2)) (x0.length : Int) (x0.length : Int) <| bnd v1 ((pasted x0 ((w64 (v1 + (x3.length : Int))) + (0 : Int)) ((x0.length : Int) - (w64 (v1 + (x3.length : Int)))) (cut x0 (w64 (v1 + v2)) ((w64 (v1 + v2)) + ((x0.length : Int) - (w64 (v1 + v2)))))).length : Int) ((pasted x0 ((w64 (v1 + (x3.length : Int))) + (0 : Int)) ((x0.length : Int) - (w64 (v1 + (x3.length : Int)))) (cut x0 (w64 (v1 + v2)) ((w64 (v1 + v2)) + ((x0.length : Int) - (w64 (v1 + v2)))))).length : Int) <| kr (pasted (pasted x0 ((w64 (v1 + (x3.length : Int))) + (0 : Int)) ((x0.length : Int) - (w64 (v1 + (x3.length : Int)))) (cut x0 (w64 (v1 + v2)) ((w64 (v1 + v2)) + ((x0.length : Int) - (w64 (v1 + v2)))))) (v1 + (0 : Int)) (((pasted x0 ((w64 (v1 + (x3.length : Int))) + (0 : Int)) ((x0.length : Int) - (w64 (v1 + (x3.length : Int)))) (cut x0 (w64 (v1 + v2)) ((w64 (v1 + v2)) + ((x0.length : Int) - (w64 (v1 + v2)))))).length : Int) - v1) x3)
noncomputable def g71_14F {β : Type} (n : Nat) (s : FState) (cx : Cx β) : Option β := FX (g71_G n) n (nav g71_B [1, 1, 1, 1, 1, 0]) (.fin none none (some g71_m1e) [] .leaf) s { cx with nrm := fun s => FX (g71_G n) n (nav g71_B [1, 1, 1, 1, 1, 1, 0]) (.fin none none (some g71_m1e) [] .leaf) s { cx with nrm := fun s => FX (g71_G n) n (nav g71_B [1, 1, 1, 1, 1, 1, 1, 0]) (.fin none none (some g71_m1e) [] .leaf) s { cx with nrm := fun s => FX (g71_G n) n (nav g71_B [1, 1, 1, 1, 1, 1, 1, 1]) (.fin none none (some g71_m1e) [] .leaf) s cx } } }
theorem g71_14_fx {β : Type} (n : Nat) (cx : Cx β) (x0 : List (Int × ByteArray)) (v1 : Int) (v2 : Int) (x3 : List (Int × ByteArray)) : g71_14F n (g71_m7 x0 v1 v2 x3) cx = g71_14 n (fun x8 => cx.ret (g71_m1 x8)) x0 v1 v2 x3 := by kernel_rfl
noncomputable def g71_15 {β : Type} (n : Nat) (kr : List (Int × ByteArray) → Option β) (x0 : List (Int × ByteArray)) (v1 : Int) (v2 : Int) (x3 : List (Int × ByteArray)) : Option β := g71_1 n (fun x0 v1 v2 x3 v26 => g71_9 n (fun x0 v1 v2 x3 => g71_10 n (fun x0 v1 v2 x3 v12 => g71_13 n (fun x0 v1 v2 x3 => g71_14 n kr x0 v1 v2 x3) x0 v1 v2 x3 v12) x0 v1 v2 x3) kr x0 v1 v2 x3 v26) kr x0 v1 v2 x3
noncomputable def g71_15F {β : Type} (n : Nat) (s : FState) (cx : Cx β) : Option β := g71_1F n s { cx with nrm := fun s => g71_9F n s { cx with nrm := fun s => g71_10F n s { cx with nrm := fun s => g71_13F n s { cx with nrm := fun s => g71_14F n s cx } } } }
theorem g71_15_fx {β : Type} (n : Nat) (cx : Cx β) (x0 : List (Int × ByteArray)) (v1 : Int) (v2 : Int) (x3 : List (Int × ByteArray)) : g71_15F n (g71_m0 x0 v1 v2 x3) cx = g71_15 n (fun x8 => cx.ret (g71_m1 x8)) x0 v1 v2 x3 := by simp only [g71_15F, g71_15, g71_1_fx, g71_9_fx, g71_10_fx, g71_13_fx, g71_14_fx]
noncomputable def g71 (n : Nat) (x0 : List (Int × ByteArray)) (v1 : Int) (v2 : Int) (x3 : List (Int × ByteArray)) : Option (DenR [.rw (.pair (.int .i8) .str) 81]) := g71_15 n (fun x8 => some (x8, ())) x0 v1 v2 x3
noncomputable def g71_A : List AK := [.rw (.pair (.int .i8) .str) 81, .dat (.int .i64), .dat (.int .i64), .ro (.pair (.int .i8) .str) 81]
noncomputable def g71_R : List RK := [.rw (.pair (.int .i8) .str) 81]
noncomputable def g71_f (n : Nat) (d : DenA g71_A) : Option (DenR g71_R) := g71 n d.1 d.2.1 d.2.2.1 d.2.2.2.1
noncomputable def g71_S (n : Nat) : Spec := mkSpec g71_A g71_R (g71_f n)
noncomputable def g71_K : Sk := (.nd (.fin none none (some g71_m1e) [] .leaf) (.nd (.nd (.fin none none (some g71_m1e) [] .leaf) (.fin none none (some g71_m1e) [] .leaf)) (.nd (.nd (.fin none (some g71_m2e) (some g71_m1e) [] .leaf) (.nd (.nd (.fin none none none [] .leaf) (.nd (.fin none none none [] .leaf) (.nd (.fin none none none [] .leaf) (.nd (.fin none none none [] .leaf) (.nd (.nd (.fin none (some g71_m4e) none [] .leaf) (.nd (.nd (.nd (.fin none none none [(0, g71_m5e)] .leaf) (.nd (.fin none none none [(0, g71_m5e)] .leaf) (.nd (.fin none none none [(0, g71_m5e)] .leaf) (.fin none (some g71_m4e) none [(0, g71_m5e)] .leaf)))) .leaf) .leaf)) (.nd (.fin none none (some g71_m1e) [] .leaf) (.fin none none (some g71_m1e) [] .leaf))))))) (.fin none (some g71_m3e) none [] .leaf))) (.nd (.fin none (some g71_m6e) none [] .leaf) (.nd (.nd (.nd (.nd (.nd (.fin none none none [(2, g71_m7e)] .leaf) (.fin none none none [(2, g71_m7e)] .leaf)) (.fin none (some g71_m6e) none [(2, g71_m7e)] .leaf)) .leaf) .leaf) (.nd (.fin none none (some g71_m1e) [] .leaf) (.nd (.fin none none (some g71_m1e) [] .leaf) (.nd (.fin none none (some g71_m1e) [] .leaf) (.fin none none (some g71_m1e) [] .leaf)))))))))
theorem g71_top {β : Type} (n : Nat) (s : FState) (cx : Cx β) : FX (g71_G n) n g71_B g71_K s cx = g71_15F n s cx := by kernel_rfl
theorem g71_fit (n : Nat) : Fit Tryd.prog 71 (g71_S n) :=
  fit_of (Γ := Γ0) (l := g71_C n) (n := n) (sk := g71_K) (ts := [(8, none)]) (fn := Tryd.f71) (c := g71_B) (by kernel_rfl) (by kernel_rfl) (by unfold Callable; kernel_rfl) tab_ok trivial follows_mixed (by kernel_rfl) (by kernel_rfl) (Nat.le_of_ble_eq_true (by kernel_rfl)) (by kernel_rfl) (by kernel_rfl)
    (fun d => (g71_top n _ _).trans (Eq.trans (b := g71_15F n (g71_m0 d.1 d.2.1 d.2.2.1 d.2.2.2.1) (finCx (g71_G n) g71_R [(8, none)])) (by kernel_rfl) ((g71_15_fx n _ d.1 d.2.1 d.2.2.1 d.2.2.2.1).trans (by kernel_rfl))))
noncomputable def g111_m0 (v0 : ByteArray) (v1 : ByteArray) : FState := ⟨tlist [(0, .dat .str v0), (1, .dat .str v1)], olist []⟩
noncomputable def g111_m1 (v4 : Bool) : FState := ⟨tlist [(4, .dat .bool v4)], olist []⟩
noncomputable def g111_m1e : List NE := [.keep 4]
noncomputable def g111_C (n : Nat) : List (Nat × Spec) := []
noncomputable def g111_G (n : Nat) : Ctx := { Γ0 with calls := lkS (g111_C n) }
noncomputable def g111_B : Code := fb Tryd.f111
noncomputable def g111_1 {β : Type} (n : Nat) (kr : Bool → Option β) (v0 : ByteArray) (v1 : ByteArray) : Option β := bif (decide ((v0.size : Int) ≥ (v1.size : Int))) then (bnd (w64 ((v0.size : Int) - (v1.size : Int))) (v0.size : Int) (v0.size : Int) <| kr (strEq (cutS v0 (w64 ((v0.size : Int) - (v1.size : Int))) (v0.size : Int)) v1)) else (kr false)
noncomputable def g111_1F {β : Type} (n : Nat) (s : FState) (cx : Cx β) : Option β := FX (g111_G n) n (nav g111_B [0]) (.fin none none (some g111_m1e) [] .leaf) s { cx with nrm := fun s => FX (g111_G n) n (nav g111_B [1, 0]) (.fin none none (some g111_m1e) [] .leaf) s { cx with nrm := fun s => FX (g111_G n) n (nav g111_B [1, 1]) (.fin none none (some g111_m1e) [] .leaf) s cx } }
theorem g111_1_fx {β : Type} (n : Nat) (cx : Cx β) (v0 : ByteArray) (v1 : ByteArray) : g111_1F n (g111_m0 v0 v1) cx = g111_1 n (fun v4 => cx.ret (g111_m1 v4)) v0 v1 := by kernel_rfl
noncomputable def g111 (n : Nat) (v0 : ByteArray) (v1 : ByteArray) : Option (DenR [.dat .bool]) := g111_1 n (fun v4 => some (v4, ())) v0 v1
noncomputable def g111_A : List AK := [.dat .str, .dat .str]
noncomputable def g111_R : List RK := [.dat .bool]
noncomputable def g111_f (n : Nat) (d : DenA g111_A) : Option (DenR g111_R) := g111 n d.1 d.2.1
noncomputable def g111_S (n : Nat) : Spec := mkSpec g111_A g111_R (g111_f n)
noncomputable def g111_K : Sk := (.nd (.fin none none (some g111_m1e) [] .leaf) (.nd (.fin none none (some g111_m1e) [] .leaf) (.fin none none (some g111_m1e) [] .leaf)))
theorem g111_top {β : Type} (n : Nat) (s : FState) (cx : Cx β) : FX (g111_G n) n g111_B g111_K s cx = g111_1F n s cx := by kernel_rfl
theorem g111_fit (n : Nat) : Fit Tryd.prog 111 (g111_S n) :=
  fit_of (Γ := Γ0) (l := g111_C n) (n := n) (sk := g111_K) (ts := [(4, none)]) (fn := Tryd.f111) (c := g111_B) (by kernel_rfl) (by kernel_rfl) (by unfold Callable; kernel_rfl) tab_ok trivial follows_mixed (by kernel_rfl) (by kernel_rfl) (Nat.le_of_ble_eq_true (by kernel_rfl)) (by kernel_rfl) (by kernel_rfl)
    (fun d => (g111_top n _ _).trans (Eq.trans (b := g111_1F n (g111_m0 d.1 d.2.1) (finCx (g111_G n) g111_R [(4, none)])) (by kernel_rfl) ((g111_1_fx n _ d.1 d.2.1).trans (by kernel_rfl))))
noncomputable def g91_m0 (v0 : ByteArray) (v1 : ByteArray) : FState := ⟨tlist [(0, .dat .str v0), (1, .dat .str v1)], olist []⟩
noncomputable def g91_m1 (v4 : Bool) : FState := ⟨tlist [(4, .dat .bool v4)], olist []⟩
noncomputable def g91_m1e : List NE := [.keep 4]
noncomputable def g91_C (n : Nat) : List (Nat × Spec) := [(111, g111_S n)]
noncomputable def g91_G (n : Nat) : Ctx := { Γ0 with calls := lkS (g91_C n) }
noncomputable def g91_B : Code := fb Tryd.f91
noncomputable def g91_1 {β : Type} (n : Nat) (kr : Bool → Option β) (v0 : ByteArray) (v1 : ByteArray) : Option β := (g111 n v0 v1).bind fun r1 => kr r1.1
noncomputable def g91_1F {β : Type} (n : Nat) (s : FState) (cx : Cx β) : Option β := FX (g91_G n) n (nav g91_B [0]) (.fin none none (some g91_m1e) [] .leaf) s { cx with nrm := fun s => FX (g91_G n) n (nav g91_B [1, 0]) (.fin none none (some g91_m1e) [] .leaf) s { cx with nrm := fun s => FX (g91_G n) n (nav g91_B [1, 1]) (.fin none none (some g91_m1e) [] .leaf) s cx } }
theorem g91_1_fx {β : Type} (n : Nat) (cx : Cx β) (v0 : ByteArray) (v1 : ByteArray) : g91_1F n (g91_m0 v0 v1) cx = g91_1 n (fun v4 => cx.ret (g91_m1 v4)) v0 v1 := by kernel_rfl
noncomputable def g91 (n : Nat) (v0 : ByteArray) (v1 : ByteArray) : Option (DenR [.dat .bool]) := g91_1 n (fun v4 => some (v4, ())) v0 v1
noncomputable def g91_A : List AK := [.dat .str, .dat .str]
noncomputable def g91_R : List RK := [.dat .bool]
noncomputable def g91_f (n : Nat) (d : DenA g91_A) : Option (DenR g91_R) := g91 n d.1 d.2.1
noncomputable def g91_S (n : Nat) : Spec := mkSpec g91_A g91_R (g91_f n)
noncomputable def g91_K : Sk := (.nd (.fin none none (some g91_m1e) [] .leaf) (.nd (.fin none none (some g91_m1e) [] .leaf) (.fin none none (some g91_m1e) [] .leaf)))
theorem g91_top {β : Type} (n : Nat) (s : FState) (cx : Cx β) : FX (g91_G n) n g91_B g91_K s cx = g91_1F n s cx := by kernel_rfl
theorem g91_fit (n : Nat) : Fit Tryd.prog 91 (g91_S n) :=
  fit_of (Γ := Γ0) (l := g91_C n) (n := n) (sk := g91_K) (ts := [(4, none)]) (fn := Tryd.f91) (c := g91_B) (by kernel_rfl) (by kernel_rfl) (by unfold Callable; kernel_rfl) tab_ok ⟨g111_fit n, trivial⟩ follows_mixed (by kernel_rfl) (by kernel_rfl) (Nat.le_of_ble_eq_true (by kernel_rfl)) (by kernel_rfl) (by kernel_rfl)
    (fun d => (g91_top n _ _).trans (Eq.trans (b := g91_1F n (g91_m0 d.1 d.2.1) (finCx (g91_G n) g91_R [(4, none)])) (by kernel_rfl) ((g91_1_fx n _ d.1 d.2.1).trans (by kernel_rfl))))
noncomputable def g112_m0 (v0 : ByteArray) (v1 : ByteArray) : FState := ⟨tlist [(0, .dat .str v0), (1, .dat .str v1)], olist []⟩
noncomputable def g112_m1 (v4 : Bool) : FState := ⟨tlist [(4, .dat .bool v4)], olist []⟩
noncomputable def g112_m1e : List NE := [.keep 4]
noncomputable def g112_C (n : Nat) : List (Nat × Spec) := []
noncomputable def g112_G (n : Nat) : Ctx := { Γ0 with calls := lkS (g112_C n) }
noncomputable def g112_B : Code := fb Tryd.f112
noncomputable def g112_1 {β : Type} (n : Nat) (kr : Bool → Option β) (v0 : ByteArray) (v1 : ByteArray) : Option β := bif (decide ((v0.size : Int) ≥ (v1.size : Int))) then (bnd (0 : Int) (v1.size : Int) (v0.size : Int) <| kr (strEq (cutS v0 (0 : Int) (v1.size : Int)) v1)) else (kr false)
noncomputable def g112_1F {β : Type} (n : Nat) (s : FState) (cx : Cx β) : Option β := FX (g112_G n) n (nav g112_B [0]) (.fin none none (some g112_m1e) [] .leaf) s { cx with nrm := fun s => FX (g112_G n) n (nav g112_B [1, 0]) (.fin none none (some g112_m1e) [] .leaf) s { cx with nrm := fun s => FX (g112_G n) n (nav g112_B [1, 1]) (.fin none none (some g112_m1e) [] .leaf) s cx } }
theorem g112_1_fx {β : Type} (n : Nat) (cx : Cx β) (v0 : ByteArray) (v1 : ByteArray) : g112_1F n (g112_m0 v0 v1) cx = g112_1 n (fun v4 => cx.ret (g112_m1 v4)) v0 v1 := by kernel_rfl
noncomputable def g112 (n : Nat) (v0 : ByteArray) (v1 : ByteArray) : Option (DenR [.dat .bool]) := g112_1 n (fun v4 => some (v4, ())) v0 v1
noncomputable def g112_A : List AK := [.dat .str, .dat .str]
noncomputable def g112_R : List RK := [.dat .bool]
noncomputable def g112_f (n : Nat) (d : DenA g112_A) : Option (DenR g112_R) := g112 n d.1 d.2.1
noncomputable def g112_S (n : Nat) : Spec := mkSpec g112_A g112_R (g112_f n)
noncomputable def g112_K : Sk := (.nd (.fin none none (some g112_m1e) [] .leaf) (.nd (.fin none none (some g112_m1e) [] .leaf) (.fin none none (some g112_m1e) [] .leaf)))
theorem g112_top {β : Type} (n : Nat) (s : FState) (cx : Cx β) : FX (g112_G n) n g112_B g112_K s cx = g112_1F n s cx := by kernel_rfl
theorem g112_fit (n : Nat) : Fit Tryd.prog 112 (g112_S n) :=
  fit_of (Γ := Γ0) (l := g112_C n) (n := n) (sk := g112_K) (ts := [(4, none)]) (fn := Tryd.f112) (c := g112_B) (by kernel_rfl) (by kernel_rfl) (by unfold Callable; kernel_rfl) tab_ok trivial follows_mixed (by kernel_rfl) (by kernel_rfl) (Nat.le_of_ble_eq_true (by kernel_rfl)) (by kernel_rfl) (by kernel_rfl)
    (fun d => (g112_top n _ _).trans (Eq.trans (b := g112_1F n (g112_m0 d.1 d.2.1) (finCx (g112_G n) g112_R [(4, none)])) (by kernel_rfl) ((g112_1_fx n _ d.1 d.2.1).trans (by kernel_rfl))))
noncomputable def g92_m0 (v0 : ByteArray) (v1 : ByteArray) : FState := ⟨tlist [(0, .dat .str v0), (1, .dat .str v1)], olist []⟩
noncomputable def g92_m1 (v4 : Bool) : FState := ⟨tlist [(4, .dat .bool v4)], olist []⟩
noncomputable def g92_m1e : List NE := [.keep 4]
noncomputable def g92_C (n : Nat) : List (Nat × Spec) := [(112, g112_S n)]
noncomputable def g92_G (n : Nat) : Ctx := { Γ0 with calls := lkS (g92_C n) }
noncomputable def g92_B : Code := fb Tryd.f92
noncomputable def g92_1 {β : Type} (n : Nat) (kr : Bool → Option β) (v0 : ByteArray) (v1 : ByteArray) : Option β := (g112 n v0 v1).bind fun r1 => kr r1.1
noncomputable def g92_1F {β : Type} (n : Nat) (s : FState) (cx : Cx β) : Option β := FX (g92_G n) n (nav g92_B [0]) (.fin none none (some g92_m1e) [] .leaf) s { cx with nrm := fun s => FX (g92_G n) n (nav g92_B [1, 0]) (.fin none none (some g92_m1e) [] .leaf) s { cx with nrm := fun s => FX (g92_G n) n (nav g92_B [1, 1]) (.fin none none (some g92_m1e) [] .leaf) s cx } }
theorem g92_1_fx {β : Type} (n : Nat) (cx : Cx β) (v0 : ByteArray) (v1 : ByteArray) : g92_1F n (g92_m0 v0 v1) cx = g92_1 n (fun v4 => cx.ret (g92_m1 v4)) v0 v1 := by kernel_rfl
noncomputable def g92 (n : Nat) (v0 : ByteArray) (v1 : ByteArray) : Option (DenR [.dat .bool]) := g92_1 n (fun v4 => some (v4, ())) v0 v1
noncomputable def g92_A : List AK := [.dat .str, .dat .str]
noncomputable def g92_R : List RK := [.dat .bool]
noncomputable def g92_f (n : Nat) (d : DenA g92_A) : Option (DenR g92_R) := g92 n d.1 d.2.1
noncomputable def g92_S (n : Nat) : Spec := mkSpec g92_A g92_R (g92_f n)
noncomputable def g92_K : Sk := (.nd (.fin none none (some g92_m1e) [] .leaf) (.nd (.fin none none (some g92_m1e) [] .leaf) (.fin none none (some g92_m1e) [] .leaf)))
theorem g92_top {β : Type} (n : Nat) (s : FState) (cx : Cx β) : FX (g92_G n) n g92_B g92_K s cx = g92_1F n s cx := by kernel_rfl
theorem g92_fit (n : Nat) : Fit Tryd.prog 92 (g92_S n) :=
  fit_of (Γ := Γ0) (l := g92_C n) (n := n) (sk := g92_K) (ts := [(4, none)]) (fn := Tryd.f92) (c := g92_B) (by kernel_rfl) (by kernel_rfl) (by unfold Callable; kernel_rfl) tab_ok ⟨g112_fit n, trivial⟩ follows_mixed (by kernel_rfl) (by kernel_rfl) (Nat.le_of_ble_eq_true (by kernel_rfl)) (by kernel_rfl) (by kernel_rfl)
    (fun d => (g92_top n _ _).trans (Eq.trans (b := g92_1F n (g92_m0 d.1 d.2.1) (finCx (g92_G n) g92_R [(4, none)])) (by kernel_rfl) ((g92_1_fx n _ d.1 d.2.1).trans (by kernel_rfl))))
end Go.Proofs.YticibdjilmclgaaDoorUF
