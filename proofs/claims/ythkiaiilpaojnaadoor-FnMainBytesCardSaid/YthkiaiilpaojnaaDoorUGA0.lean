import Derived.Test.YthkiaiilpaojnaaDoorUFT
namespace Go.Proofs.YthkiaiilpaojnaaDoorUF
open Go Go.Proofs
set_option linter.unusedVariables false
set_option maxRecDepth 100000
noncomputable def g15_m0 (v0 : ByteArray) : FState := ⟨tlist [(0, .dat .str v0)], olist []⟩
noncomputable def g15_m1 (x2 : List Int) : FState := ⟨tlist [(2, .sl 2 none false)], olist [(2, .row (.int .i32) 21 true x2)]⟩
noncomputable def g15_m1e : List NE := [.row 2 (.int .i32) 21 true]
noncomputable def g15_C (n : Nat) : List (Nat × Spec) := []
noncomputable def g15_G (n : Nat) : Ctx := { Γ0 with calls := lkS (g15_C n) }
noncomputable def g15_B : Code := fb Tryd.f15
noncomputable def g15_1 {β : Type} (n : Nat) (kr : List Int → Option β) (v0 : ByteArray) : Option β := room46 v0 <| kr (runesOf v0)
noncomputable def g15_1F {β : Type} (n : Nat) (s : FState) (cx : Cx β) : Option β := FX (g15_G n) n (nav g15_B [0]) (.fin none none (some g15_m1e) [] .leaf) s { cx with nrm := fun s => FX (g15_G n) n (nav g15_B [1, 0]) (.fin none none (some g15_m1e) [] .leaf) s { cx with nrm := fun s => FX (g15_G n) n (nav g15_B [1, 1]) (.fin none none (some g15_m1e) [] .leaf) s cx } }
theorem g15_1_fx {β : Type} (n : Nat) (cx : Cx β) (v0 : ByteArray) : g15_1F n (g15_m0 v0) cx = g15_1 n (fun x2 => cx.ret (g15_m1 x2)) v0 := by kernel_rfl
noncomputable def g15 (n : Nat) (v0 : ByteArray) : Option (DenR [.rw (.int .i32) 21]) := g15_1 n (fun x2 => some (x2, ())) v0
noncomputable def g15_A : List AK := [.dat .str]
noncomputable def g15_R : List RK := [.rw (.int .i32) 21]
noncomputable def g15_f (n : Nat) (d : DenA g15_A) : Option (DenR g15_R) := g15 n d.1
noncomputable def g15_S (n : Nat) : Spec := mkSpec g15_A g15_R (g15_f n)
noncomputable def g15_K : Sk := (.nd (.fin none none (some g15_m1e) [] .leaf) (.nd (.fin none none (some g15_m1e) [] .leaf) (.fin none none (some g15_m1e) [] .leaf)))
theorem g15_top {β : Type} (n : Nat) (s : FState) (cx : Cx β) : FX (g15_G n) n g15_B g15_K s cx = g15_1F n s cx := by kernel_rfl
theorem g15_fit (n : Nat) : Fit Tryd.prog 15 (g15_S n) :=
  fit_of (Γ := Γ0) (l := g15_C n) (n := n) (sk := g15_K) (ts := [(2, none)]) (fn := Tryd.f15) (c := g15_B) (by kernel_rfl) (by kernel_rfl) (by unfold Callable; kernel_rfl) tab_ok trivial follows_mixed (by kernel_rfl) (by kernel_rfl) (Nat.le_of_ble_eq_true (by kernel_rfl)) (by kernel_rfl) (by kernel_rfl)
    (fun d => (g15_top n _ _).trans (Eq.trans (b := g15_1F n (g15_m0 d.1) (finCx (g15_G n) g15_R [(2, none)])) (by kernel_rfl) ((g15_1_fx n _ d.1).trans (by kernel_rfl))))
noncomputable def g32_m0 (v0 : ByteArray) (v1 : Int) : FState := ⟨tlist [(0, .dat .str v0), (1, .dat (.int .i64) v1)], olist []⟩
noncomputable def g32_m1 (v4 : ByteArray) : FState := ⟨tlist [(4, .dat .str v4)], olist []⟩
noncomputable def g32_m1e : List NE := [.keep 4]
noncomputable def g32_C (n : Nat) : List (Nat × Spec) := [(15, g15_S n)]
noncomputable def g32_G (n : Nat) : Ctx := { Γ0 with calls := lkS (g32_C n) }
noncomputable def g32_B : Code := fb Tryd.f32
noncomputable def g32_1 {β : Type} (n : Nat) (kr : ByteArray → Option β) (v0 : ByteArray) (v1 : Int) : Option β := (g15 n v0).bind fun r1 => bnd (0 : Int) (minI (r1.1.length : Int) v1) (r1.1.length : Int) <| kr (runesBytes (cut r1.1 (0 : Int) ((0 : Int) + ((minI (r1.1.length : Int) v1) - (0 : Int)))))
noncomputable def g32_1F {β : Type} (n : Nat) (s : FState) (cx : Cx β) : Option β := FX (g32_G n) n (nav g32_B [0]) (.fin none none (some g32_m1e) [] .leaf) s { cx with nrm := fun s => FX (g32_G n) n (nav g32_B [1, 0]) (.fin none none (some g32_m1e) [] .leaf) s { cx with nrm := fun s => FX (g32_G n) n (nav g32_B [1, 1, 0]) (.fin none none (some g32_m1e) [] .leaf) s { cx with nrm := fun s => FX (g32_G n) n (nav g32_B [1, 1, 1]) (.fin none none (some g32_m1e) [] .leaf) s cx } } }
theorem g32_1_fx {β : Type} (n : Nat) (cx : Cx β) (v0 : ByteArray) (v1 : Int) : g32_1F n (g32_m0 v0 v1) cx = g32_1 n (fun v4 => cx.ret (g32_m1 v4)) v0 v1 := by kernel_rfl
noncomputable def g32 (n : Nat) (v0 : ByteArray) (v1 : Int) : Option (DenR [.dat .str]) := g32_1 n (fun v4 => some (v4, ())) v0 v1
noncomputable def g32_A : List AK := [.dat .str, .dat (.int .i64)]
noncomputable def g32_R : List RK := [.dat .str]
noncomputable def g32_f (n : Nat) (d : DenA g32_A) : Option (DenR g32_R) := g32 n d.1 d.2.1
noncomputable def g32_S (n : Nat) : Spec := mkSpec g32_A g32_R (g32_f n)
noncomputable def g32_K : Sk := (.nd (.fin none none (some g32_m1e) [] .leaf) (.nd (.fin none none (some g32_m1e) [] .leaf) (.nd (.fin none none (some g32_m1e) [] .leaf) (.fin none none (some g32_m1e) [] .leaf))))
theorem g32_top {β : Type} (n : Nat) (s : FState) (cx : Cx β) : FX (g32_G n) n g32_B g32_K s cx = g32_1F n s cx := by kernel_rfl
theorem g32_fit (n : Nat) : Fit Tryd.prog 32 (g32_S n) :=
  fit_of (Γ := Γ0) (l := g32_C n) (n := n) (sk := g32_K) (ts := [(4, none)]) (fn := Tryd.f32) (c := g32_B) (by kernel_rfl) (by kernel_rfl) (by unfold Callable; kernel_rfl) tab_ok ⟨g15_fit n, trivial⟩ follows_mixed (by kernel_rfl) (by kernel_rfl) (Nat.le_of_ble_eq_true (by kernel_rfl)) (by kernel_rfl) (by kernel_rfl)
    (fun d => (g32_top n _ _).trans (Eq.trans (b := g32_1F n (g32_m0 d.1 d.2.1) (finCx (g32_G n) g32_R [(4, none)])) (by kernel_rfl) ((g32_1_fx n _ d.1 d.2.1).trans (by kernel_rfl))))
noncomputable def g89_m0 (v0 : Int) (v1 : Int) (v2 : Int) (v3 : Int) : FState := ⟨tlist [(0, .dat (.int .i64) v0), (1, .dat (.int .i64) v1), (2, .dat (.int .i64) v2), (3, .dat (.int .i64) v3)], olist []⟩
noncomputable def g89_m1 (v8 : Int) : FState := ⟨tlist [(8, .dat (.int .i64) v8)], olist []⟩
noncomputable def g89_m1e : List NE := [.keep 8]
noncomputable def g89_C (n : Nat) : List (Nat × Spec) := []
noncomputable def g89_G (n : Nat) : Ctx := { Γ0 with calls := lkS (g89_C n) }
noncomputable def g89_B : Code := fb Tryd.f89
noncomputable def g89_1 {β : Type} (n : Nat) (kr : Int → Option β) (v0 : Int) (v1 : Int) (v2 : Int) (v3 : Int) : Option β := bif (decide (v0 < v1)) then (kr v3) else (bif (decide (v0 > v2)) then (kr v3) else (kr v0))
noncomputable def g89_1F {β : Type} (n : Nat) (s : FState) (cx : Cx β) : Option β := FX (g89_G n) n (nav g89_B [0]) (.fin none none (some g89_m1e) [] .leaf) s { cx with nrm := fun s => FX (g89_G n) n (nav g89_B [1, 0, 0]) (.fin none none (some g89_m1e) [] .leaf) s { cx with nrm := fun s => FX (g89_G n) n (nav g89_B [1, 0, 1]) (.fin none none (some g89_m1e) [] .leaf) s { cx with nrm := fun s => FX (g89_G n) n (nav g89_B [1, 1, 0]) (.fin none none (some g89_m1e) [] .leaf) s { cx with nrm := fun s => FX (g89_G n) n (nav g89_B [1, 1, 1]) (.fin none none (some g89_m1e) [] .leaf) s cx } } } }
theorem g89_1_fx {β : Type} (n : Nat) (cx : Cx β) (v0 : Int) (v1 : Int) (v2 : Int) (v3 : Int) : g89_1F n (g89_m0 v0 v1 v2 v3) cx = g89_1 n (fun v8 => cx.ret (g89_m1 v8)) v0 v1 v2 v3 := by kernel_rfl
noncomputable def g89 (n : Nat) (v0 : Int) (v1 : Int) (v2 : Int) (v3 : Int) : Option (DenR [.dat (.int .i64)]) := g89_1 n (fun v8 => some (v8, ())) v0 v1 v2 v3
noncomputable def g89_A : List AK := [.dat (.int .i64), .dat (.int .i64), .dat (.int .i64), .dat (.int .i64)]
noncomputable def g89_R : List RK := [.dat (.int .i64)]
noncomputable def g89_f (n : Nat) (d : DenA g89_A) : Option (DenR g89_R) := g89 n d.1 d.2.1 d.2.2.1 d.2.2.2.1
noncomputable def g89_S (n : Nat) : Spec := mkSpec g89_A g89_R (g89_f n)
noncomputable def g89_K : Sk := (.nd (.fin none none (some g89_m1e) [] .leaf) (.nd (.nd (.fin none none (some g89_m1e) [] .leaf) (.fin none none (some g89_m1e) [] .leaf)) (.nd (.fin none none (some g89_m1e) [] .leaf) (.fin none none (some g89_m1e) [] .leaf))))
theorem g89_top {β : Type} (n : Nat) (s : FState) (cx : Cx β) : FX (g89_G n) n g89_B g89_K s cx = g89_1F n s cx := by kernel_rfl
theorem g89_fit (n : Nat) : Fit Tryd.prog 89 (g89_S n) :=
  fit_of (Γ := Γ0) (l := g89_C n) (n := n) (sk := g89_K) (ts := [(8, none)]) (fn := Tryd.f89) (c := g89_B) (by kernel_rfl) (by kernel_rfl) (by unfold Callable; kernel_rfl) tab_ok trivial follows_mixed (by kernel_rfl) (by kernel_rfl) (Nat.le_of_ble_eq_true (by kernel_rfl)) (by kernel_rfl) (by kernel_rfl)
    (fun d => (g89_top n _ _).trans (Eq.trans (b := g89_1F n (g89_m0 d.1 d.2.1 d.2.2.1 d.2.2.2.1) (finCx (g89_G n) g89_R [(8, none)])) (by kernel_rfl) ((g89_1_fx n _ d.1 d.2.1 d.2.2.1 d.2.2.2.1).trans (by kernel_rfl))))
noncomputable def g90_m0 (v0 : Nat) : FState := ⟨tlist [(0, .dat (.flt .f64) v0)], olist []⟩
noncomputable def g90_m1 (v2 : Nat) : FState := ⟨tlist [(2, .dat (.flt .f64) v2)], olist []⟩
noncomputable def g90_m1e : List NE := [.keep 2]
noncomputable def g90_C (n : Nat) : List (Nat × Spec) := []
noncomputable def g90_G (n : Nat) : Ctx := { Γ0 with calls := lkS (g90_C n) }
noncomputable def g90_B : Code := fb Tryd.f90
noncomputable def g90_1 {β : Type} (n : Nat) (kr : Nat → Option β) (v0 : Nat) : Option β := bif ((fGt .f64 v0 (0 : Nat)) || (fEq .f64 v0 (0 : Nat))) then (bif ((fLt .f64 v0 (4607182418800017408 : Nat)) || (fEq .f64 v0 (4607182418800017408 : Nat))) then (kr v0) else (kr (4602678819172646912 : Nat))) else (kr (4602678819172646912 : Nat))
noncomputable def g90_1F {β : Type} (n : Nat) (s : FState) (cx : Cx β) : Option β := FX (g90_G n) n (nav g90_B [0]) (.fin none none (some g90_m1e) [] .leaf) s { cx with nrm := fun s => FX (g90_G n) n (nav g90_B [1, 0, 0]) (.fin none none (some g90_m1e) [] .leaf) s { cx with nrm := fun s => FX (g90_G n) n (nav g90_B [1, 0, 1]) (.fin none none (some g90_m1e) [] .leaf) s { cx with nrm := fun s => FX (g90_G n) n (nav g90_B [1, 1, 0]) (.fin none none (some g90_m1e) [] .leaf) s { cx with nrm := fun s => FX (g90_G n) n (nav g90_B [1, 1, 1]) (.fin none none (some g90_m1e) [] .leaf) s cx } } } }
theorem g90_1_fx {β : Type} (n : Nat) (cx : Cx β) (v0 : Nat) : g90_1F n (g90_m0 v0) cx = g90_1 n (fun v2 => cx.ret (g90_m1 v2)) v0 := by kernel_rfl
noncomputable def g90 (n : Nat) (v0 : Nat) : Option (DenR [.dat (.flt .f64)]) := g90_1 n (fun v2 => some (v2, ())) v0
noncomputable def g90_A : List AK := [.dat (.flt .f64)]
noncomputable def g90_R : List RK := [.dat (.flt .f64)]
noncomputable def g90_f (n : Nat) (d : DenA g90_A) : Option (DenR g90_R) := g90 n d.1
noncomputable def g90_S (n : Nat) : Spec := mkSpec g90_A g90_R (g90_f n)
noncomputable def g90_K : Sk := (.nd (.fin none none (some g90_m1e) [] .leaf) (.nd (.nd (.fin none none (some g90_m1e) [] .leaf) (.fin none none (some g90_m1e) [] .leaf)) (.nd (.fin none none (some g90_m1e) [] .leaf) (.fin none none (some g90_m1e) [] .leaf))))
theorem g90_top {β : Type} (n : Nat) (s : FState) (cx : Cx β) : FX (g90_G n) n g90_B g90_K s cx = g90_1F n s cx := by kernel_rfl
theorem g90_fit (n : Nat) : Fit Tryd.prog 90 (g90_S n) :=
  fit_of (Γ := Γ0) (l := g90_C n) (n := n) (sk := g90_K) (ts := [(2, none)]) (fn := Tryd.f90) (c := g90_B) (by kernel_rfl) (by kernel_rfl) (by unfold Callable; kernel_rfl) tab_ok trivial follows_mixed (by kernel_rfl) (by kernel_rfl) (Nat.le_of_ble_eq_true (by kernel_rfl)) (by kernel_rfl) (by kernel_rfl)
    (fun d => (g90_top n _ _).trans (Eq.trans (b := g90_1F n (g90_m0 d.1) (finCx (g90_G n) g90_R [(2, none)])) (by kernel_rfl) ((g90_1_fx n _ d.1).trans (by kernel_rfl))))
noncomputable def g62_m0 (v0 : (Bool × (Int × (Int × (Nat × (Nat × (Int × Int))))))) : FState := ⟨tlist [(0, .dat (.pair .bool (.pair (.int .i64) (.pair (.int .i64) (.pair (.flt .f64) (.pair (.flt .f64) (.pair (.int .i64) (.int .i64))))))) v0)], olist []⟩
noncomputable def g62_m1 (p2 : (Int × (Int × (Int × (Nat × (Int × (Int × Nat))))))) : FState := ⟨tlist [(2, .ptr 2 0 0)], olist [(2, .row (.pair (.int .i64) (.pair (.int .i64) (.pair (.int .i64) (.pair (.flt .f64) (.pair (.int .i64) (.pair (.int .i64) (.flt .f64))))))) 106 true [p2])]⟩
noncomputable def g62_m1e : List NE := [.ptr 2 (.pair (.int .i64) (.pair (.int .i64) (.pair (.int .i64) (.pair (.flt .f64) (.pair (.int .i64) (.pair (.int .i64) (.flt .f64))))))) 106 true]
noncomputable def g62_C (n : Nat) : List (Nat × Spec) := [(89, g89_S n), (90, g90_S n)]
noncomputable def g62_G (n : Nat) : Ctx := { Γ0 with calls := lkS (g62_C n) }
noncomputable def g62_B : Code := fb Tryd.f62
noncomputable def g62_1 {β : Type} (n : Nat) (kr : (Int × (Int × (Int × (Nat × (Int × (Int × Nat)))))) → Option β) (v0 : (Bool × (Int × (Int × (Nat × (Nat × (Int × Int))))))) : Option β := (g89 n v0.2.1 (0 : Int) (1000 : Int) (4 : Int)).bind fun r1 => (g89 n v0.2.2.1 (0 : Int) (1048576 : Int) (1000 : Int)).bind fun r2 => (g90 n v0.2.2.2.1).bind fun r3 => (g90 n v0.2.2.2.2.1).bind fun r4 => (g89 n v0.2.2.2.2.2.1 (1 : Int) (8 : Int) (4 : Int)).bind fun r5 => (g89 n v0.2.2.2.2.2.2 (32 : Int) (62 : Int) (32 : Int)).bind fun r6 => bif v0.1 then (kr ((1 : Int), (r1.1, (r2.1, (r4.1, (r5.1, (r6.1, r3.1))))))) else (kr ((0 : Int), (r1.1, (r2.1, (r4.1, (r5.1, (r6.1, r3.1)))))))
noncomputable def g62_1F {β : Type} (n : Nat) (s : FState) (cx : Cx β) : Option β := FX (g62_G n) n (nav g62_B [0]) (.fin none none (some g62_m1e) [] .leaf) s { cx with nrm := fun s => FX (g62_G n) n (nav g62_B [1, 0]) (.fin none none (some g62_m1e) [] .leaf) s { cx with nrm := fun s => FX (g62_G n) n (nav g62_B [1, 1, 0, 0]) (.fin none none (some g62_m1e) [] .leaf) s { cx with nrm := fun s => FX (g62_G n) n (nav g62_B [1, 1, 0, 1]) (.fin none none (some g62_m1e) [] .leaf) s { cx with nrm := fun s => FX (g62_G n) n (nav g62_B [1, 1, 1, 0]) (.fin none none (some g62_m1e) [] .leaf) s { cx with nrm := fun s => FX (g62_G n) n (nav g62_B [1, 1, 1, 1]) (.fin none none (some g62_m1e) [] .leaf) s cx } } } } }
theorem g62_1_fx {β : Type} (n : Nat) (cx : Cx β) (v0 : (Bool × (Int × (Int × (Nat × (Nat × (Int × Int))))))) : g62_1F n (g62_m0 v0) cx = g62_1 n (fun p2 => cx.ret (g62_m1 p2)) v0 := by kernel_rfl
noncomputable def g62 (n : Nat) (v0 : (Bool × (Int × (Int × (Nat × (Nat × (Int × Int))))))) : Option (DenR [.ptr (.pair (.int .i64) (.pair (.int .i64) (.pair (.int .i64) (.pair (.flt .f64) (.pair (.int .i64) (.pair (.int .i64) (.flt .f64))))))) 106]) := g62_1 n (fun p2 => some (p2, ())) v0
noncomputable def g62_A : List AK := [.dat (.pair .bool (.pair (.int .i64) (.pair (.int .i64) (.pair (.flt .f64) (.pair (.flt .f64) (.pair (.int .i64) (.int .i64)))))))]
noncomputable def g62_R : List RK := [.ptr (.pair (.int .i64) (.pair (.int .i64) (.pair (.int .i64) (.pair (.flt .f64) (.pair (.int .i64) (.pair (.int .i64) (.flt .f64))))))) 106]
noncomputable def g62_f (n : Nat) (d : DenA g62_A) : Option (DenR g62_R) := g62 n d.1
noncomputable def g62_S (n : Nat) : Spec := mkSpec g62_A g62_R (g62_f n)
noncomputable def g62_K : Sk := (.nd (.fin none none (some g62_m1e) [] .leaf) (.nd (.fin none none (some g62_m1e) [] .leaf) (.nd (.nd (.fin none none (some g62_m1e) [] .leaf) (.fin none none (some g62_m1e) [] .leaf)) (.nd (.fin none none (some g62_m1e) [] .leaf) (.fin none none (some g62_m1e) [] .leaf)))))
theorem g62_top {β : Type} (n : Nat) (s : FState) (cx : Cx β) : FX (g62_G n) n g62_B g62_K s cx = g62_1F n s cx := by kernel_rfl
theorem g62_fit (n : Nat) : Fit Tryd.prog 62 (g62_S n) :=
  fit_of (Γ := Γ0) (l := g62_C n) (n := n) (sk := g62_K) (ts := [(2, none)]) (fn := Tryd.f62) (c := g62_B) (by kernel_rfl) (by kernel_rfl) (by unfold Callable; kernel_rfl) tab_ok ⟨g89_fit n, g90_fit n, trivial⟩ follows_mixed (by kernel_rfl) (by kernel_rfl) (Nat.le_of_ble_eq_true (by kernel_rfl)) (by kernel_rfl) (by kernel_rfl)
    (fun d => (g62_top n _ _).trans (Eq.trans (b := g62_1F n (g62_m0 d.1) (finCx (g62_G n) g62_R [(2, none)])) (by kernel_rfl) ((g62_1_fx n _ d.1).trans (by kernel_rfl))))
noncomputable def g133_m0 (x0 : List Int) (x1 : List Int) : FState := ⟨tlist [(0, .sl 0 none false), (1, .sl 1 none false)], olist [(0, .row (.int .i32) 21 false x0), (1, .row (.int .i32) 21 false x1)]⟩
noncomputable def g133_m1 (v4 : Bool) : FState := ⟨tlist [(4, .dat .bool v4)], olist []⟩
noncomputable def g133_m1e : List NE := [.keep 4]
noncomputable def g133_m2 (x1 : List Int) (x12 : List Int) (v13 : Int) (v14 : Int) : FState := ⟨tlist [(1, .sl 1 none false), (12, .sl 12 none false), (13, .dat (.int .i64) v13), (14, .dat (.int .i64) v14)], olist [(1, .row (.int .i32) 21 false x1), (12, .row (.int .i32) 21 false x12)]⟩
noncomputable def g133_m2e : List NE := [.row 1 (.int .i32) 21 false, .row 12 (.int .i32) 21 false, .keep 13, .keep 14]
noncomputable def g133_m3 : FState := ⟨tlist [], olist []⟩
noncomputable def g133_m3e : List NE := []
noncomputable def g133_C (n : Nat) : List (Nat × Spec) := []
noncomputable def g133_G (n : Nat) : Ctx := { Γ0 with calls := lkS (g133_C n) }
noncomputable def g133_B : Code := fb Tryd.f133
noncomputable def g133_1 {β : Type} (n : Nat) (kn : List Int → List Int → Int → Int → Option β) (kr : Bool → Option β) (x0 : List Int) (x1 : List Int) : Option β := bif ((x0.length : Int) != (x1.length : Int)) then (kr false) else (kn x1 x0 (x0.length : Int) (0 : Int))
noncomputable def g133_1F {β : Type} (n : Nat) (s : FState) (cx : Cx β) : Option β := FX (g133_G n) n (nav g133_B [0]) (.fin none none (some g133_m1e) [] .leaf) s { cx with nrm := fun s => FX (g133_G n) n (nav g133_B [1, 0, 0]) (.fin none none (some g133_m1e) [] .leaf) s { cx with nrm := fun s => FX (g133_G n) n (nav g133_B [1, 0, 1]) (.fin none none (some g133_m1e) [] .leaf) s { cx with nrm := fun s => FX (g133_G n) n (nav g133_B [1, 1, 0, 0]) (.fin none (some g133_m2e) (some g133_m1e) [] .leaf) s cx } } }
theorem g133_1_fx {β : Type} (n : Nat) (cx : Cx β) (x0 : List Int) (x1 : List Int) : g133_1F n (g133_m0 x0 x1) cx = g133_1 n (fun x1 x12 v13 v14 => cx.nrm (g133_m2 x1 x12 v13 v14)) (fun v4 => cx.ret (g133_m1 v4)) x0 x1 := by kernel_rfl
noncomputable def g133_2 {β : Type} (n : Nat) (kn : List Int → List Int → Int → Int → Option β) (kr : Bool → Option β) (kx0 : Option β) (x1 : List Int) (x12 : List Int) (v13 : Int) (v14 : Int) : Option β := bif (decide (v14 < v13)) then (idx v14 (x12.length : Int) <| idx v14 (x1.length : Int) <| bif ((rd x12 v14 (0 : Int)) != (rd x1 v14 (0 : Int))) then (kr false) else (kn x1 x12 v13 (w64 (v14 + (1 : Int))))) else kx0
noncomputable def g133_2F {β : Type} (n : Nat) (s : FState) (cx : Cx β) : Option β := FX (g133_G n) n (nav g133_B [1, 1, 0, 1, 0, 0, 0]) (.fin none none (some g133_m1e) [(0, g133_m3e)] .leaf) s { cx with nrm := fun s => FX (g133_G n) n (nav g133_B [1, 1, 0, 1, 0, 0, 1, 0]) (.fin none none (some g133_m1e) [(0, g133_m3e)] .leaf) s { cx with nrm := fun s => FX (g133_G n) n (nav g133_B [1, 1, 0, 1, 0, 0, 1, 1, 0]) (.fin none none (some g133_m1e) [(0, g133_m3e)] .leaf) s { cx with nrm := fun s => FX (g133_G n) n (nav g133_B [1, 1, 0, 1, 0, 0, 1, 1, 1]) (.fin none (some g133_m2e) (some g133_m1e) [(0, g133_m3e)] .leaf) s cx } } }
theorem g133_2_fx {β : Type} (n : Nat) (cx : Cx β) (x1 : List Int) (x12 : List Int) (v13 : Int) (v14 : Int) : g133_2F n (g133_m2 x1 x12 v13 v14) cx = g133_2 n (fun x1 x12 v13 v14 => cx.nrm (g133_m2 x1 x12 v13 v14)) (fun v4 => cx.ret (g133_m1 v4)) (cx.ex 0 g133_m3) x1 x12 v13 v14 := by kernel_rfl
noncomputable def g133_3L {β : Type} (n : Nat) (kr : Bool → Option β) (kx0 : Option β) : Nat → List Int → List Int → Int → Int → Option β
  | 0, _, _, _, _ => none
  | m + 1, x1, x12, v13, v14 => g133_2 n (g133_3L n kr kx0 m) kr kx0 x1 x12 v13 v14
noncomputable def g133_3 {β : Type} (n : Nat) (kr : Bool → Option β) (kx0 : Option β) (x1 : List Int) (x12 : List Int) (v13 : Int) (v14 : Int) : Option β := g133_3L n kr kx0 n x1 x12 v13 v14
noncomputable def g133_3F {β : Type} (n : Nat) (s : FState) (cx : Cx β) : Option β := loopN (fun again s => g133_2F n s { cx with nrm := again }) n s
theorem g133_3L_fx {β : Type} (n : Nat) (cx : Cx β) : ∀ (m : Nat) (x1 : List Int) (x12 : List Int) (v13 : Int) (v14 : Int), loopN (fun again s => g133_2F n s { cx with nrm := again }) m (g133_m2 x1 x12 v13 v14) = g133_3L n (fun v4 => cx.ret (g133_m1 v4)) (cx.ex 0 g133_m3) m x1 x12 v13 v14 := by
  intro m
  induction m with
  | zero => intros; rfl
  | succ m ih => intros; simp only [loopN, g133_3L, g133_2_fx, ih]
theorem g133_3_fx {β : Type} (n : Nat) (cx : Cx β) (x1 : List Int) (x12 : List Int) (v13 : Int) (v14 : Int) : g133_3F n (g133_m2 x1 x12 v13 v14) cx = g133_3 n (fun v4 => cx.ret (g133_m1 v4)) (cx.ex 0 g133_m3) x1 x12 v13 v14 := g133_3L_fx n cx n x1 x12 v13 v14
noncomputable def g133_4 {β : Type} (n : Nat) (kn : Option β) (kr : Bool → Option β) (x1 : List Int) (x12 : List Int) (v13 : Int) (v14 : Int) : Option β := g133_3 n kr kn x1 x12 v13 v14
noncomputable def g133_4F {β : Type} (n : Nat) (s : FState) (cx : Cx β) : Option β := g133_3F n s { cx with ex := fun j s => bif Nat.beq j 0 then cx.nrm s else cx.ex j s }
theorem g133_4_fx {β : Type} (n : Nat) (cx : Cx β) (x1 : List Int) (x12 : List Int) (v13 : Int) (v14 : Int) : g133_4F n (g133_m2 x1 x12 v13 v14) cx = g133_4 n (cx.nrm g133_m3) (fun v4 => cx.ret (g133_m1 v4)) x1 x12 v13 v14 := g133_3_fx n _ x1 x12 v13 v14
noncomputable def g133_5 {β : Type} (n : Nat) (kr : Bool → Option β) : Option β := kr true
noncomputable def g133_5F {β : Type} (n : Nat) (s : FState) (cx : Cx β) : Option β := FX (g133_G n) n (nav g133_B [1, 1, 1, 0]) (.fin none none (some g133_m1e) [] .leaf) s { cx with nrm := fun s => FX (g133_G n) n (nav g133_B [1, 1, 1, 1]) (.fin none none (some g133_m1e) [] .leaf) s cx }
theorem g133_5_fx {β : Type} (n : Nat) (cx : Cx β) : g133_5F n g133_m3 cx = g133_5 n (fun v4 => cx.ret (g133_m1 v4)) := by kernel_rfl
noncomputable def g133_6 {β : Type} (n : Nat) (kr : Bool → Option β) (x0 : List Int) (x1 : List Int) : Option β := g133_1 n (fun x1 x12 v13 v14 => g133_4 n (g133_5 n kr) kr x1 x12 v13 v14) kr x0 x1
noncomputable def g133_6F {β : Type} (n : Nat) (s : FState) (cx : Cx β) : Option β := g133_1F n s { cx with nrm := fun s => g133_4F n s { cx with nrm := fun s => g133_5F n s cx } }
theorem g133_6_fx {β : Type} (n : Nat) (cx : Cx β) (x0 : List Int) (x1 : List Int) : g133_6F n (g133_m0 x0 x1) cx = g133_6 n (fun v4 => cx.ret (g133_m1 v4)) x0 x1 := by simp only [g133_6F, g133_6, g133_1_fx, g133_4_fx, g133_5_fx]
noncomputable def g133 (n : Nat) (x0 : List Int) (x1 : List Int) : Option (DenR [.dat .bool]) := g133_6 n (fun v4 => some (v4, ())) x0 x1
noncomputable def g133_A : List AK := [.ro (.int .i32) 21, .ro (.int .i32) 21]
noncomputable def g133_R : List RK := [.dat .bool]
noncomputable def g133_f (n : Nat) (d : DenA g133_A) : Option (DenR g133_R) := g133 n d.1 d.2.1
noncomputable def g133_S (n : Nat) : Spec := mkSpec g133_A g133_R (g133_f n)
noncomputable def g133_K : Sk := (.nd (.fin none none (some g133_m1e) [] .leaf) (.nd (.nd (.fin none none (some g133_m1e) [] .leaf) (.fin none none (some g133_m1e) [] .leaf)) (.nd (.nd (.fin none (some g133_m2e) (some g133_m1e) [] .leaf) (.nd (.nd (.nd (.fin none none (some g133_m1e) [(0, g133_m3e)] .leaf) (.nd (.fin none none (some g133_m1e) [(0, g133_m3e)] .leaf) (.nd (.fin none none (some g133_m1e) [(0, g133_m3e)] .leaf) (.fin none (some g133_m2e) (some g133_m1e) [(0, g133_m3e)] .leaf)))) .leaf) .leaf)) (.nd (.fin none none (some g133_m1e) [] .leaf) (.fin none none (some g133_m1e) [] .leaf)))))
theorem g133_top {β : Type} (n : Nat) (s : FState) (cx : Cx β) : FX (g133_G n) n g133_B g133_K s cx = g133_6F n s cx := by kernel_rfl
theorem g133_fit (n : Nat) : Fit Tryd.prog 133 (g133_S n) :=
  fit_of (Γ := Γ0) (l := g133_C n) (n := n) (sk := g133_K) (ts := [(4, none)]) (fn := Tryd.f133) (c := g133_B) (by kernel_rfl) (by kernel_rfl) (by unfold Callable; kernel_rfl) tab_ok trivial follows_mixed (by kernel_rfl) (by kernel_rfl) (Nat.le_of_ble_eq_true (by kernel_rfl)) (by kernel_rfl) (by kernel_rfl)
    (fun d => (g133_top n _ _).trans (Eq.trans (b := g133_6F n (g133_m0 d.1 d.2.1) (finCx (g133_G n) g133_R [(4, none)])) (by kernel_rfl) ((g133_6_fx n _ d.1 d.2.1).trans (by kernel_rfl))))
noncomputable def g134_m0 (x0 : List Int) (x1 : List Int) : FState := ⟨tlist [(0, .sl 0 none false), (1, .sl 1 none false)], olist [(0, .row (.int .i32) 21 false x0), (1, .row (.int .i32) 21 false x1)]⟩
noncomputable def g134_m1 (v4 : Int) : FState := ⟨tlist [(4, .dat (.int .i64) v4)], olist []⟩
noncomputable def g134_m1e : List NE := [.keep 4]
noncomputable def g134_m2 (x0 : List Int) (x1 : List Int) (v5 : Int) : FState := ⟨tlist [(0, .sl 0 none false), (1, .sl 1 none false), (5, .dat (.int .i64) v5)], olist [(0, .row (.int .i32) 21 false x0), (1, .row (.int .i32) 21 false x1)]⟩
noncomputable def g134_m2e : List NE := [.row 0 (.int .i32) 21 false, .row 1 (.int .i32) 21 false, .keep 5]
noncomputable def g134_m3 (v5 : Int) : FState := ⟨tlist [(5, .dat (.int .i64) v5)], olist []⟩
noncomputable def g134_m3e : List NE := [.keep 5]
noncomputable def g134_C (n : Nat) : List (Nat × Spec) := []
noncomputable def g134_G (n : Nat) : Ctx := { Γ0 with calls := lkS (g134_C n) }
noncomputable def g134_B : Code := fb Tryd.f134
noncomputable def g134_1 {β : Type} (n : Nat) (kn : List Int → List Int → Int → Option β) (x0 : List Int) (x1 : List Int) : Option β := kn x0 x1 (0 : Int)
noncomputable def g134_1F {β : Type} (n : Nat) (s : FState) (cx : Cx β) : Option β := FX (g134_G n) n (nav g134_B [0]) (.fin none none none [] .leaf) s { cx with nrm := fun s => FX (g134_G n) n (nav g134_B [1, 0]) (.fin none (some g134_m2e) none [] .leaf) s cx }
theorem g134_1_fx {β : Type} (n : Nat) (cx : Cx β) (x0 : List Int) (x1 : List Int) : g134_1F n (g134_m0 x0 x1) cx = g134_1 n (fun x0 x1 v5 => cx.nrm (g134_m2 x0 x1 v5)) x0 x1 := by kernel_rfl
noncomputable def g134_2 {β : Type} (n : Nat) (kn : List Int → List Int → Int → Option β) (kr : Int → Option β) (kx0 : Int → Option β) (x0 : List Int) (x1 : List Int) (v5 : Int) : Option β := bif (decide (v5 < (x0.length : Int))) then (bif (decide (v5 < (x1.length : Int))) then (idx v5 (x0.length : Int) <| idx v5 (x1.length : Int) <| bif ((rd x0 v5 (0 : Int)) != (rd x1 v5 (0 : Int))) then (kr v5) else (kn x0 x1 (w64 (v5 + (1 : Int))))) else (kx0 v5)) else (kx0 v5)
noncomputable def g134_2F {β : Type} (n : Nat) (s : FState) (cx : Cx β) : Option β := FX (g134_G n) n (nav g134_B [1, 1, 0, 0, 0, 0, 0]) (.fin none none (some g134_m1e) [(0, g134_m3e)] .leaf) s { cx with nrm := fun s => FX (g134_G n) n (nav g134_B [1, 1, 0, 0, 0, 0, 1]) (.fin none none (some g134_m1e) [(0, g134_m3e)] .leaf) s { cx with nrm := fun s => FX (g134_G n) n (nav g134_B [1, 1, 0, 0, 0, 1, 0]) (.fin none none (some g134_m1e) [(0, g134_m3e)] .leaf) s { cx with nrm := fun s => FX (g134_G n) n (nav g134_B [1, 1, 0, 0, 0, 1, 1]) (.fin none (some g134_m2e) (some g134_m1e) [(0, g134_m3e)] .leaf) s cx } } }
theorem g134_2_fx {β : Type} (n : Nat) (cx : Cx β) (x0 : List Int) (x1 : List Int) (v5 : Int) : g134_2F n (g134_m2 x0 x1 v5) cx = g134_2 n (fun x0 x1 v5 => cx.nrm (g134_m2 x0 x1 v5)) (fun v4 => cx.ret (g134_m1 v4)) (fun v5 => cx.ex 0 (g134_m3 v5)) x0 x1 v5 := by kernel_rfl
noncomputable def g134_3L {β : Type} (n : Nat) (kr : Int → Option β) (kx0 : Int → Option β) : Nat → List Int → List Int → Int → Option β
  | 0, _, _, _ => none
  | m + 1, x0, x1, v5 => g134_2 n (g134_3L n kr kx0 m) kr kx0 x0 x1 v5
noncomputable def g134_3 {β : Type} (n : Nat) (kr : Int → Option β) (kx0 : Int → Option β) (x0 : List Int) (x1 : List Int) (v5 : Int) : Option β := g134_3L n kr kx0 n x0 x1 v5
noncomputable def g134_3F {β : Type} (n : Nat) (s : FState) (cx : Cx β) : Option β := loopN (fun again s => g134_2F n s { cx with nrm := again }) n s
theorem g134_3L_fx {β : Type} (n : Nat) (cx : Cx β) : ∀ (m : Nat) (x0 : List Int) (x1 : List Int) (v5 : Int), loopN (fun again s => g134_2F n s { cx with nrm := again }) m (g134_m2 x0 x1 v5) = g134_3L n (fun v4 => cx.ret (g134_m1 v4)) (fun v5 => cx.ex 0 (g134_m3 v5)) m x0 x1 v5 := by
  intro m
  induction m with
  | zero => intros; rfl
  | succ m ih => intros; simp only [loopN, g134_3L, g134_2_fx, ih]
theorem g134_3_fx {β : Type} (n : Nat) (cx : Cx β) (x0 : List Int) (x1 : List Int) (v5 : Int) : g134_3F n (g134_m2 x0 x1 v5) cx = g134_3 n (fun v4 => cx.ret (g134_m1 v4)) (fun v5 => cx.ex 0 (g134_m3 v5)) x0 x1 v5 := g134_3L_fx n cx n x0 x1 v5
noncomputable def g134_4 {β : Type} (n : Nat) (kn : Int → Option β) (kr : Int → Option β) (x0 : List Int) (x1 : List Int) (v5 : Int) : Option β := g134_3 n kr kn x0 x1 v5
noncomputable def g134_4F {β : Type} (n : Nat) (s : FState) (cx : Cx β) : Option β := g134_3F n s { cx with ex := fun j s => bif Nat.beq j 0 then cx.nrm s else cx.ex j s }
theorem g134_4_fx {β : Type} (n : Nat) (cx : Cx β) (x0 : List Int) (x1 : List Int) (v5 : Int) : g134_4F n (g134_m2 x0 x1 v5) cx = g134_4 n (fun v5 => cx.nrm (g134_m3 v5)) (fun v4 => cx.ret (g134_m1 v4)) x0 x1 v5 := g134_3_fx n _ x0 x1 v5
noncomputable def g134_5 {β : Type} (n : Nat) (kr : Int → Option β) (v5 : Int) : Option β := kr v5
noncomputable def g134_5F {β : Type} (n : Nat) (s : FState) (cx : Cx β) : Option β := FX (g134_G n) n (nav g134_B [1, 1, 1, 0]) (.fin none none (some g134_m1e) [] .leaf) s { cx with nrm := fun s => FX (g134_G n) n (nav g134_B [1, 1, 1, 1]) (.fin none none (some g134_m1e) [] .leaf) s cx }
theorem g134_5_fx {β : Type} (n : Nat) (cx : Cx β) (v5 : Int) : g134_5F n (g134_m3 v5) cx = g134_5 n (fun v4 => cx.ret (g134_m1 v4)) v5 := by kernel_rfl
noncomputable def g134_6 {β : Type} (n : Nat) (kr : Int → Option β) (x0 : List Int) (x1 : List Int) : Option β := g134_1 n (fun x0 x1 v5 => g134_4 n (fun v5 => g134_5 n kr v5) kr x0 x1 v5) x0 x1
noncomputable def g134_6F {β : Type} (n : Nat) (s : FState) (cx : Cx β) : Option β := g134_1F n s { cx with nrm := fun s => g134_4F n s { cx with nrm := fun s => g134_5F n s cx } }
theorem g134_6_fx {β : Type} (n : Nat) (cx : Cx β) (x0 : List Int) (x1 : List Int) : g134_6F n (g134_m0 x0 x1) cx = g134_6 n (fun v4 => cx.ret (g134_m1 v4)) x0 x1 := by simp only [g134_6F, g134_6, g134_1_fx, g134_4_fx, g134_5_fx]
noncomputable def g134 (n : Nat) (x0 : List Int) (x1 : List Int) : Option (DenR [.dat (.int .i64)]) := g134_6 n (fun v4 => some (v4, ())) x0 x1
noncomputable def g134_A : List AK := [.ro (.int .i32) 21, .ro (.int .i32) 21]
noncomputable def g134_R : List RK := [.dat (.int .i64)]
noncomputable def g134_f (n : Nat) (d : DenA g134_A) : Option (DenR g134_R) := g134 n d.1 d.2.1
noncomputable def g134_S (n : Nat) : Spec := mkSpec g134_A g134_R (g134_f n)
noncomputable def g134_K : Sk := (.nd (.fin none none none [] .leaf) (.nd (.fin none (some g134_m2e) none [] .leaf) (.nd (.nd (.nd (.nd (.nd (.fin none none (some g134_m1e) [(0, g134_m3e)] .leaf) (.fin none none (some g134_m1e) [(0, g134_m3e)] .leaf)) (.nd (.fin none none (some g134_m1e) [(0, g134_m3e)] .leaf) (.fin none (some g134_m2e) (some g134_m1e) [(0, g134_m3e)] .leaf))) .leaf) .leaf) (.nd (.fin none none (some g134_m1e) [] .leaf) (.fin none none (some g134_m1e) [] .leaf)))))
theorem g134_top {β : Type} (n : Nat) (s : FState) (cx : Cx β) : FX (g134_G n) n g134_B g134_K s cx = g134_6F n s cx := by kernel_rfl
theorem g134_fit (n : Nat) : Fit Tryd.prog 134 (g134_S n) :=
  fit_of (Γ := Γ0) (l := g134_C n) (n := n) (sk := g134_K) (ts := [(4, none)]) (fn := Tryd.f134) (c := g134_B) (by kernel_rfl) (by kernel_rfl) (by unfold Callable; kernel_rfl) tab_ok trivial follows_mixed (by kernel_rfl) (by kernel_rfl) (Nat.le_of_ble_eq_true (by kernel_rfl)) (by kernel_rfl) (by kernel_rfl)
    (fun d => (g134_top n _ _).trans (Eq.trans (b := g134_6F n (g134_m0 d.1 d.2.1) (finCx (g134_G n) g134_R [(4, none)])) (by kernel_rfl) ((g134_6_fx n _ d.1 d.2.1).trans (by kernel_rfl))))
noncomputable def g135_m0 (x0 : List Int) (x1 : List Int) : FState := ⟨tlist [(0, .sl 0 none false), (1, .sl 1 none false)], olist [(0, .row (.int .i32) 21 false x0), (1, .row (.int .i32) 21 false x1)]⟩
noncomputable def g135_m1 (v4 : Int) : FState := ⟨tlist [(4, .dat (.int .i64) v4)], olist []⟩
noncomputable def g135_m1e : List NE := [.keep 4]
noncomputable def g135_m2 (x0 : List Int) (x1 : List Int) (v5 : Int) (v6 : Int) (v7 : Int) : FState := ⟨tlist [(0, .sl 0 none false), (1, .sl 1 none false), (5, .dat (.int .i64) v5), (6, .dat (.int .i64) v6), (7, .dat (.int .i64) v7)], olist [(0, .row (.int .i32) 21 false x0), (1, .row (.int .i32) 21 false x1)]⟩
noncomputable def g135_m2e : List NE := [.row 0 (.int .i32) 21 false, .row 1 (.int .i32) 21 false, .keep 5, .keep 6, .keep 7]
noncomputable def g135_C (n : Nat) : List (Nat × Spec) := []
noncomputable def g135_G (n : Nat) : Ctx := { Γ0 with calls := lkS (g135_C n) }
noncomputable def g135_B : Code := fb Tryd.f135
noncomputable def g135_1 {β : Type} (n : Nat) (kn : List Int → List Int → Int → Int → Int → Option β) (x0 : List Int) (x1 : List Int) : Option β := kn x0 x1 (x0.length : Int) (x1.length : Int) (0 : Int)
noncomputable def g135_1F {β : Type} (n : Nat) (s : FState) (cx : Cx β) : Option β := FX (g135_G n) n (nav g135_B [0]) (.fin none none none [] .leaf) s { cx with nrm := fun s => FX (g135_G n) n (nav g135_B [1, 0]) (.fin none none none [] .leaf) s { cx with nrm := fun s => FX (g135_G n) n (nav g135_B [1, 1, 0]) (.fin none none none [] .leaf) s { cx with nrm := fun s => FX (g135_G n) n (nav g135_B [1, 1, 1, 0]) (.fin none (some g135_m2e) none [] .leaf) s cx } } }
theorem g135_1_fx {β : Type} (n : Nat) (cx : Cx β) (x0 : List Int) (x1 : List Int) : g135_1F n (g135_m0 x0 x1) cx = g135_1 n (fun x0 x1 v5 v6 v7 => cx.nrm (g135_m2 x0 x1 v5 v6 v7)) x0 x1 := by kernel_rfl
noncomputable def g135_2 {β : Type} (n : Nat) (kn : List Int → List Int → Int → Int → Int → Option β) (kr : Int → Option β) (x0 : List Int) (x1 : List Int) (v5 : Int) (v6 : Int) (v7 : Int) : Option β := bif (decide ((w64 (v5 - (1 : Int))) < (0 : Int))) then (kr v7) else (bif (decide ((w64 (v6 - (1 : Int))) < (0 : Int))) then (kr v7) else (idx (w64 (v5 - (1 : Int))) (x0.length : Int) <| idx (w64 (v6 - (1 : Int))) (x1.length : Int) <| bif ((rd x0 (w64 (v5 - (1 : Int))) (0 : Int)) != (rd x1 (w64 (v6 - (1 : Int))) (0 : Int))) then (kr v7) else (kn x0 x1 (w64 (v5 - (1 : Int))) (w64 (v6 - (1 : Int))) (w64 (v7 + (1 : Int))))))
noncomputable def g135_2F {β : Type} (n : Nat) (s : FState) (cx : Cx β) : Option β := FX (g135_G n) n (nav g135_B [1, 1, 1, 1, 0, 0, 0]) (.fin none none (some g135_m1e) [] .leaf) s { cx with nrm := fun s => FX (g135_G n) n (nav g135_B [1, 1, 1, 1, 0, 0, 1]) (.fin none (some g135_m2e) (some g135_m1e) [] .leaf) s cx }
theorem g135_2_fx {β : Type} (n : Nat) (cx : Cx β) (x0 : List Int) (x1 : List Int) (v5 : Int) (v6 : Int) (v7 : Int) : g135_2F n (g135_m2 x0 x1 v5 v6 v7) cx = g135_2 n (fun x0 x1 v5 v6 v7 => cx.nrm (g135_m2 x0 x1 v5 v6 v7)) (fun v4 => cx.ret (g135_m1 v4)) x0 x1 v5 v6 v7 := by kernel_rfl
noncomputable def g135_3L {β : Type} (n : Nat) (kr : Int → Option β) : Nat → List Int → List Int → Int → Int → Int → Option β
  | 0, _, _, _, _, _ => none
  | m + 1, x0, x1, v5, v6, v7 => g135_2 n (g135_3L n kr m) kr x0 x1 v5 v6 v7
noncomputable def g135_3 {β : Type} (n : Nat) (kr : Int → Option β) (x0 : List Int) (x1 : List Int) (v5 : Int) (v6 : Int) (v7 : Int) : Option β := g135_3L n kr n x0 x1 v5 v6 v7
noncomputable def g135_3F {β : Type} (n : Nat) (s : FState) (cx : Cx β) : Option β := loopN (fun again s => g135_2F n s { cx with nrm := again }) n s
theorem g135_3L_fx {β : Type} (n : Nat) (cx : Cx β) : ∀ (m : Nat) (x0 : List Int) (x1 : List Int) (v5 : Int) (v6 : Int) (v7 : Int), loopN (fun again s => g135_2F n s { cx with nrm := again }) m (g135_m2 x0 x1 v5 v6 v7) = g135_3L n (fun v4 => cx.ret (g135_m1 v4)) m x0 x1 v5 v6 v7 := by
  intro m
  induction m with
  | zero => intros; rfl
  | succ m ih => intros; simp only [loopN, g135_3L, g135_2_fx, ih]
theorem g135_3_fx {β : Type} (n : Nat) (cx : Cx β) (x0 : List Int) (x1 : List Int) (v5 : Int) (v6 : Int) (v7 : Int) : g135_3F n (g135_m2 x0 x1 v5 v6 v7) cx = g135_3 n (fun v4 => cx.ret (g135_m1 v4)) x0 x1 v5 v6 v7 := g135_3L_fx n cx n x0 x1 v5 v6 v7
noncomputable def g135_4 {β : Type} (n : Nat) (kr : Int → Option β) (x0 : List Int) (x1 : List Int) (v5 : Int) (v6 : Int) (v7 : Int) : Option β := g135_3 n kr x0 x1 v5 v6 v7
noncomputable def g135_4F {β : Type} (n : Nat) (s : FState) (cx : Cx β) : Option β := g135_3F n s { cx with ex := fun j s => bif Nat.beq j 0 then cx.nrm s else cx.ex j s }
theorem g135_4_fx {β : Type} (n : Nat) (cx : Cx β) (x0 : List Int) (x1 : List Int) (v5 : Int) (v6 : Int) (v7 : Int) : g135_4F n (g135_m2 x0 x1 v5 v6 v7) cx = g135_4 n (fun v4 => cx.ret (g135_m1 v4)) x0 x1 v5 v6 v7 := g135_3_fx n _ x0 x1 v5 v6 v7
noncomputable def g135_5 {β : Type} (n : Nat) (kr : Int → Option β) (x0 : List Int) (x1 : List Int) : Option β := g135_1 n (fun x0 x1 v5 v6 v7 => g135_4 n kr x0 x1 v5 v6 v7) x0 x1
noncomputable def g135_5F {β : Type} (n : Nat) (s : FState) (cx : Cx β) : Option β := g135_1F n s { cx with nrm := fun s => g135_4F n s cx }
theorem g135_5_fx {β : Type} (n : Nat) (cx : Cx β) (x0 : List Int) (x1 : List Int) : g135_5F n (g135_m0 x0 x1) cx = g135_5 n (fun v4 => cx.ret (g135_m1 v4)) x0 x1 := by simp only [g135_5F, g135_5, g135_1_fx, g135_4_fx]
noncomputable def g135 (n : Nat) (x0 : List Int) (x1 : List Int) : Option (DenR [.dat (.int .i64)]) := g135_5 n (fun v4 => some (v4, ())) x0 x1
noncomputable def g135_A : List AK := [.ro (.int .i32) 21, .ro (.int .i32) 21]
noncomputable def g135_R : List RK := [.dat (.int .i64)]
noncomputable def g135_f (n : Nat) (d : DenA g135_A) : Option (DenR g135_R) := g135 n d.1 d.2.1
noncomputable def g135_S (n : Nat) : Spec := mkSpec g135_A g135_R (g135_f n)
noncomputable def g135_K : Sk := (.nd (.fin none none none [] .leaf) (.nd (.fin none none none [] .leaf) (.nd (.fin none none none [] .leaf) (.nd (.fin none (some g135_m2e) none [] .leaf) (.nd (.nd (.nd (.fin none none (some g135_m1e) [] .leaf) (.fin none (some g135_m2e) (some g135_m1e) [] .leaf)) .leaf) .leaf)))))
theorem g135_top {β : Type} (n : Nat) (s : FState) (cx : Cx β) : FX (g135_G n) n g135_B g135_K s cx = g135_5F n s cx := by kernel_rfl
theorem g135_fit (n : Nat) : Fit Tryd.prog 135 (g135_S n) :=
  fit_of (Γ := Γ0) (l := g135_C n) (n := n) (sk := g135_K) (ts := [(4, none)]) (fn := Tryd.f135) (c := g135_B) (by kernel_rfl) (by kernel_rfl) (by unfold Callable; kernel_rfl) tab_ok trivial follows_mixed (by kernel_rfl) (by kernel_rfl) (Nat.le_of_ble_eq_true (by kernel_rfl)) (by kernel_rfl) (by kernel_rfl)
    (fun d => (g135_top n _ _).trans (Eq.trans (b := g135_5F n (g135_m0 d.1 d.2.1) (finCx (g135_G n) g135_R [(4, none)])) (by kernel_rfl) ((g135_5_fx n _ d.1 d.2.1).trans (by kernel_rfl))))
noncomputable def g113_m0 (x0 : List (Int × ByteArray)) (v1 : Int) (v2 : Int) (x3 : List (Int × ByteArray)) : FState := ⟨tlist [(0, .sl 0 none false), (1, .dat (.int .i64) v1), (2, .dat (.int .i64) v2), (3, .sl 3 none false)], olist [(0, .row (.pair (.int .i8) .str) 115 true x0), (3, .row (.pair (.int .i8) .str) 115 false x3)]⟩
noncomputable def g113_m1 (x8 : List (Int × ByteArray)) : FState := ⟨tlist [(8, .sl 8 none false)], olist [(8, .row (.pair (.int .i8) .str) 115 true x8)]⟩
noncomputable def g113_m1e : List NE := [.row 8 (.pair (.int .i8) .str) 115 true]
noncomputable def g113_m2 (x0 : List (Int × ByteArray)) (v1 : Int) (v2 : Int) (x3 : List (Int × ByteArray)) (v26 : Bool) : FState := ⟨tlist [(0, .sl 0 none false), (1, .dat (.int .i64) v1), (2, .dat (.int .i64) v2), (3, .sl 3 none false), (26, .dat .bool v26)], olist [(0, .row (.pair (.int .i8) .str) 115 true x0), (3, .row (.pair (.int .i8) .str) 115 false x3)]⟩
noncomputable def g113_m2e : List NE := [.row 0 (.pair (.int .i8) .str) 115 true, .keep 1, .keep 2, .row 3 (.pair (.int .i8) .str) 115 false, .keep 26]
noncomputable def g113_m3 (x0 : List (Int × ByteArray)) (v1 : Int) (v2 : Int) (x3 : List (Int × ByteArray)) : FState := ⟨tlist [(0, .sl 0 none false), (1, .dat (.int .i64) v1), (2, .dat (.int .i64) v2), (3, .sl 3 none false)], olist [(0, .row (.pair (.int .i8) .str) 115 true x0), (3, .row (.pair (.int .i8) .str) 115 false x3)]⟩
noncomputable def g113_m3e : List NE := [.row 0 (.pair (.int .i8) .str) 115 true, .keep 1, .keep 2, .row 3 (.pair (.int .i8) .str) 115 false]
noncomputable def g113_m4 (x0 : List (Int × ByteArray)) (v9 : Int) (o10 : Int) (l10 : Int) (v55 : Int) (v56 : Int) : FState := ⟨tlist [(0, .sl 0 none false), (9, .dat (.int .i64) v9), (10, .sl 0 (some (o10, l10)) false), (55, .dat (.int .i64) v55), (56, .dat (.int .i64) v56)], olist [(0, .row (.pair (.int .i8) .str) 115 true x0)]⟩
noncomputable def g113_m4e : List NE := [.row 0 (.pair (.int .i8) .str) 115 true, .keep 9, .row 10 (.pair (.int .i8) .str) 115 true, .keep 55, .keep 56]
noncomputable def g113_m5 (x0 : List (Int × ByteArray)) (v9 : Int) : FState := ⟨tlist [(0, .sl 0 none false), (9, .dat (.int .i64) v9)], olist [(0, .row (.pair (.int .i8) .str) 115 true x0)]⟩
noncomputable def g113_m5e : List NE := [.row 0 (.pair (.int .i8) .str) 115 true, .keep 9]
noncomputable def g113_m6 (x0 : List (Int × ByteArray)) (v1 : Int) (v2 : Int) (x3 : List (Int × ByteArray)) (v12 : Int) : FState := ⟨tlist [(0, .sl 0 none false), (1, .dat (.int .i64) v1), (2, .dat (.int .i64) v2), (3, .sl 3 none false), (12, .dat (.int .i64) v12)], olist [(0, .row (.pair (.int .i8) .str) 115 true x0), (3, .row (.pair (.int .i8) .str) 115 false x3)]⟩
noncomputable def g113_m6e : List NE := [.row 0 (.pair (.int .i8) .str) 115 true, .keep 1, .keep 2, .row 3 (.pair (.int .i8) .str) 115 false, .keep 12]
noncomputable def g113_m7 (x0 : List (Int × ByteArray)) (v1 : Int) (v2 : Int) (x3 : List (Int × ByteArray)) : FState := ⟨tlist [(0, .sl 0 none false), (1, .dat (.int .i64) v1), (2, .dat (.int .i64) v2), (3, .sl 3 none false)], olist [(0, .row (.pair (.int .i8) .str) 115 true x0), (3, .row (.pair (.int .i8) .str) 115 false x3)]⟩
noncomputable def g113_m7e : List NE := [.row 0 (.pair (.int .i8) .str) 115 true, .keep 1, .keep 2, .row 3 (.pair (.int .i8) .str) 115 false]
noncomputable def g113_C (n : Nat) : List (Nat × Spec) := []
noncomputable def g113_G (n : Nat) : Ctx := { Γ0 with calls := lkS (g113_C n) }
noncomputable def g113_B : Code := fb Tryd.f113
noncomputable def g113_1 {β : Type} (n : Nat) (kn : List (Int × ByteArray) → Int → Int → List (Int × ByteArray) → Bool → Option β) (kr : List (Int × ByteArray) → Option β) (x0 : List (Int × ByteArray)) (v1 : Int) (v2 : Int) (x3 : List (Int × ByteArray)) : Option β := bif ((x3.length : Int) == v2) then (bnd v1 (x0.length : Int) (x0.length : Int) <| kr (pasted x0 (v1 + (0 : Int)) ((x0.length : Int) - v1) x3)) else (kn x0 v1 v2 x3 (decide ((x3.length : Int) < v2)))
noncomputable def g113_1F {β : Type} (n : Nat) (s : FState) (cx : Cx β) : Option β := FX (g113_G n) n (nav g113_B [0]) (.fin none none (some g113_m1e) [] .leaf) s { cx with nrm := fun s => FX (g113_G n) n (nav g113_B [1, 0, 0]) (.fin none none (some g113_m1e) [] .leaf) s { cx with nrm := fun s => FX (g113_G n) n (nav g113_B [1, 0, 1]) (.fin none none (some g113_m1e) [] .leaf) s { cx with nrm := fun s => FX (g113_G n) n (nav g113_B [1, 1, 0, 0]) (.fin none (some g113_m2e) (some g113_m1e) [] .leaf) s cx } } }
theorem g113_1_fx {β : Type} (n : Nat) (cx : Cx β) (x0 : List (Int × ByteArray)) (v1 : Int) (v2 : Int) (x3 : List (Int × ByteArray)) : g113_1F n (g113_m0 x0 v1 v2 x3) cx = g113_1 n (fun x0 v1 v2 x3 v26 => cx.nrm (g113_m2 x0 v1 v2 x3 v26)) (fun x8 => cx.ret (g113_m1 x8)) x0 v1 v2 x3 := by kernel_rfl
noncomputable def g113_2 {β : Type} (n : Nat) (kn : List (Int × ByteArray) → Int → Int → Int → Int → Int → Option β) (x0 : List (Int × ByteArray)) (v1 : Int) (v2 : Int) (x3 : List (Int × ByteArray)) (v26 : Bool) : Option β := bnd v1 (x0.length : Int) (x0.length : Int) <| bnd (w64 (v1 + (x3.length : Int))) ((pasted x0 (v1 + (0 : Int)) ((x0.length : Int) - v1) x3).length : Int) ((pasted x0 (v1 + (0 : Int)) ((x0.length : Int) - v1) x3).length : Int) <| bnd (w64 (v1 + v2)) ((pasted x0 (v1 + (0 : Int)) ((x0.length : Int) - v1) x3).length : Int) ((pasted x0 (v1 + (0 : Int)) ((x0.length : Int) - v1) x3).length : Int) <| bnd (w64 ((w64 (((pasted (pasted x0 (v1 + (0 : Int)) ((x0.length : Int) - v1) x3) ((w64 (v1 + (x3.length : Int))) + (0 : Int)) (((pasted x0 (v1 + (0 : Int)) ((x0.length : Int) - v1) x3).length : Int) - (w64 (v1 + (x3.length : Int)))) (cut (pasted x0 (v1 + (0 : Int)) ((x0.length : Int) - v1) x3) (w64 (v1 + v2)) ((w64 (v1 + v2)) + (((pasted x0 (v1 + (0 : Int)) ((x0.length : Int) - v1) x3).length : Int) - (w64 (v1 + v2)))))).length : Int) - v2)) + (x3.length : Int))) ((pasted (pasted x0 (v1 + (0 : Int)) ((x0.length : Int) - v1) x3) ((w64 (v1 + (x3.length : Int))) + (0 : Int)) (((pasted x0 (v1 + (0 : Int)) ((x0.length : Int) - v1) x3).length : Int) - (w64 (v1 + (x3.length : Int)))) (cut (pasted x0 (v1 + (0 : Int)) ((x0.length : Int) - v1) x3) (w64 (v1 + v2)) ((w64 (v1 + v2)) + (((pasted x0 (v1 + (0 : Int)) ((x0.length : Int) - v1) x3).length : Int) - (w64 (v1 + v2)))))).length : Int) ((pasted (pasted x0 (v1 + (0 : Int)) ((x0.length : Int) - v1) x3) ((w64 (v1 + (x3.length : Int))) + (0 : Int)) (((pasted x0 (v1 + (0 : Int)) ((x0.length : Int) - v1) x3).length : Int) - (w64 (v1 + (x3.length : Int)))) (cut (pasted x0 (v1 + (0 : Int)) ((x0.length : Int) - v1) x3) (w64 (v1 + v2)) ((w64 (v1 + v2)) + (((pasted x0 (v1 + (0 : Int)) ((x0.length : Int) - v1) x3).length : Int) - (w64 (v1 + v2)))))).length : Int) <| kn (pasted (pasted x0 (v1 + (0 : Int)) ((x0.length : Int) - v1) x3) ((w64 (v1 + (x3.length : Int))) + (0 : Int)) (((pasted x0 (v1 + (0 : Int)) ((x0.length : Int) - v1) x3).length : Int) - (w64 (v1 + (x3.length : Int)))) (cut (pasted x0 (v1 + (0 : Int)) ((x0.length : Int) - v1) x3) (w64 (v1 + v2)) ((w64 (v1 + v2)) + (((pasted x0 (v1 + (0 : Int)) ((x0.length : Int) - v1) x3).length : Int) - (w64 (v1 + v2)))))) (w64 ((w64 (((pasted (pasted x0 (v1 + (0 : Int)) ((x0.length : Int) - v1) x3) ((w64 (v1 + (x3.length : Int))) + (0 : Int)) (((pasted x0 (v1 + (0 : Int)) ((x0.length : Int) - v1) x3).length : Int) - (w64 (v1 + (x3.length : Int)))) (cut (pasted x0 (v1 + (0 : Int)) ((x0.length : Int) - v1) x3) (w64 (v1 + v2)) ((w64 (v1 + v2)) + (((pasted x0 (v1 + (0 : Int)) ((x0.length : Int) - v1) x3).length : Int) - (w64 (v1 + v2)))))).length : Int) - v2)) + (x3.length : Int))) (w64 ((w64 (((pasted (pasted x0 (v1 + (0 : Int)) ((x0.length : Int) - v1) x3) ((w64 (v1 + (x3.length : Int))) + (0 : Int)) (((pasted x0 (v1 + (0 : Int)) ((x0.length : Int) - v1) x3).length : Int) - (w64 (v1 + (x3.length : Int)))) (cut (pasted x0 (v1 + (0 : Int)) ((x0.length : Int) - v1) x3) (w64 (v1 + v2)) ((w64 (v1 + v2)) + (((pasted x0 (v1 + (0 : Int)) ((x0.length : Int) - v1) x3).length : Int) - (w64 (v1 + v2)))))).length : Int) - v2)) + (x3.length : Int))) (((pasted (pasted x0 (v1 + (0 : Int)) ((x0.length : Int) - v1) x3) ((w64 (v1 + (x3.length : Int))) + (0 : Int)) (((pasted x0 (v1 + (0 : Int)) ((x0.length : Int) - v1) x3).length : Int) - (w64 (v1 + (x3.length : Int)))) (cut (pasted x0 (v1 + (0 : Int)) ((x0.length : Int) - v1) x3) (w64 (v1 + v2)) ((w64 (v1 + v2)) + (((pasted x0 (v1 + (0 : Int)) ((x0.length : Int) - v1) x3).length : Int) - (w64 (v1 + v2)))))).length : Int) - (w64 ((w64 (((pasted (pasted x0 (v1 + (0 : Int)) ((x0.length : Int) - v1) x3) ((w64 (v1 + (x3.length : Int))) + (0 : Int)) (((pasted x0 (v1 + (0 : Int)) ((x0.length : Int) - v1) x3).length : Int) - (w64 (v1 + (x3.length : Int)))) (cut (pasted x0 (v1 + (0 : Int)) ((x0.length : Int) - v1) x3) (w64 (v1 + v2)) ((w64 (v1 + v2)) + (((pasted x0 (v1 + (0 : Int)) ((x0.length : Int) - v1) x3).length : Int) - (w64 (v1 + v2)))))).length : Int) - v2)) + (x3.length : Int)))) (((pasted (pasted x0 (v1 + (0 : Int)) ((x0.length : Int) - v1) x3) ((w64 (v1 + (x3.length : Int))) + (0 : Int)) (((pasted x0 (v1 + (0 : Int)) ((x0.length : Int) - v1) x3).length : Int) - (w64 (v1 + (x3.length : Int)))) (cut (pasted x0 (v1 + (0 : Int)) ((x0.length : Int) - v1) x3) (w64 (v1 + v2)) ((w64 (v1 + v2)) + (((pasted x0 (v1 + (0 : Int)) ((x0.length : Int) - v1) x3).length : Int) - (w64 (v1 + v2)))))).length : Int) - (w64 ((w64 (((pasted (pasted x0 (v1 + (0 : Int)) ((x0.length : Int) - v1) x3) ((w64 (v1 + (x3.length : Int))) + (0 : Int)) (((pasted x0 (v1 + (0 : Int)) ((x0.length : Int) - v1) x3).length : Int) - (w64 (v1 + (x3.length : Int)))) (cut (pasted x0 (v1 + (0 : Int)) ((x0.length : Int) - v1) x3) (w64 (v1 + v2)) ((w64 (v1 + v2)) + (((pasted x0 (v1 + (0 : Int)) ((x0.length : Int) - v1) x3).length : Int) - (w64 (v1 + v2)))))).length : Int) - v2)) + (x3.length : Int)))) (0 : Int)
noncomputable def g113_2F {β : Type} (n : Nat) (s : FState) (cx : Cx β) : Option β := FX (g113_G n) n (nav g113_B [1, 1, 0, 1, 0, 0]) (.fin none none none [] .leaf) s { cx with nrm := fun s => FX (g113_G n) n (nav g113_B [1, 1, 0, 1, 0, 1, 0]) (.fin none none none [] .leaf) s { cx with nrm := fun s => FX (g113_G n) n (nav g113_B [1, 1, 0, 1, 0, 1, 1, 0]) (.fin none none none [] .leaf) s { cx with nrm := fun s => FX (g113_G n) n (nav g113_B [1, 1, 0, 1, 0, 1, 1, 1, 0]) (.fin none none none [] .leaf) s { cx with nrm := fun s => FX (g113_G n) n (nav g113_B [1, 1, 0, 1, 0, 1, 1, 1, 1, 0, 0]) (.fin none (some g113_m4e) none [] .leaf) s cx } } } }
theorem g113_2_fx {β : Type} (n : Nat) (cx : Cx β) (x0 : List (Int × ByteArray)) (v1 : Int) (v2 : Int) (x3 : List (Int × ByteArray)) (v26 : Bool) : g113_2F n (g113_m2 x0 v1 v2 x3 v26) cx = g113_2 n (fun x0 v9 o10 l10 v55 v56 => cx.nrm (g113_m4 x0 v9 o10 l10 v55 v56)) x0 v1 v2 x3 v26 := by kernel_rfl
noncomputable def g113_3 {β : Type} (n : Nat) (kn : List (Int × ByteArray) → Int → Int → Int → Int → Int → Option β) (kx0 : List (Int × ByteArray) → Int → Option β) (x0 : List (Int × ByteArray)) (v9 : Int) (o10 : Int) (l10 : Int) (v55 : Int) (v56 : Int) : Option β := bif (decide (v56 < v55)) then (idx v56 l10 <| kn (x0.set (o10 + v56).toNat ((0 : Int), (⟨#[]⟩ : ByteArray))) v9 o10 l10 v55 (w64 (v56 + (1 : Int)))) else (kx0 x0 v9)
noncomputable def g113_3F {β : Type} (n : Nat) (s : FState) (cx : Cx β) : Option β := FX (g113_G n) n (nav g113_B [1, 1, 0, 1, 0, 1, 1, 1, 1, 0, 1, 0, 0, 0]) (.fin none none none [(0, g113_m5e)] .leaf) s { cx with nrm := fun s => FX (g113_G n) n (nav g113_B [1, 1, 0, 1, 0, 1, 1, 1, 1, 0, 1, 0, 0, 1, 0]) (.fin none none none [(0, g113_m5e)] .leaf) s { cx with nrm := fun s => FX (g113_G n) n (nav g113_B [1, 1, 0, 1, 0, 1, 1, 1, 1, 0, 1, 0, 0, 1, 1, 0]) (.fin none none none [(0, g113_m5e)] .leaf) s { cx with nrm := fun s => FX (g113_G n) n (nav g113_B [1, 1, 0, 1, 0, 1, 1, 1, 1, 0, 1, 0, 0, 1, 1, 1]) (.fin none (some g113_m4e) none [(0, g113_m5e)] .leaf) s cx } } }
theorem g113_3_fx {β : Type} (n : Nat) (cx : Cx β) (x0 : List (Int × ByteArray)) (v9 : Int) (o10 : Int) (l10 : Int) (v55 : Int) (v56 : Int) : g113_3F n (g113_m4 x0 v9 o10 l10 v55 v56) cx = g113_3 n (fun x0 v9 o10 l10 v55 v56 => cx.nrm (g113_m4 x0 v9 o10 l10 v55 v56)) (fun x0 v9 => cx.ex 0 (g113_m5 x0 v9)) x0 v9 o10 l10 v55 v56 := by kernel_rfl
noncomputable def g113_4L {β : Type} (n : Nat) (kx0 : List (Int × ByteArray) → Int → Option β) : Nat → List (Int × ByteArray) → Int → Int → Int → Int → Int → Option β
  | 0, _, _, _, _, _, _ => none
  | m + 1, x0, v9, o10, l10, v55, v56 => g113_3 n (g113_4L n kx0 m) kx0 x0 v9 o10 l10 v55 v56
noncomputable def g113_4 {β : Type} (n : Nat) (kx0 : List (Int × ByteArray) → Int → Option β) (x0 : List (Int × ByteArray)) (v9 : Int) (o10 : Int) (l10 : Int) (v55 : Int) (v56 : Int) : Option β := g113_4L n kx0 n x0 v9 o10 l10 v55 v56
noncomputable def g113_4F {β : Type} (n : Nat) (s : FState) (cx : Cx β) : Option β := loopN (fun again s => g113_3F n s { cx with nrm := again }) n s
theorem g113_4L_fx {β : Type} (n : Nat) (cx : Cx β) : ∀ (m : Nat) (x0 : List (Int × ByteArray)) (v9 : Int) (o10 : Int) (l10 : Int) (v55 : Int) (v56 : Int), loopN (fun again s => g113_3F n s { cx with nrm := again }) m (g113_m4 x0 v9 o10 l10 v55 v56) = g113_4L n (fun x0 v9 => cx.ex 0 (g113_m5 x0 v9)) m x0 v9 o10 l10 v55 v56 := by
  intro m
  induction m with
  | zero => intros; rfl
  | succ m ih => intros; simp only [loopN, g113_4L, g113_3_fx, ih]
theorem g113_4_fx {β : Type} (n : Nat) (cx : Cx β) (x0 : List (Int × ByteArray)) (v9 : Int) (o10 : Int) (l10 : Int) (v55 : Int) (v56 : Int) : g113_4F n (g113_m4 x0 v9 o10 l10 v55 v56) cx = g113_4 n (fun x0 v9 => cx.ex 0 (g113_m5 x0 v9)) x0 v9 o10 l10 v55 v56 := g113_4L_fx n cx n x0 v9 o10 l10 v55 v56
noncomputable def g113_5 {β : Type} (n : Nat) (kn : List (Int × ByteArray) → Int → Option β) (x0 : List (Int × ByteArray)) (v9 : Int) (o10 : Int) (l10 : Int) (v55 : Int) (v56 : Int) : Option β := g113_4 n kn x0 v9 o10 l10 v55 v56
noncomputable def g113_5F {β : Type} (n : Nat) (s : FState) (cx : Cx β) : Option β := g113_4F n s { cx with ex := fun j s => bif Nat.beq j 0 then cx.nrm s else cx.ex j s }
theorem g113_5_fx {β : Type} (n : Nat) (cx : Cx β) (x0 : List (Int × ByteArray)) (v9 : Int) (o10 : Int) (l10 : Int) (v55 : Int) (v56 : Int) : g113_5F n (g113_m4 x0 v9 o10 l10 v55 v56) cx = g113_5 n (fun x0 v9 => cx.nrm (g113_m5 x0 v9)) x0 v9 o10 l10 v55 v56 := g113_4_fx n _ x0 v9 o10 l10 v55 v56
noncomputable def g113_6 {β : Type} (n : Nat) (kr : List (Int × ByteArray) → Option β) (x0 : List (Int × ByteArray)) (v9 : Int) : Option β := bnd (0 : Int) v9 (x0.length : Int) <| kr (cut x0 (0 : Int) ((0 : Int) + (v9 - (0 : Int))))
noncomputable def g113_6F {β : Type} (n : Nat) (s : FState) (cx : Cx β) : Option β := FX (g113_G n) n (nav g113_B [1, 1, 0, 1, 0, 1, 1, 1, 1, 1, 0]) (.fin none none (some g113_m1e) [] .leaf) s { cx with nrm := fun s => FX (g113_G n) n (nav g113_B [1, 1, 0, 1, 0, 1, 1, 1, 1, 1, 1]) (.fin none none (some g113_m1e) [] .leaf) s cx }
theorem g113_6_fx {β : Type} (n : Nat) (cx : Cx β) (x0 : List (Int × ByteArray)) (v9 : Int) : g113_6F n (g113_m5 x0 v9) cx = g113_6 n (fun x8 => cx.ret (g113_m1 x8)) x0 v9 := by kernel_rfl
noncomputable def g113_7 {β : Type} (n : Nat) (kr : List (Int × ByteArray) → Option β) (x0 : List (Int × ByteArray)) (v1 : Int) (v2 : Int) (x3 : List (Int × ByteArray)) (v26 : Bool) : Option β := g113_2 n (fun x0 v9 o10 l10 v55 v56 => g113_5 n (fun x0 v9 => g113_6 n kr x0 v9) x0 v9 o10 l10 v55 v56) x0 v1 v2 x3 v26
noncomputable def g113_7F {β : Type} (n : Nat) (s : FState) (cx : Cx β) : Option β := g113_2F n s { cx with nrm := fun s => g113_5F n s { cx with nrm := fun s => g113_6F n s cx } }
theorem g113_7_fx {β : Type} (n : Nat) (cx : Cx β) (x0 : List (Int × ByteArray)) (v1 : Int) (v2 : Int) (x3 : List (Int × ByteArray)) (v26 : Bool) : g113_7F n (g113_m2 x0 v1 v2 x3 v26) cx = g113_7 n (fun x8 => cx.ret (g113_m1 x8)) x0 v1 v2 x3 v26 := by simp only [g113_7F, g113_7, g113_2_fx, g113_5_fx, g113_6_fx]
noncomputable def g113_8 {β : Type} (n : Nat) (kn : List (Int × ByteArray) → Int → Int → List (Int × ByteArray) → Option β) (x0 : List (Int × ByteArray)) (v1 : Int) (v2 : Int) (x3 : List (Int × ByteArray)) (v26 : Bool) : Option β := kn x0 v1 v2 x3
noncomputable def g113_8F {β : Type} (n : Nat) (s : FState) (cx : Cx β) : Option β := FX (g113_G n) n (nav g113_B [1, 1, 0, 1, 1]) (.fin none (some g113_m3e) none [] .leaf) s cx
theorem g113_8_fx {β : Type} (n : Nat) (cx : Cx β) (x0 : List (Int × ByteArray)) (v1 : Int) (v2 : Int) (x3 : List (Int × ByteArray)) (v26 : Bool) : g113_8F n (g113_m2 x0 v1 v2 x3 v26) cx = g113_8 n (fun x0 v1 v2 x3 => cx.nrm (g113_m3 x0 v1 v2 x3)) x0 v1 v2 x3 v26 := by kernel_rfl
noncomputable def g113_9 {β : Type} (n : Nat) (kn : List (Int × ByteArray) → Int → Int → List (Int × ByteArray) → Option β) (kr : List (Int × ByteArray) → Option β) (x0 : List (Int × ByteArray)) (v1 : Int) (v2 : Int) (x3 : List (Int × ByteArray)) (v26 : Bool) : Option β := bif v26 then g113_7 n kr x0 v1 v2 x3 v26 else g113_8 n kn x0 v1 v2 x3 v26
noncomputable def g113_9F {β : Type} (n : Nat) (s : FState) (cx : Cx β) : Option β := asBool (ev s (cond_of (nav g113_B [1, 1, 0, 1]))) fun t => cond t (g113_7F n s cx) (g113_8F n s cx)
theorem g113_9_fx {β : Type} (n : Nat) (cx : Cx β) (x0 : List (Int × ByteArray)) (v1 : Int) (v2 : Int) (x3 : List (Int × ByteArray)) (v26 : Bool) : g113_9F n (g113_m2 x0 v1 v2 x3 v26) cx = g113_9 n (fun x0 v1 v2 x3 => cx.nrm (g113_m3 x0 v1 v2 x3)) (fun x8 => cx.ret (g113_m1 x8)) x0 v1 v2 x3 v26 := by
  simp only [g113_9F, g113_9, g113_7_fx, g113_8_fx]
  kernel_rfl
noncomputable def g113_10 {β : Type} (n : Nat) (kn : List (Int × ByteArray) → Int → Int → List (Int × ByteArray) → Int → Option β) (x0 : List (Int × ByteArray)) (v1 : Int) (v2 : Int) (x3 : List (Int × ByteArray)) : Option β := kn x0 v1 v2 x3 (w64 ((w64 ((x0.length : Int) - v2)) + (x3.length : Int)))
noncomputable def g113_10F {β : Type} (n : Nat) (s : FState) (cx : Cx β) : Option β := FX (g113_G n) n (nav g113_B [1, 1, 1, 0]) (.fin none (some g113_m6e) none [] .leaf) s cx
theorem g113_10_fx {β : Type} (n : Nat) (cx : Cx β) (x0 : List (Int × ByteArray)) (v1 : Int) (v2 : Int) (x3 : List (Int × ByteArray)) : g113_10F n (g113_m3 x0 v1 v2 x3) cx = g113_10 n (fun x0 v1 v2 x3 v12 => cx.nrm (g113_m6 x0 v1 v2 x3 v12)) x0 v1 v2 x3 := by kernel_rfl
noncomputable def g113_11 {β : Type} (n : Nat) (kn : List (Int × ByteArray) → Int → Int → List (Int × ByteArray) → Int → Option β) (kx2 : List (Int × ByteArray) → Int → Int → List (Int × ByteArray) → Option β) (x0 : List (Int × ByteArray)) (v1 : Int) (v2 : Int) (x3 : List (Int × ByteArray)) (v12 : Int) : Option β := bif (decide ((x0.length : Int) < v12)) then (roomy (x0.length + [((0 : Int), (⟨#[]⟩ : ByteArray))].length) <| kn (x0 ++ [((0 : Int), (⟨#[]⟩ : ByteArray))]) v1 v2 x3 v12) else (kx2 x0 v1 v2 x3)
noncomputable def g113_11F {β : Type} (n : Nat) (s : FState) (cx : Cx β) : Option β := FX (g113_G n) n (nav g113_B [1, 1, 1, 1, 0, 0, 0, 0, 0]) (.fin none none none [(2, g113_m7e)] .leaf) s { cx with nrm := fun s => FX (g113_G n) n (nav g113_B [1, 1, 1, 1, 0, 0, 0, 0, 1]) (.fin none none none [(2, g113_m7e)] .leaf) s { cx with nrm := fun s => FX (g113_G n) n (nav g113_B [1, 1, 1, 1, 0, 0, 0, 1]) (.fin none (some g113_m6e) none [(2, g113_m7e)] .leaf) s cx } }
theorem g113_11_fx {β : Type} (n : Nat) (cx : Cx β) (x0 : List (Int × ByteArray)) (v1 : Int) (v2 : Int) (x3 : List (Int × ByteArray)) (v12 : Int) : g113_11F n (g113_m6 x0 v1 v2 x3 v12) cx = g113_11 n (fun x0 v1 v2 x3 v12 => cx.nrm (g113_m6 x0 v1 v2 x3 v12)) (fun x0 v1 v2 x3 => cx.ex 2 (g113_m7 x0 v1 v2 x3)) x0 v1 v2 x3 v12 := by kernel_rfl
noncomputable def g113_12L {β : Type} (n : Nat) (kx2 : List (Int × ByteArray) → Int → Int → List (Int × ByteArray) → Option β) : Nat → List (Int × ByteArray) → Int → Int → List (Int × ByteArray) → Int → Option β
  | 0, _, _, _, _, _ => none
  | m + 1, x0, v1, v2, x3, v12 => g113_11 n (g113_12L n kx2 m) kx2 x0 v1 v2 x3 v12
noncomputable def g113_12 {β : Type} (n : Nat) (kx2 : List (Int × ByteArray) → Int → Int → List (Int × ByteArray) → Option β) (x0 : List (Int × ByteArray)) (v1 : Int) (v2 : Int) (x3 : List (Int × ByteArray)) (v12 : Int) : Option β := g113_12L n kx2 n x0 v1 v2 x3 v12
noncomputable def g113_12F {β : Type} (n : Nat) (s : FState) (cx : Cx β) : Option β := loopN (fun again s => g113_11F n s { cx with nrm := again }) n s
theorem g113_12L_fx {β : Type} (n : Nat) (cx : Cx β) : ∀ (m : Nat) (x0 : List (Int × ByteArray)) (v1 : Int) (v2 : Int) (x3 : List (Int × ByteArray)) (v12 : Int), loopN (fun again s => g113_11F n s { cx with nrm := again }) m (g113_m6 x0 v1 v2 x3 v12) = g113_12L n (fun x0 v1 v2 x3 => cx.ex 2 (g113_m7 x0 v1 v2 x3)) m x0 v1 v2 x3 v12 := by
  intro m
  induction m with
  | zero => intros; rfl
  | succ m ih => intros; simp only [loopN, g113_12L, g113_11_fx, ih]
theorem g113_12_fx {β : Type} (n : Nat) (cx : Cx β) (x0 : List (Int × ByteArray)) (v1 : Int) (v2 : Int) (x3 : List (Int × ByteArray)) (v12 : Int) : g113_12F n (g113_m6 x0 v1 v2 x3 v12) cx = g113_12 n (fun x0 v1 v2 x3 => cx.ex 2 (g113_m7 x0 v1 v2 x3)) x0 v1 v2 x3 v12 := g113_12L_fx n cx n x0 v1 v2 x3 v12
noncomputable def g113_13 {β : Type} (n : Nat) (kn : List (Int × ByteArray) → Int → Int → List (Int × ByteArray) → Option β) (x0 : List (Int × ByteArray)) (v1 : Int) (v2 : Int) (x3 : List (Int × ByteArray)) (v12 : Int) : Option β := g113_12 n kn x0 v1 v2 x3 v12
noncomputable def g113_13F {β : Type} (n : Nat) (s : FState) (cx : Cx β) : Option β := g113_12F n s { cx with ex := fun j s => bif Nat.beq j 2 then cx.nrm s else cx.ex j s }
theorem g113_13_fx {β : Type} (n : Nat) (cx : Cx β) (x0 : List (Int × ByteArray)) (v1 : Int) (v2 : Int) (x3 : List (Int × ByteArray)) (v12 : Int) : g113_13F n (g113_m6 x0 v1 v2 x3 v12) cx = g113_13 n (fun x0 v1 v2 x3 => cx.nrm (g113_m7 x0 v1 v2 x3)) x0 v1 v2 x3 v12 := g113_12_fx n _ x0 v1 v2 x3 v12
noncomputable def g113_14 {β : Type} (n : Nat) (kr : List (Int × ByteArray) → Option β) (x0 : List (Int × ByteArray)) (v1 : Int) (v2 : Int) (x3 : List (Int × ByteArray)) : Option β := bnd (w64 (v1 + (x3.length : Int))) (x0.length : Int) (x0.length : Int) <| bnd (w64 (v1 + v2)) (x0.length : Int) (x0.length : Int) <| bnd v1 ((pasted x0 ((w64 (v1 + (x3.length : Int))) + (0 : Int)) ((x0.length : Int) - (w64 (v1 + (x3.length : Int)))) (cut x0 (w64 (v1 + v2)) ((w64 (v1 + v2)) + ((x0.length : Int) - (w64 (v1 + v2)))))).length : Int) ((pasted x0 ((w64 (v1 + (x3.length : Int))) + (0 : Int)) ((x0.length : Int) - (w64 (v1 + (x3.length : Int)))) (cut x0 (w64 (v1 + v2)) ((w64 (v1 + v2)) + ((x0.length : Int) - (w64 (v1 + v2)))))).length : Int) <| kr (pasted (pasted x0 ((w64 (v1 + (x3.length : Int))) + (0 : Int)) ((x0.length : Int) - (w64 (v1 + (x3.length : Int)))) (cut x0 (w64 (v1 + v2)) ((w64 (v1 + v2)) + ((x0.length : Int) - (w64 (v1 + v2)))))) (v1 + (0 : Int)) (((pasted x0 ((w64 (v1 + (x3.length : Int))) + (0 : Int)) ((x0.length : Int) - (w64 (v1 + (x3.length : Int)))) (cut x0 (w64 (v1 + v2)) ((w64 (v1 + v2)) + ((x0.length : Int) - (w64 (v1 + v2)))))).length : Int) - v1) x3)
noncomputable def g113_14F {β : Type} (n : Nat) (s : FState) (cx : Cx β) : Option β := FX (g113_G n) n (nav g113_B [1, 1, 1, 1, 1, 0]) (.fin none none (some g113_m1e) [] .leaf) s { cx with nrm := fun s => FX (g113_G n) n (nav g113_B [1, 1, 1, 1, 1, 1, 0]) (.fin none none (some g113_m1e) [] .leaf) s { cx with nrm := fun s => FX (g113_G n) n (nav g113_B [1, 1, 1, 1, 1, 1, 1, 0]) (.fin none none (some g113_m1e) [] .leaf) s { cx with nrm := fun s => FX (g113_G n) n (nav g113_B [1, 1, 1, 1, 1, 1, 1, 1]) (.fin none none (some g113_m1e) [] .leaf) s cx } } }
theorem g113_14_fx {β : Type} (n : Nat) (cx : Cx β) (x0 : List (Int × ByteArray)) (v1 : Int) (v2 : Int) (x3 : List (Int × ByteArray)) : g113_14F n (g113_m7 x0 v1 v2 x3) cx = g113_14 n (fun x8 => cx.ret (g113_m1 x8)) x0 v1 v2 x3 := by kernel_rfl
noncomputable def g113_15 {β : Type} (n : Nat) (kr : List (Int × ByteArray) → Option β) (x0 : List (Int × ByteArray)) (v1 : Int) (v2 : Int) (x3 : List (Int × ByteArray)) : Option β := g113_1 n (fun x0 v1 v2 x3 v26 => g113_9 n (fun x0 v1 v2 x3 => g113_10 n (fun x0 v1 v2 x3 v12 => g113_13 n (fun x0 v1 v2 x3 => g113_14 n kr x0 v1 v2 x3) x0 v1 v2 x3 v12) x0 v1 v2 x3) kr x0 v1 v2 x3 v26) kr x0 v1 v2 x3
noncomputable def g113_15F {β : Type} (n : Nat) (s : FState) (cx : Cx β) : Option β := g113_1F n s { cx with nrm := fun s => g113_9F n s { cx with nrm := fun s => g113_10F n s { cx with nrm := fun s => g113_13F n s { cx with nrm := fun s => g113_14F n s cx } } } }
theorem g113_15_fx {β : Type} (n : Nat) (cx : Cx β) (x0 : List (Int × ByteArray)) (v1 : Int) (v2 : Int) (x3 : List (Int × ByteArray)) : g113_15F n (g113_m0 x0 v1 v2 x3) cx = g113_15 n (fun x8 => cx.ret (g113_m1 x8)) x0 v1 v2 x3 := by simp only [g113_15F, g113_15, g113_1_fx, g113_9_fx, g113_10_fx, g113_13_fx, g113_14_fx]
noncomputable def g113 (n : Nat) (x0 : List (Int × ByteArray)) (v1 : Int) (v2 : Int) (x3 : List (Int × ByteArray)) : Option (DenR [.rw (.pair (.int .i8) .str) 115]) := g113_15 n (fun x8 => some (x8, ())) x0 v1 v2 x3
noncomputable def g113_A : List AK := [.rw (.pair (.int .i8) .str) 115, .dat (.int .i64), .dat (.int .i64), .ro (.pair (.int .i8) .str) 115]
noncomputable def g113_R : List RK := [.rw (.pair (.int .i8) .str) 115]
noncomputable def g113_f (n : Nat) (d : DenA g113_A) : Option (DenR g113_R) := g113 n d.1 d.2.1 d.2.2.1 d.2.2.2.1
noncomputable def g113_S (n : Nat) : Spec := mkSpec g113_A g113_R (g113_f n)
noncomputable def g113_K : Sk := (.nd (.fin none none (some g113_m1e) [] .leaf) (.nd (.nd (.fin none none (some g113_m1e) [] .leaf) (.fin none none (some g113_m1e) [] .leaf)) (.nd (.nd (.fin none (some g113_m2e) (some g113_m1e) [] .leaf) (.nd (.nd (.fin none none none [] .leaf) (.nd (.fin none none none [] .leaf) (.nd (.fin none none none [] .leaf) (.nd (.fin none none none [] .leaf) (.nd (.nd (.fin none (some g113_m4e) none [] .leaf) (.nd (.nd (.nd (.fin none none none [(0, g113_m5e)] .leaf) (.nd (.fin none none none [(0, g113_m5e)] .leaf) (.nd (.fin none none none [(0, g113_m5e)] .leaf) (.fin none (some g113_m4e) none [(0, g113_m5e)] .leaf)))) .leaf) .leaf)) (.nd (.fin none none (some g113_m1e) [] .leaf) (.fin none none (some g113_m1e) [] .leaf))))))) (.fin none (some g113_m3e) none [] .leaf))) (.nd (.fin none (some g113_m6e) none [] .leaf) (.nd (.nd (.nd (.nd (.nd (.fin none none none [(2, g113_m7e)] .leaf) (.fin none none none [(2, g113_m7e)] .leaf)) (.fin none (some g113_m6e) none [(2, g113_m7e)] .leaf)) .leaf) .leaf) (.nd (.fin none none (some g113_m1e) [] .leaf) (.nd (.fin none none (some g113_m1e) [] .leaf) (.nd (.fin none none (some g113_m1e) [] .leaf) (.fin none none (some g113_m1e) [] .leaf)))))))))
theorem g113_top {β : Type} (n : Nat) (s : FState) (cx : Cx β) : FX (g113_G n) n g113_B g113_K s cx = g113_15F n s cx := by kernel_rfl
theorem g113_fit (n : Nat) : Fit Tryd.prog 113 (g113_S n) :=
  fit_of (Γ := Γ0) (l := g113_C n) (n := n) (sk := g113_K) (ts := [(8, none)]) (fn := Tryd.f113) (c := g113_B) (by kernel_rfl) (by kernel_rfl) (by unfold Callable; kernel_rfl) tab_ok trivial follows_mixed (by kernel_rfl) (by kernel_rfl) (Nat.le_of_ble_eq_true (by kernel_rfl)) (by kernel_rfl) (by kernel_rfl)
    (fun d => (g113_top n _ _).trans (Eq.trans (b := g113_15F n (g113_m0 d.1 d.2.1 d.2.2.1 d.2.2.2.1) (finCx (g113_G n) g113_R [(8, none)])) (by kernel_rfl) ((g113_15_fx n _ d.1 d.2.1 d.2.2.1 d.2.2.2.1).trans (by kernel_rfl))))
noncomputable def g177_m0 (v0 : ByteArray) (v1 : ByteArray) : FState := ⟨tlist [(0, .dat .str v0), (1, .dat .str v1)], olist []⟩
noncomputable def g177_m1 (v4 : Bool) : FState := ⟨tlist [(4, .dat .bool v4)], olist []⟩
noncomputable def g177_m1e : List NE := [.keep 4]
noncomputable def g177_C (n : Nat) : List (Nat × Spec) := []
noncomputable def g177_G (n : Nat) : Ctx := { Γ0 with calls := lkS (g177_C n) }
noncomputable def g177_B : Code := fb Tryd.f177
noncomputable def g177_1 {β : Type} (n : Nat) (kr : Bool → Option β) (v0 : ByteArray) (v1 : ByteArray) : Option β := bif (decide ((v0.size : Int) ≥ (v1.size : Int))) then (bnd (w64 ((v0.size : Int) - (v1.size : Int))) (v0.size : Int) (v0.size : Int) <| kr (strEq (cutS v0 (w64 ((v0.size : Int) - (v1.size : Int))) (v0.size : Int)) v1)) else (kr false)
noncomputable def g177_1F {β : Type} (n : Nat) (s : FState) (cx : Cx β) : Option β := FX (g177_G n) n (nav g177_B [0]) (.fin none none (some g177_m1e) [] .leaf) s { cx with nrm := fun s => FX (g177_G n) n (nav g177_B [1, 0]) (.fin none none (some g177_m1e) [] .leaf) s { cx with nrm := fun s => FX (g177_G n) n (nav g177_B [1, 1]) (.fin none none (some g177_m1e) [] .leaf) s cx } }
theorem g177_1_fx {β : Type} (n : Nat) (cx : Cx β) (v0 : ByteArray) (v1 : ByteArray) : g177_1F n (g177_m0 v0 v1) cx = g177_1 n (fun v4 => cx.ret (g177_m1 v4)) v0 v1 := by kernel_rfl
noncomputable def g177 (n : Nat) (v0 : ByteArray) (v1 : ByteArray) : Option (DenR [.dat .bool]) := g177_1 n (fun v4 => some (v4, ())) v0 v1
noncomputable def g177_A : List AK := [.dat .str, .dat .str]
noncomputable def g177_R : List RK := [.dat .bool]
noncomputable def g177_f (n : Nat) (d : DenA g177_A) : Option (DenR g177_R) := g177 n d.1 d.2.1
noncomputable def g177_S (n : Nat) : Spec := mkSpec g177_A g177_R (g177_f n)
noncomputable def g177_K : Sk := (.nd (.fin none none (some g177_m1e) [] .leaf) (.nd (.fin none none (some g177_m1e) [] .leaf) (.fin none none (some g177_m1e) [] .leaf)))
theorem g177_top {β : Type} (n : Nat) (s : FState) (cx : Cx β) : FX (g177_G n) n g177_B g177_K s cx = g177_1F n s cx := by kernel_rfl
theorem g177_fit (n : Nat) : Fit Tryd.prog 177 (g177_S n) :=
  fit_of (Γ := Γ0) (l := g177_C n) (n := n) (sk := g177_K) (ts := [(4, none)]) (fn := Tryd.f177) (c := g177_B) (by kernel_rfl) (by kernel_rfl) (by unfold Callable; kernel_rfl) tab_ok trivial follows_mixed (by kernel_rfl) (by kernel_rfl) (Nat.le_of_ble_eq_true (by kernel_rfl)) (by kernel_rfl) (by kernel_rfl)
    (fun d => (g177_top n _ _).trans (Eq.trans (b := g177_1F n (g177_m0 d.1 d.2.1) (finCx (g177_G n) g177_R [(4, none)])) (by kernel_rfl) ((g177_1_fx n _ d.1 d.2.1).trans (by kernel_rfl))))
noncomputable def g158_m0 (v0 : ByteArray) (v1 : ByteArray) : FState := ⟨tlist [(0, .dat .str v0), (1, .dat .str v1)], olist []⟩
noncomputable def g158_m1 (v4 : Bool) : FState := ⟨tlist [(4, .dat .bool v4)], olist []⟩
noncomputable def g158_m1e : List NE := [.keep 4]
noncomputable def g158_C (n : Nat) : List (Nat × Spec) := [(177, g177_S n)]
noncomputable def g158_G (n : Nat) : Ctx := { Γ0 with calls := lkS (g158_C n) }
noncomputable def g158_B : Code := fb Tryd.f158
noncomputable def g158_1 {β : Type} (n : Nat) (kr : Bool → Option β) (v0 : ByteArray) (v1 : ByteArray) : Option β := (g177 n v0 v1).bind fun r1 => kr r1.1
noncomputable def g158_1F {β : Type} (n : Nat) (s : FState) (cx : Cx β) : Option β := FX (g158_G n) n (nav g158_B [0]) (.fin none none (some g158_m1e) [] .leaf) s { cx with nrm := fun s => FX (g158_G n) n (nav g158_B [1, 0]) (.fin none none (some g158_m1e) [] .leaf) s { cx with nrm := fun s => FX (g158_G n) n (nav g158_B [1, 1]) (.fin none none (some g158_m1e) [] .leaf) s cx } }
theorem g158_1_fx {β : Type} (n : Nat) (cx : Cx β) (v0 : ByteArray) (v1 : ByteArray) : g158_1F n (g158_m0 v0 v1) cx = g158_1 n (fun v4 => cx.ret (g158_m1 v4)) v0 v1 := by kernel_rfl
noncomputable def g158 (n : Nat) (v0 : ByteArray) (v1 : ByteArray) : Option (DenR [.dat .bool]) := g158_1 n (fun v4 => some (v4, ())) v0 v1
noncomputable def g158_A : List AK := [.dat .str, .dat .str]
noncomputable def g158_R : List RK := [.dat .bool]
noncomputable def g158_f (n : Nat) (d : DenA g158_A) : Option (DenR g158_R) := g158 n d.1 d.2.1
noncomputable def g158_S (n : Nat) : Spec := mkSpec g158_A g158_R (g158_f n)
noncomputable def g158_K : Sk := (.nd (.fin none none (some g158_m1e) [] .leaf) (.nd (.fin none none (some g158_m1e) [] .leaf) (.fin none none (some g158_m1e) [] .leaf)))
theorem g158_top {β : Type} (n : Nat) (s : FState) (cx : Cx β) : FX (g158_G n) n g158_B g158_K s cx = g158_1F n s cx := by kernel_rfl
theorem g158_fit (n : Nat) : Fit Tryd.prog 158 (g158_S n) :=
  fit_of (Γ := Γ0) (l := g158_C n) (n := n) (sk := g158_K) (ts := [(4, none)]) (fn := Tryd.f158) (c := g158_B) (by kernel_rfl) (by kernel_rfl) (by unfold Callable; kernel_rfl) tab_ok ⟨g177_fit n, trivial⟩ follows_mixed (by kernel_rfl) (by kernel_rfl) (Nat.le_of_ble_eq_true (by kernel_rfl)) (by kernel_rfl) (by kernel_rfl)
    (fun d => (g158_top n _ _).trans (Eq.trans (b := g158_1F n (g158_m0 d.1 d.2.1) (finCx (g158_G n) g158_R [(4, none)])) (by kernel_rfl) ((g158_1_fx n _ d.1 d.2.1).trans (by kernel_rfl))))
noncomputable def g126_m0 (v0 : ByteArray) (v1 : ByteArray) : FState := ⟨tlist [(0, .dat .str v0), (1, .dat .str v1)], olist []⟩
noncomputable def g126_m1 (v4 : Bool) : FState := ⟨tlist [(4, .dat .bool v4)], olist []⟩
noncomputable def g126_m1e : List NE := [.keep 4]
noncomputable def g126_C (n : Nat) : List (Nat × Spec) := []
noncomputable def g126_G (n : Nat) : Ctx := { Γ0 with calls := lkS (g126_C n) }
noncomputable def g126_B : Code := fb Tryd.f126
noncomputable def g126_1 {β : Type} (n : Nat) (kr : Bool → Option β) (v0 : ByteArray) (v1 : ByteArray) : Option β := bif (decide ((v0.size : Int) ≥ (v1.size : Int))) then (bnd (0 : Int) (v1.size : Int) (v0.size : Int) <| kr (strEq (cutS v0 (0 : Int) (v1.size : Int)) v1)) else (kr false)
noncomputable def g126_1F {β : Type} (n : Nat) (s : FState) (cx : Cx β) : Option β := FX (g126_G n) n (nav g126_B [0]) (.fin none none (some g126_m1e) [] .leaf) s { cx with nrm := fun s => FX (g126_G n) n (nav g126_B [1, 0]) (.fin none none (some g126_m1e) [] .leaf) s { cx with nrm := fun s => FX (g126_G n) n (nav g126_B [1, 1]) (.fin none none (some g126_m1e) [] .leaf) s cx } }
theorem g126_1_fx {β : Type} (n : Nat) (cx : Cx β) (v0 : ByteArray) (v1 : ByteArray) : g126_1F n (g126_m0 v0 v1) cx = g126_1 n (fun v4 => cx.ret (g126_m1 v4)) v0 v1 := by kernel_rfl
noncomputable def g126 (n : Nat) (v0 : ByteArray) (v1 : ByteArray) : Option (DenR [.dat .bool]) := g126_1 n (fun v4 => some (v4, ())) v0 v1
noncomputable def g126_A : List AK := [.dat .str, .dat .str]
noncomputable def g126_R : List RK := [.dat .bool]
noncomputable def g126_f (n : Nat) (d : DenA g126_A) : Option (DenR g126_R) := g126 n d.1 d.2.1
noncomputable def g126_S (n : Nat) : Spec := mkSpec g126_A g126_R (g126_f n)
noncomputable def g126_K : Sk := (.nd (.fin none none (some g126_m1e) [] .leaf) (.nd (.fin none none (some g126_m1e) [] .leaf) (.fin none none (some g126_m1e) [] .leaf)))
theorem g126_top {β : Type} (n : Nat) (s : FState) (cx : Cx β) : FX (g126_G n) n g126_B g126_K s cx = g126_1F n s cx := by kernel_rfl
theorem g126_fit (n : Nat) : Fit Tryd.prog 126 (g126_S n) :=
  fit_of (Γ := Γ0) (l := g126_C n) (n := n) (sk := g126_K) (ts := [(4, none)]) (fn := Tryd.f126) (c := g126_B) (by kernel_rfl) (by kernel_rfl) (by unfold Callable; kernel_rfl) tab_ok trivial follows_mixed (by kernel_rfl) (by kernel_rfl) (Nat.le_of_ble_eq_true (by kernel_rfl)) (by kernel_rfl) (by kernel_rfl)
    (fun d => (g126_top n _ _).trans (Eq.trans (b := g126_1F n (g126_m0 d.1 d.2.1) (finCx (g126_G n) g126_R [(4, none)])) (by kernel_rfl) ((g126_1_fx n _ d.1 d.2.1).trans (by kernel_rfl))))
noncomputable def g100_m0 (v0 : ByteArray) (v1 : ByteArray) : FState := ⟨tlist [(0, .dat .str v0), (1, .dat .str v1)], olist []⟩
noncomputable def g100_m1 (v4 : Bool) : FState := ⟨tlist [(4, .dat .bool v4)], olist []⟩
noncomputable def g100_m1e : List NE := [.keep 4]
noncomputable def g100_C (n : Nat) : List (Nat × Spec) := [(126, g126_S n)]
noncomputable def g100_G (n : Nat) : Ctx := { Γ0 with calls := lkS (g100_C n) }
noncomputable def g100_B : Code := fb Tryd.f100
noncomputable def g100_1 {β : Type} (n : Nat) (kr : Bool → Option β) (v0 : ByteArray) (v1 : ByteArray) : Option β := (g126 n v0 v1).bind fun r1 => kr r1.1
noncomputable def g100_1F {β : Type} (n : Nat) (s : FState) (cx : Cx β) : Option β := FX (g100_G n) n (nav g100_B [0]) (.fin none none (some g100_m1e) [] .leaf) s { cx with nrm := fun s => FX (g100_G n) n (nav g100_B [1, 0]) (.fin none none (some g100_m1e) [] .leaf) s { cx with nrm := fun s => FX (g100_G n) n (nav g100_B [1, 1]) (.fin none none (some g100_m1e) [] .leaf) s cx } }
theorem g100_1_fx {β : Type} (n : Nat) (cx : Cx β) (v0 : ByteArray) (v1 : ByteArray) : g100_1F n (g100_m0 v0 v1) cx = g100_1 n (fun v4 => cx.ret (g100_m1 v4)) v0 v1 := by kernel_rfl
noncomputable def g100 (n : Nat) (v0 : ByteArray) (v1 : ByteArray) : Option (DenR [.dat .bool]) := g100_1 n (fun v4 => some (v4, ())) v0 v1
noncomputable def g100_A : List AK := [.dat .str, .dat .str]
noncomputable def g100_R : List RK := [.dat .bool]
noncomputable def g100_f (n : Nat) (d : DenA g100_A) : Option (DenR g100_R) := g100 n d.1 d.2.1
noncomputable def g100_S (n : Nat) : Spec := mkSpec g100_A g100_R (g100_f n)
noncomputable def g100_K : Sk := (.nd (.fin none none (some g100_m1e) [] .leaf) (.nd (.fin none none (some g100_m1e) [] .leaf) (.fin none none (some g100_m1e) [] .leaf)))
theorem g100_top {β : Type} (n : Nat) (s : FState) (cx : Cx β) : FX (g100_G n) n g100_B g100_K s cx = g100_1F n s cx := by kernel_rfl
theorem g100_fit (n : Nat) : Fit Tryd.prog 100 (g100_S n) :=
  fit_of (Γ := Γ0) (l := g100_C n) (n := n) (sk := g100_K) (ts := [(4, none)]) (fn := Tryd.f100) (c := g100_B) (by kernel_rfl) (by kernel_rfl) (by unfold Callable; kernel_rfl) tab_ok ⟨g126_fit n, trivial⟩ follows_mixed (by kernel_rfl) (by kernel_rfl) (Nat.le_of_ble_eq_true (by kernel_rfl)) (by kernel_rfl) (by kernel_rfl)
    (fun d => (g100_top n _ _).trans (Eq.trans (b := g100_1F n (g100_m0 d.1 d.2.1) (finCx (g100_G n) g100_R [(4, none)])) (by kernel_rfl) ((g100_1_fx n _ d.1 d.2.1).trans (by kernel_rfl))))
end Go.Proofs.YthkiaiilpaojnaaDoorUF
