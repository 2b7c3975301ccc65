import Derived.Test.YtfnjlgflbenfoaaFT
namespace Go.Proofs.YtfnjlgflbenfoaaF
open Go Go.Proofs
set_option linter.unusedVariables false
set_option maxRecDepth 100000
noncomputable def g20_m0 (v0 : (Int × ByteArray)) : FState := ⟨tlist [(0, .dat (.pair (.int .i64) .str) v0)], olist []⟩
noncomputable def g20_m1 (v2 : Bool) : FState := ⟨tlist [(2, .dat .bool v2)], olist []⟩
noncomputable def g20_m1e : List NE := [.keep 2]
noncomputable def g20_C (n : Nat) : List (Nat × Spec) := []
noncomputable def g20_G (n : Nat) : Ctx := { Γ0 with calls := lkS (g20_C n) }
noncomputable def g20_B : Code := fb Try.f20
noncomputable def g20_1 {β : Type} (n : Nat) (kr : Bool → Option β) (v0 : (Int × ByteArray)) : Option β := bif (decide ((v0.2.size : Int) > (2147483647 : Int))) then (kr false) else (kr true)
noncomputable def g20_1F {β : Type} (n : Nat) (s : FState) (cx : Cx β) : Option β := FX (g20_G n) n (nav g20_B [0]) (.fin none none (some g20_m1e) [] .leaf) s { cx with nrm := fun s => FX (g20_G n) n (nav g20_B [1, 0, 0]) (.fin none none (some g20_m1e) [] .leaf) s { cx with nrm := fun s => FX (g20_G n) n (nav g20_B [1, 0, 1]) (.fin none none (some g20_m1e) [] .leaf) s { cx with nrm := fun s => FX (g20_G n) n (nav g20_B [1, 1, 0]) (.fin none none (some g20_m1e) [] .leaf) s { cx with nrm := fun s => FX (g20_G n) n (nav g20_B [1, 1, 1]) (.fin none none (some g20_m1e) [] .leaf) s cx } } } }
theorem g20_1_fx {β : Type} (n : Nat) (cx : Cx β) (v0 : (Int × ByteArray)) : g20_1F n (g20_m0 v0) cx = g20_1 n (fun v2 => cx.ret (g20_m1 v2)) v0 := by kernel_rfl
noncomputable def g20 (n : Nat) (v0 : (Int × ByteArray)) : Option (DenR [.dat .bool]) := g20_1 n (fun v2 => some (v2, ())) v0
noncomputable def g20_A : List AK := [.dat (.pair (.int .i64) .str)]
noncomputable def g20_R : List RK := [.dat .bool]
noncomputable def g20_f (n : Nat) (d : DenA g20_A) : Option (DenR g20_R) := g20 n d.1
noncomputable def g20_S (n : Nat) : Spec := mkSpec g20_A g20_R (g20_f n)
noncomputable def g20_K : Sk := (.nd (.fin none none (some g20_m1e) [] .leaf) (.nd (.nd (.fin none none (some g20_m1e) [] .leaf) (.fin none none (some g20_m1e) [] .leaf)) (.nd (.fin none none (some g20_m1e) [] .leaf) (.fin none none (some g20_m1e) [] .leaf))))
theorem g20_top {β : Type} (n : Nat) (s : FState) (cx : Cx β) : FX (g20_G n) n g20_B g20_K s cx = g20_1F n s cx := by kernel_rfl
theorem g20_fit (n : Nat) : Fit Try.prog 20 (g20_S n) :=
  fit_of (Γ := Γ0) (l := g20_C n) (n := n) (sk := g20_K) (ts := [(2, none)]) (fn := Try.f20) (c := g20_B) (by kernel_rfl) (by kernel_rfl) (by unfold Callable; kernel_rfl) tab_ok trivial follows_mixed (by kernel_rfl) (by kernel_rfl) (Nat.le_of_ble_eq_true (by kernel_rfl)) (by kernel_rfl) (by kernel_rfl)
    (fun d => (g20_top n _ _).trans (Eq.trans (b := g20_1F n (g20_m0 d.1) (finCx (g20_G n) g20_R [(2, none)])) (by kernel_rfl) ((g20_1_fx n _ d.1).trans (by kernel_rfl))))
noncomputable def g9_m0 (x0 : List (Int × ByteArray)) : FState := ⟨tlist [(0, .sl 0 none false)], olist [(0, .row (.pair (.int .i64) .str) 28 false x0)]⟩
noncomputable def g9_m1 (v2 : Bool) : FState := ⟨tlist [(2, .dat .bool v2)], olist []⟩
noncomputable def g9_m1e : List NE := [.keep 2]
noncomputable def g9_m2 (x8 : List (Int × ByteArray)) (v9 : Int) (v10 : Int) : FState := ⟨tlist [(8, .sl 8 none false), (9, .dat (.int .i64) v9), (10, .dat (.int .i64) v10)], olist [(8, .row (.pair (.int .i64) .str) 28 false x8)]⟩
noncomputable def g9_m2e : List NE := [.row 8 (.pair (.int .i64) .str) 28 false, .keep 9, .keep 10]
noncomputable def g9_m3 : FState := ⟨tlist [], olist []⟩
noncomputable def g9_m3e : List NE := []
noncomputable def g9_C (n : Nat) : List (Nat × Spec) := [(20, g20_S n)]
noncomputable def g9_G (n : Nat) : Ctx := { Γ0 with calls := lkS (g9_C n) }
noncomputable def g9_B : Code := fb Try.f9
noncomputable def g9_1 {β : Type} (n : Nat) (kn : List (Int × ByteArray) → Int → Int → Option β) (kr : Bool → Option β) (x0 : List (Int × ByteArray)) : Option β := bif (decide ((x0.length : Int) > (2147483647 : Int))) then (kr false) else (kn x0 (x0.length : Int) (0 : Int))
noncomputable def g9_1F {β : Type} (n : Nat) (s : FState) (cx : Cx β) : Option β := FX (g9_G n) n (nav g9_B [0]) (.fin none none (some g9_m1e) [] .leaf) s { cx with nrm := fun s => FX (g9_G n) n (nav g9_B [1, 0, 0]) (.fin none none (some g9_m1e) [] .leaf) s { cx with nrm := fun s => FX (g9_G n) n (nav g9_B [1, 0, 1]) (.fin none none (some g9_m1e) [] .leaf) s { cx with nrm := fun s => FX (g9_G n) n (nav g9_B [1, 1, 0, 0]) (.fin none (some g9_m2e) (some g9_m1e) [] .leaf) s cx } } }
theorem g9_1_fx {β : Type} (n : Nat) (cx : Cx β) (x0 : List (Int × ByteArray)) : g9_1F n (g9_m0 x0) cx = g9_1 n (fun x8 v9 v10 => cx.nrm (g9_m2 x8 v9 v10)) (fun v2 => cx.ret (g9_m1 v2)) x0 := by kernel_rfl
noncomputable def g9_2 {β : Type} (n : Nat) (kn : List (Int × ByteArray) → Int → Int → Option β) (kr : Bool → Option β) (kx0 : Option β) (x8 : List (Int × ByteArray)) (v9 : Int) (v10 : Int) : Option β := bif (decide (v10 < v9)) then (idx v10 (x8.length : Int) <| (g20 n (rd [(rd x8 v10 ((0 : Int), (⟨#[]⟩ : ByteArray)))] (0 : Int) ((0 : Int), (⟨#[]⟩ : ByteArray)))).bind fun r1 => bif (!r1.1) then (kr false) else (kn x8 v9 (w64 (v10 + (1 : Int))))) else kx0
noncomputable def g9_2F {β : Type} (n : Nat) (s : FState) (cx : Cx β) : Option β := FX (g9_G n) n (nav g9_B [1, 1, 0, 1, 0, 0, 0]) (.fin none none (some g9_m1e) [(0, g9_m3e)] .leaf) s { cx with nrm := fun s => FX (g9_G n) n (nav g9_B [1, 1, 0, 1, 0, 0, 1, 0]) (.fin none none (some g9_m1e) [(0, g9_m3e)] .leaf) s { cx with nrm := fun s => FX (g9_G n) n (nav g9_B [1, 1, 0, 1, 0, 0, 1, 1, 0]) (.fin none none (some g9_m1e) [(0, g9_m3e)] .leaf) s { cx with nrm := fun s => FX (g9_G n) n (nav g9_B [1, 1, 0, 1, 0, 0, 1, 1, 1]) (.fin none (some g9_m2e) (some g9_m1e) [(0, g9_m3e)] .leaf) s cx } } }
theorem g9_2_fx {β : Type} (n : Nat) (cx : Cx β) (x8 : List (Int × ByteArray)) (v9 : Int) (v10 : Int) : g9_2F n (g9_m2 x8 v9 v10) cx = g9_2 n (fun x8 v9 v10 => cx.nrm (g9_m2 x8 v9 v10)) (fun v2 => cx.ret (g9_m1 v2)) (cx.ex 0 g9_m3) x8 v9 v10 := by kernel_rfl
noncomputable def g9_3L {β : Type} (n : Nat) (kr : Bool → Option β) (kx0 : Option β) : Nat → List (Int × ByteArray) → Int → Int → Option β
  | 0, _, _, _ => none
  | m + 1, x8, v9, v10 => g9_2 n (g9_3L n kr kx0 m) kr kx0 x8 v9 v10
noncomputable def g9_3 {β : Type} (n : Nat) (kr : Bool → Option β) (kx0 : Option β) (x8 : List (Int × ByteArray)) (v9 : Int) (v10 : Int) : Option β := g9_3L n kr kx0 n x8 v9 v10
noncomputable def g9_3F {β : Type} (n : Nat) (s : FState) (cx : Cx β) : Option β := loopN (fun again s => g9_2F n s { cx with nrm := again }) n s
theorem g9_3L_fx {β : Type} (n : Nat) (cx : Cx β) : ∀ (m : Nat) (x8 : List (Int × ByteArray)) (v9 : Int) (v10 : Int), loopN (fun again s => g9_2F n s { cx with nrm := again }) m (g9_m2 x8 v9 v10) = g9_3L n (fun v2 => cx.ret (g9_m1 v2)) (cx.ex 0 g9_m3) m x8 v9 v10 := by
  intro m
  induction m with
  | zero => intros; rfl
  | succ m ih => intros; simp only [loopN, g9_3L, g9_2_fx, ih]
theorem g9_3_fx {β : Type} (n : Nat) (cx : Cx β) (x8 : List (Int × ByteArray)) (v9 : Int) (v10 : Int) : g9_3F n (g9_m2 x8 v9 v10) cx = g9_3 n (fun v2 => cx.ret (g9_m1 v2)) (cx.ex 0 g9_m3) x8 v9 v10 := g9_3L_fx n cx n x8 v9 v10
noncomputable def g9_4 {β : Type} (n : Nat) (kn : Option β) (kr : Bool → Option β) (x8 : List (Int × ByteArray)) (v9 : Int) (v10 : Int) : Option β := g9_3 n kr kn x8 v9 v10
noncomputable def g9_4F {β : Type} (n : Nat) (s : FState) (cx : Cx β) : Option β := g9_3F n s { cx with ex := fun j s => bif Nat.beq j 0 then cx.nrm s else cx.ex j s }
theorem g9_4_fx {β : Type} (n : Nat) (cx : Cx β) (x8 : List (Int × ByteArray)) (v9 : Int) (v10 : Int) : g9_4F n (g9_m2 x8 v9 v10) cx = g9_4 n (cx.nrm g9_m3) (fun v2 => cx.ret (g9_m1 v2)) x8 v9 v10 := g9_3_fx n _ x8 v9 v10
noncomputable def g9_5 {β : Type} (n : Nat) (kr : Bool → Option β) : Option β := kr true
noncomputable def g9_5F {β : Type} (n : Nat) (s : FState) (cx : Cx β) : Option β := FX (g9_G n) n (nav g9_B [1, 1, 1, 0]) (.fin none none (some g9_m1e) [] .leaf) s { cx with nrm := fun s => FX (g9_G n) n (nav g9_B [1, 1, 1, 1]) (.fin none none (some g9_m1e) [] .leaf) s cx }
theorem g9_5_fx {β : Type} (n : Nat) (cx : Cx β) : g9_5F n g9_m3 cx = g9_5 n (fun v2 => cx.ret (g9_m1 v2)) := by kernel_rfl
noncomputable def g9_6 {β : Type} (n : Nat) (kr : Bool → Option β) (x0 : List (Int × ByteArray)) : Option β := g9_1 n (fun x8 v9 v10 => g9_4 n (g9_5 n kr) kr x8 v9 v10) kr x0
noncomputable def g9_6F {β : Type} (n : Nat) (s : FState) (cx : Cx β) : Option β := g9_1F n s { cx with nrm := fun s => g9_4F n s { cx with nrm := fun s => g9_5F n s cx } }
theorem g9_6_fx {β : Type} (n : Nat) (cx : Cx β) (x0 : List (Int × ByteArray)) : g9_6F n (g9_m0 x0) cx = g9_6 n (fun v2 => cx.ret (g9_m1 v2)) x0 := by simp only [g9_6F, g9_6, g9_1_fx, g9_4_fx, g9_5_fx]
noncomputable def g9 (n : Nat) (x0 : List (Int × ByteArray)) : Option (DenR [.dat .bool]) := g9_6 n (fun v2 => some (v2, ())) x0
noncomputable def g9_A : List AK := [.ro (.pair (.int .i64) .str) 28]
noncomputable def g9_R : List RK := [.dat .bool]
noncomputable def g9_f (n : Nat) (d : DenA g9_A) : Option (DenR g9_R) := g9 n d.1
noncomputable def g9_S (n : Nat) : Spec := mkSpec g9_A g9_R (g9_f n)
noncomputable def g9_K : Sk := (.nd (.fin none none (some g9_m1e) [] .leaf) (.nd (.nd (.fin none none (some g9_m1e) [] .leaf) (.fin none none (some g9_m1e) [] .leaf)) (.nd (.nd (.fin none (some g9_m2e) (some g9_m1e) [] .leaf) (.nd (.nd (.nd (.fin none none (some g9_m1e) [(0, g9_m3e)] .leaf) (.nd (.fin none none (some g9_m1e) [(0, g9_m3e)] .leaf) (.nd (.fin none none (some g9_m1e) [(0, g9_m3e)] .leaf) (.fin none (some g9_m2e) (some g9_m1e) [(0, g9_m3e)] .leaf)))) .leaf) .leaf)) (.nd (.fin none none (some g9_m1e) [] .leaf) (.fin none none (some g9_m1e) [] .leaf)))))
theorem g9_top {β : Type} (n : Nat) (s : FState) (cx : Cx β) : FX (g9_G n) n g9_B g9_K s cx = g9_6F n s cx := by kernel_rfl
theorem g9_fit (n : Nat) : Fit Try.prog 9 (g9_S n) :=
  fit_of (Γ := Γ0) (l := g9_C n) (n := n) (sk := g9_K) (ts := [(2, none)]) (fn := Try.f9) (c := g9_B) (by kernel_rfl) (by kernel_rfl) (by unfold Callable; kernel_rfl) tab_ok ⟨g20_fit n, trivial⟩ follows_mixed (by kernel_rfl) (by kernel_rfl) (Nat.le_of_ble_eq_true (by kernel_rfl)) (by kernel_rfl) (by kernel_rfl)
    (fun d => (g9_top n _ _).trans (Eq.trans (b := g9_6F n (g9_m0 d.1) (finCx (g9_G n) g9_R [(2, none)])) (by kernel_rfl) ((g9_6_fx n _ d.1).trans (by kernel_rfl))))
noncomputable def g28_m0 (v0 : ByteArray) : FState := ⟨tlist [(0, .dat .str v0)], olist []⟩
noncomputable def g28_m1 (x2 : List Int) : FState := ⟨tlist [(2, .sl 2 none false)], olist [(2, .row (.int .i32) 21 true x2)]⟩
noncomputable def g28_m1e : List NE := [.row 2 (.int .i32) 21 true]
noncomputable def g28_C (n : Nat) : List (Nat × Spec) := []
noncomputable def g28_G (n : Nat) : Ctx := { Γ0 with calls := lkS (g28_C n) }
noncomputable def g28_B : Code := fb Try.f28
noncomputable def g28_1 {β : Type} (n : Nat) (kr : List Int → Option β) (v0 : ByteArray) : Option β := room46 v0 <| kr (runesOf v0)
noncomputable def g28_1F {β : Type} (n : Nat) (s : FState) (cx : Cx β) : Option β := FX (g28_G n) n (nav g28_B [0]) (.fin none none (some g28_m1e) [] .leaf) s { cx with nrm := fun s => FX (g28_G n) n (nav g28_B [1, 0]) (.fin none none (some g28_m1e) [] .leaf) s { cx with nrm := fun s => FX (g28_G n) n (nav g28_B [1, 1]) (.fin none none (some g28_m1e) [] .leaf) s cx } }
theorem g28_1_fx {β : Type} (n : Nat) (cx : Cx β) (v0 : ByteArray) : g28_1F n (g28_m0 v0) cx = g28_1 n (fun x2 => cx.ret (g28_m1 x2)) v0 := by kernel_rfl
noncomputable def g28 (n : Nat) (v0 : ByteArray) : Option (DenR [.rw (.int .i32) 21]) := g28_1 n (fun x2 => some (x2, ())) v0
noncomputable def g28_A : List AK := [.dat .str]
noncomputable def g28_R : List RK := [.rw (.int .i32) 21]
noncomputable def g28_f (n : Nat) (d : DenA g28_A) : Option (DenR g28_R) := g28 n d.1
noncomputable def g28_S (n : Nat) : Spec := mkSpec g28_A g28_R (g28_f n)
noncomputable def g28_K : Sk := (.nd (.fin none none (some g28_m1e) [] .leaf) (.nd (.fin none none (some g28_m1e) [] .leaf) (.fin none none (some g28_m1e) [] .leaf)))
theorem g28_top {β : Type} (n : Nat) (s : FState) (cx : Cx β) : FX (g28_G n) n g28_B g28_K s cx = g28_1F n s cx := by kernel_rfl
theorem g28_fit (n : Nat) : Fit Try.prog 28 (g28_S n) :=
  fit_of (Γ := Γ0) (l := g28_C n) (n := n) (sk := g28_K) (ts := [(2, none)]) (fn := Try.f28) (c := g28_B) (by kernel_rfl) (by kernel_rfl) (by unfold Callable; kernel_rfl) tab_ok trivial follows_mixed (by kernel_rfl) (by kernel_rfl) (Nat.le_of_ble_eq_true (by kernel_rfl)) (by kernel_rfl) (by kernel_rfl)
    (fun d => (g28_top n _ _).trans (Eq.trans (b := g28_1F n (g28_m0 d.1) (finCx (g28_G n) g28_R [(2, none)])) (by kernel_rfl) ((g28_1_fx n _ d.1).trans (by kernel_rfl))))
noncomputable def g21_m0 (v0 : ByteArray) (v1 : Int) : FState := ⟨tlist [(0, .dat .str v0), (1, .dat (.int .i64) v1)], olist []⟩
noncomputable def g21_m1 (v4 : ByteArray) : FState := ⟨tlist [(4, .dat .str v4)], olist []⟩
noncomputable def g21_m1e : List NE := [.keep 4]
noncomputable def g21_C (n : Nat) : List (Nat × Spec) := [(28, g28_S n)]
noncomputable def g21_G (n : Nat) : Ctx := { Γ0 with calls := lkS (g21_C n) }
noncomputable def g21_B : Code := fb Try.f21
noncomputable def g21_1 {β : Type} (n : Nat) (kr : ByteArray → Option β) (v0 : ByteArray) (v1 : Int) : Option β := (g28 n v0).bind fun r1 => bnd (0 : Int) (minI (r1.1.length : Int) v1) (r1.1.length : Int) <| kr (runesBytes (cut r1.1 (0 : Int) ((0 : Int) + ((minI (r1.1.length : Int) v1) - (0 : Int)))))
noncomputable def g21_1F {β : Type} (n : Nat) (s : FState) (cx : Cx β) : Option β := FX (g21_G n) n (nav g21_B [0]) (.fin none none (some g21_m1e) [] .leaf) s { cx with nrm := fun s => FX (g21_G n) n (nav g21_B [1, 0]) (.fin none none (some g21_m1e) [] .leaf) s { cx with nrm := fun s => FX (g21_G n) n (nav g21_B [1, 1, 0]) (.fin none none (some g21_m1e) [] .leaf) s { cx with nrm := fun s => FX (g21_G n) n (nav g21_B [1, 1, 1]) (.fin none none (some g21_m1e) [] .leaf) s cx } } }
theorem g21_1_fx {β : Type} (n : Nat) (cx : Cx β) (v0 : ByteArray) (v1 : Int) : g21_1F n (g21_m0 v0 v1) cx = g21_1 n (fun v4 => cx.ret (g21_m1 v4)) v0 v1 := by kernel_rfl
noncomputable def g21 (n : Nat) (v0 : ByteArray) (v1 : Int) : Option (DenR [.dat .str]) := g21_1 n (fun v4 => some (v4, ())) v0 v1
noncomputable def g21_A : List AK := [.dat .str, .dat (.int .i64)]
noncomputable def g21_R : List RK := [.dat .str]
noncomputable def g21_f (n : Nat) (d : DenA g21_A) : Option (DenR g21_R) := g21 n d.1 d.2.1
noncomputable def g21_S (n : Nat) : Spec := mkSpec g21_A g21_R (g21_f n)
noncomputable def g21_K : Sk := (.nd (.fin none none (some g21_m1e) [] .leaf) (.nd (.fin none none (some g21_m1e) [] .leaf) (.nd (.fin none none (some g21_m1e) [] .leaf) (.fin none none (some g21_m1e) [] .leaf))))
theorem g21_top {β : Type} (n : Nat) (s : FState) (cx : Cx β) : FX (g21_G n) n g21_B g21_K s cx = g21_1F n s cx := by kernel_rfl
theorem g21_fit (n : Nat) : Fit Try.prog 21 (g21_S n) :=
  fit_of (Γ := Γ0) (l := g21_C n) (n := n) (sk := g21_K) (ts := [(4, none)]) (fn := Try.f21) (c := g21_B) (by kernel_rfl) (by kernel_rfl) (by unfold Callable; kernel_rfl) tab_ok ⟨g28_fit n, trivial⟩ follows_mixed (by kernel_rfl) (by kernel_rfl) (Nat.le_of_ble_eq_true (by kernel_rfl)) (by kernel_rfl) (by kernel_rfl)
    (fun d => (g21_top n _ _).trans (Eq.trans (b := g21_1F n (g21_m0 d.1 d.2.1) (finCx (g21_G n) g21_R [(4, none)])) (by kernel_rfl) ((g21_1_fx n _ d.1 d.2.1).trans (by kernel_rfl))))
noncomputable def g10_m0 (x0 : List (Int × ByteArray)) (v1 : Int) : FState := ⟨tlist [(0, .sl 0 none false), (1, .dat (.int .i64) v1)], olist [(0, .row (.pair (.int .i64) .str) 28 false x0)]⟩
noncomputable def g10_m1 (x4 : List (Int × ByteArray)) : FState := ⟨tlist [(4, .sl 4 none false)], olist [(4, .row (.pair (.int .i64) .str) 28 true x4)]⟩
noncomputable def g10_m1e : List NE := [.row 4 (.pair (.int .i64) .str) 28 true]
noncomputable def g10_m2 (x0 : List (Int × ByteArray)) (v1 : Int) (x5 : List (Int × ByteArray)) (v6 : Int) : FState := ⟨tlist [(0, .sl 0 none false), (1, .dat (.int .i64) v1), (5, .sl 5 none false), (6, .dat (.int .i64) v6)], olist [(0, .row (.pair (.int .i64) .str) 28 false x0), (5, .row (.pair (.int .i64) .str) 28 true x5)]⟩
noncomputable def g10_m2e : List NE := [.row 0 (.pair (.int .i64) .str) 28 false, .keep 1, .row 5 (.pair (.int .i64) .str) 28 true, .keep 6]
noncomputable def g10_m3 (x5 : List (Int × ByteArray)) : FState := ⟨tlist [(5, .sl 5 none false)], olist [(5, .row (.pair (.int .i64) .str) 28 true x5)]⟩
noncomputable def g10_m3e : List NE := [.row 5 (.pair (.int .i64) .str) 28 true]
noncomputable def g10_C (n : Nat) : List (Nat × Spec) := [(21, g21_S n)]
noncomputable def g10_G (n : Nat) : Ctx := { Γ0 with calls := lkS (g10_C n) }
noncomputable def g10_B : Code := fb Try.f10
noncomputable def g10_1 {β : Type} (n : Nat) (kn : List (Int × ByteArray) → Int → List (Int × ByteArray) → Int → Option β) (x0 : List (Int × ByteArray)) (v1 : Int) : Option β := kn x0 v1 [] (0 : Int)
noncomputable def g10_1F {β : Type} (n : Nat) (s : FState) (cx : Cx β) : Option β := FX (g10_G n) n (nav g10_B [0]) (.fin none none none [] .leaf) s { cx with nrm := fun s => FX (g10_G n) n (nav g10_B [1, 0]) (.fin none none none [] .leaf) s { cx with nrm := fun s => FX (g10_G n) n (nav g10_B [1, 1, 0, 0]) (.fin none (some g10_m2e) none [] .leaf) s cx } }
theorem g10_1_fx {β : Type} (n : Nat) (cx : Cx β) (x0 : List (Int × ByteArray)) (v1 : Int) : g10_1F n (g10_m0 x0 v1) cx = g10_1 n (fun x0 v1 x5 v6 => cx.nrm (g10_m2 x0 v1 x5 v6)) x0 v1 := by kernel_rfl
noncomputable def g10_2 {β : Type} (n : Nat) (kn : List (Int × ByteArray) → Int → List (Int × ByteArray) → Int → Option β) (kx0 : List (Int × ByteArray) → Option β) (x0 : List (Int × ByteArray)) (v1 : Int) (x5 : List (Int × ByteArray)) (v6 : Int) : Option β := bif (decide (v6 < (x0.length : Int))) then (bif (decide (v6 < v1)) then (idx v6 (x0.length : Int) <| bif ((((rd x0 v6 ((0 : Int), (⟨#[]⟩ : ByteArray))).1).tmod (3 : Int)) == (2 : Int)) then (idx v6 (x0.length : Int) <| (g21 n ((rd x0 v6 ((0 : Int), (⟨#[]⟩ : ByteArray))).2) (30 : Int)).bind fun r1 => roomy (x5.length + [((w64 ((w64 (0 - (((rd x0 v6 ((0 : Int), (⟨#[]⟩ : ByteArray))).1).tmod (3 : Int)))).tdiv (2 : Int))), r1.1)].length) <| kn x0 v1 (x5 ++ [((w64 ((w64 (0 - (((rd x0 v6 ((0 : Int), (⟨#[]⟩ : ByteArray))).1).tmod (3 : Int)))).tdiv (2 : Int))), r1.1)]) (w64 (v6 + (1 : Int)))) else (bif ((((rd x0 v6 ((0 : Int), (⟨#[]⟩ : ByteArray))).1).tmod (3 : Int)) == (-2 : Int)) then (idx v6 (x0.length : Int) <| (g21 n ((rd x0 v6 ((0 : Int), (⟨#[]⟩ : ByteArray))).2) (30 : Int)).bind fun r2 => roomy (x5.length + [((w64 ((w64 (0 - (((rd x0 v6 ((0 : Int), (⟨#[]⟩ : ByteArray))).1).tmod (3 : Int)))).tdiv (2 : Int))), r2.1)].length) <| kn x0 v1 (x5 ++ [((w64 ((w64 (0 - (((rd x0 v6 ((0 : Int), (⟨#[]⟩ : ByteArray))).1).tmod (3 : Int)))).tdiv (2 : Int))), r2.1)]) (w64 (v6 + (1 : Int)))) else (idx v6 (x0.length : Int) <| (g21 n ((rd x0 v6 ((0 : Int), (⟨#[]⟩ : ByteArray))).2) (30 : Int)).bind fun r3 => roomy (x5.length + [((((rd x0 v6 ((0 : Int), (⟨#[]⟩ : ByteArray))).1).tmod (3 : Int)), r3.1)].length) <| kn x0 v1 (x5 ++ [((((rd x0 v6 ((0 : Int), (⟨#[]⟩ : ByteArray))).1).tmod (3 : Int)), r3.1)]) (w64 (v6 + (1 : Int)))))) else (kx0 x5)) else (kx0 x5)
noncomputable def g10_2F {β : Type} (n : Nat) (s : FState) (cx : Cx β) : Option β := FX (g10_G n) n (nav g10_B [1, 1, 0, 1, 0, 0, 0, 0]) (.fin none none none [(0, g10_m3e)] .leaf) s { cx with nrm := fun s => FX (g10_G n) n (nav g10_B [1, 1, 0, 1, 0, 0, 0, 1]) (.fin none none none [(0, g10_m3e)] .leaf) s { cx with nrm := fun s => FX (g10_G n) n (nav g10_B [1, 1, 0, 1, 0, 0, 1, 0]) (.fin none none none [(0, g10_m3e)] .leaf) s { cx with nrm := fun s => FX (g10_G n) n (nav g10_B [1, 1, 0, 1, 0, 0, 1, 1]) (.fin none (some g10_m2e) none [(0, g10_m3e)] .leaf) s cx } } }
theorem g10_2_fx {β : Type} (n : Nat) (cx : Cx β) (x0 : List (Int × ByteArray)) (v1 : Int) (x5 : List (Int × ByteArray)) (v6 : Int) : g10_2F n (g10_m2 x0 v1 x5 v6) cx = g10_2 n (fun x0 v1 x5 v6 => cx.nrm (g10_m2 x0 v1 x5 v6)) (fun x5 => cx.ex 0 (g10_m3 x5)) x0 v1 x5 v6 := by kernel_rfl
noncomputable def g10_3L {β : Type} (n : Nat) (kx0 : List (Int × ByteArray) → Option β) : Nat → List (Int × ByteArray) → Int → List (Int × ByteArray) → Int → Option β
  | 0, _, _, _, _ => none
  | m + 1, x0, v1, x5, v6 => g10_2 n (g10_3L n kx0 m) kx0 x0 v1 x5 v6
noncomputable def g10_3 {β : Type} (n : Nat) (kx0 : List (Int × ByteArray) → Option β) (x0 : List (Int × ByteArray)) (v1 : Int) (x5 : List (Int × ByteArray)) (v6 : Int) : Option β := g10_3L n kx0 n x0 v1 x5 v6
noncomputable def g10_3F {β : Type} (n : Nat) (s : FState) (cx : Cx β) : Option β := loopN (fun again s => g10_2F n s { cx with nrm := again }) n s
theorem g10_3L_fx {β : Type} (n : Nat) (cx : Cx β) : ∀ (m : Nat) (x0 : List (Int × ByteArray)) (v1 : Int) (x5 : List (Int × ByteArray)) (v6 : Int), loopN (fun again s => g10_2F n s { cx with nrm := again }) m (g10_m2 x0 v1 x5 v6) = g10_3L n (fun x5 => cx.ex 0 (g10_m3 x5)) m x0 v1 x5 v6 := by
  intro m
  induction m with
  | zero => intros; rfl
  | succ m ih => intros; simp only [loopN, g10_3L, g10_2_fx, ih]
theorem g10_3_fx {β : Type} (n : Nat) (cx : Cx β) (x0 : List (Int × ByteArray)) (v1 : Int) (x5 : List (Int × ByteArray)) (v6 : Int) : g10_3F n (g10_m2 x0 v1 x5 v6) cx = g10_3 n (fun x5 => cx.ex 0 (g10_m3 x5)) x0 v1 x5 v6 := g10_3L_fx n cx n x0 v1 x5 v6
noncomputable def g10_4 {β : Type} (n : Nat) (kn : List (Int × ByteArray) → Option β) (x0 : List (Int × ByteArray)) (v1 : Int) (x5 : List (Int × ByteArray)) (v6 : Int) : Option β := g10_3 n kn x0 v1 x5 v6
noncomputable def g10_4F {β : Type} (n : Nat) (s : FState) (cx : Cx β) : Option β := g10_3F n s { cx with ex := fun j s => bif Nat.beq j 0 then cx.nrm s else cx.ex j s }
theorem g10_4_fx {β : Type} (n : Nat) (cx : Cx β) (x0 : List (Int × ByteArray)) (v1 : Int) (x5 : List (Int × ByteArray)) (v6 : Int) : g10_4F n (g10_m2 x0 v1 x5 v6) cx = g10_4 n (fun x5 => cx.nrm (g10_m3 x5)) x0 v1 x5 v6 := g10_3_fx n _ x0 v1 x5 v6
noncomputable def g10_5 {β : Type} (n : Nat) (kr : List (Int × ByteArray) → Option β) (x5 : List (Int × ByteArray)) : Option β := kr x5
noncomputable def g10_5F {β : Type} (n : Nat) (s : FState) (cx : Cx β) : Option β := FX (g10_G n) n (nav g10_B [1, 1, 1, 0]) (.fin none none (some g10_m1e) [] .leaf) s { cx with nrm := fun s => FX (g10_G n) n (nav g10_B [1, 1, 1, 1]) (.fin none none (some g10_m1e) [] .leaf) s cx }
theorem g10_5_fx {β : Type} (n : Nat) (cx : Cx β) (x5 : List (Int × ByteArray)) : g10_5F n (g10_m3 x5) cx = g10_5 n (fun x4 => cx.ret (g10_m1 x4)) x5 := by kernel_rfl
noncomputable def g10_6 {β : Type} (n : Nat) (kr : List (Int × ByteArray) → Option β) (x0 : List (Int × ByteArray)) (v1 : Int) : Option β := g10_1 n (fun x0 v1 x5 v6 => g10_4 n (fun x5 => g10_5 n kr x5) x0 v1 x5 v6) x0 v1
noncomputable def g10_6F {β : Type} (n : Nat) (s : FState) (cx : Cx β) : Option β := g10_1F n s { cx with nrm := fun s => g10_4F n s { cx with nrm := fun s => g10_5F n s cx } }
theorem g10_6_fx {β : Type} (n : Nat) (cx : Cx β) (x0 : List (Int × ByteArray)) (v1 : Int) : g10_6F n (g10_m0 x0 v1) cx = g10_6 n (fun x4 => cx.ret (g10_m1 x4)) x0 v1 := by simp only [g10_6F, g10_6, g10_1_fx, g10_4_fx, g10_5_fx]
noncomputable def g10 (n : Nat) (x0 : List (Int × ByteArray)) (v1 : Int) : Option (DenR [.rw (.pair (.int .i64) .str) 28]) := g10_6 n (fun x4 => some (x4, ())) x0 v1
noncomputable def g10_A : List AK := [.ro (.pair (.int .i64) .str) 28, .dat (.int .i64)]
noncomputable def g10_R : List RK := [.rw (.pair (.int .i64) .str) 28]
noncomputable def g10_f (n : Nat) (d : DenA g10_A) : Option (DenR g10_R) := g10 n d.1 d.2.1
noncomputable def g10_S (n : Nat) : Spec := mkSpec g10_A g10_R (g10_f n)
noncomputable def g10_K : Sk := (.nd (.fin none none none [] .leaf) (.nd (.fin none none none [] .leaf) (.nd (.nd (.fin none (some g10_m2e) none [] .leaf) (.nd (.nd (.nd (.nd (.fin none none none [(0, g10_m3e)] .leaf) (.fin none none none [(0, g10_m3e)] .leaf)) (.nd (.fin none none none [(0, g10_m3e)] .leaf) (.fin none (some g10_m2e) none [(0, g10_m3e)] .leaf))) .leaf) .leaf)) (.nd (.fin none none (some g10_m1e) [] .leaf) (.fin none none (some g10_m1e) [] .leaf)))))
theorem g10_top {β : Type} (n : Nat) (s : FState) (cx : Cx β) : FX (g10_G n) n g10_B g10_K s cx = g10_6F n s cx := by kernel_rfl
theorem g10_fit (n : Nat) : Fit Try.prog 10 (g10_S n) :=
  fit_of (Γ := Γ0) (l := g10_C n) (n := n) (sk := g10_K) (ts := [(4, none)]) (fn := Try.f10) (c := g10_B) (by kernel_rfl) (by kernel_rfl) (by unfold Callable; kernel_rfl) tab_ok ⟨g21_fit n, trivial⟩ follows_mixed (by kernel_rfl) (by kernel_rfl) (Nat.le_of_ble_eq_true (by kernel_rfl)) (by kernel_rfl) (by kernel_rfl)
    (fun d => (g10_top n _ _).trans (Eq.trans (b := g10_6F n (g10_m0 d.1 d.2.1) (finCx (g10_G n) g10_R [(4, none)])) (by kernel_rfl) ((g10_6_fx n _ d.1 d.2.1).trans (by kernel_rfl))))
noncomputable def g31_m0 : FState := ⟨tlist [], olist []⟩
noncomputable def g31_m1 (p0 : (Int × (Int × (Int × (Nat × (Int × (Int × Nat))))))) : FState := ⟨tlist [(0, .ptr 0 0 0)], olist [(0, .row (.pair (.int .i64) (.pair (.int .i64) (.pair (.int .i64) (.pair (.flt .f64) (.pair (.int .i64) (.pair (.int .i64) (.flt .f64))))))) 54 true [p0])]⟩
noncomputable def g31_m1e : List NE := [.ptr 0 (.pair (.int .i64) (.pair (.int .i64) (.pair (.int .i64) (.pair (.flt .f64) (.pair (.int .i64) (.pair (.int .i64) (.flt .f64))))))) 54 true]
noncomputable def g31_C (n : Nat) : List (Nat × Spec) := []
noncomputable def g31_G (n : Nat) : Ctx := { Γ0 with calls := lkS (g31_C n) }
noncomputable def g31_B : Code := fb Try.f31
noncomputable def g31_1 {β : Type} (n : Nat) (kr : (Int × (Int × (Int × (Nat × (Int × (Int × Nat)))))) → Option β) : Option β := kr ((1000000000 : Int), ((4 : Int), ((1000 : Int), ((4602678819172646912 : Nat), ((4 : Int), ((32 : Int), (4602678819172646912 : Nat)))))))
noncomputable def g31_1F {β : Type} (n : Nat) (s : FState) (cx : Cx β) : Option β := FX (g31_G n) n (nav g31_B [0]) (.fin none none (some g31_m1e) [] .leaf) s { cx with nrm := fun s => FX (g31_G n) n (nav g31_B [1, 0]) (.fin none none (some g31_m1e) [] .leaf) s { cx with nrm := fun s => FX (g31_G n) n (nav g31_B [1, 1]) (.fin none none (some g31_m1e) [] .leaf) s cx } }
theorem g31_1_fx {β : Type} (n : Nat) (cx : Cx β) : g31_1F n g31_m0 cx = g31_1 n (fun p0 => cx.ret (g31_m1 p0)) := by kernel_rfl
noncomputable def g31 (n : Nat) : Option (DenR [.ptr (.pair (.int .i64) (.pair (.int .i64) (.pair (.int .i64) (.pair (.flt .f64) (.pair (.int .i64) (.pair (.int .i64) (.flt .f64))))))) 54]) := g31_1 n (fun p0 => some (p0, ()))
noncomputable def g31_A : List AK := []
noncomputable def g31_R : List RK := [.ptr (.pair (.int .i64) (.pair (.int .i64) (.pair (.int .i64) (.pair (.flt .f64) (.pair (.int .i64) (.pair (.int .i64) (.flt .f64))))))) 54]
noncomputable def g31_f (n : Nat) (d : DenA g31_A) : Option (DenR g31_R) := g31 n
noncomputable def g31_S (n : Nat) : Spec := mkSpec g31_A g31_R (g31_f n)
noncomputable def g31_K : Sk := (.nd (.fin none none (some g31_m1e) [] .leaf) (.nd (.fin none none (some g31_m1e) [] .leaf) (.fin none none (some g31_m1e) [] .leaf)))
theorem g31_top {β : Type} (n : Nat) (s : FState) (cx : Cx β) : FX (g31_G n) n g31_B g31_K s cx = g31_1F n s cx := by kernel_rfl
theorem g31_fit (n : Nat) : Fit Try.prog 31 (g31_S n) :=
  fit_of (Γ := Γ0) (l := g31_C n) (n := n) (sk := g31_K) (ts := [(0, none)]) (fn := Try.f31) (c := g31_B) (by kernel_rfl) (by kernel_rfl) (by unfold Callable; kernel_rfl) tab_ok trivial follows_mixed (by kernel_rfl) (by kernel_rfl) (Nat.le_of_ble_eq_true (by kernel_rfl)) (by kernel_rfl) (by kernel_rfl)
    (fun d => (g31_top n _ _).trans (Eq.trans (b := g31_1F n (g31_m0) (finCx (g31_G n) g31_R [(0, none)])) (by kernel_rfl) ((g31_1_fx n _).trans (by kernel_rfl))))
noncomputable def g41_m0 (v0 : Int) : FState := ⟨tlist [(0, .dat (.int .i64) v0)], olist []⟩
noncomputable def g41_m1 (v2 : Int) : FState := ⟨tlist [(2, .dat (.int .i8) v2)], olist []⟩
noncomputable def g41_m1e : List NE := [.keep 2]
noncomputable def g41_C (n : Nat) : List (Nat × Spec) := []
noncomputable def g41_G (n : Nat) : Ctx := { Γ0 with calls := lkS (g41_C n) }
noncomputable def g41_B : Code := fb Try.f41
noncomputable def g41_1 {β : Type} (n : Nat) (kr : Int → Option β) (v0 : Int) : Option β := bif (v0 == (-1 : Int)) then (kr (-1 : Int)) else (bif (v0 == (1 : Int)) then (kr (1 : Int)) else (kr (0 : Int)))
noncomputable def g41_1F {β : Type} (n : Nat) (s : FState) (cx : Cx β) : Option β := FX (g41_G n) n (nav g41_B [0]) (.fin none none (some g41_m1e) [] .leaf) s { cx with nrm := fun s => FX (g41_G n) n (nav g41_B [1, 0, 0]) (.fin none none (some g41_m1e) [] .leaf) s { cx with nrm := fun s => FX (g41_G n) n (nav g41_B [1, 0, 1]) (.fin none none (some g41_m1e) [] .leaf) s { cx with nrm := fun s => FX (g41_G n) n (nav g41_B [1, 1, 0]) (.fin none none (some g41_m1e) [] .leaf) s { cx with nrm := fun s => FX (g41_G n) n (nav g41_B [1, 1, 1]) (.fin none none (some g41_m1e) [] .leaf) s cx } } } }
theorem g41_1_fx {β : Type} (n : Nat) (cx : Cx β) (v0 : Int) : g41_1F n (g41_m0 v0) cx = g41_1 n (fun v2 => cx.ret (g41_m1 v2)) v0 := by kernel_rfl
noncomputable def g41 (n : Nat) (v0 : Int) : Option (DenR [.dat (.int .i8)]) := g41_1 n (fun v2 => some (v2, ())) v0
noncomputable def g41_A : List AK := [.dat (.int .i64)]
noncomputable def g41_R : List RK := [.dat (.int .i8)]
noncomputable def g41_f (n : Nat) (d : DenA g41_A) : Option (DenR g41_R) := g41 n d.1
noncomputable def g41_S (n : Nat) : Spec := mkSpec g41_A g41_R (g41_f n)
noncomputable def g41_K : Sk := (.nd (.fin none none (some g41_m1e) [] .leaf) (.nd (.nd (.fin none none (some g41_m1e) [] .leaf) (.fin none none (some g41_m1e) [] .leaf)) (.nd (.fin none none (some g41_m1e) [] .leaf) (.fin none none (some g41_m1e) [] .leaf))))
theorem g41_top {β : Type} (n : Nat) (s : FState) (cx : Cx β) : FX (g41_G n) n g41_B g41_K s cx = g41_1F n s cx := by kernel_rfl
theorem g41_fit (n : Nat) : Fit Try.prog 41 (g41_S n) :=
  fit_of (Γ := Γ0) (l := g41_C n) (n := n) (sk := g41_K) (ts := [(2, none)]) (fn := Try.f41) (c := g41_B) (by kernel_rfl) (by kernel_rfl) (by unfold Callable; kernel_rfl) tab_ok trivial follows_mixed (by kernel_rfl) (by kernel_rfl) (Nat.le_of_ble_eq_true (by kernel_rfl)) (by kernel_rfl) (by kernel_rfl)
    (fun d => (g41_top n _ _).trans (Eq.trans (b := g41_1F n (g41_m0 d.1) (finCx (g41_G n) g41_R [(2, none)])) (by kernel_rfl) ((g41_1_fx n _ d.1).trans (by kernel_rfl))))
noncomputable def g33_m0 (x0 : List (Int × ByteArray)) : FState := ⟨tlist [(0, .sl 0 none false)], olist [(0, .row (.pair (.int .i64) .str) 28 false x0)]⟩
noncomputable def g33_m1 (x2 : List (Int × ByteArray)) : FState := ⟨tlist [(2, .sl 2 none false)], olist [(2, .row (.pair (.int .i8) .str) 51 true x2)]⟩
noncomputable def g33_m1e : List NE := [.row 2 (.pair (.int .i8) .str) 51 true]
noncomputable def g33_m2 (x3 : List (Int × ByteArray)) (x6 : List (Int × ByteArray)) (v7 : Int) (v8 : Int) : FState := ⟨tlist [(3, .sl 3 none false), (6, .sl 6 none false), (7, .dat (.int .i64) v7), (8, .dat (.int .i64) v8)], olist [(3, .row (.pair (.int .i8) .str) 51 true x3), (6, .row (.pair (.int .i64) .str) 28 false x6)]⟩
noncomputable def g33_m2e : List NE := [.row 3 (.pair (.int .i8) .str) 51 true, .row 6 (.pair (.int .i64) .str) 28 false, .keep 7, .keep 8]
noncomputable def g33_m3 (x3 : List (Int × ByteArray)) : FState := ⟨tlist [(3, .sl 3 none false)], olist [(3, .row (.pair (.int .i8) .str) 51 true x3)]⟩
noncomputable def g33_m3e : List NE := [.row 3 (.pair (.int .i8) .str) 51 true]
noncomputable def g33_C (n : Nat) : List (Nat × Spec) := [(41, g41_S n)]
noncomputable def g33_G (n : Nat) : Ctx := { Γ0 with calls := lkS (g33_C n) }
noncomputable def g33_B : Code := fb Try.f33
noncomputable def g33_1 {β : Type} (n : Nat) (kn : List (Int × ByteArray) → List (Int × ByteArray) → Int → Int → Option β) (x0 : List (Int × ByteArray)) : Option β := kn [] x0 (x0.length : Int) (0 : Int)
noncomputable def g33_1F {β : Type} (n : Nat) (s : FState) (cx : Cx β) : Option β := FX (g33_G n) n (nav g33_B [0]) (.fin none none none [] .leaf) s { cx with nrm := fun s => FX (g33_G n) n (nav g33_B [1, 0]) (.fin none none none [] .leaf) s { cx with nrm := fun s => FX (g33_G n) n (nav g33_B [1, 1, 0, 0]) (.fin none (some g33_m2e) none [] .leaf) s cx } }
theorem g33_1_fx {β : Type} (n : Nat) (cx : Cx β) (x0 : List (Int × ByteArray)) : g33_1F n (g33_m0 x0) cx = g33_1 n (fun x3 x6 v7 v8 => cx.nrm (g33_m2 x3 x6 v7 v8)) x0 := by kernel_rfl
noncomputable def g33_2 {β : Type} (n : Nat) (kn : List (Int × ByteArray) → List (Int × ByteArray) → Int → Int → Option β) (kx0 : List (Int × ByteArray) → Option β) (x3 : List (Int × ByteArray)) (x6 : List (Int × ByteArray)) (v7 : Int) (v8 : Int) : Option β := bif (decide (v8 < v7)) then (idx v8 (x6.length : Int) <| (g41 n ((rd [(rd x6 v8 ((0 : Int), (⟨#[]⟩ : ByteArray)))] (0 : Int) ((0 : Int), (⟨#[]⟩ : ByteArray))).1)).bind fun r1 => roomy (x3.length + [(r1.1, (rd [(rd x6 v8 ((0 : Int), (⟨#[]⟩ : ByteArray)))] (0 : Int) ((0 : Int), (⟨#[]⟩ : ByteArray))).2)].length) <| kn (x3 ++ [(r1.1, (rd [(rd x6 v8 ((0 : Int), (⟨#[]⟩ : ByteArray)))] (0 : Int) ((0 : Int), (⟨#[]⟩ : ByteArray))).2)]) x6 v7 (w64 (v8 + (1 : Int)))) else (kx0 x3)
noncomputable def g33_2F {β : Type} (n : Nat) (s : FState) (cx : Cx β) : Option β := FX (g33_G n) n (nav g33_B [1, 1, 0, 1, 0, 0, 0]) (.fin none none none [(0, g33_m3e)] .leaf) s { cx with nrm := fun s => FX (g33_G n) n (nav g33_B [1, 1, 0, 1, 0, 0, 1, 0]) (.fin none none none [(0, g33_m3e)] .leaf) s { cx with nrm := fun s => FX (g33_G n) n (nav g33_B [1, 1, 0, 1, 0, 0, 1, 1, 0]) (.fin none none none [(0, g33_m3e)] .leaf) s { cx with nrm := fun s => FX (g33_G n) n (nav g33_B [1, 1, 0, 1, 0, 0, 1, 1, 1]) (.fin none (some g33_m2e) none [(0, g33_m3e)] .leaf) s cx } } }
theorem g33_2_fx {β : Type} (n : Nat) (cx : Cx β) (x3 : List (Int × ByteArray)) (x6 : List (Int × ByteArray)) (v7 : Int) (v8 : Int) : g33_2F n (g33_m2 x3 x6 v7 v8) cx = g33_2 n (fun x3 x6 v7 v8 => cx.nrm (g33_m2 x3 x6 v7 v8)) (fun x3 => cx.ex 0 (g33_m3 x3)) x3 x6 v7 v8 := by kernel_rfl
noncomputable def g33_3L {β : Type} (n : Nat) (kx0 : List (Int × ByteArray) → Option β) : Nat → List (Int × ByteArray) → List (Int × ByteArray) → Int → Int → Option β
  | 0, _, _, _, _ => none
  | m + 1, x3, x6, v7, v8 => g33_2 n (g33_3L n kx0 m) kx0 x3 x6 v7 v8
noncomputable def g33_3 {β : Type} (n : Nat) (kx0 : List (Int × ByteArray) → Option β) (x3 : List (Int × ByteArray)) (x6 : List (Int × ByteArray)) (v7 : Int) (v8 : Int) : Option β := g33_3L n kx0 n x3 x6 v7 v8
noncomputable def g33_3F {β : Type} (n : Nat) (s : FState) (cx : Cx β) : Option β := loopN (fun again s => g33_2F n s { cx with nrm := again }) n s
theorem g33_3L_fx {β : Type} (n : Nat) (cx : Cx β) : ∀ (m : Nat) (x3 : List (Int × ByteArray)) (x6 : List (Int × ByteArray)) (v7 : Int) (v8 : Int), loopN (fun again s => g33_2F n s { cx with nrm := again }) m (g33_m2 x3 x6 v7 v8) = g33_3L n (fun x3 => cx.ex 0 (g33_m3 x3)) m x3 x6 v7 v8 := by
  intro m
  induction m with
  | zero => intros; rfl
  | succ m ih => intros; simp only [loopN, g33_3L, g33_2_fx, ih]
theorem g33_3_fx {β : Type} (n : Nat) (cx : Cx β) (x3 : List (Int × ByteArray)) (x6 : List (Int × ByteArray)) (v7 : Int) (v8 : Int) : g33_3F n (g33_m2 x3 x6 v7 v8) cx = g33_3 n (fun x3 => cx.ex 0 (g33_m3 x3)) x3 x6 v7 v8 := g33_3L_fx n cx n x3 x6 v7 v8
noncomputable def g33_4 {β : Type} (n : Nat) (kn : List (Int × ByteArray) → Option β) (x3 : List (Int × ByteArray)) (x6 : List (Int × ByteArray)) (v7 : Int) (v8 : Int) : Option β := g33_3 n kn x3 x6 v7 v8
noncomputable def g33_4F {β : Type} (n : Nat) (s : FState) (cx : Cx β) : Option β := g33_3F n s { cx with ex := fun j s => bif Nat.beq j 0 then cx.nrm s else cx.ex j s }
theorem g33_4_fx {β : Type} (n : Nat) (cx : Cx β) (x3 : List (Int × ByteArray)) (x6 : List (Int × ByteArray)) (v7 : Int) (v8 : Int) : g33_4F n (g33_m2 x3 x6 v7 v8) cx = g33_4 n (fun x3 => cx.nrm (g33_m3 x3)) x3 x6 v7 v8 := g33_3_fx n _ x3 x6 v7 v8
noncomputable def g33_5 {β : Type} (n : Nat) (kr : List (Int × ByteArray) → Option β) (x3 : List (Int × ByteArray)) : Option β := kr x3
noncomputable def g33_5F {β : Type} (n : Nat) (s : FState) (cx : Cx β) : Option β := FX (g33_G n) n (nav g33_B [1, 1, 1, 0]) (.fin none none (some g33_m1e) [] .leaf) s { cx with nrm := fun s => FX (g33_G n) n (nav g33_B [1, 1, 1, 1]) (.fin none none (some g33_m1e) [] .leaf) s cx }
theorem g33_5_fx {β : Type} (n : Nat) (cx : Cx β) (x3 : List (Int × ByteArray)) : g33_5F n (g33_m3 x3) cx = g33_5 n (fun x2 => cx.ret (g33_m1 x2)) x3 := by kernel_rfl
noncomputable def g33_6 {β : Type} (n : Nat) (kr : List (Int × ByteArray) → Option β) (x0 : List (Int × ByteArray)) : Option β := g33_1 n (fun x3 x6 v7 v8 => g33_4 n (fun x3 => g33_5 n kr x3) x3 x6 v7 v8) x0
noncomputable def g33_6F {β : Type} (n : Nat) (s : FState) (cx : Cx β) : Option β := g33_1F n s { cx with nrm := fun s => g33_4F n s { cx with nrm := fun s => g33_5F n s cx } }
theorem g33_6_fx {β : Type} (n : Nat) (cx : Cx β) (x0 : List (Int × ByteArray)) : g33_6F n (g33_m0 x0) cx = g33_6 n (fun x2 => cx.ret (g33_m1 x2)) x0 := by simp only [g33_6F, g33_6, g33_1_fx, g33_4_fx, g33_5_fx]
noncomputable def g33 (n : Nat) (x0 : List (Int × ByteArray)) : Option (DenR [.rw (.pair (.int .i8) .str) 51]) := g33_6 n (fun x2 => some (x2, ())) x0
noncomputable def g33_A : List AK := [.ro (.pair (.int .i64) .str) 28]
noncomputable def g33_R : List RK := [.rw (.pair (.int .i8) .str) 51]
noncomputable def g33_f (n : Nat) (d : DenA g33_A) : Option (DenR g33_R) := g33 n d.1
noncomputable def g33_S (n : Nat) : Spec := mkSpec g33_A g33_R (g33_f n)
noncomputable def g33_K : Sk := (.nd (.fin none none none [] .leaf) (.nd (.fin none none none [] .leaf) (.nd (.nd (.fin none (some g33_m2e) none [] .leaf) (.nd (.nd (.nd (.fin none none none [(0, g33_m3e)] .leaf) (.nd (.fin none none none [(0, g33_m3e)] .leaf) (.nd (.fin none none none [(0, g33_m3e)] .leaf) (.fin none (some g33_m2e) none [(0, g33_m3e)] .leaf)))) .leaf) .leaf)) (.nd (.fin none none (some g33_m1e) [] .leaf) (.fin none none (some g33_m1e) [] .leaf)))))
theorem g33_top {β : Type} (n : Nat) (s : FState) (cx : Cx β) : FX (g33_G n) n g33_B g33_K s cx = g33_6F n s cx := by kernel_rfl
theorem g33_fit (n : Nat) : Fit Try.prog 33 (g33_S n) :=
  fit_of (Γ := Γ0) (l := g33_C n) (n := n) (sk := g33_K) (ts := [(2, none)]) (fn := Try.f33) (c := g33_B) (by kernel_rfl) (by kernel_rfl) (by unfold Callable; kernel_rfl) tab_ok ⟨g41_fit n, trivial⟩ follows_mixed (by kernel_rfl) (by kernel_rfl) (Nat.le_of_ble_eq_true (by kernel_rfl)) (by kernel_rfl) (by kernel_rfl)
    (fun d => (g33_top n _ _).trans (Eq.trans (b := g33_6F n (g33_m0 d.1) (finCx (g33_G n) g33_R [(2, none)])) (by kernel_rfl) ((g33_6_fx n _ d.1).trans (by kernel_rfl))))
noncomputable def g36_m0 (x0 : List Int) (x1 : List Int) : FState := ⟨tlist [(0, .sl 0 none false), (1, .sl 1 none false)], olist [(0, .row (.int .i32) 21 false x0), (1, .row (.int .i32) 21 false x1)]⟩
noncomputable def g36_m1 (v4 : Int) : FState := ⟨tlist [(4, .dat (.int .i64) v4)], olist []⟩
noncomputable def g36_m1e : List NE := [.keep 4]
noncomputable def g36_m2 (x0 : List Int) (x1 : List Int) (v5 : Int) : FState := ⟨tlist [(0, .sl 0 none false), (1, .sl 1 none false), (5, .dat (.int .i64) v5)], olist [(0, .row (.int .i32) 21 false x0), (1, .row (.int .i32) 21 false x1)]⟩
noncomputable def g36_m2e : List NE := [.row 0 (.int .i32) 21 false, .row 1 (.int .i32) 21 false, .keep 5]
noncomputable def g36_m3 (v5 : Int) : FState := ⟨tlist [(5, .dat (.int .i64) v5)], olist []⟩
noncomputable def g36_m3e : List NE := [.keep 5]
noncomputable def g36_C (n : Nat) : List (Nat × Spec) := []
noncomputable def g36_G (n : Nat) : Ctx := { Γ0 with calls := lkS (g36_C n) }
noncomputable def g36_B : Code := fb Try.f36
noncomputable def g36_1 {β : Type} (n : Nat) (kn : List Int → List Int → Int → Option β) (x0 : List Int) (x1 : List Int) : Option β := kn x0 x1 (0 : Int)
noncomputable def g36_1F {β : Type} (n : Nat) (s : FState) (cx : Cx β) : Option β := FX (g36_G n) n (nav g36_B [0]) (.fin none none none [] .leaf) s { cx with nrm := fun s => FX (g36_G n) n (nav g36_B [1, 0]) (.fin none (some g36_m2e) none [] .leaf) s cx }
theorem g36_1_fx {β : Type} (n : Nat) (cx : Cx β) (x0 : List Int) (x1 : List Int) : g36_1F n (g36_m0 x0 x1) cx = g36_1 n (fun x0 x1 v5 => cx.nrm (g36_m2 x0 x1 v5)) x0 x1 := by kernel_rfl
noncomputable def g36_2 {β : Type} (n : Nat) (kn : List Int → List Int → Int → Option β) (kr : Int → Option β) (kx0 : Int → Option β) (x0 : List Int) (x1 : List Int) (v5 : Int) : Option β := bif (decide (v5 < (x0.length : Int))) then (bif (decide (v5 < (x1.length : Int))) then (idx v5 (x0.length : Int) <| idx v5 (x1.length : Int) <| bif ((rd x0 v5 (0 : Int)) != (rd x1 v5 (0 : Int))) then (kr v5) else (kn x0 x1 (w64 (v5 + (1 : Int))))) else (kx0 v5)) else (kx0 v5)
noncomputable def g36_2F {β : Type} (n : Nat) (s : FState) (cx : Cx β) : Option β := FX (g36_G n) n (nav g36_B [1, 1, 0, 0, 0, 0, 0]) (.fin none none (some g36_m1e) [(0, g36_m3e)] .leaf) s { cx with nrm := fun s => FX (g36_G n) n (nav g36_B [1, 1, 0, 0, 0, 0, 1]) (.fin none none (some g36_m1e) [(0, g36_m3e)] .leaf) s { cx with nrm := fun s => FX (g36_G n) n (nav g36_B [1, 1, 0, 0, 0, 1, 0]) (.fin none none (some g36_m1e) [(0, g36_m3e)] .leaf) s { cx with nrm := fun s => FX (g36_G n) n (nav g36_B [1, 1, 0, 0, 0, 1, 1]) (.fin none (some g36_m2e) (some g36_m1e) [(0, g36_m3e)] .leaf) s cx } } }
theorem g36_2_fx {β : Type} (n : Nat) (cx : Cx β) (x0 : List Int) (x1 : List Int) (v5 : Int) : g36_2F n (g36_m2 x0 x1 v5) cx = g36_2 n (fun x0 x1 v5 => cx.nrm (g36_m2 x0 x1 v5)) (fun v4 => cx.ret (g36_m1 v4)) (fun v5 => cx.ex 0 (g36_m3 v5)) x0 x1 v5 := by kernel_rfl
noncomputable def g36_3L {β : Type} (n : Nat) (kr : Int → Option β) (kx0 : Int → Option β) : Nat → List Int → List Int → Int → Option β
  | 0, _, _, _ => none
  | m + 1, x0, x1, v5 => g36_2 n (g36_3L n kr kx0 m) kr kx0 x0 x1 v5
noncomputable def g36_3 {β : Type} (n : Nat) (kr : Int → Option β) (kx0 : Int → Option β) (x0 : List Int) (x1 : List Int) (v5 : Int) : Option β := g36_3L n kr kx0 n x0 x1 v5
noncomputable def g36_3F {β : Type} (n : Nat) (s : FState) (cx : Cx β) : Option β := loopN (fun again s => g36_2F n s { cx with nrm := again }) n s
theorem g36_3L_fx {β : Type} (n : Nat) (cx : Cx β) : ∀ (m : Nat) (x0 : List Int) (x1 : List Int) (v5 : Int), loopN (fun again s => g36_2F n s { cx with nrm := again }) m (g36_m2 x0 x1 v5) = g36_3L n (fun v4 => cx.ret (g36_m1 v4)) (fun v5 => cx.ex 0 (g36_m3 v5)) m x0 x1 v5 := by
  intro m
  induction m with
  | zero => intros; rfl
  | succ m ih => intros; simp only [loopN, g36_3L, g36_2_fx, ih]
theorem g36_3_fx {β : Type} (n : Nat) (cx : Cx β) (x0 : List Int) (x1 : List Int) (v5 : Int) : g36_3F n (g36_m2 x0 x1 v5) cx = g36_3 n (fun v4 => cx.ret (g36_m1 v4)) (fun v5 => cx.ex 0 (g36_m3 v5)) x0 x1 v5 := g36_3L_fx n cx n x0 x1 v5
noncomputable def g36_4 {β : Type} (n : Nat) (kn : Int → Option β) (kr : Int → Option β) (x0 : List Int) (x1 : List Int) (v5 : Int) : Option β := g36_3 n kr kn x0 x1 v5
noncomputable def g36_4F {β : Type} (n : Nat) (s : FState) (cx : Cx β) : Option β := g36_3F n s { cx with ex := fun j s => bif Nat.beq j 0 then cx.nrm s else cx.ex j s }
theorem g36_4_fx {β : Type} (n : Nat) (cx : Cx β) (x0 : List Int) (x1 : List Int) (v5 : Int) : g36_4F n (g36_m2 x0 x1 v5) cx = g36_4 n (fun v5 => cx.nrm (g36_m3 v5)) (fun v4 => cx.ret (g36_m1 v4)) x0 x1 v5 := g36_3_fx n _ x0 x1 v5
noncomputable def g36_5 {β : Type} (n : Nat) (kr : Int → Option β) (v5 : Int) : Option β := kr v5
noncomputable def g36_5F {β : Type} (n : Nat) (s : FState) (cx : Cx β) : Option β := FX (g36_G n) n (nav g36_B [1, 1, 1, 0]) (.fin none none (some g36_m1e) [] .leaf) s { cx with nrm := fun s => FX (g36_G n) n (nav g36_B [1, 1, 1, 1]) (.fin none none (some g36_m1e) [] .leaf) s cx }
theorem g36_5_fx {β : Type} (n : Nat) (cx : Cx β) (v5 : Int) : g36_5F n (g36_m3 v5) cx = g36_5 n (fun v4 => cx.ret (g36_m1 v4)) v5 := by kernel_rfl
noncomputable def g36_6 {β : Type} (n : Nat) (kr : Int → Option β) (x0 : List Int) (x1 : List Int) : Option β := g36_1 n (fun x0 x1 v5 => g36_4 n (fun v5 => g36_5 n kr v5) kr x0 x1 v5) x0 x1
noncomputable def g36_6F {β : Type} (n : Nat) (s : FState) (cx : Cx β) : Option β := g36_1F n s { cx with nrm := fun s => g36_4F n s { cx with nrm := fun s => g36_5F n s cx } }
theorem g36_6_fx {β : Type} (n : Nat) (cx : Cx β) (x0 : List Int) (x1 : List Int) : g36_6F n (g36_m0 x0 x1) cx = g36_6 n (fun v4 => cx.ret (g36_m1 v4)) x0 x1 := by simp only [g36_6F, g36_6, g36_1_fx, g36_4_fx, g36_5_fx]
noncomputable def g36 (n : Nat) (x0 : List Int) (x1 : List Int) : Option (DenR [.dat (.int .i64)]) := g36_6 n (fun v4 => some (v4, ())) x0 x1
noncomputable def g36_A : List AK := [.ro (.int .i32) 21, .ro (.int .i32) 21]
noncomputable def g36_R : List RK := [.dat (.int .i64)]
noncomputable def g36_f (n : Nat) (d : DenA g36_A) : Option (DenR g36_R) := g36 n d.1 d.2.1
noncomputable def g36_S (n : Nat) : Spec := mkSpec g36_A g36_R (g36_f n)
noncomputable def g36_K : Sk := (.nd (.fin none none none [] .leaf) (.nd (.fin none (some g36_m2e) none [] .leaf) (.nd (.nd (.nd (.nd (.nd (.fin none none (some g36_m1e) [(0, g36_m3e)] .leaf) (.fin none none (some g36_m1e) [(0, g36_m3e)] .leaf)) (.nd (.fin none none (some g36_m1e) [(0, g36_m3e)] .leaf) (.fin none (some g36_m2e) (some g36_m1e) [(0, g36_m3e)] .leaf))) .leaf) .leaf) (.nd (.fin none none (some g36_m1e) [] .leaf) (.fin none none (some g36_m1e) [] .leaf)))))
theorem g36_top {β : Type} (n : Nat) (s : FState) (cx : Cx β) : FX (g36_G n) n g36_B g36_K s cx = g36_6F n s cx := by kernel_rfl
theorem g36_fit (n : Nat) : Fit Try.prog 36 (g36_S n) :=
  fit_of (Γ := Γ0) (l := g36_C n) (n := n) (sk := g36_K) (ts := [(4, none)]) (fn := Try.f36) (c := g36_B) (by kernel_rfl) (by kernel_rfl) (by unfold Callable; kernel_rfl) tab_ok trivial follows_mixed (by kernel_rfl) (by kernel_rfl) (Nat.le_of_ble_eq_true (by kernel_rfl)) (by kernel_rfl) (by kernel_rfl)
    (fun d => (g36_top n _ _).trans (Eq.trans (b := g36_6F n (g36_m0 d.1 d.2.1) (finCx (g36_G n) g36_R [(4, none)])) (by kernel_rfl) ((g36_6_fx n _ d.1 d.2.1).trans (by kernel_rfl))))
noncomputable def g37_m0 (x0 : List Int) (x1 : List Int) : FState := ⟨tlist [(0, .sl 0 none false), (1, .sl 1 none false)], olist [(0, .row (.int .i32) 21 false x0), (1, .row (.int .i32) 21 false x1)]⟩
noncomputable def g37_m1 (v4 : Int) : FState := ⟨tlist [(4, .dat (.int .i64) v4)], olist []⟩
noncomputable def g37_m1e : List NE := [.keep 4]
noncomputable def g37_m2 (x0 : List Int) (x1 : List Int) (v5 : Int) (v6 : Int) (v7 : Int) : FState := ⟨tlist [(0, .sl 0 none false), (1, .sl 1 none false), (5, .dat (.int .i64) v5), (6, .dat (.int .i64) v6), (7, .dat (.int .i64) v7)], olist [(0, .row (.int .i32) 21 false x0), (1, .row (.int .i32) 21 false x1)]⟩
noncomputable def g37_m2e : List NE := [.row 0 (.int .i32) 21 false, .row 1 (.int .i32) 21 false, .keep 5, .keep 6, .keep 7]
noncomputable def g37_C (n : Nat) : List (Nat × Spec) := []
noncomputable def g37_G (n : Nat) : Ctx := { Γ0 with calls := lkS (g37_C n) }
noncomputable def g37_B : Code := fb Try.f37
noncomputable def g37_1 {β : Type} (n : Nat) (kn : List Int → List Int → Int → Int → Int → Option β) (x0 : List Int) (x1 : List Int) : Option β := kn x0 x1 (x0.length : Int) (x1.length : Int) (0 : Int)
noncomputable def g37_1F {β : Type} (n : Nat) (s : FState) (cx : Cx β) : Option β := FX (g37_G n) n (nav g37_B [0]) (.fin none none none [] .leaf) s { cx with nrm := fun s => FX (g37_G n) n (nav g37_B [1, 0]) (.fin none none none [] .leaf) s { cx with nrm := fun s => FX (g37_G n) n (nav g37_B [1, 1, 0]) (.fin none none none [] .leaf) s { cx with nrm := fun s => FX (g37_G n) n (nav g37_B [1, 1, 1, 0]) (.fin none (some g37_m2e) none [] .leaf) s cx } } }
theorem g37_1_fx {β : Type} (n : Nat) (cx : Cx β) (x0 : List Int) (x1 : List Int) : g37_1F n (g37_m0 x0 x1) cx = g37_1 n (fun x0 x1 v5 v6 v7 => cx.nrm (g37_m2 x0 x1 v5 v6 v7)) x0 x1 := by kernel_rfl
noncomputable def g37_2 {β : Type} (n : Nat) (kn : List Int → List Int → Int → Int → Int → Option β) (kr : Int → Option β) (x0 : List Int) (x1 : List Int) (v5 : Int) (v6 : Int) (v7 : Int) : Option β := bif (decide ((w64 (v5 - (1 : Int))) < (0 : Int))) then (kr v7) else (bif (decide ((w64 (v6 - (1 : Int))) < (0 : Int))) then (kr v7) else (idx (w64 (v5 - (1 : Int))) (x0.length : Int) <| idx (w64 (v6 - (1 : Int))) (x1.length : Int) <| bif ((rd x0 (w64 (v5 - (1 : Int))) (0 : Int)) != (rd x1 (w64 (v6 - (1 : Int))) (0 : Int))) then (kr v7) else (kn x0 x1 (w64 (v5 - (1 : Int))) (w64 (v6 - (1 : Int))) (w64 (v7 + (1 : Int))))))
noncomputable def g37_2F {β : Type} (n : Nat) (s : FState) (cx : Cx β) : Option β := FX (g37_G n) n (nav g37_B [1, 1, 1, 1, 0, 0, 0]) (.fin none none (some g37_m1e) [] .leaf) s { cx with nrm := fun s => FX (g37_G n) n (nav g37_B [1, 1, 1, 1, 0, 0, 1]) (.fin none (some g37_m2e) (some g37_m1e) [] .leaf) s cx }
theorem g37_2_fx {β : Type} (n : Nat) (cx : Cx β) (x0 : List Int) (x1 : List Int) (v5 : Int) (v6 : Int) (v7 : Int) : g37_2F n (g37_m2 x0 x1 v5 v6 v7) cx = g37_2 n (fun x0 x1 v5 v6 v7 => cx.nrm (g37_m2 x0 x1 v5 v6 v7)) (fun v4 => cx.ret (g37_m1 v4)) x0 x1 v5 v6 v7 := by kernel_rfl
noncomputable def g37_3L {β : Type} (n : Nat) (kr : Int → Option β) : Nat → List Int → List Int → Int → Int → Int → Option β
  | 0, _, _, _, _, _ => none
  | m + 1, x0, x1, v5, v6, v7 => g37_2 n (g37_3L n kr m) kr x0 x1 v5 v6 v7
noncomputable def g37_3 {β : Type} (n : Nat) (kr : Int → Option β) (x0 : List Int) (x1 : List Int) (v5 : Int) (v6 : Int) (v7 : Int) : Option β := g37_3L n kr n x0 x1 v5 v6 v7
noncomputable def g37_3F {β : Type} (n : Nat) (s : FState) (cx : Cx β) : Option β := loopN (fun again s => g37_2F n s { cx with nrm := again }) n s
theorem g37_3L_fx {β : Type} (n : Nat) (cx : Cx β) : ∀ (m : Nat) (x0 : List Int) (x1 : List Int) (v5 : Int) (v6 : Int) (v7 : Int), loopN (fun again s => g37_2F n s { cx with nrm := again }) m (g37_m2 x0 x1 v5 v6 v7) = g37_3L n (fun v4 => cx.ret (g37_m1 v4)) m x0 x1 v5 v6 v7 := by
  intro m
  induction m with
  | zero => intros; rfl
  | succ m ih => intros; simp only [loopN, g37_3L, g37_2_fx, ih]
theorem g37_3_fx {β : Type} (n : Nat) (cx : Cx β) (x0 : List Int) (x1 : List Int) (v5 : Int) (v6 : Int) (v7 : Int) : g37_3F n (g37_m2 x0 x1 v5 v6 v7) cx = g37_3 n (fun v4 => cx.ret (g37_m1 v4)) x0 x1 v5 v6 v7 := g37_3L_fx n cx n x0 x1 v5 v6 v7
noncomputable def g37_4 {β : Type} (n : Nat) (kr : Int → Option β) (x0 : List Int) (x1 : List Int) (v5 : Int) (v6 : Int) (v7 : Int) : Option β := g37_3 n kr x0 x1 v5 v6 v7
noncomputable def g37_4F {β : Type} (n : Nat) (s : FState) (cx : Cx β) : Option β := g37_3F n s { cx with ex := fun j s => bif Nat.beq j 0 then cx.nrm s else cx.ex j s }
theorem g37_4_fx {β : Type} (n : Nat) (cx : Cx β) (x0 : List Int) (x1 : List Int) (v5 : Int) (v6 : Int) (v7 : Int) : g37_4F n (g37_m2 x0 x1 v5 v6 v7) cx = g37_4 n (fun v4 => cx.ret (g37_m1 v4)) x0 x1 v5 v6 v7 := g37_3_fx n _ x0 x1 v5 v6 v7
noncomputable def g37_5 {β : Type} (n : Nat) (kr : Int → Option β) (x0 : List Int) (x1 : List Int) : Option β := g37_1 n (fun x0 x1 v5 v6 v7 => g37_4 n kr x0 x1 v5 v6 v7) x0 x1
noncomputable def g37_5F {β : Type} (n : Nat) (s : FState) (cx : Cx β) : Option β := g37_1F n s { cx with nrm := fun s => g37_4F n s cx }
theorem g37_5_fx {β : Type} (n : Nat) (cx : Cx β) (x0 : List Int) (x1 : List Int) : g37_5F n (g37_m0 x0 x1) cx = g37_5 n (fun v4 => cx.ret (g37_m1 v4)) x0 x1 := by simp only [g37_5F, g37_5, g37_1_fx, g37_4_fx]
noncomputable def g37 (n : Nat) (x0 : List Int) (x1 : List Int) : Option (DenR [.dat (.int .i64)]) := g37_5 n (fun v4 => some (v4, ())) x0 x1
noncomputable def g37_A : List AK := [.ro (.int .i32) 21, .ro (.int .i32) 21]
noncomputable def g37_R : List RK := [.dat (.int .i64)]
noncomputable def g37_f (n : Nat) (d : DenA g37_A) : Option (DenR g37_R) := g37 n d.1 d.2.1
noncomputable def g37_S (n : Nat) : Spec := mkSpec g37_A g37_R (g37_f n)
noncomputable def g37_K : Sk := (.nd (.fin none none none [] .leaf) (.nd (.fin none none none [] .leaf) (.nd (.fin none none none [] .leaf) (.nd (.fin none (some g37_m2e) none [] .leaf) (.nd (.nd (.nd (.fin none none (some g37_m1e) [] .leaf) (.fin none (some g37_m2e) (some g37_m1e) [] .leaf)) .leaf) .leaf)))))
theorem g37_top {β : Type} (n : Nat) (s : FState) (cx : Cx β) : FX (g37_G n) n g37_B g37_K s cx = g37_5F n s cx := by kernel_rfl
theorem g37_fit (n : Nat) : Fit Try.prog 37 (g37_S n) :=
  fit_of (Γ := Γ0) (l := g37_C n) (n := n) (sk := g37_K) (ts := [(4, none)]) (fn := Try.f37) (c := g37_B) (by kernel_rfl) (by kernel_rfl) (by unfold Callable; kernel_rfl) tab_ok trivial follows_mixed (by kernel_rfl) (by kernel_rfl) (Nat.le_of_ble_eq_true (by kernel_rfl)) (by kernel_rfl) (by kernel_rfl)
    (fun d => (g37_top n _ _).trans (Eq.trans (b := g37_5F n (g37_m0 d.1 d.2.1) (finCx (g37_G n) g37_R [(4, none)])) (by kernel_rfl) ((g37_5_fx n _ d.1 d.2.1).trans (by kernel_rfl))))
noncomputable def g38_m0 (x0 : List (Int × ByteArray)) (v1 : Int) (v2 : Int) (x3 : List (Int × ByteArray)) : FState := ⟨tlist [(0, .sl 0 none false), (1, .dat (.int .i64) v1), (2, .dat (.int .i64) v2), (3, .sl 3 none false)], olist [(0, .row (.pair (.int .i8) .str) 51 true x0), (3, .row (.pair (.int .i8) .str) 51 false x3)]⟩
noncomputable def g38_m1 (x8 : List (Int × ByteArray)) : FState := ⟨tlist [(8, .sl 8 none false)], olist [(8, .row (.pair (.int .i8) .str) 51 true x8)]⟩
noncomputable def g38_m1e : List NE := [.row 8 (.pair (.int .i8) .str) 51 true]
noncomputable def g38_m2 (x0 : List (Int × ByteArray)) (v1 : Int) (v2 : Int) (x3 : List (Int × ByteArray)) (v26 : Bool) : FState := ⟨tlist [(0, .sl 0 none false), (1, .dat (.int .i64) v1), (2, .dat (.int .i64) v2), (3, .sl 3 none false), (26, .dat .bool v26)], olist [(0, .row (.pair (.int .i8) .str) 51 true x0), (3, .row (.pair (.int .i8) .str) 51 false x3)]⟩
noncomputable def g38_m2e : List NE := [.row 0 (.pair (.int .i8) .str) 51 true, .keep 1, .keep 2, .row 3 (.pair (.int .i8) .str) 51 false, .keep 26]
noncomputable def g38_m3 (x0 : List (Int × ByteArray)) (v1 : Int) (v2 : Int) (x3 : List (Int × ByteArray)) : FState := ⟨tlist [(0, .sl 0 none false), (1, .dat (.int .i64) v1), (2, .dat (.int .i64) v2), (3, .sl 3 none false)], olist [(0, .row (.pair (.int .i8) .str) 51 true x0), (3, .row (.pair (.int .i8) .str) 51 false x3)]⟩
noncomputable def g38_m3e : List NE := [.row 0 (.pair (.int .i8) .str) 51 true, .keep 1, .keep 2, .row 3 (.pair (.int .i8) .str) 51 false]
noncomputable def g38_m4 (x0 : List (Int × ByteArray)) (v9 : Int) (o10 : Int) (l10 : Int) (v55 : Int) (v56 : Int) : FState := ⟨tlist [(0, .sl 0 none false), (9, .dat (.int .i64) v9), (10, .sl 0 (some (o10, l10)) false), (55, .dat (.int .i64) v55), (56, .dat (.int .i64) v56)], olist [(0, .row (.pair (.int .i8) .str) 51 true x0)]⟩
noncomputable def g38_m4e : List NE := [.row 0 (.pair (.int .i8) .str) 51 true, .keep 9, .row 10 (.pair (.int .i8) .str) 51 true, .keep 55, .keep 56]
noncomputable def g38_m5 (x0 : List (Int × ByteArray)) (v9 : Int) : FState := ⟨tlist [(0, .sl 0 none false), (9, .dat (.int .i64) v9)], olist [(0, .row (.pair (.int .i8) .str) 51 true x0)]⟩
noncomputable def g38_m5e : List NE := [.row 0 (.pair (.int .i8) .str) 51 true, .keep 9]
noncomputable def g38_m6 (x0 : List (Int × ByteArray)) (v1 : Int) (v2 : Int) (x3 : List (Int × ByteArray)) (v12 : Int) : FState := ⟨tlist [(0, .sl 0 none false), (1, .dat (.int .i64) v1), (2, .dat (.int .i64) v2), (3, .sl 3 none false), (12, .dat (.int .i64) v12)], olist [(0, .row (.pair (.int .i8) .str) 51 true x0), (3, .row (.pair (.int .i8) .str) 51 false x3)]⟩
noncomputable def g38_m6e : List NE := [.row 0 (.pair (.int .i8) .str) 51 true, .keep 1, .keep 2, .row 3 (.pair (.int .i8) .str) 51 false, .keep 12]
noncomputable def g38_m7 (x0 : List (Int × ByteArray)) (v1 : Int) (v2 : Int) (x3 : List (Int × ByteArray)) : FState := ⟨tlist [(0, .sl 0 none false), (1, .dat (.int .i64) v1), (2, .dat (.int .i64) v2), (3, .sl 3 none false)], olist [(0, .row (.pair (.int .i8) .str) 51 true x0), (3, .row (.pair (.int .i8) .str) 51 false x3)]⟩
noncomputable def g38_m7e : List NE := [.row 0 (.pair (.int .i8) .str) 51 true, .keep 1, .keep 2, .row 3 (.pair (.int .i8) .str) 51 false]
noncomputable def g38_C (n : Nat) : List (Nat × Spec) := []
noncomputable def g38_G (n : Nat) : Ctx := { Γ0 with calls := lkS (g38_C n) }
noncomputable def g38_B : Code := fb Try.f38
noncomputable def g38_1 {β : Type} (n : Nat) (kn : List (Int × ByteArray) → Int → Int → List (Int × ByteArray) → Bool → Option β) (kr : List (Int × ByteArray) → Option β) (x0 : List (Int × ByteArray)) (v1 : Int) (v2 : Int) (x3 : List (Int × ByteArray)) : Option β := bif ((x3.length : Int) == v2) then (bnd v1 (x0.length : Int) (x0.length : Int) <| kr (pasted x0 (v1 + (0 : Int)) ((x0.length : Int) - v1) x3)) else (kn x0 v1 v2 x3 (decide ((x3.length : Int) < v2)))
noncomputable def g38_1F {β : Type} (n : Nat) (s : FState) (cx : Cx β) : Option β := FX (g38_G n) n (nav g38_B [0]) (.fin none none (some g38_m1e) [] .leaf) s { cx with nrm := fun s => FX (g38_G n) n (nav g38_B [1, 0, 0]) (.fin none none (some g38_m1e) [] .leaf) s { cx with nrm := fun s => FX (g38_G n) n (nav g38_B [1, 0, 1]) (.fin none none (some g38_m1e) [] .leaf) s { cx with nrm := fun s => FX (g38_G n) n (nav g38_B [1, 1, 0, 0]) (.fin none (some g38_m2e) (some g38_m1e) [] .leaf) s cx } } }
theorem g38_1_fx {β : Type} (n : Nat) (cx : Cx β) (x0 : List (Int × ByteArray)) (v1 : Int) (v2 : Int) (x3 : List (Int × ByteArray)) : g38_1F n (g38_m0 x0 v1 v2 x3) cx = g38_1 n (fun x0 v1 v2 x3 v26 => cx.nrm (g38_m2 x0 v1 v2 x3 v26)) (fun x8 => cx.ret (g38_m1 x8)) x0 v1 v2 x3 := by kernel_rfl
noncomputable def g38_2 {β : Type} (n : Nat) (kn : List (Int × ByteArray) → Int → Int → Int → Int → Int → Option β) (x0 : List (Int × ByteArray)) (v1 : Int) (v2 : Int) (x3 : List (Int × ByteArray)) (v26 : Bool) : Option β := bnd v1 (x0.length : Int) (x0.length : Int) <| bnd (w64 (v1 + (x3.length : Int))) ((pasted x0 (v1 + (0 : Int)) ((x0.length : Int) - v1) x3).length : Int) ((pasted x0 (v1 + (0 : Int)) ((x0.length : Int) - v1) x3).length : Int) <| bnd (w64 (v1 + v2)) ((pasted x0 (v1 + (0 : Int)) ((x0.length : Int) - v1) x3).length : Int) ((pasted x0 (v1 + (0 : Int)) ((x0.length : Int) - v1) x3).length : Int) <| bnd (w64 ((w64 (((pasted (pasted x0 (v1 + (0 : Int)) ((x0.length : Int) - v1) x3) ((w64 (v1 + (x3.length : Int))) + (0 : Int)) (((pasted x0 (v1 + (0 : Int)) ((x0.length : Int) - v1) x3).length : Int) - (w64 (v1 + (x3.length : Int)))) (cut (pasted x0 (v1 + (0 : Int)) ((x0.length : Int) - v1) x3) (w64 (v1 + v2)) ((w64 (v1 + v2)) + (((pasted x0 (v1 + (0 : Int)) ((x0.length : Int) - v1) x3).length : Int) - (w64 (v1 + v2)))))).length : Int) - v2)) + (x3.length : Int))) ((pasted (pasted x0 (v1 + (0 : Int)) ((x0.length : Int) - v1) x3) ((w64 (v1 + (x3.length : Int))) + (0 : Int)) (((pasted x0 (v1 + (0 : Int)) ((x0.length : Int) - v1) x3).length : Int) - (w64 (v1 + (x3.length : Int)))) (cut (pasted x0 (v1 + (0 : Int)) ((x0.length : Int) - v1) x3) (w64 (v1 + v2)) ((w64 (v1 + v2)) + (((pasted x0 (v1 + (0 : Int)) ((x0.length : Int) - v1) x3).length : Int) - (w64 (v1 + v2)))))).length : Int) ((pasted (pasted x0 (v1 + (0 : Int)) ((x0.length : Int) - v1) x3) ((w64 (v1 + (x3.length : Int))) + (0 : Int)) (((pasted x0 (v1 + (0 : Int)) ((x0.length : Int) - v1) x3).length : Int) - (w64 (v1 + (x3.length : Int)))) (cut (pasted x0 (v1 + (0 : Int)) ((x0.length : Int) - v1) x3) (w64 (v1 + v2)) ((w64 (v1 + v2)) + (((pasted x0 (v1 + (0 : Int)) ((x0.length : Int) - v1) x3).length : Int) - (w64 (v1 + v2)))))).length : Int) <| kn (pasted (pasted x0 (v1 + (0 : Int)) ((x0.length : Int) - v1) x3) ((w64 (v1 + (x3.length : Int))) + (0 : Int)) (((pasted x0 (v1 + (0 : Int)) ((x0.length : Int) - v1) x3).length : Int) - (w64 (v1 + (x3.length : Int)))) (cut (pasted x0 (v1 + (0 : Int)) ((x0.length : Int) - v1) x3) (w64 (v1 + v2)) ((w64 (v1 + v2)) + (((pasted x0 (v1 + (0 : Int)) ((x0.length : Int) - v1) x3).length : Int) - (w64 (v1 + v2)))))) (w64 ((w64 (((pasted (pasted x0 (v1 + (0 : Int)) ((x0.length : Int) - v1) x3) ((w64 (v1 + (x3.length : Int))) + (0 : Int)) (((pasted x0 (v1 + (0 : Int)) ((x0.length : Int) - v1) x3).length : Int) - (w64 (v1 + (x3.length : Int)))) (cut (pasted x0 (v1 + (0 : Int)) ((x0.length : Int) - v1) x3) (w64 (v1 + v2)) ((w64 (v1 + v2)) + (((pasted x0 (v1 + (0 : Int)) ((x0.length : Int) - v1) x3).length : Int) - (w64 (v1 + v2)))))).length : Int) - v2)) + (x3.length : Int))) (w64 ((w64 (((pasted (pasted x0 (v1 + (0 : Int)) ((x0.length : Int) - v1) x3) ((w64 (v1 + (x3.length : Int))) + (0 : Int)) (((pasted x0 (v1 + (0 : Int)) ((x0.length : Int) - v1) x3).length : Int) - (w64 (v1 + (x3.length : Int)))) (cut (pasted x0 (v1 + (0 : Int)) ((x0.length : Int) - v1) x3) (w64 (v1 + v2)) ((w64 (v1 + v2)) + (((pasted x0 (v1 + (0 : Int)) ((x0.length : Int) - v1) x3).length : Int) - (w64 (v1 + v2)))))).length : Int) - v2)) + (x3.length : Int))) (((pasted (pasted x0 (v1 + (0 : Int)) ((x0.length : Int) - v1) x3) ((w64 (v1 + (x3.length : Int))) + (0 : Int)) (((pasted x0 (v1 + (0 : Int)) ((x0.length : Int) - v1) x3).length : Int) - (w64 (v1 + (x3.length : Int)))) (cut (pasted x0 (v1 + (0 : Int)) ((x0.length : Int) - v1) x3) (w64 (v1 + v2)) ((w64 (v1 + v2)) + (((pasted x0 (v1 + (0 : Int)) ((x0.length : Int) - v1) x3).length : Int) - (w64 (v1 + v2)))))).length : Int) - (w64 ((w64 (((pasted (pasted x0 (v1 + (0 : Int)) ((x0.length : Int) - v1) x3) ((w64 (v1 + (x3.length : Int))) + (0 : Int)) (((pasted x0 (v1 + (0 : Int)) ((x0.length : Int) - v1) x3).length : Int) - (w64 (v1 + (x3.length : Int)))) (cut (pasted x0 (v1 + (0 : Int)) ((x0.length : Int) - v1) x3) (w64 (v1 + v2)) ((w64 (v1 + v2)) + (((pasted x0 (v1 + (0 : Int)) ((x0.length : Int) - v1) x3).length : Int) - (w64 (v1 + v2)))))).length : Int) - v2)) + (x3.length : Int)))) (((pasted (pasted x0 (v1 + (0 : Int)) ((x0.length : Int) - v1) x3) ((w64 (v1 + (x3.length : Int))) + (0 : Int)) (((pasted x0 (v1 + (0 : Int)) ((x0.length : Int) - v1) x3).length : Int) - (w64 (v1 + (x3.length : Int)))) (cut (pasted x0 (v1 + (0 : Int)) ((x0.length : Int) - v1) x3) (w64 (v1 + v2)) ((w64 (v1 + v2)) + (((pasted x0 (v1 + (0 : Int)) ((x0.length : Int) - v1) x3).length : Int) - (w64 (v1 + v2)))))).length : Int) - (w64 ((w64 (((pasted (pasted x0 (v1 + (0 : Int)) ((x0.length : Int) - v1) x3) ((w64 (v1 + (x3.length : Int))) + (0 : Int)) (((pasted x0 (v1 + (0 : Int)) ((x0.length : Int) - v1) x3).length : Int) - (w64 (v1 + (x3.length : Int)))) (cut (pasted x0 (v1 + (0 : Int)) ((x0.length : Int) - v1) x3) (w64 (v1 + v2)) ((w64 (v1 + v2)) + (((pasted x0 (v1 + (0 : Int)) ((x0.length : Int) - v1) x3).length : Int) - (w64 (v1 + v2)))))).length : Int) - v2)) + (x3.length : Int)))) (0 : Int)
noncomputable def g38_2F {β : Type} (n : Nat) (s : FState) (cx : Cx β) : Option β := FX (g38_G n) n (nav g38_B [1, 1, 0, 1, 0, 0]) (.fin none none none [] .leaf) s { cx with nrm := fun s => FX (g38_G n) n (nav g38_B [1, 1, 0, 1, 0, 1, 0]) (.fin none none none [] .leaf) s { cx with nrm := fun s => FX (g38_G n) n (nav g38_B [1, 1, 0, 1, 0, 1, 1, 0]) (.fin none none none [] .leaf) s { cx with nrm := fun s => FX (g38_G n) n (nav g38_B [1, 1, 0, 1, 0, 1, 1, 1, 0]) (.fin none none none [] .leaf) s { cx with nrm := fun s => FX (g38_G n) n (nav g38_B [1, 1, 0, 1, 0, 1, 1, 1, 1, 0, 0]) (.fin none (some g38_m4e) none [] .leaf) s cx } } } }
theorem g38_2_fx {β : Type} (n : Nat) (cx : Cx β) (x0 : List (Int × ByteArray)) (v1 : Int) (v2 : Int) (x3 : List (Int × ByteArray)) (v26 : Bool) : g38_2F n (g38_m2 x0 v1 v2 x3 v26) cx = g38_2 n (fun x0 v9 o10 l10 v55 v56 => cx.nrm (g38_m4 x0 v9 o10 l10 v55 v56)) x0 v1 v2 x3 v26 := by kernel_rfl
noncomputable def g38_3 {β : Type} (n : Nat) (kn : List (Int × ByteArray) → Int → Int → Int → Int → Int → Option β) (kx0 : List (Int × ByteArray) → Int → Option β) (x0 : List (Int × ByteArray)) (v9 : Int) (o10 : Int) (l10 : Int) (v55 : Int) (v56 : Int) : Option β := bif (decide (v56 < v55)) then (idx v56 l10 <| kn (x0.set (o10 + v56).toNat ((0 : Int), (⟨#[]⟩ : ByteArray))) v9 o10 l10 v55 (w64 (v56 + (1 : Int)))) else (kx0 x0 v9)
noncomputable def g38_3F {β : Type} (n : Nat) (s : FState) (cx : Cx β) : Option β := FX (g38_G n) n (nav g38_B [1, 1, 0, 1, 0, 1, 1, 1, 1, 0, 1, 0, 0, 0]) (.fin none none none [(0, g38_m5e)] .leaf) s { cx with nrm := fun s => FX (g38_G n) n (nav g38_B [1, 1, 0, 1, 0, 1, 1, 1, 1, 0, 1, 0, 0, 1, 0]) (.fin none none none [(0, g38_m5e)] .leaf) s { cx with nrm := fun s => FX (g38_G n) n (nav g38_B [1, 1, 0, 1, 0, 1, 1, 1, 1, 0, 1, 0, 0, 1, 1, 0]) (.fin none none none [(0, g38_m5e)] .leaf) s { cx with nrm := fun s => FX (g38_G n) n (nav g38_B [1, 1, 0, 1, 0, 1, 1, 1, 1, 0, 1, 0, 0, 1, 1, 1]) (.fin none (some g38_m4e) none [(0, g38_m5e)] .leaf) s cx } } }
theorem g38_3_fx {β : Type} (n : Nat) (cx : Cx β) (x0 : List (Int × ByteArray)) (v9 : Int) (o10 : Int) (l10 : Int) (v55 : Int) (v56 : Int) : g38_3F n (g38_m4 x0 v9 o10 l10 v55 v56) cx = g38_3 n (fun x0 v9 o10 l10 v55 v56 => cx.nrm (g38_m4 x0 v9 o10 l10 v55 v56)) (fun x0 v9 => cx.ex 0 (g38_m5 x0 v9)) x0 v9 o10 l10 v55 v56 := by kernel_rfl
noncomputable def g38_4L {β : Type} (n : Nat) (kx0 : List (Int × ByteArray) → Int → Option β) : Nat → List (Int × ByteArray) → Int → Int → Int → Int → Int → Option β
  | 0, _, _, _, _, _, _ => none
  | m + 1, x0, v9, o10, l10, v55, v56 => g38_3 n (g38_4L n kx0 m) kx0 x0 v9 o10 l10 v55 v56
noncomputable def g38_4 {β : Type} (n : Nat) (kx0 : List (Int × ByteArray) → Int → Option β) (x0 : List (Int × ByteArray)) (v9 : Int) (o10 : Int) (l10 : Int) (v55 : Int) (v56 : Int) : Option β := g38_4L n kx0 n x0 v9 o10 l10 v55 v56
noncomputable def g38_4F {β : Type} (n : Nat) (s : FState) (cx : Cx β) : Option β := loopN (fun again s => g38_3F n s { cx with nrm := again }) n s
theorem g38_4L_fx {β : Type} (n : Nat) (cx : Cx β) : ∀ (m : Nat) (x0 : List (Int × ByteArray)) (v9 : Int) (o10 : Int) (l10 : Int) (v55 : Int) (v56 : Int), loopN (fun again s => g38_3F n s { cx with nrm := again }) m (g38_m4 x0 v9 o10 l10 v55 v56) = g38_4L n (fun x0 v9 => cx.ex 0 (g38_m5 x0 v9)) m x0 v9 o10 l10 v55 v56 := by
  intro m
  induction m with
  | zero => intros; rfl
  | succ m ih => intros; simp only [loopN, g38_4L, g38_3_fx, ih]
theorem g38_4_fx {β : Type} (n : Nat) (cx : Cx β) (x0 : List (Int × ByteArray)) (v9 : Int) (o10 : Int) (l10 : Int) (v55 : Int) (v56 : Int) : g38_4F n (g38_m4 x0 v9 o10 l10 v55 v56) cx = g38_4 n (fun x0 v9 => cx.ex 0 (g38_m5 x0 v9)) x0 v9 o10 l10 v55 v56 := g38_4L_fx n cx n x0 v9 o10 l10 v55 v56
noncomputable def g38_5 {β : Type} (n : Nat) (kn : List (Int × ByteArray) → Int → Option β) (x0 : List (Int × ByteArray)) (v9 : Int) (o10 : Int) (l10 : Int) (v55 : Int) (v56 : Int) : Option β := g38_4 n kn x0 v9 o10 l10 v55 v56
noncomputable def g38_5F {β : Type} (n : Nat) (s : FState) (cx : Cx β) : Option β := g38_4F n s { cx with ex := fun j s => bif Nat.beq j 0 then cx.nrm s else cx.ex j s }
theorem g38_5_fx {β : Type} (n : Nat) (cx : Cx β) (x0 : List (Int × ByteArray)) (v9 : Int) (o10 : Int) (l10 : Int) (v55 : Int) (v56 : Int) : g38_5F n (g38_m4 x0 v9 o10 l10 v55 v56) cx = g38_5 n (fun x0 v9 => cx.nrm (g38_m5 x0 v9)) x0 v9 o10 l10 v55 v56 := g38_4_fx n _ x0 v9 o10 l10 v55 v56
noncomputable def g38_6 {β : Type} (n : Nat) (kr : List (Int × ByteArray) → Option β) (x0 : List (Int × ByteArray)) (v9 : Int) : Option β := bnd (0 : Int) v9 (x0.length : Int) <| kr (cut x0 (0 : Int) ((0 : Int) + (v9 - (0 : Int))))
noncomputable def g38_6F {β : Type} (n : Nat) (s : FState) (cx : Cx β) : Option β := FX (g38_G n) n (nav g38_B [1, 1, 0, 1, 0, 1, 1, 1, 1, 1, 0]) (.fin none none (some g38_m1e) [] .leaf) s { cx with nrm := fun s => FX (g38_G n) n (nav g38_B [1, 1, 0, 1, 0, 1, 1, 1, 1, 1, 1]) (.fin none none (some g38_m1e) [] .leaf) s cx }
theorem g38_6_fx {β : Type} (n : Nat) (cx : Cx β) (x0 : List (Int × ByteArray)) (v9 : Int) : g38_6F n (g38_m5 x0 v9) cx = g38_6 n (fun x8 => cx.ret (g38_m1 x8)) x0 v9 := by kernel_rfl
noncomputable def g38_7 {β : Type} (n : Nat) (kr : List (Int × ByteArray) → Option β) (x0 : List (Int × ByteArray)) (v1 : Int) (v2 : Int) (x3 : List (Int × ByteArray)) (v26 : Bool) : Option β := g38_2 n (fun x0 v9 o10 l10 v55 v56 => g38_5 n (fun x0 v9 => g38_6 n kr x0 v9) x0 v9 o10 l10 v55 v56) x0 v1 v2 x3 v26
noncomputable def g38_7F {β : Type} (n : Nat) (s : FState) (cx : Cx β) : Option β := g38_2F n s { cx with nrm := fun s => g38_5F n s { cx with nrm := fun s => g38_6F n s cx } }
theorem g38_7_fx {β : Type} (n : Nat) (cx : Cx β) (x0 : List (Int × ByteArray)) (v1 : Int) (v2 : Int) (x3 : List (Int × ByteArray)) (v26 : Bool) : g38_7F n (g38_m2 x0 v1 v2 x3 v26) cx = g38_7 n (fun x8 => cx.ret (g38_m1 x8)) x0 v1 v2 x3 v26 := by simp only [g38_7F, g38_7, g38_2_fx, g38_5_fx, g38_6_fx]
noncomputable def g38_8 {β : Type} (n : Nat) (kn : List (Int × ByteArray) → Int → Int → List (Int × ByteArray) → Option β) (x0 : List (Int × ByteArray)) (v1 : Int) (v2 : Int) (x3 : List (Int × ByteArray)) (v26 : Bool) : Option β := kn x0 v1 v2 x3
noncomputable def g38_8F {β : Type} (n : Nat) (s : FState) (cx : Cx β) : Option β := FX (g38_G n) n (nav g38_B [1, 1, 0, 1, 1]) (.fin none (some g38_m3e) none [] .leaf) s cx
theorem g38_8_fx {β : Type} (n : Nat) (cx : Cx β) (x0 : List (Int × ByteArray)) (v1 : Int) (v2 : Int) (x3 : List (Int × ByteArray)) (v26 : Bool) : g38_8F n (g38_m2 x0 v1 v2 x3 v26) cx = g38_8 n (fun x0 v1 v2 x3 => cx.nrm (g38_m3 x0 v1 v2 x3)) x0 v1 v2 x3 v26 := by kernel_rfl
noncomputable def g38_9 {β : Type} (n : Nat) (kn : List (Int × ByteArray) → Int → Int → List (Int × ByteArray) → Option β) (kr : List (Int × ByteArray) → Option β) (x0 : List (Int × ByteArray)) (v1 : Int) (v2 : Int) (x3 : List (Int × ByteArray)) (v26 : Bool) : Option β := bif v26 then g38_7 n kr x0 v1 v2 x3 v26 else g38_8 n kn x0 v1 v2 x3 v26
noncomputable def g38_9F {β : Type} (n : Nat) (s : FState) (cx : Cx β) : Option β := asBool (ev s (cond_of (nav g38_B [1, 1, 0, 1]))) fun t => cond t (g38_7F n s cx) (g38_8F n s cx)
theorem g38_9_fx {β : Type} (n : Nat) (cx : Cx β) (x0 : List (Int × ByteArray)) (v1 : Int) (v2 : Int) (x3 : List (Int × ByteArray)) (v26 : Bool) : g38_9F n (g38_m2 x0 v1 v2 x3 v26) cx = g38_9 n (fun x0 v1 v2 x3 => cx.nrm (g38_m3 x0 v1 v2 x3)) (fun x8 => cx.ret (g38_m1 x8)) x0 v1 v2 x3 v26 := by
  simp only [g38_9F, g38_9, g38_7_fx, g38_8_fx]
  kernel_rfl
noncomputable def g38_10 {β : Type} (n : Nat) (kn : List (Int × ByteArray) → Int → Int → List (Int × ByteArray) → Int → Option β) (x0 : List (Int × ByteArray)) (v1 : Int) (v2 : Int) (x3 : List (Int × ByteArray)) : Option β := kn x0 v1 v2 x3 (w64 ((w64 ((x0.length : Int) - v2)) + (x3.length : Int)))
noncomputable def g38_10F {β : Type} (n : Nat) (s : FState) (cx : Cx β) : Option β := FX (g38_G n) n (nav g38_B [1, 1, 1, 0]) (.fin none (some g38_m6e) none [] .leaf) s cx
theorem g38_10_fx {β : Type} (n : Nat) (cx : Cx β) (x0 : List (Int × ByteArray)) (v1 : Int) (v2 : Int) (x3 : List (Int × ByteArray)) : g38_10F n (g38_m3 x0 v1 v2 x3) cx = g38_10 n (fun x0 v1 v2 x3 v12 => cx.nrm (g38_m6 x0 v1 v2 x3 v12)) x0 v1 v2 x3 := by kernel_rfl
noncomputable def g38_11 {β : Type} (n : Nat) (kn : List (Int × ByteArray) → Int → Int → List (Int × ByteArray) → Int → Option β) (kx2 : List (Int × ByteArray) → Int → Int → List (Int × ByteArray) → Option β) (x0 : List (Int × ByteArray)) (v1 : Int) (v2 : Int) (x3 : List (Int × ByteArray)) (v12 : Int) : Option β := bif (decide ((x0.length : Int) < v12)) then (roomy (x0.length + [((0 : Int), (⟨#[]⟩ : ByteArray))].length) <| kn (x0 ++ [((0 : Int), (⟨#[]⟩ : ByteArray))]) v1 v2 x3 v12) else (kx2 x0 v1 v2 x3)
noncomputable def g38_11F {β : Type} (n : Nat) (s : FState) (cx : Cx β) : Option β := FX (g38_G n) n (nav g38_B [1, 1, 1, 1, 0, 0, 0, 0, 0]) (.fin none none none [(2, g38_m7e)] .leaf) s { cx with nrm := fun s => FX (g38_G n) n (nav g38_B [1, 1, 1, 1, 0, 0, 0, 0, 1]) (.fin none none none [(2, g38_m7e)] .leaf) s { cx with nrm := fun s => FX (g38_G n) n (nav g38_B [1, 1, 1, 1, 0, 0, 0, 1]) (.fin none (some g38_m6e) none [(2, g38_m7e)] .leaf) s cx } }
theorem g38_11_fx {β : Type} (n : Nat) (cx : Cx β) (x0 : List (Int × ByteArray)) (v1 : Int) (v2 : Int) (x3 : List (Int × ByteArray)) (v12 : Int) : g38_11F n (g38_m6 x0 v1 v2 x3 v12) cx = g38_11 n (fun x0 v1 v2 x3 v12 => cx.nrm (g38_m6 x0 v1 v2 x3 v12)) (fun x0 v1 v2 x3 => cx.ex 2 (g38_m7 x0 v1 v2 x3)) x0 v1 v2 x3 v12 := by kernel_rfl
noncomputable def g38_12L {β : Type} (n : Nat) (kx2 : List (Int × ByteArray) → Int → Int → List (Int × ByteArray) → Option β) : Nat → List (Int × ByteArray) → Int → Int → List (Int × ByteArray) → Int → Option β
  | 0, _, _, _, _, _ => none
  | m + 1, x0, v1, v2, x3, v12 => g38_11 n (g38_12L n kx2 m) kx2 x0 v1 v2 x3 v12
noncomputable def g38_12 {β : Type} (n : Nat) (kx2 : List (Int × ByteArray) → Int → Int → List (Int × ByteArray) → Option β) (x0 : List (Int × ByteArray)) (v1 : Int) (v2 : Int) (x3 : List (Int × ByteArray)) (v12 : Int) : Option β := g38_12L n kx2 n x0 v1 v2 x3 v12
noncomputable def g38_12F {β : Type} (n : Nat) (s : FState) (cx : Cx β) : Option β := loopN (fun again s => g38_11F n s { cx with nrm := again }) n s
theorem g38_12L_fx {β : Type} (n : Nat) (cx : Cx β) : ∀ (m : Nat) (x0 : List (Int × ByteArray)) (v1 : Int) (v2 : Int) (x3 : List (Int × ByteArray)) (v12 : Int), loopN (fun again s => g38_11F n s { cx with nrm := again }) m (g38_m6 x0 v1 v2 x3 v12) = g38_12L n (fun x0 v1 v2 x3 => cx.ex 2 (g38_m7 x0 v1 v2 x3)) m x0 v1 v2 x3 v12 := by
  intro m
  induction m with
  | zero => intros; rfl
  | succ m ih => intros; simp only [loopN, g38_12L, g38_11_fx, ih]
theorem g38_12_fx {β : Type} (n : Nat) (cx : Cx β) (x0 : List (Int × ByteArray)) (v1 : Int) (v2 : Int) (x3 : List (Int × ByteArray)) (v12 : Int) : g38_12F n (g38_m6 x0 v1 v2 x3 v12) cx = g38_12 n (fun x0 v1 v2 x3 => cx.ex 2 (g38_m7 x0 v1 v2 x3)) x0 v1 v2 x3 v12 := g38_12L_fx n cx n x0 v1 v2 x3 v12
noncomputable def g38_13 {β : Type} (n : Nat) (kn : List (Int × ByteArray) → Int → Int → List (Int × ByteArray) → Option β) (x0 : List (Int × ByteArray)) (v1 : Int) (v2 : Int) (x3 : List (Int × ByteArray)) (v12 : Int) : Option β := g38_12 n kn x0 v1 v2 x3 v12
noncomputable def g38_13F {β : Type} (n : Nat) (s : FState) (cx : Cx β) : Option β := g38_12F n s { cx with ex := fun j s => bif Nat.beq j 2 then cx.nrm s else cx.ex j s }
theorem g38_13_fx {β : Type} (n : Nat) (cx : Cx β) (x0 : List (Int × ByteArray)) (v1 : Int) (v2 : Int) (x3 : List (Int × ByteArray)) (v12 : Int) : g38_13F n (g38_m6 x0 v1 v2 x3 v12) cx = g38_13 n (fun x0 v1 v2 x3 => cx.nrm (g38_m7 x0 v1 v2 x3)) x0 v1 v2 x3 v12 := g38_12_fx n _ x0 v1 v2 x3 v12
noncomputable def g38_14 {β : Type} (n : Nat) (kr : List (Int × ByteArray) → Option β) (x0 : List (Int × ByteArray)) (v1 : Int) (v2 : Int) (x3 : List (Int × ByteArray)) : Option β := bnd (w64 (v1 + (x3.length : Int))) (x0.length : Int) (x0.length : Int) <| bnd (w64 (v1 + v2)) (x0.length : Int) (x0.length : Int) <| bnd v1 ((pasted x0 ((w64 (v1 + (x3.length : Int))) + (0 : Int)) ((x0.length : Int) - (w64 (v1 + (x3.length : Int)))) (cut x0 (w64 (v1 + v2)) ((w64 (v1 + v2)) + ((x0.length : Int) - (w64 (v1 + v2)))))).length : Int) ((pasted x0 ((w64 (v1 + (x3.length : Int))) + (0 : Int)) ((x0.length : Int) - (w64 (v1 + (x3.length : Int)))) (cut x0 (w64 (v1 + v2)) ((w64 (v1 + v2)) + ((x0.length : Int) - (w64 (v1 + v2)))))).length : Int) <| kr (pasted (pasted x0 ((w64 (v1 + (x3.length : Int))) + (0 : Int)) ((x0.length : Int) - (w64 (v1 + (x3.length : Int)))) (cut x0 (w64 (v1 + v2)) ((w64 (v1 + v2)) + ((x0.length : Int) - (w64 (v1 + v2)))))) (v1 + (0 : Int)) (((pasted x0 ((w64 (v1 + (x3.length : Int))) + (0 : Int)) ((x0.length : Int) - (w64 (v1 + (x3.length : Int)))) (cut x0 (w64 (v1 + v2)) ((w64 (v1 + v2)) + ((x0.length : Int) - (w64 (v1 + v2)))))).length : Int) - v1) x3)
noncomputable def g38_14F {β : Type} (n : Nat) (s : FState) (cx : Cx β) : Option β := FX (g38_G n) n (nav g38_B [1, 1, 1, 1, 1, 0]) (.fin none none (some g38_m1e) [] .leaf) s { cx with nrm := fun s => FX (g38_G n) n (nav g38_B [1, 1, 1, 1, 1, 1, 0]) (.fin none none (some g38_m1e) [] .leaf) s { cx with nrm := fun s => FX (g38_G n) n (nav g38_B [1, 1, 1, 1, 1, 1, 1, 0]) (.fin none none (some g38_m1e) [] .leaf) s { cx with nrm := fun s => FX (g38_G n) n (nav g38_B [1, 1, 1, 1, 1, 1, 1, 1]) (.fin none none (some g38_m1e) [] .leaf) s cx } } }
theorem g38_14_fx {β : Type} (n : Nat) (cx : Cx β) (x0 : List (Int × ByteArray)) (v1 : Int) (v2 : Int) (x3 : List (Int × ByteArray)) : g38_14F n (g38_m7 x0 v1 v2 x3) cx = g38_14 n (fun x8 => cx.ret (g38_m1 x8)) x0 v1 v2 x3 := by kernel_rfl
noncomputable def g38_15 {β : Type} (n : Nat) (kr : List (Int × ByteArray) → Option β) (x0 : List (Int × ByteArray)) (v1 : Int) (v2 : Int) (x3 : List (Int × ByteArray)) : Option β := g38_1 n (fun x0 v1 v2 x3 v26 => g38_9 n (fun x0 v1 v2 x3 => g38_10 n (fun x0 v1 v2 x3 v12 => g38_13 n (fun x0 v1 v2 x3 => g38_14 n kr x0 v1 v2 x3) x0 v1 v2 x3 v12) x0 v1 v2 x3) kr x0 v1 v2 x3 v26) kr x0 v1 v2 x3
noncomputable def g38_15F {β : Type} (n : Nat) (s : FState) (cx : Cx β) : Option β := g38_1F n s { cx with nrm := fun s => g38_9F n s { cx with nrm := fun s => g38_10F n s { cx with nrm := fun s => g38_13F n s { cx with nrm := fun s => g38_14F n s cx } } } }
theorem g38_15_fx {β : Type} (n : Nat) (cx : Cx β) (x0 : List (Int × ByteArray)) (v1 : Int) (v2 : Int) (x3 : List (Int × ByteArray)) : g38_15F n (g38_m0 x0 v1 v2 x3) cx = g38_15 n (fun x8 => cx.ret (g38_m1 x8)) x0 v1 v2 x3 := by simp only [g38_15F, g38_15, g38_1_fx, g38_9_fx, g38_10_fx, g38_13_fx, g38_14_fx]
noncomputable def g38 (n : Nat) (x0 : List (Int × ByteArray)) (v1 : Int) (v2 : Int) (x3 : List (Int × ByteArray)) : Option (DenR [.rw (.pair (.int .i8) .str) 51]) := g38_15 n (fun x8 => some (x8, ())) x0 v1 v2 x3
noncomputable def g38_A : List AK := [.rw (.pair (.int .i8) .str) 51, .dat (.int .i64), .dat (.int .i64), .ro (.pair (.int .i8) .str) 51]
noncomputable def g38_R : List RK := [.rw (.pair (.int .i8) .str) 51]
noncomputable def g38_f (n : Nat) (d : DenA g38_A) : Option (DenR g38_R) := g38 n d.1 d.2.1 d.2.2.1 d.2.2.2.1
noncomputable def g38_S (n : Nat) : Spec := mkSpec g38_A g38_R (g38_f n)
noncomputable def g38_K : Sk := (.nd (.fin none none (some g38_m1e) [] .leaf) (.nd (.nd (.fin none none (some g38_m1e) [] .leaf) (.fin none none (some g38_m1e) [] .leaf)) (.nd (.nd (.fin none (some g38_m2e) (some g38_m1e) [] .leaf) (.nd (.nd (.fin none none none [] .leaf) (.nd (.fin none none none [] .leaf) (.nd (.fin none none none [] .leaf) (.nd (.fin none none none [] .leaf) (.nd (.nd (.fin none (some g38_m4e) none [] .leaf) (.nd (.nd (.nd (.fin none none none [(0, g38_m5e)] .leaf) (.nd (.fin none none none [(0, g38_m5e)] .leaf) (.nd (.fin none none none [(0, g38_m5e)] .leaf) (.fin none (some g38_m4e) none [(0, g38_m5e)] .leaf)))) .leaf) .leaf)) (.nd (.fin none none (some g38_m1e) [] .leaf) (.fin none none (some g38_m1e) [] .leaf))))))) (.fin none (some g38_m3e) none [] .leaf))) (.nd (.fin none (some g38_m6e) none [] .leaf) (.nd (.nd (.nd (.nd (.nd (.fin none none none [(2, g38_m7e)] .leaf) (.fin none none none [(2, g38_m7e)] .leaf)) (.fin none (some g38_m6e) none [(2, g38_m7e)] .leaf)) .leaf) .leaf) (.nd (.fin none none (some g38_m1e) [] .leaf) (.nd (.fin none none (some g38_m1e) [] .leaf) (.nd (.fin none none (some g38_m1e) [] .leaf) (.fin none none (some g38_m1e) [] .leaf)))))))))
theorem g38_top {β : Type} (n : Nat) (s : FState) (cx : Cx β) : FX (g38_G n) n g38_B g38_K s cx = g38_15F n s cx := by kernel_rfl
theorem g38_fit (n : Nat) : Fit Try.prog 38 (g38_S n) :=
  fit_of (Γ := Γ0) (l := g38_C n) (n := n) (sk := g38_K) (ts := [(8, none)]) (fn := Try.f38) (c := g38_B) (by kernel_rfl) (by kernel_rfl) (by unfold Callable; kernel_rfl) tab_ok trivial follows_mixed (by kernel_rfl) (by kernel_rfl) (Nat.le_of_ble_eq_true (by kernel_rfl)) (by kernel_rfl) (by kernel_rfl)
    (fun d => (g38_top n _ _).trans (Eq.trans (b := g38_15F n (g38_m0 d.1 d.2.1 d.2.2.1 d.2.2.2.1) (finCx (g38_G n) g38_R [(8, none)])) (by kernel_rfl) ((g38_15_fx n _ d.1 d.2.1 d.2.2.1 d.2.2.2.1).trans (by kernel_rfl))))
noncomputable def g44_m0 (v0 : ByteArray) (v1 : ByteArray) : FState := ⟨tlist [(0, .dat .str v0), (1, .dat .str v1)], olist []⟩
noncomputable def g44_m1 (v4 : Bool) : FState := ⟨tlist [(4, .dat .bool v4)], olist []⟩
noncomputable def g44_m1e : List NE := [.keep 4]
noncomputable def g44_C (n : Nat) : List (Nat × Spec) := []
noncomputable def g44_G (n : Nat) : Ctx := { Γ0 with calls := lkS (g44_C n) }
noncomputable def g44_B : Code := fb Try.f44
noncomputable def g44_1 {β : Type} (n : Nat) (kr : Bool → Option β) (v0 : ByteArray) (v1 : ByteArray) : Option β := bif (decide ((v0.size : Int) ≥ (v1.size : Int))) then (bnd (w64 ((v0.size : Int) - (v1.size : Int))) (v0.size : Int) (v0.size : Int) <| kr (strEq (cutS v0 (w64 ((v0.size : Int) - (v1.size : Int))) (v0.size : Int)) v1)) else (kr false)
noncomputable def g44_1F {β : Type} (n : Nat) (s : FState) (cx : Cx β) : Option β := FX (g44_G n) n (nav g44_B [0]) (.fin none none (some g44_m1e) [] .leaf) s { cx with nrm := fun s => FX (g44_G n) n (nav g44_B [1, 0]) (.fin none none (some g44_m1e) [] .leaf) s { cx with nrm := fun s => FX (g44_G n) n (nav g44_B [1, 1]) (.fin none none (some g44_m1e) [] .leaf) s cx } }
theorem g44_1_fx {β : Type} (n : Nat) (cx : Cx β) (v0 : ByteArray) (v1 : ByteArray) : g44_1F n (g44_m0 v0 v1) cx = g44_1 n (fun v4 => cx.ret (g44_m1 v4)) v0 v1 := by kernel_rfl
noncomputable def g44 (n : Nat) (v0 : ByteArray) (v1 : ByteArray) : Option (DenR [.dat .bool]) := g44_1 n (fun v4 => some (v4, ())) v0 v1
noncomputable def g44_A : List AK := [.dat .str, .dat .str]
noncomputable def g44_R : List RK := [.dat .bool]
noncomputable def g44_f (n : Nat) (d : DenA g44_A) : Option (DenR g44_R) := g44 n d.1 d.2.1
noncomputable def g44_S (n : Nat) : Spec := mkSpec g44_A g44_R (g44_f n)
noncomputable def g44_K : Sk := (.nd (.fin none none (some g44_m1e) [] .leaf) (.nd (.fin none none (some g44_m1e) [] .leaf) (.fin none none (some g44_m1e) [] .leaf)))
theorem g44_top {β : Type} (n : Nat) (s : FState) (cx : Cx β) : FX (g44_G n) n g44_B g44_K s cx = g44_1F n s cx := by kernel_rfl
theorem g44_fit (n : Nat) : Fit Try.prog 44 (g44_S n) :=
  fit_of (Γ := Γ0) (l := g44_C n) (n := n) (sk := g44_K) (ts := [(4, none)]) (fn := Try.f44) (c := g44_B) (by kernel_rfl) (by kernel_rfl) (by unfold Callable; kernel_rfl) tab_ok trivial follows_mixed (by kernel_rfl) (by kernel_rfl) (Nat.le_of_ble_eq_true (by kernel_rfl)) (by kernel_rfl) (by kernel_rfl)
    (fun d => (g44_top n _ _).trans (Eq.trans (b := g44_1F n (g44_m0 d.1 d.2.1) (finCx (g44_G n) g44_R [(4, none)])) (by kernel_rfl) ((g44_1_fx n _ d.1 d.2.1).trans (by kernel_rfl))))
noncomputable def g39_m0 (v0 : ByteArray) (v1 : ByteArray) : FState := ⟨tlist [(0, .dat .str v0), (1, .dat .str v1)], olist []⟩
noncomputable def g39_m1 (v4 : Bool) : FState := ⟨tlist [(4, .dat .bool v4)], olist []⟩
noncomputable def g39_m1e : List NE := [.keep 4]
noncomputable def g39_C (n : Nat) : List (Nat × Spec) := [(44, g44_S n)]
noncomputable def g39_G (n : Nat) : Ctx := { Γ0 with calls := lkS (g39_C n) }
noncomputable def g39_B : Code := fb Try.f39
noncomputable def g39_1 {β : Type} (n : Nat) (kr : Bool → Option β) (v0 : ByteArray) (v1 : ByteArray) : Option β := (g44 n v0 v1).bind fun r1 => kr r1.1
noncomputable def g39_1F {β : Type} (n : Nat) (s : FState) (cx : Cx β) : Option β := FX (g39_G n) n (nav g39_B [0]) (.fin none none (some g39_m1e) [] .leaf) s { cx with nrm := fun s => FX (g39_G n) n (nav g39_B [1, 0]) (.fin none none (some g39_m1e) [] .leaf) s { cx with nrm := fun s => FX (g39_G n) n (nav g39_B [1, 1]) (.fin none none (some g39_m1e) [] .leaf) s cx } }
theorem g39_1_fx {β : Type} (n : Nat) (cx : Cx β) (v0 : ByteArray) (v1 : ByteArray) : g39_1F n (g39_m0 v0 v1) cx = g39_1 n (fun v4 => cx.ret (g39_m1 v4)) v0 v1 := by kernel_rfl
noncomputable def g39 (n : Nat) (v0 : ByteArray) (v1 : ByteArray) : Option (DenR [.dat .bool]) := g39_1 n (fun v4 => some (v4, ())) v0 v1
noncomputable def g39_A : List AK := [.dat .str, .dat .str]
noncomputable def g39_R : List RK := [.dat .bool]
noncomputable def g39_f (n : Nat) (d : DenA g39_A) : Option (DenR g39_R) := g39 n d.1 d.2.1
noncomputable def g39_S (n : Nat) : Spec := mkSpec g39_A g39_R (g39_f n)
noncomputable def g39_K : Sk := (.nd (.fin none none (some g39_m1e) [] .leaf) (.nd (.fin none none (some g39_m1e) [] .leaf) (.fin none none (some g39_m1e) [] .leaf)))
theorem g39_top {β : Type} (n : Nat) (s : FState) (cx : Cx β) : FX (g39_G n) n g39_B g39_K s cx = g39_1F n s cx := by kernel_rfl
theorem g39_fit (n : Nat) : Fit Try.prog 39 (g39_S n) :=
  fit_of (Γ := Γ0) (l := g39_C n) (n := n) (sk := g39_K) (ts := [(4, none)]) (fn := Try.f39) (c := g39_B) (by kernel_rfl) (by kernel_rfl) (by unfold Callable; kernel_rfl) tab_ok ⟨g44_fit n, trivial⟩ follows_mixed (by kernel_rfl) (by kernel_rfl) (Nat.le_of_ble_eq_true (by kernel_rfl)) (by kernel_rfl) (by kernel_rfl)
    (fun d => (g39_top n _ _).trans (Eq.trans (b := g39_1F n (g39_m0 d.1 d.2.1) (finCx (g39_G n) g39_R [(4, none)])) (by kernel_rfl) ((g39_1_fx n _ d.1 d.2.1).trans (by kernel_rfl))))
noncomputable def g45_m0 (v0 : ByteArray) (v1 : ByteArray) : FState := ⟨tlist [(0, .dat .str v0), (1, .dat .str v1)], olist []⟩
noncomputable def g45_m1 (v4 : Bool) : FState := ⟨tlist [(4, .dat .bool v4)], olist []⟩
noncomputable def g45_m1e : List NE := [.keep 4]
noncomputable def g45_C (n : Nat) : List (Nat × Spec) := []
noncomputable def g45_G (n : Nat) : Ctx := { Γ0 with calls := lkS (g45_C n) }
noncomputable def g45_B : Code := fb Try.f45
noncomputable def g45_1 {β : Type} (n : Nat) (kr : Bool → Option β) (v0 : ByteArray) (v1 : ByteArray) : Option β := bif (decide ((v0.size : Int) ≥ (v1.size : Int))) then (bnd (0 : Int) (v1.size : Int) (v0.size : Int) <| kr (strEq (cutS v0 (0 : Int) (v1.size : Int)) v1)) else (kr false)
noncomputable def g45_1F {β : Type} (n : Nat) (s : FState) (cx : Cx β) : Option β := FX (g45_G n) n (nav g45_B [0]) (.fin none none (some g45_m1e) [] .leaf) s { cx with nrm := fun s => FX (g45_G n) n (nav g45_B [1, 0]) (.fin none none (some g45_m1e) [] .leaf) s { cx with nrm := fun s => FX (g45_G n) n (nav g45_B [1, 1]) (.fin none none (some g45_m1e) [] .leaf) s cx } }
theorem g45_1_fx {β : Type} (n : Nat) (cx : Cx β) (v0 : ByteArray) (v1 : ByteArray) : g45_1F n (g45_m0 v0 v1) cx = g45_1 n (fun v4 => cx.ret (g45_m1 v4)) v0 v1 := by kernel_rfl
noncomputable def g45 (n : Nat) (v0 : ByteArray) (v1 : ByteArray) : Option (DenR [.dat .bool]) := g45_1 n (fun v4 => some (v4, ())) v0 v1
noncomputable def g45_A : List AK := [.dat .str, .dat .str]
noncomputable def g45_R : List RK := [.dat .bool]
noncomputable def g45_f (n : Nat) (d : DenA g45_A) : Option (DenR g45_R) := g45 n d.1 d.2.1
noncomputable def g45_S (n : Nat) : Spec := mkSpec g45_A g45_R (g45_f n)
noncomputable def g45_K : Sk := (.nd (.fin none none (some g45_m1e) [] .leaf) (.nd (.fin none none (some g45_m1e) [] .leaf) (.fin none none (some g45_m1e) [] .leaf)))
theorem g45_top {β : Type} (n : Nat) (s : FState) (cx : Cx β) : FX (g45_G n) n g45_B g45_K s cx = g45_1F n s cx := by kernel_rfl
theorem g45_fit (n : Nat) : Fit Try.prog 45 (g45_S n) :=
  fit_of (Γ := Γ0) (l := g45_C n) (n := n) (sk := g45_K) (ts := [(4, none)]) (fn := Try.f45) (c := g45_B) (by kernel_rfl) (by kernel_rfl) (by unfold Callable; kernel_rfl) tab_ok trivial follows_mixed (by kernel_rfl) (by kernel_rfl) (Nat.le_of_ble_eq_true (by kernel_rfl)) (by kernel_rfl) (by kernel_rfl)
    (fun d => (g45_top n _ _).trans (Eq.trans (b := g45_1F n (g45_m0 d.1 d.2.1) (finCx (g45_G n) g45_R [(4, none)])) (by kernel_rfl) ((g45_1_fx n _ d.1 d.2.1).trans (by kernel_rfl))))
end Go.Proofs.YtfnjlgflbenfoaaF
