import Derived.Test.YtfnjlgflbenfoaaDoorZFT
import Derived.Test.YtfnjlgflbenfoaaDoorZFE
namespace Go.Proofs.YtfnjlgflbenfoaaDoorZF
open Go Go.Proofs
set_option linter.unusedVariables false
set_option maxRecDepth 100000
variable {β : Type}
noncomputable def g26_m0 (v0 : (Int × ByteArray)) : FState := ⟨tlist [(0, .dat (.pair (.int .i64) .str) v0)], olist []⟩
noncomputable def g26_m1 (v2 : Bool) : FState := ⟨tlist [(2, .dat .bool v2)], olist []⟩
noncomputable def g26_m1e : List NE := [.keep 2]
noncomputable def g26_C (n : Nat) : List (Nat × Spec) := []
noncomputable def g26_G (n : Nat) : Ctx := { Γ0 with calls := lkS (g26_C n) }
noncomputable def g26_B : Code := fb Tryd.f26
noncomputable def g26_1 (n : Nat) (kr : Bool → Option β) (v0 : (Int × ByteArray)) : Option β := bif (decide ((v0.2.size : Int) > (2147483647 : Int))) then (kr false) else (kr true)
noncomputable def g26_1F (n : Nat) (s : FState) (cx : Cx β) : Option β := FX (g26_G n) n (nav g26_B [0]) (.fin none none (some g26_m1e) [] .leaf) s { cx with nrm := fun s => FX (g26_G n) n (nav g26_B [1, 0, 0]) (.fin none none (some g26_m1e) [] .leaf) s { cx with nrm := fun s => FX (g26_G n) n (nav g26_B [1, 0, 1]) (.fin none none (some g26_m1e) [] .leaf) s { cx with nrm := fun s => FX (g26_G n) n (nav g26_B [1, 1, 0]) (.fin none none (some g26_m1e) [] .leaf) s { cx with nrm := fun s => FX (g26_G n) n (nav g26_B [1, 1, 1]) (.fin none none (some g26_m1e) [] .leaf) s cx } } } }
theorem g26_1_fx (n : Nat) (cx : Cx β) (v0 : (Int × ByteArray)) : g26_1F n (g26_m0 v0) cx = g26_1 n (fun v2 => cx.ret (g26_m1 v2)) v0 := by kernel_rfl
noncomputable def g26 (n : Nat) (v0 : (Int × ByteArray)) : Option (DenR [.dat .bool]) := g26_1 n (fun v2 => some (v2, ())) v0
noncomputable def g26_A : List AK := [.dat (.pair (.int .i64) .str)]
noncomputable def g26_R : List RK := [.dat .bool]
noncomputable def g26_f (n : Nat) (d : DenA g26_A) : Option (DenR g26_R) := g26 n d.1
noncomputable def g26_S (n : Nat) : Spec := mkSpec g26_A g26_R (g26_f n)
noncomputable def g26_K : Sk := (.nd (.fin none none (some g26_m1e) [] .leaf) (.nd (.nd (.fin none none (some g26_m1e) [] .leaf) (.fin none none (some g26_m1e) [] .leaf)) (.nd (.fin none none (some g26_m1e) [] .leaf) (.fin none none (some g26_m1e) [] .leaf))))
theorem g26_top (n : Nat) (s : FState) (cx : Cx β) : FX (g26_G n) n g26_B g26_K s cx = g26_1F n s cx := by kernel_rfl
theorem g26_fit (n : Nat) : Fit Tryd.prog 26 (g26_S n) :=
  fit_of (Γ := Γ0) (l := g26_C n) (n := n) (sk := g26_K) (ts := [(2, none)]) (fn := Tryd.f26) (c := g26_B) (by kernel_rfl) (by kernel_rfl) (by unfold Callable; kernel_rfl) tab_ok trivial follows_mixed (by kernel_rfl) (by kernel_rfl) (Nat.le_of_ble_eq_true (by kernel_rfl)) (by kernel_rfl) (by kernel_rfl)
    (fun d => (g26_top n _ _).trans (Eq.trans (b := g26_1F n (g26_m0 d.1) (finCx (g26_G n) g26_R [(2, none)])) (by kernel_rfl) ((g26_1_fx n _ d.1).trans (by kernel_rfl))))
noncomputable def g9_m0 (x0 : List (Int × ByteArray)) : FState := ⟨tlist [(0, .sl 0 none false)], olist [(0, .row (.pair (.int .i64) .str) 45 false x0)]⟩
noncomputable def g9_m1 (v2 : Bool) : FState := ⟨tlist [(2, .dat .bool v2)], olist []⟩
noncomputable def g9_m1e : List NE := [.keep 2]
noncomputable def g9_m2 (x8 : List (Int × ByteArray)) (v9 v10 : Int) : FState := ⟨tlist [(8, .sl 8 none false), (9, .dat (.int .i64) v9), (10, .dat (.int .i64) v10)], olist [(8, .row (.pair (.int .i64) .str) 45 false x8)]⟩
noncomputable def g9_m2e : List NE := [.row 8 (.pair (.int .i64) .str) 45 false, .keep 9, .keep 10]
noncomputable def g9_m3 : FState := ⟨tlist [], olist []⟩
noncomputable def g9_m3e : List NE := []
noncomputable def g9_C (n : Nat) : List (Nat × Spec) := [(26, g26_S n)]
noncomputable def g9_G (n : Nat) : Ctx := { Γ0 with calls := lkS (g9_C n) }
noncomputable def g9_B : Code := fb Tryd.f9
noncomputable def g9_1 (n : Nat) (kn : List (Int × ByteArray) → Int → Int → Option β) (kr : Bool → Option β) (x0 : List (Int × ByteArray)) : Option β := bif (decide ((x0.length : Int) > (2147483647 : Int))) then (kr false) else (kn x0 (x0.length : Int) (0 : Int))
noncomputable def g9_1F (n : Nat) (s : FState) (cx : Cx β) : Option β := FX (g9_G n) n (nav g9_B [0]) (.fin none none (some g9_m1e) [] .leaf) s { cx with nrm := fun s => FX (g9_G n) n (nav g9_B [1, 0, 0]) (.fin none none (some g9_m1e) [] .leaf) s { cx with nrm := fun s => FX (g9_G n) n (nav g9_B [1, 0, 1]) (.fin none none (some g9_m1e) [] .leaf) s { cx with nrm := fun s => FX (g9_G n) n (nav g9_B [1, 1, 0, 0]) (.fin none (some g9_m2e) (some g9_m1e) [] .leaf) s cx } } }
theorem g9_1_fx (n : Nat) (cx : Cx β) (x0 : List (Int × ByteArray)) : g9_1F n (g9_m0 x0) cx = g9_1 n (fun x8 v9 v10 => cx.nrm (g9_m2 x8 v9 v10)) (fun v2 => cx.ret (g9_m1 v2)) x0 := by kernel_rfl
noncomputable def g9_2 (n : Nat) (kn : List (Int × ByteArray) → Int → Int → Option β) (kr : Bool → Option β) (kx0 : Option β) (x8 : List (Int × ByteArray)) (v9 v10 : Int) : Option β := bif (decide (v10 < v9)) then (idx v10 (x8.length : Int) <| (g26 n (rd [(rd x8 v10 ((0 : Int), (⟨#[]⟩ : ByteArray)))] (0 : Int) ((0 : Int), (⟨#[]⟩ : ByteArray)))).bind fun r1 => bif (!r1.1) then (kr false) else (kn x8 v9 (w64 (v10 + (1 : Int))))) else kx0
noncomputable def g9_2F (n : Nat) (s : FState) (cx : Cx β) : Option β := FX (g9_G n) n (nav g9_B [1, 1, 0, 1, 0, 0, 0]) (.fin none none (some g9_m1e) [(0, g9_m3e)] .leaf) s { cx with nrm := fun s => FX (g9_G n) n (nav g9_B [1, 1, 0, 1, 0, 0, 1, 0]) (.fin none none (some g9_m1e) [(0, g9_m3e)] .leaf) s { cx with nrm := fun s => FX (g9_G n) n (nav g9_B [1, 1, 0, 1, 0, 0, 1, 1, 0]) (.fin none none (some g9_m1e) [(0, g9_m3e)] .leaf) s { cx with nrm := fun s => FX (g9_G n) n (nav g9_B [1, 1, 0, 1, 0, 0, 1, 1, 1]) (.fin none (some g9_m2e) (some g9_m1e) [(0, g9_m3e)] .leaf) s cx } } }
theorem g9_2_fx (n : Nat) (cx : Cx β) (x8 : List (Int × ByteArray)) (v9 v10 : Int) : g9_2F n (g9_m2 x8 v9 v10) cx = g9_2 n (fun x8 v9 v10 => cx.nrm (g9_m2 x8 v9 v10)) (fun v2 => cx.ret (g9_m1 v2)) (cx.ex 0 g9_m3) x8 v9 v10 := by kernel_rfl
noncomputable def g9_3L (n : Nat) (kr : Bool → Option β) (kx0 : Option β) : Nat → List (Int × ByteArray) → Int → Int → Option β
  | 0, _, _, _ => none
  | m + 1, x8, v9, v10 => g9_2 n (g9_3L n kr kx0 m) kr kx0 x8 v9 v10
noncomputable def g9_3 (n : Nat) (kr : Bool → Option β) (kx0 : Option β) (x8 : List (Int × ByteArray)) (v9 v10 : Int) : Option β := g9_3L n kr kx0 n x8 v9 v10
noncomputable def g9_3F (n : Nat) (s : FState) (cx : Cx β) : Option β := loopN (fun again s => g9_2F n s { cx with nrm := again }) n s
theorem g9_3L_fx (n : Nat) (cx : Cx β) : ∀ (m : Nat) (x8 : List (Int × ByteArray)) (v9 v10 : Int), loopN (fun again s => g9_2F n s { cx with nrm := again }) m (g9_m2 x8 v9 v10) = g9_3L n (fun v2 => cx.ret (g9_m1 v2)) (cx.ex 0 g9_m3) m x8 v9 v10 := by
  intro m
  induction m with
  | zero => intros; rfl
  | succ m ih => intros; simp only [loopN, g9_3L, g9_2_fx, ih]
theorem g9_3_fx (n : Nat) (cx : Cx β) (x8 : List (Int × ByteArray)) (v9 v10 : Int) : g9_3F n (g9_m2 x8 v9 v10) cx = g9_3 n (fun v2 => cx.ret (g9_m1 v2)) (cx.ex 0 g9_m3) x8 v9 v10 := g9_3L_fx n cx n x8 v9 v10
noncomputable def g9_4 (n : Nat) (kn : Option β) (kr : Bool → Option β) (x8 : List (Int × ByteArray)) (v9 v10 : Int) : Option β := g9_3 n kr kn x8 v9 v10
noncomputable def g9_4F (n : Nat) (s : FState) (cx : Cx β) : Option β := g9_3F n s { cx with ex := fun j s => bif Nat.beq j 0 then cx.nrm s else cx.ex j s }
theorem g9_4_fx (n : Nat) (cx : Cx β) (x8 : List (Int × ByteArray)) (v9 v10 : Int) : g9_4F n (g9_m2 x8 v9 v10) cx = g9_4 n (cx.nrm g9_m3) (fun v2 => cx.ret (g9_m1 v2)) x8 v9 v10 := g9_3_fx n _ x8 v9 v10
noncomputable def g9_5 (n : Nat) (kr : Bool → Option β) : Option β := kr true
noncomputable def g9_5F (n : Nat) (s : FState) (cx : Cx β) : Option β := FX (g9_G n) n (nav g9_B [1, 1, 1, 0]) (.fin none none (some g9_m1e) [] .leaf) s { cx with nrm := fun s => FX (g9_G n) n (nav g9_B [1, 1, 1, 1]) (.fin none none (some g9_m1e) [] .leaf) s cx }
theorem g9_5_fx (n : Nat) (cx : Cx β) : g9_5F n g9_m3 cx = g9_5 n (fun v2 => cx.ret (g9_m1 v2)) := by kernel_rfl
noncomputable def g9_6 (n : Nat) (kr : Bool → Option β) (x0 : List (Int × ByteArray)) : Option β := g9_1 n (fun x8 v9 v10 => g9_4 n (g9_5 n kr) kr x8 v9 v10) kr x0
noncomputable def g9_6F (n : Nat) (s : FState) (cx : Cx β) : Option β := g9_1F n s { cx with nrm := fun s => g9_4F n s { cx with nrm := fun s => g9_5F n s cx } }
theorem g9_6_fx (n : Nat) (cx : Cx β) (x0 : List (Int × ByteArray)) : g9_6F n (g9_m0 x0) cx = g9_6 n (fun v2 => cx.ret (g9_m1 v2)) x0 := by simp only [g9_6F, g9_6, g9_1_fx, g9_4_fx, g9_5_fx]
noncomputable def g9 (n : Nat) (x0 : List (Int × ByteArray)) : Option (DenR [.dat .bool]) := g9_6 n (fun v2 => some (v2, ())) x0
noncomputable def g9_A : List AK := [.ro (.pair (.int .i64) .str) 45]
noncomputable def g9_R : List RK := [.dat .bool]
noncomputable def g9_f (n : Nat) (d : DenA g9_A) : Option (DenR g9_R) := g9 n d.1
noncomputable def g9_S (n : Nat) : Spec := mkSpec g9_A g9_R (g9_f n)
noncomputable def g9_K : Sk := (.nd (.fin none none (some g9_m1e) [] .leaf) (.nd (.nd (.fin none none (some g9_m1e) [] .leaf) (.fin none none (some g9_m1e) [] .leaf)) (.nd (.nd (.fin none (some g9_m2e) (some g9_m1e) [] .leaf) (.nd (.nd (.nd (.fin none none (some g9_m1e) [(0, g9_m3e)] .leaf) (.nd (.fin none none (some g9_m1e) [(0, g9_m3e)] .leaf) (.nd (.fin none none (some g9_m1e) [(0, g9_m3e)] .leaf) (.fin none (some g9_m2e) (some g9_m1e) [(0, g9_m3e)] .leaf)))) .leaf) .leaf)) (.nd (.fin none none (some g9_m1e) [] .leaf) (.fin none none (some g9_m1e) [] .leaf)))))
theorem g9_top (n : Nat) (s : FState) (cx : Cx β) : FX (g9_G n) n g9_B g9_K s cx = g9_6F n s cx := by kernel_rfl
theorem g9_fit (n : Nat) : Fit Tryd.prog 9 (g9_S n) :=
  fit_of (Γ := Γ0) (l := g9_C n) (n := n) (sk := g9_K) (ts := [(2, none)]) (fn := Tryd.f9) (c := g9_B) (by kernel_rfl) (by kernel_rfl) (by unfold Callable; kernel_rfl) tab_ok ⟨g26_fit n, trivial⟩ follows_mixed (by kernel_rfl) (by kernel_rfl) (Nat.le_of_ble_eq_true (by kernel_rfl)) (by kernel_rfl) (by kernel_rfl)
    (fun d => (g9_top n _ _).trans (Eq.trans (b := g9_6F n (g9_m0 d.1) (finCx (g9_G n) g9_R [(2, none)])) (by kernel_rfl) ((g9_6_fx n _ d.1).trans (by kernel_rfl))))
noncomputable def g32_m0 (v0 : ByteArray) : FState := ⟨tlist [(0, .dat .str v0)], olist []⟩
noncomputable def g32_m1 (x2 : List Int) : FState := ⟨tlist [(2, .sl 2 none false)], olist [(2, .row (.int .i32) 21 true x2)]⟩
noncomputable def g32_m1e : List NE := [.row 2 (.int .i32) 21 true]
noncomputable def g32_C (n : Nat) : List (Nat × Spec) := []
noncomputable def g32_G (n : Nat) : Ctx := { Γ0 with calls := lkS (g32_C n) }
noncomputable def g32_B : Code := fb Tryd.f32
noncomputable def g32_1 (n : Nat) (kr : List Int → Option β) (v0 : ByteArray) : Option β := room46 v0 <| kr (runesOf v0)
noncomputable def g32_1F (n : Nat) (s : FState) (cx : Cx β) : Option β := FX (g32_G n) n (nav g32_B [0]) (.fin none none (some g32_m1e) [] .leaf) s { cx with nrm := fun s => FX (g32_G n) n (nav g32_B [1, 0]) (.fin none none (some g32_m1e) [] .leaf) s { cx with nrm := fun s => FX (g32_G n) n (nav g32_B [1, 1]) (.fin none none (some g32_m1e) [] .leaf) s cx } }
theorem g32_1_fx (n : Nat) (cx : Cx β) (v0 : ByteArray) : g32_1F n (g32_m0 v0) cx = g32_1 n (fun x2 => cx.ret (g32_m1 x2)) v0 := by kernel_rfl
noncomputable def g32 (n : Nat) (v0 : ByteArray) : Option (DenR [.rw (.int .i32) 21]) := g32_1 n (fun x2 => some (x2, ())) v0
noncomputable def g32_A : List AK := [.dat .str]
noncomputable def g32_R : List RK := [.rw (.int .i32) 21]
noncomputable def g32_f (n : Nat) (d : DenA g32_A) : Option (DenR g32_R) := g32 n d.1
noncomputable def g32_S (n : Nat) : Spec := mkSpec g32_A g32_R (g32_f n)
noncomputable def g32_K : Sk := (.nd (.fin none none (some g32_m1e) [] .leaf) (.nd (.fin none none (some g32_m1e) [] .leaf) (.fin none none (some g32_m1e) [] .leaf)))
theorem g32_top (n : Nat) (s : FState) (cx : Cx β) : FX (g32_G n) n g32_B g32_K s cx = g32_1F n s cx := by kernel_rfl
theorem g32_fit (n : Nat) : Fit Tryd.prog 32 (g32_S n) :=
  fit_of (Γ := Γ0) (l := g32_C n) (n := n) (sk := g32_K) (ts := [(2, none)]) (fn := Tryd.f32) (c := g32_B) (by kernel_rfl) (by kernel_rfl) (by unfold Callable; kernel_rfl) tab_ok trivial follows_mixed (by kernel_rfl) (by kernel_rfl) (Nat.le_of_ble_eq_true (by kernel_rfl)) (by kernel_rfl) (by kernel_rfl)
    (fun d => (g32_top n _ _).trans (Eq.trans (b := g32_1F n (g32_m0 d.1) (finCx (g32_G n) g32_R [(2, none)])) (by kernel_rfl) ((g32_1_fx n _ d.1).trans (by kernel_rfl))))
noncomputable def g15_m0 (v0 : ByteArray) (v1 : Int) : FState := ⟨tlist [(0, .dat .str v0), (1, .dat (.int .i64) v1)], olist []⟩
noncomputable def g15_m1 (v4 : ByteArray) : FState := ⟨tlist [(4, .dat .str v4)], olist []⟩
noncomputable def g15_m1e : List NE := [.keep 4]
noncomputable def g15_C (n : Nat) : List (Nat × Spec) := [(32, g32_S n)]
noncomputable def g15_G (n : Nat) : Ctx := { Γ0 with calls := lkS (g15_C n) }
noncomputable def g15_B : Code := fb Tryd.f15
noncomputable def g15_1 (n : Nat) (kr : ByteArray → Option β) (v0 : ByteArray) (v1 : Int) : Option β := (g32 n v0).bind fun r1 => bnd (0 : Int) (minI (r1.1.length : Int) v1) (r1.1.length : Int) <| kr (runesBytes (cut r1.1 (0 : Int) ((0 : Int) + ((minI (r1.1.length : Int) v1) - (0 : Int)))))
noncomputable def g15_1F (n : Nat) (s : FState) (cx : Cx β) : Option β := FX (g15_G n) n (nav g15_B [0]) (.fin none none (some g15_m1e) [] .leaf) s { cx with nrm := fun s => FX (g15_G n) n (nav g15_B [1, 0]) (.fin none none (some g15_m1e) [] .leaf) s { cx with nrm := fun s => FX (g15_G n) n (nav g15_B [1, 1, 0]) (.fin none none (some g15_m1e) [] .leaf) s { cx with nrm := fun s => FX (g15_G n) n (nav g15_B [1, 1, 1]) (.fin none none (some g15_m1e) [] .leaf) s cx } } }
theorem g15_1_fx (n : Nat) (cx : Cx β) (v0 : ByteArray) (v1 : Int) : g15_1F n (g15_m0 v0 v1) cx = g15_1 n (fun v4 => cx.ret (g15_m1 v4)) v0 v1 := by kernel_rfl
noncomputable def g15 (n : Nat) (v0 : ByteArray) (v1 : Int) : Option (DenR [.dat .str]) := g15_1 n (fun v4 => some (v4, ())) v0 v1
noncomputable def g15_A : List AK := [.dat .str, .dat (.int .i64)]
noncomputable def g15_R : List RK := [.dat .str]
noncomputable def g15_f (n : Nat) (d : DenA g15_A) : Option (DenR g15_R) := g15 n d.1 d.2.1
noncomputable def g15_S (n : Nat) : Spec := mkSpec g15_A g15_R (g15_f n)
noncomputable def g15_K : Sk := (.nd (.fin none none (some g15_m1e) [] .leaf) (.nd (.fin none none (some g15_m1e) [] .leaf) (.nd (.fin none none (some g15_m1e) [] .leaf) (.fin none none (some g15_m1e) [] .leaf))))
theorem g15_top (n : Nat) (s : FState) (cx : Cx β) : FX (g15_G n) n g15_B g15_K s cx = g15_1F n s cx := by kernel_rfl
theorem g15_fit (n : Nat) : Fit Tryd.prog 15 (g15_S n) :=
  fit_of (Γ := Γ0) (l := g15_C n) (n := n) (sk := g15_K) (ts := [(4, none)]) (fn := Tryd.f15) (c := g15_B) (by kernel_rfl) (by kernel_rfl) (by unfold Callable; kernel_rfl) tab_ok ⟨g32_fit n, trivial⟩ follows_mixed (by kernel_rfl) (by kernel_rfl) (Nat.le_of_ble_eq_true (by kernel_rfl)) (by kernel_rfl) (by kernel_rfl)
    (fun d => (g15_top n _ _).trans (Eq.trans (b := g15_1F n (g15_m0 d.1 d.2.1) (finCx (g15_G n) g15_R [(4, none)])) (by kernel_rfl) ((g15_1_fx n _ d.1 d.2.1).trans (by kernel_rfl))))
noncomputable def g24_m0 (x0 : List (Int × ByteArray)) (v1 : Int) : FState := ⟨tlist [(0, .sl 0 none false), (1, .dat (.int .i64) v1)], olist [(0, .row (.pair (.int .i64) .str) 45 false x0)]⟩
noncomputable def g24_m1 (x4 : List (Int × ByteArray)) : FState := ⟨tlist [(4, .sl 4 none false)], olist [(4, .row (.pair (.int .i64) .str) 45 true x4)]⟩
noncomputable def g24_m1e : List NE := [.row 4 (.pair (.int .i64) .str) 45 true]
noncomputable def g24_m2 (x0 : List (Int × ByteArray)) (v1 : Int) (x5 : List (Int × ByteArray)) (v6 : Int) : FState := ⟨tlist [(0, .sl 0 none false), (1, .dat (.int .i64) v1), (5, .sl 5 none false), (6, .dat (.int .i64) v6)], olist [(0, .row (.pair (.int .i64) .str) 45 false x0), (5, .row (.pair (.int .i64) .str) 45 true x5)]⟩
noncomputable def g24_m2e : List NE := [.row 0 (.pair (.int .i64) .str) 45 false, .keep 1, .row 5 (.pair (.int .i64) .str) 45 true, .keep 6]
noncomputable def g24_m3 (x5 : List (Int × ByteArray)) : FState := ⟨tlist [(5, .sl 5 none false)], olist [(5, .row (.pair (.int .i64) .str) 45 true x5)]⟩
noncomputable def g24_m3e : List NE := [.row 5 (.pair (.int .i64) .str) 45 true]
noncomputable def g24_C (n : Nat) : List (Nat × Spec) := [(15, g15_S n)]
noncomputable def g24_G (n : Nat) : Ctx := { Γ0 with calls := lkS (g24_C n) }
noncomputable def g24_B : Code := fb Tryd.f24
noncomputable def g24_1 (n : Nat) (kn : List (Int × ByteArray) → Int → List (Int × ByteArray) → Int → Option β) (x0 : List (Int × ByteArray)) (v1 : Int) : Option β := kn x0 v1 [] (0 : Int)
noncomputable def g24_1F (n : Nat) (s : FState) (cx : Cx β) : Option β := FX (g24_G n) n (nav g24_B [0]) (.fin none none none [] .leaf) s { cx with nrm := fun s => FX (g24_G n) n (nav g24_B [1, 0]) (.fin none none none [] .leaf) s { cx with nrm := fun s => FX (g24_G n) n (nav g24_B [1, 1, 0, 0]) (.fin none (some g24_m2e) none [] .leaf) s cx } }
theorem g24_1_fx (n : Nat) (cx : Cx β) (x0 : List (Int × ByteArray)) (v1 : Int) : g24_1F n (g24_m0 x0 v1) cx = g24_1 n (fun x0 v1 x5 v6 => cx.nrm (g24_m2 x0 v1 x5 v6)) x0 v1 := by kernel_rfl
noncomputable def g24_2 (n : Nat) (kn : List (Int × ByteArray) → Int → List (Int × ByteArray) → Int → Option β) (kx0 : List (Int × ByteArray) → Option β) (x0 : List (Int × ByteArray)) (v1 : Int) (x5 : List (Int × ByteArray)) (v6 : Int) : Option β := bif (decide (v6 < (x0.length : Int))) then (bif (decide (v6 < v1)) then (idx v6 (x0.length : Int) <| bif ((((rd x0 v6 ((0 : Int), (⟨#[]⟩ : ByteArray))).1).tmod (3 : Int)) == (2 : Int)) then (idx v6 (x0.length : Int) <| (g15 n ((rd x0 v6 ((0 : Int), (⟨#[]⟩ : ByteArray))).2) (30 : Int)).bind fun r1 => roomy (x5.length + [((w64 ((w64 (0 - (((rd x0 v6 ((0 : Int), (⟨#[]⟩ : ByteArray))).1).tmod (3 : Int)))).tdiv (2 : Int))), r1.1)].length) <| kn x0 v1 (x5 ++ [((w64 ((w64 (0 - (((rd x0 v6 ((0 : Int), (⟨#[]⟩ : ByteArray))).1).tmod (3 : Int)))).tdiv (2 : Int))), r1.1)]) (w64 (v6 + (1 : Int)))) else (bif ((((rd x0 v6 ((0 : Int), (⟨#[]⟩ : ByteArray))).1).tmod (3 : Int)) == (-2 : Int)) then (idx v6 (x0.length : Int) <| (g15 n ((rd x0 v6 ((0 : Int), (⟨#[]⟩ : ByteArray))).2) (30 : Int)).bind fun r2 => roomy (x5.length + [((w64 ((w64 (0 - (((rd x0 v6 ((0 : Int), (⟨#[]⟩ : ByteArray))).1).tmod (3 : Int)))).tdiv (2 : Int))), r2.1)].length) <| kn x0 v1 (x5 ++ [((w64 ((w64 (0 - (((rd x0 v6 ((0 : Int), (⟨#[]⟩ : ByteArray))).1).tmod (3 : Int)))).tdiv (2 : Int))), r2.1)]) (w64 (v6 + (1 : Int)))) else (idx v6 (x0.length : Int) <| (g15 n ((rd x0 v6 ((0 : Int), (⟨#[]⟩ : ByteArray))).2) (30 : Int)).bind fun r3 => roomy (x5.length + [((((rd x0 v6 ((0 : Int), (⟨#[]⟩ : ByteArray))).1).tmod (3 : Int)), r3.1)].length) <| kn x0 v1 (x5 ++ [((((rd x0 v6 ((0 : Int), (⟨#[]⟩ : ByteArray))).1).tmod (3 : Int)), r3.1)]) (w64 (v6 + (1 : Int)))))) else (kx0 x5)) else (kx0 x5)
noncomputable def g24_2F (n : Nat) (s : FState) (cx : Cx β) : Option β := FX (g24_G n) n (nav g24_B [1, 1, 0, 1, 0, 0, 0, 0]) (.fin none none none [(0, g24_m3e)] .leaf) s { cx with nrm := fun s => FX (g24_G n) n (nav g24_B [1, 1, 0, 1, 0, 0, 0, 1]) (.fin none none none [(0, g24_m3e)] .leaf) s { cx with nrm := fun s => FX (g24_G n) n (nav g24_B [1, 1, 0, 1, 0, 0, 1, 0]) (.fin none none none [(0, g24_m3e)] .leaf) s { cx with nrm := fun s => FX (g24_G n) n (nav g24_B [1, 1, 0, 1, 0, 0, 1, 1]) (.fin none (some g24_m2e) none [(0, g24_m3e)] .leaf) s cx } } }
theorem g24_2_fx (n : Nat) (cx : Cx β) (x0 : List (Int × ByteArray)) (v1 : Int) (x5 : List (Int × ByteArray)) (v6 : Int) : g24_2F n (g24_m2 x0 v1 x5 v6) cx = g24_2 n (fun x0 v1 x5 v6 => cx.nrm (g24_m2 x0 v1 x5 v6)) (fun x5 => cx.ex 0 (g24_m3 x5)) x0 v1 x5 v6 := by kernel_rfl
noncomputable def g24_3L (n : Nat) (kx0 : List (Int × ByteArray) → Option β) : Nat → List (Int × ByteArray) → Int → List (Int × ByteArray) → Int → Option β
  | 0, _, _, _, _ => none
  | m + 1, x0, v1, x5, v6 => g24_2 n (g24_3L n kx0 m) kx0 x0 v1 x5 v6
noncomputable def g24_3 (n : Nat) (kx0 : List (Int × ByteArray) → Option β) (x0 : List (Int × ByteArray)) (v1 : Int) (x5 : List (Int × ByteArray)) (v6 : Int) : Option β := g24_3L n kx0 n x0 v1 x5 v6
noncomputable def g24_3F (n : Nat) (s : FState) (cx : Cx β) : Option β := loopN (fun again s => g24_2F n s { cx with nrm := again }) n s
theorem g24_3L_fx (n : Nat) (cx : Cx β) : ∀ (m : Nat) (x0 : List (Int × ByteArray)) (v1 : Int) (x5 : List (Int × ByteArray)) (v6 : Int), loopN (fun again s => g24_2F n s { cx with nrm := again }) m (g24_m2 x0 v1 x5 v6) = g24_3L n (fun x5 => cx.ex 0 (g24_m3 x5)) m x0 v1 x5 v6 := by
  intro m
  induction m with
  | zero => intros; rfl
  | succ m ih => intros; simp only [loopN, g24_3L, g24_2_fx, ih]
theorem g24_3_fx (n : Nat) (cx : Cx β) (x0 : List (Int × ByteArray)) (v1 : Int) (x5 : List (Int × ByteArray)) (v6 : Int) : g24_3F n (g24_m2 x0 v1 x5 v6) cx = g24_3 n (fun x5 => cx.ex 0 (g24_m3 x5)) x0 v1 x5 v6 := g24_3L_fx n cx n x0 v1 x5 v6
noncomputable def g24_4 (n : Nat) (kn : List (Int × ByteArray) → Option β) (x0 : List (Int × ByteArray)) (v1 : Int) (x5 : List (Int × ByteArray)) (v6 : Int) : Option β := g24_3 n kn x0 v1 x5 v6
noncomputable def g24_4F (n : Nat) (s : FState) (cx : Cx β) : Option β := g24_3F n s { cx with ex := fun j s => bif Nat.beq j 0 then cx.nrm s else cx.ex j s }
theorem g24_4_fx (n : Nat) (cx : Cx β) (x0 : List (Int × ByteArray)) (v1 : Int) (x5 : List (Int × ByteArray)) (v6 : Int) : g24_4F n (g24_m2 x0 v1 x5 v6) cx = g24_4 n (fun x5 => cx.nrm (g24_m3 x5)) x0 v1 x5 v6 := g24_3_fx n _ x0 v1 x5 v6
noncomputable def g24_5 (n : Nat) (kr : List (Int × ByteArray) → Option β) (x5 : List (Int × ByteArray)) : Option β := kr x5
noncomputable def g24_5F (n : Nat) (s : FState) (cx : Cx β) : Option β := FX (g24_G n) n (nav g24_B [1, 1, 1, 0]) (.fin none none (some g24_m1e) [] .leaf) s { cx with nrm := fun s => FX (g24_G n) n (nav g24_B [1, 1, 1, 1]) (.fin none none (some g24_m1e) [] .leaf) s cx }
theorem g24_5_fx (n : Nat) (cx : Cx β) (x5 : List (Int × ByteArray)) : g24_5F n (g24_m3 x5) cx = g24_5 n (fun x4 => cx.ret (g24_m1 x4)) x5 := by kernel_rfl
noncomputable def g24_6 (n : Nat) (kr : List (Int × ByteArray) → Option β) (x0 : List (Int × ByteArray)) (v1 : Int) : Option β := g24_1 n (fun x0 v1 x5 v6 => g24_4 n (fun x5 => g24_5 n kr x5) x0 v1 x5 v6) x0 v1
noncomputable def g24_6F (n : Nat) (s : FState) (cx : Cx β) : Option β := g24_1F n s { cx with nrm := fun s => g24_4F n s { cx with nrm := fun s => g24_5F n s cx } }
theorem g24_6_fx (n : Nat) (cx : Cx β) (x0 : List (Int × ByteArray)) (v1 : Int) : g24_6F n (g24_m0 x0 v1) cx = g24_6 n (fun x4 => cx.ret (g24_m1 x4)) x0 v1 := by simp only [g24_6F, g24_6, g24_1_fx, g24_4_fx, g24_5_fx]
noncomputable def g24 (n : Nat) (x0 : List (Int × ByteArray)) (v1 : Int) : Option (DenR [.rw (.pair (.int .i64) .str) 45]) := g24_6 n (fun x4 => some (x4, ())) x0 v1
noncomputable def g24_A : List AK := [.ro (.pair (.int .i64) .str) 45, .dat (.int .i64)]
noncomputable def g24_R : List RK := [.rw (.pair (.int .i64) .str) 45]
noncomputable def g24_f (n : Nat) (d : DenA g24_A) : Option (DenR g24_R) := g24 n d.1 d.2.1
noncomputable def g24_S (n : Nat) : Spec := mkSpec g24_A g24_R (g24_f n)
noncomputable def g24_K : Sk := (.nd (.fin none none none [] .leaf) (.nd (.fin none none none [] .leaf) (.nd (.nd (.fin none (some g24_m2e) none [] .leaf) (.nd (.nd (.nd (.nd (.fin none none none [(0, g24_m3e)] .leaf) (.fin none none none [(0, g24_m3e)] .leaf)) (.nd (.fin none none none [(0, g24_m3e)] .leaf) (.fin none (some g24_m2e) none [(0, g24_m3e)] .leaf))) .leaf) .leaf)) (.nd (.fin none none (some g24_m1e) [] .leaf) (.fin none none (some g24_m1e) [] .leaf)))))
theorem g24_top (n : Nat) (s : FState) (cx : Cx β) : FX (g24_G n) n g24_B g24_K s cx = g24_6F n s cx := by kernel_rfl
theorem g24_fit (n : Nat) : Fit Tryd.prog 24 (g24_S n) :=
  fit_of (Γ := Γ0) (l := g24_C n) (n := n) (sk := g24_K) (ts := [(4, none)]) (fn := Tryd.f24) (c := g24_B) (by kernel_rfl) (by kernel_rfl) (by unfold Callable; kernel_rfl) tab_ok ⟨g15_fit n, trivial⟩ follows_mixed (by kernel_rfl) (by kernel_rfl) (Nat.le_of_ble_eq_true (by kernel_rfl)) (by kernel_rfl) (by kernel_rfl)
    (fun d => (g24_top n _ _).trans (Eq.trans (b := g24_6F n (g24_m0 d.1 d.2.1) (finCx (g24_G n) g24_R [(4, none)])) (by kernel_rfl) ((g24_6_fx n _ d.1 d.2.1).trans (by kernel_rfl))))
noncomputable def g27_m0 : FState := ⟨tlist [], olist []⟩
noncomputable def g27_m1 (p0 : (Int × (Int × (Int × (Nat × (Int × (Int × Nat))))))) : FState := ⟨tlist [(0, .ptr 0 0 0)], olist [(0, .row (.pair (.int .i64) (.pair (.int .i64) (.pair (.int .i64) (.pair (.flt .f64) (.pair (.int .i64) (.pair (.int .i64) (.flt .f64))))))) 70 true [p0])]⟩
noncomputable def g27_m1e : List NE := [.ptr 0 (.pair (.int .i64) (.pair (.int .i64) (.pair (.int .i64) (.pair (.flt .f64) (.pair (.int .i64) (.pair (.int .i64) (.flt .f64))))))) 70 true]
noncomputable def g27_C (n : Nat) : List (Nat × Spec) := []
noncomputable def g27_G (n : Nat) : Ctx := { Γ0 with calls := lkS (g27_C n) }
noncomputable def g27_B : Code := fb Tryd.f27
noncomputable def g27_1 (n : Nat) (kr : (Int × (Int × (Int × (Nat × (Int × (Int × Nat)))))) → Option β) : Option β := kr ((1000000000 : Int), ((4 : Int), ((1000 : Int), ((4602678819172646912 : Nat), ((4 : Int), ((32 : Int), (4602678819172646912 : Nat)))))))
noncomputable def g27_1F (n : Nat) (s : FState) (cx : Cx β) : Option β := FX (g27_G n) n (nav g27_B [0]) (.fin none none (some g27_m1e) [] .leaf) s { cx with nrm := fun s => FX (g27_G n) n (nav g27_B [1, 0]) (.fin none none (some g27_m1e) [] .leaf) s { cx with nrm := fun s => FX (g27_G n) n (nav g27_B [1, 1]) (.fin none none (some g27_m1e) [] .leaf) s cx } }
theorem g27_1_fx (n : Nat) (cx : Cx β) : g27_1F n g27_m0 cx = g27_1 n (fun p0 => cx.ret (g27_m1 p0)) := by kernel_rfl
noncomputable def g27 (n : Nat) : Option (DenR [.ptr (.pair (.int .i64) (.pair (.int .i64) (.pair (.int .i64) (.pair (.flt .f64) (.pair (.int .i64) (.pair (.int .i64) (.flt .f64))))))) 70]) := g27_1 n (fun p0 => some (p0, ()))
noncomputable def g27_A : List AK := []
noncomputable def g27_R : List RK := [.ptr (.pair (.int .i64) (.pair (.int .i64) (.pair (.int .i64) (.pair (.flt .f64) (.pair (.int .i64) (.pair (.int .i64) (.flt .f64))))))) 70]
noncomputable def g27_f (n : Nat) (d : DenA g27_A) : Option (DenR g27_R) := g27 n
noncomputable def g27_S (n : Nat) : Spec := mkSpec g27_A g27_R (g27_f n)
noncomputable def g27_K : Sk := (.nd (.fin none none (some g27_m1e) [] .leaf) (.nd (.fin none none (some g27_m1e) [] .leaf) (.fin none none (some g27_m1e) [] .leaf)))
theorem g27_top (n : Nat) (s : FState) (cx : Cx β) : FX (g27_G n) n g27_B g27_K s cx = g27_1F n s cx := by kernel_rfl
theorem g27_fit (n : Nat) : Fit Tryd.prog 27 (g27_S n) :=
  fit_of (Γ := Γ0) (l := g27_C n) (n := n) (sk := g27_K) (ts := [(0, none)]) (fn := Tryd.f27) (c := g27_B) (by kernel_rfl) (by kernel_rfl) (by unfold Callable; kernel_rfl) tab_ok trivial follows_mixed (by kernel_rfl) (by kernel_rfl) (Nat.le_of_ble_eq_true (by kernel_rfl)) (by kernel_rfl) (by kernel_rfl)
    (fun d => (g27_top n _ _).trans (Eq.trans (b := g27_1F n (g27_m0) (finCx (g27_G n) g27_R [(0, none)])) (by kernel_rfl) ((g27_1_fx n _).trans (by kernel_rfl))))
noncomputable def g30_m0 (v0 : Int) : FState := ⟨tlist [(0, .dat (.int .i64) v0)], olist []⟩
noncomputable def g30_m1 (v2 : Int) : FState := ⟨tlist [(2, .dat (.int .i8) v2)], olist []⟩
noncomputable def g30_m1e : List NE := [.keep 2]
noncomputable def g30_C (n : Nat) : List (Nat × Spec) := []
noncomputable def g30_G (n : Nat) : Ctx := { Γ0 with calls := lkS (g30_C n) }
noncomputable def g30_B : Code := fb Tryd.f30
noncomputable def g30_1 (n : Nat) (kr : Int → Option β) (v0 : Int) : Option β := bif (v0 == (-1 : Int)) then (kr (-1 : Int)) else (bif (v0 == (1 : Int)) then (kr (1 : Int)) else (kr (0 : Int)))
noncomputable def g30_1F (n : Nat) (s : FState) (cx : Cx β) : Option β := FX (g30_G n) n (nav g30_B [0]) (.fin none none (some g30_m1e) [] .leaf) s { cx with nrm := fun s => FX (g30_G n) n (nav g30_B [1, 0, 0]) (.fin none none (some g30_m1e) [] .leaf) s { cx with nrm := fun s => FX (g30_G n) n (nav g30_B [1, 0, 1]) (.fin none none (some g30_m1e) [] .leaf) s { cx with nrm := fun s => FX (g30_G n) n (nav g30_B [1, 1, 0]) (.fin none none (some g30_m1e) [] .leaf) s { cx with nrm := fun s => FX (g30_G n) n (nav g30_B [1, 1, 1]) (.fin none none (some g30_m1e) [] .leaf) s cx } } } }
theorem g30_1_fx (n : Nat) (cx : Cx β) (v0 : Int) : g30_1F n (g30_m0 v0) cx = g30_1 n (fun v2 => cx.ret (g30_m1 v2)) v0 := by kernel_rfl
noncomputable def g30 (n : Nat) (v0 : Int) : Option (DenR [.dat (.int .i8)]) := g30_1 n (fun v2 => some (v2, ())) v0
noncomputable def g30_A : List AK := [.dat (.int .i64)]
noncomputable def g30_R : List RK := [.dat (.int .i8)]
noncomputable def g30_f (n : Nat) (d : DenA g30_A) : Option (DenR g30_R) := g30 n d.1
noncomputable def g30_S (n : Nat) : Spec := mkSpec g30_A g30_R (g30_f n)
noncomputable def g30_K : Sk := (.nd (.fin none none (some g30_m1e) [] .leaf) (.nd (.nd (.fin none none (some g30_m1e) [] .leaf) (.fin none none (some g30_m1e) [] .leaf)) (.nd (.fin none none (some g30_m1e) [] .leaf) (.fin none none (some g30_m1e) [] .leaf))))
theorem g30_top (n : Nat) (s : FState) (cx : Cx β) : FX (g30_G n) n g30_B g30_K s cx = g30_1F n s cx := by kernel_rfl
theorem g30_fit (n : Nat) : Fit Tryd.prog 30 (g30_S n) :=
  fit_of (Γ := Γ0) (l := g30_C n) (n := n) (sk := g30_K) (ts := [(2, none)]) (fn := Tryd.f30) (c := g30_B) (by kernel_rfl) (by kernel_rfl) (by unfold Callable; kernel_rfl) tab_ok trivial follows_mixed (by kernel_rfl) (by kernel_rfl) (Nat.le_of_ble_eq_true (by kernel_rfl)) (by kernel_rfl) (by kernel_rfl)
    (fun d => (g30_top n _ _).trans (Eq.trans (b := g30_1F n (g30_m0 d.1) (finCx (g30_G n) g30_R [(2, none)])) (by kernel_rfl) ((g30_1_fx n _ d.1).trans (by kernel_rfl))))
noncomputable def g29_m0 (x0 : List (Int × ByteArray)) : FState := ⟨tlist [(0, .sl 0 none false)], olist [(0, .row (.pair (.int .i64) .str) 45 false x0)]⟩
noncomputable def g29_m1 (x2 : List (Int × ByteArray)) : FState := ⟨tlist [(2, .sl 2 none false)], olist [(2, .row (.pair (.int .i8) .str) 75 true x2)]⟩
noncomputable def g29_m1e : List NE := [.row 2 (.pair (.int .i8) .str) 75 true]
noncomputable def g29_m2 (x3 x6 : List (Int × ByteArray)) (v7 v8 : Int) : FState := ⟨tlist [(3, .sl 3 none false), (6, .sl 6 none false), (7, .dat (.int .i64) v7), (8, .dat (.int .i64) v8)], olist [(3, .row (.pair (.int .i8) .str) 75 true x3), (6, .row (.pair (.int .i64) .str) 45 false x6)]⟩
noncomputable def g29_m2e : List NE := [.row 3 (.pair (.int .i8) .str) 75 true, .row 6 (.pair (.int .i64) .str) 45 false, .keep 7, .keep 8]
noncomputable def g29_m3 (x3 : List (Int × ByteArray)) : FState := ⟨tlist [(3, .sl 3 none false)], olist [(3, .row (.pair (.int .i8) .str) 75 true x3)]⟩
noncomputable def g29_m3e : List NE := [.row 3 (.pair (.int .i8) .str) 75 true]
noncomputable def g29_C (n : Nat) : List (Nat × Spec) := [(30, g30_S n)]
noncomputable def g29_G (n : Nat) : Ctx := { Γ0 with calls := lkS (g29_C n) }
noncomputable def g29_B : Code := fb Tryd.f29
noncomputable def g29_1 (n : Nat) (kn : List (Int × ByteArray) → List (Int × ByteArray) → Int → Int → Option β) (x0 : List (Int × ByteArray)) : Option β := kn [] x0 (x0.length : Int) (0 : Int)
noncomputable def g29_1F (n : Nat) (s : FState) (cx : Cx β) : Option β := FX (g29_G n) n (nav g29_B [0]) (.fin none none none [] .leaf) s { cx with nrm := fun s => FX (g29_G n) n (nav g29_B [1, 0]) (.fin none none none [] .leaf) s { cx with nrm := fun s => FX (g29_G n) n (nav g29_B [1, 1, 0, 0]) (.fin none (some g29_m2e) none [] .leaf) s cx } }
theorem g29_1_fx (n : Nat) (cx : Cx β) (x0 : List (Int × ByteArray)) : g29_1F n (g29_m0 x0) cx = g29_1 n (fun x3 x6 v7 v8 => cx.nrm (g29_m2 x3 x6 v7 v8)) x0 := by kernel_rfl
noncomputable def g29_2 (n : Nat) (kn : List (Int × ByteArray) → List (Int × ByteArray) → Int → Int → Option β) (kx0 : List (Int × ByteArray) → Option β) (x3 x6 : List (Int × ByteArray)) (v7 v8 : Int) : Option β := bif (decide (v8 < v7)) then (idx v8 (x6.length : Int) <| (g30 n ((rd [(rd x6 v8 ((0 : Int), (⟨#[]⟩ : ByteArray)))] (0 : Int) ((0 : Int), (⟨#[]⟩ : ByteArray))).1)).bind fun r1 => roomy (x3.length + [(r1.1, (rd [(rd x6 v8 ((0 : Int), (⟨#[]⟩ : ByteArray)))] (0 : Int) ((0 : Int), (⟨#[]⟩ : ByteArray))).2)].length) <| kn (x3 ++ [(r1.1, (rd [(rd x6 v8 ((0 : Int), (⟨#[]⟩ : ByteArray)))] (0 : Int) ((0 : Int), (⟨#[]⟩ : ByteArray))).2)]) x6 v7 (w64 (v8 + (1 : Int)))) else (kx0 x3)
noncomputable def g29_2F (n : Nat) (s : FState) (cx : Cx β) : Option β := FX (g29_G n) n (nav g29_B [1, 1, 0, 1, 0, 0, 0]) (.fin none none none [(0, g29_m3e)] .leaf) s { cx with nrm := fun s => FX (g29_G n) n (nav g29_B [1, 1, 0, 1, 0, 0, 1, 0]) (.fin none none none [(0, g29_m3e)] .leaf) s { cx with nrm := fun s => FX (g29_G n) n (nav g29_B [1, 1, 0, 1, 0, 0, 1, 1, 0]) (.fin none none none [(0, g29_m3e)] .leaf) s { cx with nrm := fun s => FX (g29_G n) n (nav g29_B [1, 1, 0, 1, 0, 0, 1, 1, 1]) (.fin none (some g29_m2e) none [(0, g29_m3e)] .leaf) s cx } } }
theorem g29_2_fx (n : Nat) (cx : Cx β) (x3 x6 : List (Int × ByteArray)) (v7 v8 : Int) : g29_2F n (g29_m2 x3 x6 v7 v8) cx = g29_2 n (fun x3 x6 v7 v8 => cx.nrm (g29_m2 x3 x6 v7 v8)) (fun x3 => cx.ex 0 (g29_m3 x3)) x3 x6 v7 v8 := by kernel_rfl
noncomputable def g29_3L (n : Nat) (kx0 : List (Int × ByteArray) → Option β) : Nat → List (Int × ByteArray) → List (Int × ByteArray) → Int → Int → Option β
  | 0, _, _, _, _ => none
  | m + 1, x3, x6, v7, v8 => g29_2 n (g29_3L n kx0 m) kx0 x3 x6 v7 v8
noncomputable def g29_3 (n : Nat) (kx0 : List (Int × ByteArray) → Option β) (x3 x6 : List (Int × ByteArray)) (v7 v8 : Int) : Option β := g29_3L n kx0 n x3 x6 v7 v8
noncomputable def g29_3F (n : Nat) (s : FState) (cx : Cx β) : Option β := loopN (fun again s => g29_2F n s { cx with nrm := again }) n s
theorem g29_3L_fx (n : Nat) (cx : Cx β) : ∀ (m : Nat) (x3 x6 : List (Int × ByteArray)) (v7 v8 : Int), loopN (fun again s => g29_2F n s { cx with nrm := again }) m (g29_m2 x3 x6 v7 v8) = g29_3L n (fun x3 => cx.ex 0 (g29_m3 x3)) m x3 x6 v7 v8 := by
  intro m
  induction m with
  | zero => intros; rfl
  | succ m ih => intros; simp only [loopN, g29_3L, g29_2_fx, ih]
theorem g29_3_fx (n : Nat) (cx : Cx β) (x3 x6 : List (Int × ByteArray)) (v7 v8 : Int) : g29_3F n (g29_m2 x3 x6 v7 v8) cx = g29_3 n (fun x3 => cx.ex 0 (g29_m3 x3)) x3 x6 v7 v8 := g29_3L_fx n cx n x3 x6 v7 v8
noncomputable def g29_4 (n : Nat) (kn : List (Int × ByteArray) → Option β) (x3 x6 : List (Int × ByteArray)) (v7 v8 : Int) : Option β := g29_3 n kn x3 x6 v7 v8
noncomputable def g29_4F (n : Nat) (s : FState) (cx : Cx β) : Option β := g29_3F n s { cx with ex := fun j s => bif Nat.beq j 0 then cx.nrm s else cx.ex j s }
theorem g29_4_fx (n : Nat) (cx : Cx β) (x3 x6 : List (Int × ByteArray)) (v7 v8 : Int) : g29_4F n (g29_m2 x3 x6 v7 v8) cx = g29_4 n (fun x3 => cx.nrm (g29_m3 x3)) x3 x6 v7 v8 := g29_3_fx n _ x3 x6 v7 v8
noncomputable def g29_5 (n : Nat) (kr : List (Int × ByteArray) → Option β) (x3 : List (Int × ByteArray)) : Option β := kr x3
noncomputable def g29_5F (n : Nat) (s : FState) (cx : Cx β) : Option β := FX (g29_G n) n (nav g29_B [1, 1, 1, 0]) (.fin none none (some g29_m1e) [] .leaf) s { cx with nrm := fun s => FX (g29_G n) n (nav g29_B [1, 1, 1, 1]) (.fin none none (some g29_m1e) [] .leaf) s cx }
theorem g29_5_fx (n : Nat) (cx : Cx β) (x3 : List (Int × ByteArray)) : g29_5F n (g29_m3 x3) cx = g29_5 n (fun x2 => cx.ret (g29_m1 x2)) x3 := by kernel_rfl
noncomputable def g29_6 (n : Nat) (kr : List (Int × ByteArray) → Option β) (x0 : List (Int × ByteArray)) : Option β := g29_1 n (fun x3 x6 v7 v8 => g29_4 n (fun x3 => g29_5 n kr x3) x3 x6 v7 v8) x0
noncomputable def g29_6F (n : Nat) (s : FState) (cx : Cx β) : Option β := g29_1F n s { cx with nrm := fun s => g29_4F n s { cx with nrm := fun s => g29_5F n s cx } }
theorem g29_6_fx (n : Nat) (cx : Cx β) (x0 : List (Int × ByteArray)) : g29_6F n (g29_m0 x0) cx = g29_6 n (fun x2 => cx.ret (g29_m1 x2)) x0 := by simp only [g29_6F, g29_6, g29_1_fx, g29_4_fx, g29_5_fx]
noncomputable def g29 (n : Nat) (x0 : List (Int × ByteArray)) : Option (DenR [.rw (.pair (.int .i8) .str) 75]) := g29_6 n (fun x2 => some (x2, ())) x0
noncomputable def g29_A : List AK := [.ro (.pair (.int .i64) .str) 45]
noncomputable def g29_R : List RK := [.rw (.pair (.int .i8) .str) 75]
noncomputable def g29_f (n : Nat) (d : DenA g29_A) : Option (DenR g29_R) := g29 n d.1
noncomputable def g29_S (n : Nat) : Spec := mkSpec g29_A g29_R (g29_f n)
noncomputable def g29_K : Sk := (.nd (.fin none none none [] .leaf) (.nd (.fin none none none [] .leaf) (.nd (.nd (.fin none (some g29_m2e) none [] .leaf) (.nd (.nd (.nd (.fin none none none [(0, g29_m3e)] .leaf) (.nd (.fin none none none [(0, g29_m3e)] .leaf) (.nd (.fin none none none [(0, g29_m3e)] .leaf) (.fin none (some g29_m2e) none [(0, g29_m3e)] .leaf)))) .leaf) .leaf)) (.nd (.fin none none (some g29_m1e) [] .leaf) (.fin none none (some g29_m1e) [] .leaf)))))
theorem g29_top (n : Nat) (s : FState) (cx : Cx β) : FX (g29_G n) n g29_B g29_K s cx = g29_6F n s cx := by kernel_rfl
theorem g29_fit (n : Nat) : Fit Tryd.prog 29 (g29_S n) :=
  fit_of (Γ := Γ0) (l := g29_C n) (n := n) (sk := g29_K) (ts := [(2, none)]) (fn := Tryd.f29) (c := g29_B) (by kernel_rfl) (by kernel_rfl) (by unfold Callable; kernel_rfl) tab_ok ⟨g30_fit n, trivial⟩ follows_mixed (by kernel_rfl) (by kernel_rfl) (Nat.le_of_ble_eq_true (by kernel_rfl)) (by kernel_rfl) (by kernel_rfl)
    (fun d => (g29_top n _ _).trans (Eq.trans (b := g29_6F n (g29_m0 d.1) (finCx (g29_G n) g29_R [(2, none)])) (by kernel_rfl) ((g29_6_fx n _ d.1).trans (by kernel_rfl))))
noncomputable def g74_m0 (x0 x1 : List Int) : FState := ⟨tlist [(0, .sl 0 none false), (1, .sl 1 none false)], olist [(0, .row (.int .i32) 21 false x0), (1, .row (.int .i32) 21 false x1)]⟩
noncomputable def g74_m1 (v4 : Int) : FState := ⟨tlist [(4, .dat (.int .i64) v4)], olist []⟩
noncomputable def g74_m1e : List NE := [.keep 4]
noncomputable def g74_m2 (x0 x1 : List Int) (v5 v6 v7 : Int) : FState := ⟨tlist [(0, .sl 0 none false), (1, .sl 1 none false), (5, .dat (.int .i64) v5), (6, .dat (.int .i64) v6), (7, .dat (.int .i64) v7)], olist [(0, .row (.int .i32) 21 false x0), (1, .row (.int .i32) 21 false x1)]⟩
noncomputable def g74_m2e : List NE := [.row 0 (.int .i32) 21 false, .row 1 (.int .i32) 21 false, .keep 5, .keep 6, .keep 7]
noncomputable def g74_C (n : Nat) : List (Nat × Spec) := []
noncomputable def g74_G (n : Nat) : Ctx := { Γ0 with calls := lkS (g74_C n) }
noncomputable def g74_B : Code := fb Tryd.f74
noncomputable def g74_1 (n : Nat) (kn : List Int → List Int → Int → Int → Int → Option β) (x0 x1 : List Int) : Option β := kn x0 x1 (x0.length : Int) (x1.length : Int) (0 : Int)
noncomputable def g74_1F (n : Nat) (s : FState) (cx : Cx β) : Option β := FX (g74_G n) n (nav g74_B [0]) (.fin none none none [] .leaf) s { cx with nrm := fun s => FX (g74_G n) n (nav g74_B [1, 0]) (.fin none none none [] .leaf) s { cx with nrm := fun s => FX (g74_G n) n (nav g74_B [1, 1, 0]) (.fin none none none [] .leaf) s { cx with nrm := fun s => FX (g74_G n) n (nav g74_B [1, 1, 1, 0]) (.fin none (some g74_m2e) none [] .leaf) s cx } } }
theorem g74_1_fx (n : Nat) (cx : Cx β) (x0 x1 : List Int) : g74_1F n (g74_m0 x0 x1) cx = g74_1 n (fun x0 x1 v5 v6 v7 => cx.nrm (g74_m2 x0 x1 v5 v6 v7)) x0 x1 := by kernel_rfl
noncomputable def g74_2 (n : Nat) (kn : List Int → List Int → Int → Int → Int → Option β) (kr : Int → Option β) (x0 x1 : List Int) (v5 v6 v7 : Int) : Option β := bif (decide ((w64 (v5 - (1 : Int))) < (0 : Int))) then (kr v7) else (bif (decide ((w64 (v6 - (1 : Int))) < (0 : Int))) then (kr v7) else (idx (w64 (v5 - (1 : Int))) (x0.length : Int) <| idx (w64 (v6 - (1 : Int))) (x1.length : Int) <| bif ((rd x0 (w64 (v5 - (1 : Int))) (0 : Int)) != (rd x1 (w64 (v6 - (1 : Int))) (0 : Int))) then (kr v7) else (kn x0 x1 (w64 (v5 - (1 : Int))) (w64 (v6 - (1 : Int))) (w64 (v7 + (1 : Int))))))
noncomputable def g74_2F (n : Nat) (s : FState) (cx : Cx β) : Option β := FX (g74_G n) n (nav g74_B [1, 1, 1, 1, 0, 0, 0]) (.fin none none (some g74_m1e) [] .leaf) s { cx with nrm := fun s => FX (g74_G n) n (nav g74_B [1, 1, 1, 1, 0, 0, 1]) (.fin none (some g74_m2e) (some g74_m1e) [] .leaf) s cx }
theorem g74_2_fx (n : Nat) (cx : Cx β) (x0 x1 : List Int) (v5 v6 v7 : Int) : g74_2F n (g74_m2 x0 x1 v5 v6 v7) cx = g74_2 n (fun x0 x1 v5 v6 v7 => cx.nrm (g74_m2 x0 x1 v5 v6 v7)) (fun v4 => cx.ret (g74_m1 v4)) x0 x1 v5 v6 v7 := by kernel_rfl
noncomputable def g74_3L (n : Nat) (kr : Int → Option β) : Nat → List Int → List Int → Int → Int → Int → Option β
  | 0, _, _, _, _, _ => none
  | m + 1, x0, x1, v5, v6, v7 => g74_2 n (g74_3L n kr m) kr x0 x1 v5 v6 v7
noncomputable def g74_3 (n : Nat) (kr : Int → Option β) (x0 x1 : List Int) (v5 v6 v7 : Int) : Option β := g74_3L n kr n x0 x1 v5 v6 v7
noncomputable def g74_3F (n : Nat) (s : FState) (cx : Cx β) : Option β := loopN (fun again s => g74_2F n s { cx with nrm := again }) n s
theorem g74_3L_fx (n : Nat) (cx : Cx β) : ∀ (m : Nat) (x0 x1 : List Int) (v5 v6 v7 : Int), loopN (fun again s => g74_2F n s { cx with nrm := again }) m (g74_m2 x0 x1 v5 v6 v7) = g74_3L n (fun v4 => cx.ret (g74_m1 v4)) m x0 x1 v5 v6 v7 := by
  intro m
  induction m with
  | zero => intros; rfl
  | succ m ih => intros; simp only [loopN, g74_3L, g74_2_fx, ih]
theorem g74_3_fx (n : Nat) (cx : Cx β) (x0 x1 : List Int) (v5 v6 v7 : Int) : g74_3F n (g74_m2 x0 x1 v5 v6 v7) cx = g74_3 n (fun v4 => cx.ret (g74_m1 v4)) x0 x1 v5 v6 v7 := g74_3L_fx n cx n x0 x1 v5 v6 v7
noncomputable def g74_4 (n : Nat) (kr : Int → Option β) (x0 x1 : List Int) (v5 v6 v7 : Int) : Option β := g74_3 n kr x0 x1 v5 v6 v7
noncomputable def g74_4F (n : Nat) (s : FState) (cx : Cx β) : Option β := g74_3F n s { cx with ex := fun j s => bif Nat.beq j 0 then cx.nrm s else cx.ex j s }
theorem g74_4_fx (n : Nat) (cx : Cx β) (x0 x1 : List Int) (v5 v6 v7 : Int) : g74_4F n (g74_m2 x0 x1 v5 v6 v7) cx = g74_4 n (fun v4 => cx.ret (g74_m1 v4)) x0 x1 v5 v6 v7 := g74_3_fx n _ x0 x1 v5 v6 v7
noncomputable def g74_5 (n : Nat) (kr : Int → Option β) (x0 x1 : List Int) : Option β := g74_1 n (fun x0 x1 v5 v6 v7 => g74_4 n kr x0 x1 v5 v6 v7) x0 x1
noncomputable def g74_5F (n : Nat) (s : FState) (cx : Cx β) : Option β := g74_1F n s { cx with nrm := fun s => g74_4F n s cx }
theorem g74_5_fx (n : Nat) (cx : Cx β) (x0 x1 : List Int) : g74_5F n (g74_m0 x0 x1) cx = g74_5 n (fun v4 => cx.ret (g74_m1 v4)) x0 x1 := by simp only [g74_5F, g74_5, g74_1_fx, g74_4_fx]
noncomputable def g74 (n : Nat) (x0 x1 : List Int) : Option (DenR [.dat (.int .i64)]) := g74_5 n (fun v4 => some (v4, ())) x0 x1
noncomputable def g74_A : List AK := [.ro (.int .i32) 21, .ro (.int .i32) 21]
noncomputable def g74_R : List RK := [.dat (.int .i64)]
noncomputable def g74_f (n : Nat) (d : DenA g74_A) : Option (DenR g74_R) := g74 n d.1 d.2.1
noncomputable def g74_S (n : Nat) : Spec := mkSpec g74_A g74_R (g74_f n)
noncomputable def g74_K : Sk := (.nd (.fin none none none [] .leaf) (.nd (.fin none none none [] .leaf) (.nd (.fin none none none [] .leaf) (.nd (.fin none (some g74_m2e) none [] .leaf) (.nd (.nd (.nd (.fin none none (some g74_m1e) [] .leaf) (.fin none (some g74_m2e) (some g74_m1e) [] .leaf)) .leaf) .leaf)))))
theorem g74_top (n : Nat) (s : FState) (cx : Cx β) : FX (g74_G n) n g74_B g74_K s cx = g74_5F n s cx := by kernel_rfl
theorem g74_fit (n : Nat) : Fit Tryd.prog 74 (g74_S n) :=
  fit_of (Γ := Γ0) (l := g74_C n) (n := n) (sk := g74_K) (ts := [(4, none)]) (fn := Tryd.f74) (c := g74_B) (by kernel_rfl) (by kernel_rfl) (by unfold Callable; kernel_rfl) tab_ok trivial follows_mixed (by kernel_rfl) (by kernel_rfl) (Nat.le_of_ble_eq_true (by kernel_rfl)) (by kernel_rfl) (by kernel_rfl)
    (fun d => (g74_top n _ _).trans (Eq.trans (b := g74_5F n (g74_m0 d.1 d.2.1) (finCx (g74_G n) g74_R [(4, none)])) (by kernel_rfl) ((g74_5_fx n _ d.1 d.2.1).trans (by kernel_rfl))))
noncomputable def g63_m0 (p0 : (Int × (Int × (Int × (Nat × (Int × (Int × Nat))))))) (v1 v2 : ByteArray) : FState := ⟨tlist [(0, .ptr 0 0 0), (1, .dat .str v1), (2, .dat .str v2)], olist [(0, .row (.pair (.int .i64) (.pair (.int .i64) (.pair (.int .i64) (.pair (.flt .f64) (.pair (.int .i64) (.pair (.int .i64) (.flt .f64))))))) 70 false [p0])]⟩
noncomputable def g63_m1 (v6 : Int) : FState := ⟨tlist [(6, .dat (.int .i64) v6)], olist []⟩
noncomputable def g63_m1e : List NE := [.keep 6]
noncomputable def g63_C (n : Nat) : List (Nat × Spec) := [(74, g74_S n)]
noncomputable def g63_G (n : Nat) : Ctx := { Γ0 with calls := lkS (g63_C n) }
noncomputable def g63_B : Code := fb Tryd.f63
noncomputable def g63_1 (n : Nat) (kr : Int → Option β) (p0 : (Int × (Int × (Int × (Nat × (Int × (Int × Nat))))))) (v1 v2 : ByteArray) : Option β := room46 v1 <| room46 v2 <| (g74 n (runesOf v1) (runesOf v2)).bind fun r1 => kr r1.1
noncomputable def g63_1F (n : Nat) (s : FState) (cx : Cx β) : Option β := FX (g63_G n) n (nav g63_B [0]) (.fin none none (some g63_m1e) [] .leaf) s { cx with nrm := fun s => FX (g63_G n) n (nav g63_B [1, 0]) (.fin none none (some g63_m1e) [] .leaf) s { cx with nrm := fun s => FX (g63_G n) n (nav g63_B [1, 1]) (.fin none none (some g63_m1e) [] .leaf) s cx } }
theorem g63_1_fx (n : Nat) (cx : Cx β) (p0 : (Int × (Int × (Int × (Nat × (Int × (Int × Nat))))))) (v1 v2 : ByteArray) : g63_1F n (g63_m0 p0 v1 v2) cx = g63_1 n (fun v6 => cx.ret (g63_m1 v6)) p0 v1 v2 := by kernel_rfl
noncomputable def g63 (n : Nat) (p0 : (Int × (Int × (Int × (Nat × (Int × (Int × Nat))))))) (v1 v2 : ByteArray) : Option (DenR [.dat (.int .i64)]) := g63_1 n (fun v6 => some (v6, ())) p0 v1 v2
noncomputable def g63_A : List AK := [.pro (.pair (.int .i64) (.pair (.int .i64) (.pair (.int .i64) (.pair (.flt .f64) (.pair (.int .i64) (.pair (.int .i64) (.flt .f64))))))) 70, .dat .str, .dat .str]
noncomputable def g63_R : List RK := [.dat (.int .i64)]
noncomputable def g63_f (n : Nat) (d : DenA g63_A) : Option (DenR g63_R) := g63 n d.1 d.2.1 d.2.2.1
noncomputable def g63_S (n : Nat) : Spec := mkSpec g63_A g63_R (g63_f n)
noncomputable def g63_K : Sk := (.nd (.fin none none (some g63_m1e) [] .leaf) (.nd (.fin none none (some g63_m1e) [] .leaf) (.fin none none (some g63_m1e) [] .leaf)))
theorem g63_top (n : Nat) (s : FState) (cx : Cx β) : FX (g63_G n) n g63_B g63_K s cx = g63_1F n s cx := by kernel_rfl
theorem g63_fit (n : Nat) : Fit Tryd.prog 63 (g63_S n) :=
  fit_of (Γ := Γ0) (l := g63_C n) (n := n) (sk := g63_K) (ts := [(6, none)]) (fn := Tryd.f63) (c := g63_B) (by kernel_rfl) (by kernel_rfl) (by unfold Callable; kernel_rfl) tab_ok ⟨g74_fit n, trivial⟩ follows_mixed (by kernel_rfl) (by kernel_rfl) (Nat.le_of_ble_eq_true (by kernel_rfl)) (by kernel_rfl) (by kernel_rfl)
    (fun d => (g63_top n _ _).trans (Eq.trans (b := g63_1F n (g63_m0 d.1 d.2.1 d.2.2.1) (finCx (g63_G n) g63_R [(6, none)])) (by kernel_rfl) ((g63_1_fx n _ d.1 d.2.1 d.2.2.1).trans (by kernel_rfl))))
noncomputable def g75_A : List AK := [.dat .str]
noncomputable def g75_R : List RK := [.dat (.int .i32), .dat (.int .i64)]
noncomputable def g75 (n : Nat) (v0 : ByteArray) : Option (DenR [.dat (.int .i32), .dat (.int .i64)]) := if v0.size ≤ 9223372036854775807 then some (((Lib.decodeLastL v0.data.toList).1 : Int), (((Lib.decodeLastL v0.data.toList).2 : Int), ())) else none
noncomputable def g75_f (n : Nat) (d : DenA g75_A) : Option (DenR g75_R) := g75 n d.1
noncomputable def g75_S (n : Nat) : Spec := mkSpec g75_A g75_R (g75_f n)
theorem g75_fit (n : Nat) : Fit Tryd.prog 75 (g75_S n) := fit_flat (by unfold Callable; kernel_rfl) rfl fun d x w vs hG ha hx => by
  obtain ⟨v, vs', o1, o2, rfl, _, ⟨_, cs, h1, h2⟩, h3, _⟩ := ha
  obtain ⟨s, u⟩ := d
  subst h3
  have h1 : cs = [Value.string s] := h1
  subst h1
  simp [K.isPair] at h2
  subst h2
  obtain ⟨hs, hx⟩ := if_inv hx
  cases hx
  exact (Tryd.utf8_DecodeLastRuneInString s w hs (tabs_of hG)).mono fun e w' ⟨he, hb⟩ => ⟨[.int .i32 (Lib.decodeLastL s.data.toList).1, .int .i64 (Lib.decodeLastL s.data.toList).2], he, ⟨_, _, [], [], rfl, rfl, ⟨rfl, _, rfl, rfl⟩, ⟨_, _, [], [], rfl, rfl, ⟨rfl, _, rfl, rfl⟩, rfl, rfl⟩⟩, hb⟩
noncomputable def g65_A : List AK := [.dat .str]
noncomputable def g65_R : List RK := [.dat (.int .i32), .dat (.int .i64)]
noncomputable def g65 (n : Nat) (v0 : ByteArray) : Option (DenR [.dat (.int .i32), .dat (.int .i64)]) := some (((Lib.decodeGo v0).1 : Int), (((Lib.decodeGo v0).2 : Int), ()))
noncomputable def g65_f (n : Nat) (d : DenA g65_A) : Option (DenR g65_R) := g65 n d.1
noncomputable def g65_S (n : Nat) : Spec := mkSpec g65_A g65_R (g65_f n)
theorem g65_fit (n : Nat) : Fit Tryd.prog 65 (g65_S n) := fit_flat (by unfold Callable; kernel_rfl) rfl fun d x w vs hG ha hx => by
  obtain ⟨v, vs', o1, o2, rfl, _, ⟨_, cs, h1, h2⟩, h3, _⟩ := ha
  obtain ⟨s, u⟩ := d
  subst h3
  have h1 : cs = [Value.string s] := h1
  subst h1
  simp [K.isPair] at h2
  subst h2
  cases hx
  exact (Tryd.utf8_DecodeRuneInString s w (tabs_of hG)).mono fun e w' ⟨he, hb⟩ => ⟨[.int .i32 (Lib.decodeGo s).1, .int .i64 (Lib.decodeGo s).2], he, ⟨_, _, [], [], rfl, rfl, ⟨rfl, _, rfl, rfl⟩, ⟨_, _, [], [], rfl, rfl, ⟨rfl, _, rfl, rfl⟩, rfl, rfl⟩⟩, hb⟩
noncomputable def g76_m0 (v0 : Int) : FState := ⟨tlist [(0, .dat (.int .i32) v0)], olist []⟩
noncomputable def g76_m1 (v2 : Bool) : FState := ⟨tlist [(2, .dat .bool v2)], olist []⟩
noncomputable def g76_m1e : List NE := [.keep 2]
noncomputable def g76_C (n : Nat) : List (Nat × Spec) := []
noncomputable def g76_G (n : Nat) : Ctx := { Γ0 with calls := lkS (g76_C n) }
noncomputable def g76_B : Code := fb Tryd.f76
noncomputable def g76_1 (n : Nat) (kr : Bool → Option β) (v0 : Int) : Option β := bif (decide ((97 : Int) ≤ v0)) then (bif (decide (v0 ≤ (122 : Int))) then (kr false) else (bif (decide ((65 : Int) ≤ v0)) then (bif (decide (v0 ≤ (90 : Int))) then (kr false) else (bif (decide ((48 : Int) ≤ v0)) then (kr (!(decide (v0 ≤ (57 : Int))))) else (kr true))) else (bif (decide ((48 : Int) ≤ v0)) then (kr (!(decide (v0 ≤ (57 : Int))))) else (kr true)))) else (bif (decide ((65 : Int) ≤ v0)) then (bif (decide (v0 ≤ (90 : Int))) then (kr false) else (bif (decide ((48 : Int) ≤ v0)) then (kr (!(decide (v0 ≤ (57 : Int))))) else (kr true))) else (bif (decide ((48 : Int) ≤ v0)) then (kr (!(decide (v0 ≤ (57 : Int))))) else (kr true)))
noncomputable def g76_1F (n : Nat) (s : FState) (cx : Cx β) : Option β := FX (g76_G n) n (nav g76_B [0]) (.fin none none (some g76_m1e) [] .leaf) s { cx with nrm := fun s => FX (g76_G n) n (nav g76_B [1, 0]) (.fin none none (some g76_m1e) [] .leaf) s { cx with nrm := fun s => FX (g76_G n) n (nav g76_B [1, 1]) (.fin none none (some g76_m1e) [] .leaf) s cx } }
theorem g76_1_fx (n : Nat) (cx : Cx β) (v0 : Int) : g76_1F n (g76_m0 v0) cx = g76_1 n (fun v2 => cx.ret (g76_m1 v2)) v0 := by kernel_rfl
noncomputable def g76 (n : Nat) (v0 : Int) : Option (DenR [.dat .bool]) := g76_1 n (fun v2 => some (v2, ())) v0
noncomputable def g76_A : List AK := [.dat (.int .i32)]
noncomputable def g76_R : List RK := [.dat .bool]
noncomputable def g76_f (n : Nat) (d : DenA g76_A) : Option (DenR g76_R) := g76 n d.1
noncomputable def g76_S (n : Nat) : Spec := mkSpec g76_A g76_R (g76_f n)
noncomputable def g76_K : Sk := (.nd (.fin none none (some g76_m1e) [] .leaf) (.nd (.fin none none (some g76_m1e) [] .leaf) (.fin none none (some g76_m1e) [] .leaf)))
theorem g76_top (n : Nat) (s : FState) (cx : Cx β) : FX (g76_G n) n g76_B g76_K s cx = g76_1F n s cx := by kernel_rfl
theorem g76_fit (n : Nat) : Fit Tryd.prog 76 (g76_S n) :=
  fit_of (Γ := Γ0) (l := g76_C n) (n := n) (sk := g76_K) (ts := [(2, none)]) (fn := Tryd.f76) (c := g76_B) (by kernel_rfl) (by kernel_rfl) (by unfold Callable; kernel_rfl) tab_ok trivial follows_mixed (by kernel_rfl) (by kernel_rfl) (Nat.le_of_ble_eq_true (by kernel_rfl)) (by kernel_rfl) (by kernel_rfl)
    (fun d => (g76_top n _ _).trans (Eq.trans (b := g76_1F n (g76_m0 d.1) (finCx (g76_G n) g76_R [(2, none)])) (by kernel_rfl) ((g76_1_fx n _ d.1).trans (by kernel_rfl))))
noncomputable def g77_m0 (v0 : Int) : FState := ⟨tlist [(0, .dat (.int .i32) v0)], olist []⟩
noncomputable def g77_m1 (v2 : Bool) : FState := ⟨tlist [(2, .dat .bool v2)], olist []⟩
noncomputable def g77_m1e : List NE := [.keep 2]
noncomputable def g77_C (n : Nat) : List (Nat × Spec) := []
noncomputable def g77_G (n : Nat) : Ctx := { Γ0 with calls := lkS (g77_C n) }
noncomputable def g77_B : Code := fb Tryd.f77
noncomputable def g77_1 (n : Nat) (kr : Bool → Option β) (v0 : Int) : Option β := bif (v0 == (9 : Int)) then (kr true) else (bif (v0 == (10 : Int)) then (kr true) else (bif (v0 == (12 : Int)) then (kr true) else (bif (v0 == (13 : Int)) then (kr true) else (kr (v0 == (32 : Int))))))
noncomputable def g77_1F (n : Nat) (s : FState) (cx : Cx β) : Option β := FX (g77_G n) n (nav g77_B [0]) (.fin none none (some g77_m1e) [] .leaf) s { cx with nrm := fun s => FX (g77_G n) n (nav g77_B [1, 0]) (.fin none none (some g77_m1e) [] .leaf) s { cx with nrm := fun s => FX (g77_G n) n (nav g77_B [1, 1]) (.fin none none (some g77_m1e) [] .leaf) s cx } }
theorem g77_1_fx (n : Nat) (cx : Cx β) (v0 : Int) : g77_1F n (g77_m0 v0) cx = g77_1 n (fun v2 => cx.ret (g77_m1 v2)) v0 := by kernel_rfl
noncomputable def g77 (n : Nat) (v0 : Int) : Option (DenR [.dat .bool]) := g77_1 n (fun v2 => some (v2, ())) v0
noncomputable def g77_A : List AK := [.dat (.int .i32)]
noncomputable def g77_R : List RK := [.dat .bool]
noncomputable def g77_f (n : Nat) (d : DenA g77_A) : Option (DenR g77_R) := g77 n d.1
noncomputable def g77_S (n : Nat) : Spec := mkSpec g77_A g77_R (g77_f n)
noncomputable def g77_K : Sk := (.nd (.fin none none (some g77_m1e) [] .leaf) (.nd (.fin none none (some g77_m1e) [] .leaf) (.fin none none (some g77_m1e) [] .leaf)))
theorem g77_top (n : Nat) (s : FState) (cx : Cx β) : FX (g77_G n) n g77_B g77_K s cx = g77_1F n s cx := by kernel_rfl
theorem g77_fit (n : Nat) : Fit Tryd.prog 77 (g77_S n) :=
  fit_of (Γ := Γ0) (l := g77_C n) (n := n) (sk := g77_K) (ts := [(2, none)]) (fn := Tryd.f77) (c := g77_B) (by kernel_rfl) (by kernel_rfl) (by unfold Callable; kernel_rfl) tab_ok trivial follows_mixed (by kernel_rfl) (by kernel_rfl) (Nat.le_of_ble_eq_true (by kernel_rfl)) (by kernel_rfl) (by kernel_rfl)
    (fun d => (g77_top n _ _).trans (Eq.trans (b := g77_1F n (g77_m0 d.1) (finCx (g77_G n) g77_R [(2, none)])) (by kernel_rfl) ((g77_1_fx n _ d.1).trans (by kernel_rfl))))
noncomputable def g78_m0 (v0 : Int) : FState := ⟨tlist [(0, .dat (.int .i32) v0)], olist []⟩
noncomputable def g78_m1 (v2 : Bool) : FState := ⟨tlist [(2, .dat .bool v2)], olist []⟩
noncomputable def g78_m1e : List NE := [.keep 2]
noncomputable def g78_C (n : Nat) : List (Nat × Spec) := []
noncomputable def g78_G (n : Nat) : Ctx := { Γ0 with calls := lkS (g78_C n) }
noncomputable def g78_B : Code := fb Tryd.f78
noncomputable def g78_1 (n : Nat) (kr : Bool → Option β) (v0 : Int) : Option β := bif (v0 == (13 : Int)) then (kr true) else (kr (v0 == (10 : Int)))
noncomputable def g78_1F (n : Nat) (s : FState) (cx : Cx β) : Option β := FX (g78_G n) n (nav g78_B [0]) (.fin none none (some g78_m1e) [] .leaf) s { cx with nrm := fun s => FX (g78_G n) n (nav g78_B [1, 0]) (.fin none none (some g78_m1e) [] .leaf) s { cx with nrm := fun s => FX (g78_G n) n (nav g78_B [1, 1]) (.fin none none (some g78_m1e) [] .leaf) s cx } }
theorem g78_1_fx (n : Nat) (cx : Cx β) (v0 : Int) : g78_1F n (g78_m0 v0) cx = g78_1 n (fun v2 => cx.ret (g78_m1 v2)) v0 := by kernel_rfl
noncomputable def g78 (n : Nat) (v0 : Int) : Option (DenR [.dat .bool]) := g78_1 n (fun v2 => some (v2, ())) v0
noncomputable def g78_A : List AK := [.dat (.int .i32)]
noncomputable def g78_R : List RK := [.dat .bool]
noncomputable def g78_f (n : Nat) (d : DenA g78_A) : Option (DenR g78_R) := g78 n d.1
noncomputable def g78_S (n : Nat) : Spec := mkSpec g78_A g78_R (g78_f n)
noncomputable def g78_K : Sk := (.nd (.fin none none (some g78_m1e) [] .leaf) (.nd (.fin none none (some g78_m1e) [] .leaf) (.fin none none (some g78_m1e) [] .leaf)))
theorem g78_top (n : Nat) (s : FState) (cx : Cx β) : FX (g78_G n) n g78_B g78_K s cx = g78_1F n s cx := by kernel_rfl
theorem g78_fit (n : Nat) : Fit Tryd.prog 78 (g78_S n) :=
  fit_of (Γ := Γ0) (l := g78_C n) (n := n) (sk := g78_K) (ts := [(2, none)]) (fn := Tryd.f78) (c := g78_B) (by kernel_rfl) (by kernel_rfl) (by unfold Callable; kernel_rfl) tab_ok trivial follows_mixed (by kernel_rfl) (by kernel_rfl) (Nat.le_of_ble_eq_true (by kernel_rfl)) (by kernel_rfl) (by kernel_rfl)
    (fun d => (g78_top n _ _).trans (Eq.trans (b := g78_1F n (g78_m0 d.1) (finCx (g78_G n) g78_R [(2, none)])) (by kernel_rfl) ((g78_1_fx n _ d.1).trans (by kernel_rfl))))
noncomputable def g97_m0 (v0 v1 : ByteArray) : FState := ⟨tlist [(0, .dat .str v0), (1, .dat .str v1)], olist []⟩
noncomputable def g97_m1 (v4 : Bool) : FState := ⟨tlist [(4, .dat .bool v4)], olist []⟩
noncomputable def g97_m1e : List NE := [.keep 4]
noncomputable def g97_C (n : Nat) : List (Nat × Spec) := []
noncomputable def g97_G (n : Nat) : Ctx := { Γ0 with calls := lkS (g97_C n) }
noncomputable def g97_B : Code := fb Tryd.f97
noncomputable def g97_1 (n : Nat) (kr : Bool → Option β) (v0 v1 : ByteArray) : Option β := bif (decide ((v0.size : Int) ≥ (v1.size : Int))) then (bnd (w64 ((v0.size : Int) - (v1.size : Int))) (v0.size : Int) (v0.size : Int) <| kr (strEq (cutS v0 (w64 ((v0.size : Int) - (v1.size : Int))) (v0.size : Int)) v1)) else (kr false)
noncomputable def g97_1F (n : Nat) (s : FState) (cx : Cx β) : Option β := FX (g97_G n) n (nav g97_B [0]) (.fin none none (some g97_m1e) [] .leaf) s { cx with nrm := fun s => FX (g97_G n) n (nav g97_B [1, 0]) (.fin none none (some g97_m1e) [] .leaf) s { cx with nrm := fun s => FX (g97_G n) n (nav g97_B [1, 1]) (.fin none none (some g97_m1e) [] .leaf) s cx } }
theorem g97_1_fx (n : Nat) (cx : Cx β) (v0 v1 : ByteArray) : g97_1F n (g97_m0 v0 v1) cx = g97_1 n (fun v4 => cx.ret (g97_m1 v4)) v0 v1 := by kernel_rfl
noncomputable def g97 (n : Nat) (v0 v1 : ByteArray) : Option (DenR [.dat .bool]) := g97_1 n (fun v4 => some (v4, ())) v0 v1
noncomputable def g97_A : List AK := [.dat .str, .dat .str]
noncomputable def g97_R : List RK := [.dat .bool]
noncomputable def g97_f (n : Nat) (d : DenA g97_A) : Option (DenR g97_R) := g97 n d.1 d.2.1
noncomputable def g97_S (n : Nat) : Spec := mkSpec g97_A g97_R (g97_f n)
noncomputable def g97_K : Sk := (.nd (.fin none none (some g97_m1e) [] .leaf) (.nd (.fin none none (some g97_m1e) [] .leaf) (.fin none none (some g97_m1e) [] .leaf)))
theorem g97_top (n : Nat) (s : FState) (cx : Cx β) : FX (g97_G n) n g97_B g97_K s cx = g97_1F n s cx := by kernel_rfl
theorem g97_fit (n : Nat) : Fit Tryd.prog 97 (g97_S n) :=
  fit_of (Γ := Γ0) (l := g97_C n) (n := n) (sk := g97_K) (ts := [(4, none)]) (fn := Tryd.f97) (c := g97_B) (by kernel_rfl) (by kernel_rfl) (by unfold Callable; kernel_rfl) tab_ok trivial follows_mixed (by kernel_rfl) (by kernel_rfl) (Nat.le_of_ble_eq_true (by kernel_rfl)) (by kernel_rfl) (by kernel_rfl)
    (fun d => (g97_top n _ _).trans (Eq.trans (b := g97_1F n (g97_m0 d.1 d.2.1) (finCx (g97_G n) g97_R [(4, none)])) (by kernel_rfl) ((g97_1_fx n _ d.1 d.2.1).trans (by kernel_rfl))))
noncomputable def g90_m0 (v0 v1 : ByteArray) : FState := ⟨tlist [(0, .dat .str v0), (1, .dat .str v1)], olist []⟩
noncomputable def g90_m1 (v4 : Bool) : FState := ⟨tlist [(4, .dat .bool v4)], olist []⟩
noncomputable def g90_m1e : List NE := [.keep 4]
noncomputable def g90_C (n : Nat) : List (Nat × Spec) := [(97, g97_S n)]
noncomputable def g90_G (n : Nat) : Ctx := { Γ0 with calls := lkS (g90_C n) }
noncomputable def g90_B : Code := fb Tryd.f90
noncomputable def g90_1 (n : Nat) (kr : Bool → Option β) (v0 v1 : ByteArray) : Option β := (g97 n v0 v1).bind fun r1 => kr r1.1
noncomputable def g90_1F (n : Nat) (s : FState) (cx : Cx β) : Option β := FX (g90_G n) n (nav g90_B [0]) (.fin none none (some g90_m1e) [] .leaf) s { cx with nrm := fun s => FX (g90_G n) n (nav g90_B [1, 0]) (.fin none none (some g90_m1e) [] .leaf) s { cx with nrm := fun s => FX (g90_G n) n (nav g90_B [1, 1]) (.fin none none (some g90_m1e) [] .leaf) s cx } }
theorem g90_1_fx (n : Nat) (cx : Cx β) (v0 v1 : ByteArray) : g90_1F n (g90_m0 v0 v1) cx = g90_1 n (fun v4 => cx.ret (g90_m1 v4)) v0 v1 := by kernel_rfl
noncomputable def g90 (n : Nat) (v0 v1 : ByteArray) : Option (DenR [.dat .bool]) := g90_1 n (fun v4 => some (v4, ())) v0 v1
noncomputable def g90_A : List AK := [.dat .str, .dat .str]
noncomputable def g90_R : List RK := [.dat .bool]
noncomputable def g90_f (n : Nat) (d : DenA g90_A) : Option (DenR g90_R) := g90 n d.1 d.2.1
noncomputable def g90_S (n : Nat) : Spec := mkSpec g90_A g90_R (g90_f n)
noncomputable def g90_K : Sk := (.nd (.fin none none (some g90_m1e) [] .leaf) (.nd (.fin none none (some g90_m1e) [] .leaf) (.fin none none (some g90_m1e) [] .leaf)))
theorem g90_top (n : Nat) (s : FState) (cx : Cx β) : FX (g90_G n) n g90_B g90_K s cx = g90_1F n s cx := by kernel_rfl
theorem g90_fit (n : Nat) : Fit Tryd.prog 90 (g90_S n) :=
  fit_of (Γ := Γ0) (l := g90_C n) (n := n) (sk := g90_K) (ts := [(4, none)]) (fn := Tryd.f90) (c := g90_B) (by kernel_rfl) (by kernel_rfl) (by unfold Callable; kernel_rfl) tab_ok ⟨g97_fit n, trivial⟩ follows_mixed (by kernel_rfl) (by kernel_rfl) (Nat.le_of_ble_eq_true (by kernel_rfl)) (by kernel_rfl) (by kernel_rfl)
    (fun d => (g90_top n _ _).trans (Eq.trans (b := g90_1F n (g90_m0 d.1 d.2.1) (finCx (g90_G n) g90_R [(4, none)])) (by kernel_rfl) ((g90_1_fx n _ d.1 d.2.1).trans (by kernel_rfl))))
noncomputable def g79_m0 (v0 : ByteArray) : FState := ⟨tlist [(0, .dat .str v0)], olist []⟩
noncomputable def g79_m1 (v2 : Bool) : FState := ⟨tlist [(2, .dat .bool v2)], olist []⟩
noncomputable def g79_m1e : List NE := [.keep 2]
noncomputable def g79_C (n : Nat) : List (Nat × Spec) := [(90, g90_S n)]
noncomputable def g79_G (n : Nat) : Ctx := { Γ0 with calls := lkS (g79_C n) }
noncomputable def g79_B : Code := fb Tryd.f79
noncomputable def g79_1 (n : Nat) (kr : Bool → Option β) (v0 : ByteArray) : Option β := (g90 n v0 (⟨#[10, 10]⟩ : ByteArray)).bind fun r1 => bif r1.1 then (kr true) else ((g90 n v0 (⟨#[10, 13, 10]⟩ : ByteArray)).bind fun r2 => kr r2.1)
noncomputable def g79_1F (n : Nat) (s : FState) (cx : Cx β) : Option β := FX (g79_G n) n (nav g79_B [0]) (.fin none none (some g79_m1e) [] .leaf) s { cx with nrm := fun s => FX (g79_G n) n (nav g79_B [1, 0]) (.fin none none (some g79_m1e) [] .leaf) s { cx with nrm := fun s => FX (g79_G n) n (nav g79_B [1, 1]) (.fin none none (some g79_m1e) [] .leaf) s cx } }
theorem g79_1_fx (n : Nat) (cx : Cx β) (v0 : ByteArray) : g79_1F n (g79_m0 v0) cx = g79_1 n (fun v2 => cx.ret (g79_m1 v2)) v0 := by kernel_rfl
noncomputable def g79 (n : Nat) (v0 : ByteArray) : Option (DenR [.dat .bool]) := g79_1 n (fun v2 => some (v2, ())) v0
noncomputable def g79_A : List AK := [.dat .str]
noncomputable def g79_R : List RK := [.dat .bool]
noncomputable def g79_f (n : Nat) (d : DenA g79_A) : Option (DenR g79_R) := g79 n d.1
noncomputable def g79_S (n : Nat) : Spec := mkSpec g79_A g79_R (g79_f n)
noncomputable def g79_K : Sk := (.nd (.fin none none (some g79_m1e) [] .leaf) (.nd (.fin none none (some g79_m1e) [] .leaf) (.fin none none (some g79_m1e) [] .leaf)))
theorem g79_top (n : Nat) (s : FState) (cx : Cx β) : FX (g79_G n) n g79_B g79_K s cx = g79_1F n s cx := by kernel_rfl
theorem g79_fit (n : Nat) : Fit Tryd.prog 79 (g79_S n) :=
  fit_of (Γ := Γ0) (l := g79_C n) (n := n) (sk := g79_K) (ts := [(2, none)]) (fn := Tryd.f79) (c := g79_B) (by kernel_rfl) (by kernel_rfl) (by unfold Callable; kernel_rfl) tab_ok ⟨g90_fit n, trivial⟩ follows_mixed (by kernel_rfl) (by kernel_rfl) (Nat.le_of_ble_eq_true (by kernel_rfl)) (by kernel_rfl) (by kernel_rfl)
    (fun d => (g79_top n _ _).trans (Eq.trans (b := g79_1F n (g79_m0 d.1) (finCx (g79_G n) g79_R [(2, none)])) (by kernel_rfl) ((g79_1_fx n _ d.1).trans (by kernel_rfl))))
noncomputable def g64_m0 (v0 v1 : ByteArray) : FState := ⟨tlist [(0, .dat .str v0), (1, .dat .str v1)], olist []⟩
noncomputable def g64_m1 (v4 : Int) : FState := ⟨tlist [(4, .dat (.int .i64) v4)], olist []⟩
noncomputable def g64_m1e : List NE := [.keep 4]
noncomputable def g64_m2 (v0 v1 : ByteArray) (v5 v7 : Int) (v9 v10 v11 : Bool) : FState := ⟨tlist [(0, .dat .str v0), (1, .dat .str v1), (5, .dat (.int .i32) v5), (7, .dat (.int .i32) v7), (9, .dat .bool v9), (10, .dat .bool v10), (11, .dat .bool v11)], olist []⟩
noncomputable def g64_m2e : List NE := [.keep 0, .keep 1, .keep 5, .keep 7, .keep 9, .keep 10, .keep 11]
noncomputable def g64_m3 (v0 v1 : ByteArray) (v5 v7 : Int) (v9 v10 v11 v12 : Bool) : FState := ⟨tlist [(0, .dat .str v0), (1, .dat .str v1), (5, .dat (.int .i32) v5), (7, .dat (.int .i32) v7), (9, .dat .bool v9), (10, .dat .bool v10), (11, .dat .bool v11), (12, .dat .bool v12)], olist []⟩
noncomputable def g64_m3e : List NE := [.keep 0, .keep 1, .keep 5, .keep 7, .keep 9, .keep 10, .keep 11, .keep 12]
noncomputable def g64_m4 (v0 v1 : ByteArray) (v7 : Int) (v9 v10 v11 v12 v13 : Bool) : FState := ⟨tlist [(0, .dat .str v0), (1, .dat .str v1), (7, .dat (.int .i32) v7), (9, .dat .bool v9), (10, .dat .bool v10), (11, .dat .bool v11), (12, .dat .bool v12), (13, .dat .bool v13)], olist []⟩
noncomputable def g64_m4e : List NE := [.keep 0, .keep 1, .keep 7, .keep 9, .keep 10, .keep 11, .keep 12, .keep 13]
noncomputable def g64_m5 (v0 v1 : ByteArray) (v9 v10 v11 v12 v13 v14 : Bool) : FState := ⟨tlist [(0, .dat .str v0), (1, .dat .str v1), (9, .dat .bool v9), (10, .dat .bool v10), (11, .dat .bool v11), (12, .dat .bool v12), (13, .dat .bool v13), (14, .dat .bool v14)], olist []⟩
noncomputable def g64_m5e : List NE := [.keep 0, .keep 1, .keep 9, .keep 10, .keep 11, .keep 12, .keep 13, .keep 14]
noncomputable def g64_m6 (v1 : ByteArray) (v9 v10 v11 v12 v13 v14 v15 : Bool) : FState := ⟨tlist [(1, .dat .str v1), (9, .dat .bool v9), (10, .dat .bool v10), (11, .dat .bool v11), (12, .dat .bool v12), (13, .dat .bool v13), (14, .dat .bool v14), (15, .dat .bool v15)], olist []⟩
noncomputable def g64_m6e : List NE := [.keep 1, .keep 9, .keep 10, .keep 11, .keep 12, .keep 13, .keep 14, .keep 15]
noncomputable def g64_m7 (v9 v10 v11 v12 v13 v14 v15 v16 : Bool) : FState := ⟨tlist [(9, .dat .bool v9), (10, .dat .bool v10), (11, .dat .bool v11), (12, .dat .bool v12), (13, .dat .bool v13), (14, .dat .bool v14), (15, .dat .bool v15), (16, .dat .bool v16)], olist []⟩
noncomputable def g64_m7e : List NE := [.keep 9, .keep 10, .keep 11, .keep 12, .keep 13, .keep 14, .keep 15, .keep 16]
noncomputable def g64_C (n : Nat) : List (Nat × Spec) := [(65, g65_S n), (75, g75_S n), (76, g76_S n), (77, g77_S n), (78, g78_S n), (79, g79_S n)]
noncomputable def g64_G (n : Nat) : Ctx := { Γ0 with calls := lkS (g64_C n) }
noncomputable def g64_B : Code := fb Tryd.f64
noncomputable def g64_1 (n : Nat) (kn : ByteArray → ByteArray → Int → Int → Bool → Bool → Bool → Option β) (kr : Int → Option β) (v0 v1 : ByteArray) : Option β := bif ((v0.size : Int) == (0 : Int)) then (kr (6 : Int)) else (bif ((v1.size : Int) == (0 : Int)) then (kr (6 : Int)) else ((g75 n v0).bind fun r1 => (g65 n v1).bind fun r2 => (g76 n r1.1).bind fun r3 => (g76 n r2.1).bind fun r4 => bif r3.1 then ((g77 n r1.1).bind fun r5 => kn v0 v1 r1.1 r2.1 r3.1 r4.1 r5.1) else (kn v0 v1 r1.1 r2.1 r3.1 r4.1 false)))
noncomputable def g64_1F (n : Nat) (s : FState) (cx : Cx β) : Option β := FX (g64_G n) n (nav g64_B [0]) (.fin none none (some g64_m1e) [] .leaf) s { cx with nrm := fun s => FX (g64_G n) n (nav g64_B [1, 0, 0]) (.fin none none (some g64_m1e) [] .leaf) s { cx with nrm := fun s => FX (g64_G n) n (nav g64_B [1, 0, 1]) (.fin none none (some g64_m1e) [] .leaf) s { cx with nrm := fun s => FX (g64_G n) n (nav g64_B [1, 1, 0]) (.fin none none (some g64_m1e) [] .leaf) s { cx with nrm := fun s => FX (g64_G n) n (nav g64_B [1, 1, 1, 0]) (.fin none none (some g64_m1e) [] .leaf) s { cx with nrm := fun s => FX (g64_G n) n (nav g64_B [1, 1, 1, 1, 0]) (.fin none none (some g64_m1e) [] .leaf) s { cx with nrm := fun s => FX (g64_G n) n (nav g64_B [1, 1, 1, 1, 1, 0]) (.fin none none (some g64_m1e) [] .leaf) s { cx with nrm := fun s => FX (g64_G n) n (nav g64_B [1, 1, 1, 1, 1, 1, 0]) (.fin none (some g64_m2e) (some g64_m1e) [] .leaf) s cx } } } } } } }
theorem g64_1_fx (n : Nat) (cx : Cx β) (v0 v1 : ByteArray) : g64_1F n (g64_m0 v0 v1) cx = g64_1 n (fun v0 v1 v5 v7 v9 v10 v11 => cx.nrm (g64_m2 v0 v1 v5 v7 v9 v10 v11)) (fun v4 => cx.ret (g64_m1 v4)) v0 v1 := by kernel_rfl
noncomputable def g64_2 (n : Nat) (kn : ByteArray → ByteArray → Int → Int → Bool → Bool → Bool → Bool → Option β) (v0 v1 : ByteArray) (v5 v7 : Int) (v9 v10 v11 : Bool) : Option β := bif v10 then ((g77 n v7).bind fun r1 => kn v0 v1 v5 v7 v9 v10 v11 r1.1) else (kn v0 v1 v5 v7 v9 v10 v11 false)
noncomputable def g64_2F (n : Nat) (s : FState) (cx : Cx β) : Option β := FX (g64_G n) n (nav g64_B [1, 1, 1, 1, 1, 1, 1, 0]) (.fin none (some g64_m3e) none [] .leaf) s cx
theorem g64_2_fx (n : Nat) (cx : Cx β) (v0 v1 : ByteArray) (v5 v7 : Int) (v9 v10 v11 : Bool) : g64_2F n (g64_m2 v0 v1 v5 v7 v9 v10 v11) cx = g64_2 n (fun v0 v1 v5 v7 v9 v10 v11 v12 => cx.nrm (g64_m3 v0 v1 v5 v7 v9 v10 v11 v12)) v0 v1 v5 v7 v9 v10 v11 := by kernel_rfl
noncomputable def g64_3 (n : Nat) (kn : ByteArray → ByteArray → Int → Bool → Bool → Bool → Bool → Bool → Option β) (v0 v1 : ByteArray) (v5 v7 : Int) (v9 v10 v11 v12 : Bool) : Option β := bif v11 then ((g78 n v5).bind fun r1 => kn v0 v1 v7 v9 v10 v11 v12 r1.1) else (kn v0 v1 v7 v9 v10 v11 v12 false)
noncomputable def g64_3F (n : Nat) (s : FState) (cx : Cx β) : Option β := FX (g64_G n) n (nav g64_B [1, 1, 1, 1, 1, 1, 1, 1, 0]) (.fin none (some g64_m4e) none [] .leaf) s cx
theorem g64_3_fx (n : Nat) (cx : Cx β) (v0 v1 : ByteArray) (v5 v7 : Int) (v9 v10 v11 v12 : Bool) : g64_3F n (g64_m3 v0 v1 v5 v7 v9 v10 v11 v12) cx = g64_3 n (fun v0 v1 v7 v9 v10 v11 v12 v13 => cx.nrm (g64_m4 v0 v1 v7 v9 v10 v11 v12 v13)) v0 v1 v5 v7 v9 v10 v11 v12 := by kernel_rfl
noncomputable def g64_4 (n : Nat) (kn : ByteArray → ByteArray → Bool → Bool → Bool → Bool → Bool → Bool → Option β) (v0 v1 : ByteArray) (v7 : Int) (v9 v10 v11 v12 v13 : Bool) : Option β := bif v12 then ((g78 n v7).bind fun r1 => kn v0 v1 v9 v10 v11 v12 v13 r1.1) else (kn v0 v1 v9 v10 v11 v12 v13 false)
noncomputable def g64_4F (n : Nat) (s : FState) (cx : Cx β) : Option β := FX (g64_G n) n (nav g64_B [1, 1, 1, 1, 1, 1, 1, 1, 1, 0]) (.fin none (some g64_m5e) none [] .leaf) s cx
theorem g64_4_fx (n : Nat) (cx : Cx β) (v0 v1 : ByteArray) (v7 : Int) (v9 v10 v11 v12 v13 : Bool) : g64_4F n (g64_m4 v0 v1 v7 v9 v10 v11 v12 v13) cx = g64_4 n (fun v0 v1 v9 v10 v11 v12 v13 v14 => cx.nrm (g64_m5 v0 v1 v9 v10 v11 v12 v13 v14)) v0 v1 v7 v9 v10 v11 v12 v13 := by kernel_rfl
noncomputable def g64_5 (n : Nat) (kn : ByteArray → Bool → Bool → Bool → Bool → Bool → Bool → Bool → Option β) (v0 v1 : ByteArray) (v9 v10 v11 v12 v13 v14 : Bool) : Option β := bif v13 then ((g79 n v0).bind fun r1 => kn v1 v9 v10 v11 v12 v13 v14 r1.1) else (kn v1 v9 v10 v11 v12 v13 v14 false)
noncomputable def g64_5F (n : Nat) (s : FState) (cx : Cx β) : Option β := FX (g64_G n) n (nav g64_B [1, 1, 1, 1, 1, 1, 1, 1, 1, 1, 0]) (.fin none (some g64_m6e) none [] .leaf) s cx
theorem g64_5_fx (n : Nat) (cx : Cx β) (v0 v1 : ByteArray) (v9 v10 v11 v12 v13 v14 : Bool) : g64_5F n (g64_m5 v0 v1 v9 v10 v11 v12 v13 v14) cx = g64_5 n (fun v1 v9 v10 v11 v12 v13 v14 v15 => cx.nrm (g64_m6 v1 v9 v10 v11 v12 v13 v14 v15)) v0 v1 v9 v10 v11 v12 v13 v14 := by kernel_rfl
noncomputable def g64_6 (n : Nat) (kn : Bool → Bool → Bool → Bool → Bool → Bool → Bool → Bool → Option β) (v1 : ByteArray) (v9 v10 v11 v12 v13 v14 v15 : Bool) : Option β := bif v14 then ((g79 n v1).bind fun r1 => kn v9 v10 v11 v12 v13 v14 v15 r1.1) else (kn v9 v10 v11 v12 v13 v14 v15 false)
noncomputable def g64_6F (n : Nat) (s : FState) (cx : Cx β) : Option β := FX (g64_G n) n (nav g64_B [1, 1, 1, 1, 1, 1, 1, 1, 1, 1, 1, 0]) (.fin none (some g64_m7e) none [] .leaf) s cx
theorem g64_6_fx (n : Nat) (cx : Cx β) (v1 : ByteArray) (v9 v10 v11 v12 v13 v14 v15 : Bool) : g64_6F n (g64_m6 v1 v9 v10 v11 v12 v13 v14 v15) cx = g64_6 n (fun v9 v10 v11 v12 v13 v14 v15 v16 => cx.nrm (g64_m7 v9 v10 v11 v12 v13 v14 v15 v16)) v1 v9 v10 v11 v12 v13 v14 v15 := by kernel_rfl
noncomputable def g64_7 (n : Nat) (kr : Int → Option β) (v9 v10 v11 v12 v13 v14 v15 v16 : Bool) : Option β := bif v15 then (kr (5 : Int)) else (bif v16 then (kr (5 : Int)) else (bif v13 then (kr (4 : Int)) else (bif v14 then (kr (4 : Int)) else (bif v9 then (bif (!v11) then (bif v12 then (kr (3 : Int)) else (bif v11 then (kr (2 : Int)) else (bif v12 then (kr (2 : Int)) else (bif v9 then (kr (1 : Int)) else (bif v10 then (kr (1 : Int)) else (kr (0 : Int))))))) else (bif v11 then (kr (2 : Int)) else (bif v12 then (kr (2 : Int)) else (bif v9 then (kr (1 : Int)) else (bif v10 then (kr (1 : Int)) else (kr (0 : Int))))))) else (bif v11 then (kr (2 : Int)) else (bif v12 then (kr (2 : Int)) else (bif v9 then (kr (1 : Int)) else (bif v10 then (kr (1 : Int)) else (kr (0 : Int))))))))))
noncomputable def g64_7F (n : Nat) (s : FState) (cx : Cx β) : Option β := FX (g64_G n) n (nav g64_B [1, 1, 1, 1, 1, 1, 1, 1, 1, 1, 1, 1, 0, 0]) (.fin none none (some g64_m1e) [] .leaf) s { cx with nrm := fun s => FX (g64_G n) n (nav g64_B [1, 1, 1, 1, 1, 1, 1, 1, 1, 1, 1, 1, 0, 1]) (.fin none none (some g64_m1e) [] .leaf) s { cx with nrm := fun s => FX (g64_G n) n (nav g64_B [1, 1, 1, 1, 1, 1, 1, 1, 1, 1, 1, 1, 1, 0]) (.fin none none (some g64_m1e) [] .leaf) s { cx with nrm := fun s => FX (g64_G n) n (nav g64_B [1, 1, 1, 1, 1, 1, 1, 1, 1, 1, 1, 1, 1, 1]) (.fin none none (some g64_m1e) [] .leaf) s cx } } }
theorem g64_7_fx (n : Nat) (cx : Cx β) (v9 v10 v11 v12 v13 v14 v15 v16 : Bool) : g64_7F n (g64_m7 v9 v10 v11 v12 v13 v14 v15 v16) cx = g64_7 n (fun v4 => cx.ret (g64_m1 v4)) v9 v10 v11 v12 v13 v14 v15 v16 := by kernel_rfl
noncomputable def g64_8 (n : Nat) (kr : Int → Option β) (v0 v1 : ByteArray) : Option β := g64_1 n (fun v0 v1 v5 v7 v9 v10 v11 => g64_2 n (fun v0 v1 v5 v7 v9 v10 v11 v12 => g64_3 n (fun v0 v1 v7 v9 v10 v11 v12 v13 => g64_4 n (fun v0 v1 v9 v10 v11 v12 v13 v14 => g64_5 n (fun v1 v9 v10 v11 v12 v13 v14 v15 => g64_6 n (fun v9 v10 v11 v12 v13 v14 v15 v16 => g64_7 n kr v9 v10 v11 v12 v13 v14 v15 v16) v1 v9 v10 v11 v12 v13 v14 v15) v0 v1 v9 v10 v11 v12 v13 v14) v0 v1 v7 v9 v10 v11 v12 v13) v0 v1 v5 v7 v9 v10 v11 v12) v0 v1 v5 v7 v9 v10 v11) kr v0 v1
noncomputable def g64_8F (n : Nat) (s : FState) (cx : Cx β) : Option β := g64_1F n s { cx with nrm := fun s => g64_2F n s { cx with nrm := fun s => g64_3F n s { cx with nrm := fun s => g64_4F n s { cx with nrm := fun s => g64_5F n s { cx with nrm := fun s => g64_6F n s { cx with nrm := fun s => g64_7F n s cx } } } } } }
theorem g64_8_fx (n : Nat) (cx : Cx β) (v0 v1 : ByteArray) : g64_8F n (g64_m0 v0 v1) cx = g64_8 n (fun v4 => cx.ret (g64_m1 v4)) v0 v1 := by simp only [g64_8F, g64_8, g64_1_fx, g64_2_fx, g64_3_fx, g64_4_fx, g64_5_fx, g64_6_fx, g64_7_fx]
noncomputable def g64 (n : Nat) (v0 v1 : ByteArray) : Option (DenR [.dat (.int .i64)]) := g64_8 n (fun v4 => some (v4, ())) v0 v1
noncomputable def g64_A : List AK := [.dat .str, .dat .str]
noncomputable def g64_R : List RK := [.dat (.int .i64)]
noncomputable def g64_f (n : Nat) (d : DenA g64_A) : Option (DenR g64_R) := g64 n d.1 d.2.1
noncomputable def g64_S (n : Nat) : Spec := mkSpec g64_A g64_R (g64_f n)
noncomputable def g64_K : Sk := (.nd (.fin none none (some g64_m1e) [] .leaf) (.nd (.nd (.fin none none (some g64_m1e) [] .leaf) (.fin none none (some g64_m1e) [] .leaf)) (.nd (.fin none none (some g64_m1e) [] .leaf) (.nd (.fin none none (some g64_m1e) [] .leaf) (.nd (.fin none none (some g64_m1e) [] .leaf) (.nd (.fin none none (some g64_m1e) [] .leaf) (.nd (.fin none (some g64_m2e) (some g64_m1e) [] .leaf) (.nd (.fin none (some g64_m3e) none [] .leaf) (.nd (.fin none (some g64_m4e) none [] .leaf) (.nd (.fin none (some g64_m5e) none [] .leaf) (.nd (.fin none (some g64_m6e) none [] .leaf) (.nd (.fin none (some g64_m7e) none [] .leaf) (.nd (.nd (.fin none none (some g64_m1e) [] .leaf) (.fin none none (some g64_m1e) [] .leaf)) (.nd (.fin none none (some g64_m1e) [] .leaf) (.fin none none (some g64_m1e) [] .leaf)))))))))))))))
theorem g64_top (n : Nat) (s : FState) (cx : Cx β) : FX (g64_G n) n g64_B g64_K s cx = g64_8F n s cx := by kernel_rfl
theorem g64_fit (n : Nat) : Fit Tryd.prog 64 (g64_S n) :=
  fit_of (Γ := Γ0) (l := g64_C n) (n := n) (sk := g64_K) (ts := [(4, none)]) (fn := Tryd.f64) (c := g64_B) (by kernel_rfl) (by kernel_rfl) (by unfold Callable; kernel_rfl) tab_ok ⟨g65_fit n, g75_fit n, g76_fit n, g77_fit n, g78_fit n, g79_fit n, trivial⟩ follows_mixed (by kernel_rfl) (by kernel_rfl) (Nat.le_of_ble_eq_true (by kernel_rfl)) (by kernel_rfl) (by kernel_rfl)
    (fun d => (g64_top n _ _).trans (Eq.trans (b := g64_8F n (g64_m0 d.1 d.2.1) (finCx (g64_G n) g64_R [(4, none)])) (by kernel_rfl) ((g64_8_fx n _ d.1 d.2.1).trans (by kernel_rfl))))
noncomputable def g66_m0 (x0 : List (Int × ByteArray)) (v1 v2 : Int) (x3 : List (Int × ByteArray)) : FState := ⟨tlist [(0, .sl 0 none false), (1, .dat (.int .i64) v1), (2, .dat (.int .i64) v2), (3, .sl 3 none false)], olist [(0, .row (.pair (.int .i8) .str) 75 true x0), (3, .row (.pair (.int .i8) .str) 75 false x3)]⟩
noncomputable def g66_m1 (x8 : List (Int × ByteArray)) : FState := ⟨tlist [(8, .sl 8 none false)], olist [(8, .row (.pair (.int .i8) .str) 75 true x8)]⟩
noncomputable def g66_m1e : List NE := [.row 8 (.pair (.int .i8) .str) 75 true]
noncomputable def g66_m2 (x0 : List (Int × ByteArray)) (v1 v2 : Int) (x3 : List (Int × ByteArray)) (v26 : Bool) : FState := ⟨tlist [(0, .sl 0 none false), (1, .dat (.int .i64) v1), (2, .dat (.int .i64) v2), (3, .sl 3 none false), (26, .dat .bool v26)], olist [(0, .row (.pair (.int .i8) .str) 75 true x0), (3, .row (.pair (.int .i8) .str) 75 false x3)]⟩
noncomputable def g66_m2e : List NE := [.row 0 (.pair (.int .i8) .str) 75 true, .keep 1, .keep 2, .row 3 (.pair (.int .i8) .str) 75 false, .keep 26]
noncomputable def g66_m3 (x0 : List (Int × ByteArray)) (v1 v2 : Int) (x3 : List (Int × ByteArray)) : FState := ⟨tlist [(0, .sl 0 none false), (1, .dat (.int .i64) v1), (2, .dat (.int .i64) v2), (3, .sl 3 none false)], olist [(0, .row (.pair (.int .i8) .str) 75 true x0), (3, .row (.pair (.int .i8) .str) 75 false x3)]⟩
noncomputable def g66_m3e : List NE := [.row 0 (.pair (.int .i8) .str) 75 true, .keep 1, .keep 2, .row 3 (.pair (.int .i8) .str) 75 false]
noncomputable def g66_m4 (x0 : List (Int × ByteArray)) (v9 o10 l10 v55 v56 : Int) : FState := ⟨tlist [(0, .sl 0 none false), (9, .dat (.int .i64) v9), (10, .sl 0 (some (o10, l10)) false), (55, .dat (.int .i64) v55), (56, .dat (.int .i64) v56)], olist [(0, .row (.pair (.int .i8) .str) 75 true x0)]⟩
noncomputable def g66_m4e : List NE := [.row 0 (.pair (.int .i8) .str) 75 true, .keep 9, .row 10 (.pair (.int .i8) .str) 75 true, .keep 55, .keep 56]
noncomputable def g66_m5 (x0 : List (Int × ByteArray)) (v9 : Int) : FState := ⟨tlist [(0, .sl 0 none false), (9, .dat (.int .i64) v9)], olist [(0, .row (.pair (.int .i8) .str) 75 true x0)]⟩
noncomputable def g66_m5e : List NE := [.row 0 (.pair (.int .i8) .str) 75 true, .keep 9]
noncomputable def g66_m6 (x0 : List (Int × ByteArray)) (v1 v2 : Int) (x3 : List (Int × ByteArray)) (v12 : Int) : FState := ⟨tlist [(0, .sl 0 none false), (1, .dat (.int .i64) v1), (2, .dat (.int .i64) v2), (3, .sl 3 none false), (12, .dat (.int .i64) v12)], olist [(0, .row (.pair (.int .i8) .str) 75 true x0), (3, .row (.pair (.int .i8) .str) 75 false x3)]⟩
noncomputable def g66_m6e : List NE := [.row 0 (.pair (.int .i8) .str) 75 true, .keep 1, .keep 2, .row 3 (.pair (.int .i8) .str) 75 false, .keep 12]
noncomputable def g66_m7 (x0 : List (Int × ByteArray)) (v1 v2 : Int) (x3 : List (Int × ByteArray)) : FState := ⟨tlist [(0, .sl 0 none false), (1, .dat (.int .i64) v1), (2, .dat (.int .i64) v2), (3, .sl 3 none false)], olist [(0, .row (.pair (.int .i8) .str) 75 true x0), (3, .row (.pair (.int .i8) .str) 75 false x3)]⟩
noncomputable def g66_m7e : List NE := [.row 0 (.pair (.int .i8) .str) 75 true, .keep 1, .keep 2, .row 3 (.pair (.int .i8) .str) 75 false]
noncomputable def g66_C (n : Nat) : List (Nat × Spec) := []
noncomputable def g66_G (n : Nat) : Ctx := { Γ0 with calls := lkS (g66_C n) }
noncomputable def g66_B : Code := fb Tryd.f66
noncomputable def g66_1 (n : Nat) (kn : List (Int × ByteArray) → Int → Int → List (Int × ByteArray) → Bool → Option β) (kr : List (Int × ByteArray) → Option β) (x0 : List (Int × ByteArray)) (v1 v2 : Int) (x3 : List (Int × ByteArray)) : Option β := bif ((x3.length : Int) == v2) then (bnd v1 (x0.length : Int) (x0.length : Int) <| kr (pasted x0 (v1 + (0 : Int)) ((x0.length : Int) - v1) x3)) else (kn x0 v1 v2 x3 (decide ((x3.length : Int) < v2)))
noncomputable def g66_1F (n : Nat) (s : FState) (cx : Cx β) : Option β := FX (g66_G n) n (nav g66_B [0]) (.fin none none (some g66_m1e) [] .leaf) s { cx with nrm := fun s => FX (g66_G n) n (nav g66_B [1, 0, 0]) (.fin none none (some g66_m1e) [] .leaf) s { cx with nrm := fun s => FX (g66_G n) n (nav g66_B [1, 0, 1]) (.fin none none (some g66_m1e) [] .leaf) s { cx with nrm := fun s => FX (g66_G n) n (nav g66_B [1, 1, 0, 0]) (.fin none (some g66_m2e) (some g66_m1e) [] .leaf) s cx } } }
theorem g66_1_fx (n : Nat) (cx : Cx β) (x0 : List (Int × ByteArray)) (v1 v2 : Int) (x3 : List (Int × ByteArray)) : g66_1F n (g66_m0 x0 v1 v2 x3) cx = g66_1 n (fun x0 v1 v2 x3 v26 => cx.nrm (g66_m2 x0 v1 v2 x3 v26)) (fun x8 => cx.ret (g66_m1 x8)) x0 v1 v2 x3 := by kernel_rfl
noncomputable def g66_2 (n : Nat) (kn : List (Int × ByteArray) → Int → Int → Int → Int → Int → Option β) (x0 : List (Int × ByteArray)) (v1 v2 : Int) (x3 : List (Int × ByteArray)) (v26 : Bool) : Option β := bnd v1 (x0.length : Int) (x0.length : Int) <| bnd (w64 (v1 + (x3.length : Int))) ((pasted x0 (v1 + (0 : Int)) ((x0.length : Int) - v1) x3).length : Int) ((pasted x0 (v1 + (0 : Int)) ((x0.length : Int) - v1) x3).length : Int) <| bnd (w64 (v1 + v2)) ((pasted x0 (v1 + (0 : Int)) ((x0.length : Int) - v1) x3).length : Int) ((pasted x0 (v1 + (0 : Int)) ((x0.length : Int) - v1) x3).length : Int) <| bnd (w64 ((w64 (((pasted (pasted x0 (v1 + (0 : Int)) ((x0.length : Int) - v1) x3) ((w64 (v1 + (x3.length : Int))) + (0 : Int)) (((pasted x0 (v1 + (0 : Int)) ((x0.length : Int) - v1) x3).length : Int) - (w64 (v1 + (x3.length : Int)))) (cut (pasted x0 (v1 + (0 : Int)) ((x0.length : Int) - v1) x3) (w64 (v1 + v2)) ((w64 (v1 + v2)) + (((pasted x0 (v1 + (0 : Int)) ((x0.length : Int) - v1) x3).length : Int) - (w64 (v1 + v2)))))).length : Int) - v2)) + (x3.length : Int))) ((pasted (pasted x0 (v1 + (0 : Int)) ((x0.length : Int) - v1) x3) ((w64 (v1 + (x3.length : Int))) + (0 : Int)) (((pasted x0 (v1 + (0 : Int)) ((x0.length : Int) - v1) x3).length : Int) - (w64 (v1 + (x3.length : Int)))) (cut (pasted x0 (v1 + (0 : Int)) ((x0.length : Int) - v1) x3) (w64 (v1 + v2)) ((w64 (v1 + v2)) + (((pasted x0 (v1 + (0 : Int)) ((x0.length : Int) - v1) x3).length : Int) - (w64 (v1 + v2)))))).length : Int) ((pasted (pasted x0 (v1 + (0 : Int)) ((x0.length : Int) - v1) x3) ((w64 (v1 + (x3.length : Int))) + (0 : Int)) (((pasted x0 (v1 + (0 : Int)) ((x0.length : Int) - v1) x3).length : Int) - (w64 (v1 + (x3.length : Int)))) (cut (pasted x0 (v1 + (0 : Int)) ((x0.length : Int) - v1) x3) (w64 (v1 + v2)) ((w64 (v1 + v2)) + (((pasted x0 (v1 + (0 : Int)) ((x0.length : Int) - v1) x3).length : Int) - (w64 (v1 + v2)))))).length : Int) <| kn (pasted (pasted x0 (v1 + (0 : Int)) ((x0.length : Int) - v1) x3) ((w64 (v1 + (x3.length : Int))) + (0 : Int)) (((pasted x0 (v1 + (0 : Int)) ((x0.length : Int) - v1) x3).length : Int) - (w64 (v1 + (x3.length : Int)))) (cut (pasted x0 (v1 + (0 : Int)) ((x0.length : Int) - v1) x3) (w64 (v1 + v2)) ((w64 (v1 + v2)) + (((pasted x0 (v1 + (0 : Int)) ((x0.length : Int) - v1) x3).length : Int) - (w64 (v1 + v2)))))) (w64 ((w64 (((pasted (pasted x0 (v1 + (0 : Int)) ((x0.length : Int) - v1) x3) ((w64 (v1 + (x3.length : Int))) + (0 : Int)) (((pasted x0 (v1 + (0 : Int)) ((x0.length : Int) - v1) x3).length : Int) - (w64 (v1 + (x3.length : Int)))) (cut (pasted x0 (v1 + (0 : Int)) ((x0.length : Int) - v1) x3) (w64 (v1 + v2)) ((w64 (v1 + v2)) + (((pasted x0 (v1 + (0 : Int)) ((x0.length : Int) - v1) x3).length : Int) - (w64 (v1 + v2)))))).length : Int) - v2)) + (x3.length : Int))) (w64 ((w64 (((pasted (pasted x0 (v1 + (0 : Int)) ((x0.length : Int) - v1) x3) ((w64 (v1 + (x3.length : Int))) + (0 : Int)) (((pasted x0 (v1 + (0 : Int)) ((x0.length : Int) - v1) x3).length : Int) - (w64 (v1 + (x3.length : Int)))) (cut (pasted x0 (v1 + (0 : Int)) ((x0.length : Int) - v1) x3) (w64 (v1 + v2)) ((w64 (v1 + v2)) + (((pasted x0 (v1 + (0 : Int)) ((x0.length : Int) - v1) x3).length : Int) - (w64 (v1 + v2)))))).length : Int) - v2)) + (x3.length : Int))) (((pasted (pasted x0 (v1 + (0 : Int)) ((x0.length : Int) - v1) x3) ((w64 (v1 + (x3.length : Int))) + (0 : Int)) (((pasted x0 (v1 + (0 : Int)) ((x0.length : Int) - v1) x3).length : Int) - (w64 (v1 + (x3.length : Int)))) (cut (pasted x0 (v1 + (0 : Int)) ((x0.length : Int) - v1) x3) (w64 (v1 + v2)) ((w64 (v1 + v2)) + (((pasted x0 (v1 + (0 : Int)) ((x0.length : Int) - v1) x3).length : Int) - (w64 (v1 + v2)))))).length : Int) - (w64 ((w64 (((pasted (pasted x0 (v1 + (0 : Int)) ((x0.length : Int) - v1) x3) ((w64 (v1 + (x3.length : Int))) + (0 : Int)) (((pasted x0 (v1 + (0 : Int)) ((x0.length : Int) - v1) x3).length : Int) - (w64 (v1 + (x3.length : Int)))) (cut (pasted x0 (v1 + (0 : Int)) ((x0.length : Int) - v1) x3) (w64 (v1 + v2)) ((w64 (v1 + v2)) + (((pasted x0 (v1 + (0 : Int)) ((x0.length : Int) - v1) x3).length : Int) - (w64 (v1 + v2)))))).length : Int) - v2)) + (x3.length : Int)))) (((pasted (pasted x0 (v1 + (0 : Int)) ((x0.length : Int) - v1) x3) ((w64 (v1 + (x3.length : Int))) + (0 : Int)) (((pasted x0 (v1 + (0 : Int)) ((x0.length : Int) - v1) x3).length : Int) - (w64 (v1 + (x3.length : Int)))) (cut (pasted x0 (v1 + (0 : Int)) ((x0.length : Int) - v1) x3) (w64 (v1 + v2)) ((w64 (v1 + v2)) + (((pasted x0 (v1 + (0 : Int)) ((x0.length : Int) - v1) x3).length : Int) - (w64 (v1 + v2)))))).length : Int) - (w64 ((w64 (((pasted (pasted x0 (v1 + (0 : Int)) ((x0.length : Int) - v1) x3) ((w64 (v1 + (x3.length : Int))) + (0 : Int)) (((pasted x0 (v1 + (0 : Int)) ((x0.length : Int) - v1) x3).length : Int) - (w64 (v1 + (x3.length : Int)))) (cut (pasted x0 (v1 + (0 : Int)) ((x0.length : Int) - v1) x3) (w64 (v1 + v2)) ((w64 (v1 + v2)) + (((pasted x0 (v1 + (0 : Int)) ((x0.length : Int) - v1) x3).length : Int) - (w64 (v1 + v2)))))).length : Int) - v2)) + (x3.length : Int)))) (0 : Int)
noncomputable def g66_2F (n : Nat) (s : FState) (cx : Cx β) : Option β := FX (g66_G n) n (nav g66_B [1, 1, 0, 1, 0, 0]) (.fin none none none [] .leaf) s { cx with nrm := fun s => FX (g66_G n) n (nav g66_B [1, 1, 0, 1, 0, 1, 0]) (.fin none none none [] .leaf) s { cx with nrm := fun s => FX (g66_G n) n (nav g66_B [1, 1, 0, 1, 0, 1, 1, 0]) (.fin none none none [] .leaf) s { cx with nrm := fun s => FX (g66_G n) n (nav g66_B [1, 1, 0, 1, 0, 1, 1, 1, 0]) (.fin none none none [] .leaf) s { cx with nrm := fun s => FX (g66_G n) n (nav g66_B [1, 1, 0, 1, 0, 1, 1, 1, 1, 0, 0]) (.fin none (some g66_m4e) none [] .leaf) s cx } } } }
theorem g66_2_fx (n : Nat) (cx : Cx β) (x0 : List (Int × ByteArray)) (v1 v2 : Int) (x3 : List (Int × ByteArray)) (v26 : Bool) : g66_2F n (g66_m2 x0 v1 v2 x3 v26) cx = g66_2 n (fun x0 v9 o10 l10 v55 v56 => cx.nrm (g66_m4 x0 v9 o10 l10 v55 v56)) x0 v1 v2 x3 v26 := by kernel_rfl
noncomputable def g66_3 (n : Nat) (kn : List (Int × ByteArray) → Int → Int → Int → Int → Int → Option β) (kx0 : List (Int × ByteArray) → Int → Option β) (x0 : List (Int × ByteArray)) (v9 o10 l10 v55 v56 : Int) : Option β := bif (decide (v56 < v55)) then (idx v56 l10 <| kn (x0.set (o10 + v56).toNat ((0 : Int), (⟨#[]⟩ : ByteArray))) v9 o10 l10 v55 (w64 (v56 + (1 : Int)))) else (kx0 x0 v9)
noncomputable def g66_3F (n : Nat) (s : FState) (cx : Cx β) : Option β := FX (g66_G n) n (nav g66_B [1, 1, 0, 1, 0, 1, 1, 1, 1, 0, 1, 0, 0, 0]) (.fin none none none [(0, g66_m5e)] .leaf) s { cx with nrm := fun s => FX (g66_G n) n (nav g66_B [1, 1, 0, 1, 0, 1, 1, 1, 1, 0, 1, 0, 0, 1, 0]) (.fin none none none [(0, g66_m5e)] .leaf) s { cx with nrm := fun s => FX (g66_G n) n (nav g66_B [1, 1, 0, 1, 0, 1, 1, 1, 1, 0, 1, 0, 0, 1, 1, 0]) (.fin none none none [(0, g66_m5e)] .leaf) s { cx with nrm := fun s => FX (g66_G n) n (nav g66_B [1, 1, 0, 1, 0, 1, 1, 1, 1, 0, 1, 0, 0, 1, 1, 1]) (.fin none (some g66_m4e) none [(0, g66_m5e)] .leaf) s cx } } }
theorem g66_3_fx (n : Nat) (cx : Cx β) (x0 : List (Int × ByteArray)) (v9 o10 l10 v55 v56 : Int) : g66_3F n (g66_m4 x0 v9 o10 l10 v55 v56) cx = g66_3 n (fun x0 v9 o10 l10 v55 v56 => cx.nrm (g66_m4 x0 v9 o10 l10 v55 v56)) (fun x0 v9 => cx.ex 0 (g66_m5 x0 v9)) x0 v9 o10 l10 v55 v56 := by kernel_rfl
noncomputable def g66_4L (n : Nat) (kx0 : List (Int × ByteArray) → Int → Option β) : Nat → List (Int × ByteArray) → Int → Int → Int → Int → Int → Option β
  | 0, _, _, _, _, _, _ => none
  | m + 1, x0, v9, o10, l10, v55, v56 => g66_3 n (g66_4L n kx0 m) kx0 x0 v9 o10 l10 v55 v56
noncomputable def g66_4 (n : Nat) (kx0 : List (Int × ByteArray) → Int → Option β) (x0 : List (Int × ByteArray)) (v9 o10 l10 v55 v56 : Int) : Option β := g66_4L n kx0 n x0 v9 o10 l10 v55 v56
noncomputable def g66_4F (n : Nat) (s : FState) (cx : Cx β) : Option β := loopN (fun again s => g66_3F n s { cx with nrm := again }) n s
theorem g66_4L_fx (n : Nat) (cx : Cx β) : ∀ (m : Nat) (x0 : List (Int × ByteArray)) (v9 o10 l10 v55 v56 : Int), loopN (fun again s => g66_3F n s { cx with nrm := again }) m (g66_m4 x0 v9 o10 l10 v55 v56) = g66_4L n (fun x0 v9 => cx.ex 0 (g66_m5 x0 v9)) m x0 v9 o10 l10 v55 v56 := by
  intro m
  induction m with
  | zero => intros; rfl
  | succ m ih => intros; simp only [loopN, g66_4L, g66_3_fx, ih]
theorem g66_4_fx (n : Nat) (cx : Cx β) (x0 : List (Int × ByteArray)) (v9 o10 l10 v55 v56 : Int) : g66_4F n (g66_m4 x0 v9 o10 l10 v55 v56) cx = g66_4 n (fun x0 v9 => cx.ex 0 (g66_m5 x0 v9)) x0 v9 o10 l10 v55 v56 := g66_4L_fx n cx n x0 v9 o10 l10 v55 v56
noncomputable def g66_5 (n : Nat) (kn : List (Int × ByteArray) → Int → Option β) (x0 : List (Int × ByteArray)) (v9 o10 l10 v55 v56 : Int) : Option β := g66_4 n kn x0 v9 o10 l10 v55 v56
noncomputable def g66_5F (n : Nat) (s : FState) (cx : Cx β) : Option β := g66_4F n s { cx with ex := fun j s => bif Nat.beq j 0 then cx.nrm s else cx.ex j s }
theorem g66_5_fx (n : Nat) (cx : Cx β) (x0 : List (Int × ByteArray)) (v9 o10 l10 v55 v56 : Int) : g66_5F n (g66_m4 x0 v9 o10 l10 v55 v56) cx = g66_5 n (fun x0 v9 => cx.nrm (g66_m5 x0 v9)) x0 v9 o10 l10 v55 v56 := g66_4_fx n _ x0 v9 o10 l10 v55 v56
noncomputable def g66_6 (n : Nat) (kr : List (Int × ByteArray) → Option β) (x0 : List (Int × ByteArray)) (v9 : Int) : Option β := bnd (0 : Int) v9 (x0.length : Int) <| kr (cut x0 (0 : Int) ((0 : Int) + (v9 - (0 : Int))))
noncomputable def g66_6F (n : Nat) (s : FState) (cx : Cx β) : Option β := FX (g66_G n) n (nav g66_B [1, 1, 0, 1, 0, 1, 1, 1, 1, 1, 0]) (.fin none none (some g66_m1e) [] .leaf) s { cx with nrm := fun s => FX (g66_G n) n (nav g66_B [1, 1, 0, 1, 0, 1, 1, 1, 1, 1, 1]) (.fin none none (some g66_m1e) [] .leaf) s cx }
theorem g66_6_fx (n : Nat) (cx : Cx β) (x0 : List (Int × ByteArray)) (v9 : Int) : g66_6F n (g66_m5 x0 v9) cx = g66_6 n (fun x8 => cx.ret (g66_m1 x8)) x0 v9 := by kernel_rfl
noncomputable def g66_7 (n : Nat) (kr : List (Int × ByteArray) → Option β) (x0 : List (Int × ByteArray)) (v1 v2 : Int) (x3 : List (Int × ByteArray)) (v26 : Bool) : Option β := g66_2 n (fun x0 v9 o10 l10 v55 v56 => g66_5 n (fun x0 v9 => g66_6 n kr x0 v9) x0 v9 o10 l10 v55 v56) x0 v1 v2 x3 v26
noncomputable def g66_7F (n : Nat) (s : FState) (cx : Cx β) : Option β := g66_2F n s { cx with nrm := fun s => g66_5F n s { cx with nrm := fun s => g66_6F n s cx } }
theorem g66_7_fx (n : Nat) (cx : Cx β) (x0 : List (Int × ByteArray)) (v1 v2 : Int) (x3 : List (Int × ByteArray)) (v26 : Bool) : g66_7F n (g66_m2 x0 v1 v2 x3 v26) cx = g66_7 n (fun x8 => cx.ret (g66_m1 x8)) x0 v1 v2 x3 v26 := by simp only [g66_7F, g66_7, g66_2_fx, g66_5_fx, g66_6_fx]
noncomputable def g66_8 (n : Nat) (kn : List (Int × ByteArray) → Int → Int → List (Int × ByteArray) → Option β) (x0 : List (Int × ByteArray)) (v1 v2 : Int) (x3 : List (Int × ByteArray)) (v26 : Bool) : Option β := kn x0 v1 v2 x3
noncomputable def g66_8F (n : Nat) (s : FState) (cx : Cx β) : Option β := FX (g66_G n) n (nav g66_B [1, 1, 0, 1, 1]) (.fin none (some g66_m3e) none [] .leaf) s cx
theorem g66_8_fx (n : Nat) (cx : Cx β) (x0 : List (Int × ByteArray)) (v1 v2 : Int) (x3 : List (Int × ByteArray)) (v26 : Bool) : g66_8F n (g66_m2 x0 v1 v2 x3 v26) cx = g66_8 n (fun x0 v1 v2 x3 => cx.nrm (g66_m3 x0 v1 v2 x3)) x0 v1 v2 x3 v26 := by kernel_rfl
noncomputable def g66_9 (n : Nat) (kn : List (Int × ByteArray) → Int → Int → List (Int × ByteArray) → Option β) (kr : List (Int × ByteArray) → Option β) (x0 : List (Int × ByteArray)) (v1 v2 : Int) (x3 : List (Int × ByteArray)) (v26 : Bool) : Option β := bif v26 then g66_7 n kr x0 v1 v2 x3 v26 else g66_8 n kn x0 v1 v2 x3 v26
noncomputable def g66_9F (n : Nat) (s : FState) (cx : Cx β) : Option β := asBool (ev s (cond_of (nav g66_B [1, 1, 0, 1]))) fun t => cond t (g66_7F n s cx) (g66_8F n s cx)
theorem g66_9_fx (n : Nat) (cx : Cx β) (x0 : List (Int × ByteArray)) (v1 v2 : Int) (x3 : List (Int × ByteArray)) (v26 : Bool) : g66_9F n (g66_m2 x0 v1 v2 x3 v26) cx = g66_9 n (fun x0 v1 v2 x3 => cx.nrm (g66_m3 x0 v1 v2 x3)) (fun x8 => cx.ret (g66_m1 x8)) x0 v1 v2 x3 v26 := by
  simp only [g66_9F, g66_9, g66_7_fx, g66_8_fx]
  kernel_rfl
noncomputable def g66_10 (n : Nat) (kn : List (Int × ByteArray) → Int → Int → List (Int × ByteArray) → Int → Option β) (x0 : List (Int × ByteArray)) (v1 v2 : Int) (x3 : List (Int × ByteArray)) : Option β := kn x0 v1 v2 x3 (w64 ((w64 ((x0.length : Int) - v2)) + (x3.length : Int)))
noncomputable def g66_10F (n : Nat) (s : FState) (cx : Cx β) : Option β := FX (g66_G n) n (nav g66_B [1, 1, 1, 0]) (.fin none (some g66_m6e) none [] .leaf) s cx
theorem g66_10_fx (n : Nat) (cx : Cx β) (x0 : List (Int × ByteArray)) (v1 v2 : Int) (x3 : List (Int × ByteArray)) : g66_10F n (g66_m3 x0 v1 v2 x3) cx = g66_10 n (fun x0 v1 v2 x3 v12 => cx.nrm (g66_m6 x0 v1 v2 x3 v12)) x0 v1 v2 x3 := by kernel_rfl
noncomputable def g66_11 (n : Nat) (kn : List (Int × ByteArray) → Int → Int → List (Int × ByteArray) → Int → Option β) (kx2 : List (Int × ByteArray) → Int → Int → List (Int × ByteArray) → Option β) (x0 : List (Int × ByteArray)) (v1 v2 : Int) (x3 : List (Int × ByteArray)) (v12 : Int) : Option β := bif (decide ((x0.length : Int) < v12)) then (roomy (x0.length + [((0 : Int), (⟨#[]⟩ : ByteArray))].length) <| kn (x0 ++ [((0 : Int), (⟨#[]⟩ : ByteArray))]) v1 v2 x3 v12) else (kx2 x0 v1 v2 x3)
noncomputable def g66_11F (n : Nat) (s : FState) (cx : Cx β) : Option β := FX (g66_G n) n (nav g66_B [1, 1, 1, 1, 0, 0, 0, 0, 0]) (.fin none none none [(2, g66_m7e)] .leaf) s { cx with nrm := fun s => FX (g66_G n) n (nav g66_B [1, 1, 1, 1, 0, 0, 0, 0, 1]) (.fin none none none [(2, g66_m7e)] .leaf) s { cx with nrm := fun s => FX (g66_G n) n (nav g66_B [1, 1, 1, 1, 0, 0, 0, 1]) (.fin none (some g66_m6e) none [(2, g66_m7e)] .leaf) s cx } }
theorem g66_11_fx (n : Nat) (cx : Cx β) (x0 : List (Int × ByteArray)) (v1 v2 : Int) (x3 : List (Int × ByteArray)) (v12 : Int) : g66_11F n (g66_m6 x0 v1 v2 x3 v12) cx = g66_11 n (fun x0 v1 v2 x3 v12 => cx.nrm (g66_m6 x0 v1 v2 x3 v12)) (fun x0 v1 v2 x3 => cx.ex 2 (g66_m7 x0 v1 v2 x3)) x0 v1 v2 x3 v12 := by kernel_rfl
noncomputable def g66_12L (n : Nat) (kx2 : List (Int × ByteArray) → Int → Int → List (Int × ByteArray) → Option β) : Nat → List (Int × ByteArray) → Int → Int → List (Int × ByteArray) → Int → Option β
  | 0, _, _, _, _, _ => none
  | m + 1, x0, v1, v2, x3, v12 => g66_11 n (g66_12L n kx2 m) kx2 x0 v1 v2 x3 v12
noncomputable def g66_12 (n : Nat) (kx2 : List (Int × ByteArray) → Int → Int → List (Int × ByteArray) → Option β) (x0 : List (Int × ByteArray)) (v1 v2 : Int) (x3 : List (Int × ByteArray)) (v12 : Int) : Option β := g66_12L n kx2 n x0 v1 v2 x3 v12
noncomputable def g66_12F (n : Nat) (s : FState) (cx : Cx β) : Option β := loopN (fun again s => g66_11F n s { cx with nrm := again }) n s
theorem g66_12L_fx (n : Nat) (cx : Cx β) : ∀ (m : Nat) (x0 : List (Int × ByteArray)) (v1 v2 : Int) (x3 : List (Int × ByteArray)) (v12 : Int), loopN (fun again s => g66_11F n s { cx with nrm := again }) m (g66_m6 x0 v1 v2 x3 v12) = g66_12L n (fun x0 v1 v2 x3 => cx.ex 2 (g66_m7 x0 v1 v2 x3)) m x0 v1 v2 x3 v12 := by
  intro m
  induction m with
  | zero => intros; rfl
  | succ m ih => intros; simp only [loopN, g66_12L, g66_11_fx, ih]
theorem g66_12_fx (n : Nat) (cx : Cx β) (x0 : List (Int × ByteArray)) (v1 v2 : Int) (x3 : List (Int × ByteArray)) (v12 : Int) : g66_12F n (g66_m6 x0 v1 v2 x3 v12) cx = g66_12 n (fun x0 v1 v2 x3 => cx.ex 2 (g66_m7 x0 v1 v2 x3)) x0 v1 v2 x3 v12 := g66_12L_fx n cx n x0 v1 v2 x3 v12
noncomputable def g66_13 (n : Nat) (kn : List (Int × ByteArray) → Int → Int → List (Int × ByteArray) → Option β) (x0 : List (Int × ByteArray)) (v1 v2 : Int) (x3 : List (Int × ByteArray)) (v12 : Int) : Option β := g66_12 n kn x0 v1 v2 x3 v12
noncomputable def g66_13F (n : Nat) (s : FState) (cx : Cx β) : Option β := g66_12F n s { cx with ex := fun j s => bif Nat.beq j 2 then cx.nrm s else cx.ex j s }
theorem g66_13_fx (n : Nat) (cx : Cx β) (x0 : List (Int × ByteArray)) (v1 v2 : Int) (x3 : List (Int × ByteArray)) (v12 : Int) : g66_13F n (g66_m6 x0 v1 v2 x3 v12) cx = g66_13 n (fun x0 v1 v2 x3 => cx.nrm (g66_m7 x0 v1 v2 x3)) x0 v1 v2 x3 v12 := g66_12_fx n _ x0 v1 v2 x3 v12
noncomputable def g66_14 (n : Nat) (kr : List (Int × ByteArray) → Option β) (x0 : List (Int × ByteArray)) (v1 v2 : Int) (x3 : List (Int × ByteArray)) : Option β := bnd (w64 (v1 + (x3.length : Int))) (x0.length : Int) (x0.length : Int) <| bnd (w64 (v1 + v2)) (x0.length : Int) (x0.length : Int) <| bnd v1 ((pasted x0 ((w64 (v1 + (x3.length : Int))) + (0 : Int)) ((x0.length : Int) - (w64 (v1 + (x3.length : Int)))) (cut x0 (w64 (v1 + v2)) ((w64 (v1 + v2)) + ((x0.length : Int) - (w64 (v1 + v2)))))).length : Int) ((pasted x0 ((w64 (v1 + (x3.length : Int))) + (0 : Int)) ((x0.length : Int) - (w64 (v1 + (x3.length : Int)))) (cut x0 (w64 (v1 + v2)) ((w64 (v1 + v2)) + ((x0.length : Int) - (w64 (v1 + v2)))))).length : Int) <| kr (pasted (pasted x0 ((w64 (v1 + (x3.length : Int))) + (0 : Int)) ((x0.length : Int) - (w64 (v1 + (x3.length : Int)))) (cut x0 (w64 (v1 + v2)) ((w64 (v1 + v2)) + ((x0.length : Int) - (w64 (v1 + v2)))))) (v1 + (0 : Int)) (((pasted x0 ((w64 (v1 + (x3.length : Int))) + (0 : Int)) ((x0.length : Int) - (w64 (v1 + (x3.length : Int)))) (cut x0 (w64 (v1 + v2)) ((w64 (v1 + v2)) + ((x0.length : Int) - (w64 (v1 + v2)))))).length : Int) - v1) x3)
noncomputable def g66_14F (n : Nat) (s : FState) (cx : Cx β) : Option β := FX (g66_G n) n (nav g66_B [1, 1, 1, 1, 1, 0]) (.fin none none (some g66_m1e) [] .leaf) s { cx with nrm := fun s => FX (g66_G n) n (nav g66_B [1, 1, 1, 1, 1, 1, 0]) (.fin none none (some g66_m1e) [] .leaf) s { cx with nrm := fun s => FX (g66_G n) n (nav g66_B [1, 1, 1, 1, 1, 1, 1, 0]) (.fin none none (some g66_m1e) [] .leaf) s { cx with nrm := fun s => FX (g66_G n) n (nav g66_B [1, 1, 1, 1, 1, 1, 1, 1]) (.fin none none (some g66_m1e) [] .leaf) s cx } } }
theorem g66_14_fx (n : Nat) (cx : Cx β) (x0 : List (Int × ByteArray)) (v1 v2 : Int) (x3 : List (Int × ByteArray)) : g66_14F n (g66_m7 x0 v1 v2 x3) cx = g66_14 n (fun x8 => cx.ret (g66_m1 x8)) x0 v1 v2 x3 := by kernel_rfl
noncomputable def g66_15 (n : Nat) (kr : List (Int × ByteArray) → Option β) (x0 : List (Int × ByteArray)) (v1 v2 : Int) (x3 : List (Int × ByteArray)) : Option β := g66_1 n (fun x0 v1 v2 x3 v26 => g66_9 n (fun x0 v1 v2 x3 => g66_10 n (fun x0 v1 v2 x3 v12 => g66_13 n (fun x0 v1 v2 x3 => g66_14 n kr x0 v1 v2 x3) x0 v1 v2 x3 v12) x0 v1 v2 x3) kr x0 v1 v2 x3 v26) kr x0 v1 v2 x3
noncomputable def g66_15F (n : Nat) (s : FState) (cx : Cx β) : Option β := g66_1F n s { cx with nrm := fun s => g66_9F n s { cx with nrm := fun s => g66_10F n s { cx with nrm := fun s => g66_13F n s { cx with nrm := fun s => g66_14F n s cx } } } }
theorem g66_15_fx (n : Nat) (cx : Cx β) (x0 : List (Int × ByteArray)) (v1 v2 : Int) (x3 : List (Int × ByteArray)) : g66_15F n (g66_m0 x0 v1 v2 x3) cx = g66_15 n (fun x8 => cx.ret (g66_m1 x8)) x0 v1 v2 x3 := by simp only [g66_15F, g66_15, g66_1_fx, g66_9_fx, g66_10_fx, g66_13_fx, g66_14_fx]
noncomputable def g66 (n : Nat) (x0 : List (Int × ByteArray)) (v1 v2 : Int) (x3 : List (Int × ByteArray)) : Option (DenR [.rw (.pair (.int .i8) .str) 75]) := g66_15 n (fun x8 => some (x8, ())) x0 v1 v2 x3
noncomputable def g66_A : List AK := [.rw (.pair (.int .i8) .str) 75, .dat (.int .i64), .dat (.int .i64), .ro (.pair (.int .i8) .str) 75]
noncomputable def g66_R : List RK := [.rw (.pair (.int .i8) .str) 75]
noncomputable def g66_f (n : Nat) (d : DenA g66_A) : Option (DenR g66_R) := g66 n d.1 d.2.1 d.2.2.1 d.2.2.2.1
noncomputable def g66_S (n : Nat) : Spec := mkSpec g66_A g66_R (g66_f n)
noncomputable def g66_K : Sk := (.nd (.fin none none (some g66_m1e) [] .leaf) (.nd (.nd (.fin none none (some g66_m1e) [] .leaf) (.fin none none (some g66_m1e) [] .leaf)) (.nd (.nd (.fin none (some g66_m2e) (some g66_m1e) [] .leaf) (.nd (.nd (.fin none none none [] .leaf) (.nd (.fin none none none [] .leaf) (.nd (.fin none none none [] .leaf) (.nd (.fin none none none [] .leaf) (.nd (.nd (.fin none (some g66_m4e) none [] .leaf) (.nd (.nd (.nd (.fin none none none [(0, g66_m5e)] .leaf) (.nd (.fin none none none [(0, g66_m5e)] .leaf) (.nd (.fin none none none [(0, g66_m5e)] .leaf) (.fin none (some g66_m4e) none [(0, g66_m5e)] .leaf)))) .leaf) .leaf)) (.nd (.fin none none (some g66_m1e) [] .leaf) (.fin none none (some g66_m1e) [] .leaf))))))) (.fin none (some g66_m3e) none [] .leaf))) (.nd (.fin none (some g66_m6e) none [] .leaf) (.nd (.nd (.nd (.nd (.nd (.fin none none none [(2, g66_m7e)] .leaf) (.fin none none none [(2, g66_m7e)] .leaf)) (.fin none (some g66_m6e) none [(2, g66_m7e)] .leaf)) .leaf) .leaf) (.nd (.fin none none (some g66_m1e) [] .leaf) (.nd (.fin none none (some g66_m1e) [] .leaf) (.nd (.fin none none (some g66_m1e) [] .leaf) (.fin none none (some g66_m1e) [] .leaf)))))))))
theorem g66_top (n : Nat) (s : FState) (cx : Cx β) : FX (g66_G n) n g66_B g66_K s cx = g66_15F n s cx := by kernel_rfl
theorem g66_fit (n : Nat) : Fit Tryd.prog 66 (g66_S n) :=
  fit_of (Γ := Γ0) (l := g66_C n) (n := n) (sk := g66_K) (ts := [(8, none)]) (fn := Tryd.f66) (c := g66_B) (by kernel_rfl) (by kernel_rfl) (by unfold Callable; kernel_rfl) tab_ok trivial follows_mixed (by kernel_rfl) (by kernel_rfl) (Nat.le_of_ble_eq_true (by kernel_rfl)) (by kernel_rfl) (by kernel_rfl)
    (fun d => (g66_top n _ _).trans (Eq.trans (b := g66_15F n (g66_m0 d.1 d.2.1 d.2.2.1 d.2.2.2.1) (finCx (g66_G n) g66_R [(8, none)])) (by kernel_rfl) ((g66_15_fx n _ d.1 d.2.1 d.2.2.1 d.2.2.2.1).trans (by kernel_rfl))))
noncomputable def g55_m0 (p0 : (Int × (Int × (Int × (Nat × (Int × (Int × Nat))))))) (x1 : List (Int × ByteArray)) : FState := ⟨tlist [(0, .ptr 0 0 0), (1, .sl 1 none false)], olist [(0, .row (.pair (.int .i64) (.pair (.int .i64) (.pair (.int .i64) (.pair (.flt .f64) (.pair (.int .i64) (.pair (.int .i64) (.flt .f64))))))) 70 false [p0]), (1, .row (.pair (.int .i8) .str) 75 true x1)]⟩
noncomputable def g55_m1 (x4 : List (Int × ByteArray)) : FState := ⟨tlist [(4, .sl 4 none false)], olist [(4, .row (.pair (.int .i8) .str) 75 true x4)]⟩
noncomputable def g55_m1e : List NE := [.row 4 (.pair (.int .i8) .str) 75 true]
noncomputable def g55_m2 (p0 : (Int × (Int × (Int × (Nat × (Int × (Int × Nat))))))) (x1 : List (Int × ByteArray)) (v5 : Int) : FState := ⟨tlist [(0, .ptr 0 0 0), (1, .sl 1 none false), (5, .dat (.int .i64) v5)], olist [(0, .row (.pair (.int .i64) (.pair (.int .i64) (.pair (.int .i64) (.pair (.flt .f64) (.pair (.int .i64) (.pair (.int .i64) (.flt .f64))))))) 70 false [p0]), (1, .row (.pair (.int .i8) .str) 75 true x1)]⟩
noncomputable def g55_m2e : List NE := [.ptr 0 (.pair (.int .i64) (.pair (.int .i64) (.pair (.int .i64) (.pair (.flt .f64) (.pair (.int .i64) (.pair (.int .i64) (.flt .f64))))))) 70 false, .row 1 (.pair (.int .i8) .str) 75 true, .keep 5]
noncomputable def g55_m3 (x1 : List (Int × ByteArray)) : FState := ⟨tlist [(1, .sl 1 none false)], olist [(1, .row (.pair (.int .i8) .str) 75 true x1)]⟩
noncomputable def g55_m3e : List NE := [.row 1 (.pair (.int .i8) .str) 75 true]
noncomputable def g55_m4 (p0 : (Int × (Int × (Int × (Nat × (Int × (Int × Nat))))))) (x1 : List (Int × ByteArray)) (v5 : Int) : FState := ⟨tlist [(0, .ptr 0 0 0), (1, .sl 1 none false), (5, .dat (.int .i64) v5)], olist [(0, .row (.pair (.int .i64) (.pair (.int .i64) (.pair (.int .i64) (.pair (.flt .f64) (.pair (.int .i64) (.pair (.int .i64) (.flt .f64))))))) 70 false [p0]), (1, .row (.pair (.int .i8) .str) 75 true x1)]⟩
noncomputable def g55_m4e : List NE := [.ptr 0 (.pair (.int .i64) (.pair (.int .i64) (.pair (.int .i64) (.pair (.flt .f64) (.pair (.int .i64) (.pair (.int .i64) (.flt .f64))))))) 70 false, .row 1 (.pair (.int .i8) .str) 75 true, .keep 5]
noncomputable def g55_m5 (p0 : (Int × (Int × (Int × (Nat × (Int × (Int × Nat))))))) (x1 : List (Int × ByteArray)) (v5 : Int) (v38 : Bool) : FState := ⟨tlist [(0, .ptr 0 0 0), (1, .sl 1 none false), (5, .dat (.int .i64) v5), (38, .dat .bool v38)], olist [(0, .row (.pair (.int .i64) (.pair (.int .i64) (.pair (.int .i64) (.pair (.flt .f64) (.pair (.int .i64) (.pair (.int .i64) (.flt .f64))))))) 70 false [p0]), (1, .row (.pair (.int .i8) .str) 75 true x1)]⟩
noncomputable def g55_m5e : List NE := [.ptr 0 (.pair (.int .i64) (.pair (.int .i64) (.pair (.int .i64) (.pair (.flt .f64) (.pair (.int .i64) (.pair (.int .i64) (.flt .f64))))))) 70 false, .row 1 (.pair (.int .i8) .str) 75 true, .keep 5, .keep 38]
noncomputable def g55_m6 (p0 : (Int × (Int × (Int × (Nat × (Int × (Int × Nat))))))) (x1 : List (Int × ByteArray)) (v5 : Int) : FState := ⟨tlist [(0, .ptr 0 0 0), (1, .sl 1 none false), (5, .dat (.int .i64) v5)], olist [(0, .row (.pair (.int .i64) (.pair (.int .i64) (.pair (.int .i64) (.pair (.flt .f64) (.pair (.int .i64) (.pair (.int .i64) (.flt .f64))))))) 70 false [p0]), (1, .row (.pair (.int .i8) .str) 75 true x1)]⟩
noncomputable def g55_m6e : List NE := [.ptr 0 (.pair (.int .i64) (.pair (.int .i64) (.pair (.int .i64) (.pair (.flt .f64) (.pair (.int .i64) (.pair (.int .i64) (.flt .f64))))))) 70 false, .row 1 (.pair (.int .i8) .str) 75 true, .keep 5]
noncomputable def g55_m7 (p0 : (Int × (Int × (Int × (Nat × (Int × (Int × Nat))))))) (x1 : List (Int × ByteArray)) (v5 : Int) (v6 v7 v8 : ByteArray) : FState := ⟨tlist [(0, .ptr 0 0 0), (1, .sl 1 none false), (5, .dat (.int .i64) v5), (6, .dat .str v6), (7, .dat .str v7), (8, .dat .str v8)], olist [(0, .row (.pair (.int .i64) (.pair (.int .i64) (.pair (.int .i64) (.pair (.flt .f64) (.pair (.int .i64) (.pair (.int .i64) (.flt .f64))))))) 70 false [p0]), (1, .row (.pair (.int .i8) .str) 75 true x1)]⟩
noncomputable def g55_m7e : List NE := [.ptr 0 (.pair (.int .i64) (.pair (.int .i64) (.pair (.int .i64) (.pair (.flt .f64) (.pair (.int .i64) (.pair (.int .i64) (.flt .f64))))))) 70 false, .row 1 (.pair (.int .i8) .str) 75 true, .keep 5, .keep 6, .keep 7, .keep 8]
noncomputable def g55_m8 (p0 : (Int × (Int × (Int × (Nat × (Int × (Int × Nat))))))) (x1 : List (Int × ByteArray)) (v5 : Int) (v6 v7 v8 v11 v12 v13 : ByteArray) (v14 : Int) : FState := ⟨tlist [(0, .ptr 0 0 0), (1, .sl 1 none false), (5, .dat (.int .i64) v5), (6, .dat .str v6), (7, .dat .str v7), (8, .dat .str v8), (11, .dat .str v11), (12, .dat .str v12), (13, .dat .str v13), (14, .dat (.int .i64) v14)], olist [(0, .row (.pair (.int .i64) (.pair (.int .i64) (.pair (.int .i64) (.pair (.flt .f64) (.pair (.int .i64) (.pair (.int .i64) (.flt .f64))))))) 70 false [p0]), (1, .row (.pair (.int .i8) .str) 75 true x1)]⟩
noncomputable def g55_m8e : List NE := [.ptr 0 (.pair (.int .i64) (.pair (.int .i64) (.pair (.int .i64) (.pair (.flt .f64) (.pair (.int .i64) (.pair (.int .i64) (.flt .f64))))))) 70 false, .row 1 (.pair (.int .i8) .str) 75 true, .keep 5, .keep 6, .keep 7, .keep 8, .keep 11, .keep 12, .keep 13, .keep 14]
noncomputable def g55_m9 (p0 : (Int × (Int × (Int × (Nat × (Int × (Int × Nat))))))) (x1 : List (Int × ByteArray)) (v5 : Int) (v11 v12 v13 : ByteArray) : FState := ⟨tlist [(0, .ptr 0 0 0), (1, .sl 1 none false), (5, .dat (.int .i64) v5), (11, .dat .str v11), (12, .dat .str v12), (13, .dat .str v13)], olist [(0, .row (.pair (.int .i64) (.pair (.int .i64) (.pair (.int .i64) (.pair (.flt .f64) (.pair (.int .i64) (.pair (.int .i64) (.flt .f64))))))) 70 false [p0]), (1, .row (.pair (.int .i8) .str) 75 true x1)]⟩
noncomputable def g55_m9e : List NE := [.ptr 0 (.pair (.int .i64) (.pair (.int .i64) (.pair (.int .i64) (.pair (.flt .f64) (.pair (.int .i64) (.pair (.int .i64) (.flt .f64))))))) 70 false, .row 1 (.pair (.int .i8) .str) 75 true, .keep 5, .keep 11, .keep 12, .keep 13]
noncomputable def g55_C (n : Nat) : List (Nat × Spec) := [(63, g63_S n), (64, g64_S n), (65, g65_S n), (66, g66_S n)]
noncomputable def g55_G (n : Nat) : Ctx := { Γ0 with calls := lkS (g55_C n) }
noncomputable def g55_B : Code := fb Tryd.f55
noncomputable def g55_1 (n : Nat) (kn : (Int × (Int × (Int × (Nat × (Int × (Int × Nat)))))) → List (Int × ByteArray) → Int → Option β) (p0 : (Int × (Int × (Int × (Nat × (Int × (Int × Nat))))))) (x1 : List (Int × ByteArray)) : Option β := kn p0 x1 (1 : Int)
noncomputable def g55_1F (n : Nat) (s : FState) (cx : Cx β) : Option β := FX (g55_G n) n (nav g55_B [0]) (.fin none none none [] .leaf) s { cx with nrm := fun s => FX (g55_G n) n (nav g55_B [1, 0]) (.fin none (some g55_m2e) none [] .leaf) s cx }
theorem g55_1_fx (n : Nat) (cx : Cx β) (p0 : (Int × (Int × (Int × (Nat × (Int × (Int × Nat))))))) (x1 : List (Int × ByteArray)) : g55_1F n (g55_m0 p0 x1) cx = g55_1 n (fun p0 x1 v5 => cx.nrm (g55_m2 p0 x1 v5)) p0 x1 := by kernel_rfl
noncomputable def g55_2 (n : Nat) (kn : (Int × (Int × (Int × (Nat × (Int × (Int × Nat)))))) → List (Int × ByteArray) → Int → Option β) (kx0 : List (Int × ByteArray) → Option β) (p0 : (Int × (Int × (Int × (Nat × (Int × (Int × Nat))))))) (x1 : List (Int × ByteArray)) (v5 : Int) : Option β := bif (decide (v5 < (w64 ((x1.length : Int) - (1 : Int))))) then (kn p0 x1 v5) else (kx0 x1)
noncomputable def g55_2F (n : Nat) (s : FState) (cx : Cx β) : Option β := FX (g55_G n) n (nav g55_B [1, 1, 0, 0, 0, 0, 0]) (.fin none none none [(0, g55_m3e)] .leaf) s { cx with nrm := fun s => FX (g55_G n) n (nav g55_B [1, 1, 0, 0, 0, 0, 1]) (.fin none (some g55_m4e) none [(0, g55_m3e)] .leaf) s cx }
theorem g55_2_fx (n : Nat) (cx : Cx β) (p0 : (Int × (Int × (Int × (Nat × (Int × (Int × Nat))))))) (x1 : List (Int × ByteArray)) (v5 : Int) : g55_2F n (g55_m2 p0 x1 v5) cx = g55_2 n (fun p0 x1 v5 => cx.nrm (g55_m4 p0 x1 v5)) (fun x1 => cx.ex 0 (g55_m3 x1)) p0 x1 v5 := by kernel_rfl
noncomputable def g55_3 (n : Nat) (kn : (Int × (Int × (Int × (Nat × (Int × (Int × Nat)))))) → List (Int × ByteArray) → Int → Bool → Option β) (p0 : (Int × (Int × (Int × (Nat × (Int × (Int × Nat))))))) (x1 : List (Int × ByteArray)) (v5 : Int) : Option β := idx (w64 (v5 - (1 : Int))) (x1.length : Int) <| bif ((rd x1 (w64 (v5 - (1 : Int))) ((0 : Int), (⟨#[]⟩ : ByteArray))).1 == (0 : Int)) then (idx (w64 (v5 + (1 : Int))) (x1.length : Int) <| kn p0 x1 v5 ((rd x1 (w64 (v5 + (1 : Int))) ((0 : Int), (⟨#[]⟩ : ByteArray))).1 == (0 : Int))) else (kn p0 x1 v5 false)
noncomputable def g55_3F (n : Nat) (s : FState) (cx : Cx β) : Option β := FX (g55_G n) n (nav g55_B [1, 1, 0, 0, 0, 1, 0, 0, 0]) (.fin none (some g55_m5e) none [] .leaf) s cx
theorem g55_3_fx (n : Nat) (cx : Cx β) (p0 : (Int × (Int × (Int × (Nat × (Int × (Int × Nat))))))) (x1 : List (Int × ByteArray)) (v5 : Int) : g55_3F n (g55_m4 p0 x1 v5) cx = g55_3 n (fun p0 x1 v5 v38 => cx.nrm (g55_m5 p0 x1 v5 v38)) p0 x1 v5 := by kernel_rfl
noncomputable def g55_4 (n : Nat) (kn : (Int × (Int × (Int × (Nat × (Int × (Int × Nat)))))) → List (Int × ByteArray) → Int → ByteArray → ByteArray → ByteArray → Option β) (p0 : (Int × (Int × (Int × (Nat × (Int × (Int × Nat))))))) (x1 : List (Int × ByteArray)) (v5 : Int) (v38 : Bool) : Option β := idx (w64 (v5 - (1 : Int))) (x1.length : Int) <| idx v5 (x1.length : Int) <| idx (w64 (v5 + (1 : Int))) (x1.length : Int) <| (g63 n p0 ((rd x1 (w64 (v5 - (1 : Int))) ((0 : Int), (⟨#[]⟩ : ByteArray))).2) ((rd x1 v5 ((0 : Int), (⟨#[]⟩ : ByteArray))).2)).bind fun r1 => bif (decide (r1.1 > (0 : Int))) then (bnd (w64 ((((rd x1 v5 ((0 : Int), (⟨#[]⟩ : ByteArray))).2).size : Int) - r1.1)) (((rd x1 v5 ((0 : Int), (⟨#[]⟩ : ByteArray))).2).size : Int) (((rd x1 v5 ((0 : Int), (⟨#[]⟩ : ByteArray))).2).size : Int) <| bnd (0 : Int) (w64 ((((rd x1 (w64 (v5 - (1 : Int))) ((0 : Int), (⟨#[]⟩ : ByteArray))).2).size : Int) - r1.1)) (((rd x1 (w64 (v5 - (1 : Int))) ((0 : Int), (⟨#[]⟩ : ByteArray))).2).size : Int) <| bnd (0 : Int) (w64 ((((rd x1 v5 ((0 : Int), (⟨#[]⟩ : ByteArray))).2).size : Int) - r1.1)) (((rd x1 v5 ((0 : Int), (⟨#[]⟩ : ByteArray))).2).size : Int) <| roomy ((cutS ((rd x1 v5 ((0 : Int), (⟨#[]⟩ : ByteArray))).2) (w64 ((((rd x1 v5 ((0 : Int), (⟨#[]⟩ : ByteArray))).2).size : Int) - r1.1)) (((rd x1 v5 ((0 : Int), (⟨#[]⟩ : ByteArray))).2).size : Int)).size + (cutS ((rd x1 v5 ((0 : Int), (⟨#[]⟩ : ByteArray))).2) (0 : Int) (w64 ((((rd x1 v5 ((0 : Int), (⟨#[]⟩ : ByteArray))).2).size : Int) - r1.1))).size) <| roomy ((cutS ((rd x1 v5 ((0 : Int), (⟨#[]⟩ : ByteArray))).2) (w64 ((((rd x1 v5 ((0 : Int), (⟨#[]⟩ : ByteArray))).2).size : Int) - r1.1)) (((rd x1 v5 ((0 : Int), (⟨#[]⟩ : ByteArray))).2).size : Int)).size + ((rd x1 (w64 (v5 + (1 : Int))) ((0 : Int), (⟨#[]⟩ : ByteArray))).2).size) <| kn p0 x1 v5 (cutS ((rd x1 (w64 (v5 - (1 : Int))) ((0 : Int), (⟨#[]⟩ : ByteArray))).2) (0 : Int) (w64 ((((rd x1 (w64 (v5 - (1 : Int))) ((0 : Int), (⟨#[]⟩ : ByteArray))).2).size : Int) - r1.1))) ((cutS ((rd x1 v5 ((0 : Int), (⟨#[]⟩ : ByteArray))).2) (w64 ((((rd x1 v5 ((0 : Int), (⟨#[]⟩ : ByteArray))).2).size : Int) - r1.1)) (((rd x1 v5 ((0 : Int), (⟨#[]⟩ : ByteArray))).2).size : Int)) ++ (cutS ((rd x1 v5 ((0 : Int), (⟨#[]⟩ : ByteArray))).2) (0 : Int) (w64 ((((rd x1 v5 ((0 : Int), (⟨#[]⟩ : ByteArray))).2).size : Int) - r1.1)))) ((cutS ((rd x1 v5 ((0 : Int), (⟨#[]⟩ : ByteArray))).2) (w64 ((((rd x1 v5 ((0 : Int), (⟨#[]⟩ : ByteArray))).2).size : Int) - r1.1)) (((rd x1 v5 ((0 : Int), (⟨#[]⟩ : ByteArray))).2).size : Int)) ++ (rd x1 (w64 (v5 + (1 : Int))) ((0 : Int), (⟨#[]⟩ : ByteArray))).2)) else (kn p0 x1 v5 ((rd x1 (w64 (v5 - (1 : Int))) ((0 : Int), (⟨#[]⟩ : ByteArray))).2) ((rd x1 v5 ((0 : Int), (⟨#[]⟩ : ByteArray))).2) ((rd x1 (w64 (v5 + (1 : Int))) ((0 : Int), (⟨#[]⟩ : ByteArray))).2))
noncomputable def g55_4F (n : Nat) (s : FState) (cx : Cx β) : Option β := FX (g55_G n) n (nav g55_B [1, 1, 0, 0, 0, 1, 0, 0, 1, 0, 0]) (.fin none none none [] .leaf) s { cx with nrm := fun s => FX (g55_G n) n (nav g55_B [1, 1, 0, 0, 0, 1, 0, 0, 1, 0, 1, 0]) (.fin none none none [] .leaf) s { cx with nrm := fun s => FX (g55_G n) n (nav g55_B [1, 1, 0, 0, 0, 1, 0, 0, 1, 0, 1, 1, 0]) (.fin none none none [] .leaf) s { cx with nrm := fun s => FX (g55_G n) n (nav g55_B [1, 1, 0, 0, 0, 1, 0, 0, 1, 0, 1, 1, 1, 0]) (.fin none none none [] .leaf) s { cx with nrm := fun s => FX (g55_G n) n (nav g55_B [1, 1, 0, 0, 0, 1, 0, 0, 1, 0, 1, 1, 1, 1, 0, 0]) (.fin none none none [] .leaf) s { cx with nrm := fun s => FX (g55_G n) n (nav g55_B [1, 1, 0, 0, 0, 1, 0, 0, 1, 0, 1, 1, 1, 1, 0, 1]) (.fin none (some g55_m7e) none [] .leaf) s cx } } } } }
theorem g55_4_fx (n : Nat) (cx : Cx β) (p0 : (Int × (Int × (Int × (Nat × (Int × (Int × Nat))))))) (x1 : List (Int × ByteArray)) (v5 : Int) (v38 : Bool) : g55_4F n (g55_m5 p0 x1 v5 v38) cx = g55_4 n (fun p0 x1 v5 v6 v7 v8 => cx.nrm (g55_m7 p0 x1 v5 v6 v7 v8)) p0 x1 v5 v38 := by kernel_rfl
noncomputable def g55_5 (n : Nat) (kn : (Int × (Int × (Int × (Nat × (Int × (Int × Nat)))))) → List (Int × ByteArray) → Int → ByteArray → ByteArray → ByteArray → ByteArray → ByteArray → ByteArray → Int → Option β) (p0 : (Int × (Int × (Int × (Nat × (Int × (Int × Nat))))))) (x1 : List (Int × ByteArray)) (v5 : Int) (v6 v7 v8 : ByteArray) : Option β := (g64 n v6 v7).bind fun r1 => (g64 n v7 v8).bind fun r2 => kn p0 x1 v5 v6 v7 v8 v6 v7 v8 (w64 (r1.1 + r2.1))
noncomputable def g55_5F (n : Nat) (s : FState) (cx : Cx β) : Option β := FX (g55_G n) n (nav g55_B [1, 1, 0, 0, 0, 1, 0, 0, 1, 0, 1, 1, 1, 1, 1, 0]) (.fin none none none [] .leaf) s { cx with nrm := fun s => FX (g55_G n) n (nav g55_B [1, 1, 0, 0, 0, 1, 0, 0, 1, 0, 1, 1, 1, 1, 1, 1, 0]) (.fin none none none [] .leaf) s { cx with nrm := fun s => FX (g55_G n) n (nav g55_B [1, 1, 0, 0, 0, 1, 0, 0, 1, 0, 1, 1, 1, 1, 1, 1, 1, 0]) (.fin none none none [] .leaf) s { cx with nrm := fun s => FX (g55_G n) n (nav g55_B [1, 1, 0, 0, 0, 1, 0, 0, 1, 0, 1, 1, 1, 1, 1, 1, 1, 1, 0]) (.fin none (some g55_m8e) none [] .leaf) s cx } } }
theorem g55_5_fx (n : Nat) (cx : Cx β) (p0 : (Int × (Int × (Int × (Nat × (Int × (Int × Nat))))))) (x1 : List (Int × ByteArray)) (v5 : Int) (v6 v7 v8 : ByteArray) : g55_5F n (g55_m7 p0 x1 v5 v6 v7 v8) cx = g55_5 n (fun p0 x1 v5 v6 v7 v8 v11 v12 v13 v14 => cx.nrm (g55_m8 p0 x1 v5 v6 v7 v8 v11 v12 v13 v14)) p0 x1 v5 v6 v7 v8 := by kernel_rfl
noncomputable def g55_6 (n : Nat) (kn : (Int × (Int × (Int × (Nat × (Int × (Int × Nat)))))) → List (Int × ByteArray) → Int → ByteArray → ByteArray → ByteArray → ByteArray → ByteArray → ByteArray → Int → Option β) (kx2 : (Int × (Int × (Int × (Nat × (Int × (Int × Nat)))))) → List (Int × ByteArray) → Int → ByteArray → ByteArray → ByteArray → Option β) (p0 : (Int × (Int × (Int × (Nat × (Int × (Int × Nat))))))) (x1 : List (Int × ByteArray)) (v5 : Int) (v6 v7 v8 v11 v12 v13 : ByteArray) (v14 : Int) : Option β := bif ((v7.size : Int) != (0 : Int)) then (bif ((v8.size : Int) != (0 : Int)) then ((g65 n v7).bind fun r1 => bif (decide ((v8.size : Int) < r1.2.1)) then (kx2 p0 x1 v5 v11 v12 v13) else (bnd (0 : Int) r1.2.1 (v7.size : Int) <| bnd (0 : Int) r1.2.1 (v8.size : Int) <| bif (!strEq (cutS v7 (0 : Int) r1.2.1) (cutS v8 (0 : Int) r1.2.1)) then (kx2 p0 x1 v5 v11 v12 v13) else (bnd (0 : Int) r1.2.1 (v7.size : Int) <| roomy (v6.size + (cutS v7 (0 : Int) r1.2.1).size) <| bnd r1.2.1 (v7.size : Int) (v7.size : Int) <| bnd (0 : Int) r1.2.1 (v8.size : Int) <| roomy ((cutS v7 r1.2.1 (v7.size : Int)).size + (cutS v8 (0 : Int) r1.2.1).size) <| bnd r1.2.1 (v8.size : Int) (v8.size : Int) <| (g64 n (v6 ++ (cutS v7 (0 : Int) r1.2.1)) ((cutS v7 r1.2.1 (v7.size : Int)) ++ (cutS v8 (0 : Int) r1.2.1))).bind fun r2 => (g64 n ((cutS v7 r1.2.1 (v7.size : Int)) ++ (cutS v8 (0 : Int) r1.2.1)) (cutS v8 r1.2.1 (v8.size : Int))).bind fun r3 => bif (decide ((w64 (r2.1 + r3.1)) ≥ v14)) then (kn p0 x1 v5 (v6 ++ (cutS v7 (0 : Int) r1.2.1)) ((cutS v7 r1.2.1 (v7.size : Int)) ++ (cutS v8 (0 : Int) r1.2.1)) (cutS v8 r1.2.1 (v8.size : Int)) (v6 ++ (cutS v7 (0 : Int) r1.2.1)) ((cutS v7 r1.2.1 (v7.size : Int)) ++ (cutS v8 (0 : Int) r1.2.1)) (cutS v8 r1.2.1 (v8.size : Int)) (w64 (r2.1 + r3.1))) else (kn p0 x1 v5 (v6 ++ (cutS v7 (0 : Int) r1.2.1)) ((cutS v7 r1.2.1 (v7.size : Int)) ++ (cutS v8 (0 : Int) r1.2.1)) (cutS v8 r1.2.1 (v8.size : Int)) v11 v12 v13 v14)))) else (kx2 p0 x1 v5 v11 v12 v13)) else (kx2 p0 x1 v5 v11 v12 v13)
noncomputable def g55_6F (n : Nat) (s : FState) (cx : Cx β) : Option β := FX (g55_G n) n (nav g55_B [1, 1, 0, 0, 0, 1, 0, 0, 1, 0, 1, 1, 1, 1, 1, 1, 1, 1, 1, 0, 0, 0, 0, 0]) (.fin none none none [(2, g55_m9e)] .leaf) s { cx with nrm := fun s => FX (g55_G n) n (nav g55_B [1, 1, 0, 0, 0, 1, 0, 0, 1, 0, 1, 1, 1, 1, 1, 1, 1, 1, 1, 0, 0, 0, 0, 1]) (.fin none none none [(2, g55_m9e)] .leaf) s { cx with nrm := fun s => FX (g55_G n) n (nav g55_B [1, 1, 0, 0, 0, 1, 0, 0, 1, 0, 1, 1, 1, 1, 1, 1, 1, 1, 1, 0, 0, 0, 1]) (.fin none (some g55_m8e) none [(2, g55_m9e)] .leaf) s cx } }
theorem g55_6_fx (n : Nat) (cx : Cx β) (p0 : (Int × (Int × (Int × (Nat × (Int × (Int × Nat))))))) (x1 : List (Int × ByteArray)) (v5 : Int) (v6 v7 v8 v11 v12 v13 : ByteArray) (v14 : Int) : g55_6F n (g55_m8 p0 x1 v5 v6 v7 v8 v11 v12 v13 v14) cx = g55_6 n (fun p0 x1 v5 v6 v7 v8 v11 v12 v13 v14 => cx.nrm (g55_m8 p0 x1 v5 v6 v7 v8 v11 v12 v13 v14)) (fun p0 x1 v5 v11 v12 v13 => cx.ex 2 (g55_m9 p0 x1 v5 v11 v12 v13)) p0 x1 v5 v6 v7 v8 v11 v12 v13 v14 := by kernel_rfl
noncomputable def g55_7L (n : Nat) (kx2 : (Int × (Int × (Int × (Nat × (Int × (Int × Nat)))))) → List (Int × ByteArray) → Int → ByteArray → ByteArray → ByteArray → Option β) : Nat → (Int × (Int × (Int × (Nat × (Int × (Int × Nat)))))) → List (Int × ByteArray) → Int → ByteArray → ByteArray → ByteArray → ByteArray → ByteArray → ByteArray → Int → Option β
  | 0, _, _, _, _, _, _, _, _, _, _ => none
  | m + 1, p0, x1, v5, v6, v7, v8, v11, v12, v13, v14 => g55_6 n (g55_7L n kx2 m) kx2 p0 x1 v5 v6 v7 v8 v11 v12 v13 v14
noncomputable def g55_7 (n : Nat) (kx2 : (Int × (Int × (Int × (Nat × (Int × (Int × Nat)))))) → List (Int × ByteArray) → Int → ByteArray → ByteArray → ByteArray → Option β) (p0 : (Int × (Int × (Int × (Nat × (Int × (Int × Nat))))))) (x1 : List (Int × ByteArray)) (v5 : Int) (v6 v7 v8 v11 v12 v13 : ByteArray) (v14 : Int) : Option β := g55_7L n kx2 n p0 x1 v5 v6 v7 v8 v11 v12 v13 v14
noncomputable def g55_7F (n : Nat) (s : FState) (cx : Cx β) : Option β := loopN (fun again s => g55_6F n s { cx with nrm := again }) n s
theorem g55_7L_fx (n : Nat) (cx : Cx β) : ∀ (m : Nat) (p0 : (Int × (Int × (Int × (Nat × (Int × (Int × Nat))))))) (x1 : List (Int × ByteArray)) (v5 : Int) (v6 v7 v8 v11 v12 v13 : ByteArray) (v14 : Int), loopN (fun again s => g55_6F n s { cx with nrm := again }) m (g55_m8 p0 x1 v5 v6 v7 v8 v11 v12 v13 v14) = g55_7L n (fun p0 x1 v5 v11 v12 v13 => cx.ex 2 (g55_m9 p0 x1 v5 v11 v12 v13)) m p0 x1 v5 v6 v7 v8 v11 v12 v13 v14 := by
  intro m
  induction m with
  | zero => intros; rfl
  | succ m ih => intros; simp only [loopN, g55_7L, g55_6_fx, ih]
theorem g55_7_fx (n : Nat) (cx : Cx β) (p0 : (Int × (Int × (Int × (Nat × (Int × (Int × Nat))))))) (x1 : List (Int × ByteArray)) (v5 : Int) (v6 v7 v8 v11 v12 v13 : ByteArray) (v14 : Int) : g55_7F n (g55_m8 p0 x1 v5 v6 v7 v8 v11 v12 v13 v14) cx = g55_7 n (fun p0 x1 v5 v11 v12 v13 => cx.ex 2 (g55_m9 p0 x1 v5 v11 v12 v13)) p0 x1 v5 v6 v7 v8 v11 v12 v13 v14 := g55_7L_fx n cx n p0 x1 v5 v6 v7 v8 v11 v12 v13 v14
noncomputable def g55_8 (n : Nat) (kn : (Int × (Int × (Int × (Nat × (Int × (Int × Nat)))))) → List (Int × ByteArray) → Int → ByteArray → ByteArray → ByteArray → Option β) (p0 : (Int × (Int × (Int × (Nat × (Int × (Int × Nat))))))) (x1 : List (Int × ByteArray)) (v5 : Int) (v6 v7 v8 v11 v12 v13 : ByteArray) (v14 : Int) : Option β := g55_7 n kn p0 x1 v5 v6 v7 v8 v11 v12 v13 v14
noncomputable def g55_8F (n : Nat) (s : FState) (cx : Cx β) : Option β := g55_7F n s { cx with ex := fun j s => bif Nat.beq j 2 then cx.nrm s else cx.ex j s }
theorem g55_8_fx (n : Nat) (cx : Cx β) (p0 : (Int × (Int × (Int × (Nat × (Int × (Int × Nat))))))) (x1 : List (Int × ByteArray)) (v5 : Int) (v6 v7 v8 v11 v12 v13 : ByteArray) (v14 : Int) : g55_8F n (g55_m8 p0 x1 v5 v6 v7 v8 v11 v12 v13 v14) cx = g55_8 n (fun p0 x1 v5 v11 v12 v13 => cx.nrm (g55_m9 p0 x1 v5 v11 v12 v13)) p0 x1 v5 v6 v7 v8 v11 v12 v13 v14 := g55_7_fx n _ p0 x1 v5 v6 v7 v8 v11 v12 v13 v14
noncomputable def g55_9 (n : Nat) (kn : (Int × (Int × (Int × (Nat × (Int × (Int × Nat)))))) → List (Int × ByteArray) → Int → Option β) (p0 : (Int × (Int × (Int × (Nat × (Int × (Int × Nat))))))) (x1 : List (Int × ByteArray)) (v5 : Int) (v11 v12 v13 : ByteArray) : Option β := idx (w64 (v5 - (1 : Int))) (x1.length : Int) <| bif (!strEq ((rd x1 (w64 (v5 - (1 : Int))) ((0 : Int), (⟨#[]⟩ : ByteArray))).2) v11) then (bif ((v11.size : Int) != (0 : Int)) then (idx (w64 (v5 - (1 : Int))) (x1.length : Int) <| idx v5 ((x1.set (w64 (v5 - (1 : Int))).toNat ((rd x1 (w64 (v5 - (1 : Int))) ((0 : Int), (⟨#[]⟩ : ByteArray))).1, v11)).length : Int) <| bif ((v13.size : Int) != (0 : Int)) then (idx (w64 (v5 + (1 : Int))) (((x1.set (w64 (v5 - (1 : Int))).toNat ((rd x1 (w64 (v5 - (1 : Int))) ((0 : Int), (⟨#[]⟩ : ByteArray))).1, v11)).set v5.toNat ((rd (x1.set (w64 (v5 - (1 : Int))).toNat ((rd x1 (w64 (v5 - (1 : Int))) ((0 : Int), (⟨#[]⟩ : ByteArray))).1, v11)) v5 ((0 : Int), (⟨#[]⟩ : ByteArray))).1, v12)).length : Int) <| kn p0 (((x1.set (w64 (v5 - (1 : Int))).toNat ((rd x1 (w64 (v5 - (1 : Int))) ((0 : Int), (⟨#[]⟩ : ByteArray))).1, v11)).set v5.toNat ((rd (x1.set (w64 (v5 - (1 : Int))).toNat ((rd x1 (w64 (v5 - (1 : Int))) ((0 : Int), (⟨#[]⟩ : ByteArray))).1, v11)) v5 ((0 : Int), (⟨#[]⟩ : ByteArray))).1, v12)).set (w64 (v5 + (1 : Int))).toNat ((rd ((x1.set (w64 (v5 - (1 : Int))).toNat ((rd x1 (w64 (v5 - (1 : Int))) ((0 : Int), (⟨#[]⟩ : ByteArray))).1, v11)).set v5.toNat ((rd (x1.set (w64 (v5 - (1 : Int))).toNat ((rd x1 (w64 (v5 - (1 : Int))) ((0 : Int), (⟨#[]⟩ : ByteArray))).1, v11)) v5 ((0 : Int), (⟨#[]⟩ : ByteArray))).1, v12)) (w64 (v5 + (1 : Int))) ((0 : Int), (⟨#[]⟩ : ByteArray))).1, v13)) v5) else (bnd (0 : Int) (w64 (v5 + (1 : Int))) (((x1.set (w64 (v5 - (1 : Int))).toNat ((rd x1 (w64 (v5 - (1 : Int))) ((0 : Int), (⟨#[]⟩ : ByteArray))).1, v11)).set v5.toNat ((rd (x1.set (w64 (v5 - (1 : Int))).toNat ((rd x1 (w64 (v5 - (1 : Int))) ((0 : Int), (⟨#[]⟩ : ByteArray))).1, v11)) v5 ((0 : Int), (⟨#[]⟩ : ByteArray))).1, v12)).length : Int) <| bnd (w64 (v5 + (2 : Int))) (((x1.set (w64 (v5 - (1 : Int))).toNat ((rd x1 (w64 (v5 - (1 : Int))) ((0 : Int), (⟨#[]⟩ : ByteArray))).1, v11)).set v5.toNat ((rd (x1.set (w64 (v5 - (1 : Int))).toNat ((rd x1 (w64 (v5 - (1 : Int))) ((0 : Int), (⟨#[]⟩ : ByteArray))).1, v11)) v5 ((0 : Int), (⟨#[]⟩ : ByteArray))).1, v12)).length : Int) (((x1.set (w64 (v5 - (1 : Int))).toNat ((rd x1 (w64 (v5 - (1 : Int))) ((0 : Int), (⟨#[]⟩ : ByteArray))).1, v11)).set v5.toNat ((rd (x1.set (w64 (v5 - (1 : Int))).toNat ((rd x1 (w64 (v5 - (1 : Int))) ((0 : Int), (⟨#[]⟩ : ByteArray))).1, v11)) v5 ((0 : Int), (⟨#[]⟩ : ByteArray))).1, v12)).length : Int) <| roomy ((cut ((x1.set (w64 (v5 - (1 : Int))).toNat ((rd x1 (w64 (v5 - (1 : Int))) ((0 : Int), (⟨#[]⟩ : ByteArray))).1, v11)).set v5.toNat ((rd (x1.set (w64 (v5 - (1 : Int))).toNat ((rd x1 (w64 (v5 - (1 : Int))) ((0 : Int), (⟨#[]⟩ : ByteArray))).1, v11)) v5 ((0 : Int), (⟨#[]⟩ : ByteArray))).1, v12)) (0 : Int) ((0 : Int) + ((w64 (v5 + (1 : Int))) - (0 : Int)))).length + (cut ((x1.set (w64 (v5 - (1 : Int))).toNat ((rd x1 (w64 (v5 - (1 : Int))) ((0 : Int), (⟨#[]⟩ : ByteArray))).1, v11)).set v5.toNat ((rd (x1.set (w64 (v5 - (1 : Int))).toNat ((rd x1 (w64 (v5 - (1 : Int))) ((0 : Int), (⟨#[]⟩ : ByteArray))).1, v11)) v5 ((0 : Int), (⟨#[]⟩ : ByteArray))).1, v12)) (w64 (v5 + (2 : Int))) ((w64 (v5 + (2 : Int))) + ((((x1.set (w64 (v5 - (1 : Int))).toNat ((rd x1 (w64 (v5 - (1 : Int))) ((0 : Int), (⟨#[]⟩ : ByteArray))).1, v11)).set v5.toNat ((rd (x1.set (w64 (v5 - (1 : Int))).toNat ((rd x1 (w64 (v5 - (1 : Int))) ((0 : Int), (⟨#[]⟩ : ByteArray))).1, v11)) v5 ((0 : Int), (⟨#[]⟩ : ByteArray))).1, v12)).length : Int) - (w64 (v5 + (2 : Int)))))).length) <| kn p0 ((cut ((x1.set (w64 (v5 - (1 : Int))).toNat ((rd x1 (w64 (v5 - (1 : Int))) ((0 : Int), (⟨#[]⟩ : ByteArray))).1, v11)).set v5.toNat ((rd (x1.set (w64 (v5 - (1 : Int))).toNat ((rd x1 (w64 (v5 - (1 : Int))) ((0 : Int), (⟨#[]⟩ : ByteArray))).1, v11)) v5 ((0 : Int), (⟨#[]⟩ : ByteArray))).1, v12)) (0 : Int) ((0 : Int) + ((w64 (v5 + (1 : Int))) - (0 : Int)))) ++ (cut ((x1.set (w64 (v5 - (1 : Int))).toNat ((rd x1 (w64 (v5 - (1 : Int))) ((0 : Int), (⟨#[]⟩ : ByteArray))).1, v11)).set v5.toNat ((rd (x1.set (w64 (v5 - (1 : Int))).toNat ((rd x1 (w64 (v5 - (1 : Int))) ((0 : Int), (⟨#[]⟩ : ByteArray))).1, v11)) v5 ((0 : Int), (⟨#[]⟩ : ByteArray))).1, v12)) (w64 (v5 + (2 : Int))) ((w64 (v5 + (2 : Int))) + ((((x1.set (w64 (v5 - (1 : Int))).toNat ((rd x1 (w64 (v5 - (1 : Int))) ((0 : Int), (⟨#[]⟩ : ByteArray))).1, v11)).set v5.toNat ((rd (x1.set (w64 (v5 - (1 : Int))).toNat ((rd x1 (w64 (v5 - (1 : Int))) ((0 : Int), (⟨#[]⟩ : ByteArray))).1, v11)) v5 ((0 : Int), (⟨#[]⟩ : ByteArray))).1, v12)).length : Int) - (w64 (v5 + (2 : Int))))))) (w64 (v5 - (1 : Int))))) else ((g66 n x1 (w64 (v5 - (1 : Int))) (1 : Int) []).bind fun r1 => idx (w64 (v5 - (1 : Int))) (r1.1.length : Int) <| bif ((v13.size : Int) != (0 : Int)) then (idx (w64 ((w64 (v5 - (1 : Int))) + (1 : Int))) ((r1.1.set (w64 (v5 - (1 : Int))).toNat ((rd r1.1 (w64 (v5 - (1 : Int))) ((0 : Int), (⟨#[]⟩ : ByteArray))).1, v12)).length : Int) <| kn p0 ((r1.1.set (w64 (v5 - (1 : Int))).toNat ((rd r1.1 (w64 (v5 - (1 : Int))) ((0 : Int), (⟨#[]⟩ : ByteArray))).1, v12)).set (w64 ((w64 (v5 - (1 : Int))) + (1 : Int))).toNat ((rd (r1.1.set (w64 (v5 - (1 : Int))).toNat ((rd r1.1 (w64 (v5 - (1 : Int))) ((0 : Int), (⟨#[]⟩ : ByteArray))).1, v12)) (w64 ((w64 (v5 - (1 : Int))) + (1 : Int))) ((0 : Int), (⟨#[]⟩ : ByteArray))).1, v13)) (w64 (v5 - (1 : Int)))) else (bnd (0 : Int) (w64 ((w64 (v5 - (1 : Int))) + (1 : Int))) ((r1.1.set (w64 (v5 - (1 : Int))).toNat ((rd r1.1 (w64 (v5 - (1 : Int))) ((0 : Int), (⟨#[]⟩ : ByteArray))).1, v12)).length : Int) <| bnd (w64 ((w64 (v5 - (1 : Int))) + (2 : Int))) ((r1.1.set (w64 (v5 - (1 : Int))).toNat ((rd r1.1 (w64 (v5 - (1 : Int))) ((0 : Int), (⟨#[]⟩ : ByteArray))).1, v12)).length : Int) ((r1.1.set (w64 (v5 - (1 : Int))).toNat ((rd r1.1 (w64 (v5 - (1 : Int))) ((0 : Int), (⟨#[]⟩ : ByteArray))).1, v12)).length : Int) <| roomy ((cut (r1.1.set (w64 (v5 - (1 : Int))).toNat ((rd r1.1 (w64 (v5 - (1 : Int))) ((0 : Int), (⟨#[]⟩ : ByteArray))).1, v12)) (0 : Int) ((0 : Int) + ((w64 ((w64 (v5 - (1 : Int))) + (1 : Int))) - (0 : Int)))).length + (cut (r1.1.set (w64 (v5 - (1 : Int))).toNat ((rd r1.1 (w64 (v5 - (1 : Int))) ((0 : Int), (⟨#[]⟩ : ByteArray))).1, v12)) (w64 ((w64 (v5 - (1 : Int))) + (2 : Int))) ((w64 ((w64 (v5 - (1 : Int))) + (2 : Int))) + (((r1.1.set (w64 (v5 - (1 : Int))).toNat ((rd r1.1 (w64 (v5 - (1 : Int))) ((0 : Int), (⟨#[]⟩ : ByteArray))).1, v12)).length : Int) - (w64 ((w64 (v5 - (1 : Int))) + (2 : Int)))))).length) <| kn p0 ((cut (r1.1.set (w64 (v5 - (1 : Int))).toNat ((rd r1.1 (w64 (v5 - (1 : Int))) ((0 : Int), (⟨#[]⟩ : ByteArray))).1, v12)) (0 : Int) ((0 : Int) + ((w64 ((w64 (v5 - (1 : Int))) + (1 : Int))) - (0 : Int)))) ++ (cut (r1.1.set (w64 (v5 - (1 : Int))).toNat ((rd r1.1 (w64 (v5 - (1 : Int))) ((0 : Int), (⟨#[]⟩ : ByteArray))).1, v12)) (w64 ((w64 (v5 - (1 : Int))) + (2 : Int))) ((w64 ((w64 (v5 - (1 : Int))) + (2 : Int))) + (((r1.1.set (w64 (v5 - (1 : Int))).toNat ((rd r1.1 (w64 (v5 - (1 : Int))) ((0 : Int), (⟨#[]⟩ : ByteArray))).1, v12)).length : Int) - (w64 ((w64 (v5 - (1 : Int))) + (2 : Int))))))) (w64 ((w64 (v5 - (1 : Int))) - (1 : Int)))))) else (kn p0 x1 v5)
noncomputable def g55_9F (n : Nat) (s : FState) (cx : Cx β) : Option β := FX (g55_G n) n (nav g55_B [1, 1, 0, 0, 0, 1, 0, 0, 1, 0, 1, 1, 1, 1, 1, 1, 1, 1, 1, 1, 0]) (.fin none none none [] .leaf) s { cx with nrm := fun s => FX (g55_G n) n (nav g55_B [1, 1, 0, 0, 0, 1, 0, 0, 1, 0, 1, 1, 1, 1, 1, 1, 1, 1, 1, 1, 1]) (.fin none (some g55_m6e) none [] .leaf) s cx }
theorem g55_9_fx (n : Nat) (cx : Cx β) (p0 : (Int × (Int × (Int × (Nat × (Int × (Int × Nat))))))) (x1 : List (Int × ByteArray)) (v5 : Int) (v11 v12 v13 : ByteArray) : g55_9F n (g55_m9 p0 x1 v5 v11 v12 v13) cx = g55_9 n (fun p0 x1 v5 => cx.nrm (g55_m6 p0 x1 v5)) p0 x1 v5 v11 v12 v13 := by kernel_rfl
noncomputable def g55_10 (n : Nat) (kn : (Int × (Int × (Int × (Nat × (Int × (Int × Nat)))))) → List (Int × ByteArray) → Int → Option β) (p0 : (Int × (Int × (Int × (Nat × (Int × (Int × Nat))))))) (x1 : List (Int × ByteArray)) (v5 : Int) (v38 : Bool) : Option β := g55_4 n (fun p0 x1 v5 v6 v7 v8 => g55_5 n (fun p0 x1 v5 v6 v7 v8 v11 v12 v13 v14 => g55_8 n (fun p0 x1 v5 v11 v12 v13 => g55_9 n kn p0 x1 v5 v11 v12 v13) p0 x1 v5 v6 v7 v8 v11 v12 v13 v14) p0 x1 v5 v6 v7 v8) p0 x1 v5 v38
noncomputable def g55_10F (n : Nat) (s : FState) (cx : Cx β) : Option β := g55_4F n s { cx with nrm := fun s => g55_5F n s { cx with nrm := fun s => g55_8F n s { cx with nrm := fun s => g55_9F n s cx } } }
theorem g55_10_fx (n : Nat) (cx : Cx β) (p0 : (Int × (Int × (Int × (Nat × (Int × (Int × Nat))))))) (x1 : List (Int × ByteArray)) (v5 : Int) (v38 : Bool) : g55_10F n (g55_m5 p0 x1 v5 v38) cx = g55_10 n (fun p0 x1 v5 => cx.nrm (g55_m6 p0 x1 v5)) p0 x1 v5 v38 := by simp only [g55_10F, g55_10, g55_4_fx, g55_5_fx, g55_8_fx, g55_9_fx]
noncomputable def g55_11 (n : Nat) (kn : (Int × (Int × (Int × (Nat × (Int × (Int × Nat)))))) → List (Int × ByteArray) → Int → Option β) (p0 : (Int × (Int × (Int × (Nat × (Int × (Int × Nat))))))) (x1 : List (Int × ByteArray)) (v5 : Int) (v38 : Bool) : Option β := kn p0 x1 v5
noncomputable def g55_11F (n : Nat) (s : FState) (cx : Cx β) : Option β := FX (g55_G n) n (nav g55_B [1, 1, 0, 0, 0, 1, 0, 0, 1, 1]) (.fin none (some g55_m6e) none [] .leaf) s cx
theorem g55_11_fx (n : Nat) (cx : Cx β) (p0 : (Int × (Int × (Int × (Nat × (Int × (Int × Nat))))))) (x1 : List (Int × ByteArray)) (v5 : Int) (v38 : Bool) : g55_11F n (g55_m5 p0 x1 v5 v38) cx = g55_11 n (fun p0 x1 v5 => cx.nrm (g55_m6 p0 x1 v5)) p0 x1 v5 v38 := by kernel_rfl
noncomputable def g55_12 (n : Nat) (kn : (Int × (Int × (Int × (Nat × (Int × (Int × Nat)))))) → List (Int × ByteArray) → Int → Option β) (p0 : (Int × (Int × (Int × (Nat × (Int × (Int × Nat))))))) (x1 : List (Int × ByteArray)) (v5 : Int) (v38 : Bool) : Option β := bif v38 then g55_10 n kn p0 x1 v5 v38 else g55_11 n kn p0 x1 v5 v38
noncomputable def g55_12F (n : Nat) (s : FState) (cx : Cx β) : Option β := asBool (ev s (cond_of (nav g55_B [1, 1, 0, 0, 0, 1, 0, 0, 1]))) fun t => cond t (g55_10F n s cx) (g55_11F n s cx)
theorem g55_12_fx (n : Nat) (cx : Cx β) (p0 : (Int × (Int × (Int × (Nat × (Int × (Int × Nat))))))) (x1 : List (Int × ByteArray)) (v5 : Int) (v38 : Bool) : g55_12F n (g55_m5 p0 x1 v5 v38) cx = g55_12 n (fun p0 x1 v5 => cx.nrm (g55_m6 p0 x1 v5)) p0 x1 v5 v38 := by
  simp only [g55_12F, g55_12, g55_10_fx, g55_11_fx]
  kernel_rfl
noncomputable def g55_13 (n : Nat) (kn : (Int × (Int × (Int × (Nat × (Int × (Int × Nat)))))) → List (Int × ByteArray) → Int → Option β) (p0 : (Int × (Int × (Int × (Nat × (Int × (Int × Nat))))))) (x1 : List (Int × ByteArray)) (v5 : Int) : Option β := kn p0 x1 (w64 (v5 + (1 : Int)))
noncomputable def g55_13F (n : Nat) (s : FState) (cx : Cx β) : Option β := FX (g55_G n) n (nav g55_B [1, 1, 0, 0, 0, 1, 0, 1]) (.fin none (some g55_m2e) none [] .leaf) s cx
theorem g55_13_fx (n : Nat) (cx : Cx β) (p0 : (Int × (Int × (Int × (Nat × (Int × (Int × Nat))))))) (x1 : List (Int × ByteArray)) (v5 : Int) : g55_13F n (g55_m6 p0 x1 v5) cx = g55_13 n (fun p0 x1 v5 => cx.nrm (g55_m2 p0 x1 v5)) p0 x1 v5 := by kernel_rfl
noncomputable def g55_14 (n : Nat) (kn : (Int × (Int × (Int × (Nat × (Int × (Int × Nat)))))) → List (Int × ByteArray) → Int → Option β) (p0 : (Int × (Int × (Int × (Nat × (Int × (Int × Nat))))))) (x1 : List (Int × ByteArray)) (v5 : Int) : Option β := g55_3 n (fun p0 x1 v5 v38 => g55_12 n (fun p0 x1 v5 => g55_13 n kn p0 x1 v5) p0 x1 v5 v38) p0 x1 v5
noncomputable def g55_14F (n : Nat) (s : FState) (cx : Cx β) : Option β := g55_3F n s { cx with nrm := fun s => g55_12F n s { cx with nrm := fun s => g55_13F n s cx } }
theorem g55_14_fx (n : Nat) (cx : Cx β) (p0 : (Int × (Int × (Int × (Nat × (Int × (Int × Nat))))))) (x1 : List (Int × ByteArray)) (v5 : Int) : g55_14F n (g55_m4 p0 x1 v5) cx = g55_14 n (fun p0 x1 v5 => cx.nrm (g55_m2 p0 x1 v5)) p0 x1 v5 := by simp only [g55_14F, g55_14, g55_3_fx, g55_12_fx, g55_13_fx]
noncomputable def g55_15 (n : Nat) (kn : (Int × (Int × (Int × (Nat × (Int × (Int × Nat)))))) → List (Int × ByteArray) → Int → Option β) (p0 : (Int × (Int × (Int × (Nat × (Int × (Int × Nat))))))) (x1 : List (Int × ByteArray)) (v5 : Int) : Option β := g55_14 n kn p0 x1 v5
noncomputable def g55_15F (n : Nat) (s : FState) (cx : Cx β) : Option β := g55_14F n s { cx with ex := fun j s => bif Nat.beq j 1 then cx.nrm s else cx.ex j s }
theorem g55_15_fx (n : Nat) (cx : Cx β) (p0 : (Int × (Int × (Int × (Nat × (Int × (Int × Nat))))))) (x1 : List (Int × ByteArray)) (v5 : Int) : g55_15F n (g55_m4 p0 x1 v5) cx = g55_15 n (fun p0 x1 v5 => cx.nrm (g55_m2 p0 x1 v5)) p0 x1 v5 := g55_14_fx n _ p0 x1 v5
noncomputable def g55_16 (n : Nat) (kn : (Int × (Int × (Int × (Nat × (Int × (Int × Nat)))))) → List (Int × ByteArray) → Int → Option β) (kx0 : List (Int × ByteArray) → Option β) (p0 : (Int × (Int × (Int × (Nat × (Int × (Int × Nat))))))) (x1 : List (Int × ByteArray)) (v5 : Int) : Option β := g55_2 n (fun p0 x1 v5 => g55_15 n kn p0 x1 v5) kx0 p0 x1 v5
noncomputable def g55_16F (n : Nat) (s : FState) (cx : Cx β) : Option β := g55_2F n s { cx with nrm := fun s => g55_15F n s cx }
theorem g55_16_fx (n : Nat) (cx : Cx β) (p0 : (Int × (Int × (Int × (Nat × (Int × (Int × Nat))))))) (x1 : List (Int × ByteArray)) (v5 : Int) : g55_16F n (g55_m2 p0 x1 v5) cx = g55_16 n (fun p0 x1 v5 => cx.nrm (g55_m2 p0 x1 v5)) (fun x1 => cx.ex 0 (g55_m3 x1)) p0 x1 v5 := by simp only [g55_16F, g55_16, g55_2_fx, g55_15_fx]
noncomputable def g55_17L (n : Nat) (kx0 : List (Int × ByteArray) → Option β) : Nat → (Int × (Int × (Int × (Nat × (Int × (Int × Nat)))))) → List (Int × ByteArray) → Int → Option β
  | 0, _, _, _ => none
  | m + 1, p0, x1, v5 => g55_16 n (g55_17L n kx0 m) kx0 p0 x1 v5
noncomputable def g55_17 (n : Nat) (kx0 : List (Int × ByteArray) → Option β) (p0 : (Int × (Int × (Int × (Nat × (Int × (Int × Nat))))))) (x1 : List (Int × ByteArray)) (v5 : Int) : Option β := g55_17L n kx0 n p0 x1 v5
noncomputable def g55_17F (n : Nat) (s : FState) (cx : Cx β) : Option β := loopN (fun again s => g55_16F n s { cx with nrm := again }) n s
theorem g55_17L_fx (n : Nat) (cx : Cx β) : ∀ (m : Nat) (p0 : (Int × (Int × (Int × (Nat × (Int × (Int × Nat))))))) (x1 : List (Int × ByteArray)) (v5 : Int), loopN (fun again s => g55_16F n s { cx with nrm := again }) m (g55_m2 p0 x1 v5) = g55_17L n (fun x1 => cx.ex 0 (g55_m3 x1)) m p0 x1 v5 := by
  intro m
  induction m with
  | zero => intros; rfl
  | succ m ih => intros; simp only [loopN, g55_17L, g55_16_fx, ih]
theorem g55_17_fx (n : Nat) (cx : Cx β) (p0 : (Int × (Int × (Int × (Nat × (Int × (Int × Nat))))))) (x1 : List (Int × ByteArray)) (v5 : Int) : g55_17F n (g55_m2 p0 x1 v5) cx = g55_17 n (fun x1 => cx.ex 0 (g55_m3 x1)) p0 x1 v5 := g55_17L_fx n cx n p0 x1 v5
noncomputable def g55_18 (n : Nat) (kn : List (Int × ByteArray) → Option β) (p0 : (Int × (Int × (Int × (Nat × (Int × (Int × Nat))))))) (x1 : List (Int × ByteArray)) (v5 : Int) : Option β := g55_17 n kn p0 x1 v5
noncomputable def g55_18F (n : Nat) (s : FState) (cx : Cx β) : Option β := g55_17F n s { cx with ex := fun j s => bif Nat.beq j 0 then cx.nrm s else cx.ex j s }
theorem g55_18_fx (n : Nat) (cx : Cx β) (p0 : (Int × (Int × (Int × (Nat × (Int × (Int × Nat))))))) (x1 : List (Int × ByteArray)) (v5 : Int) : g55_18F n (g55_m2 p0 x1 v5) cx = g55_18 n (fun x1 => cx.nrm (g55_m3 x1)) p0 x1 v5 := g55_17_fx n _ p0 x1 v5
noncomputable def g55_19 (n : Nat) (kr : List (Int × ByteArray) → Option β) (x1 : List (Int × ByteArray)) : Option β := kr x1
noncomputable def g55_19F (n : Nat) (s : FState) (cx : Cx β) : Option β := FX (g55_G n) n (nav g55_B [1, 1, 1, 0]) (.fin none none (some g55_m1e) [] .leaf) s { cx with nrm := fun s => FX (g55_G n) n (nav g55_B [1, 1, 1, 1]) (.fin none none (some g55_m1e) [] .leaf) s cx }
theorem g55_19_fx (n : Nat) (cx : Cx β) (x1 : List (Int × ByteArray)) : g55_19F n (g55_m3 x1) cx = g55_19 n (fun x4 => cx.ret (g55_m1 x4)) x1 := by kernel_rfl
noncomputable def g55_20 (n : Nat) (kr : List (Int × ByteArray) → Option β) (p0 : (Int × (Int × (Int × (Nat × (Int × (Int × Nat))))))) (x1 : List (Int × ByteArray)) : Option β := g55_1 n (fun p0 x1 v5 => g55_18 n (fun x1 => g55_19 n kr x1) p0 x1 v5) p0 x1
noncomputable def g55_20F (n : Nat) (s : FState) (cx : Cx β) : Option β := g55_1F n s { cx with nrm := fun s => g55_18F n s { cx with nrm := fun s => g55_19F n s cx } }
theorem g55_20_fx (n : Nat) (cx : Cx β) (p0 : (Int × (Int × (Int × (Nat × (Int × (Int × Nat))))))) (x1 : List (Int × ByteArray)) : g55_20F n (g55_m0 p0 x1) cx = g55_20 n (fun x4 => cx.ret (g55_m1 x4)) p0 x1 := by simp only [g55_20F, g55_20, g55_1_fx, g55_18_fx, g55_19_fx]
noncomputable def g55 (n : Nat) (p0 : (Int × (Int × (Int × (Nat × (Int × (Int × Nat))))))) (x1 : List (Int × ByteArray)) : Option (DenR [.rw (.pair (.int .i8) .str) 75]) := g55_20 n (fun x4 => some (x4, ())) p0 x1
noncomputable def g55_A : List AK := [.pro (.pair (.int .i64) (.pair (.int .i64) (.pair (.int .i64) (.pair (.flt .f64) (.pair (.int .i64) (.pair (.int .i64) (.flt .f64))))))) 70, .rw (.pair (.int .i8) .str) 75]
noncomputable def g55_R : List RK := [.rw (.pair (.int .i8) .str) 75]
noncomputable def g55_f (n : Nat) (d : DenA g55_A) : Option (DenR g55_R) := g55 n d.1 d.2.1
noncomputable def g55_S (n : Nat) : Spec := mkSpec g55_A g55_R (g55_f n)
noncomputable def g55_K : Sk := (.nd (.fin none none none [] .leaf) (.nd (.fin none (some g55_m2e) none [] .leaf) (.nd (.nd (.nd (.nd (.nd (.fin none none none [(0, g55_m3e)] .leaf) (.fin none (some g55_m4e) none [(0, g55_m3e)] .leaf)) (.nd (.nd (.nd (.fin none (some g55_m5e) none [] .leaf) (.nd (.nd (.fin none none none [] .leaf) (.nd (.fin none none none [] .leaf) (.nd (.fin none none none [] .leaf) (.nd (.fin none none none [] .leaf) (.nd (.nd (.fin none none none [] .leaf) (.fin none (some g55_m7e) none [] .leaf)) (.nd (.fin none none none [] .leaf) (.nd (.fin none none none [] .leaf) (.nd (.fin none none none [] .leaf) (.nd (.fin none (some g55_m8e) none [] .leaf) (.nd (.nd (.nd (.nd (.nd (.fin none none none [(2, g55_m9e)] .leaf) (.fin none none none [(2, g55_m9e)] .leaf)) (.fin none (some g55_m8e) none [(2, g55_m9e)] .leaf)) .leaf) .leaf) (.nd (.fin none none none [] .leaf) (.fin none (some g55_m6e) none [] .leaf)))))))))))) (.fin none (some g55_m6e) none [] .leaf))) (.fin none (some g55_m2e) none [] .leaf)) .leaf)) .leaf) .leaf) (.nd (.fin none none (some g55_m1e) [] .leaf) (.fin none none (some g55_m1e) [] .leaf)))))
theorem g55_top (n : Nat) (s : FState) (cx : Cx β) : FX (g55_G n) n g55_B g55_K s cx = g55_20F n s cx := by kernel_rfl
theorem g55_fit (n : Nat) : Fit Tryd.prog 55 (g55_S n) :=
  fit_of (Γ := Γ0) (l := g55_C n) (n := n) (sk := g55_K) (ts := [(4, none)]) (fn := Tryd.f55) (c := g55_B) (by kernel_rfl) (by kernel_rfl) (by unfold Callable; kernel_rfl) tab_ok ⟨g63_fit n, g64_fit n, g65_fit n, g66_fit n, trivial⟩ follows_mixed (by kernel_rfl) (by kernel_rfl) (Nat.le_of_ble_eq_true (by kernel_rfl)) (by kernel_rfl) (by kernel_rfl)
    (fun d => (g55_top n _ _).trans (Eq.trans (b := g55_20F n (g55_m0 d.1 d.2.1) (finCx (g55_G n) g55_R [(4, none)])) (by kernel_rfl) ((g55_20_fx n _ d.1 d.2.1).trans (by kernel_rfl))))
noncomputable def g54_m0 (x0 : List (Int × ByteArray)) : FState := ⟨tlist [(0, .sl 0 none false)], olist [(0, .row (.pair (.int .i8) .str) 75 false x0)]⟩
noncomputable def g54_m1 (x2 : List (Int × ByteArray)) : FState := ⟨tlist [(2, .sl 2 none false)], olist [(2, .row (.pair (.int .i64) .str) 45 true x2)]⟩
noncomputable def g54_m1e : List NE := [.row 2 (.pair (.int .i64) .str) 45 true]
noncomputable def g54_m2 (x3 x6 : List (Int × ByteArray)) (v7 v8 : Int) : FState := ⟨tlist [(3, .sl 3 none false), (6, .sl 6 none false), (7, .dat (.int .i64) v7), (8, .dat (.int .i64) v8)], olist [(3, .row (.pair (.int .i64) .str) 45 true x3), (6, .row (.pair (.int .i8) .str) 75 false x6)]⟩
noncomputable def g54_m2e : List NE := [.row 3 (.pair (.int .i64) .str) 45 true, .row 6 (.pair (.int .i8) .str) 75 false, .keep 7, .keep 8]
noncomputable def g54_m3 (x3 : List (Int × ByteArray)) : FState := ⟨tlist [(3, .sl 3 none false)], olist [(3, .row (.pair (.int .i64) .str) 45 true x3)]⟩
noncomputable def g54_m3e : List NE := [.row 3 (.pair (.int .i64) .str) 45 true]
noncomputable def g54_C (n : Nat) : List (Nat × Spec) := []
noncomputable def g54_G (n : Nat) : Ctx := { Γ0 with calls := lkS (g54_C n) }
noncomputable def g54_B : Code := fb Tryd.f54
noncomputable def g54_1 (n : Nat) (kn : List (Int × ByteArray) → List (Int × ByteArray) → Int → Int → Option β) (x0 : List (Int × ByteArray)) : Option β := kn [] x0 (x0.length : Int) (0 : Int)
noncomputable def g54_1F (n : Nat) (s : FState) (cx : Cx β) : Option β := FX (g54_G n) n (nav g54_B [0]) (.fin none none none [] .leaf) s { cx with nrm := fun s => FX (g54_G n) n (nav g54_B [1, 0]) (.fin none none none [] .leaf) s { cx with nrm := fun s => FX (g54_G n) n (nav g54_B [1, 1, 0, 0]) (.fin none (some g54_m2e) none [] .leaf) s cx } }
theorem g54_1_fx (n : Nat) (cx : Cx β) (x0 : List (Int × ByteArray)) : g54_1F n (g54_m0 x0) cx = g54_1 n (fun x3 x6 v7 v8 => cx.nrm (g54_m2 x3 x6 v7 v8)) x0 := by kernel_rfl
noncomputable def g54_2 (n : Nat) (kn : List (Int × ByteArray) → List (Int × ByteArray) → Int → Int → Option β) (kx0 : List (Int × ByteArray) → Option β) (x3 x6 : List (Int × ByteArray)) (v7 v8 : Int) : Option β := bif (decide (v8 < v7)) then (idx v8 (x6.length : Int) <| roomy (x3.length + [((w64 ((rd [(rd x6 v8 ((0 : Int), (⟨#[]⟩ : ByteArray)))] (0 : Int) ((0 : Int), (⟨#[]⟩ : ByteArray))).1)), (rd [(rd x6 v8 ((0 : Int), (⟨#[]⟩ : ByteArray)))] (0 : Int) ((0 : Int), (⟨#[]⟩ : ByteArray))).2)].length) <| kn (x3 ++ [((w64 ((rd [(rd x6 v8 ((0 : Int), (⟨#[]⟩ : ByteArray)))] (0 : Int) ((0 : Int), (⟨#[]⟩ : ByteArray))).1)), (rd [(rd x6 v8 ((0 : Int), (⟨#[]⟩ : ByteArray)))] (0 : Int) ((0 : Int), (⟨#[]⟩ : ByteArray))).2)]) x6 v7 (w64 (v8 + (1 : Int)))) else (kx0 x3)
noncomputable def g54_2F (n : Nat) (s : FState) (cx : Cx β) : Option β := FX (g54_G n) n (nav g54_B [1, 1, 0, 1, 0, 0, 0]) (.fin none none none [(0, g54_m3e)] .leaf) s { cx with nrm := fun s => FX (g54_G n) n (nav g54_B [1, 1, 0, 1, 0, 0, 1, 0]) (.fin none none none [(0, g54_m3e)] .leaf) s { cx with nrm := fun s => FX (g54_G n) n (nav g54_B [1, 1, 0, 1, 0, 0, 1, 1, 0]) (.fin none none none [(0, g54_m3e)] .leaf) s { cx with nrm := fun s => FX (g54_G n) n (nav g54_B [1, 1, 0, 1, 0, 0, 1, 1, 1]) (.fin none (some g54_m2e) none [(0, g54_m3e)] .leaf) s cx } } }
theorem g54_2_fx (n : Nat) (cx : Cx β) (x3 x6 : List (Int × ByteArray)) (v7 v8 : Int) : g54_2F n (g54_m2 x3 x6 v7 v8) cx = g54_2 n (fun x3 x6 v7 v8 => cx.nrm (g54_m2 x3 x6 v7 v8)) (fun x3 => cx.ex 0 (g54_m3 x3)) x3 x6 v7 v8 := by kernel_rfl
noncomputable def g54_3L (n : Nat) (kx0 : List (Int × ByteArray) → Option β) : Nat → List (Int × ByteArray) → List (Int × ByteArray) → Int → Int → Option β
  | 0, _, _, _, _ => none
  | m + 1, x3, x6, v7, v8 => g54_2 n (g54_3L n kx0 m) kx0 x3 x6 v7 v8
noncomputable def g54_3 (n : Nat) (kx0 : List (Int × ByteArray) → Option β) (x3 x6 : List (Int × ByteArray)) (v7 v8 : Int) : Option β := g54_3L n kx0 n x3 x6 v7 v8
noncomputable def g54_3F (n : Nat) (s : FState) (cx : Cx β) : Option β := loopN (fun again s => g54_2F n s { cx with nrm := again }) n s
theorem g54_3L_fx (n : Nat) (cx : Cx β) : ∀ (m : Nat) (x3 x6 : List (Int × ByteArray)) (v7 v8 : Int), loopN (fun again s => g54_2F n s { cx with nrm := again }) m (g54_m2 x3 x6 v7 v8) = g54_3L n (fun x3 => cx.ex 0 (g54_m3 x3)) m x3 x6 v7 v8 := by
  intro m
  induction m with
  | zero => intros; rfl
  | succ m ih => intros; simp only [loopN, g54_3L, g54_2_fx, ih]
theorem g54_3_fx (n : Nat) (cx : Cx β) (x3 x6 : List (Int × ByteArray)) (v7 v8 : Int) : g54_3F n (g54_m2 x3 x6 v7 v8) cx = g54_3 n (fun x3 => cx.ex 0 (g54_m3 x3)) x3 x6 v7 v8 := g54_3L_fx n cx n x3 x6 v7 v8
noncomputable def g54_4 (n : Nat) (kn : List (Int × ByteArray) → Option β) (x3 x6 : List (Int × ByteArray)) (v7 v8 : Int) : Option β := g54_3 n kn x3 x6 v7 v8
noncomputable def g54_4F (n : Nat) (s : FState) (cx : Cx β) : Option β := g54_3F n s { cx with ex := fun j s => bif Nat.beq j 0 then cx.nrm s else cx.ex j s }
theorem g54_4_fx (n : Nat) (cx : Cx β) (x3 x6 : List (Int × ByteArray)) (v7 v8 : Int) : g54_4F n (g54_m2 x3 x6 v7 v8) cx = g54_4 n (fun x3 => cx.nrm (g54_m3 x3)) x3 x6 v7 v8 := g54_3_fx n _ x3 x6 v7 v8
noncomputable def g54_5 (n : Nat) (kr : List (Int × ByteArray) → Option β) (x3 : List (Int × ByteArray)) : Option β := kr x3
noncomputable def g54_5F (n : Nat) (s : FState) (cx : Cx β) : Option β := FX (g54_G n) n (nav g54_B [1, 1, 1, 0]) (.fin none none (some g54_m1e) [] .leaf) s { cx with nrm := fun s => FX (g54_G n) n (nav g54_B [1, 1, 1, 1]) (.fin none none (some g54_m1e) [] .leaf) s cx }
theorem g54_5_fx (n : Nat) (cx : Cx β) (x3 : List (Int × ByteArray)) : g54_5F n (g54_m3 x3) cx = g54_5 n (fun x2 => cx.ret (g54_m1 x2)) x3 := by kernel_rfl
noncomputable def g54_6 (n : Nat) (kr : List (Int × ByteArray) → Option β) (x0 : List (Int × ByteArray)) : Option β := g54_1 n (fun x3 x6 v7 v8 => g54_4 n (fun x3 => g54_5 n kr x3) x3 x6 v7 v8) x0
noncomputable def g54_6F (n : Nat) (s : FState) (cx : Cx β) : Option β := g54_1F n s { cx with nrm := fun s => g54_4F n s { cx with nrm := fun s => g54_5F n s cx } }
theorem g54_6_fx (n : Nat) (cx : Cx β) (x0 : List (Int × ByteArray)) : g54_6F n (g54_m0 x0) cx = g54_6 n (fun x2 => cx.ret (g54_m1 x2)) x0 := by simp only [g54_6F, g54_6, g54_1_fx, g54_4_fx, g54_5_fx]
noncomputable def g54 (n : Nat) (x0 : List (Int × ByteArray)) : Option (DenR [.rw (.pair (.int .i64) .str) 45]) := g54_6 n (fun x2 => some (x2, ())) x0
noncomputable def g54_A : List AK := [.ro (.pair (.int .i8) .str) 75]
noncomputable def g54_R : List RK := [.rw (.pair (.int .i64) .str) 45]
noncomputable def g54_f (n : Nat) (d : DenA g54_A) : Option (DenR g54_R) := g54 n d.1
noncomputable def g54_S (n : Nat) : Spec := mkSpec g54_A g54_R (g54_f n)
noncomputable def g54_K : Sk := (.nd (.fin none none none [] .leaf) (.nd (.fin none none none [] .leaf) (.nd (.nd (.fin none (some g54_m2e) none [] .leaf) (.nd (.nd (.nd (.fin none none none [(0, g54_m3e)] .leaf) (.nd (.fin none none none [(0, g54_m3e)] .leaf) (.nd (.fin none none none [(0, g54_m3e)] .leaf) (.fin none (some g54_m2e) none [(0, g54_m3e)] .leaf)))) .leaf) .leaf)) (.nd (.fin none none (some g54_m1e) [] .leaf) (.fin none none (some g54_m1e) [] .leaf)))))
theorem g54_top (n : Nat) (s : FState) (cx : Cx β) : FX (g54_G n) n g54_B g54_K s cx = g54_6F n s cx := by kernel_rfl
theorem g54_fit (n : Nat) : Fit Tryd.prog 54 (g54_S n) :=
  fit_of (Γ := Γ0) (l := g54_C n) (n := n) (sk := g54_K) (ts := [(2, none)]) (fn := Tryd.f54) (c := g54_B) (by kernel_rfl) (by kernel_rfl) (by unfold Callable; kernel_rfl) tab_ok trivial follows_mixed (by kernel_rfl) (by kernel_rfl) (Nat.le_of_ble_eq_true (by kernel_rfl)) (by kernel_rfl) (by kernel_rfl)
    (fun d => (g54_top n _ _).trans (Eq.trans (b := g54_6F n (g54_m0 d.1) (finCx (g54_G n) g54_R [(2, none)])) (by kernel_rfl) ((g54_6_fx n _ d.1).trans (by kernel_rfl))))
theorem g53_idle : Idle Tryd.prog 53 2 := fun vs w hv => by
  obtain ⟨p0, p1, rfl⟩ := arr2 hv
  refine callsD_of_wpS (fn := Tryd.f53) (c := fb Tryd.f53) (by kernel_rfl) (by kernel_rfl) fun c₀ cs hu => ?_
  show Code.wpS Tryd.prog (.seq (nav (fb Tryd.f53) [0]) (.cond (.tmp 3) (nav (fb Tryd.f53) [1, 0]) .skip)) _ _ _ _
  apply wpS_seq
  apply wpS_region
  simp [wpOpsS, go_sem, recoverD, hu, Exit.thenS]
  refine wpS_cond (t := false) (by simp [Act.eval, Array.replicate]) ?_
  simp only [Bool.false_eq_true, if_false]
  refine wpS_of_wp (wp_skip ?_)
  cases c₀
  simp_all [bodyPostS, results]
noncomputable def g38_m0 (x0 : List (Int × ByteArray)) : FState := ⟨tlist [(0, .sl 0 none false)], olist [(0, .row (.pair (.int .i64) .str) 45 false x0)]⟩
noncomputable def g38_m1 (p2 : (List (Int × ByteArray))) (p3 : Int) : FState := ⟨tlist [(2, .ptr 2 0 0), (3, .ptr 3 0 0)], olist [(2, .row (.sl 45 (.pair (.int .i64) .str)) 22 true [p2]), (3, .row (.int .i64) 3 true [p3])]⟩
noncomputable def g38_m1e : List NE := [.ptr 2 (.sl 45 (.pair (.int .i64) .str)) 22 true, .ptr 3 (.int .i64) 3 true]
noncomputable def g38_m2 (x0 : List (Int × ByteArray)) (p2 : (List (Int × ByteArray))) (p3 : Int) : FState := ⟨tlist [(0, .sl 0 none false), (2, .ptr 2 0 0), (3, .ptr 3 0 0)], olist [(0, .row (.pair (.int .i64) .str) 45 false x0), (2, .row (.sl 45 (.pair (.int .i64) .str)) 22 true [p2]), (3, .row (.int .i64) 3 true [p3])]⟩
noncomputable def g38_m2e : List NE := [.row 0 (.pair (.int .i64) .str) 45 false, .ptr 2 (.sl 45 (.pair (.int .i64) .str)) 22 true, .ptr 3 (.int .i64) 3 true]
noncomputable def g38_C (n : Nat) : List (Nat × Spec) := [(27, g27_S n), (29, g29_S n), (54, g54_S n), (55, g55_S n)]
noncomputable def g38_G (n : Nat) : Ctx := { Γ0 with calls := lkS (g38_C n) }
noncomputable def g38_B : Code := fb Tryd.f38
noncomputable def g38_1 (n : Nat) (kn : List (Int × ByteArray) → (List (Int × ByteArray)) → Int → Option β) (x0 : List (Int × ByteArray)) : Option β := kn x0 ([] : List (Int × ByteArray)) (0 : Int)
noncomputable def g38_1F (n : Nat) (s : FState) (cx : Cx β) : Option β := FX (g38_G n) n (nav g38_B [0]) (.fin none (some g38_m2e) none [] .leaf) s cx
theorem g38_1_fx (n : Nat) (cx : Cx β) (x0 : List (Int × ByteArray)) : g38_1F n (g38_m0 x0) cx = g38_1 n (fun x0 p2 p3 => cx.nrm (g38_m2 x0 p2 p3)) x0 := by kernel_rfl
noncomputable def g38_2 (n : Nat) (kr : (List (Int × ByteArray)) → Int → Option β) (x0 : List (Int × ByteArray)) (p2 : (List (Int × ByteArray))) (p3 : Int) : Option β := (g27 n).bind fun r1 => (g29 n x0).bind fun r2 => (g55 n r1.1 r2.1).bind fun r3 => (g54 n r3.1).bind fun r4 => kr r4.1 (0 : Int)
noncomputable def g38_2F (n : Nat) (s : FState) (cx : Cx β) : Option β := FX (g38_G n) n (nav g38_B [1, 1, 0]) (.fin none none (some g38_m1e) [] .leaf) s { cx with nrm := fun s => FX (g38_G n) n (nav g38_B [1, 1, 1]) (.fin none none (some g38_m1e) [] .leaf) s cx }
theorem g38_2_fx (n : Nat) (cx : Cx β) (x0 : List (Int × ByteArray)) (p2 : (List (Int × ByteArray))) (p3 : Int) : g38_2F n (g38_m2 x0 p2 p3) cx = g38_2 n (fun p2 p3 => cx.ret (g38_m1 p2 p3)) x0 p2 p3 := by kernel_rfl
noncomputable def g38 (n : Nat) (x0 : List (Int × ByteArray)) : Option (DenR [.ro (.pair (.int .i64) .str) 45, .dat (.int .i64)]) := g38_1 n (fun x0 p2 p3 => g38_2 n (fun p2 p3 => some (p2, (p3, ()))) x0 p2 p3) x0
noncomputable def g38_A : List AK := [.ro (.pair (.int .i64) .str) 45]
noncomputable def g38_R : List RK := [.ro (.pair (.int .i64) .str) 45, .dat (.int .i64)]
noncomputable def g38_f (n : Nat) (d : DenA g38_A) : Option (DenR g38_R) := g38 n d.1
noncomputable def g38_S (n : Nat) : Spec := mkSpec g38_A g38_R (g38_f n)
noncomputable def g38_K0 : Sk := (.fin none (some g38_m2e) none [] .leaf)
noncomputable def g38_K1 : Sk := (.nd (.fin none none (some g38_m1e) [] .leaf) (.fin none none (some g38_m1e) [] .leaf))
noncomputable def g38_K2 : Sk := (.fin (some g38_m2e) none none [] (.nd (.fin none none (some g38_m1e) [] .leaf) (.fin none none (some g38_m1e) [] .leaf)))
theorem g38_top (n : Nat) (s : FState) (cx : Cx β) : FX (g38_G n) n (nav g38_B [1, 1]) g38_K1 s cx = g38_2F n s cx := by kernel_rfl
theorem g38_mid (n : Nat) (cx : Cx β) (x0 : List (Int × ByteArray)) (p2 : (List (Int × ByteArray))) (p3 : Int) : FX (g38_G n) n (nav g38_B [1, 1]) g38_K2 (FState.set (g38_m2 x0 p2 p3) 4 .dead) cx = g38_2 n (fun p2 p3 => cx.ret (g38_m1 p2 p3)) x0 p2 p3 :=
  Eq.trans (b := FX (g38_G n) n (nav g38_B [1, 1]) g38_K1 (g38_m2 x0 p2 p3) cx) (by kernel_rfl) ((g38_top n _ _).trans (g38_2_fx n cx x0 p2 p3))
theorem g38_fit (n : Nat) : Fit Tryd.prog 38 (g38_S n) :=
  fit_of_wrap (Γ := Γ0) (l := g38_C n) (n := n) (sk0 := g38_K0) (sk1 := g38_K2) (ts := [(2, some 22), (3, some 3)]) (fn := Tryd.f38) (c := g38_B) (c0 := nav g38_B [0]) (c1 := nav g38_B [1, 1]) (tm := 4) (g := 53) (k := 2) (by kernel_rfl) (by kernel_rfl) (by kernel_rfl) (by unfold Callable; kernel_rfl) tab_ok ⟨g27_fit n, g29_fit n, g54_fit n, g55_fit n, trivial⟩ follows_mixed (by unfold Callable; kernel_rfl) g53_idle (by kernel_rfl) (by kernel_rfl) (by kernel_rfl) (Nat.le_of_ble_eq_true (by kernel_rfl)) (Nat.le_of_ble_eq_true (by kernel_rfl)) (by kernel_rfl) (by kernel_rfl)
    (fun d => Eq.trans (b := g38_1F n (g38_m0 d.1) ⟨fun s => FX (g38_G n) n (nav g38_B [1, 1]) g38_K2 (FState.set s 4 .dead) (finCx (g38_G n) g38_R [(2, some 22), (3, some 3)]), fun _ => none, fun _ _ => none⟩) (by kernel_rfl) ((g38_1_fx n _ d.1).trans (Eq.trans (b := g38_1 n (fun x0 p2 p3 => g38_2 n (fun p2 p3 => (finCx (g38_G n) g38_R [(2, some 22), (3, some 3)]).ret (g38_m1 p2 p3)) x0 p2 p3) d.1) (congrArg (fun k_ => g38_1 n k_ d.1) (funext fun x0 => (funext fun p2 => (funext fun p3 => g38_mid n (finCx (g38_G n) g38_R [(2, some 22), (3, some 3)]) x0 p2 p3)))) (by kernel_rfl))))
noncomputable def g39_m0 (x0 : List (Int × ByteArray)) (v1 : Int) : FState := ⟨tlist [(0, .sl 0 none false), (1, .dat (.int .i64) v1)], olist [(0, .row (.pair (.int .i64) .str) 45 false x0)]⟩
noncomputable def g39_m1 (x4 : List (Int × ByteArray)) : FState := ⟨tlist [(4, .sl 4 none false)], olist [(4, .row (.pair (.int .i64) .str) 45 false x4)]⟩
noncomputable def g39_m1e : List NE := [.row 4 (.pair (.int .i64) .str) 45 false]
noncomputable def g39_C (n : Nat) : List (Nat × Spec) := []
noncomputable def g39_G (n : Nat) : Ctx := { Γ0 with calls := lkS (g39_C n) }
noncomputable def g39_B : Code := fb Tryd.f39
noncomputable def g39_1 (n : Nat) (kr : List (Int × ByteArray) → Option β) (x0 : List (Int × ByteArray)) (v1 : Int) : Option β := bif (v1 != (0 : Int)) then (kr [((1 : Int), (⟨#[0, 102, 97, 117, 108, 116]⟩ : ByteArray)), ((1 : Int), (⟨#[]⟩ : ByteArray))]) else (kr x0)
noncomputable def g39_1F (n : Nat) (s : FState) (cx : Cx β) : Option β := FX (g39_G n) n (nav g39_B [0]) (.fin none none (some g39_m1e) [] .leaf) s { cx with nrm := fun s => FX (g39_G n) n (nav g39_B [1, 0, 0]) (.fin none none (some g39_m1e) [] .leaf) s { cx with nrm := fun s => FX (g39_G n) n (nav g39_B [1, 0, 1]) (.fin none none (some g39_m1e) [] .leaf) s { cx with nrm := fun s => FX (g39_G n) n (nav g39_B [1, 1, 0]) (.fin none none (some g39_m1e) [] .leaf) s { cx with nrm := fun s => FX (g39_G n) n (nav g39_B [1, 1, 1]) (.fin none none (some g39_m1e) [] .leaf) s cx } } } }
theorem g39_1_fx (n : Nat) (cx : Cx β) (x0 : List (Int × ByteArray)) (v1 : Int) : g39_1F n (g39_m0 x0 v1) cx = g39_1 n (fun x4 => cx.ret (g39_m1 x4)) x0 v1 := by kernel_rfl
noncomputable def g39 (n : Nat) (x0 : List (Int × ByteArray)) (v1 : Int) : Option (DenR [.ro (.pair (.int .i64) .str) 45]) := g39_1 n (fun x4 => some (x4, ())) x0 v1
noncomputable def g39_A : List AK := [.ro (.pair (.int .i64) .str) 45, .dat (.int .i64)]
noncomputable def g39_R : List RK := [.ro (.pair (.int .i64) .str) 45]
noncomputable def g39_f (n : Nat) (d : DenA g39_A) : Option (DenR g39_R) := g39 n d.1 d.2.1
noncomputable def g39_S (n : Nat) : Spec := mkSpec g39_A g39_R (g39_f n)
noncomputable def g39_K : Sk := (.nd (.fin none none (some g39_m1e) [] .leaf) (.nd (.nd (.fin none none (some g39_m1e) [] .leaf) (.fin none none (some g39_m1e) [] .leaf)) (.nd (.fin none none (some g39_m1e) [] .leaf) (.fin none none (some g39_m1e) [] .leaf))))
theorem g39_top (n : Nat) (s : FState) (cx : Cx β) : FX (g39_G n) n g39_B g39_K s cx = g39_1F n s cx := by kernel_rfl
theorem g39_fit (n : Nat) : Fit Tryd.prog 39 (g39_S n) :=
  fit_of (Γ := Γ0) (l := g39_C n) (n := n) (sk := g39_K) (ts := [(4, none)]) (fn := Tryd.f39) (c := g39_B) (by kernel_rfl) (by kernel_rfl) (by unfold Callable; kernel_rfl) tab_ok trivial follows_mixed (by kernel_rfl) (by kernel_rfl) (Nat.le_of_ble_eq_true (by kernel_rfl)) (by kernel_rfl) (by kernel_rfl)
    (fun d => (g39_top n _ _).trans (Eq.trans (b := g39_1F n (g39_m0 d.1 d.2.1) (finCx (g39_G n) g39_R [(4, none)])) (by kernel_rfl) ((g39_1_fx n _ d.1 d.2.1).trans (by kernel_rfl))))
noncomputable def g23_m0 (x0 : List (Int × ByteArray)) : FState := ⟨tlist [(0, .sl 0 none false)], olist [(0, .row (.pair (.int .i64) .str) 45 false x0)]⟩
noncomputable def g23_m1 (x2 : List (Int × ByteArray)) : FState := ⟨tlist [(2, .sl 2 none false)], olist [(2, .row (.pair (.int .i64) .str) 45 false x2)]⟩
noncomputable def g23_m1e : List NE := [.row 2 (.pair (.int .i64) .str) 45 false]
noncomputable def g23_C (n : Nat) : List (Nat × Spec) := [(38, g38_S n), (39, g39_S n)]
noncomputable def g23_G (n : Nat) : Ctx := { Γ0 with calls := lkS (g23_C n) }
noncomputable def g23_B : Code := fb Tryd.f23
noncomputable def g23_1 (n : Nat) (kr : List (Int × ByteArray) → Option β) (x0 : List (Int × ByteArray)) : Option β := (g38 n x0).bind fun r1 => (g39 n r1.1 r1.2.1).bind fun r2 => kr r2.1
noncomputable def g23_1F (n : Nat) (s : FState) (cx : Cx β) : Option β := FX (g23_G n) n (nav g23_B [0]) (.fin none none (some g23_m1e) [] .leaf) s { cx with nrm := fun s => FX (g23_G n) n (nav g23_B [1, 0]) (.fin none none (some g23_m1e) [] .leaf) s { cx with nrm := fun s => FX (g23_G n) n (nav g23_B [1, 1, 0]) (.fin none none (some g23_m1e) [] .leaf) s { cx with nrm := fun s => FX (g23_G n) n (nav g23_B [1, 1, 1]) (.fin none none (some g23_m1e) [] .leaf) s cx } } }
theorem g23_1_fx (n : Nat) (cx : Cx β) (x0 : List (Int × ByteArray)) : g23_1F n (g23_m0 x0) cx = g23_1 n (fun x2 => cx.ret (g23_m1 x2)) x0 := by kernel_rfl
noncomputable def g23 (n : Nat) (x0 : List (Int × ByteArray)) : Option (DenR [.ro (.pair (.int .i64) .str) 45]) := g23_1 n (fun x2 => some (x2, ())) x0
noncomputable def g23_A : List AK := [.ro (.pair (.int .i64) .str) 45]
noncomputable def g23_R : List RK := [.ro (.pair (.int .i64) .str) 45]
noncomputable def g23_f (n : Nat) (d : DenA g23_A) : Option (DenR g23_R) := g23 n d.1
noncomputable def g23_S (n : Nat) : Spec := mkSpec g23_A g23_R (g23_f n)
noncomputable def g23_K : Sk := (.nd (.fin none none (some g23_m1e) [] .leaf) (.nd (.fin none none (some g23_m1e) [] .leaf) (.nd (.fin none none (some g23_m1e) [] .leaf) (.fin none none (some g23_m1e) [] .leaf))))
theorem g23_top (n : Nat) (s : FState) (cx : Cx β) : FX (g23_G n) n g23_B g23_K s cx = g23_1F n s cx := by kernel_rfl
theorem g23_fit (n : Nat) : Fit Tryd.prog 23 (g23_S n) :=
  fit_of (Γ := Γ0) (l := g23_C n) (n := n) (sk := g23_K) (ts := [(2, none)]) (fn := Tryd.f23) (c := g23_B) (by kernel_rfl) (by kernel_rfl) (by unfold Callable; kernel_rfl) tab_ok ⟨g38_fit n, g39_fit n, trivial⟩ follows_mixed (by kernel_rfl) (by kernel_rfl) (Nat.le_of_ble_eq_true (by kernel_rfl)) (by kernel_rfl) (by kernel_rfl)
    (fun d => (g23_top n _ _).trans (Eq.trans (b := g23_1F n (g23_m0 d.1) (finCx (g23_G n) g23_R [(2, none)])) (by kernel_rfl) ((g23_1_fx n _ d.1).trans (by kernel_rfl))))
noncomputable def g40_m0 (x0 : List (Int × ByteArray)) : FState := ⟨tlist [(0, .sl 0 none false)], olist [(0, .row (.pair (.int .i64) .str) 45 false x0)]⟩
noncomputable def g40_m1 (v2 : ByteArray) : FState := ⟨tlist [(2, .dat .str v2)], olist []⟩
noncomputable def g40_m1e : List NE := [.keep 2]
noncomputable def g40_m2 (v3 : ByteArray) (x6 : List (Int × ByteArray)) (v7 v8 : Int) : FState := ⟨tlist [(3, .dat .str v3), (6, .sl 6 none false), (7, .dat (.int .i64) v7), (8, .dat (.int .i64) v8)], olist [(6, .row (.pair (.int .i64) .str) 45 false x6)]⟩
noncomputable def g40_m2e : List NE := [.keep 3, .row 6 (.pair (.int .i64) .str) 45 false, .keep 7, .keep 8]
noncomputable def g40_m3 (v3 : ByteArray) : FState := ⟨tlist [(3, .dat .str v3)], olist []⟩
noncomputable def g40_m3e : List NE := [.keep 3]
noncomputable def g40_C (n : Nat) : List (Nat × Spec) := []
noncomputable def g40_G (n : Nat) : Ctx := { Γ0 with calls := lkS (g40_C n) }
noncomputable def g40_B : Code := fb Tryd.f40
noncomputable def g40_1 (n : Nat) (kn : ByteArray → List (Int × ByteArray) → Int → Int → Option β) (x0 : List (Int × ByteArray)) : Option β := kn (⟨#[]⟩ : ByteArray) x0 (x0.length : Int) (0 : Int)
noncomputable def g40_1F (n : Nat) (s : FState) (cx : Cx β) : Option β := FX (g40_G n) n (nav g40_B [0]) (.fin none none none [] .leaf) s { cx with nrm := fun s => FX (g40_G n) n (nav g40_B [1, 0]) (.fin none none none [] .leaf) s { cx with nrm := fun s => FX (g40_G n) n (nav g40_B [1, 1, 0, 0]) (.fin none (some g40_m2e) none [] .leaf) s cx } }
theorem g40_1_fx (n : Nat) (cx : Cx β) (x0 : List (Int × ByteArray)) : g40_1F n (g40_m0 x0) cx = g40_1 n (fun v3 x6 v7 v8 => cx.nrm (g40_m2 v3 x6 v7 v8)) x0 := by kernel_rfl
noncomputable def g40_2 (n : Nat) (kn : ByteArray → List (Int × ByteArray) → Int → Int → Option β) (kx0 : ByteArray → Option β) (v3 : ByteArray) (x6 : List (Int × ByteArray)) (v7 v8 : Int) : Option β := bif (decide (v8 < v7)) then (idx v8 (x6.length : Int) <| bif ((rd [(rd x6 v8 ((0 : Int), (⟨#[]⟩ : ByteArray)))] (0 : Int) ((0 : Int), (⟨#[]⟩ : ByteArray))).1 != (1 : Int)) then (roomy (v3.size + ((rd [(rd x6 v8 ((0 : Int), (⟨#[]⟩ : ByteArray)))] (0 : Int) ((0 : Int), (⟨#[]⟩ : ByteArray))).2).size) <| kn (v3 ++ (rd [(rd x6 v8 ((0 : Int), (⟨#[]⟩ : ByteArray)))] (0 : Int) ((0 : Int), (⟨#[]⟩ : ByteArray))).2) x6 v7 (w64 (v8 + (1 : Int)))) else (kn v3 x6 v7 (w64 (v8 + (1 : Int))))) else (kx0 v3)
noncomputable def g40_2F (n : Nat) (s : FState) (cx : Cx β) : Option β := FX (g40_G n) n (nav g40_B [1, 1, 0, 1, 0, 0, 0]) (.fin none none none [(0, g40_m3e)] .leaf) s { cx with nrm := fun s => FX (g40_G n) n (nav g40_B [1, 1, 0, 1, 0, 0, 1, 0]) (.fin none none none [(0, g40_m3e)] .leaf) s { cx with nrm := fun s => FX (g40_G n) n (nav g40_B [1, 1, 0, 1, 0, 0, 1, 1, 0]) (.fin none none none [(0, g40_m3e)] .leaf) s { cx with nrm := fun s => FX (g40_G n) n (nav g40_B [1, 1, 0, 1, 0, 0, 1, 1, 1]) (.fin none (some g40_m2e) none [(0, g40_m3e)] .leaf) s cx } } }
theorem g40_2_fx (n : Nat) (cx : Cx β) (v3 : ByteArray) (x6 : List (Int × ByteArray)) (v7 v8 : Int) : g40_2F n (g40_m2 v3 x6 v7 v8) cx = g40_2 n (fun v3 x6 v7 v8 => cx.nrm (g40_m2 v3 x6 v7 v8)) (fun v3 => cx.ex 0 (g40_m3 v3)) v3 x6 v7 v8 := by kernel_rfl
noncomputable def g40_3L (n : Nat) (kx0 : ByteArray → Option β) : Nat → ByteArray → List (Int × ByteArray) → Int → Int → Option β
  | 0, _, _, _, _ => none
  | m + 1, v3, x6, v7, v8 => g40_2 n (g40_3L n kx0 m) kx0 v3 x6 v7 v8
noncomputable def g40_3 (n : Nat) (kx0 : ByteArray → Option β) (v3 : ByteArray) (x6 : List (Int × ByteArray)) (v7 v8 : Int) : Option β := g40_3L n kx0 n v3 x6 v7 v8
noncomputable def g40_3F (n : Nat) (s : FState) (cx : Cx β) : Option β := loopN (fun again s => g40_2F n s { cx with nrm := again }) n s
theorem g40_3L_fx (n : Nat) (cx : Cx β) : ∀ (m : Nat) (v3 : ByteArray) (x6 : List (Int × ByteArray)) (v7 v8 : Int), loopN (fun again s => g40_2F n s { cx with nrm := again }) m (g40_m2 v3 x6 v7 v8) = g40_3L n (fun v3 => cx.ex 0 (g40_m3 v3)) m v3 x6 v7 v8 := by
  intro m
  induction m with
  | zero => intros; rfl
  | succ m ih => intros; simp only [loopN, g40_3L, g40_2_fx, ih]
theorem g40_3_fx (n : Nat) (cx : Cx β) (v3 : ByteArray) (x6 : List (Int × ByteArray)) (v7 v8 : Int) : g40_3F n (g40_m2 v3 x6 v7 v8) cx = g40_3 n (fun v3 => cx.ex 0 (g40_m3 v3)) v3 x6 v7 v8 := g40_3L_fx n cx n v3 x6 v7 v8
noncomputable def g40_4 (n : Nat) (kn : ByteArray → Option β) (v3 : ByteArray) (x6 : List (Int × ByteArray)) (v7 v8 : Int) : Option β := g40_3 n kn v3 x6 v7 v8
noncomputable def g40_4F (n : Nat) (s : FState) (cx : Cx β) : Option β := g40_3F n s { cx with ex := fun j s => bif Nat.beq j 0 then cx.nrm s else cx.ex j s }
theorem g40_4_fx (n : Nat) (cx : Cx β) (v3 : ByteArray) (x6 : List (Int × ByteArray)) (v7 v8 : Int) : g40_4F n (g40_m2 v3 x6 v7 v8) cx = g40_4 n (fun v3 => cx.nrm (g40_m3 v3)) v3 x6 v7 v8 := g40_3_fx n _ v3 x6 v7 v8
noncomputable def g40_5 (n : Nat) (kr : ByteArray → Option β) (v3 : ByteArray) : Option β := kr v3
noncomputable def g40_5F (n : Nat) (s : FState) (cx : Cx β) : Option β := FX (g40_G n) n (nav g40_B [1, 1, 1, 0]) (.fin none none (some g40_m1e) [] .leaf) s { cx with nrm := fun s => FX (g40_G n) n (nav g40_B [1, 1, 1, 1]) (.fin none none (some g40_m1e) [] .leaf) s cx }
theorem g40_5_fx (n : Nat) (cx : Cx β) (v3 : ByteArray) : g40_5F n (g40_m3 v3) cx = g40_5 n (fun v2 => cx.ret (g40_m1 v2)) v3 := by kernel_rfl
noncomputable def g40_6 (n : Nat) (kr : ByteArray → Option β) (x0 : List (Int × ByteArray)) : Option β := g40_1 n (fun v3 x6 v7 v8 => g40_4 n (fun v3 => g40_5 n kr v3) v3 x6 v7 v8) x0
noncomputable def g40_6F (n : Nat) (s : FState) (cx : Cx β) : Option β := g40_1F n s { cx with nrm := fun s => g40_4F n s { cx with nrm := fun s => g40_5F n s cx } }
theorem g40_6_fx (n : Nat) (cx : Cx β) (x0 : List (Int × ByteArray)) : g40_6F n (g40_m0 x0) cx = g40_6 n (fun v2 => cx.ret (g40_m1 v2)) x0 := by simp only [g40_6F, g40_6, g40_1_fx, g40_4_fx, g40_5_fx]
noncomputable def g40 (n : Nat) (x0 : List (Int × ByteArray)) : Option (DenR [.dat .str]) := g40_6 n (fun v2 => some (v2, ())) x0
noncomputable def g40_A : List AK := [.ro (.pair (.int .i64) .str) 45]
noncomputable def g40_R : List RK := [.dat .str]
noncomputable def g40_f (n : Nat) (d : DenA g40_A) : Option (DenR g40_R) := g40 n d.1
noncomputable def g40_S (n : Nat) : Spec := mkSpec g40_A g40_R (g40_f n)
noncomputable def g40_K : Sk := (.nd (.fin none none none [] .leaf) (.nd (.fin none none none [] .leaf) (.nd (.nd (.fin none (some g40_m2e) none [] .leaf) (.nd (.nd (.nd (.fin none none none [(0, g40_m3e)] .leaf) (.nd (.fin none none none [(0, g40_m3e)] .leaf) (.nd (.fin none none none [(0, g40_m3e)] .leaf) (.fin none (some g40_m2e) none [(0, g40_m3e)] .leaf)))) .leaf) .leaf)) (.nd (.fin none none (some g40_m1e) [] .leaf) (.fin none none (some g40_m1e) [] .leaf)))))
theorem g40_top (n : Nat) (s : FState) (cx : Cx β) : FX (g40_G n) n g40_B g40_K s cx = g40_6F n s cx := by kernel_rfl
theorem g40_fit (n : Nat) : Fit Tryd.prog 40 (g40_S n) :=
  fit_of (Γ := Γ0) (l := g40_C n) (n := n) (sk := g40_K) (ts := [(2, none)]) (fn := Tryd.f40) (c := g40_B) (by kernel_rfl) (by kernel_rfl) (by unfold Callable; kernel_rfl) tab_ok trivial follows_mixed (by kernel_rfl) (by kernel_rfl) (Nat.le_of_ble_eq_true (by kernel_rfl)) (by kernel_rfl) (by kernel_rfl)
    (fun d => (g40_top n _ _).trans (Eq.trans (b := g40_6F n (g40_m0 d.1) (finCx (g40_G n) g40_R [(2, none)])) (by kernel_rfl) ((g40_6_fx n _ d.1).trans (by kernel_rfl))))
noncomputable def g41_m0 (x0 : List (Int × ByteArray)) : FState := ⟨tlist [(0, .sl 0 none false)], olist [(0, .row (.pair (.int .i64) .str) 45 false x0)]⟩
noncomputable def g41_m1 (v2 : ByteArray) : FState := ⟨tlist [(2, .dat .str v2)], olist []⟩
noncomputable def g41_m1e : List NE := [.keep 2]
noncomputable def g41_m2 (v3 : ByteArray) (x6 : List (Int × ByteArray)) (v7 v8 : Int) : FState := ⟨tlist [(3, .dat .str v3), (6, .sl 6 none false), (7, .dat (.int .i64) v7), (8, .dat (.int .i64) v8)], olist [(6, .row (.pair (.int .i64) .str) 45 false x6)]⟩
noncomputable def g41_m2e : List NE := [.keep 3, .row 6 (.pair (.int .i64) .str) 45 false, .keep 7, .keep 8]
noncomputable def g41_m3 (v3 : ByteArray) : FState := ⟨tlist [(3, .dat .str v3)], olist []⟩
noncomputable def g41_m3e : List NE := [.keep 3]
noncomputable def g41_C (n : Nat) : List (Nat × Spec) := []
noncomputable def g41_G (n : Nat) : Ctx := { Γ0 with calls := lkS (g41_C n) }
noncomputable def g41_B : Code := fb Tryd.f41
noncomputable def g41_1 (n : Nat) (kn : ByteArray → List (Int × ByteArray) → Int → Int → Option β) (x0 : List (Int × ByteArray)) : Option β := kn (⟨#[]⟩ : ByteArray) x0 (x0.length : Int) (0 : Int)
noncomputable def g41_1F (n : Nat) (s : FState) (cx : Cx β) : Option β := FX (g41_G n) n (nav g41_B [0]) (.fin none none none [] .leaf) s { cx with nrm := fun s => FX (g41_G n) n (nav g41_B [1, 0]) (.fin none none none [] .leaf) s { cx with nrm := fun s => FX (g41_G n) n (nav g41_B [1, 1, 0, 0]) (.fin none (some g41_m2e) none [] .leaf) s cx } }
theorem g41_1_fx (n : Nat) (cx : Cx β) (x0 : List (Int × ByteArray)) : g41_1F n (g41_m0 x0) cx = g41_1 n (fun v3 x6 v7 v8 => cx.nrm (g41_m2 v3 x6 v7 v8)) x0 := by kernel_rfl
noncomputable def g41_2 (n : Nat) (kn : ByteArray → List (Int × ByteArray) → Int → Int → Option β) (kx0 : ByteArray → Option β) (v3 : ByteArray) (x6 : List (Int × ByteArray)) (v7 v8 : Int) : Option β := bif (decide (v8 < v7)) then (idx v8 (x6.length : Int) <| bif ((rd [(rd x6 v8 ((0 : Int), (⟨#[]⟩ : ByteArray)))] (0 : Int) ((0 : Int), (⟨#[]⟩ : ByteArray))).1 != (-1 : Int)) then (roomy (v3.size + ((rd [(rd x6 v8 ((0 : Int), (⟨#[]⟩ : ByteArray)))] (0 : Int) ((0 : Int), (⟨#[]⟩ : ByteArray))).2).size) <| kn (v3 ++ (rd [(rd x6 v8 ((0 : Int), (⟨#[]⟩ : ByteArray)))] (0 : Int) ((0 : Int), (⟨#[]⟩ : ByteArray))).2) x6 v7 (w64 (v8 + (1 : Int)))) else (kn v3 x6 v7 (w64 (v8 + (1 : Int))))) else (kx0 v3)
noncomputable def g41_2F (n : Nat) (s : FState) (cx : Cx β) : Option β := FX (g41_G n) n (nav g41_B [1, 1, 0, 1, 0, 0, 0]) (.fin none none none [(0, g41_m3e)] .leaf) s { cx with nrm := fun s => FX (g41_G n) n (nav g41_B [1, 1, 0, 1, 0, 0, 1, 0]) (.fin none none none [(0, g41_m3e)] .leaf) s { cx with nrm := fun s => FX (g41_G n) n (nav g41_B [1, 1, 0, 1, 0, 0, 1, 1, 0]) (.fin none none none [(0, g41_m3e)] .leaf) s { cx with nrm := fun s => FX (g41_G n) n (nav g41_B [1, 1, 0, 1, 0, 0, 1, 1, 1]) (.fin none (some g41_m2e) none [(0, g41_m3e)] .leaf) s cx } } }
theorem g41_2_fx (n : Nat) (cx : Cx β) (v3 : ByteArray) (x6 : List (Int × ByteArray)) (v7 v8 : Int) : g41_2F n (g41_m2 v3 x6 v7 v8) cx = g41_2 n (fun v3 x6 v7 v8 => cx.nrm (g41_m2 v3 x6 v7 v8)) (fun v3 => cx.ex 0 (g41_m3 v3)) v3 x6 v7 v8 := by kernel_rfl
noncomputable def g41_3L (n : Nat) (kx0 : ByteArray → Option β) : Nat → ByteArray → List (Int × ByteArray) → Int → Int → Option β
  | 0, _, _, _, _ => none
  | m + 1, v3, x6, v7, v8 => g41_2 n (g41_3L n kx0 m) kx0 v3 x6 v7 v8
noncomputable def g41_3 (n : Nat) (kx0 : ByteArray → Option β) (v3 : ByteArray) (x6 : List (Int × ByteArray)) (v7 v8 : Int) : Option β := g41_3L n kx0 n v3 x6 v7 v8
noncomputable def g41_3F (n : Nat) (s : FState) (cx : Cx β) : Option β := loopN (fun again s => g41_2F n s { cx with nrm := again }) n s
theorem g41_3L_fx (n : Nat) (cx : Cx β) : ∀ (m : Nat) (v3 : ByteArray) (x6 : List (Int × ByteArray)) (v7 v8 : Int), loopN (fun again s => g41_2F n s { cx with nrm := again }) m (g41_m2 v3 x6 v7 v8) = g41_3L n (fun v3 => cx.ex 0 (g41_m3 v3)) m v3 x6 v7 v8 := by
  intro m
  induction m with
  | zero => intros; rfl
  | succ m ih => intros; simp only [loopN, g41_3L, g41_2_fx, ih]
theorem g41_3_fx (n : Nat) (cx : Cx β) (v3 : ByteArray) (x6 : List (Int × ByteArray)) (v7 v8 : Int) : g41_3F n (g41_m2 v3 x6 v7 v8) cx = g41_3 n (fun v3 => cx.ex 0 (g41_m3 v3)) v3 x6 v7 v8 := g41_3L_fx n cx n v3 x6 v7 v8
noncomputable def g41_4 (n : Nat) (kn : ByteArray → Option β) (v3 : ByteArray) (x6 : List (Int × ByteArray)) (v7 v8 : Int) : Option β := g41_3 n kn v3 x6 v7 v8
noncomputable def g41_4F (n : Nat) (s : FState) (cx : Cx β) : Option β := g41_3F n s { cx with ex := fun j s => bif Nat.beq j 0 then cx.nrm s else cx.ex j s }
theorem g41_4_fx (n : Nat) (cx : Cx β) (v3 : ByteArray) (x6 : List (Int × ByteArray)) (v7 v8 : Int) : g41_4F n (g41_m2 v3 x6 v7 v8) cx = g41_4 n (fun v3 => cx.nrm (g41_m3 v3)) v3 x6 v7 v8 := g41_3_fx n _ v3 x6 v7 v8
noncomputable def g41_5 (n : Nat) (kr : ByteArray → Option β) (v3 : ByteArray) : Option β := kr v3
noncomputable def g41_5F (n : Nat) (s : FState) (cx : Cx β) : Option β := FX (g41_G n) n (nav g41_B [1, 1, 1, 0]) (.fin none none (some g41_m1e) [] .leaf) s { cx with nrm := fun s => FX (g41_G n) n (nav g41_B [1, 1, 1, 1]) (.fin none none (some g41_m1e) [] .leaf) s cx }
theorem g41_5_fx (n : Nat) (cx : Cx β) (v3 : ByteArray) : g41_5F n (g41_m3 v3) cx = g41_5 n (fun v2 => cx.ret (g41_m1 v2)) v3 := by kernel_rfl
noncomputable def g41_6 (n : Nat) (kr : ByteArray → Option β) (x0 : List (Int × ByteArray)) : Option β := g41_1 n (fun v3 x6 v7 v8 => g41_4 n (fun v3 => g41_5 n kr v3) v3 x6 v7 v8) x0
noncomputable def g41_6F (n : Nat) (s : FState) (cx : Cx β) : Option β := g41_1F n s { cx with nrm := fun s => g41_4F n s { cx with nrm := fun s => g41_5F n s cx } }
theorem g41_6_fx (n : Nat) (cx : Cx β) (x0 : List (Int × ByteArray)) : g41_6F n (g41_m0 x0) cx = g41_6 n (fun v2 => cx.ret (g41_m1 v2)) x0 := by simp only [g41_6F, g41_6, g41_1_fx, g41_4_fx, g41_5_fx]
noncomputable def g41 (n : Nat) (x0 : List (Int × ByteArray)) : Option (DenR [.dat .str]) := g41_6 n (fun v2 => some (v2, ())) x0
noncomputable def g41_A : List AK := [.ro (.pair (.int .i64) .str) 45]
noncomputable def g41_R : List RK := [.dat .str]
noncomputable def g41_f (n : Nat) (d : DenA g41_A) : Option (DenR g41_R) := g41 n d.1
noncomputable def g41_S (n : Nat) : Spec := mkSpec g41_A g41_R (g41_f n)
noncomputable def g41_K : Sk := (.nd (.fin none none none [] .leaf) (.nd (.fin none none none [] .leaf) (.nd (.nd (.fin none (some g41_m2e) none [] .leaf) (.nd (.nd (.nd (.fin none none none [(0, g41_m3e)] .leaf) (.nd (.fin none none none [(0, g41_m3e)] .leaf) (.nd (.fin none none none [(0, g41_m3e)] .leaf) (.fin none (some g41_m2e) none [(0, g41_m3e)] .leaf)))) .leaf) .leaf)) (.nd (.fin none none (some g41_m1e) [] .leaf) (.fin none none (some g41_m1e) [] .leaf)))))
theorem g41_top (n : Nat) (s : FState) (cx : Cx β) : FX (g41_G n) n g41_B g41_K s cx = g41_6F n s cx := by kernel_rfl
theorem g41_fit (n : Nat) : Fit Tryd.prog 41 (g41_S n) :=
  fit_of (Γ := Γ0) (l := g41_C n) (n := n) (sk := g41_K) (ts := [(2, none)]) (fn := Tryd.f41) (c := g41_B) (by kernel_rfl) (by kernel_rfl) (by unfold Callable; kernel_rfl) tab_ok trivial follows_mixed (by kernel_rfl) (by kernel_rfl) (Nat.le_of_ble_eq_true (by kernel_rfl)) (by kernel_rfl) (by kernel_rfl)
    (fun d => (g41_top n _ _).trans (Eq.trans (b := g41_6F n (g41_m0 d.1) (finCx (g41_G n) g41_R [(2, none)])) (by kernel_rfl) ((g41_6_fx n _ d.1).trans (by kernel_rfl))))
noncomputable def g25_m0 (x0 x1 : List (Int × ByteArray)) : FState := ⟨tlist [(0, .sl 0 none false), (1, .sl 1 none false)], olist [(0, .row (.pair (.int .i64) .str) 45 false x0), (1, .row (.pair (.int .i64) .str) 45 false x1)]⟩
noncomputable def g25_m1 (v4 : Bool) : FState := ⟨tlist [(4, .dat .bool v4)], olist []⟩
noncomputable def g25_m1e : List NE := [.keep 4]
noncomputable def g25_C (n : Nat) : List (Nat × Spec) := [(40, g40_S n), (41, g41_S n)]
noncomputable def g25_G (n : Nat) : Ctx := { Γ0 with calls := lkS (g25_C n) }
noncomputable def g25_B : Code := fb Tryd.f25
noncomputable def g25_1 (n : Nat) (kr : Bool → Option β) (x0 x1 : List (Int × ByteArray)) : Option β := (g40 n x1).bind fun r1 => (g41 n x1).bind fun r2 => (g40 n x0).bind fun r3 => bif (strEq r3.1 r1.1) then ((g41 n x0).bind fun r4 => bif (strEq r4.1 r2.1) then (bif (decide ((x0.length : Int) > (0 : Int))) then (kr true) else (roomy (r1.1.size + r2.1.size) <| kr (strEq (r1.1 ++ r2.1) (⟨#[]⟩ : ByteArray)))) else (kr false)) else (kr false)
noncomputable def g25_1F (n : Nat) (s : FState) (cx : Cx β) : Option β := FX (g25_G n) n (nav g25_B [0]) (.fin none none (some g25_m1e) [] .leaf) s { cx with nrm := fun s => FX (g25_G n) n (nav g25_B [1, 0]) (.fin none none (some g25_m1e) [] .leaf) s { cx with nrm := fun s => FX (g25_G n) n (nav g25_B [1, 1, 0]) (.fin none none (some g25_m1e) [] .leaf) s { cx with nrm := fun s => FX (g25_G n) n (nav g25_B [1, 1, 1]) (.fin none none (some g25_m1e) [] .leaf) s cx } } }
theorem g25_1_fx (n : Nat) (cx : Cx β) (x0 x1 : List (Int × ByteArray)) : g25_1F n (g25_m0 x0 x1) cx = g25_1 n (fun v4 => cx.ret (g25_m1 v4)) x0 x1 := by kernel_rfl
noncomputable def g25 (n : Nat) (x0 x1 : List (Int × ByteArray)) : Option (DenR [.dat .bool]) := g25_1 n (fun v4 => some (v4, ())) x0 x1
noncomputable def g25_A : List AK := [.ro (.pair (.int .i64) .str) 45, .ro (.pair (.int .i64) .str) 45]
noncomputable def g25_R : List RK := [.dat .bool]
noncomputable def g25_f (n : Nat) (d : DenA g25_A) : Option (DenR g25_R) := g25 n d.1 d.2.1
noncomputable def g25_S (n : Nat) : Spec := mkSpec g25_A g25_R (g25_f n)
noncomputable def g25_K : Sk := (.nd (.fin none none (some g25_m1e) [] .leaf) (.nd (.fin none none (some g25_m1e) [] .leaf) (.nd (.fin none none (some g25_m1e) [] .leaf) (.fin none none (some g25_m1e) [] .leaf))))
theorem g25_top (n : Nat) (s : FState) (cx : Cx β) : FX (g25_G n) n g25_B g25_K s cx = g25_1F n s cx := by kernel_rfl
theorem g25_fit (n : Nat) : Fit Tryd.prog 25 (g25_S n) :=
  fit_of (Γ := Γ0) (l := g25_C n) (n := n) (sk := g25_K) (ts := [(4, none)]) (fn := Tryd.f25) (c := g25_B) (by kernel_rfl) (by kernel_rfl) (by unfold Callable; kernel_rfl) tab_ok ⟨g40_fit n, g41_fit n, trivial⟩ follows_mixed (by kernel_rfl) (by kernel_rfl) (Nat.le_of_ble_eq_true (by kernel_rfl)) (by kernel_rfl) (by kernel_rfl)
    (fun d => (g25_top n _ _).trans (Eq.trans (b := g25_1F n (g25_m0 d.1 d.2.1) (finCx (g25_G n) g25_R [(4, none)])) (by kernel_rfl) ((g25_1_fx n _ d.1 d.2.1).trans (by kernel_rfl))))
noncomputable def g8_m0 (x0 : List (Int × ByteArray)) : FState := ⟨tlist [(0, .sl 0 none false)], olist [(0, .row (.pair (.int .i64) .str) 45 false x0)]⟩
noncomputable def g8_m1 (v2 : Bool) : FState := ⟨tlist [(2, .dat .bool v2)], olist []⟩
noncomputable def g8_m1e : List NE := [.keep 2]
noncomputable def g8_C (n : Nat) : List (Nat × Spec) := [(9, g9_S n), (23, g23_S n), (24, g24_S n), (25, g25_S n)]
noncomputable def g8_G (n : Nat) : Ctx := { Γ0 with calls := lkS (g8_C n) }
noncomputable def g8_B : Code := fb Tryd.f8
noncomputable def g8_1 (n : Nat) (kr : Bool → Option β) (x0 : List (Int × ByteArray)) : Option β := (g9 n x0).bind fun r1 => bif (!r1.1) then (kr true) else ((g24 n x0 (12 : Int)).bind fun r2 => (g23 n r2.1).bind fun r3 => (g25 n r3.1 r2.1).bind fun r4 => kr r4.1)
noncomputable def g8_1F (n : Nat) (s : FState) (cx : Cx β) : Option β := FX (g8_G n) n (nav g8_B [0]) (.fin none none (some g8_m1e) [] .leaf) s { cx with nrm := fun s => FX (g8_G n) n (nav g8_B [1, 0, 0]) (.fin none none (some g8_m1e) [] .leaf) s { cx with nrm := fun s => FX (g8_G n) n (nav g8_B [1, 0, 1]) (.fin none none (some g8_m1e) [] .leaf) s { cx with nrm := fun s => FX (g8_G n) n (nav g8_B [1, 1, 0]) (.fin none none (some g8_m1e) [] .leaf) s { cx with nrm := fun s => FX (g8_G n) n (nav g8_B [1, 1, 1, 0]) (.fin none none (some g8_m1e) [] .leaf) s { cx with nrm := fun s => FX (g8_G n) n (nav g8_B [1, 1, 1, 1]) (.fin none none (some g8_m1e) [] .leaf) s cx } } } } }
theorem g8_1_fx (n : Nat) (cx : Cx β) (x0 : List (Int × ByteArray)) : g8_1F n (g8_m0 x0) cx = g8_1 n (fun v2 => cx.ret (g8_m1 v2)) x0 := by kernel_rfl
noncomputable def g8 (n : Nat) (x0 : List (Int × ByteArray)) : Option (DenR [.dat .bool]) := g8_1 n (fun v2 => some (v2, ())) x0
noncomputable def g8_A : List AK := [.ro (.pair (.int .i64) .str) 45]
noncomputable def g8_R : List RK := [.dat .bool]
noncomputable def g8_f (n : Nat) (d : DenA g8_A) : Option (DenR g8_R) := g8 n d.1
noncomputable def g8_S (n : Nat) : Spec := mkSpec g8_A g8_R (g8_f n)
noncomputable def g8_K : Sk := (.nd (.fin none none (some g8_m1e) [] .leaf) (.nd (.nd (.fin none none (some g8_m1e) [] .leaf) (.fin none none (some g8_m1e) [] .leaf)) (.nd (.fin none none (some g8_m1e) [] .leaf) (.nd (.fin none none (some g8_m1e) [] .leaf) (.fin none none (some g8_m1e) [] .leaf)))))
theorem g8_top (n : Nat) (s : FState) (cx : Cx β) : FX (g8_G n) n g8_B g8_K s cx = g8_1F n s cx := by kernel_rfl
theorem g8_fit (n : Nat) : Fit Tryd.prog 8 (g8_S n) :=
  fit_of (Γ := Γ0) (l := g8_C n) (n := n) (sk := g8_K) (ts := [(2, none)]) (fn := Tryd.f8) (c := g8_B) (by kernel_rfl) (by kernel_rfl) (by unfold Callable; kernel_rfl) tab_ok ⟨g9_fit n, g23_fit n, g24_fit n, g25_fit n, trivial⟩ follows_mixed (by kernel_rfl) (by kernel_rfl) (Nat.le_of_ble_eq_true (by kernel_rfl)) (by kernel_rfl) (by kernel_rfl)
    (fun d => (g8_top n _ _).trans (Eq.trans (b := g8_1F n (g8_m0 d.1) (finCx (g8_G n) g8_R [(2, none)])) (by kernel_rfl) ((g8_1_fx n _ d.1).trans (by kernel_rfl))))
end Go.Proofs.YtfnjlgflbenfoaaDoorZF
