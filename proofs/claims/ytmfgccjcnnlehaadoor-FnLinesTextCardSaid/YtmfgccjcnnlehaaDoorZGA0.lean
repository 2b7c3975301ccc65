import Derived.Test.YtmfgccjcnnlehaaDoorZFT
import Derived.Test.YtmfgccjcnnlehaaDoorZFE
namespace Go.Proofs.YtmfgccjcnnlehaaDoorZF
open Go Go.Proofs
set_option linter.unusedVariables false
set_option maxRecDepth 100000
variable {β : Type}
noncomputable def g43_m0 (v0 : ByteArray) : FState := ⟨tlist [(0, .dat .str v0)], olist []⟩
noncomputable def g43_m1 (x2 : List Int) : FState := ⟨tlist [(2, .sl 2 none false)], olist [(2, .row (.int .i32) 21 true x2)]⟩
noncomputable def g43_m1e : List NE := [.row 2 (.int .i32) 21 true]
noncomputable def g43_C (n : Nat) : List (Nat × Spec) := []
noncomputable def g43_G (n : Nat) : Ctx := { Γ0 with calls := lkS (g43_C n) }
noncomputable def g43_B : Code := fb Tryd.f43
noncomputable def g43_1 (n : Nat) (kr : List Int → Option β) (v0 : ByteArray) : Option β := room46 v0 <| kr (runesOf v0)
noncomputable def g43_1F (n : Nat) (s : FState) (cx : Cx β) : Option β := FX (g43_G n) n (nav g43_B [0]) (.fin none none (some g43_m1e) [] .leaf) s { cx with nrm := fun s => FX (g43_G n) n (nav g43_B [1, 0]) (.fin none none (some g43_m1e) [] .leaf) s { cx with nrm := fun s => FX (g43_G n) n (nav g43_B [1, 1]) (.fin none none (some g43_m1e) [] .leaf) s cx } }
theorem g43_1_fx (n : Nat) (cx : Cx β) (v0 : ByteArray) : g43_1F n (g43_m0 v0) cx = g43_1 n (fun x2 => cx.ret (g43_m1 x2)) v0 := by kernel_rfl
noncomputable def g43 (n : Nat) (v0 : ByteArray) : Option (DenR [.rw (.int .i32) 21]) := g43_1 n (fun x2 => some (x2, ())) v0
noncomputable def g43_A : List AK := [.dat .str]
noncomputable def g43_R : List RK := [.rw (.int .i32) 21]
noncomputable def g43_f (n : Nat) (d : DenA g43_A) : Option (DenR g43_R) := g43 n d.1
noncomputable def g43_S (n : Nat) : Spec := mkSpec g43_A g43_R (g43_f n)
noncomputable def g43_K : Sk := (.nd (.fin none none (some g43_m1e) [] .leaf) (.nd (.fin none none (some g43_m1e) [] .leaf) (.fin none none (some g43_m1e) [] .leaf)))
theorem g43_top (n : Nat) (s : FState) (cx : Cx β) : FX (g43_G n) n g43_B g43_K s cx = g43_1F n s cx := by kernel_rfl
theorem g43_fit (n : Nat) : Fit Tryd.prog 43 (g43_S n) :=
  fit_of (Γ := Γ0) (l := g43_C n) (n := n) (sk := g43_K) (ts := [(2, none)]) (fn := Tryd.f43) (c := g43_B) (by kernel_rfl) (by kernel_rfl) (by unfold Callable; kernel_rfl) tab_ok trivial follows_mixed (by kernel_rfl) (by kernel_rfl) (Nat.le_of_ble_eq_true (by kernel_rfl)) (Nat.le_of_ble_eq_true (by kernel_rfl)) (by kernel_rfl) (by kernel_rfl)
    (fun d => (g43_top n _ _).trans (Eq.trans (b := g43_1F n (g43_m0 d.1) (finCx (g43_G n) g43_R [(2, none)])) (by kernel_rfl) ((g43_1_fx n _ d.1).trans (by kernel_rfl))))
noncomputable def g14_m0 (v0 : ByteArray) (v1 : Int) : FState := ⟨tlist [(0, .dat .str v0), (1, .dat (.int .i64) v1)], olist []⟩
noncomputable def g14_m1 (v4 : ByteArray) : FState := ⟨tlist [(4, .dat .str v4)], olist []⟩
noncomputable def g14_m1e : List NE := [.keep 4]
noncomputable def g14_C (n : Nat) : List (Nat × Spec) := [(43, g43_S n)]
noncomputable def g14_G (n : Nat) : Ctx := { Γ0 with calls := lkS (g14_C n) }
noncomputable def g14_B : Code := fb Tryd.f14
noncomputable def g14_1 (n : Nat) (kr : ByteArray → Option β) (v0 : ByteArray) (v1 : Int) : Option β := (g43 n v0).bind fun r1 => bnd (0 : Int) (minI (r1.1.length : Int) v1) (r1.1.length : Int) <| kr (runesBytes (cut r1.1 (0 : Int) ((0 : Int) + ((minI (r1.1.length : Int) v1) - (0 : Int)))))
noncomputable def g14_1F (n : Nat) (s : FState) (cx : Cx β) : Option β := FX (g14_G n) n (nav g14_B [0]) (.fin none none (some g14_m1e) [] .leaf) s { cx with nrm := fun s => FX (g14_G n) n (nav g14_B [1, 0]) (.fin none none (some g14_m1e) [] .leaf) s { cx with nrm := fun s => FX (g14_G n) n (nav g14_B [1, 1, 0]) (.fin none none (some g14_m1e) [] .leaf) s { cx with nrm := fun s => FX (g14_G n) n (nav g14_B [1, 1, 1]) (.fin none none (some g14_m1e) [] .leaf) s cx } } }
theorem g14_1_fx (n : Nat) (cx : Cx β) (v0 : ByteArray) (v1 : Int) : g14_1F n (g14_m0 v0 v1) cx = g14_1 n (fun v4 => cx.ret (g14_m1 v4)) v0 v1 := by kernel_rfl
noncomputable def g14 (n : Nat) (v0 : ByteArray) (v1 : Int) : Option (DenR [.dat .str]) := g14_1 n (fun v4 => some (v4, ())) v0 v1
noncomputable def g14_A : List AK := [.dat .str, .dat (.int .i64)]
noncomputable def g14_R : List RK := [.dat .str]
noncomputable def g14_f (n : Nat) (d : DenA g14_A) : Option (DenR g14_R) := g14 n d.1 d.2.1
noncomputable def g14_S (n : Nat) : Spec := mkSpec g14_A g14_R (g14_f n)
noncomputable def g14_K : Sk := (.nd (.fin none none (some g14_m1e) [] .leaf) (.nd (.fin none none (some g14_m1e) [] .leaf) (.nd (.fin none none (some g14_m1e) [] .leaf) (.fin none none (some g14_m1e) [] .leaf))))
theorem g14_top (n : Nat) (s : FState) (cx : Cx β) : FX (g14_G n) n g14_B g14_K s cx = g14_1F n s cx := by kernel_rfl
theorem g14_fit (n : Nat) : Fit Tryd.prog 14 (g14_S n) :=
  fit_of (Γ := Γ0) (l := g14_C n) (n := n) (sk := g14_K) (ts := [(4, none)]) (fn := Tryd.f14) (c := g14_B) (by kernel_rfl) (by kernel_rfl) (by unfold Callable; kernel_rfl) tab_ok ⟨g43_fit n, trivial⟩ follows_mixed (by kernel_rfl) (by kernel_rfl) (Nat.le_of_ble_eq_true (by kernel_rfl)) (Nat.le_of_ble_eq_true (by kernel_rfl)) (by kernel_rfl) (by kernel_rfl)
    (fun d => (g14_top n _ _).trans (Eq.trans (b := g14_1F n (g14_m0 d.1 d.2.1) (finCx (g14_G n) g14_R [(4, none)])) (by kernel_rfl) ((g14_1_fx n _ d.1 d.2.1).trans (by kernel_rfl))))
noncomputable def g44_m0 : FState := ⟨tlist [], olist []⟩
noncomputable def g44_m1 (p0 : (Int × (Int × (Int × (Nat × (Int × (Int × Nat))))))) : FState := ⟨tlist [(0, .ptr 0 0 0)], olist [(0, .row (.pair (.int .i64) (.pair (.int .i64) (.pair (.int .i64) (.pair (.flt .f64) (.pair (.int .i64) (.pair (.int .i64) (.flt .f64))))))) 112 true [p0])]⟩
noncomputable def g44_m1e : List NE := [.ptr 0 (.pair (.int .i64) (.pair (.int .i64) (.pair (.int .i64) (.pair (.flt .f64) (.pair (.int .i64) (.pair (.int .i64) (.flt .f64))))))) 112 true]
noncomputable def g44_C (n : Nat) : List (Nat × Spec) := []
noncomputable def g44_G (n : Nat) : Ctx := { Γ0 with calls := lkS (g44_C n) }
noncomputable def g44_B : Code := fb Tryd.f44
noncomputable def g44_1 (n : Nat) (kr : (Int × (Int × (Int × (Nat × (Int × (Int × Nat)))))) → Option β) : Option β := kr ((1000000000 : Int), ((4 : Int), ((1000 : Int), ((4602678819172646912 : Nat), ((4 : Int), ((32 : Int), (4602678819172646912 : Nat)))))))
noncomputable def g44_1F (n : Nat) (s : FState) (cx : Cx β) : Option β := FX (g44_G n) n (nav g44_B [0]) (.fin none none (some g44_m1e) [] .leaf) s { cx with nrm := fun s => FX (g44_G n) n (nav g44_B [1, 0]) (.fin none none (some g44_m1e) [] .leaf) s { cx with nrm := fun s => FX (g44_G n) n (nav g44_B [1, 1]) (.fin none none (some g44_m1e) [] .leaf) s cx } }
theorem g44_1_fx (n : Nat) (cx : Cx β) : g44_1F n g44_m0 cx = g44_1 n (fun p0 => cx.ret (g44_m1 p0)) := by kernel_rfl
noncomputable def g44 (n : Nat) : Option (DenR [.ptr (.pair (.int .i64) (.pair (.int .i64) (.pair (.int .i64) (.pair (.flt .f64) (.pair (.int .i64) (.pair (.int .i64) (.flt .f64))))))) 112]) := g44_1 n (fun p0 => some (p0, ()))
noncomputable def g44_A : List AK := []
noncomputable def g44_R : List RK := [.ptr (.pair (.int .i64) (.pair (.int .i64) (.pair (.int .i64) (.pair (.flt .f64) (.pair (.int .i64) (.pair (.int .i64) (.flt .f64))))))) 112]
noncomputable def g44_f (n : Nat) (d : DenA g44_A) : Option (DenR g44_R) := g44 n
noncomputable def g44_S (n : Nat) : Spec := mkSpec g44_A g44_R (g44_f n)
noncomputable def g44_K : Sk := (.nd (.fin none none (some g44_m1e) [] .leaf) (.nd (.fin none none (some g44_m1e) [] .leaf) (.fin none none (some g44_m1e) [] .leaf)))
theorem g44_top (n : Nat) (s : FState) (cx : Cx β) : FX (g44_G n) n g44_B g44_K s cx = g44_1F n s cx := by kernel_rfl
theorem g44_fit (n : Nat) : Fit Tryd.prog 44 (g44_S n) :=
  fit_of (Γ := Γ0) (l := g44_C n) (n := n) (sk := g44_K) (ts := [(0, none)]) (fn := Tryd.f44) (c := g44_B) (by kernel_rfl) (by kernel_rfl) (by unfold Callable; kernel_rfl) tab_ok trivial follows_mixed (by kernel_rfl) (by kernel_rfl) (Nat.le_of_ble_eq_true (by kernel_rfl)) (Nat.le_of_ble_eq_true (by kernel_rfl)) (by kernel_rfl) (by kernel_rfl)
    (fun d => (g44_top n _ _).trans (Eq.trans (b := g44_1F n (g44_m0) (finCx (g44_G n) g44_R [(0, none)])) (by kernel_rfl) ((g44_1_fx n _).trans (by kernel_rfl))))
noncomputable def g109_m0 (v0 v1 : ByteArray) : FState := ⟨tlist [(0, .dat .str v0), (1, .dat .str v1)], olist []⟩
noncomputable def g109_m1 (v4 : Int) : FState := ⟨tlist [(4, .dat (.int .i64) v4)], olist []⟩
noncomputable def g109_m1e : List NE := [.keep 4]
noncomputable def g109_m2 (v0 v1 : ByteArray) (v5 : Int) : FState := ⟨tlist [(0, .dat .str v0), (1, .dat .str v1), (5, .dat (.int .i64) v5)], olist []⟩
noncomputable def g109_m2e : List NE := [.keep 0, .keep 1, .keep 5]
noncomputable def g109_m3 : FState := ⟨tlist [], olist []⟩
noncomputable def g109_m3e : List NE := []
noncomputable def g109_C (n : Nat) : List (Nat × Spec) := []
noncomputable def g109_G (n : Nat) : Ctx := { Γ0 with calls := lkS (g109_C n) }
noncomputable def g109_B : Code := fb Tryd.f109
noncomputable def g109_1 (n : Nat) (kn : ByteArray → ByteArray → Int → Option β) (v0 v1 : ByteArray) : Option β := kn v0 v1 (0 : Int)
noncomputable def g109_1F (n : Nat) (s : FState) (cx : Cx β) : Option β := FX (g109_G n) n (nav g109_B [0]) (.fin none none none [] .leaf) s { cx with nrm := fun s => FX (g109_G n) n (nav g109_B [1, 0, 0]) (.fin none (some g109_m2e) none [] .leaf) s cx }
theorem g109_1_fx (n : Nat) (cx : Cx β) (v0 v1 : ByteArray) : g109_1F n (g109_m0 v0 v1) cx = g109_1 n (fun v0 v1 v5 => cx.nrm (g109_m2 v0 v1 v5)) v0 v1 := by kernel_rfl
noncomputable def g109_2 (n : Nat) (kn : ByteArray → ByteArray → Int → Option β) (kr : Int → Option β) (kx0 : Option β) (v0 v1 : ByteArray) (v5 : Int) : Option β := bif (decide ((w64 (v5 + (v1.size : Int))) ≤ (v0.size : Int))) then (bnd v5 (w64 (v5 + (v1.size : Int))) (v0.size : Int) <| bif (strEq (cutS v0 v5 (w64 (v5 + (v1.size : Int)))) v1) then (kr v5) else (kn v0 v1 (w64 (v5 + (1 : Int))))) else kx0
noncomputable def g109_2F (n : Nat) (s : FState) (cx : Cx β) : Option β := FX (g109_G n) n (nav g109_B [1, 0, 1, 0, 0, 0, 0]) (.fin none none (some g109_m1e) [(0, g109_m3e)] .leaf) s { cx with nrm := fun s => FX (g109_G n) n (nav g109_B [1, 0, 1, 0, 0, 0, 1]) (.fin none none (some g109_m1e) [(0, g109_m3e)] .leaf) s { cx with nrm := fun s => FX (g109_G n) n (nav g109_B [1, 0, 1, 0, 0, 1, 0]) (.fin none none (some g109_m1e) [(0, g109_m3e)] .leaf) s { cx with nrm := fun s => FX (g109_G n) n (nav g109_B [1, 0, 1, 0, 0, 1, 1]) (.fin none (some g109_m2e) (some g109_m1e) [(0, g109_m3e)] .leaf) s cx } } }
theorem g109_2_fx (n : Nat) (cx : Cx β) (v0 v1 : ByteArray) (v5 : Int) : g109_2F n (g109_m2 v0 v1 v5) cx = g109_2 n (fun v0 v1 v5 => cx.nrm (g109_m2 v0 v1 v5)) (fun v4 => cx.ret (g109_m1 v4)) (cx.ex 0 g109_m3) v0 v1 v5 := by kernel_rfl
noncomputable def g109_3L (n : Nat) (kr : Int → Option β) (kx0 : Option β) : Nat → ByteArray → ByteArray → Int → Option β
  | 0, _, _, _ => none
  | m + 1, v0, v1, v5 => g109_2 n (g109_3L n kr kx0 m) kr kx0 v0 v1 v5
noncomputable def g109_3 (n : Nat) (kr : Int → Option β) (kx0 : Option β) (v0 v1 : ByteArray) (v5 : Int) : Option β := g109_3L n kr kx0 n v0 v1 v5
noncomputable def g109_3F (n : Nat) (s : FState) (cx : Cx β) : Option β := loopN (fun again s => g109_2F n s { cx with nrm := again }) n s
theorem g109_3L_fx (n : Nat) (cx : Cx β) : ∀ (m : Nat) (v0 v1 : ByteArray) (v5 : Int), loopN (fun again s => g109_2F n s { cx with nrm := again }) m (g109_m2 v0 v1 v5) = g109_3L n (fun v4 => cx.ret (g109_m1 v4)) (cx.ex 0 g109_m3) m v0 v1 v5 := by
  intro m
  induction m with
  | zero => intros; rfl
  | succ m ih => intros; simp only [loopN, g109_3L, g109_2_fx, ih]
theorem g109_3_fx (n : Nat) (cx : Cx β) (v0 v1 : ByteArray) (v5 : Int) : g109_3F n (g109_m2 v0 v1 v5) cx = g109_3 n (fun v4 => cx.ret (g109_m1 v4)) (cx.ex 0 g109_m3) v0 v1 v5 := g109_3L_fx n cx n v0 v1 v5
noncomputable def g109_4 (n : Nat) (kn : Option β) (kr : Int → Option β) (v0 v1 : ByteArray) (v5 : Int) : Option β := g109_3 n kr kn v0 v1 v5
noncomputable def g109_4F (n : Nat) (s : FState) (cx : Cx β) : Option β := g109_3F n s { cx with ex := fun j s => bif Nat.beq j 0 then cx.nrm s else cx.ex j s }
theorem g109_4_fx (n : Nat) (cx : Cx β) (v0 v1 : ByteArray) (v5 : Int) : g109_4F n (g109_m2 v0 v1 v5) cx = g109_4 n (cx.nrm g109_m3) (fun v4 => cx.ret (g109_m1 v4)) v0 v1 v5 := g109_3_fx n _ v0 v1 v5
noncomputable def g109_5 (n : Nat) (kr : Int → Option β) : Option β := kr (-1 : Int)
noncomputable def g109_5F (n : Nat) (s : FState) (cx : Cx β) : Option β := FX (g109_G n) n (nav g109_B [1, 1, 0]) (.fin none none (some g109_m1e) [] .leaf) s { cx with nrm := fun s => FX (g109_G n) n (nav g109_B [1, 1, 1]) (.fin none none (some g109_m1e) [] .leaf) s cx }
theorem g109_5_fx (n : Nat) (cx : Cx β) : g109_5F n g109_m3 cx = g109_5 n (fun v4 => cx.ret (g109_m1 v4)) := by kernel_rfl
noncomputable def g109_6 (n : Nat) (kr : Int → Option β) (v0 v1 : ByteArray) : Option β := g109_1 n (fun v0 v1 v5 => g109_4 n (g109_5 n kr) kr v0 v1 v5) v0 v1
noncomputable def g109_6F (n : Nat) (s : FState) (cx : Cx β) : Option β := g109_1F n s { cx with nrm := fun s => g109_4F n s { cx with nrm := fun s => g109_5F n s cx } }
theorem g109_6_fx (n : Nat) (cx : Cx β) (v0 v1 : ByteArray) : g109_6F n (g109_m0 v0 v1) cx = g109_6 n (fun v4 => cx.ret (g109_m1 v4)) v0 v1 := by simp only [g109_6F, g109_6, g109_1_fx, g109_4_fx, g109_5_fx]
noncomputable def g109 (n : Nat) (v0 v1 : ByteArray) : Option (DenR [.dat (.int .i64)]) := g109_6 n (fun v4 => some (v4, ())) v0 v1
noncomputable def g109_A : List AK := [.dat .str, .dat .str]
noncomputable def g109_R : List RK := [.dat (.int .i64)]
noncomputable def g109_f (n : Nat) (d : DenA g109_A) : Option (DenR g109_R) := g109 n d.1 d.2.1
noncomputable def g109_S (n : Nat) : Spec := mkSpec g109_A g109_R (g109_f n)
noncomputable def g109_K : Sk := (.nd (.fin none none none [] .leaf) (.nd (.nd (.fin none (some g109_m2e) none [] .leaf) (.nd (.nd (.nd (.nd (.fin none none (some g109_m1e) [(0, g109_m3e)] .leaf) (.fin none none (some g109_m1e) [(0, g109_m3e)] .leaf)) (.nd (.fin none none (some g109_m1e) [(0, g109_m3e)] .leaf) (.fin none (some g109_m2e) (some g109_m1e) [(0, g109_m3e)] .leaf))) .leaf) .leaf)) (.nd (.fin none none (some g109_m1e) [] .leaf) (.fin none none (some g109_m1e) [] .leaf))))
theorem g109_top (n : Nat) (s : FState) (cx : Cx β) : FX (g109_G n) n g109_B g109_K s cx = g109_6F n s cx := by kernel_rfl
theorem g109_fit (n : Nat) : Fit Tryd.prog 109 (g109_S n) :=
  fit_of (Γ := Γ0) (l := g109_C n) (n := n) (sk := g109_K) (ts := [(4, none)]) (fn := Tryd.f109) (c := g109_B) (by kernel_rfl) (by kernel_rfl) (by unfold Callable; kernel_rfl) tab_ok trivial follows_mixed (by kernel_rfl) (by kernel_rfl) (Nat.le_of_ble_eq_true (by kernel_rfl)) (Nat.le_of_ble_eq_true (by kernel_rfl)) (by kernel_rfl) (by kernel_rfl)
    (fun d => (g109_top n _ _).trans (Eq.trans (b := g109_6F n (g109_m0 d.1 d.2.1) (finCx (g109_G n) g109_R [(4, none)])) (by kernel_rfl) ((g109_6_fx n _ d.1 d.2.1).trans (by kernel_rfl))))
noncomputable def g80_m0 (v0 v1 : ByteArray) (v2 : Int) : FState := ⟨tlist [(0, .dat .str v0), (1, .dat .str v1), (2, .dat (.int .i64) v2)], olist []⟩
noncomputable def g80_m1 (v6 : Int) : FState := ⟨tlist [(6, .dat (.int .i64) v6)], olist []⟩
noncomputable def g80_m1e : List NE := [.keep 6]
noncomputable def g80_C (n : Nat) : List (Nat × Spec) := [(109, g109_S n)]
noncomputable def g80_G (n : Nat) : Ctx := { Γ0 with calls := lkS (g80_C n) }
noncomputable def g80_B : Code := fb Tryd.f80
noncomputable def g80_1 (n : Nat) (kr : Int → Option β) (v0 v1 : ByteArray) (v2 : Int) : Option β := bif (decide (v2 > (w64 ((v0.size : Int) - (1 : Int))))) then (kr (-1 : Int)) else (bif (decide (v2 ≤ (0 : Int))) then ((g109 n v0 v1).bind fun r1 => kr r1.1) else (bnd v2 (v0.size : Int) (v0.size : Int) <| (g109 n (cutS v0 v2 (v0.size : Int)) v1).bind fun r2 => bif (r2.1 == (-1 : Int)) then (kr (-1 : Int)) else (kr (w64 (r2.1 + v2)))))
noncomputable def g80_1F (n : Nat) (s : FState) (cx : Cx β) : Option β := FX (g80_G n) n (nav g80_B [0]) (.fin none none (some g80_m1e) [] .leaf) s { cx with nrm := fun s => FX (g80_G n) n (nav g80_B [1, 0, 0]) (.fin none none (some g80_m1e) [] .leaf) s { cx with nrm := fun s => FX (g80_G n) n (nav g80_B [1, 0, 1]) (.fin none none (some g80_m1e) [] .leaf) s { cx with nrm := fun s => FX (g80_G n) n (nav g80_B [1, 1, 0, 0]) (.fin none none (some g80_m1e) [] .leaf) s { cx with nrm := fun s => FX (g80_G n) n (nav g80_B [1, 1, 0, 1]) (.fin none none (some g80_m1e) [] .leaf) s { cx with nrm := fun s => FX (g80_G n) n (nav g80_B [1, 1, 1, 0]) (.fin none none (some g80_m1e) [] .leaf) s { cx with nrm := fun s => FX (g80_G n) n (nav g80_B [1, 1, 1, 1, 0, 0]) (.fin none none (some g80_m1e) [] .leaf) s { cx with nrm := fun s => FX (g80_G n) n (nav g80_B [1, 1, 1, 1, 0, 1]) (.fin none none (some g80_m1e) [] .leaf) s { cx with nrm := fun s => FX (g80_G n) n (nav g80_B [1, 1, 1, 1, 1, 0]) (.fin none none (some g80_m1e) [] .leaf) s { cx with nrm := fun s => FX (g80_G n) n (nav g80_B [1, 1, 1, 1, 1, 1]) (.fin none none (some g80_m1e) [] .leaf) s cx } } } } } } } } }
theorem g80_1_fx (n : Nat) (cx : Cx β) (v0 v1 : ByteArray) (v2 : Int) : g80_1F n (g80_m0 v0 v1 v2) cx = g80_1 n (fun v6 => cx.ret (g80_m1 v6)) v0 v1 v2 := by kernel_rfl
noncomputable def g80 (n : Nat) (v0 v1 : ByteArray) (v2 : Int) : Option (DenR [.dat (.int .i64)]) := g80_1 n (fun v6 => some (v6, ())) v0 v1 v2
noncomputable def g80_A : List AK := [.dat .str, .dat .str, .dat (.int .i64)]
noncomputable def g80_R : List RK := [.dat (.int .i64)]
noncomputable def g80_f (n : Nat) (d : DenA g80_A) : Option (DenR g80_R) := g80 n d.1 d.2.1 d.2.2.1
noncomputable def g80_S (n : Nat) : Spec := mkSpec g80_A g80_R (g80_f n)
noncomputable def g80_K : Sk := (.nd (.fin none none (some g80_m1e) [] .leaf) (.nd (.nd (.fin none none (some g80_m1e) [] .leaf) (.fin none none (some g80_m1e) [] .leaf)) (.nd (.nd (.fin none none (some g80_m1e) [] .leaf) (.fin none none (some g80_m1e) [] .leaf)) (.nd (.fin none none (some g80_m1e) [] .leaf) (.nd (.nd (.fin none none (some g80_m1e) [] .leaf) (.fin none none (some g80_m1e) [] .leaf)) (.nd (.fin none none (some g80_m1e) [] .leaf) (.fin none none (some g80_m1e) [] .leaf)))))))
theorem g80_top (n : Nat) (s : FState) (cx : Cx β) : FX (g80_G n) n g80_B g80_K s cx = g80_1F n s cx := by kernel_rfl
theorem g80_fit (n : Nat) : Fit Tryd.prog 80 (g80_S n) :=
  fit_of (Γ := Γ0) (l := g80_C n) (n := n) (sk := g80_K) (ts := [(6, none)]) (fn := Tryd.f80) (c := g80_B) (by kernel_rfl) (by kernel_rfl) (by unfold Callable; kernel_rfl) tab_ok ⟨g109_fit n, trivial⟩ follows_mixed (by kernel_rfl) (by kernel_rfl) (Nat.le_of_ble_eq_true (by kernel_rfl)) (Nat.le_of_ble_eq_true (by kernel_rfl)) (by kernel_rfl) (by kernel_rfl)
    (fun d => (g80_top n _ _).trans (Eq.trans (b := g80_1F n (g80_m0 d.1 d.2.1 d.2.2.1) (finCx (g80_G n) g80_R [(6, none)])) (by kernel_rfl) ((g80_1_fx n _ d.1 d.2.1 d.2.2.1).trans (by kernel_rfl))))
noncomputable def g105_m0 (p0 : (Int × (Int × (Int × (Nat × (Int × (Int × Nat))))))) (v1 : ByteArray) (x1000002 : List ByteArray) (m3 : List (ByteArray × Int)) : FState := ⟨tlist [(0, .ptr 0 0 0), (1, .dat .str v1), (2, .cp 2 0), (1000002, .sl 1000002 none false), (3, .mp 3)], olist [(0, .row (.pair (.int .i64) (.pair (.int .i64) (.pair (.int .i64) (.pair (.flt .f64) (.pair (.int .i64) (.pair (.int .i64) (.flt .f64))))))) 112 false [p0]), (2, .cell (.sl 9 .str) 23), (1000002, .row .str 9 true x1000002), (3, .mapo .str (.int .i64) m3)]⟩
noncomputable def g105_m0e : List NE := [.ptr 0 (.pair (.int .i64) (.pair (.int .i64) (.pair (.int .i64) (.pair (.flt .f64) (.pair (.int .i64) (.pair (.int .i64) (.flt .f64))))))) 112 false, .keep 1, .cell 2 (.sl 9 .str) 23, .row 1000002 .str 9 true, .mp 3 .str (.int .i64)]
noncomputable def g105_m1 (x1000002 : List ByteArray) (m3 : List (ByteArray × Int)) (x8 : List Int) : FState := ⟨tlist [(2, .cp 2 0), (1000002, .sl 1000002 none false), (3, .mp 3), (8, .sl 8 none false)], olist [(2, .cell (.sl 9 .str) 23), (1000002, .row .str 9 true x1000002), (3, .mapo .str (.int .i64) m3), (8, .row (.int .u32) 176 true x8)]⟩
noncomputable def g105_m1e : List NE := [.cell 2 (.sl 9 .str) 23, .row 1000002 .str 9 true, .mp 3 .str (.int .i64), .row 8 (.int .u32) 176 true]
noncomputable def g105_m2 (v1 : ByteArray) (x1000002 : List ByteArray) (m3 : List (ByteArray × Int)) (v9 v10 : Int) (x11 : List Int) : FState := ⟨tlist [(1, .dat .str v1), (2, .cp 2 0), (1000002, .sl 1000002 none false), (3, .mp 3), (9, .dat (.int .i64) v9), (10, .dat (.int .i64) v10), (11, .sl 11 none false)], olist [(2, .cell (.sl 9 .str) 23), (1000002, .row .str 9 true x1000002), (3, .mapo .str (.int .i64) m3), (11, .row (.int .u32) 176 true x11)]⟩
noncomputable def g105_m2e : List NE := [.keep 1, .cell 2 (.sl 9 .str) 23, .row 1000002 .str 9 true, .mp 3 .str (.int .i64), .keep 9, .keep 10, .row 11 (.int .u32) 176 true]
noncomputable def g105_m3 (x1000002 : List ByteArray) (m3 : List (ByteArray × Int)) (x11 : List Int) : FState := ⟨tlist [(2, .cp 2 0), (1000002, .sl 1000002 none false), (3, .mp 3), (11, .sl 11 none false)], olist [(2, .cell (.sl 9 .str) 23), (1000002, .row .str 9 true x1000002), (3, .mapo .str (.int .i64) m3), (11, .row (.int .u32) 176 true x11)]⟩
noncomputable def g105_m3e : List NE := [.cell 2 (.sl 9 .str) 23, .row 1000002 .str 9 true, .mp 3 .str (.int .i64), .row 11 (.int .u32) 176 true]
noncomputable def g105_C (n : Nat) : List (Nat × Spec) := [(80, g80_S n)]
noncomputable def g105_G (n : Nat) : Ctx := { Γ0 with calls := lkS (g105_C n) }
noncomputable def g105_B : Code := fb Tryd.f105
noncomputable def g105_1 (n : Nat) (kn : ByteArray → List ByteArray → List (ByteArray × Int) → Int → Int → List Int → Option β) (p0 : (Int × (Int × (Int × (Nat × (Int × (Int × Nat))))))) (v1 : ByteArray) (x1000002 : List ByteArray) (m3 : List (ByteArray × Int)) : Option β := kn v1 x1000002 m3 (0 : Int) (-1 : Int) ([] : List Int)
noncomputable def g105_1F (n : Nat) (s : FState) (cx : Cx β) : Option β := FX (g105_G n) n (nav g105_B [0]) (.fin none none none [] .leaf) s { cx with nrm := fun s => FX (g105_G n) n (nav g105_B [1, 0]) (.fin none none none [] .leaf) s { cx with nrm := fun s => FX (g105_G n) n (nav g105_B [1, 1, 0]) (.fin none none none [] .leaf) s { cx with nrm := fun s => FX (g105_G n) n (nav g105_B [1, 1, 1, 0]) (.fin none (some g105_m2e) none [] .leaf) s cx } } }
theorem g105_1_fx (n : Nat) (cx : Cx β) (p0 : (Int × (Int × (Int × (Nat × (Int × (Int × Nat))))))) (v1 : ByteArray) (x1000002 : List ByteArray) (m3 : List (ByteArray × Int)) : g105_1F n (g105_m0 p0 v1 x1000002 m3) cx = g105_1 n (fun v1 x1000002 m3 v9 v10 x11 => cx.nrm (g105_m2 v1 x1000002 m3 v9 v10 x11)) p0 v1 x1000002 m3 := by kernel_rfl
noncomputable def g105_2 (n : Nat) (kn : ByteArray → List ByteArray → List (ByteArray × Int) → Int → Int → List Int → Option β) (kx0 : List ByteArray → List (ByteArray × Int) → List Int → Option β) (v1 : ByteArray) (x1000002 : List ByteArray) (m3 : List (ByteArray × Int)) (v9 v10 : Int) (x11 : List Int) : Option β := bif (decide (v10 < (w64 ((v1.size : Int) - (1 : Int))))) then ((g80 n v1 (⟨#[10]⟩ : ByteArray) v9).bind fun r1 => bif (r1.1 == (-1 : Int)) then (bnd v9 (w64 ((w64 ((v1.size : Int) - (1 : Int))) + (1 : Int))) (v1.size : Int) <| bif (findM (a := .str) (b := (.int .i64)) (cutS v1 v9 (w64 ((w64 ((v1.size : Int) - (1 : Int))) + (1 : Int)))) m3).isSome then (roomy (x11.length + [(IntKind.u32.wrap (((findM (a := .str) (b := (.int .i64)) (cutS v1 v9 (w64 ((w64 ((v1.size : Int) - (1 : Int))) + (1 : Int)))) m3).getD (0 : Int))))].length) <| kn v1 x1000002 m3 (w64 ((w64 ((v1.size : Int) - (1 : Int))) + (1 : Int))) (w64 ((v1.size : Int) - (1 : Int))) (x11 ++ [(IntKind.u32.wrap (((findM (a := .str) (b := (.int .i64)) (cutS v1 v9 (w64 ((w64 ((v1.size : Int) - (1 : Int))) + (1 : Int)))) m3).getD (0 : Int))))])) else (roomy (x1000002.length + [(cutS v1 v9 (w64 ((w64 ((v1.size : Int) - (1 : Int))) + (1 : Int))))].length) <| roomy (x11.length + [(IntKind.u32.wrap ((w64 (((x1000002 ++ [(cutS v1 v9 (w64 ((w64 ((v1.size : Int) - (1 : Int))) + (1 : Int))))]).length : Int) - (1 : Int)))))].length) <| kn v1 (x1000002 ++ [(cutS v1 v9 (w64 ((w64 ((v1.size : Int) - (1 : Int))) + (1 : Int))))]) (putM (a := .str) (b := (.int .i64)) (cutS v1 v9 (w64 ((w64 ((v1.size : Int) - (1 : Int))) + (1 : Int)))) (w64 (((x1000002 ++ [(cutS v1 v9 (w64 ((w64 ((v1.size : Int) - (1 : Int))) + (1 : Int))))]).length : Int) - (1 : Int))) m3) (w64 ((w64 ((v1.size : Int) - (1 : Int))) + (1 : Int))) (w64 ((v1.size : Int) - (1 : Int))) (x11 ++ [(IntKind.u32.wrap ((w64 (((x1000002 ++ [(cutS v1 v9 (w64 ((w64 ((v1.size : Int) - (1 : Int))) + (1 : Int))))]).length : Int) - (1 : Int)))))]))) else (bnd v9 (w64 (r1.1 + (1 : Int))) (v1.size : Int) <| bif (findM (a := .str) (b := (.int .i64)) (cutS v1 v9 (w64 (r1.1 + (1 : Int)))) m3).isSome then (roomy (x11.length + [(IntKind.u32.wrap (((findM (a := .str) (b := (.int .i64)) (cutS v1 v9 (w64 (r1.1 + (1 : Int)))) m3).getD (0 : Int))))].length) <| kn v1 x1000002 m3 (w64 (r1.1 + (1 : Int))) r1.1 (x11 ++ [(IntKind.u32.wrap (((findM (a := .str) (b := (.int .i64)) (cutS v1 v9 (w64 (r1.1 + (1 : Int)))) m3).getD (0 : Int))))])) else (roomy (x1000002.length + [(cutS v1 v9 (w64 (r1.1 + (1 : Int))))].length) <| roomy (x11.length + [(IntKind.u32.wrap ((w64 (((x1000002 ++ [(cutS v1 v9 (w64 (r1.1 + (1 : Int))))]).length : Int) - (1 : Int)))))].length) <| kn v1 (x1000002 ++ [(cutS v1 v9 (w64 (r1.1 + (1 : Int))))]) (putM (a := .str) (b := (.int .i64)) (cutS v1 v9 (w64 (r1.1 + (1 : Int)))) (w64 (((x1000002 ++ [(cutS v1 v9 (w64 (r1.1 + (1 : Int))))]).length : Int) - (1 : Int))) m3) (w64 (r1.1 + (1 : Int))) r1.1 (x11 ++ [(IntKind.u32.wrap ((w64 (((x1000002 ++ [(cutS v1 v9 (w64 (r1.1 + (1 : Int))))]).length : Int) - (1 : Int)))))])))) else (kx0 x1000002 m3 x11)
noncomputable def g105_2F (n : Nat) (s : FState) (cx : Cx β) : Option β := FX (g105_G n) n (nav g105_B [1, 1, 1, 1, 0, 0, 0, 0, 0]) (.fin none none none [(0, g105_m3e)] .leaf) s { cx with nrm := fun s => FX (g105_G n) n (nav g105_B [1, 1, 1, 1, 0, 0, 0, 0, 1]) (.fin none none none [(0, g105_m3e)] .leaf) s { cx with nrm := fun s => FX (g105_G n) n (nav g105_B [1, 1, 1, 1, 0, 0, 0, 1]) (.fin none (some g105_m2e) none [(0, g105_m3e)] .leaf) s cx } }
theorem g105_2_fx (n : Nat) (cx : Cx β) (v1 : ByteArray) (x1000002 : List ByteArray) (m3 : List (ByteArray × Int)) (v9 v10 : Int) (x11 : List Int) : g105_2F n (g105_m2 v1 x1000002 m3 v9 v10 x11) cx = g105_2 n (fun v1 x1000002 m3 v9 v10 x11 => cx.nrm (g105_m2 v1 x1000002 m3 v9 v10 x11)) (fun x1000002 m3 x11 => cx.ex 0 (g105_m3 x1000002 m3 x11)) v1 x1000002 m3 v9 v10 x11 := by kernel_rfl
noncomputable def g105_3L (n : Nat) (kx0 : List ByteArray → List (ByteArray × Int) → List Int → Option β) : Nat → ByteArray → List ByteArray → List (ByteArray × Int) → Int → Int → List Int → Option β
  | 0, _, _, _, _, _, _ => none
  | m + 1, v1, x1000002, m3, v9, v10, x11 => g105_2 n (g105_3L n kx0 m) kx0 v1 x1000002 m3 v9 v10 x11
noncomputable def g105_3 (n : Nat) (kx0 : List ByteArray → List (ByteArray × Int) → List Int → Option β) (v1 : ByteArray) (x1000002 : List ByteArray) (m3 : List (ByteArray × Int)) (v9 v10 : Int) (x11 : List Int) : Option β := g105_3L n kx0 n v1 x1000002 m3 v9 v10 x11
noncomputable def g105_3F (n : Nat) (s : FState) (cx : Cx β) : Option β := loopN (fun again s => g105_2F n s { cx with nrm := again }) n s
theorem g105_3L_fx (n : Nat) (cx : Cx β) : ∀ (m : Nat) (v1 : ByteArray) (x1000002 : List ByteArray) (m3 : List (ByteArray × Int)) (v9 v10 : Int) (x11 : List Int), loopN (fun again s => g105_2F n s { cx with nrm := again }) m (g105_m2 v1 x1000002 m3 v9 v10 x11) = g105_3L n (fun x1000002 m3 x11 => cx.ex 0 (g105_m3 x1000002 m3 x11)) m v1 x1000002 m3 v9 v10 x11 := by
  intro m
  induction m with
  | zero => intros; rfl
  | succ m ih => intros; simp only [loopN, g105_3L, g105_2_fx, ih]
theorem g105_3_fx (n : Nat) (cx : Cx β) (v1 : ByteArray) (x1000002 : List ByteArray) (m3 : List (ByteArray × Int)) (v9 v10 : Int) (x11 : List Int) : g105_3F n (g105_m2 v1 x1000002 m3 v9 v10 x11) cx = g105_3 n (fun x1000002 m3 x11 => cx.ex 0 (g105_m3 x1000002 m3 x11)) v1 x1000002 m3 v9 v10 x11 := g105_3L_fx n cx n v1 x1000002 m3 v9 v10 x11
noncomputable def g105_4 (n : Nat) (kn : List ByteArray → List (ByteArray × Int) → List Int → Option β) (v1 : ByteArray) (x1000002 : List ByteArray) (m3 : List (ByteArray × Int)) (v9 v10 : Int) (x11 : List Int) : Option β := g105_3 n kn v1 x1000002 m3 v9 v10 x11
noncomputable def g105_4F (n : Nat) (s : FState) (cx : Cx β) : Option β := g105_3F n s { cx with ex := fun j s => bif Nat.beq j 0 then cx.nrm s else cx.ex j s }
theorem g105_4_fx (n : Nat) (cx : Cx β) (v1 : ByteArray) (x1000002 : List ByteArray) (m3 : List (ByteArray × Int)) (v9 v10 : Int) (x11 : List Int) : g105_4F n (g105_m2 v1 x1000002 m3 v9 v10 x11) cx = g105_4 n (fun x1000002 m3 x11 => cx.nrm (g105_m3 x1000002 m3 x11)) v1 x1000002 m3 v9 v10 x11 := g105_3_fx n _ v1 x1000002 m3 v9 v10 x11
noncomputable def g105_5 (n : Nat) (kr : List ByteArray → List (ByteArray × Int) → List Int → Option β) (x1000002 : List ByteArray) (m3 : List (ByteArray × Int)) (x11 : List Int) : Option β := kr x1000002 m3 x11
noncomputable def g105_5F (n : Nat) (s : FState) (cx : Cx β) : Option β := FX (g105_G n) n (nav g105_B [1, 1, 1, 1, 1, 0]) (.fin none none (some g105_m1e) [] .leaf) s { cx with nrm := fun s => FX (g105_G n) n (nav g105_B [1, 1, 1, 1, 1, 1]) (.fin none none (some g105_m1e) [] .leaf) s cx }
theorem g105_5_fx (n : Nat) (cx : Cx β) (x1000002 : List ByteArray) (m3 : List (ByteArray × Int)) (x11 : List Int) : g105_5F n (g105_m3 x1000002 m3 x11) cx = g105_5 n (fun x1000002 m3 x8 => cx.ret (g105_m1 x1000002 m3 x8)) x1000002 m3 x11 := by kernel_rfl
noncomputable def g105_6 (n : Nat) (kr : List ByteArray → List (ByteArray × Int) → List Int → Option β) (p0 : (Int × (Int × (Int × (Nat × (Int × (Int × Nat))))))) (v1 : ByteArray) (x1000002 : List ByteArray) (m3 : List (ByteArray × Int)) : Option β := g105_1 n (fun v1 x1000002 m3 v9 v10 x11 => g105_4 n (fun x1000002 m3 x11 => g105_5 n kr x1000002 m3 x11) v1 x1000002 m3 v9 v10 x11) p0 v1 x1000002 m3
noncomputable def g105_6F (n : Nat) (s : FState) (cx : Cx β) : Option β := g105_1F n s { cx with nrm := fun s => g105_4F n s { cx with nrm := fun s => g105_5F n s cx } }
theorem g105_6_fx (n : Nat) (cx : Cx β) (p0 : (Int × (Int × (Int × (Nat × (Int × (Int × Nat))))))) (v1 : ByteArray) (x1000002 : List ByteArray) (m3 : List (ByteArray × Int)) : g105_6F n (g105_m0 p0 v1 x1000002 m3) cx = g105_6 n (fun x1000002 m3 x8 => cx.ret (g105_m1 x1000002 m3 x8)) p0 v1 x1000002 m3 := by simp only [g105_6F, g105_6, g105_1_fx, g105_4_fx, g105_5_fx]
noncomputable def g105 (n : Nat) (p0 : (Int × (Int × (Int × (Nat × (Int × (Int × Nat))))))) (v1 : ByteArray) (x1000002 : List ByteArray) (m3 : List (ByteArray × Int)) : Option (DenR [.rw (.int .u32) 176] × DenR (backsOf [.pro (.pair (.int .i64) (.pair (.int .i64) (.pair (.int .i64) (.pair (.flt .f64) (.pair (.int .i64) (.pair (.int .i64) (.flt .f64))))))) 112, .dat .str, .cel (.sl 9 .str) 23, .mp .str (.int .i64)])) := g105_6 n (fun x1000002 m3 x8 => some ((x8, ()), (x1000002, (m3, ())))) p0 v1 x1000002 m3
noncomputable def g105_A : List AK := [.pro (.pair (.int .i64) (.pair (.int .i64) (.pair (.int .i64) (.pair (.flt .f64) (.pair (.int .i64) (.pair (.int .i64) (.flt .f64))))))) 112, .dat .str, .cel (.sl 9 .str) 23, .mp .str (.int .i64)]
noncomputable def g105_R : List RK := [.rw (.int .u32) 176]
noncomputable def g105_f (n : Nat) (d : DenA g105_A) : Option (DenR g105_R × DenR (backsOf g105_A)) := g105 n d.1 d.2.1 d.2.2.1 d.2.2.2.1
noncomputable def g105_S (n : Nat) : Spec := mkSpecB g105_A g105_R (g105_f n)
noncomputable def g105_K : Sk := (.nd (.fin none none none [] .leaf) (.nd (.fin none none none [] .leaf) (.nd (.fin none none none [] .leaf) (.nd (.fin none (some g105_m2e) none [] .leaf) (.nd (.nd (.nd (.nd (.nd (.fin none none none [(0, g105_m3e)] .leaf) (.fin none none none [(0, g105_m3e)] .leaf)) (.fin none (some g105_m2e) none [(0, g105_m3e)] .leaf)) .leaf) .leaf) (.nd (.fin none none (some g105_m1e) [] .leaf) (.fin none none (some g105_m1e) [] .leaf)))))))
theorem g105_top (n : Nat) (s : FState) (cx : Cx β) : FX (g105_G n) n g105_B g105_K s cx = g105_6F n s cx := by kernel_rfl
theorem g105_ini (n : Nat) (d : DenA g105_A) (β : Type) (κ : FState → Option β) : putBacks 0 0 (backsOf g105_A) (ioPos g105_A 0) (toB g105_A d) (initS g105_A d) (fun s => normK (g105_G n) g105_m0e (setIo g105_A 0 s) κ) = κ (g105_m0 d.1 d.2.1 d.2.2.1 d.2.2.2.1) := by kernel_rfl
theorem g105_fit (n : Nat) : Fit Tryd.prog 105 (g105_S n) :=
  fit_ofB (Γ := Γ0) (l := g105_C n) (n := n) (sk := g105_K) (nf := g105_m0e) (m := fun d => g105_m0 d.1 d.2.1 d.2.2.1 d.2.2.2.1) (ts := [(8, none)]) (fn := Tryd.f105) (c := g105_B) (by kernel_rfl) (by kernel_rfl) (by unfold Callable; kernel_rfl) tab_ok ⟨g80_fit n, trivial⟩ follows_mixed (by kernel_rfl) (by kernel_rfl) (Nat.le_of_ble_eq_true (by kernel_rfl)) (Nat.le_of_ble_eq_true (by kernel_rfl)) (by kernel_rfl) (by kernel_rfl) (g105_ini n)
    (fun d => (g105_top n _ _).trans (Eq.trans (b := g105_6F n (g105_m0 d.1 d.2.1 d.2.2.1 d.2.2.2.1) (finCxB (g105_G n) g105_A g105_R [(8, none)])) (by kernel_rfl) ((g105_6_fx n _ d.1 d.2.1 d.2.2.1 d.2.2.2.1).trans (by kernel_rfl))))
noncomputable def g166_m0 (v0 v1 v2 : Int) : FState := ⟨tlist [(0, .dat (.int .u32) v0), (1, .dat (.int .u8) v1), (2, .dat (.int .u8) v2)], olist []⟩
noncomputable def g166_m1 (v6 : Int) : FState := ⟨tlist [(6, .dat (.int .u8) v6)], olist []⟩
noncomputable def g166_m1e : List NE := [.keep 6]
noncomputable def g166_C (n : Nat) : List (Nat × Spec) := []
noncomputable def g166_G (n : Nat) : Ctx := { Γ0 with calls := lkS (g166_C n) }
noncomputable def g166_B : Code := fb Tryd.f166
noncomputable def g166_1 (n : Nat) (kr : Int → Option β) (v0 v1 v2 : Int) : Option β := nneg v2 <| nneg v1 <| kr (IntKind.u8.wrap ((andI .u32 (shrI .u32 v0 v2) (IntKind.u32.wrap ((shlI .u32 (1 : Int) v1) - (1 : Int))))))
noncomputable def g166_1F (n : Nat) (s : FState) (cx : Cx β) : Option β := FX (g166_G n) n (nav g166_B [0]) (.fin none none (some g166_m1e) [] .leaf) s { cx with nrm := fun s => FX (g166_G n) n (nav g166_B [1, 0]) (.fin none none (some g166_m1e) [] .leaf) s { cx with nrm := fun s => FX (g166_G n) n (nav g166_B [1, 1]) (.fin none none (some g166_m1e) [] .leaf) s cx } }
theorem g166_1_fx (n : Nat) (cx : Cx β) (v0 v1 v2 : Int) : g166_1F n (g166_m0 v0 v1 v2) cx = g166_1 n (fun v6 => cx.ret (g166_m1 v6)) v0 v1 v2 := by kernel_rfl
noncomputable def g166 (n : Nat) (v0 v1 v2 : Int) : Option (DenR [.dat (.int .u8)]) := g166_1 n (fun v6 => some (v6, ())) v0 v1 v2
noncomputable def g166_A : List AK := [.dat (.int .u32), .dat (.int .u8), .dat (.int .u8)]
noncomputable def g166_R : List RK := [.dat (.int .u8)]
noncomputable def g166_f (n : Nat) (d : DenA g166_A) : Option (DenR g166_R) := g166 n d.1 d.2.1 d.2.2.1
noncomputable def g166_S (n : Nat) : Spec := mkSpec g166_A g166_R (g166_f n)
noncomputable def g166_K : Sk := (.nd (.fin none none (some g166_m1e) [] .leaf) (.nd (.fin none none (some g166_m1e) [] .leaf) (.fin none none (some g166_m1e) [] .leaf)))
theorem g166_top (n : Nat) (s : FState) (cx : Cx β) : FX (g166_G n) n g166_B g166_K s cx = g166_1F n s cx := by kernel_rfl
theorem g166_fit (n : Nat) : Fit Tryd.prog 166 (g166_S n) :=
  fit_of (Γ := Γ0) (l := g166_C n) (n := n) (sk := g166_K) (ts := [(6, none)]) (fn := Tryd.f166) (c := g166_B) (by kernel_rfl) (by kernel_rfl) (by unfold Callable; kernel_rfl) tab_ok trivial follows_mixed (by kernel_rfl) (by kernel_rfl) (Nat.le_of_ble_eq_true (by kernel_rfl)) (Nat.le_of_ble_eq_true (by kernel_rfl)) (by kernel_rfl) (by kernel_rfl)
    (fun d => (g166_top n _ _).trans (Eq.trans (b := g166_1F n (g166_m0 d.1 d.2.1 d.2.2.1) (finCx (g166_G n) g166_R [(6, none)])) (by kernel_rfl) ((g166_1_fx n _ d.1 d.2.1 d.2.2.1).trans (by kernel_rfl))))
noncomputable def g165_A : List AK := [.ro (.int .u8) 5]
noncomputable def g165_R : List RK := [.dat (.int .i32), .dat (.int .i64)]
noncomputable def g165 (n : Nat) (v0 : List Int) : Option (DenR [.dat (.int .i32), .dat (.int .i64)]) := if v0 ≠ [] ∧ ∀ x ∈ v0, 0 ≤ x ∧ x < 256 then some (((Lib.decodeGo (strOfNums v0)).1 : Int), (((Lib.decodeGo (strOfNums v0)).2 : Int), ())) else none
noncomputable def g165_f (n : Nat) (d : DenA g165_A) : Option (DenR g165_R) := g165 n d.1
noncomputable def g165_S (n : Nat) : Spec := mkSpec g165_A g165_R (g165_f n)
theorem g165_fit (n : Nat) : Fit Tryd.prog 165 (g165_S n) := fit_read (by unfold Callable; kernel_rfl) rfl fun d x w A vs hG ha hx => by
  obtain ⟨v, vs', o1, o2, rfl, _, ⟨_, ad, cap, rfl, hle, hne⟩, h3, _⟩ := ha
  obtain ⟨xs, u⟩ := d
  subst h3
  obtain ⟨hc, hx⟩ := if_inv hx
  cases hx
  obtain ⟨b, off, rfl, hb, hrow⟩ := hne hc.1
  have key := Tryd.utf8_DecodeRune (strOfNums xs) b off cap w (tabs_of hG) (cells_nums hc.2 hrow)
  rw [strOfNums_size] at key
  exact key.mono fun e w' ⟨he, hb⟩ => ⟨[.int .i32 (Lib.decodeGo (strOfNums xs)).1, .int .i64 (Lib.decodeGo (strOfNums xs)).2], he, ⟨_, _, [], [], rfl, rfl, ⟨rfl, _, rfl, rfl⟩, ⟨_, _, [], [], rfl, rfl, ⟨rfl, _, rfl, rfl⟩, rfl, rfl⟩⟩, hb⟩
noncomputable def g131_m0 (v0 : Int) : FState := ⟨tlist [(0, .dat (.int .u32) v0)], olist []⟩
noncomputable def g131_m1 (v2 : Int) : FState := ⟨tlist [(2, .dat (.int .i32) v2)], olist []⟩
noncomputable def g131_m1e : List NE := [.keep 2]
noncomputable def g131_C (n : Nat) : List (Nat × Spec) := [(165, g165_S n), (166, g166_S n)]
noncomputable def g131_G (n : Nat) : Ctx := { Γ0 with calls := lkS (g131_C n) }
noncomputable def g131_B : Code := fb Tryd.f131
noncomputable def g131_1 (n : Nat) (kr : Int → Option β) (v0 : Int) : Option β := bif (decide (v0 < (128 : Int))) then (kr (IntKind.i32.wrap (v0))) else (bif (decide (v0 < (2048 : Int))) then ((g166 n v0 (5 : Int) (6 : Int)).bind fun r1 => (g166 n v0 (6 : Int) (0 : Int)).bind fun r2 => (g165 n [(orI .u8 (192 : Int) r1.1), (orI .u8 (128 : Int) r2.1)]).bind fun r3 => bif (r3.2.1 != (2 : Int)) then none else (bif (r3.1 == (65533 : Int)) then none else (kr r3.1))) else (bif (decide (v0 < (63485 : Int))) then (bif (decide (v0 ≥ (55296 : Int))) then ((g166 n (IntKind.u32.wrap (v0 + (2048 : Int))) (4 : Int) (12 : Int)).bind fun r4 => (g166 n (IntKind.u32.wrap (v0 + (2048 : Int))) (6 : Int) (6 : Int)).bind fun r5 => (g166 n (IntKind.u32.wrap (v0 + (2048 : Int))) (6 : Int) (0 : Int)).bind fun r6 => (g165 n [(orI .u8 (224 : Int) r4.1), (orI .u8 (128 : Int) r5.1), (orI .u8 (128 : Int) r6.1)]).bind fun r7 => bif (r7.2.1 != (3 : Int)) then none else (bif (r7.1 == (65533 : Int)) then none else (kr r7.1))) else ((g166 n v0 (4 : Int) (12 : Int)).bind fun r8 => (g166 n v0 (6 : Int) (6 : Int)).bind fun r9 => (g166 n v0 (6 : Int) (0 : Int)).bind fun r10 => (g165 n [(orI .u8 (224 : Int) r8.1), (orI .u8 (128 : Int) r9.1), (orI .u8 (128 : Int) r10.1)]).bind fun r11 => bif (r11.2.1 != (3 : Int)) then none else (bif (r11.1 == (65533 : Int)) then none else (kr r11.1)))) else (bif (decide (v0 < (2095101 : Int))) then ((g166 n (IntKind.u32.wrap (v0 + (2051 : Int))) (3 : Int) (18 : Int)).bind fun r12 => (g166 n (IntKind.u32.wrap (v0 + (2051 : Int))) (6 : Int) (12 : Int)).bind fun r13 => (g166 n (IntKind.u32.wrap (v0 + (2051 : Int))) (6 : Int) (6 : Int)).bind fun r14 => (g166 n (IntKind.u32.wrap (v0 + (2051 : Int))) (6 : Int) (0 : Int)).bind fun r15 => (g165 n [(orI .u8 (240 : Int) r12.1), (orI .u8 (128 : Int) r13.1), (orI .u8 (128 : Int) r14.1), (orI .u8 (128 : Int) r15.1)]).bind fun r16 => bif (r16.2.1 != (4 : Int)) then none else (bif (r16.1 == (65533 : Int)) then none else (kr r16.1))) else none)))
noncomputable def g131_1F (n : Nat) (s : FState) (cx : Cx β) : Option β := FX (g131_G n) n (nav g131_B [0]) (.fin none none (some g131_m1e) [] .leaf) s { cx with nrm := fun s => FX (g131_G n) n (nav g131_B [1, 0, 0]) (.fin none none (some g131_m1e) [] .leaf) s { cx with nrm := fun s => FX (g131_G n) n (nav g131_B [1, 0, 1]) (.fin none none (some g131_m1e) [] .leaf) s { cx with nrm := fun s => FX (g131_G n) n (nav g131_B [1, 1, 0, 0]) (.fin none none (some g131_m1e) [] .leaf) s { cx with nrm := fun s => FX (g131_G n) n (nav g131_B [1, 1, 0, 1]) (.fin none none (some g131_m1e) [] .leaf) s { cx with nrm := fun s => FX (g131_G n) n (nav g131_B [1, 1, 1, 0, 0]) (.fin none none (some g131_m1e) [] .leaf) s { cx with nrm := fun s => FX (g131_G n) n (nav g131_B [1, 1, 1, 0, 1]) (.fin none none (some g131_m1e) [] .leaf) s { cx with nrm := fun s => FX (g131_G n) n (nav g131_B [1, 1, 1, 1, 0, 0]) (.fin none none (some g131_m1e) [] .leaf) s { cx with nrm := fun s => FX (g131_G n) n (nav g131_B [1, 1, 1, 1, 0, 1]) (.fin none none (some g131_m1e) [] .leaf) s { cx with nrm := fun s => FX (g131_G n) n (nav g131_B [1, 1, 1, 1, 1]) (.fin none none (some g131_m1e) [] .leaf) s cx } } } } } } } } }
theorem g131_1_fx (n : Nat) (cx : Cx β) (v0 : Int) : g131_1F n (g131_m0 v0) cx = g131_1 n (fun v2 => cx.ret (g131_m1 v2)) v0 := by kernel_rfl
noncomputable def g131 (n : Nat) (v0 : Int) : Option (DenR [.dat (.int .i32)]) := g131_1 n (fun v2 => some (v2, ())) v0
noncomputable def g131_A : List AK := [.dat (.int .u32)]
noncomputable def g131_R : List RK := [.dat (.int .i32)]
noncomputable def g131_f (n : Nat) (d : DenA g131_A) : Option (DenR g131_R) := g131 n d.1
noncomputable def g131_S (n : Nat) : Spec := mkSpec g131_A g131_R (g131_f n)
noncomputable def g131_K : Sk := (.nd (.fin none none (some g131_m1e) [] .leaf) (.nd (.nd (.fin none none (some g131_m1e) [] .leaf) (.fin none none (some g131_m1e) [] .leaf)) (.nd (.nd (.fin none none (some g131_m1e) [] .leaf) (.fin none none (some g131_m1e) [] .leaf)) (.nd (.nd (.fin none none (some g131_m1e) [] .leaf) (.fin none none (some g131_m1e) [] .leaf)) (.nd (.nd (.fin none none (some g131_m1e) [] .leaf) (.fin none none (some g131_m1e) [] .leaf)) (.fin none none (some g131_m1e) [] .leaf))))))
theorem g131_top (n : Nat) (s : FState) (cx : Cx β) : FX (g131_G n) n g131_B g131_K s cx = g131_1F n s cx := by kernel_rfl
theorem g131_fit (n : Nat) : Fit Tryd.prog 131 (g131_S n) :=
  fit_of (Γ := Γ0) (l := g131_C n) (n := n) (sk := g131_K) (ts := [(2, none)]) (fn := Tryd.f131) (c := g131_B) (by kernel_rfl) (by kernel_rfl) (by unfold Callable; kernel_rfl) tab_ok ⟨g165_fit n, g166_fit n, trivial⟩ follows_mixed (by kernel_rfl) (by kernel_rfl) (Nat.le_of_ble_eq_true (by kernel_rfl)) (Nat.le_of_ble_eq_true (by kernel_rfl)) (by kernel_rfl) (by kernel_rfl)
    (fun d => (g131_top n _ _).trans (Eq.trans (b := g131_1F n (g131_m0 d.1) (finCx (g131_G n) g131_R [(2, none)])) (by kernel_rfl) ((g131_1_fx n _ d.1).trans (by kernel_rfl))))
noncomputable def g106_m0 (x0 : List Int) : FState := ⟨tlist [(0, .sl 0 none false)], olist [(0, .row (.int .u32) 176 false x0)]⟩
noncomputable def g106_m1 (v2 : ByteArray) : FState := ⟨tlist [(2, .dat .str v2)], olist []⟩
noncomputable def g106_m1e : List NE := [.keep 2]
noncomputable def g106_m2 (x3 x10 : List Int) (v11 v12 : Int) : FState := ⟨tlist [(3, .sl 3 none false), (10, .sl 10 none false), (11, .dat (.int .i64) v11), (12, .dat (.int .i64) v12)], olist [(3, .row (.int .i32) 21 true x3), (10, .row (.int .u32) 176 false x10)]⟩
noncomputable def g106_m2e : List NE := [.row 3 (.int .i32) 21 true, .row 10 (.int .u32) 176 false, .keep 11, .keep 12]
noncomputable def g106_m3 (x3 : List Int) : FState := ⟨tlist [(3, .sl 3 none false)], olist [(3, .row (.int .i32) 21 true x3)]⟩
noncomputable def g106_m3e : List NE := [.row 3 (.int .i32) 21 true]
noncomputable def g106_C (n : Nat) : List (Nat × Spec) := [(131, g131_S n)]
noncomputable def g106_G (n : Nat) : Ctx := { Γ0 with calls := lkS (g106_C n) }
noncomputable def g106_B : Code := fb Tryd.f106
noncomputable def g106_1 (n : Nat) (kn : List Int → List Int → Int → Int → Option β) (kr : ByteArray → Option β) (x0 : List Int) : Option β := bif ((x0.length : Int) == (0 : Int)) then (kr (⟨#[]⟩ : ByteArray)) else (kn ([] : List Int) x0 (x0.length : Int) (0 : Int))
noncomputable def g106_1F (n : Nat) (s : FState) (cx : Cx β) : Option β := FX (g106_G n) n (nav g106_B [0]) (.fin none none (some g106_m1e) [] .leaf) s { cx with nrm := fun s => FX (g106_G n) n (nav g106_B [1, 0, 0]) (.fin none none (some g106_m1e) [] .leaf) s { cx with nrm := fun s => FX (g106_G n) n (nav g106_B [1, 0, 1]) (.fin none none (some g106_m1e) [] .leaf) s { cx with nrm := fun s => FX (g106_G n) n (nav g106_B [1, 1, 0]) (.fin none none (some g106_m1e) [] .leaf) s { cx with nrm := fun s => FX (g106_G n) n (nav g106_B [1, 1, 1, 0, 0]) (.fin none (some g106_m2e) (some g106_m1e) [] .leaf) s cx } } } }
theorem g106_1_fx (n : Nat) (cx : Cx β) (x0 : List Int) : g106_1F n (g106_m0 x0) cx = g106_1 n (fun x3 x10 v11 v12 => cx.nrm (g106_m2 x3 x10 v11 v12)) (fun v2 => cx.ret (g106_m1 v2)) x0 := by kernel_rfl
noncomputable def g106_2 (n : Nat) (kn : List Int → List Int → Int → Int → Option β) (kx0 : List Int → Option β) (x3 x10 : List Int) (v11 v12 : Int) : Option β := bif (decide (v12 < v11)) then (idx v12 (x10.length : Int) <| (g131 n (rd x10 v12 (0 : Int))).bind fun r1 => roomy (x3.length + [r1.1].length) <| kn (x3 ++ [r1.1]) x10 v11 (w64 (v12 + (1 : Int)))) else (kx0 x3)
noncomputable def g106_2F (n : Nat) (s : FState) (cx : Cx β) : Option β := FX (g106_G n) n (nav g106_B [1, 1, 1, 0, 1, 0, 0, 0]) (.fin none none none [(0, g106_m3e)] .leaf) s { cx with nrm := fun s => FX (g106_G n) n (nav g106_B [1, 1, 1, 0, 1, 0, 0, 1, 0]) (.fin none none none [(0, g106_m3e)] .leaf) s { cx with nrm := fun s => FX (g106_G n) n (nav g106_B [1, 1, 1, 0, 1, 0, 0, 1, 1, 0]) (.fin none none none [(0, g106_m3e)] .leaf) s { cx with nrm := fun s => FX (g106_G n) n (nav g106_B [1, 1, 1, 0, 1, 0, 0, 1, 1, 1]) (.fin none (some g106_m2e) none [(0, g106_m3e)] .leaf) s cx } } }
theorem g106_2_fx (n : Nat) (cx : Cx β) (x3 x10 : List Int) (v11 v12 : Int) : g106_2F n (g106_m2 x3 x10 v11 v12) cx = g106_2 n (fun x3 x10 v11 v12 => cx.nrm (g106_m2 x3 x10 v11 v12)) (fun x3 => cx.ex 0 (g106_m3 x3)) x3 x10 v11 v12 := by kernel_rfl
noncomputable def g106_3L (n : Nat) (kx0 : List Int → Option β) : Nat → List Int → List Int → Int → Int → Option β
  | 0, _, _, _, _ => none
  | m + 1, x3, x10, v11, v12 => g106_2 n (g106_3L n kx0 m) kx0 x3 x10 v11 v12
noncomputable def g106_3 (n : Nat) (kx0 : List Int → Option β) (x3 x10 : List Int) (v11 v12 : Int) : Option β := g106_3L n kx0 n x3 x10 v11 v12
noncomputable def g106_3F (n : Nat) (s : FState) (cx : Cx β) : Option β := loopN (fun again s => g106_2F n s { cx with nrm := again }) n s
theorem g106_3L_fx (n : Nat) (cx : Cx β) : ∀ (m : Nat) (x3 x10 : List Int) (v11 v12 : Int), loopN (fun again s => g106_2F n s { cx with nrm := again }) m (g106_m2 x3 x10 v11 v12) = g106_3L n (fun x3 => cx.ex 0 (g106_m3 x3)) m x3 x10 v11 v12 := by
  intro m
  induction m with
  | zero => intros; rfl
  | succ m ih => intros; simp only [loopN, g106_3L, g106_2_fx, ih]
theorem g106_3_fx (n : Nat) (cx : Cx β) (x3 x10 : List Int) (v11 v12 : Int) : g106_3F n (g106_m2 x3 x10 v11 v12) cx = g106_3 n (fun x3 => cx.ex 0 (g106_m3 x3)) x3 x10 v11 v12 := g106_3L_fx n cx n x3 x10 v11 v12
noncomputable def g106_4 (n : Nat) (kn : List Int → Option β) (x3 x10 : List Int) (v11 v12 : Int) : Option β := g106_3 n kn x3 x10 v11 v12
noncomputable def g106_4F (n : Nat) (s : FState) (cx : Cx β) : Option β := g106_3F n s { cx with ex := fun j s => bif Nat.beq j 0 then cx.nrm s else cx.ex j s }
theorem g106_4_fx (n : Nat) (cx : Cx β) (x3 x10 : List Int) (v11 v12 : Int) : g106_4F n (g106_m2 x3 x10 v11 v12) cx = g106_4 n (fun x3 => cx.nrm (g106_m3 x3)) x3 x10 v11 v12 := g106_3_fx n _ x3 x10 v11 v12
noncomputable def g106_5 (n : Nat) (kr : ByteArray → Option β) (x3 : List Int) : Option β := kr (runesBytes x3)
noncomputable def g106_5F (n : Nat) (s : FState) (cx : Cx β) : Option β := FX (g106_G n) n (nav g106_B [1, 1, 1, 1, 0]) (.fin none none (some g106_m1e) [] .leaf) s { cx with nrm := fun s => FX (g106_G n) n (nav g106_B [1, 1, 1, 1, 1]) (.fin none none (some g106_m1e) [] .leaf) s cx }
theorem g106_5_fx (n : Nat) (cx : Cx β) (x3 : List Int) : g106_5F n (g106_m3 x3) cx = g106_5 n (fun v2 => cx.ret (g106_m1 v2)) x3 := by kernel_rfl
noncomputable def g106_6 (n : Nat) (kr : ByteArray → Option β) (x0 : List Int) : Option β := g106_1 n (fun x3 x10 v11 v12 => g106_4 n (fun x3 => g106_5 n kr x3) x3 x10 v11 v12) kr x0
noncomputable def g106_6F (n : Nat) (s : FState) (cx : Cx β) : Option β := g106_1F n s { cx with nrm := fun s => g106_4F n s { cx with nrm := fun s => g106_5F n s cx } }
theorem g106_6_fx (n : Nat) (cx : Cx β) (x0 : List Int) : g106_6F n (g106_m0 x0) cx = g106_6 n (fun v2 => cx.ret (g106_m1 v2)) x0 := by simp only [g106_6F, g106_6, g106_1_fx, g106_4_fx, g106_5_fx]
noncomputable def g106 (n : Nat) (x0 : List Int) : Option (DenR [.dat .str]) := g106_6 n (fun v2 => some (v2, ())) x0
noncomputable def g106_A : List AK := [.ro (.int .u32) 176]
noncomputable def g106_R : List RK := [.dat .str]
noncomputable def g106_f (n : Nat) (d : DenA g106_A) : Option (DenR g106_R) := g106 n d.1
noncomputable def g106_S (n : Nat) : Spec := mkSpec g106_A g106_R (g106_f n)
noncomputable def g106_K : Sk := (.nd (.fin none none (some g106_m1e) [] .leaf) (.nd (.nd (.fin none none (some g106_m1e) [] .leaf) (.fin none none (some g106_m1e) [] .leaf)) (.nd (.fin none none (some g106_m1e) [] .leaf) (.nd (.nd (.fin none (some g106_m2e) (some g106_m1e) [] .leaf) (.nd (.nd (.nd (.fin none none none [(0, g106_m3e)] .leaf) (.nd (.fin none none none [(0, g106_m3e)] .leaf) (.nd (.fin none none none [(0, g106_m3e)] .leaf) (.fin none (some g106_m2e) none [(0, g106_m3e)] .leaf)))) .leaf) .leaf)) (.nd (.fin none none (some g106_m1e) [] .leaf) (.fin none none (some g106_m1e) [] .leaf))))))
theorem g106_top (n : Nat) (s : FState) (cx : Cx β) : FX (g106_G n) n g106_B g106_K s cx = g106_6F n s cx := by kernel_rfl
theorem g106_fit (n : Nat) : Fit Tryd.prog 106 (g106_S n) :=
  fit_of (Γ := Γ0) (l := g106_C n) (n := n) (sk := g106_K) (ts := [(2, none)]) (fn := Tryd.f106) (c := g106_B) (by kernel_rfl) (by kernel_rfl) (by unfold Callable; kernel_rfl) tab_ok ⟨g131_fit n, trivial⟩ follows_mixed (by kernel_rfl) (by kernel_rfl) (Nat.le_of_ble_eq_true (by kernel_rfl)) (Nat.le_of_ble_eq_true (by kernel_rfl)) (by kernel_rfl) (by kernel_rfl)
    (fun d => (g106_top n _ _).trans (Eq.trans (b := g106_6F n (g106_m0 d.1) (finCx (g106_G n) g106_R [(2, none)])) (by kernel_rfl) ((g106_6_fx n _ d.1).trans (by kernel_rfl))))
noncomputable def g74_m0 (p0 : (Int × (Int × (Int × (Nat × (Int × (Int × Nat))))))) (v1 v2 : ByteArray) : FState := ⟨tlist [(0, .ptr 0 0 0), (1, .dat .str v1), (2, .dat .str v2)], olist [(0, .row (.pair (.int .i64) (.pair (.int .i64) (.pair (.int .i64) (.pair (.flt .f64) (.pair (.int .i64) (.pair (.int .i64) (.flt .f64))))))) 112 false [p0])]⟩
noncomputable def g74_m1 (v6 v7 : ByteArray) (x8 : List ByteArray) : FState := ⟨tlist [(6, .dat .str v6), (7, .dat .str v7), (8, .sl 8 none false)], olist [(8, .row .str 9 true x8)]⟩
noncomputable def g74_m1e : List NE := [.keep 6, .keep 7, .row 8 .str 9 true]
noncomputable def g74_C (n : Nat) : List (Nat × Spec) := [(105, g105_S n), (106, g106_S n)]
noncomputable def g74_G (n : Nat) : Ctx := { Γ0 with calls := lkS (g74_C n), cel := [9] }
noncomputable def g74_B : Code := fb Tryd.f74
noncomputable def g74_1 (n : Nat) (kr : ByteArray → ByteArray → List ByteArray → Option β) (p0 : (Int × (Int × (Int × (Nat × (Int × (Int × Nat))))))) (v1 v2 : ByteArray) : Option β := (g105 n p0 v1 [(⟨#[]⟩ : ByteArray)] ([] : List (ByteArray × Int))).bind fun r1 => (g105 n p0 v2 r1.2.1 r1.2.2.1).bind fun r2 => (g106 n r1.1.1).bind fun r3 => (g106 n r2.1.1).bind fun r4 => kr r3.1 r4.1 r2.2.1
noncomputable def g74_1F (n : Nat) (s : FState) (cx : Cx β) : Option β := FX (g74_G n) n (nav g74_B [0]) (.fin none none (some g74_m1e) [] .leaf) s { cx with nrm := fun s => FX (g74_G n) n (nav g74_B [1, 0]) (.fin none none (some g74_m1e) [] .leaf) s { cx with nrm := fun s => FX (g74_G n) n (nav g74_B [1, 1, 0]) (.fin none none (some g74_m1e) [] .leaf) s { cx with nrm := fun s => FX (g74_G n) n (nav g74_B [1, 1, 1, 0]) (.fin none none (some g74_m1e) [] .leaf) s { cx with nrm := fun s => FX (g74_G n) n (nav g74_B [1, 1, 1, 1, 0]) (.fin none none (some g74_m1e) [] .leaf) s { cx with nrm := fun s => FX (g74_G n) n (nav g74_B [1, 1, 1, 1, 1, 0]) (.fin none none (some g74_m1e) [] .leaf) s { cx with nrm := fun s => FX (g74_G n) n (nav g74_B [1, 1, 1, 1, 1, 1]) (.fin none none (some g74_m1e) [] .leaf) s cx } } } } } }
theorem g74_1_fx (n : Nat) (cx : Cx β) (p0 : (Int × (Int × (Int × (Nat × (Int × (Int × Nat))))))) (v1 v2 : ByteArray) : g74_1F n (g74_m0 p0 v1 v2) cx = g74_1 n (fun v6 v7 x8 => cx.ret (g74_m1 v6 v7 x8)) p0 v1 v2 := by kernel_rfl
noncomputable def g74 (n : Nat) (p0 : (Int × (Int × (Int × (Nat × (Int × (Int × Nat))))))) (v1 v2 : ByteArray) : Option (DenR [.dat .str, .dat .str, .rw .str 9]) := g74_1 n (fun v6 v7 x8 => some (v6, (v7, (x8, ())))) p0 v1 v2
noncomputable def g74_A : List AK := [.pro (.pair (.int .i64) (.pair (.int .i64) (.pair (.int .i64) (.pair (.flt .f64) (.pair (.int .i64) (.pair (.int .i64) (.flt .f64))))))) 112, .dat .str, .dat .str]
noncomputable def g74_R : List RK := [.dat .str, .dat .str, .rw .str 9]
noncomputable def g74_f (n : Nat) (d : DenA g74_A) : Option (DenR g74_R) := g74 n d.1 d.2.1 d.2.2.1
noncomputable def g74_S (n : Nat) : Spec := mkSpec g74_A g74_R (g74_f n)
noncomputable def g74_K : Sk := (.nd (.fin none none (some g74_m1e) [] .leaf) (.nd (.fin none none (some g74_m1e) [] .leaf) (.nd (.fin none none (some g74_m1e) [] .leaf) (.nd (.fin none none (some g74_m1e) [] .leaf) (.nd (.fin none none (some g74_m1e) [] .leaf) (.nd (.fin none none (some g74_m1e) [] .leaf) (.fin none none (some g74_m1e) [] .leaf)))))))
theorem g74_top (n : Nat) (s : FState) (cx : Cx β) : FX (g74_G n) n g74_B g74_K s cx = g74_1F n s cx := by kernel_rfl
theorem g74_fit (n : Nat) : Fit Tryd.prog 74 (g74_S n) :=
  fit_of (Γ := { Γ0 with cel := [9] }) (l := g74_C n) (n := n) (sk := g74_K) (ts := [(6, none), (7, none), (8, none)]) (fn := Tryd.f74) (c := g74_B) (by kernel_rfl) (by kernel_rfl) (by unfold Callable; kernel_rfl) (tabCel tab_ok [9]) ⟨g105_fit n, g106_fit n, trivial⟩ follows_mixed (by kernel_rfl) (by kernel_rfl) (Nat.le_of_ble_eq_true (by kernel_rfl)) (Nat.le_of_ble_eq_true (by kernel_rfl)) (by kernel_rfl) (by kernel_rfl)
    (fun d => (g74_top n _ _).trans (Eq.trans (b := g74_1F n (g74_m0 d.1 d.2.1 d.2.2.1) (finCx (g74_G n) g74_R [(6, none), (7, none), (8, none)])) (by kernel_rfl) ((g74_1_fx n _ d.1 d.2.1 d.2.2.1).trans (by kernel_rfl))))
noncomputable def g45_m0 (p0 : (Int × (Int × (Int × (Nat × (Int × (Int × Nat))))))) (v1 v2 : ByteArray) : FState := ⟨tlist [(0, .ptr 0 0 0), (1, .dat .str v1), (2, .dat .str v2)], olist [(0, .row (.pair (.int .i64) (.pair (.int .i64) (.pair (.int .i64) (.pair (.flt .f64) (.pair (.int .i64) (.pair (.int .i64) (.flt .f64))))))) 112 false [p0])]⟩
noncomputable def g45_m1 (v6 v7 : ByteArray) (x8 : List ByteArray) : FState := ⟨tlist [(6, .dat .str v6), (7, .dat .str v7), (8, .sl 8 none false)], olist [(8, .row .str 9 true x8)]⟩
noncomputable def g45_m1e : List NE := [.keep 6, .keep 7, .row 8 .str 9 true]
noncomputable def g45_C (n : Nat) : List (Nat × Spec) := [(74, g74_S n)]
noncomputable def g45_G (n : Nat) : Ctx := { Γ0 with calls := lkS (g45_C n) }
noncomputable def g45_B : Code := fb Tryd.f45
noncomputable def g45_1 (n : Nat) (kr : ByteArray → ByteArray → List ByteArray → Option β) (p0 : (Int × (Int × (Int × (Nat × (Int × (Int × Nat))))))) (v1 v2 : ByteArray) : Option β := (g74 n p0 v1 v2).bind fun r1 => kr r1.1 r1.2.1 r1.2.2.1
noncomputable def g45_1F (n : Nat) (s : FState) (cx : Cx β) : Option β := FX (g45_G n) n (nav g45_B [0]) (.fin none none (some g45_m1e) [] .leaf) s { cx with nrm := fun s => FX (g45_G n) n (nav g45_B [1, 0]) (.fin none none (some g45_m1e) [] .leaf) s { cx with nrm := fun s => FX (g45_G n) n (nav g45_B [1, 1, 0]) (.fin none none (some g45_m1e) [] .leaf) s { cx with nrm := fun s => FX (g45_G n) n (nav g45_B [1, 1, 1]) (.fin none none (some g45_m1e) [] .leaf) s cx } } }
theorem g45_1_fx (n : Nat) (cx : Cx β) (p0 : (Int × (Int × (Int × (Nat × (Int × (Int × Nat))))))) (v1 v2 : ByteArray) : g45_1F n (g45_m0 p0 v1 v2) cx = g45_1 n (fun v6 v7 x8 => cx.ret (g45_m1 v6 v7 x8)) p0 v1 v2 := by kernel_rfl
noncomputable def g45 (n : Nat) (p0 : (Int × (Int × (Int × (Nat × (Int × (Int × Nat))))))) (v1 v2 : ByteArray) : Option (DenR [.dat .str, .dat .str, .rw .str 9]) := g45_1 n (fun v6 v7 x8 => some (v6, (v7, (x8, ())))) p0 v1 v2
noncomputable def g45_A : List AK := [.pro (.pair (.int .i64) (.pair (.int .i64) (.pair (.int .i64) (.pair (.flt .f64) (.pair (.int .i64) (.pair (.int .i64) (.flt .f64))))))) 112, .dat .str, .dat .str]
noncomputable def g45_R : List RK := [.dat .str, .dat .str, .rw .str 9]
noncomputable def g45_f (n : Nat) (d : DenA g45_A) : Option (DenR g45_R) := g45 n d.1 d.2.1 d.2.2.1
noncomputable def g45_S (n : Nat) : Spec := mkSpec g45_A g45_R (g45_f n)
noncomputable def g45_K : Sk := (.nd (.fin none none (some g45_m1e) [] .leaf) (.nd (.fin none none (some g45_m1e) [] .leaf) (.nd (.fin none none (some g45_m1e) [] .leaf) (.fin none none (some g45_m1e) [] .leaf))))
theorem g45_top (n : Nat) (s : FState) (cx : Cx β) : FX (g45_G n) n g45_B g45_K s cx = g45_1F n s cx := by kernel_rfl
theorem g45_fit (n : Nat) : Fit Tryd.prog 45 (g45_S n) :=
  fit_of (Γ := Γ0) (l := g45_C n) (n := n) (sk := g45_K) (ts := [(6, none), (7, none), (8, none)]) (fn := Tryd.f45) (c := g45_B) (by kernel_rfl) (by kernel_rfl) (by unfold Callable; kernel_rfl) tab_ok ⟨g74_fit n, trivial⟩ follows_mixed (by kernel_rfl) (by kernel_rfl) (Nat.le_of_ble_eq_true (by kernel_rfl)) (Nat.le_of_ble_eq_true (by kernel_rfl)) (by kernel_rfl) (by kernel_rfl)
    (fun d => (g45_top n _ _).trans (Eq.trans (b := g45_1F n (g45_m0 d.1 d.2.1 d.2.2.1) (finCx (g45_G n) g45_R [(6, none), (7, none), (8, none)])) (by kernel_rfl) ((g45_1_fx n _ d.1 d.2.1 d.2.2.1).trans (by kernel_rfl))))
noncomputable def g15_m0 (v0 v1 : ByteArray) : FState := ⟨tlist [(0, .dat .str v0), (1, .dat .str v1)], olist []⟩
noncomputable def g15_m1 (v4 v5 : ByteArray) (x6 : List ByteArray) : FState := ⟨tlist [(4, .dat .str v4), (5, .dat .str v5), (6, .sl 6 none false)], olist [(6, .row .str 9 true x6)]⟩
noncomputable def g15_m1e : List NE := [.keep 4, .keep 5, .row 6 .str 9 true]
noncomputable def g15_C (n : Nat) : List (Nat × Spec) := [(44, g44_S n), (45, g45_S n)]
noncomputable def g15_G (n : Nat) : Ctx := { Γ0 with calls := lkS (g15_C n) }
noncomputable def g15_B : Code := fb Tryd.f15
noncomputable def g15_1 (n : Nat) (kr : ByteArray → ByteArray → List ByteArray → Option β) (v0 v1 : ByteArray) : Option β := (g44 n).bind fun r1 => (g45 n r1.1 v0 v1).bind fun r2 => kr r2.1 r2.2.1 r2.2.2.1
noncomputable def g15_1F (n : Nat) (s : FState) (cx : Cx β) : Option β := FX (g15_G n) n (nav g15_B [0]) (.fin none none (some g15_m1e) [] .leaf) s { cx with nrm := fun s => FX (g15_G n) n (nav g15_B [1, 0]) (.fin none none (some g15_m1e) [] .leaf) s { cx with nrm := fun s => FX (g15_G n) n (nav g15_B [1, 1]) (.fin none none (some g15_m1e) [] .leaf) s cx } }
theorem g15_1_fx (n : Nat) (cx : Cx β) (v0 v1 : ByteArray) : g15_1F n (g15_m0 v0 v1) cx = g15_1 n (fun v4 v5 x6 => cx.ret (g15_m1 v4 v5 x6)) v0 v1 := by kernel_rfl
noncomputable def g15 (n : Nat) (v0 v1 : ByteArray) : Option (DenR [.dat .str, .dat .str, .rw .str 9]) := g15_1 n (fun v4 v5 x6 => some (v4, (v5, (x6, ())))) v0 v1
noncomputable def g15_A : List AK := [.dat .str, .dat .str]
noncomputable def g15_R : List RK := [.dat .str, .dat .str, .rw .str 9]
noncomputable def g15_f (n : Nat) (d : DenA g15_A) : Option (DenR g15_R) := g15 n d.1 d.2.1
noncomputable def g15_S (n : Nat) : Spec := mkSpec g15_A g15_R (g15_f n)
noncomputable def g15_K : Sk := (.nd (.fin none none (some g15_m1e) [] .leaf) (.nd (.fin none none (some g15_m1e) [] .leaf) (.fin none none (some g15_m1e) [] .leaf)))
theorem g15_top (n : Nat) (s : FState) (cx : Cx β) : FX (g15_G n) n g15_B g15_K s cx = g15_1F n s cx := by kernel_rfl
theorem g15_fit (n : Nat) : Fit Tryd.prog 15 (g15_S n) :=
  fit_of (Γ := Γ0) (l := g15_C n) (n := n) (sk := g15_K) (ts := [(4, none), (5, none), (6, none)]) (fn := Tryd.f15) (c := g15_B) (by kernel_rfl) (by kernel_rfl) (by unfold Callable; kernel_rfl) tab_ok ⟨g44_fit n, g45_fit n, trivial⟩ follows_mixed (by kernel_rfl) (by kernel_rfl) (Nat.le_of_ble_eq_true (by kernel_rfl)) (Nat.le_of_ble_eq_true (by kernel_rfl)) (by kernel_rfl) (by kernel_rfl)
    (fun d => (g15_top n _ _).trans (Eq.trans (b := g15_1F n (g15_m0 d.1 d.2.1) (finCx (g15_G n) g15_R [(4, none), (5, none), (6, none)])) (by kernel_rfl) ((g15_1_fx n _ d.1 d.2.1).trans (by kernel_rfl))))
noncomputable def g92_m0 (v0 : Int) : FState := ⟨tlist [(0, .dat (.int .i64) v0)], olist []⟩
noncomputable def g92_m1 (v2 : Int) : FState := ⟨tlist [(2, .dat (.int .i8) v2)], olist []⟩
noncomputable def g92_m1e : List NE := [.keep 2]
noncomputable def g92_C (n : Nat) : List (Nat × Spec) := []
noncomputable def g92_G (n : Nat) : Ctx := { Γ0 with calls := lkS (g92_C n) }
noncomputable def g92_B : Code := fb Tryd.f92
noncomputable def g92_1 (n : Nat) (kr : Int → Option β) (v0 : Int) : Option β := bif (v0 == (-1 : Int)) then (kr (-1 : Int)) else (bif (v0 == (1 : Int)) then (kr (1 : Int)) else (kr (0 : Int)))
noncomputable def g92_1F (n : Nat) (s : FState) (cx : Cx β) : Option β := FX (g92_G n) n (nav g92_B [0]) (.fin none none (some g92_m1e) [] .leaf) s { cx with nrm := fun s => FX (g92_G n) n (nav g92_B [1, 0, 0]) (.fin none none (some g92_m1e) [] .leaf) s { cx with nrm := fun s => FX (g92_G n) n (nav g92_B [1, 0, 1]) (.fin none none (some g92_m1e) [] .leaf) s { cx with nrm := fun s => FX (g92_G n) n (nav g92_B [1, 1, 0]) (.fin none none (some g92_m1e) [] .leaf) s { cx with nrm := fun s => FX (g92_G n) n (nav g92_B [1, 1, 1]) (.fin none none (some g92_m1e) [] .leaf) s cx } } } }
theorem g92_1_fx (n : Nat) (cx : Cx β) (v0 : Int) : g92_1F n (g92_m0 v0) cx = g92_1 n (fun v2 => cx.ret (g92_m1 v2)) v0 := by kernel_rfl
noncomputable def g92 (n : Nat) (v0 : Int) : Option (DenR [.dat (.int .i8)]) := g92_1 n (fun v2 => some (v2, ())) v0
noncomputable def g92_A : List AK := [.dat (.int .i64)]
noncomputable def g92_R : List RK := [.dat (.int .i8)]
noncomputable def g92_f (n : Nat) (d : DenA g92_A) : Option (DenR g92_R) := g92 n d.1
noncomputable def g92_S (n : Nat) : Spec := mkSpec g92_A g92_R (g92_f n)
noncomputable def g92_K : Sk := (.nd (.fin none none (some g92_m1e) [] .leaf) (.nd (.nd (.fin none none (some g92_m1e) [] .leaf) (.fin none none (some g92_m1e) [] .leaf)) (.nd (.fin none none (some g92_m1e) [] .leaf) (.fin none none (some g92_m1e) [] .leaf))))
theorem g92_top (n : Nat) (s : FState) (cx : Cx β) : FX (g92_G n) n g92_B g92_K s cx = g92_1F n s cx := by kernel_rfl
theorem g92_fit (n : Nat) : Fit Tryd.prog 92 (g92_S n) :=
  fit_of (Γ := Γ0) (l := g92_C n) (n := n) (sk := g92_K) (ts := [(2, none)]) (fn := Tryd.f92) (c := g92_B) (by kernel_rfl) (by kernel_rfl) (by unfold Callable; kernel_rfl) tab_ok trivial follows_mixed (by kernel_rfl) (by kernel_rfl) (Nat.le_of_ble_eq_true (by kernel_rfl)) (Nat.le_of_ble_eq_true (by kernel_rfl)) (by kernel_rfl) (by kernel_rfl)
    (fun d => (g92_top n _ _).trans (Eq.trans (b := g92_1F n (g92_m0 d.1) (finCx (g92_G n) g92_R [(2, none)])) (by kernel_rfl) ((g92_1_fx n _ d.1).trans (by kernel_rfl))))
noncomputable def g57_m0 (x0 : List (Int × ByteArray)) : FState := ⟨tlist [(0, .sl 0 none false)], olist [(0, .row (.pair (.int .i64) .str) 29 false x0)]⟩
noncomputable def g57_m1 (x2 : List (Int × ByteArray)) : FState := ⟨tlist [(2, .sl 2 none false)], olist [(2, .row (.pair (.int .i8) .str) 125 true x2)]⟩
noncomputable def g57_m1e : List NE := [.row 2 (.pair (.int .i8) .str) 125 true]
noncomputable def g57_m2 (x3 x6 : List (Int × ByteArray)) (v7 v8 : Int) : FState := ⟨tlist [(3, .sl 3 none false), (6, .sl 6 none false), (7, .dat (.int .i64) v7), (8, .dat (.int .i64) v8)], olist [(3, .row (.pair (.int .i8) .str) 125 true x3), (6, .row (.pair (.int .i64) .str) 29 false x6)]⟩
noncomputable def g57_m2e : List NE := [.row 3 (.pair (.int .i8) .str) 125 true, .row 6 (.pair (.int .i64) .str) 29 false, .keep 7, .keep 8]
noncomputable def g57_m3 (x3 : List (Int × ByteArray)) : FState := ⟨tlist [(3, .sl 3 none false)], olist [(3, .row (.pair (.int .i8) .str) 125 true x3)]⟩
noncomputable def g57_m3e : List NE := [.row 3 (.pair (.int .i8) .str) 125 true]
noncomputable def g57_C (n : Nat) : List (Nat × Spec) := [(92, g92_S n)]
noncomputable def g57_G (n : Nat) : Ctx := { Γ0 with calls := lkS (g57_C n) }
noncomputable def g57_B : Code := fb Tryd.f57
noncomputable def g57_1 (n : Nat) (kn : List (Int × ByteArray) → List (Int × ByteArray) → Int → Int → Option β) (x0 : List (Int × ByteArray)) : Option β := kn [] x0 (x0.length : Int) (0 : Int)
noncomputable def g57_1F (n : Nat) (s : FState) (cx : Cx β) : Option β := FX (g57_G n) n (nav g57_B [0]) (.fin none none none [] .leaf) s { cx with nrm := fun s => FX (g57_G n) n (nav g57_B [1, 0]) (.fin none none none [] .leaf) s { cx with nrm := fun s => FX (g57_G n) n (nav g57_B [1, 1, 0, 0]) (.fin none (some g57_m2e) none [] .leaf) s cx } }
theorem g57_1_fx (n : Nat) (cx : Cx β) (x0 : List (Int × ByteArray)) : g57_1F n (g57_m0 x0) cx = g57_1 n (fun x3 x6 v7 v8 => cx.nrm (g57_m2 x3 x6 v7 v8)) x0 := by kernel_rfl
noncomputable def g57_2 (n : Nat) (kn : List (Int × ByteArray) → List (Int × ByteArray) → Int → Int → Option β) (kx0 : List (Int × ByteArray) → Option β) (x3 x6 : List (Int × ByteArray)) (v7 v8 : Int) : Option β := bif (decide (v8 < v7)) then (idx v8 (x6.length : Int) <| (g92 n ((rd [(rd x6 v8 ((0 : Int), (⟨#[]⟩ : ByteArray)))] (0 : Int) ((0 : Int), (⟨#[]⟩ : ByteArray))).1)).bind fun r1 => roomy (x3.length + [(r1.1, (rd [(rd x6 v8 ((0 : Int), (⟨#[]⟩ : ByteArray)))] (0 : Int) ((0 : Int), (⟨#[]⟩ : ByteArray))).2)].length) <| kn (x3 ++ [(r1.1, (rd [(rd x6 v8 ((0 : Int), (⟨#[]⟩ : ByteArray)))] (0 : Int) ((0 : Int), (⟨#[]⟩ : ByteArray))).2)]) x6 v7 (w64 (v8 + (1 : Int)))) else (kx0 x3)
noncomputable def g57_2F (n : Nat) (s : FState) (cx : Cx β) : Option β := FX (g57_G n) n (nav g57_B [1, 1, 0, 1, 0, 0, 0]) (.fin none none none [(0, g57_m3e)] .leaf) s { cx with nrm := fun s => FX (g57_G n) n (nav g57_B [1, 1, 0, 1, 0, 0, 1, 0]) (.fin none none none [(0, g57_m3e)] .leaf) s { cx with nrm := fun s => FX (g57_G n) n (nav g57_B [1, 1, 0, 1, 0, 0, 1, 1, 0]) (.fin none none none [(0, g57_m3e)] .leaf) s { cx with nrm := fun s => FX (g57_G n) n (nav g57_B [1, 1, 0, 1, 0, 0, 1, 1, 1]) (.fin none (some g57_m2e) none [(0, g57_m3e)] .leaf) s cx } } }
theorem g57_2_fx (n : Nat) (cx : Cx β) (x3 x6 : List (Int × ByteArray)) (v7 v8 : Int) : g57_2F n (g57_m2 x3 x6 v7 v8) cx = g57_2 n (fun x3 x6 v7 v8 => cx.nrm (g57_m2 x3 x6 v7 v8)) (fun x3 => cx.ex 0 (g57_m3 x3)) x3 x6 v7 v8 := by kernel_rfl
noncomputable def g57_3L (n : Nat) (kx0 : List (Int × ByteArray) → Option β) : Nat → List (Int × ByteArray) → List (Int × ByteArray) → Int → Int → Option β
  | 0, _, _, _, _ => none
  | m + 1, x3, x6, v7, v8 => g57_2 n (g57_3L n kx0 m) kx0 x3 x6 v7 v8
noncomputable def g57_3 (n : Nat) (kx0 : List (Int × ByteArray) → Option β) (x3 x6 : List (Int × ByteArray)) (v7 v8 : Int) : Option β := g57_3L n kx0 n x3 x6 v7 v8
noncomputable def g57_3F (n : Nat) (s : FState) (cx : Cx β) : Option β := loopN (fun again s => g57_2F n s { cx with nrm := again }) n s
theorem g57_3L_fx (n : Nat) (cx : Cx β) : ∀ (m : Nat) (x3 x6 : List (Int × ByteArray)) (v7 v8 : Int), loopN (fun again s => g57_2F n s { cx with nrm := again }) m (g57_m2 x3 x6 v7 v8) = g57_3L n (fun x3 => cx.ex 0 (g57_m3 x3)) m x3 x6 v7 v8 := by
  intro m
  induction m with
  | zero => intros; rfl
  | succ m ih => intros; simp only [loopN, g57_3L, g57_2_fx, ih]
theorem g57_3_fx (n : Nat) (cx : Cx β) (x3 x6 : List (Int × ByteArray)) (v7 v8 : Int) : g57_3F n (g57_m2 x3 x6 v7 v8) cx = g57_3 n (fun x3 => cx.ex 0 (g57_m3 x3)) x3 x6 v7 v8 := g57_3L_fx n cx n x3 x6 v7 v8
noncomputable def g57_4 (n : Nat) (kn : List (Int × ByteArray) → Option β) (x3 x6 : List (Int × ByteArray)) (v7 v8 : Int) : Option β := g57_3 n kn x3 x6 v7 v8
noncomputable def g57_4F (n : Nat) (s : FState) (cx : Cx β) : Option β := g57_3F n s { cx with ex := fun j s => bif Nat.beq j 0 then cx.nrm s else cx.ex j s }
theorem g57_4_fx (n : Nat) (cx : Cx β) (x3 x6 : List (Int × ByteArray)) (v7 v8 : Int) : g57_4F n (g57_m2 x3 x6 v7 v8) cx = g57_4 n (fun x3 => cx.nrm (g57_m3 x3)) x3 x6 v7 v8 := g57_3_fx n _ x3 x6 v7 v8
noncomputable def g57_5 (n : Nat) (kr : List (Int × ByteArray) → Option β) (x3 : List (Int × ByteArray)) : Option β := kr x3
noncomputable def g57_5F (n : Nat) (s : FState) (cx : Cx β) : Option β := FX (g57_G n) n (nav g57_B [1, 1, 1, 0]) (.fin none none (some g57_m1e) [] .leaf) s { cx with nrm := fun s => FX (g57_G n) n (nav g57_B [1, 1, 1, 1]) (.fin none none (some g57_m1e) [] .leaf) s cx }
theorem g57_5_fx (n : Nat) (cx : Cx β) (x3 : List (Int × ByteArray)) : g57_5F n (g57_m3 x3) cx = g57_5 n (fun x2 => cx.ret (g57_m1 x2)) x3 := by kernel_rfl
noncomputable def g57_6 (n : Nat) (kr : List (Int × ByteArray) → Option β) (x0 : List (Int × ByteArray)) : Option β := g57_1 n (fun x3 x6 v7 v8 => g57_4 n (fun x3 => g57_5 n kr x3) x3 x6 v7 v8) x0
noncomputable def g57_6F (n : Nat) (s : FState) (cx : Cx β) : Option β := g57_1F n s { cx with nrm := fun s => g57_4F n s { cx with nrm := fun s => g57_5F n s cx } }
theorem g57_6_fx (n : Nat) (cx : Cx β) (x0 : List (Int × ByteArray)) : g57_6F n (g57_m0 x0) cx = g57_6 n (fun x2 => cx.ret (g57_m1 x2)) x0 := by simp only [g57_6F, g57_6, g57_1_fx, g57_4_fx, g57_5_fx]
noncomputable def g57 (n : Nat) (x0 : List (Int × ByteArray)) : Option (DenR [.rw (.pair (.int .i8) .str) 125]) := g57_6 n (fun x2 => some (x2, ())) x0
noncomputable def g57_A : List AK := [.ro (.pair (.int .i64) .str) 29]
noncomputable def g57_R : List RK := [.rw (.pair (.int .i8) .str) 125]
noncomputable def g57_f (n : Nat) (d : DenA g57_A) : Option (DenR g57_R) := g57 n d.1
noncomputable def g57_S (n : Nat) : Spec := mkSpec g57_A g57_R (g57_f n)
noncomputable def g57_K : Sk := (.nd (.fin none none none [] .leaf) (.nd (.fin none none none [] .leaf) (.nd (.nd (.fin none (some g57_m2e) none [] .leaf) (.nd (.nd (.nd (.fin none none none [(0, g57_m3e)] .leaf) (.nd (.fin none none none [(0, g57_m3e)] .leaf) (.nd (.fin none none none [(0, g57_m3e)] .leaf) (.fin none (some g57_m2e) none [(0, g57_m3e)] .leaf)))) .leaf) .leaf)) (.nd (.fin none none (some g57_m1e) [] .leaf) (.fin none none (some g57_m1e) [] .leaf)))))
theorem g57_top (n : Nat) (s : FState) (cx : Cx β) : FX (g57_G n) n g57_B g57_K s cx = g57_6F n s cx := by kernel_rfl
theorem g57_fit (n : Nat) : Fit Tryd.prog 57 (g57_S n) :=
  fit_of (Γ := Γ0) (l := g57_C n) (n := n) (sk := g57_K) (ts := [(2, none)]) (fn := Tryd.f57) (c := g57_B) (by kernel_rfl) (by kernel_rfl) (by unfold Callable; kernel_rfl) tab_ok ⟨g92_fit n, trivial⟩ follows_mixed (by kernel_rfl) (by kernel_rfl) (Nat.le_of_ble_eq_true (by kernel_rfl)) (Nat.le_of_ble_eq_true (by kernel_rfl)) (by kernel_rfl) (by kernel_rfl)
    (fun d => (g57_top n _ _).trans (Eq.trans (b := g57_6F n (g57_m0 d.1) (finCx (g57_G n) g57_R [(2, none)])) (by kernel_rfl) ((g57_6_fx n _ d.1).trans (by kernel_rfl))))
noncomputable def g167_m0 (x0 : List Int) (v1 : Int) : FState := ⟨tlist [(0, .sl 0 none false), (1, .dat (.int .i32) v1)], olist [(0, .row (.int .u8) 5 true x0)]⟩
noncomputable def g167_m0e : List NE := [.row 0 (.int .u8) 5 true, .keep 1]
noncomputable def g167_m1 (x0 : List Int) (v4 : Int) : FState := ⟨tlist [(0, .sl 0 none false), (4, .dat (.int .i64) v4)], olist [(0, .row (.int .u8) 5 true x0)]⟩
noncomputable def g167_m1e : List NE := [.row 0 (.int .u8) 5 true, .keep 4]
noncomputable def g167_m2 (x0 : List Int) (v1 v5 : Int) : FState := ⟨tlist [(0, .sl 0 none false), (1, .dat (.int .i32) v1), (5, .dat (.int .u32) v5)], olist [(0, .row (.int .u8) 5 true x0)]⟩
noncomputable def g167_m2e : List NE := [.row 0 (.int .u8) 5 true, .keep 1, .keep 5]
noncomputable def g167_C (n : Nat) : List (Nat × Spec) := []
noncomputable def g167_G (n : Nat) : Ctx := { Γ0 with calls := lkS (g167_C n) }
noncomputable def g167_B : Code := fb Tryd.f167
noncomputable def g167_1 (n : Nat) (kn : List Int → Int → Int → Option β) (x0 : List Int) (v1 : Int) : Option β := kn x0 v1 (IntKind.u32.wrap (v1))
noncomputable def g167_1F (n : Nat) (s : FState) (cx : Cx β) : Option β := FX (g167_G n) n (nav g167_B [0]) (.fin none none none [] .leaf) s { cx with nrm := fun s => FX (g167_G n) n (nav g167_B [1, 0]) (.fin none (some g167_m2e) none [] .leaf) s cx }
theorem g167_1_fx (n : Nat) (cx : Cx β) (x0 : List Int) (v1 : Int) : g167_1F n (g167_m0 x0 v1) cx = g167_1 n (fun x0 v1 v5 => cx.nrm (g167_m2 x0 v1 v5)) x0 v1 := by kernel_rfl
noncomputable def g167_2 (n : Nat) (kr : List Int → Int → Option β) (x0 : List Int) (v1 v5 : Int) : Option β := bif (decide (v5 ≤ (2047 : Int))) then (idx (1 : Int) (x0.length : Int) <| idx (0 : Int) (x0.length : Int) <| idx (1 : Int) ((x0.set (0 : Int).toNat (orI .u8 (192 : Int) (IntKind.u8.wrap ((shrI .i32 v1 (6 : Int)))))).length : Int) <| kr ((x0.set (0 : Int).toNat (orI .u8 (192 : Int) (IntKind.u8.wrap ((shrI .i32 v1 (6 : Int)))))).set (1 : Int).toNat (orI .u8 (128 : Int) (andI .u8 (IntKind.u8.wrap (v1)) (63 : Int)))) (2 : Int)) else (bif (decide (v5 < (55296 : Int))) then (bif (decide (v5 < (55296 : Int))) then (idx (2 : Int) (x0.length : Int) <| idx (0 : Int) (x0.length : Int) <| idx (1 : Int) ((x0.set (0 : Int).toNat (orI .u8 (224 : Int) (IntKind.u8.wrap ((shrI .i32 v1 (12 : Int)))))).length : Int) <| idx (2 : Int) (((x0.set (0 : Int).toNat (orI .u8 (224 : Int) (IntKind.u8.wrap ((shrI .i32 v1 (12 : Int)))))).set (1 : Int).toNat (orI .u8 (128 : Int) (andI .u8 (IntKind.u8.wrap ((shrI .i32 v1 (6 : Int)))) (63 : Int)))).length : Int) <| kr (((x0.set (0 : Int).toNat (orI .u8 (224 : Int) (IntKind.u8.wrap ((shrI .i32 v1 (12 : Int)))))).set (1 : Int).toNat (orI .u8 (128 : Int) (andI .u8 (IntKind.u8.wrap ((shrI .i32 v1 (6 : Int)))) (63 : Int)))).set (2 : Int).toNat (orI .u8 (128 : Int) (andI .u8 (IntKind.u8.wrap (v1)) (63 : Int)))) (3 : Int)) else (bif (decide (v5 > (65535 : Int))) then (bif (decide (v5 ≤ (1114111 : Int))) then (idx (3 : Int) (x0.length : Int) <| idx (0 : Int) (x0.length : Int) <| idx (1 : Int) ((x0.set (0 : Int).toNat (orI .u8 (240 : Int) (IntKind.u8.wrap ((shrI .i32 v1 (18 : Int)))))).length : Int) <| idx (2 : Int) (((x0.set (0 : Int).toNat (orI .u8 (240 : Int) (IntKind.u8.wrap ((shrI .i32 v1 (18 : Int)))))).set (1 : Int).toNat (orI .u8 (128 : Int) (andI .u8 (IntKind.u8.wrap ((shrI .i32 v1 (12 : Int)))) (63 : Int)))).length : Int) <| idx (3 : Int) ((((x0.set (0 : Int).toNat (orI .u8 (240 : Int) (IntKind.u8.wrap ((shrI .i32 v1 (18 : Int)))))).set (1 : Int).toNat (orI .u8 (128 : Int) (andI .u8 (IntKind.u8.wrap ((shrI .i32 v1 (12 : Int)))) (63 : Int)))).set (2 : Int).toNat (orI .u8 (128 : Int) (andI .u8 (IntKind.u8.wrap ((shrI .i32 v1 (6 : Int)))) (63 : Int)))).length : Int) <| kr ((((x0.set (0 : Int).toNat (orI .u8 (240 : Int) (IntKind.u8.wrap ((shrI .i32 v1 (18 : Int)))))).set (1 : Int).toNat (orI .u8 (128 : Int) (andI .u8 (IntKind.u8.wrap ((shrI .i32 v1 (12 : Int)))) (63 : Int)))).set (2 : Int).toNat (orI .u8 (128 : Int) (andI .u8 (IntKind.u8.wrap ((shrI .i32 v1 (6 : Int)))) (63 : Int)))).set (3 : Int).toNat (orI .u8 (128 : Int) (andI .u8 (IntKind.u8.wrap (v1)) (63 : Int)))) (4 : Int)) else (idx (2 : Int) (x0.length : Int) <| idx (0 : Int) (x0.length : Int) <| idx (1 : Int) ((x0.set (0 : Int).toNat (239 : Int)).length : Int) <| idx (2 : Int) (((x0.set (0 : Int).toNat (239 : Int)).set (1 : Int).toNat (191 : Int)).length : Int) <| kr (((x0.set (0 : Int).toNat (239 : Int)).set (1 : Int).toNat (191 : Int)).set (2 : Int).toNat (189 : Int)) (3 : Int))) else (idx (2 : Int) (x0.length : Int) <| idx (0 : Int) (x0.length : Int) <| idx (1 : Int) ((x0.set (0 : Int).toNat (239 : Int)).length : Int) <| idx (2 : Int) (((x0.set (0 : Int).toNat (239 : Int)).set (1 : Int).toNat (191 : Int)).length : Int) <| kr (((x0.set (0 : Int).toNat (239 : Int)).set (1 : Int).toNat (191 : Int)).set (2 : Int).toNat (189 : Int)) (3 : Int)))) else (bif (decide ((57343 : Int) < v5)) then (bif (decide (v5 ≤ (65535 : Int))) then (idx (2 : Int) (x0.length : Int) <| idx (0 : Int) (x0.length : Int) <| idx (1 : Int) ((x0.set (0 : Int).toNat (orI .u8 (224 : Int) (IntKind.u8.wrap ((shrI .i32 v1 (12 : Int)))))).length : Int) <| idx (2 : Int) (((x0.set (0 : Int).toNat (orI .u8 (224 : Int) (IntKind.u8.wrap ((shrI .i32 v1 (12 : Int)))))).set (1 : Int).toNat (orI .u8 (128 : Int) (andI .u8 (IntKind.u8.wrap ((shrI .i32 v1 (6 : Int)))) (63 : Int)))).length : Int) <| kr (((x0.set (0 : Int).toNat (orI .u8 (224 : Int) (IntKind.u8.wrap ((shrI .i32 v1 (12 : Int)))))).set (1 : Int).toNat (orI .u8 (128 : Int) (andI .u8 (IntKind.u8.wrap ((shrI .i32 v1 (6 : Int)))) (63 : Int)))).set (2 : Int).toNat (orI .u8 (128 : Int) (andI .u8 (IntKind.u8.wrap (v1)) (63 : Int)))) (3 : Int)) else (bif (decide (v5 > (65535 : Int))) then (bif (decide (v5 ≤ (1114111 : Int))) then (idx (3 : Int) (x0.length : Int) <| idx (0 : Int) (x0.length : Int) <| idx (1 : Int) ((x0.set (0 : Int).toNat (orI .u8 (240 : Int) (IntKind.u8.wrap ((shrI .i32 v1 (18 : Int)))))).length : Int) <| idx (2 : Int) (((x0.set (0 : Int).toNat (orI .u8 (240 : Int) (IntKind.u8.wrap ((shrI .i32 v1 (18 : Int)))))).set (1 : Int).toNat (orI .u8 (128 : Int) (andI .u8 (IntKind.u8.wrap ((shrI .i32 v1 (12 : Int)))) (63 : Int)))).length : Int) <| idx (3 : Int) ((((x0.set (0 : Int).toNat (orI .u8 (240 : Int) (IntKind.u8.wrap ((shrI .i32 v1 (18 : Int)))))).set (1 : Int).toNat (orI .u8 (128 : Int) (andI .u8 (IntKind.u8.wrap ((shrI .i32 v1 (12 : Int)))) (63 : Int)))).set (2 : Int).toNat (orI .u8 (128 : Int) (andI .u8 (IntKind.u8.wrap ((shrI .i32 v1 (6 : Int)))) (63 : Int)))).length : Int) <| kr ((((x0.set (0 : Int).toNat (orI .u8 (240 : Int) (IntKind.u8.wrap ((shrI .i32 v1 (18 : Int)))))).set (1 : Int).toNat (orI .u8 (128 : Int) (andI .u8 (IntKind.u8.wrap ((shrI .i32 v1 (12 : Int)))) (63 : Int)))).set (2 : Int).toNat (orI .u8 (128 : Int) (andI .u8 (IntKind.u8.wrap ((shrI .i32 v1 (6 : Int)))) (63 : Int)))).set (3 : Int).toNat (orI .u8 (128 : Int) (andI .u8 (IntKind.u8.wrap (v1)) (63 : Int)))) (4 : Int)) else (idx (2 : Int) (x0.length : Int) <| idx (0 : Int) (x0.length : Int) <| idx (1 : Int) ((x0.set (0 : Int).toNat (239 : Int)).length : Int) <| idx (2 : Int) (((x0.set (0 : Int).toNat (239 : Int)).set (1 : Int).toNat (191 : Int)).length : Int) <| kr (((x0.set (0 : Int).toNat (239 : Int)).set (1 : Int).toNat (191 : Int)).set (2 : Int).toNat (189 : Int)) (3 : Int))) else (idx (2 : Int) (x0.length : Int) <| idx (0 : Int) (x0.length : Int) <| idx (1 : Int) ((x0.set (0 : Int).toNat (239 : Int)).length : Int) <| idx (2 : Int) (((x0.set (0 : Int).toNat (239 : Int)).set (1 : Int).toNat (191 : Int)).length : Int) <| kr (((x0.set (0 : Int).toNat (239 : Int)).set (1 : Int).toNat (191 : Int)).set (2 : Int).toNat (189 : Int)) (3 : Int)))) else (bif (decide (v5 > (65535 : Int))) then (bif (decide (v5 ≤ (1114111 : Int))) then (idx (3 : Int) (x0.length : Int) <| idx (0 : Int) (x0.length : Int) <| idx (1 : Int) ((x0.set (0 : Int).toNat (orI .u8 (240 : Int) (IntKind.u8.wrap ((shrI .i32 v1 (18 : Int)))))).length : Int) <| idx (2 : Int) (((x0.set (0 : Int).toNat (orI .u8 (240 : Int) (IntKind.u8.wrap ((shrI .i32 v1 (18 : Int)))))).set (1 : Int).toNat (orI .u8 (128 : Int) (andI .u8 (IntKind.u8.wrap ((shrI .i32 v1 (12 : Int)))) (63 : Int)))).length : Int) <| idx (3 : Int) ((((x0.set (0 : Int).toNat (orI .u8 (240 : Int) (IntKind.u8.wrap ((shrI .i32 v1 (18 : Int)))))).set (1 : Int).toNat (orI .u8 (128 : Int) (andI .u8 (IntKind.u8.wrap ((shrI .i32 v1 (12 : Int)))) (63 : Int)))).set (2 : Int).toNat (orI .u8 (128 : Int) (andI .u8 (IntKind.u8.wrap ((shrI .i32 v1 (6 : Int)))) (63 : Int)))).length : Int) <| kr ((((x0.set (0 : Int).toNat (orI .u8 (240 : Int) (IntKind.u8.wrap ((shrI .i32 v1 (18 : Int)))))).set (1 : Int).toNat (orI .u8 (128 : Int) (andI .u8 (IntKind.u8.wrap ((shrI .i32 v1 (12 : Int)))) (63 : Int)))).set (2 : Int).toNat (orI .u8 (128 : Int) (andI .u8 (IntKind.u8.wrap ((shrI .i32 v1 (6 : Int)))) (63 : Int)))).set (3 : Int).toNat (orI .u8 (128 : Int) (andI .u8 (IntKind.u8.wrap (v1)) (63 : Int)))) (4 : Int)) else (idx (2 : Int) (x0.length : Int) <| idx (0 : Int) (x0.length : Int) <| idx (1 : Int) ((x0.set (0 : Int).toNat (239 : Int)).length : Int) <| idx (2 : Int) (((x0.set (0 : Int).toNat (239 : Int)).set (1 : Int).toNat (191 : Int)).length : Int) <| kr (((x0.set (0 : Int).toNat (239 : Int)).set (1 : Int).toNat (191 : Int)).set (2 : Int).toNat (189 : Int)) (3 : Int))) else (idx (2 : Int) (x0.length : Int) <| idx (0 : Int) (x0.length : Int) <| idx (1 : Int) ((x0.set (0 : Int).toNat (239 : Int)).length : Int) <| idx (2 : Int) (((x0.set (0 : Int).toNat (239 : Int)).set (1 : Int).toNat (191 : Int)).length : Int) <| kr (((x0.set (0 : Int).toNat (239 : Int)).set (1 : Int).toNat (191 : Int)).set (2 : Int).toNat (189 : Int)) (3 : Int)))))
noncomputable def g167_2F (n : Nat) (s : FState) (cx : Cx β) : Option β := FX (g167_G n) n (nav g167_B [1, 1, 0, 0]) (.fin none none (some g167_m1e) [] .leaf) s { cx with nrm := fun s => FX (g167_G n) n (nav g167_B [1, 1, 0, 1]) (.fin none none (some g167_m1e) [] .leaf) s cx }
theorem g167_2_fx (n : Nat) (cx : Cx β) (x0 : List Int) (v1 v5 : Int) : g167_2F n (g167_m2 x0 v1 v5) cx = g167_2 n (fun x0 v4 => cx.ret (g167_m1 x0 v4)) x0 v1 v5 := by kernel_rfl
noncomputable def g167_3 (n : Nat) (kr : List Int → Int → Option β) (x0 : List Int) (v1 v5 : Int) : Option β := g167_2 n kr x0 v1 v5
noncomputable def g167_3F (n : Nat) (s : FState) (cx : Cx β) : Option β := g167_2F n s { cx with ex := fun j s => bif Nat.beq j 0 then cx.nrm s else cx.ex j s }
theorem g167_3_fx (n : Nat) (cx : Cx β) (x0 : List Int) (v1 v5 : Int) : g167_3F n (g167_m2 x0 v1 v5) cx = g167_3 n (fun x0 v4 => cx.ret (g167_m1 x0 v4)) x0 v1 v5 := g167_2_fx n _ x0 v1 v5
noncomputable def g167_4 (n : Nat) (kr : List Int → Int → Option β) (x0 : List Int) (v1 : Int) : Option β := g167_1 n (fun x0 v1 v5 => g167_3 n kr x0 v1 v5) x0 v1
noncomputable def g167_4F (n : Nat) (s : FState) (cx : Cx β) : Option β := g167_1F n s { cx with nrm := fun s => g167_3F n s cx }
theorem g167_4_fx (n : Nat) (cx : Cx β) (x0 : List Int) (v1 : Int) : g167_4F n (g167_m0 x0 v1) cx = g167_4 n (fun x0 v4 => cx.ret (g167_m1 x0 v4)) x0 v1 := by simp only [g167_4F, g167_4, g167_1_fx, g167_3_fx]
noncomputable def g167 (n : Nat) (x0 : List Int) (v1 : Int) : Option (DenR [.dat (.int .i64)] × DenR (backsOf [.io (.int .u8) 5, .dat (.int .i32)])) := g167_4 n (fun x0 v4 => some ((v4, ()), (x0, ()))) x0 v1
noncomputable def g167_A : List AK := [.io (.int .u8) 5, .dat (.int .i32)]
noncomputable def g167_R : List RK := [.dat (.int .i64)]
noncomputable def g167_f (n : Nat) (d : DenA g167_A) : Option (DenR g167_R × DenR (backsOf g167_A)) := g167 n d.1 d.2.1
noncomputable def g167_S (n : Nat) : Spec := mkSpecB g167_A g167_R (g167_f n)
noncomputable def g167_K : Sk := (.nd (.fin none none none [] .leaf) (.nd (.fin none (some g167_m2e) none [] .leaf) (.nd (.nd (.fin none none (some g167_m1e) [] .leaf) (.fin none none (some g167_m1e) [] .leaf)) .leaf)))
theorem g167_top (n : Nat) (s : FState) (cx : Cx β) : FX (g167_G n) n g167_B g167_K s cx = g167_4F n s cx := by kernel_rfl
theorem g167_ini (n : Nat) (d : DenA g167_A) (β : Type) (κ : FState → Option β) : putBacks 0 0 (backsOf g167_A) (ioPos g167_A 0) (toB g167_A d) (initS g167_A d) (fun s => normK (g167_G n) g167_m0e (setIo g167_A 0 s) κ) = κ (g167_m0 d.1 d.2.1) := by kernel_rfl
theorem g167_fit (n : Nat) : Fit Tryd.prog 167 (g167_S n) :=
  fit_ofB (Γ := Γ0) (l := g167_C n) (n := n) (sk := g167_K) (nf := g167_m0e) (m := fun d => g167_m0 d.1 d.2.1) (ts := [(4, none)]) (fn := Tryd.f167) (c := g167_B) (by kernel_rfl) (by kernel_rfl) (by unfold Callable; kernel_rfl) tab_ok trivial follows_mixed (by kernel_rfl) (by kernel_rfl) (Nat.le_of_ble_eq_true (by kernel_rfl)) (Nat.le_of_ble_eq_true (by kernel_rfl)) (by kernel_rfl) (by kernel_rfl) (g167_ini n)
    (fun d => (g167_top n _ _).trans (Eq.trans (b := g167_4F n (g167_m0 d.1 d.2.1) (finCxB (g167_G n) g167_A g167_R [(4, none)])) (by kernel_rfl) ((g167_4_fx n _ d.1 d.2.1).trans (by kernel_rfl))))
noncomputable def g132_m0 (x0 : List Int) (v1 : Int) : FState := ⟨tlist [(0, .sl 0 none false), (1, .dat (.int .i32) v1)], olist [(0, .row (.int .u8) 5 true x0)]⟩
noncomputable def g132_m0e : List NE := [.row 0 (.int .u8) 5 true, .keep 1]
noncomputable def g132_m1 (x0 : List Int) (v4 : Int) : FState := ⟨tlist [(0, .sl 0 none false), (4, .dat (.int .i64) v4)], olist [(0, .row (.int .u8) 5 true x0)]⟩
noncomputable def g132_m1e : List NE := [.row 0 (.int .u8) 5 true, .keep 4]
noncomputable def g132_C (n : Nat) : List (Nat × Spec) := [(167, g167_S n)]
noncomputable def g132_G (n : Nat) : Ctx := { Γ0 with calls := lkS (g132_C n) }
noncomputable def g132_B : Code := fb Tryd.f132
noncomputable def g132_1 (n : Nat) (kr : List Int → Int → Option β) (x0 : List Int) (v1 : Int) : Option β := bif (decide ((IntKind.u32.wrap (v1)) ≤ (127 : Int))) then (idx (0 : Int) (x0.length : Int) <| kr (x0.set (0 : Int).toNat (IntKind.u8.wrap (v1))) (1 : Int)) else ((g167 n x0 v1).bind fun r1 => kr r1.2.1 r1.1.1)
noncomputable def g132_1F (n : Nat) (s : FState) (cx : Cx β) : Option β := FX (g132_G n) n (nav g132_B [0]) (.fin none none (some g132_m1e) [] .leaf) s { cx with nrm := fun s => FX (g132_G n) n (nav g132_B [1, 0, 0]) (.fin none none (some g132_m1e) [] .leaf) s { cx with nrm := fun s => FX (g132_G n) n (nav g132_B [1, 0, 1]) (.fin none none (some g132_m1e) [] .leaf) s { cx with nrm := fun s => FX (g132_G n) n (nav g132_B [1, 1, 0]) (.fin none none (some g132_m1e) [] .leaf) s { cx with nrm := fun s => FX (g132_G n) n (nav g132_B [1, 1, 1]) (.fin none none (some g132_m1e) [] .leaf) s cx } } } }
theorem g132_1_fx (n : Nat) (cx : Cx β) (x0 : List Int) (v1 : Int) : g132_1F n (g132_m0 x0 v1) cx = g132_1 n (fun x0 v4 => cx.ret (g132_m1 x0 v4)) x0 v1 := by kernel_rfl
noncomputable def g132 (n : Nat) (x0 : List Int) (v1 : Int) : Option (DenR [.dat (.int .i64)] × DenR (backsOf [.io (.int .u8) 5, .dat (.int .i32)])) := g132_1 n (fun x0 v4 => some ((v4, ()), (x0, ()))) x0 v1
noncomputable def g132_A : List AK := [.io (.int .u8) 5, .dat (.int .i32)]
noncomputable def g132_R : List RK := [.dat (.int .i64)]
noncomputable def g132_f (n : Nat) (d : DenA g132_A) : Option (DenR g132_R × DenR (backsOf g132_A)) := g132 n d.1 d.2.1
noncomputable def g132_S (n : Nat) : Spec := mkSpecB g132_A g132_R (g132_f n)
noncomputable def g132_K : Sk := (.nd (.fin none none (some g132_m1e) [] .leaf) (.nd (.nd (.fin none none (some g132_m1e) [] .leaf) (.fin none none (some g132_m1e) [] .leaf)) (.nd (.fin none none (some g132_m1e) [] .leaf) (.fin none none (some g132_m1e) [] .leaf))))
theorem g132_top (n : Nat) (s : FState) (cx : Cx β) : FX (g132_G n) n g132_B g132_K s cx = g132_1F n s cx := by kernel_rfl
theorem g132_ini (n : Nat) (d : DenA g132_A) (β : Type) (κ : FState → Option β) : putBacks 0 0 (backsOf g132_A) (ioPos g132_A 0) (toB g132_A d) (initS g132_A d) (fun s => normK (g132_G n) g132_m0e (setIo g132_A 0 s) κ) = κ (g132_m0 d.1 d.2.1) := by kernel_rfl
theorem g132_fit (n : Nat) : Fit Tryd.prog 132 (g132_S n) :=
  fit_ofB (Γ := Γ0) (l := g132_C n) (n := n) (sk := g132_K) (nf := g132_m0e) (m := fun d => g132_m0 d.1 d.2.1) (ts := [(4, none)]) (fn := Tryd.f132) (c := g132_B) (by kernel_rfl) (by kernel_rfl) (by unfold Callable; kernel_rfl) tab_ok ⟨g167_fit n, trivial⟩ follows_mixed (by kernel_rfl) (by kernel_rfl) (Nat.le_of_ble_eq_true (by kernel_rfl)) (Nat.le_of_ble_eq_true (by kernel_rfl)) (by kernel_rfl) (by kernel_rfl) (g132_ini n)
    (fun d => (g132_top n _ _).trans (Eq.trans (b := g132_1F n (g132_m0 d.1 d.2.1) (finCxB (g132_G n) g132_A g132_R [(4, none)])) (by kernel_rfl) ((g132_1_fx n _ d.1 d.2.1).trans (by kernel_rfl))))
noncomputable def g107_m0 (v0 : Int) : FState := ⟨tlist [(0, .dat (.int .i32) v0)], olist []⟩
noncomputable def g107_m1 (v2 : Int) : FState := ⟨tlist [(2, .dat (.int .u32) v2)], olist []⟩
noncomputable def g107_m1e : List NE := [.keep 2]
noncomputable def g107_C (n : Nat) : List (Nat × Spec) := [(132, g132_S n)]
noncomputable def g107_G (n : Nat) : Ctx := { Γ0 with calls := lkS (g107_C n) }
noncomputable def g107_B : Code := fb Tryd.f107
noncomputable def g107_1 (n : Nat) (kr : Int → Option β) (v0 : Int) : Option β := bif (decide ((IntKind.u32.wrap (v0)) < (128 : Int))) then (kr (IntKind.u32.wrap (v0))) else ((g132 n [(0 : Int), (0 : Int), (0 : Int), (0 : Int)] v0).bind fun r1 => bif (r1.1.1 == (2 : Int)) then (idx (0 : Int) (r1.2.1.length : Int) <| idx (1 : Int) (r1.2.1.length : Int) <| kr (orI .u32 (shlI .u32 (IntKind.u32.wrap ((andI .u8 (rd r1.2.1 (0 : Int) (0 : Int)) (31 : Int)))) (6 : Int)) (IntKind.u32.wrap ((andI .u8 (rd r1.2.1 (1 : Int) (0 : Int)) (63 : Int)))))) else (bif (r1.1.1 == (3 : Int)) then (idx (0 : Int) (r1.2.1.length : Int) <| idx (1 : Int) (r1.2.1.length : Int) <| idx (2 : Int) (r1.2.1.length : Int) <| bif (decide ((orI .u32 (orI .u32 (shlI .u32 (IntKind.u32.wrap ((andI .u8 (rd r1.2.1 (0 : Int) (0 : Int)) (15 : Int)))) (12 : Int)) (shlI .u32 (IntKind.u32.wrap ((andI .u8 (rd r1.2.1 (1 : Int) (0 : Int)) (63 : Int)))) (6 : Int))) (IntKind.u32.wrap ((andI .u8 (rd r1.2.1 (2 : Int) (0 : Int)) (63 : Int))))) ≥ (57343 : Int))) then (kr (IntKind.u32.wrap ((orI .u32 (orI .u32 (shlI .u32 (IntKind.u32.wrap ((andI .u8 (rd r1.2.1 (0 : Int) (0 : Int)) (15 : Int)))) (12 : Int)) (shlI .u32 (IntKind.u32.wrap ((andI .u8 (rd r1.2.1 (1 : Int) (0 : Int)) (63 : Int)))) (6 : Int))) (IntKind.u32.wrap ((andI .u8 (rd r1.2.1 (2 : Int) (0 : Int)) (63 : Int))))) - (2048 : Int)))) else (kr (orI .u32 (orI .u32 (shlI .u32 (IntKind.u32.wrap ((andI .u8 (rd r1.2.1 (0 : Int) (0 : Int)) (15 : Int)))) (12 : Int)) (shlI .u32 (IntKind.u32.wrap ((andI .u8 (rd r1.2.1 (1 : Int) (0 : Int)) (63 : Int)))) (6 : Int))) (IntKind.u32.wrap ((andI .u8 (rd r1.2.1 (2 : Int) (0 : Int)) (63 : Int))))))) else (bif (r1.1.1 == (4 : Int)) then (idx (0 : Int) (r1.2.1.length : Int) <| idx (1 : Int) (r1.2.1.length : Int) <| idx (2 : Int) (r1.2.1.length : Int) <| idx (3 : Int) (r1.2.1.length : Int) <| kr (IntKind.u32.wrap ((IntKind.u32.wrap ((orI .u32 (orI .u32 (orI .u32 (shlI .u32 (IntKind.u32.wrap ((andI .u8 (rd r1.2.1 (0 : Int) (0 : Int)) (7 : Int)))) (18 : Int)) (shlI .u32 (IntKind.u32.wrap ((andI .u8 (rd r1.2.1 (1 : Int) (0 : Int)) (63 : Int)))) (12 : Int))) (shlI .u32 (IntKind.u32.wrap ((andI .u8 (rd r1.2.1 (2 : Int) (0 : Int)) (63 : Int)))) (6 : Int))) (IntKind.u32.wrap ((andI .u8 (rd r1.2.1 (3 : Int) (0 : Int)) (63 : Int))))) - (2048 : Int))) - (3 : Int)))) else none)))
noncomputable def g107_1F (n : Nat) (s : FState) (cx : Cx β) : Option β := FX (g107_G n) n (nav g107_B [0]) (.fin none none (some g107_m1e) [] .leaf) s { cx with nrm := fun s => FX (g107_G n) n (nav g107_B [1, 0]) (.fin none none (some g107_m1e) [] .leaf) s { cx with nrm := fun s => FX (g107_G n) n (nav g107_B [1, 1, 0, 0]) (.fin none none (some g107_m1e) [] .leaf) s { cx with nrm := fun s => FX (g107_G n) n (nav g107_B [1, 1, 0, 1]) (.fin none none (some g107_m1e) [] .leaf) s { cx with nrm := fun s => FX (g107_G n) n (nav g107_B [1, 1, 1, 0]) (.fin none none (some g107_m1e) [] .leaf) s { cx with nrm := fun s => FX (g107_G n) n (nav g107_B [1, 1, 1, 1, 0]) (.fin none none (some g107_m1e) [] .leaf) s { cx with nrm := fun s => FX (g107_G n) n (nav g107_B [1, 1, 1, 1, 1, 0, 0]) (.fin none none (some g107_m1e) [] .leaf) s { cx with nrm := fun s => FX (g107_G n) n (nav g107_B [1, 1, 1, 1, 1, 0, 1]) (.fin none none (some g107_m1e) [] .leaf) s { cx with nrm := fun s => FX (g107_G n) n (nav g107_B [1, 1, 1, 1, 1, 1, 0, 0]) (.fin none none (some g107_m1e) [] .leaf) s { cx with nrm := fun s => FX (g107_G n) n (nav g107_B [1, 1, 1, 1, 1, 1, 0, 1]) (.fin none none (some g107_m1e) [] .leaf) s { cx with nrm := fun s => FX (g107_G n) n (nav g107_B [1, 1, 1, 1, 1, 1, 1, 0, 0]) (.fin none none (some g107_m1e) [] .leaf) s { cx with nrm := fun s => FX (g107_G n) n (nav g107_B [1, 1, 1, 1, 1, 1, 1, 0, 1]) (.fin none none (some g107_m1e) [] .leaf) s { cx with nrm := fun s => FX (g107_G n) n (nav g107_B [1, 1, 1, 1, 1, 1, 1, 1]) (.fin none none (some g107_m1e) [] .leaf) s cx } } } } } } } } } } } }
theorem g107_1_fx (n : Nat) (cx : Cx β) (v0 : Int) : g107_1F n (g107_m0 v0) cx = g107_1 n (fun v2 => cx.ret (g107_m1 v2)) v0 := by kernel_rfl
noncomputable def g107 (n : Nat) (v0 : Int) : Option (DenR [.dat (.int .u32)]) := g107_1 n (fun v2 => some (v2, ())) v0
noncomputable def g107_A : List AK := [.dat (.int .i32)]
noncomputable def g107_R : List RK := [.dat (.int .u32)]
noncomputable def g107_f (n : Nat) (d : DenA g107_A) : Option (DenR g107_R) := g107 n d.1
noncomputable def g107_S (n : Nat) : Spec := mkSpec g107_A g107_R (g107_f n)
noncomputable def g107_K : Sk := (.nd (.fin none none (some g107_m1e) [] .leaf) (.nd (.fin none none (some g107_m1e) [] .leaf) (.nd (.nd (.fin none none (some g107_m1e) [] .leaf) (.fin none none (some g107_m1e) [] .leaf)) (.nd (.fin none none (some g107_m1e) [] .leaf) (.nd (.fin none none (some g107_m1e) [] .leaf) (.nd (.nd (.fin none none (some g107_m1e) [] .leaf) (.fin none none (some g107_m1e) [] .leaf)) (.nd (.nd (.fin none none (some g107_m1e) [] .leaf) (.fin none none (some g107_m1e) [] .leaf)) (.nd (.nd (.fin none none (some g107_m1e) [] .leaf) (.fin none none (some g107_m1e) [] .leaf)) (.fin none none (some g107_m1e) [] .leaf)))))))))
theorem g107_top (n : Nat) (s : FState) (cx : Cx β) : FX (g107_G n) n g107_B g107_K s cx = g107_1F n s cx := by kernel_rfl
theorem g107_fit (n : Nat) : Fit Tryd.prog 107 (g107_S n) :=
  fit_of (Γ := Γ0) (l := g107_C n) (n := n) (sk := g107_K) (ts := [(2, none)]) (fn := Tryd.f107) (c := g107_B) (by kernel_rfl) (by kernel_rfl) (by unfold Callable; kernel_rfl) tab_ok ⟨g132_fit n, trivial⟩ follows_mixed (by kernel_rfl) (by kernel_rfl) (Nat.le_of_ble_eq_true (by kernel_rfl)) (Nat.le_of_ble_eq_true (by kernel_rfl)) (by kernel_rfl) (by kernel_rfl)
    (fun d => (g107_top n _ _).trans (Eq.trans (b := g107_1F n (g107_m0 d.1) (finCx (g107_G n) g107_R [(2, none)])) (by kernel_rfl) ((g107_1_fx n _ d.1).trans (by kernel_rfl))))
noncomputable def g108_A : List AK := [.ro .str 9, .dat .str]
noncomputable def g108_R : List RK := [.dat .str]
noncomputable def g108 (n : Nat) (v0 : List ByteArray) (v1 : ByteArray) : Option (DenR [.dat .str]) := if v0.length ≤ 140737488355328 ∧ (Lib.join (v0.map (·.data.toList)) v1.data.toList).length ≤ 140737488355328 then some (⟨(Lib.join (v0.map (·.data.toList)) v1.data.toList).toArray⟩, ()) else none
noncomputable def g108_f (n : Nat) (d : DenA g108_A) : Option (DenR g108_R) := g108 n d.1 d.2.1
noncomputable def g108_S (n : Nat) : Spec := mkSpec g108_A g108_R (g108_f n)
theorem g108_fit (n : Nat) : Fit Tryd.prog 108 (g108_S n) := fit_read (by unfold Callable; kernel_rfl) rfl fun d x w A vs hG ha hx => by
  obtain ⟨v, vs', o1, o2, rfl, _, ⟨_, ad, cap, rfl, hle, hne⟩, v', vs2, o3, o4, rfl, _, ⟨_, cs, h1, h2⟩, h3, _⟩ := ha
  obtain ⟨xs, sep, u⟩ := d
  subst h3
  have h1 : cs = [Value.string sep] := h1
  subst h1
  simp [K.isPair] at h2
  subst h2
  obtain ⟨hc, hx⟩ := if_inv hx
  cases hx
  by_cases h0 : xs = []
  · subst h0
    exact (Tryd.strings_Join_none ad cap sep w).mono fun e w' ⟨he, hw⟩ => ⟨[.string ⟨#[]⟩], he, ⟨_, _, [], [], rfl, rfl, ⟨rfl, _, rfl, rfl⟩, rfl, rfl⟩, hw ▸ Go.RowKit.Below.refl _ _⟩
  · obtain ⟨b, off, rfl, hb, hrow⟩ := hne h0
    exact (Tryd.strings_Join b off cap xs sep w (cells_strs hrow) (hrow.lt h0) hc.1 hle hc.2).mono fun e w' ⟨he, hb⟩ => ⟨[_], he, ⟨_, _, [], [], rfl, rfl, ⟨rfl, _, rfl, rfl⟩, rfl, rfl⟩, hb⟩
noncomputable def g76_m0 (p0 : (Int × (Int × (Int × (Nat × (Int × (Int × Nat))))))) (x1 : List (Int × ByteArray)) (x2 : List ByteArray) : FState := ⟨tlist [(0, .ptr 0 0 0), (1, .sl 1 none false), (2, .sl 2 none false)], olist [(0, .row (.pair (.int .i64) (.pair (.int .i64) (.pair (.int .i64) (.pair (.flt .f64) (.pair (.int .i64) (.pair (.int .i64) (.flt .f64))))))) 112 false [p0]), (1, .row (.pair (.int .i8) .str) 125 false x1), (2, .row .str 9 false x2)]⟩
noncomputable def g76_m1 (x6 : List (Int × ByteArray)) : FState := ⟨tlist [(6, .sl 6 none false)], olist [(6, .row (.pair (.int .i8) .str) 125 true x6)]⟩
noncomputable def g76_m1e : List NE := [.row 6 (.pair (.int .i8) .str) 125 true]
noncomputable def g76_m2 (x2 : List ByteArray) (x7 x17 : List (Int × ByteArray)) (v18 v19 : Int) : FState := ⟨tlist [(2, .sl 2 none false), (7, .sl 7 none false), (17, .sl 17 none false), (18, .dat (.int .i64) v18), (19, .dat (.int .i64) v19)], olist [(2, .row .str 9 false x2), (7, .row (.pair (.int .i8) .str) 125 true x7), (17, .row (.pair (.int .i8) .str) 125 false x17)]⟩
noncomputable def g76_m2e : List NE := [.row 2 .str 9 false, .row 7 (.pair (.int .i8) .str) 125 true, .row 17 (.pair (.int .i8) .str) 125 false, .keep 18, .keep 19]
noncomputable def g76_m3 (x7 : List (Int × ByteArray)) : FState := ⟨tlist [(7, .sl 7 none false)], olist [(7, .row (.pair (.int .i8) .str) 125 true x7)]⟩
noncomputable def g76_m3e : List NE := [.row 7 (.pair (.int .i8) .str) 125 true]
noncomputable def g76_m4 (x2 : List ByteArray) (x7 x17 : List (Int × ByteArray)) (v18 v19 : Int) : FState := ⟨tlist [(2, .sl 2 none false), (7, .sl 7 none false), (17, .sl 17 none false), (18, .dat (.int .i64) v18), (19, .dat (.int .i64) v19)], olist [(2, .row .str 9 false x2), (7, .row (.pair (.int .i8) .str) 125 true x7), (17, .row (.pair (.int .i8) .str) 125 false x17)]⟩
noncomputable def g76_m4e : List NE := [.row 2 .str 9 false, .row 7 (.pair (.int .i8) .str) 125 true, .row 17 (.pair (.int .i8) .str) 125 false, .keep 18, .keep 19]
noncomputable def g76_m5 (x2 : List ByteArray) (x7 x17 : List (Int × ByteArray)) (v18 v19 : Int) : FState := ⟨tlist [(2, .sl 2 none false), (7, .sl 7 none false), (17, .sl 17 none false), (18, .dat (.int .i64) v18), (19, .dat (.int .i64) v19)], olist [(2, .row .str 9 false x2), (7, .row (.pair (.int .i8) .str) 125 true x7), (17, .row (.pair (.int .i8) .str) 125 false x17)]⟩
noncomputable def g76_m5e : List NE := [.row 2 .str 9 false, .row 7 (.pair (.int .i8) .str) 125 true, .row 17 (.pair (.int .i8) .str) 125 false, .keep 18, .keep 19]
noncomputable def g76_m6 (x2 : List ByteArray) (x7 : List (Int × ByteArray)) (p9 : (Int × ByteArray)) (x11 : List ByteArray) (x17 : List (Int × ByteArray)) (v18 v19 : Int) (x29 : List Int) (v30 v31 : Int) : FState := ⟨tlist [(2, .sl 2 none false), (7, .sl 7 none false), (9, .ptr 9 0 0), (11, .sl 11 none false), (17, .sl 17 none false), (18, .dat (.int .i64) v18), (19, .dat (.int .i64) v19), (29, .sl 29 none false), (30, .dat (.int .i64) v30), (31, .dat (.int .i64) v31)], olist [(2, .row .str 9 false x2), (7, .row (.pair (.int .i8) .str) 125 true x7), (9, .row (.pair (.int .i8) .str) 125 true [p9]), (11, .row .str 9 true x11), (17, .row (.pair (.int .i8) .str) 125 false x17), (29, .row (.int .i32) 21 true x29)]⟩
noncomputable def g76_m6e : List NE := [.row 2 .str 9 false, .row 7 (.pair (.int .i8) .str) 125 true, .ptr 9 (.pair (.int .i8) .str) 125 true, .row 11 .str 9 true, .row 17 (.pair (.int .i8) .str) 125 false, .keep 18, .keep 19, .row 29 (.int .i32) 21 true, .keep 30, .keep 31]
noncomputable def g76_m7 (x2 : List ByteArray) (x7 : List (Int × ByteArray)) (p9 : (Int × ByteArray)) (x11 : List ByteArray) (x17 : List (Int × ByteArray)) (v18 v19 : Int) : FState := ⟨tlist [(2, .sl 2 none false), (7, .sl 7 none false), (9, .ptr 9 0 0), (11, .sl 11 none false), (17, .sl 17 none false), (18, .dat (.int .i64) v18), (19, .dat (.int .i64) v19)], olist [(2, .row .str 9 false x2), (7, .row (.pair (.int .i8) .str) 125 true x7), (9, .row (.pair (.int .i8) .str) 125 true [p9]), (11, .row .str 9 true x11), (17, .row (.pair (.int .i8) .str) 125 false x17)]⟩
noncomputable def g76_m7e : List NE := [.row 2 .str 9 false, .row 7 (.pair (.int .i8) .str) 125 true, .ptr 9 (.pair (.int .i8) .str) 125 true, .row 11 .str 9 true, .row 17 (.pair (.int .i8) .str) 125 false, .keep 18, .keep 19]
noncomputable def g76_C (n : Nat) : List (Nat × Spec) := [(107, g107_S n), (108, g108_S n)]
noncomputable def g76_G (n : Nat) : Ctx := { Γ0 with calls := lkS (g76_C n) }
noncomputable def g76_B : Code := fb Tryd.f76
noncomputable def g76_1 (n : Nat) (kn : List ByteArray → List (Int × ByteArray) → List (Int × ByteArray) → Int → Int → Option β) (p0 : (Int × (Int × (Int × (Nat × (Int × (Int × Nat))))))) (x1 : List (Int × ByteArray)) (x2 : List ByteArray) : Option β := bnd 0 (0 : Int) (x1.length : Int) <| roomI (x1.length : Int) <| kn x2 (List.replicate (0 : Int).toNat ((0 : Int), (⟨#[]⟩ : ByteArray))) x1 (x1.length : Int) (0 : Int)
noncomputable def g76_1F (n : Nat) (s : FState) (cx : Cx β) : Option β := FX (g76_G n) n (nav g76_B [0]) (.fin none none none [] .leaf) s { cx with nrm := fun s => FX (g76_G n) n (nav g76_B [1, 0]) (.fin none none none [] .leaf) s { cx with nrm := fun s => FX (g76_G n) n (nav g76_B [1, 1, 0, 0]) (.fin none (some g76_m2e) none [] .leaf) s cx } }
theorem g76_1_fx (n : Nat) (cx : Cx β) (p0 : (Int × (Int × (Int × (Nat × (Int × (Int × Nat))))))) (x1 : List (Int × ByteArray)) (x2 : List ByteArray) : g76_1F n (g76_m0 p0 x1 x2) cx = g76_1 n (fun x2 x7 x17 v18 v19 => cx.nrm (g76_m2 x2 x7 x17 v18 v19)) p0 x1 x2 := by kernel_rfl
noncomputable def g76_2 (n : Nat) (kn : List ByteArray → List (Int × ByteArray) → List (Int × ByteArray) → Int → Int → Option β) (kx0 : List (Int × ByteArray) → Option β) (x2 : List ByteArray) (x7 x17 : List (Int × ByteArray)) (v18 v19 : Int) : Option β := bif (decide (v19 < v18)) then (kn x2 x7 x17 v18 v19) else (kx0 x7)
noncomputable def g76_2F (n : Nat) (s : FState) (cx : Cx β) : Option β := FX (g76_G n) n (nav g76_B [1, 1, 0, 1, 0, 0, 0]) (.fin none none none [(0, g76_m3e)] .leaf) s { cx with nrm := fun s => FX (g76_G n) n (nav g76_B [1, 1, 0, 1, 0, 0, 1, 0]) (.fin none (some g76_m4e) none [(0, g76_m3e)] .leaf) s cx }
theorem g76_2_fx (n : Nat) (cx : Cx β) (x2 : List ByteArray) (x7 x17 : List (Int × ByteArray)) (v18 v19 : Int) : g76_2F n (g76_m2 x2 x7 x17 v18 v19) cx = g76_2 n (fun x2 x7 x17 v18 v19 => cx.nrm (g76_m4 x2 x7 x17 v18 v19)) (fun x7 => cx.ex 0 (g76_m3 x7)) x2 x7 x17 v18 v19 := by kernel_rfl
noncomputable def g76_3 (n : Nat) (kn : List ByteArray → List (Int × ByteArray) → (Int × ByteArray) → List ByteArray → List (Int × ByteArray) → Int → Int → List Int → Int → Int → Option β) (x2 : List ByteArray) (x7 x17 : List (Int × ByteArray)) (v18 v19 : Int) : Option β := idx v19 (x17.length : Int) <| room46 ((rd [(rd x17 v19 ((0 : Int), (⟨#[]⟩ : ByteArray)))] (0 : Int) ((0 : Int), (⟨#[]⟩ : ByteArray))).2) <| bnd 0 ((runesOf ((rd [(rd x17 v19 ((0 : Int), (⟨#[]⟩ : ByteArray)))] (0 : Int) ((0 : Int), (⟨#[]⟩ : ByteArray))).2)).length : Int) ((runesOf ((rd [(rd x17 v19 ((0 : Int), (⟨#[]⟩ : ByteArray)))] (0 : Int) ((0 : Int), (⟨#[]⟩ : ByteArray))).2)).length : Int) <| roomI ((runesOf ((rd [(rd x17 v19 ((0 : Int), (⟨#[]⟩ : ByteArray)))] (0 : Int) ((0 : Int), (⟨#[]⟩ : ByteArray))).2)).length : Int) <| kn x2 x7 (rd x17 v19 ((0 : Int), (⟨#[]⟩ : ByteArray))) (List.replicate ((runesOf ((rd [(rd x17 v19 ((0 : Int), (⟨#[]⟩ : ByteArray)))] (0 : Int) ((0 : Int), (⟨#[]⟩ : ByteArray))).2)).length : Int).toNat (⟨#[]⟩ : ByteArray)) x17 v18 v19 (runesOf ((rd [(rd x17 v19 ((0 : Int), (⟨#[]⟩ : ByteArray)))] (0 : Int) ((0 : Int), (⟨#[]⟩ : ByteArray))).2)) ((runesOf ((rd [(rd x17 v19 ((0 : Int), (⟨#[]⟩ : ByteArray)))] (0 : Int) ((0 : Int), (⟨#[]⟩ : ByteArray))).2)).length : Int) (0 : Int)
noncomputable def g76_3F (n : Nat) (s : FState) (cx : Cx β) : Option β := FX (g76_G n) n (nav g76_B [1, 1, 0, 1, 0, 0, 1, 1, 0, 0, 0]) (.fin none none none [] .leaf) s { cx with nrm := fun s => FX (g76_G n) n (nav g76_B [1, 1, 0, 1, 0, 0, 1, 1, 0, 0, 1, 0]) (.fin none none none [] .leaf) s { cx with nrm := fun s => FX (g76_G n) n (nav g76_B [1, 1, 0, 1, 0, 0, 1, 1, 0, 0, 1, 1, 0]) (.fin none none none [] .leaf) s { cx with nrm := fun s => FX (g76_G n) n (nav g76_B [1, 1, 0, 1, 0, 0, 1, 1, 0, 0, 1, 1, 1, 0, 0]) (.fin none (some g76_m6e) none [] .leaf) s cx } } }
theorem g76_3_fx (n : Nat) (cx : Cx β) (x2 : List ByteArray) (x7 x17 : List (Int × ByteArray)) (v18 v19 : Int) : g76_3F n (g76_m4 x2 x7 x17 v18 v19) cx = g76_3 n (fun x2 x7 p9 x11 x17 v18 v19 x29 v30 v31 => cx.nrm (g76_m6 x2 x7 p9 x11 x17 v18 v19 x29 v30 v31)) x2 x7 x17 v18 v19 := by kernel_rfl
noncomputable def g76_4 (n : Nat) (kn : List ByteArray → List (Int × ByteArray) → (Int × ByteArray) → List ByteArray → List (Int × ByteArray) → Int → Int → List Int → Int → Int → Option β) (kx2 : List ByteArray → List (Int × ByteArray) → (Int × ByteArray) → List ByteArray → List (Int × ByteArray) → Int → Int → Option β) (x2 : List ByteArray) (x7 : List (Int × ByteArray)) (p9 : (Int × ByteArray)) (x11 : List ByteArray) (x17 : List (Int × ByteArray)) (v18 v19 : Int) (x29 : List Int) (v30 v31 : Int) : Option β := bif (decide (v31 < v30)) then (idx v31 (x29.length : Int) <| (g107 n (rd x29 v31 (0 : Int))).bind fun r1 => idx r1.1 (x2.length : Int) <| idx v31 (x11.length : Int) <| kn x2 x7 p9 (x11.set v31.toNat (rd x2 r1.1 (⟨#[]⟩ : ByteArray))) x17 v18 v19 x29 v30 (w64 (v31 + (1 : Int)))) else (kx2 x2 x7 p9 x11 x17 v18 v19)
noncomputable def g76_4F (n : Nat) (s : FState) (cx : Cx β) : Option β := FX (g76_G n) n (nav g76_B [1, 1, 0, 1, 0, 0, 1, 1, 0, 0, 1, 1, 1, 0, 1, 0, 0, 0]) (.fin none none none [(2, g76_m7e)] .leaf) s { cx with nrm := fun s => FX (g76_G n) n (nav g76_B [1, 1, 0, 1, 0, 0, 1, 1, 0, 0, 1, 1, 1, 0, 1, 0, 0, 1, 0]) (.fin none none none [(2, g76_m7e)] .leaf) s { cx with nrm := fun s => FX (g76_G n) n (nav g76_B [1, 1, 0, 1, 0, 0, 1, 1, 0, 0, 1, 1, 1, 0, 1, 0, 0, 1, 1, 0]) (.fin none none none [(2, g76_m7e)] .leaf) s { cx with nrm := fun s => FX (g76_G n) n (nav g76_B [1, 1, 0, 1, 0, 0, 1, 1, 0, 0, 1, 1, 1, 0, 1, 0, 0, 1, 1, 1]) (.fin none (some g76_m6e) none [(2, g76_m7e)] .leaf) s cx } } }
theorem g76_4_fx (n : Nat) (cx : Cx β) (x2 : List ByteArray) (x7 : List (Int × ByteArray)) (p9 : (Int × ByteArray)) (x11 : List ByteArray) (x17 : List (Int × ByteArray)) (v18 v19 : Int) (x29 : List Int) (v30 v31 : Int) : g76_4F n (g76_m6 x2 x7 p9 x11 x17 v18 v19 x29 v30 v31) cx = g76_4 n (fun x2 x7 p9 x11 x17 v18 v19 x29 v30 v31 => cx.nrm (g76_m6 x2 x7 p9 x11 x17 v18 v19 x29 v30 v31)) (fun x2 x7 p9 x11 x17 v18 v19 => cx.ex 2 (g76_m7 x2 x7 p9 x11 x17 v18 v19)) x2 x7 p9 x11 x17 v18 v19 x29 v30 v31 := by kernel_rfl
noncomputable def g76_5L (n : Nat) (kx2 : List ByteArray → List (Int × ByteArray) → (Int × ByteArray) → List ByteArray → List (Int × ByteArray) → Int → Int → Option β) : Nat → List ByteArray → List (Int × ByteArray) → (Int × ByteArray) → List ByteArray → List (Int × ByteArray) → Int → Int → List Int → Int → Int → Option β
  | 0, _, _, _, _, _, _, _, _, _, _ => none
  | m + 1, x2, x7, p9, x11, x17, v18, v19, x29, v30, v31 => g76_4 n (g76_5L n kx2 m) kx2 x2 x7 p9 x11 x17 v18 v19 x29 v30 v31
noncomputable def g76_5 (n : Nat) (kx2 : List ByteArray → List (Int × ByteArray) → (Int × ByteArray) → List ByteArray → List (Int × ByteArray) → Int → Int → Option β) (x2 : List ByteArray) (x7 : List (Int × ByteArray)) (p9 : (Int × ByteArray)) (x11 : List ByteArray) (x17 : List (Int × ByteArray)) (v18 v19 : Int) (x29 : List Int) (v30 v31 : Int) : Option β := g76_5L n kx2 n x2 x7 p9 x11 x17 v18 v19 x29 v30 v31
noncomputable def g76_5F (n : Nat) (s : FState) (cx : Cx β) : Option β := loopN (fun again s => g76_4F n s { cx with nrm := again }) n s
theorem g76_5L_fx (n : Nat) (cx : Cx β) : ∀ (m : Nat) (x2 : List ByteArray) (x7 : List (Int × ByteArray)) (p9 : (Int × ByteArray)) (x11 : List ByteArray) (x17 : List (Int × ByteArray)) (v18 v19 : Int) (x29 : List Int) (v30 v31 : Int), loopN (fun again s => g76_4F n s { cx with nrm := again }) m (g76_m6 x2 x7 p9 x11 x17 v18 v19 x29 v30 v31) = g76_5L n (fun x2 x7 p9 x11 x17 v18 v19 => cx.ex 2 (g76_m7 x2 x7 p9 x11 x17 v18 v19)) m x2 x7 p9 x11 x17 v18 v19 x29 v30 v31 := by
  intro m
  induction m with
  | zero => intros; rfl
  | succ m ih => intros; simp only [loopN, g76_5L, g76_4_fx, ih]
theorem g76_5_fx (n : Nat) (cx : Cx β) (x2 : List ByteArray) (x7 : List (Int × ByteArray)) (p9 : (Int × ByteArray)) (x11 : List ByteArray) (x17 : List (Int × ByteArray)) (v18 v19 : Int) (x29 : List Int) (v30 v31 : Int) : g76_5F n (g76_m6 x2 x7 p9 x11 x17 v18 v19 x29 v30 v31) cx = g76_5 n (fun x2 x7 p9 x11 x17 v18 v19 => cx.ex 2 (g76_m7 x2 x7 p9 x11 x17 v18 v19)) x2 x7 p9 x11 x17 v18 v19 x29 v30 v31 := g76_5L_fx n cx n x2 x7 p9 x11 x17 v18 v19 x29 v30 v31
noncomputable def g76_6 (n : Nat) (kn : List ByteArray → List (Int × ByteArray) → (Int × ByteArray) → List ByteArray → List (Int × ByteArray) → Int → Int → Option β) (x2 : List ByteArray) (x7 : List (Int × ByteArray)) (p9 : (Int × ByteArray)) (x11 : List ByteArray) (x17 : List (Int × ByteArray)) (v18 v19 : Int) (x29 : List Int) (v30 v31 : Int) : Option β := g76_5 n kn x2 x7 p9 x11 x17 v18 v19 x29 v30 v31
noncomputable def g76_6F (n : Nat) (s : FState) (cx : Cx β) : Option β := g76_5F n s { cx with ex := fun j s => bif Nat.beq j 2 then cx.nrm s else cx.ex j s }
theorem g76_6_fx (n : Nat) (cx : Cx β) (x2 : List ByteArray) (x7 : List (Int × ByteArray)) (p9 : (Int × ByteArray)) (x11 : List ByteArray) (x17 : List (Int × ByteArray)) (v18 v19 : Int) (x29 : List Int) (v30 v31 : Int) : g76_6F n (g76_m6 x2 x7 p9 x11 x17 v18 v19 x29 v30 v31) cx = g76_6 n (fun x2 x7 p9 x11 x17 v18 v19 => cx.nrm (g76_m7 x2 x7 p9 x11 x17 v18 v19)) x2 x7 p9 x11 x17 v18 v19 x29 v30 v31 := g76_5_fx n _ x2 x7 p9 x11 x17 v18 v19 x29 v30 v31
noncomputable def g76_7 (n : Nat) (kn : List ByteArray → List (Int × ByteArray) → List (Int × ByteArray) → Int → Int → Option β) (x2 : List ByteArray) (x7 : List (Int × ByteArray)) (p9 : (Int × ByteArray)) (x11 : List ByteArray) (x17 : List (Int × ByteArray)) (v18 v19 : Int) : Option β := (g108 n x11 (⟨#[]⟩ : ByteArray)).bind fun r1 => roomy (x7.length + [(p9.1, r1.1)].length) <| kn x2 (x7 ++ [(p9.1, r1.1)]) x17 v18 v19
noncomputable def g76_7F (n : Nat) (s : FState) (cx : Cx β) : Option β := FX (g76_G n) n (nav g76_B [1, 1, 0, 1, 0, 0, 1, 1, 0, 0, 1, 1, 1, 1, 0]) (.fin none none none [] .leaf) s { cx with nrm := fun s => FX (g76_G n) n (nav g76_B [1, 1, 0, 1, 0, 0, 1, 1, 0, 0, 1, 1, 1, 1, 1]) (.fin none (some g76_m5e) none [] .leaf) s cx }
theorem g76_7_fx (n : Nat) (cx : Cx β) (x2 : List ByteArray) (x7 : List (Int × ByteArray)) (p9 : (Int × ByteArray)) (x11 : List ByteArray) (x17 : List (Int × ByteArray)) (v18 v19 : Int) : g76_7F n (g76_m7 x2 x7 p9 x11 x17 v18 v19) cx = g76_7 n (fun x2 x7 x17 v18 v19 => cx.nrm (g76_m5 x2 x7 x17 v18 v19)) x2 x7 p9 x11 x17 v18 v19 := by kernel_rfl
noncomputable def g76_8 (n : Nat) (kn : List ByteArray → List (Int × ByteArray) → List (Int × ByteArray) → Int → Int → Option β) (x2 : List ByteArray) (x7 x17 : List (Int × ByteArray)) (v18 v19 : Int) : Option β := g76_3 n (fun x2 x7 p9 x11 x17 v18 v19 x29 v30 v31 => g76_6 n (fun x2 x7 p9 x11 x17 v18 v19 => g76_7 n kn x2 x7 p9 x11 x17 v18 v19) x2 x7 p9 x11 x17 v18 v19 x29 v30 v31) x2 x7 x17 v18 v19
noncomputable def g76_8F (n : Nat) (s : FState) (cx : Cx β) : Option β := g76_3F n s { cx with nrm := fun s => g76_6F n s { cx with nrm := fun s => g76_7F n s cx } }
theorem g76_8_fx (n : Nat) (cx : Cx β) (x2 : List ByteArray) (x7 x17 : List (Int × ByteArray)) (v18 v19 : Int) : g76_8F n (g76_m4 x2 x7 x17 v18 v19) cx = g76_8 n (fun x2 x7 x17 v18 v19 => cx.nrm (g76_m5 x2 x7 x17 v18 v19)) x2 x7 x17 v18 v19 := by simp only [g76_8F, g76_8, g76_3_fx, g76_6_fx, g76_7_fx]
noncomputable def g76_9 (n : Nat) (kn : List ByteArray → List (Int × ByteArray) → List (Int × ByteArray) → Int → Int → Option β) (x2 : List ByteArray) (x7 x17 : List (Int × ByteArray)) (v18 v19 : Int) : Option β := g76_8 n kn x2 x7 x17 v18 v19
noncomputable def g76_9F (n : Nat) (s : FState) (cx : Cx β) : Option β := g76_8F n s { cx with ex := fun j s => bif Nat.beq j 1 then cx.nrm s else cx.ex j s }
theorem g76_9_fx (n : Nat) (cx : Cx β) (x2 : List ByteArray) (x7 x17 : List (Int × ByteArray)) (v18 v19 : Int) : g76_9F n (g76_m4 x2 x7 x17 v18 v19) cx = g76_9 n (fun x2 x7 x17 v18 v19 => cx.nrm (g76_m5 x2 x7 x17 v18 v19)) x2 x7 x17 v18 v19 := g76_8_fx n _ x2 x7 x17 v18 v19
noncomputable def g76_10 (n : Nat) (kn : List ByteArray → List (Int × ByteArray) → List (Int × ByteArray) → Int → Int → Option β) (x2 : List ByteArray) (x7 x17 : List (Int × ByteArray)) (v18 v19 : Int) : Option β := kn x2 x7 x17 v18 (w64 (v19 + (1 : Int)))
noncomputable def g76_10F (n : Nat) (s : FState) (cx : Cx β) : Option β := FX (g76_G n) n (nav g76_B [1, 1, 0, 1, 0, 0, 1, 1, 1]) (.fin none (some g76_m2e) none [] .leaf) s cx
theorem g76_10_fx (n : Nat) (cx : Cx β) (x2 : List ByteArray) (x7 x17 : List (Int × ByteArray)) (v18 v19 : Int) : g76_10F n (g76_m5 x2 x7 x17 v18 v19) cx = g76_10 n (fun x2 x7 x17 v18 v19 => cx.nrm (g76_m2 x2 x7 x17 v18 v19)) x2 x7 x17 v18 v19 := by kernel_rfl
noncomputable def g76_11 (n : Nat) (kn : List ByteArray → List (Int × ByteArray) → List (Int × ByteArray) → Int → Int → Option β) (kx0 : List (Int × ByteArray) → Option β) (x2 : List ByteArray) (x7 x17 : List (Int × ByteArray)) (v18 v19 : Int) : Option β := g76_2 n (fun x2 x7 x17 v18 v19 => g76_9 n (fun x2 x7 x17 v18 v19 => g76_10 n kn x2 x7 x17 v18 v19) x2 x7 x17 v18 v19) kx0 x2 x7 x17 v18 v19
noncomputable def g76_11F (n : Nat) (s : FState) (cx : Cx β) : Option β := g76_2F n s { cx with nrm := fun s => g76_9F n s { cx with nrm := fun s => g76_10F n s cx } }
theorem g76_11_fx (n : Nat) (cx : Cx β) (x2 : List ByteArray) (x7 x17 : List (Int × ByteArray)) (v18 v19 : Int) : g76_11F n (g76_m2 x2 x7 x17 v18 v19) cx = g76_11 n (fun x2 x7 x17 v18 v19 => cx.nrm (g76_m2 x2 x7 x17 v18 v19)) (fun x7 => cx.ex 0 (g76_m3 x7)) x2 x7 x17 v18 v19 := by simp only [g76_11F, g76_11, g76_2_fx, g76_9_fx, g76_10_fx]
noncomputable def g76_12L (n : Nat) (kx0 : List (Int × ByteArray) → Option β) : Nat → List ByteArray → List (Int × ByteArray) → List (Int × ByteArray) → Int → Int → Option β
  | 0, _, _, _, _, _ => none
  | m + 1, x2, x7, x17, v18, v19 => g76_11 n (g76_12L n kx0 m) kx0 x2 x7 x17 v18 v19
noncomputable def g76_12 (n : Nat) (kx0 : List (Int × ByteArray) → Option β) (x2 : List ByteArray) (x7 x17 : List (Int × ByteArray)) (v18 v19 : Int) : Option β := g76_12L n kx0 n x2 x7 x17 v18 v19
noncomputable def g76_12F (n : Nat) (s : FState) (cx : Cx β) : Option β := loopN (fun again s => g76_11F n s { cx with nrm := again }) n s
theorem g76_12L_fx (n : Nat) (cx : Cx β) : ∀ (m : Nat) (x2 : List ByteArray) (x7 x17 : List (Int × ByteArray)) (v18 v19 : Int), loopN (fun again s => g76_11F n s { cx with nrm := again }) m (g76_m2 x2 x7 x17 v18 v19) = g76_12L n (fun x7 => cx.ex 0 (g76_m3 x7)) m x2 x7 x17 v18 v19 := by
  intro m
  induction m with
  | zero => intros; rfl
  | succ m ih => intros; simp only [loopN, g76_12L, g76_11_fx, ih]
theorem g76_12_fx (n : Nat) (cx : Cx β) (x2 : List ByteArray) (x7 x17 : List (Int × ByteArray)) (v18 v19 : Int) : g76_12F n (g76_m2 x2 x7 x17 v18 v19) cx = g76_12 n (fun x7 => cx.ex 0 (g76_m3 x7)) x2 x7 x17 v18 v19 := g76_12L_fx n cx n x2 x7 x17 v18 v19
noncomputable def g76_13 (n : Nat) (kn : List (Int × ByteArray) → Option β) (x2 : List ByteArray) (x7 x17 : List (Int × ByteArray)) (v18 v19 : Int) : Option β := g76_12 n kn x2 x7 x17 v18 v19
noncomputable def g76_13F (n : Nat) (s : FState) (cx : Cx β) : Option β := g76_12F n s { cx with ex := fun j s => bif Nat.beq j 0 then cx.nrm s else cx.ex j s }
theorem g76_13_fx (n : Nat) (cx : Cx β) (x2 : List ByteArray) (x7 x17 : List (Int × ByteArray)) (v18 v19 : Int) : g76_13F n (g76_m2 x2 x7 x17 v18 v19) cx = g76_13 n (fun x7 => cx.nrm (g76_m3 x7)) x2 x7 x17 v18 v19 := g76_12_fx n _ x2 x7 x17 v18 v19
noncomputable def g76_14 (n : Nat) (kr : List (Int × ByteArray) → Option β) (x7 : List (Int × ByteArray)) : Option β := kr x7
noncomputable def g76_14F (n : Nat) (s : FState) (cx : Cx β) : Option β := FX (g76_G n) n (nav g76_B [1, 1, 1, 0]) (.fin none none (some g76_m1e) [] .leaf) s { cx with nrm := fun s => FX (g76_G n) n (nav g76_B [1, 1, 1, 1]) (.fin none none (some g76_m1e) [] .leaf) s cx }
theorem g76_14_fx (n : Nat) (cx : Cx β) (x7 : List (Int × ByteArray)) : g76_14F n (g76_m3 x7) cx = g76_14 n (fun x6 => cx.ret (g76_m1 x6)) x7 := by kernel_rfl
noncomputable def g76_15 (n : Nat) (kr : List (Int × ByteArray) → Option β) (p0 : (Int × (Int × (Int × (Nat × (Int × (Int × Nat))))))) (x1 : List (Int × ByteArray)) (x2 : List ByteArray) : Option β := g76_1 n (fun x2 x7 x17 v18 v19 => g76_13 n (fun x7 => g76_14 n kr x7) x2 x7 x17 v18 v19) p0 x1 x2
noncomputable def g76_15F (n : Nat) (s : FState) (cx : Cx β) : Option β := g76_1F n s { cx with nrm := fun s => g76_13F n s { cx with nrm := fun s => g76_14F n s cx } }
theorem g76_15_fx (n : Nat) (cx : Cx β) (p0 : (Int × (Int × (Int × (Nat × (Int × (Int × Nat))))))) (x1 : List (Int × ByteArray)) (x2 : List ByteArray) : g76_15F n (g76_m0 p0 x1 x2) cx = g76_15 n (fun x6 => cx.ret (g76_m1 x6)) p0 x1 x2 := by simp only [g76_15F, g76_15, g76_1_fx, g76_13_fx, g76_14_fx]
noncomputable def g76 (n : Nat) (p0 : (Int × (Int × (Int × (Nat × (Int × (Int × Nat))))))) (x1 : List (Int × ByteArray)) (x2 : List ByteArray) : Option (DenR [.rw (.pair (.int .i8) .str) 125]) := g76_15 n (fun x6 => some (x6, ())) p0 x1 x2
noncomputable def g76_A : List AK := [.pro (.pair (.int .i64) (.pair (.int .i64) (.pair (.int .i64) (.pair (.flt .f64) (.pair (.int .i64) (.pair (.int .i64) (.flt .f64))))))) 112, .ro (.pair (.int .i8) .str) 125, .ro .str 9]
noncomputable def g76_R : List RK := [.rw (.pair (.int .i8) .str) 125]
noncomputable def g76_f (n : Nat) (d : DenA g76_A) : Option (DenR g76_R) := g76 n d.1 d.2.1 d.2.2.1
noncomputable def g76_S (n : Nat) : Spec := mkSpec g76_A g76_R (g76_f n)
noncomputable def g76_K : Sk := (.nd (.fin none none none [] .leaf) (.nd (.fin none none none [] .leaf) (.nd (.nd (.fin none (some g76_m2e) none [] .leaf) (.nd (.nd (.nd (.fin none none none [(0, g76_m3e)] .leaf) (.nd (.fin none (some g76_m4e) none [(0, g76_m3e)] .leaf) (.nd (.nd (.nd (.fin none none none [] .leaf) (.nd (.fin none none none [] .leaf) (.nd (.fin none none none [] .leaf) (.nd (.nd (.fin none (some g76_m6e) none [] .leaf) (.nd (.nd (.nd (.fin none none none [(2, g76_m7e)] .leaf) (.nd (.fin none none none [(2, g76_m7e)] .leaf) (.nd (.fin none none none [(2, g76_m7e)] .leaf) (.fin none (some g76_m6e) none [(2, g76_m7e)] .leaf)))) .leaf) .leaf)) (.nd (.fin none none none [] .leaf) (.fin none (some g76_m5e) none [] .leaf)))))) .leaf) (.fin none (some g76_m2e) none [] .leaf)))) .leaf) .leaf)) (.nd (.fin none none (some g76_m1e) [] .leaf) (.fin none none (some g76_m1e) [] .leaf)))))
theorem g76_top (n : Nat) (s : FState) (cx : Cx β) : FX (g76_G n) n g76_B g76_K s cx = g76_15F n s cx := by kernel_rfl
theorem g76_fit (n : Nat) : Fit Tryd.prog 76 (g76_S n) :=
  fit_of (Γ := Γ0) (l := g76_C n) (n := n) (sk := g76_K) (ts := [(6, none)]) (fn := Tryd.f76) (c := g76_B) (by kernel_rfl) (by kernel_rfl) (by unfold Callable; kernel_rfl) tab_ok ⟨g107_fit n, g108_fit n, trivial⟩ follows_mixed (by kernel_rfl) (by kernel_rfl) (Nat.le_of_ble_eq_true (by kernel_rfl)) (Nat.le_of_ble_eq_true (by kernel_rfl)) (by kernel_rfl) (by kernel_rfl)
    (fun d => (g76_top n _ _).trans (Eq.trans (b := g76_15F n (g76_m0 d.1 d.2.1 d.2.2.1) (finCx (g76_G n) g76_R [(6, none)])) (by kernel_rfl) ((g76_15_fx n _ d.1 d.2.1 d.2.2.1).trans (by kernel_rfl))))
noncomputable def g71_m0 (x0 : List (Int × ByteArray)) : FState := ⟨tlist [(0, .sl 0 none false)], olist [(0, .row (.pair (.int .i8) .str) 125 false x0)]⟩
noncomputable def g71_m1 (x2 : List (Int × ByteArray)) : FState := ⟨tlist [(2, .sl 2 none false)], olist [(2, .row (.pair (.int .i64) .str) 29 true x2)]⟩
noncomputable def g71_m1e : List NE := [.row 2 (.pair (.int .i64) .str) 29 true]
noncomputable def g71_m2 (x3 x6 : List (Int × ByteArray)) (v7 v8 : Int) : FState := ⟨tlist [(3, .sl 3 none false), (6, .sl 6 none false), (7, .dat (.int .i64) v7), (8, .dat (.int .i64) v8)], olist [(3, .row (.pair (.int .i64) .str) 29 true x3), (6, .row (.pair (.int .i8) .str) 125 false x6)]⟩
noncomputable def g71_m2e : List NE := [.row 3 (.pair (.int .i64) .str) 29 true, .row 6 (.pair (.int .i8) .str) 125 false, .keep 7, .keep 8]
noncomputable def g71_m3 (x3 : List (Int × ByteArray)) : FState := ⟨tlist [(3, .sl 3 none false)], olist [(3, .row (.pair (.int .i64) .str) 29 true x3)]⟩
noncomputable def g71_m3e : List NE := [.row 3 (.pair (.int .i64) .str) 29 true]
noncomputable def g71_C (n : Nat) : List (Nat × Spec) := []
noncomputable def g71_G (n : Nat) : Ctx := { Γ0 with calls := lkS (g71_C n) }
noncomputable def g71_B : Code := fb Tryd.f71
noncomputable def g71_1 (n : Nat) (kn : List (Int × ByteArray) → List (Int × ByteArray) → Int → Int → Option β) (x0 : List (Int × ByteArray)) : Option β := kn [] x0 (x0.length : Int) (0 : Int)
noncomputable def g71_1F (n : Nat) (s : FState) (cx : Cx β) : Option β := FX (g71_G n) n (nav g71_B [0]) (.fin none none none [] .leaf) s { cx with nrm := fun s => FX (g71_G n) n (nav g71_B [1, 0]) (.fin none none none [] .leaf) s { cx with nrm := fun s => FX (g71_G n) n (nav g71_B [1, 1, 0, 0]) (.fin none (some g71_m2e) none [] .leaf) s cx } }
theorem g71_1_fx (n : Nat) (cx : Cx β) (x0 : List (Int × ByteArray)) : g71_1F n (g71_m0 x0) cx = g71_1 n (fun x3 x6 v7 v8 => cx.nrm (g71_m2 x3 x6 v7 v8)) x0 := by kernel_rfl
noncomputable def g71_2 (n : Nat) (kn : List (Int × ByteArray) → List (Int × ByteArray) → Int → Int → Option β) (kx0 : List (Int × ByteArray) → Option β) (x3 x6 : List (Int × ByteArray)) (v7 v8 : Int) : Option β := bif (decide (v8 < v7)) then (idx v8 (x6.length : Int) <| roomy (x3.length + [((w64 ((rd [(rd x6 v8 ((0 : Int), (⟨#[]⟩ : ByteArray)))] (0 : Int) ((0 : Int), (⟨#[]⟩ : ByteArray))).1)), (rd [(rd x6 v8 ((0 : Int), (⟨#[]⟩ : ByteArray)))] (0 : Int) ((0 : Int), (⟨#[]⟩ : ByteArray))).2)].length) <| kn (x3 ++ [((w64 ((rd [(rd x6 v8 ((0 : Int), (⟨#[]⟩ : ByteArray)))] (0 : Int) ((0 : Int), (⟨#[]⟩ : ByteArray))).1)), (rd [(rd x6 v8 ((0 : Int), (⟨#[]⟩ : ByteArray)))] (0 : Int) ((0 : Int), (⟨#[]⟩ : ByteArray))).2)]) x6 v7 (w64 (v8 + (1 : Int)))) else (kx0 x3)
noncomputable def g71_2F (n : Nat) (s : FState) (cx : Cx β) : Option β := FX (g71_G n) n (nav g71_B [1, 1, 0, 1, 0, 0, 0]) (.fin none none none [(0, g71_m3e)] .leaf) s { cx with nrm := fun s => FX (g71_G n) n (nav g71_B [1, 1, 0, 1, 0, 0, 1, 0]) (.fin none none none [(0, g71_m3e)] .leaf) s { cx with nrm := fun s => FX (g71_G n) n (nav g71_B [1, 1, 0, 1, 0, 0, 1, 1, 0]) (.fin none none none [(0, g71_m3e)] .leaf) s { cx with nrm := fun s => FX (g71_G n) n (nav g71_B [1, 1, 0, 1, 0, 0, 1, 1, 1]) (.fin none (some g71_m2e) none [(0, g71_m3e)] .leaf) s cx } } }
theorem g71_2_fx (n : Nat) (cx : Cx β) (x3 x6 : List (Int × ByteArray)) (v7 v8 : Int) : g71_2F n (g71_m2 x3 x6 v7 v8) cx = g71_2 n (fun x3 x6 v7 v8 => cx.nrm (g71_m2 x3 x6 v7 v8)) (fun x3 => cx.ex 0 (g71_m3 x3)) x3 x6 v7 v8 := by kernel_rfl
noncomputable def g71_3L (n : Nat) (kx0 : List (Int × ByteArray) → Option β) : Nat → List (Int × ByteArray) → List (Int × ByteArray) → Int → Int → Option β
  | 0, _, _, _, _ => none
  | m + 1, x3, x6, v7, v8 => g71_2 n (g71_3L n kx0 m) kx0 x3 x6 v7 v8
noncomputable def g71_3 (n : Nat) (kx0 : List (Int × ByteArray) → Option β) (x3 x6 : List (Int × ByteArray)) (v7 v8 : Int) : Option β := g71_3L n kx0 n x3 x6 v7 v8
noncomputable def g71_3F (n : Nat) (s : FState) (cx : Cx β) : Option β := loopN (fun again s => g71_2F n s { cx with nrm := again }) n s
theorem g71_3L_fx (n : Nat) (cx : Cx β) : ∀ (m : Nat) (x3 x6 : List (Int × ByteArray)) (v7 v8 : Int), loopN (fun again s => g71_2F n s { cx with nrm := again }) m (g71_m2 x3 x6 v7 v8) = g71_3L n (fun x3 => cx.ex 0 (g71_m3 x3)) m x3 x6 v7 v8 := by
  intro m
  induction m with
  | zero => intros; rfl
  | succ m ih => intros; simp only [loopN, g71_3L, g71_2_fx, ih]
theorem g71_3_fx (n : Nat) (cx : Cx β) (x3 x6 : List (Int × ByteArray)) (v7 v8 : Int) : g71_3F n (g71_m2 x3 x6 v7 v8) cx = g71_3 n (fun x3 => cx.ex 0 (g71_m3 x3)) x3 x6 v7 v8 := g71_3L_fx n cx n x3 x6 v7 v8
noncomputable def g71_4 (n : Nat) (kn : List (Int × ByteArray) → Option β) (x3 x6 : List (Int × ByteArray)) (v7 v8 : Int) : Option β := g71_3 n kn x3 x6 v7 v8
noncomputable def g71_4F (n : Nat) (s : FState) (cx : Cx β) : Option β := g71_3F n s { cx with ex := fun j s => bif Nat.beq j 0 then cx.nrm s else cx.ex j s }
theorem g71_4_fx (n : Nat) (cx : Cx β) (x3 x6 : List (Int × ByteArray)) (v7 v8 : Int) : g71_4F n (g71_m2 x3 x6 v7 v8) cx = g71_4 n (fun x3 => cx.nrm (g71_m3 x3)) x3 x6 v7 v8 := g71_3_fx n _ x3 x6 v7 v8
noncomputable def g71_5 (n : Nat) (kr : List (Int × ByteArray) → Option β) (x3 : List (Int × ByteArray)) : Option β := kr x3
noncomputable def g71_5F (n : Nat) (s : FState) (cx : Cx β) : Option β := FX (g71_G n) n (nav g71_B [1, 1, 1, 0]) (.fin none none (some g71_m1e) [] .leaf) s { cx with nrm := fun s => FX (g71_G n) n (nav g71_B [1, 1, 1, 1]) (.fin none none (some g71_m1e) [] .leaf) s cx }
theorem g71_5_fx (n : Nat) (cx : Cx β) (x3 : List (Int × ByteArray)) : g71_5F n (g71_m3 x3) cx = g71_5 n (fun x2 => cx.ret (g71_m1 x2)) x3 := by kernel_rfl
noncomputable def g71_6 (n : Nat) (kr : List (Int × ByteArray) → Option β) (x0 : List (Int × ByteArray)) : Option β := g71_1 n (fun x3 x6 v7 v8 => g71_4 n (fun x3 => g71_5 n kr x3) x3 x6 v7 v8) x0
noncomputable def g71_6F (n : Nat) (s : FState) (cx : Cx β) : Option β := g71_1F n s { cx with nrm := fun s => g71_4F n s { cx with nrm := fun s => g71_5F n s cx } }
theorem g71_6_fx (n : Nat) (cx : Cx β) (x0 : List (Int × ByteArray)) : g71_6F n (g71_m0 x0) cx = g71_6 n (fun x2 => cx.ret (g71_m1 x2)) x0 := by simp only [g71_6F, g71_6, g71_1_fx, g71_4_fx, g71_5_fx]
noncomputable def g71 (n : Nat) (x0 : List (Int × ByteArray)) : Option (DenR [.rw (.pair (.int .i64) .str) 29]) := g71_6 n (fun x2 => some (x2, ())) x0
noncomputable def g71_A : List AK := [.ro (.pair (.int .i8) .str) 125]
noncomputable def g71_R : List RK := [.rw (.pair (.int .i64) .str) 29]
noncomputable def g71_f (n : Nat) (d : DenA g71_A) : Option (DenR g71_R) := g71 n d.1
noncomputable def g71_S (n : Nat) : Spec := mkSpec g71_A g71_R (g71_f n)
noncomputable def g71_K : Sk := (.nd (.fin none none none [] .leaf) (.nd (.fin none none none [] .leaf) (.nd (.nd (.fin none (some g71_m2e) none [] .leaf) (.nd (.nd (.nd (.fin none none none [(0, g71_m3e)] .leaf) (.nd (.fin none none none [(0, g71_m3e)] .leaf) (.nd (.fin none none none [(0, g71_m3e)] .leaf) (.fin none (some g71_m2e) none [(0, g71_m3e)] .leaf)))) .leaf) .leaf)) (.nd (.fin none none (some g71_m1e) [] .leaf) (.fin none none (some g71_m1e) [] .leaf)))))
theorem g71_top (n : Nat) (s : FState) (cx : Cx β) : FX (g71_G n) n g71_B g71_K s cx = g71_6F n s cx := by kernel_rfl
theorem g71_fit (n : Nat) : Fit Tryd.prog 71 (g71_S n) :=
  fit_of (Γ := Γ0) (l := g71_C n) (n := n) (sk := g71_K) (ts := [(2, none)]) (fn := Tryd.f71) (c := g71_B) (by kernel_rfl) (by kernel_rfl) (by unfold Callable; kernel_rfl) tab_ok trivial follows_mixed (by kernel_rfl) (by kernel_rfl) (Nat.le_of_ble_eq_true (by kernel_rfl)) (Nat.le_of_ble_eq_true (by kernel_rfl)) (by kernel_rfl) (by kernel_rfl)
    (fun d => (g71_top n _ _).trans (Eq.trans (b := g71_6F n (g71_m0 d.1) (finCx (g71_G n) g71_R [(2, none)])) (by kernel_rfl) ((g71_6_fx n _ d.1).trans (by kernel_rfl))))
theorem g75_idle : Idle Tryd.prog 75 2 := fun vs w hv => by
  obtain ⟨p0, p1, rfl⟩ := arr2 hv
  refine callsD_of_wpS (fn := Tryd.f75) (c := fb Tryd.f75) (by kernel_rfl) (by kernel_rfl) fun c₀ cs hu => ?_
  show Code.wpS Tryd.prog (.seq (nav (fb Tryd.f75) [0]) (.cond (.tmp 3) (nav (fb Tryd.f75) [1, 0]) .skip)) _ _ _ _
  apply wpS_seq
  apply wpS_region
  simp [wpOpsS, go_sem, recoverD, hu, Exit.thenS]
  refine wpS_cond (t := false) (by simp [Act.eval, Array.replicate]) ?_
  simp only [Bool.false_eq_true, if_false]
  refine wpS_of_wp (wp_skip ?_)
  cases c₀
  simp_all [bodyPostS, results]
noncomputable def g46_m0 (x0 : List (Int × ByteArray)) (x1 : List ByteArray) : FState := ⟨tlist [(0, .sl 0 none false), (1, .sl 1 none false)], olist [(0, .row (.pair (.int .i64) .str) 29 false x0), (1, .row .str 9 false x1)]⟩
noncomputable def g46_m1 (p4 : (List (Int × ByteArray))) (p5 : Int) : FState := ⟨tlist [(4, .ptr 4 0 0), (5, .ptr 5 0 0)], olist [(4, .row (.sl 29 (.pair (.int .i64) .str)) 26 true [p4]), (5, .row (.int .i64) 3 true [p5])]⟩
noncomputable def g46_m1e : List NE := [.ptr 4 (.sl 29 (.pair (.int .i64) .str)) 26 true, .ptr 5 (.int .i64) 3 true]
noncomputable def g46_m2 (x0 : List (Int × ByteArray)) (x1 : List ByteArray) (p4 : (List (Int × ByteArray))) (p5 : Int) : FState := ⟨tlist [(0, .sl 0 none false), (1, .sl 1 none false), (4, .ptr 4 0 0), (5, .ptr 5 0 0)], olist [(0, .row (.pair (.int .i64) .str) 29 false x0), (1, .row .str 9 false x1), (4, .row (.sl 29 (.pair (.int .i64) .str)) 26 true [p4]), (5, .row (.int .i64) 3 true [p5])]⟩
noncomputable def g46_m2e : List NE := [.row 0 (.pair (.int .i64) .str) 29 false, .row 1 .str 9 false, .ptr 4 (.sl 29 (.pair (.int .i64) .str)) 26 true, .ptr 5 (.int .i64) 3 true]
noncomputable def g46_C (n : Nat) : List (Nat × Spec) := [(44, g44_S n), (57, g57_S n), (71, g71_S n), (76, g76_S n)]
noncomputable def g46_G (n : Nat) : Ctx := { Γ0 with calls := lkS (g46_C n) }
noncomputable def g46_B : Code := fb Tryd.f46
noncomputable def g46_1 (n : Nat) (kn : List (Int × ByteArray) → List ByteArray → (List (Int × ByteArray)) → Int → Option β) (x0 : List (Int × ByteArray)) (x1 : List ByteArray) : Option β := kn x0 x1 ([] : List (Int × ByteArray)) (0 : Int)
noncomputable def g46_1F (n : Nat) (s : FState) (cx : Cx β) : Option β := FX (g46_G n) n (nav g46_B [0]) (.fin none (some g46_m2e) none [] .leaf) s cx
theorem g46_1_fx (n : Nat) (cx : Cx β) (x0 : List (Int × ByteArray)) (x1 : List ByteArray) : g46_1F n (g46_m0 x0 x1) cx = g46_1 n (fun x0 x1 p4 p5 => cx.nrm (g46_m2 x0 x1 p4 p5)) x0 x1 := by kernel_rfl
noncomputable def g46_2 (n : Nat) (kr : (List (Int × ByteArray)) → Int → Option β) (x0 : List (Int × ByteArray)) (x1 : List ByteArray) (p4 : (List (Int × ByteArray))) (p5 : Int) : Option β := (g44 n).bind fun r1 => (g57 n x0).bind fun r2 => (g76 n r1.1 r2.1 x1).bind fun r3 => (g71 n r3.1).bind fun r4 => kr r4.1 (0 : Int)
noncomputable def g46_2F (n : Nat) (s : FState) (cx : Cx β) : Option β := FX (g46_G n) n (nav g46_B [1, 1, 0]) (.fin none none (some g46_m1e) [] .leaf) s { cx with nrm := fun s => FX (g46_G n) n (nav g46_B [1, 1, 1]) (.fin none none (some g46_m1e) [] .leaf) s cx }
theorem g46_2_fx (n : Nat) (cx : Cx β) (x0 : List (Int × ByteArray)) (x1 : List ByteArray) (p4 : (List (Int × ByteArray))) (p5 : Int) : g46_2F n (g46_m2 x0 x1 p4 p5) cx = g46_2 n (fun p4 p5 => cx.ret (g46_m1 p4 p5)) x0 x1 p4 p5 := by kernel_rfl
noncomputable def g46 (n : Nat) (x0 : List (Int × ByteArray)) (x1 : List ByteArray) : Option (DenR [.ro (.pair (.int .i64) .str) 29, .dat (.int .i64)]) := g46_1 n (fun x0 x1 p4 p5 => g46_2 n (fun p4 p5 => some (p4, (p5, ()))) x0 x1 p4 p5) x0 x1
noncomputable def g46_A : List AK := [.ro (.pair (.int .i64) .str) 29, .ro .str 9]
noncomputable def g46_R : List RK := [.ro (.pair (.int .i64) .str) 29, .dat (.int .i64)]
noncomputable def g46_f (n : Nat) (d : DenA g46_A) : Option (DenR g46_R) := g46 n d.1 d.2.1
noncomputable def g46_S (n : Nat) : Spec := mkSpec g46_A g46_R (g46_f n)
noncomputable def g46_K0 : Sk := (.fin none (some g46_m2e) none [] .leaf)
noncomputable def g46_K1 : Sk := (.nd (.fin none none (some g46_m1e) [] .leaf) (.fin none none (some g46_m1e) [] .leaf))
noncomputable def g46_K2 : Sk := (.fin (some g46_m2e) none none [] g46_K1)
theorem g46_top (n : Nat) (s : FState) (cx : Cx β) : FX (g46_G n) n (nav g46_B [1, 1]) g46_K1 s cx = g46_2F n s cx := by kernel_rfl
theorem g46_ini (n : Nat) (κ : FState → Option β) (x0 : List (Int × ByteArray)) (x1 : List ByteArray) (p4 : (List (Int × ByteArray))) (p5 : Int) : normK (g46_G n) g46_m2e (FState.set (g46_m2 x0 x1 p4 p5) 6 .dead) κ = κ (g46_m2 x0 x1 p4 p5) := by kernel_rfl
theorem g46_mid (n : Nat) (cx : Cx β) (x0 : List (Int × ByteArray)) (x1 : List ByteArray) (p4 : (List (Int × ByteArray))) (p5 : Int) : FX (g46_G n) n (nav g46_B [1, 1]) g46_K2 (FState.set (g46_m2 x0 x1 p4 p5) 6 .dead) cx = g46_2 n (fun p4 p5 => cx.ret (g46_m1 p4 p5)) x0 x1 p4 p5 :=
  (FX_ini (c := nav g46_B [1, 1]) (k := g46_K1) (show nav g46_B [1, 1] = .seq (nav g46_B [1, 1, 0]) (nav g46_B [1, 1, 1]) by kernel_rfl) rfl).trans ((g46_ini n _ x0 x1 p4 p5).trans ((g46_top n _ _).trans (g46_2_fx n cx x0 x1 p4 p5)))
theorem g46_fit (n : Nat) : Fit Tryd.prog 46 (g46_S n) :=
  fit_of_wrap (Γ := Γ0) (l := g46_C n) (n := n) (sk0 := g46_K0) (sk1 := g46_K2) (ts := [(4, some 26), (5, some 3)]) (fn := Tryd.f46) (c := g46_B) (c0 := nav g46_B [0]) (c1 := nav g46_B [1, 1]) (tm := 6) (g := 75) (k := 2) (by kernel_rfl) (by kernel_rfl) (by kernel_rfl) (by unfold Callable; kernel_rfl) tab_ok ⟨g44_fit n, g57_fit n, g71_fit n, g76_fit n, trivial⟩ follows_mixed (by unfold Callable; kernel_rfl) g75_idle (by kernel_rfl) (by kernel_rfl) (by kernel_rfl) (Nat.le_of_ble_eq_true (by kernel_rfl)) (Nat.le_of_ble_eq_true (by kernel_rfl)) (Nat.le_of_ble_eq_true (by kernel_rfl)) (by kernel_rfl) (by kernel_rfl)
    (fun d => Eq.trans (b := g46_1F n (g46_m0 d.1 d.2.1) ⟨fun s => FX (g46_G n) n (nav g46_B [1, 1]) g46_K2 (FState.set s 6 .dead) (finCx (g46_G n) g46_R [(4, some 26), (5, some 3)]), fun _ => none, fun _ _ => none⟩) (by kernel_rfl) ((g46_1_fx n _ d.1 d.2.1).trans (Eq.trans (b := g46_1 n (fun x0 x1 p4 p5 => g46_2 n (fun p4 p5 => (finCx (g46_G n) g46_R [(4, some 26), (5, some 3)]).ret (g46_m1 p4 p5)) x0 x1 p4 p5) d.1 d.2.1) (congrArg (fun k_ => g46_1 n k_ d.1 d.2.1) (funext fun x0 => (funext fun x1 => (funext fun p4 => (funext fun p5 => g46_mid n (finCx (g46_G n) g46_R [(4, some 26), (5, some 3)]) x0 x1 p4 p5))))) (by kernel_rfl))))
noncomputable def g47_m0 (x0 : List (Int × ByteArray)) (v1 : Int) : FState := ⟨tlist [(0, .sl 0 none false), (1, .dat (.int .i64) v1)], olist [(0, .row (.pair (.int .i64) .str) 29 false x0)]⟩
noncomputable def g47_m1 (x4 : List (Int × ByteArray)) : FState := ⟨tlist [(4, .sl 4 none false)], olist [(4, .row (.pair (.int .i64) .str) 29 false x4)]⟩
noncomputable def g47_m1e : List NE := [.row 4 (.pair (.int .i64) .str) 29 false]
noncomputable def g47_C (n : Nat) : List (Nat × Spec) := []
noncomputable def g47_G (n : Nat) : Ctx := { Γ0 with calls := lkS (g47_C n) }
noncomputable def g47_B : Code := fb Tryd.f47
noncomputable def g47_1 (n : Nat) (kr : List (Int × ByteArray) → Option β) (x0 : List (Int × ByteArray)) (v1 : Int) : Option β := bif (v1 != (0 : Int)) then (kr [((1 : Int), (⟨#[0, 102, 97, 117, 108, 116]⟩ : ByteArray)), ((1 : Int), (⟨#[]⟩ : ByteArray))]) else (kr x0)
noncomputable def g47_1F (n : Nat) (s : FState) (cx : Cx β) : Option β := FX (g47_G n) n (nav g47_B [0]) (.fin none none (some g47_m1e) [] .leaf) s { cx with nrm := fun s => FX (g47_G n) n (nav g47_B [1, 0, 0]) (.fin none none (some g47_m1e) [] .leaf) s { cx with nrm := fun s => FX (g47_G n) n (nav g47_B [1, 0, 1]) (.fin none none (some g47_m1e) [] .leaf) s { cx with nrm := fun s => FX (g47_G n) n (nav g47_B [1, 1, 0]) (.fin none none (some g47_m1e) [] .leaf) s { cx with nrm := fun s => FX (g47_G n) n (nav g47_B [1, 1, 1]) (.fin none none (some g47_m1e) [] .leaf) s cx } } } }
theorem g47_1_fx (n : Nat) (cx : Cx β) (x0 : List (Int × ByteArray)) (v1 : Int) : g47_1F n (g47_m0 x0 v1) cx = g47_1 n (fun x4 => cx.ret (g47_m1 x4)) x0 v1 := by kernel_rfl
noncomputable def g47 (n : Nat) (x0 : List (Int × ByteArray)) (v1 : Int) : Option (DenR [.ro (.pair (.int .i64) .str) 29]) := g47_1 n (fun x4 => some (x4, ())) x0 v1
noncomputable def g47_A : List AK := [.ro (.pair (.int .i64) .str) 29, .dat (.int .i64)]
noncomputable def g47_R : List RK := [.ro (.pair (.int .i64) .str) 29]
noncomputable def g47_f (n : Nat) (d : DenA g47_A) : Option (DenR g47_R) := g47 n d.1 d.2.1
noncomputable def g47_S (n : Nat) : Spec := mkSpec g47_A g47_R (g47_f n)
noncomputable def g47_K : Sk := (.nd (.fin none none (some g47_m1e) [] .leaf) (.nd (.nd (.fin none none (some g47_m1e) [] .leaf) (.fin none none (some g47_m1e) [] .leaf)) (.nd (.fin none none (some g47_m1e) [] .leaf) (.fin none none (some g47_m1e) [] .leaf))))
theorem g47_top (n : Nat) (s : FState) (cx : Cx β) : FX (g47_G n) n g47_B g47_K s cx = g47_1F n s cx := by kernel_rfl
theorem g47_fit (n : Nat) : Fit Tryd.prog 47 (g47_S n) :=
  fit_of (Γ := Γ0) (l := g47_C n) (n := n) (sk := g47_K) (ts := [(4, none)]) (fn := Tryd.f47) (c := g47_B) (by kernel_rfl) (by kernel_rfl) (by unfold Callable; kernel_rfl) tab_ok trivial follows_mixed (by kernel_rfl) (by kernel_rfl) (Nat.le_of_ble_eq_true (by kernel_rfl)) (Nat.le_of_ble_eq_true (by kernel_rfl)) (by kernel_rfl) (by kernel_rfl)
    (fun d => (g47_top n _ _).trans (Eq.trans (b := g47_1F n (g47_m0 d.1 d.2.1) (finCx (g47_G n) g47_R [(4, none)])) (by kernel_rfl) ((g47_1_fx n _ d.1 d.2.1).trans (by kernel_rfl))))
noncomputable def g16_m0 (x0 : List (Int × ByteArray)) (x1 : List ByteArray) : FState := ⟨tlist [(0, .sl 0 none false), (1, .sl 1 none false)], olist [(0, .row (.pair (.int .i64) .str) 29 false x0), (1, .row .str 9 false x1)]⟩
noncomputable def g16_m1 (x4 : List (Int × ByteArray)) : FState := ⟨tlist [(4, .sl 4 none false)], olist [(4, .row (.pair (.int .i64) .str) 29 false x4)]⟩
noncomputable def g16_m1e : List NE := [.row 4 (.pair (.int .i64) .str) 29 false]
noncomputable def g16_C (n : Nat) : List (Nat × Spec) := [(46, g46_S n), (47, g47_S n)]
noncomputable def g16_G (n : Nat) : Ctx := { Γ0 with calls := lkS (g16_C n) }
noncomputable def g16_B : Code := fb Tryd.f16
noncomputable def g16_1 (n : Nat) (kr : List (Int × ByteArray) → Option β) (x0 : List (Int × ByteArray)) (x1 : List ByteArray) : Option β := (g46 n x0 x1).bind fun r1 => (g47 n r1.1 r1.2.1).bind fun r2 => kr r2.1
noncomputable def g16_1F (n : Nat) (s : FState) (cx : Cx β) : Option β := FX (g16_G n) n (nav g16_B [0]) (.fin none none (some g16_m1e) [] .leaf) s { cx with nrm := fun s => FX (g16_G n) n (nav g16_B [1, 0]) (.fin none none (some g16_m1e) [] .leaf) s { cx with nrm := fun s => FX (g16_G n) n (nav g16_B [1, 1, 0]) (.fin none none (some g16_m1e) [] .leaf) s { cx with nrm := fun s => FX (g16_G n) n (nav g16_B [1, 1, 1]) (.fin none none (some g16_m1e) [] .leaf) s cx } } }
theorem g16_1_fx (n : Nat) (cx : Cx β) (x0 : List (Int × ByteArray)) (x1 : List ByteArray) : g16_1F n (g16_m0 x0 x1) cx = g16_1 n (fun x4 => cx.ret (g16_m1 x4)) x0 x1 := by kernel_rfl
noncomputable def g16 (n : Nat) (x0 : List (Int × ByteArray)) (x1 : List ByteArray) : Option (DenR [.ro (.pair (.int .i64) .str) 29]) := g16_1 n (fun x4 => some (x4, ())) x0 x1
noncomputable def g16_A : List AK := [.ro (.pair (.int .i64) .str) 29, .ro .str 9]
noncomputable def g16_R : List RK := [.ro (.pair (.int .i64) .str) 29]
noncomputable def g16_f (n : Nat) (d : DenA g16_A) : Option (DenR g16_R) := g16 n d.1 d.2.1
noncomputable def g16_S (n : Nat) : Spec := mkSpec g16_A g16_R (g16_f n)
noncomputable def g16_K : Sk := (.nd (.fin none none (some g16_m1e) [] .leaf) (.nd (.fin none none (some g16_m1e) [] .leaf) (.nd (.fin none none (some g16_m1e) [] .leaf) (.fin none none (some g16_m1e) [] .leaf))))
theorem g16_top (n : Nat) (s : FState) (cx : Cx β) : FX (g16_G n) n g16_B g16_K s cx = g16_1F n s cx := by kernel_rfl
theorem g16_fit (n : Nat) : Fit Tryd.prog 16 (g16_S n) :=
  fit_of (Γ := Γ0) (l := g16_C n) (n := n) (sk := g16_K) (ts := [(4, none)]) (fn := Tryd.f16) (c := g16_B) (by kernel_rfl) (by kernel_rfl) (by unfold Callable; kernel_rfl) tab_ok ⟨g46_fit n, g47_fit n, trivial⟩ follows_mixed (by kernel_rfl) (by kernel_rfl) (Nat.le_of_ble_eq_true (by kernel_rfl)) (Nat.le_of_ble_eq_true (by kernel_rfl)) (by kernel_rfl) (by kernel_rfl)
    (fun d => (g16_top n _ _).trans (Eq.trans (b := g16_1F n (g16_m0 d.1 d.2.1) (finCx (g16_G n) g16_R [(4, none)])) (by kernel_rfl) ((g16_1_fx n _ d.1 d.2.1).trans (by kernel_rfl))))
noncomputable def g3_m0 (v0 v1 : ByteArray) : FState := ⟨tlist [(0, .dat .str v0), (1, .dat .str v1)], olist []⟩
noncomputable def g3_m1 (v4 : Bool) : FState := ⟨tlist [(4, .dat .bool v4)], olist []⟩
noncomputable def g3_m1e : List NE := [.keep 4]
noncomputable def g3_C (n : Nat) : List (Nat × Spec) := [(14, g14_S n), (15, g15_S n), (16, g16_S n)]
noncomputable def g3_G (n : Nat) : Ctx := { Γ0 with calls := lkS (g3_C n) }
noncomputable def g3_B : Code := fb Tryd.f3
noncomputable def g3_1 (n : Nat) (kr : Bool → Option β) (v0 v1 : ByteArray) : Option β := bif (decide ((v0.size : Int) > (2147483647 : Int))) then (kr true) else (bif (decide ((v1.size : Int) > (2147483647 : Int))) then (kr true) else ((g14 n v0 (200 : Int)).bind fun r1 => (g14 n v1 (200 : Int)).bind fun r2 => (g15 n r1.1 r2.1).bind fun r3 => (g16 n [((-1 : Int), r3.1), ((1 : Int), r3.2.1)] r3.2.2.1).bind fun r4 => bif ((r4.1.length : Int) == (2 : Int)) then (idx (0 : Int) (r4.1.length : Int) <| bif (((rd r4.1 (0 : Int) ((0 : Int), (⟨#[]⟩ : ByteArray))).1 == (-1 : Int)) && (strEq ((rd r4.1 (0 : Int) ((0 : Int), (⟨#[]⟩ : ByteArray))).2) r1.1)) then (idx (1 : Int) (r4.1.length : Int) <| kr (((rd r4.1 (1 : Int) ((0 : Int), (⟨#[]⟩ : ByteArray))).1 == (1 : Int)) && (strEq ((rd r4.1 (1 : Int) ((0 : Int), (⟨#[]⟩ : ByteArray))).2) r2.1))) else (kr false)) else (kr false)))
noncomputable def g3_1F (n : Nat) (s : FState) (cx : Cx β) : Option β := FX (g3_G n) n (nav g3_B [0]) (.fin none none (some g3_m1e) [] .leaf) s { cx with nrm := fun s => FX (g3_G n) n (nav g3_B [1, 0, 0]) (.fin none none (some g3_m1e) [] .leaf) s { cx with nrm := fun s => FX (g3_G n) n (nav g3_B [1, 0, 1]) (.fin none none (some g3_m1e) [] .leaf) s { cx with nrm := fun s => FX (g3_G n) n (nav g3_B [1, 1, 0]) (.fin none none (some g3_m1e) [] .leaf) s { cx with nrm := fun s => FX (g3_G n) n (nav g3_B [1, 1, 1, 0]) (.fin none none (some g3_m1e) [] .leaf) s { cx with nrm := fun s => FX (g3_G n) n (nav g3_B [1, 1, 1, 1, 0]) (.fin none none (some g3_m1e) [] .leaf) s { cx with nrm := fun s => FX (g3_G n) n (nav g3_B [1, 1, 1, 1, 1, 0]) (.fin none none (some g3_m1e) [] .leaf) s { cx with nrm := fun s => FX (g3_G n) n (nav g3_B [1, 1, 1, 1, 1, 1]) (.fin none none (some g3_m1e) [] .leaf) s cx } } } } } } }
theorem g3_1_fx (n : Nat) (cx : Cx β) (v0 v1 : ByteArray) : g3_1F n (g3_m0 v0 v1) cx = g3_1 n (fun v4 => cx.ret (g3_m1 v4)) v0 v1 := by kernel_rfl
noncomputable def g3 (n : Nat) (v0 v1 : ByteArray) : Option (DenR [.dat .bool]) := g3_1 n (fun v4 => some (v4, ())) v0 v1
noncomputable def g3_A : List AK := [.dat .str, .dat .str]
noncomputable def g3_R : List RK := [.dat .bool]
noncomputable def g3_f (n : Nat) (d : DenA g3_A) : Option (DenR g3_R) := g3 n d.1 d.2.1
noncomputable def g3_S (n : Nat) : Spec := mkSpec g3_A g3_R (g3_f n)
noncomputable def g3_K : Sk := (.nd (.fin none none (some g3_m1e) [] .leaf) (.nd (.nd (.fin none none (some g3_m1e) [] .leaf) (.fin none none (some g3_m1e) [] .leaf)) (.nd (.fin none none (some g3_m1e) [] .leaf) (.nd (.fin none none (some g3_m1e) [] .leaf) (.nd (.fin none none (some g3_m1e) [] .leaf) (.nd (.fin none none (some g3_m1e) [] .leaf) (.fin none none (some g3_m1e) [] .leaf)))))))
theorem g3_top (n : Nat) (s : FState) (cx : Cx β) : FX (g3_G n) n g3_B g3_K s cx = g3_1F n s cx := by kernel_rfl
theorem g3_fit (n : Nat) : Fit Tryd.prog 3 (g3_S n) :=
  fit_of (Γ := Γ0) (l := g3_C n) (n := n) (sk := g3_K) (ts := [(4, none)]) (fn := Tryd.f3) (c := g3_B) (by kernel_rfl) (by kernel_rfl) (by unfold Callable; kernel_rfl) tab_ok ⟨g14_fit n, g15_fit n, g16_fit n, trivial⟩ follows_mixed (by kernel_rfl) (by kernel_rfl) (Nat.le_of_ble_eq_true (by kernel_rfl)) (Nat.le_of_ble_eq_true (by kernel_rfl)) (by kernel_rfl) (by kernel_rfl)
    (fun d => (g3_top n _ _).trans (Eq.trans (b := g3_1F n (g3_m0 d.1 d.2.1) (finCx (g3_G n) g3_R [(4, none)])) (by kernel_rfl) ((g3_1_fx n _ d.1 d.2.1).trans (by kernel_rfl))))
end Go.Proofs.YtmfgccjcnnlehaaDoorZF
