import Derived.Test.YtoafkjeamgelgaaDoorZFT
import Derived.Test.YtoafkjeamgelgaaDoorZFE
namespace Go.Proofs.YtoafkjeamgelgaaDoorZF
open Go Go.Proofs
set_option linter.unusedVariables false
set_option maxRecDepth 100000
variable {β : Type}
noncomputable def g70_m0 (v0 v1 v2 : Int) : FState := ⟨tlist [(0, .dat (.int .u32) v0), (1, .dat (.int .u8) v1), (2, .dat (.int .u8) v2)], olist []⟩
noncomputable def g70_m1 (v6 : Int) : FState := ⟨tlist [(6, .dat (.int .u8) v6)], olist []⟩
noncomputable def g70_m1e : List NE := [.keep 6]
noncomputable def g70_C (n : Nat) : List (Nat × Spec) := []
noncomputable def g70_G (n : Nat) : Ctx := { Γ0 with calls := lkS (g70_C n) }
noncomputable def g70_B : Code := fb Tryd.f70
noncomputable def g70_1 (n : Nat) (kr : Int → Option β) (v0 v1 v2 : Int) : Option β := nneg v2 <| nneg v1 <| kr (IntKind.u8.wrap ((andI .u32 (shrI .u32 v0 v2) (IntKind.u32.wrap ((shlI .u32 (1 : Int) v1) - (1 : Int))))))
noncomputable def g70_1F (n : Nat) (s : FState) (cx : Cx β) : Option β := FX (g70_G n) n (nav g70_B [0]) (.fin none none (some g70_m1e) [] .leaf) s { cx with nrm := fun s => FX (g70_G n) n (nav g70_B [1, 0]) (.fin none none (some g70_m1e) [] .leaf) s { cx with nrm := fun s => FX (g70_G n) n (nav g70_B [1, 1]) (.fin none none (some g70_m1e) [] .leaf) s cx } }
theorem g70_1_fx (n : Nat) (cx : Cx β) (v0 v1 v2 : Int) : g70_1F n (g70_m0 v0 v1 v2) cx = g70_1 n (fun v6 => cx.ret (g70_m1 v6)) v0 v1 v2 := by kernel_rfl
noncomputable def g70 (n : Nat) (v0 v1 v2 : Int) : Option (DenR [.dat (.int .u8)]) := g70_1 n (fun v6 => some (v6, ())) v0 v1 v2
noncomputable def g70_A : List AK := [.dat (.int .u32), .dat (.int .u8), .dat (.int .u8)]
noncomputable def g70_R : List RK := [.dat (.int .u8)]
noncomputable def g70_f (n : Nat) (d : DenA g70_A) : Option (DenR g70_R) := g70 n d.1 d.2.1 d.2.2.1
noncomputable def g70_S (n : Nat) : Spec := mkSpec g70_A g70_R (g70_f n)
noncomputable def g70_K : Sk := (.nd (.fin none none (some g70_m1e) [] .leaf) (.nd (.fin none none (some g70_m1e) [] .leaf) (.fin none none (some g70_m1e) [] .leaf)))
theorem g70_top (n : Nat) (s : FState) (cx : Cx β) : FX (g70_G n) n g70_B g70_K s cx = g70_1F n s cx := by kernel_rfl
theorem g70_fit (n : Nat) : Fit Tryd.prog 70 (g70_S n) :=
  fit_of (Γ := Γ0) (l := g70_C n) (n := n) (sk := g70_K) (ts := [(6, none)]) (fn := Tryd.f70) (c := g70_B) (by kernel_rfl) (by kernel_rfl) (by unfold Callable; kernel_rfl) tab_ok trivial follows_mixed (by kernel_rfl) (by kernel_rfl) (Nat.le_of_ble_eq_true (by kernel_rfl)) (Nat.le_of_ble_eq_true (by kernel_rfl)) (by kernel_rfl) (by kernel_rfl)
    (fun d => (g70_top n _ _).trans (Eq.trans (b := g70_1F n (g70_m0 d.1 d.2.1 d.2.2.1) (finCx (g70_G n) g70_R [(6, none)])) (by kernel_rfl) ((g70_1_fx n _ d.1 d.2.1 d.2.2.1).trans (by kernel_rfl))))
noncomputable def g69_A : List AK := [.ro (.int .u8) 5]
noncomputable def g69_R : List RK := [.dat (.int .i32), .dat (.int .i64)]
noncomputable def g69 (n : Nat) (v0 : List Int) : Option (DenR [.dat (.int .i32), .dat (.int .i64)]) := if v0 ≠ [] ∧ ∀ x ∈ v0, 0 ≤ x ∧ x < 256 then some (((Lib.decodeGo (strOfNums v0)).1 : Int), (((Lib.decodeGo (strOfNums v0)).2 : Int), ())) else none
noncomputable def g69_f (n : Nat) (d : DenA g69_A) : Option (DenR g69_R) := g69 n d.1
noncomputable def g69_S (n : Nat) : Spec := mkSpec g69_A g69_R (g69_f n)
theorem g69_fit (n : Nat) : Fit Tryd.prog 69 (g69_S n) := fit_read (by unfold Callable; kernel_rfl) rfl fun d x w A vs hG ha hx => by
  obtain ⟨v, vs', o1, o2, rfl, _, ⟨_, ad, cap, rfl, hle, hne⟩, h3, _⟩ := ha
  obtain ⟨xs, u⟩ := d
  subst h3
  obtain ⟨hc, hx⟩ := if_inv hx
  cases hx
  obtain ⟨b, off, rfl, hb, hrow⟩ := hne hc.1
  have key := Tryd.utf8_DecodeRune (strOfNums xs) b off cap w (tabs_of hG) (cells_nums hc.2 hrow)
  rw [strOfNums_size] at key
  exact key.mono fun e w' ⟨he, hb⟩ => ⟨[.int .i32 (Lib.decodeGo (strOfNums xs)).1, .int .i64 (Lib.decodeGo (strOfNums xs)).2], he, ⟨_, _, [], [], rfl, rfl, ⟨rfl, _, rfl, rfl⟩, ⟨_, _, [], [], rfl, rfl, ⟨rfl, _, rfl, rfl⟩, rfl, rfl⟩⟩, hb⟩
noncomputable def g55_m0 (v0 : Int) : FState := ⟨tlist [(0, .dat (.int .u32) v0)], olist []⟩
noncomputable def g55_m1 (v2 : Int) : FState := ⟨tlist [(2, .dat (.int .i32) v2)], olist []⟩
noncomputable def g55_m1e : List NE := [.keep 2]
noncomputable def g55_C (n : Nat) : List (Nat × Spec) := [(69, g69_S n), (70, g70_S n)]
noncomputable def g55_G (n : Nat) : Ctx := { Γ0 with calls := lkS (g55_C n) }
noncomputable def g55_B : Code := fb Tryd.f55
noncomputable def g55_1 (n : Nat) (kr : Int → Option β) (v0 : Int) : Option β := bif (decide (v0 < (128 : Int))) then (kr (IntKind.i32.wrap (v0))) else (bif (decide (v0 < (2048 : Int))) then ((g70 n v0 (5 : Int) (6 : Int)).bind fun r1 => (g70 n v0 (6 : Int) (0 : Int)).bind fun r2 => (g69 n [(orI .u8 (192 : Int) r1.1), (orI .u8 (128 : Int) r2.1)]).bind fun r3 => bif (r3.2.1 != (2 : Int)) then none else (bif (r3.1 == (65533 : Int)) then none else (kr r3.1))) else (bif (decide (v0 < (63485 : Int))) then (bif (decide (v0 ≥ (55296 : Int))) then ((g70 n (IntKind.u32.wrap (v0 + (2048 : Int))) (4 : Int) (12 : Int)).bind fun r4 => (g70 n (IntKind.u32.wrap (v0 + (2048 : Int))) (6 : Int) (6 : Int)).bind fun r5 => (g70 n (IntKind.u32.wrap (v0 + (2048 : Int))) (6 : Int) (0 : Int)).bind fun r6 => (g69 n [(orI .u8 (224 : Int) r4.1), (orI .u8 (128 : Int) r5.1), (orI .u8 (128 : Int) r6.1)]).bind fun r7 => bif (r7.2.1 != (3 : Int)) then none else (bif (r7.1 == (65533 : Int)) then none else (kr r7.1))) else ((g70 n v0 (4 : Int) (12 : Int)).bind fun r8 => (g70 n v0 (6 : Int) (6 : Int)).bind fun r9 => (g70 n v0 (6 : Int) (0 : Int)).bind fun r10 => (g69 n [(orI .u8 (224 : Int) r8.1), (orI .u8 (128 : Int) r9.1), (orI .u8 (128 : Int) r10.1)]).bind fun r11 => bif (r11.2.1 != (3 : Int)) then none else (bif (r11.1 == (65533 : Int)) then none else (kr r11.1)))) else (bif (decide (v0 < (2095101 : Int))) then ((g70 n (IntKind.u32.wrap (v0 + (2051 : Int))) (3 : Int) (18 : Int)).bind fun r12 => (g70 n (IntKind.u32.wrap (v0 + (2051 : Int))) (6 : Int) (12 : Int)).bind fun r13 => (g70 n (IntKind.u32.wrap (v0 + (2051 : Int))) (6 : Int) (6 : Int)).bind fun r14 => (g70 n (IntKind.u32.wrap (v0 + (2051 : Int))) (6 : Int) (0 : Int)).bind fun r15 => (g69 n [(orI .u8 (240 : Int) r12.1), (orI .u8 (128 : Int) r13.1), (orI .u8 (128 : Int) r14.1), (orI .u8 (128 : Int) r15.1)]).bind fun r16 => bif (r16.2.1 != (4 : Int)) then none else (bif (r16.1 == (65533 : Int)) then none else (kr r16.1))) else none)))
noncomputable def g55_1F (n : Nat) (s : FState) (cx : Cx β) : Option β := FX (g55_G n) n (nav g55_B [0]) (.fin none none (some g55_m1e) [] .leaf) s { cx with nrm := fun s => FX (g55_G n) n (nav g55_B [1, 0, 0]) (.fin none none (some g55_m1e) [] .leaf) s { cx with nrm := fun s => FX (g55_G n) n (nav g55_B [1, 0, 1]) (.fin none none (some g55_m1e) [] .leaf) s { cx with nrm := fun s => FX (g55_G n) n (nav g55_B [1, 1, 0, 0]) (.fin none none (some g55_m1e) [] .leaf) s { cx with nrm := fun s => FX (g55_G n) n (nav g55_B [1, 1, 0, 1]) (.fin none none (some g55_m1e) [] .leaf) s { cx with nrm := fun s => FX (g55_G n) n (nav g55_B [1, 1, 1, 0, 0]) (.fin none none (some g55_m1e) [] .leaf) s { cx with nrm := fun s => FX (g55_G n) n (nav g55_B [1, 1, 1, 0, 1]) (.fin none none (some g55_m1e) [] .leaf) s { cx with nrm := fun s => FX (g55_G n) n (nav g55_B [1, 1, 1, 1, 0, 0]) (.fin none none (some g55_m1e) [] .leaf) s { cx with nrm := fun s => FX (g55_G n) n (nav g55_B [1, 1, 1, 1, 0, 1]) (.fin none none (some g55_m1e) [] .leaf) s { cx with nrm := fun s => FX (g55_G n) n (nav g55_B [1, 1, 1, 1, 1]) (.fin none none (some g55_m1e) [] .leaf) s cx } } } } } } } } }
theorem g55_1_fx (n : Nat) (cx : Cx β) (v0 : Int) : g55_1F n (g55_m0 v0) cx = g55_1 n (fun v2 => cx.ret (g55_m1 v2)) v0 := by kernel_rfl
noncomputable def g55 (n : Nat) (v0 : Int) : Option (DenR [.dat (.int .i32)]) := g55_1 n (fun v2 => some (v2, ())) v0
noncomputable def g55_A : List AK := [.dat (.int .u32)]
noncomputable def g55_R : List RK := [.dat (.int .i32)]
noncomputable def g55_f (n : Nat) (d : DenA g55_A) : Option (DenR g55_R) := g55 n d.1
noncomputable def g55_S (n : Nat) : Spec := mkSpec g55_A g55_R (g55_f n)
noncomputable def g55_K : Sk := (.nd (.fin none none (some g55_m1e) [] .leaf) (.nd (.nd (.fin none none (some g55_m1e) [] .leaf) (.fin none none (some g55_m1e) [] .leaf)) (.nd (.nd (.fin none none (some g55_m1e) [] .leaf) (.fin none none (some g55_m1e) [] .leaf)) (.nd (.nd (.fin none none (some g55_m1e) [] .leaf) (.fin none none (some g55_m1e) [] .leaf)) (.nd (.nd (.fin none none (some g55_m1e) [] .leaf) (.fin none none (some g55_m1e) [] .leaf)) (.fin none none (some g55_m1e) [] .leaf))))))
theorem g55_top (n : Nat) (s : FState) (cx : Cx β) : FX (g55_G n) n g55_B g55_K s cx = g55_1F n s cx := by kernel_rfl
theorem g55_fit (n : Nat) : Fit Tryd.prog 55 (g55_S n) :=
  fit_of (Γ := Γ0) (l := g55_C n) (n := n) (sk := g55_K) (ts := [(2, none)]) (fn := Tryd.f55) (c := g55_B) (by kernel_rfl) (by kernel_rfl) (by unfold Callable; kernel_rfl) tab_ok ⟨g69_fit n, g70_fit n, trivial⟩ follows_mixed (by kernel_rfl) (by kernel_rfl) (Nat.le_of_ble_eq_true (by kernel_rfl)) (Nat.le_of_ble_eq_true (by kernel_rfl)) (by kernel_rfl) (by kernel_rfl)
    (fun d => (g55_top n _ _).trans (Eq.trans (b := g55_1F n (g55_m0 d.1) (finCx (g55_G n) g55_R [(2, none)])) (by kernel_rfl) ((g55_1_fx n _ d.1).trans (by kernel_rfl))))
noncomputable def g42_m0 (v0 : Int) : FState := ⟨tlist [(0, .dat (.int .u32) v0)], olist []⟩
noncomputable def g42_m1 (v2 : Int) : FState := ⟨tlist [(2, .dat (.int .i32) v2)], olist []⟩
noncomputable def g42_m1e : List NE := [.keep 2]
noncomputable def g42_C (n : Nat) : List (Nat × Spec) := [(55, g55_S n)]
noncomputable def g42_G (n : Nat) : Ctx := { Γ0 with calls := lkS (g42_C n) }
noncomputable def g42_B : Code := fb Tryd.f42
noncomputable def g42_1 (n : Nat) (kr : Int → Option β) (v0 : Int) : Option β := (g55 n v0).bind fun r1 => kr r1.1
noncomputable def g42_1F (n : Nat) (s : FState) (cx : Cx β) : Option β := FX (g42_G n) n (nav g42_B [0]) (.fin none none (some g42_m1e) [] .leaf) s { cx with nrm := fun s => FX (g42_G n) n (nav g42_B [1, 0]) (.fin none none (some g42_m1e) [] .leaf) s { cx with nrm := fun s => FX (g42_G n) n (nav g42_B [1, 1]) (.fin none none (some g42_m1e) [] .leaf) s cx } }
theorem g42_1_fx (n : Nat) (cx : Cx β) (v0 : Int) : g42_1F n (g42_m0 v0) cx = g42_1 n (fun v2 => cx.ret (g42_m1 v2)) v0 := by kernel_rfl
noncomputable def g42 (n : Nat) (v0 : Int) : Option (DenR [.dat (.int .i32)]) := g42_1 n (fun v2 => some (v2, ())) v0
noncomputable def g42_A : List AK := [.dat (.int .u32)]
noncomputable def g42_R : List RK := [.dat (.int .i32)]
noncomputable def g42_f (n : Nat) (d : DenA g42_A) : Option (DenR g42_R) := g42 n d.1
noncomputable def g42_S (n : Nat) : Spec := mkSpec g42_A g42_R (g42_f n)
noncomputable def g42_K : Sk := (.nd (.fin none none (some g42_m1e) [] .leaf) (.nd (.fin none none (some g42_m1e) [] .leaf) (.fin none none (some g42_m1e) [] .leaf)))
theorem g42_top (n : Nat) (s : FState) (cx : Cx β) : FX (g42_G n) n g42_B g42_K s cx = g42_1F n s cx := by kernel_rfl
theorem g42_fit (n : Nat) : Fit Tryd.prog 42 (g42_S n) :=
  fit_of (Γ := Γ0) (l := g42_C n) (n := n) (sk := g42_K) (ts := [(2, none)]) (fn := Tryd.f42) (c := g42_B) (by kernel_rfl) (by kernel_rfl) (by unfold Callable; kernel_rfl) tab_ok ⟨g55_fit n, trivial⟩ follows_mixed (by kernel_rfl) (by kernel_rfl) (Nat.le_of_ble_eq_true (by kernel_rfl)) (Nat.le_of_ble_eq_true (by kernel_rfl)) (by kernel_rfl) (by kernel_rfl)
    (fun d => (g42_top n _ _).trans (Eq.trans (b := g42_1F n (g42_m0 d.1) (finCx (g42_G n) g42_R [(2, none)])) (by kernel_rfl) ((g42_1_fx n _ d.1).trans (by kernel_rfl))))
theorem g41_idle : Idle Tryd.prog 41 2 := fun vs w hv => by
  obtain ⟨p0, p1, rfl⟩ := arr2 hv
  refine callsD_of_wpS (fn := Tryd.f41) (c := fb Tryd.f41) (by kernel_rfl) (by kernel_rfl) fun c₀ cs hu => ?_
  show Code.wpS Tryd.prog (.seq (nav (fb Tryd.f41) [0]) (.cond (.tmp 3) (nav (fb Tryd.f41) [1, 0]) .skip)) _ _ _ _
  apply wpS_seq
  apply wpS_region
  simp [wpOpsS, go_sem, recoverD, hu, Exit.thenS]
  refine wpS_cond (t := false) (by simp [Act.eval, Array.replicate]) ?_
  simp only [Bool.false_eq_true, if_false]
  refine wpS_of_wp (wp_skip ?_)
  cases c₀
  simp_all [bodyPostS, results]
noncomputable def g20_m0 (v0 : Int) : FState := ⟨tlist [(0, .dat (.int .u32) v0)], olist []⟩
noncomputable def g20_m1 (p2 p3 : Int) : FState := ⟨tlist [(2, .ptr 2 0 0), (3, .ptr 3 0 0)], olist [(2, .row (.int .i32) 21 true [p2]), (3, .row (.int .i64) 3 true [p3])]⟩
noncomputable def g20_m1e : List NE := [.ptr 2 (.int .i32) 21 true, .ptr 3 (.int .i64) 3 true]
noncomputable def g20_m2 (v0 p2 p3 : Int) : FState := ⟨tlist [(0, .dat (.int .u32) v0), (2, .ptr 2 0 0), (3, .ptr 3 0 0)], olist [(2, .row (.int .i32) 21 true [p2]), (3, .row (.int .i64) 3 true [p3])]⟩
noncomputable def g20_m2e : List NE := [.keep 0, .ptr 2 (.int .i32) 21 true, .ptr 3 (.int .i64) 3 true]
noncomputable def g20_C (n : Nat) : List (Nat × Spec) := [(42, g42_S n)]
noncomputable def g20_G (n : Nat) : Ctx := { Γ0 with calls := lkS (g20_C n) }
noncomputable def g20_B : Code := fb Tryd.f20
noncomputable def g20_1 (n : Nat) (kn : Int → Int → Int → Option β) (v0 : Int) : Option β := kn v0 (0 : Int) (0 : Int)
noncomputable def g20_1F (n : Nat) (s : FState) (cx : Cx β) : Option β := FX (g20_G n) n (nav g20_B [0]) (.fin none (some g20_m2e) none [] .leaf) s cx
theorem g20_1_fx (n : Nat) (cx : Cx β) (v0 : Int) : g20_1F n (g20_m0 v0) cx = g20_1 n (fun v0 p2 p3 => cx.nrm (g20_m2 v0 p2 p3)) v0 := by kernel_rfl
noncomputable def g20_2 (n : Nat) (kr : Int → Int → Option β) (v0 p2 p3 : Int) : Option β := (g42 n v0).bind fun r1 => kr r1.1 (0 : Int)
noncomputable def g20_2F (n : Nat) (s : FState) (cx : Cx β) : Option β := FX (g20_G n) n (nav g20_B [1, 1, 0]) (.fin none none (some g20_m1e) [] .leaf) s { cx with nrm := fun s => FX (g20_G n) n (nav g20_B [1, 1, 1]) (.fin none none (some g20_m1e) [] .leaf) s cx }
theorem g20_2_fx (n : Nat) (cx : Cx β) (v0 p2 p3 : Int) : g20_2F n (g20_m2 v0 p2 p3) cx = g20_2 n (fun p2 p3 => cx.ret (g20_m1 p2 p3)) v0 p2 p3 := by kernel_rfl
noncomputable def g20 (n : Nat) (v0 : Int) : Option (DenR [.dat (.int .i32), .dat (.int .i64)]) := g20_1 n (fun v0 p2 p3 => g20_2 n (fun p2 p3 => some (p2, (p3, ()))) v0 p2 p3) v0
noncomputable def g20_A : List AK := [.dat (.int .u32)]
noncomputable def g20_R : List RK := [.dat (.int .i32), .dat (.int .i64)]
noncomputable def g20_f (n : Nat) (d : DenA g20_A) : Option (DenR g20_R) := g20 n d.1
noncomputable def g20_S (n : Nat) : Spec := mkSpec g20_A g20_R (g20_f n)
noncomputable def g20_K0 : Sk := (.fin none (some g20_m2e) none [] .leaf)
noncomputable def g20_K1 : Sk := (.nd (.fin none none (some g20_m1e) [] .leaf) (.fin none none (some g20_m1e) [] .leaf))
noncomputable def g20_K2 : Sk := (.fin (some g20_m2e) none none [] (.nd (.fin none none (some g20_m1e) [] .leaf) (.fin none none (some g20_m1e) [] .leaf)))
theorem g20_top (n : Nat) (s : FState) (cx : Cx β) : FX (g20_G n) n (nav g20_B [1, 1]) g20_K1 s cx = g20_2F n s cx := by kernel_rfl
theorem g20_mid (n : Nat) (cx : Cx β) (v0 p2 p3 : Int) : FX (g20_G n) n (nav g20_B [1, 1]) g20_K2 (FState.set (g20_m2 v0 p2 p3) 4 .dead) cx = g20_2 n (fun p2 p3 => cx.ret (g20_m1 p2 p3)) v0 p2 p3 :=
  Eq.trans (b := FX (g20_G n) n (nav g20_B [1, 1]) g20_K1 (g20_m2 v0 p2 p3) cx) (by kernel_rfl) ((g20_top n _ _).trans (g20_2_fx n cx v0 p2 p3))
theorem g20_fit (n : Nat) : Fit Tryd.prog 20 (g20_S n) :=
  fit_of_wrap (Γ := Γ0) (l := g20_C n) (n := n) (sk0 := g20_K0) (sk1 := g20_K2) (ts := [(2, some 21), (3, some 3)]) (fn := Tryd.f20) (c := g20_B) (c0 := nav g20_B [0]) (c1 := nav g20_B [1, 1]) (tm := 4) (g := 41) (k := 2) (by kernel_rfl) (by kernel_rfl) (by kernel_rfl) (by unfold Callable; kernel_rfl) tab_ok ⟨g42_fit n, trivial⟩ follows_mixed (by unfold Callable; kernel_rfl) g41_idle (by kernel_rfl) (by kernel_rfl) (by kernel_rfl) (Nat.le_of_ble_eq_true (by kernel_rfl)) (Nat.le_of_ble_eq_true (by kernel_rfl)) (Nat.le_of_ble_eq_true (by kernel_rfl)) (by kernel_rfl) (by kernel_rfl)
    (fun d => Eq.trans (b := g20_1F n (g20_m0 d.1) ⟨fun s => FX (g20_G n) n (nav g20_B [1, 1]) g20_K2 (FState.set s 4 .dead) (finCx (g20_G n) g20_R [(2, some 21), (3, some 3)]), fun _ => none, fun _ _ => none⟩) (by kernel_rfl) ((g20_1_fx n _ d.1).trans (Eq.trans (b := g20_1 n (fun v0 p2 p3 => g20_2 n (fun p2 p3 => (finCx (g20_G n) g20_R [(2, some 21), (3, some 3)]).ret (g20_m1 p2 p3)) v0 p2 p3) d.1) (congrArg (fun k_ => g20_1 n k_ d.1) (funext fun v0 => (funext fun p2 => (funext fun p3 => g20_mid n (finCx (g20_G n) g20_R [(2, some 21), (3, some 3)]) v0 p2 p3)))) (by kernel_rfl))))
noncomputable def g82_m0 (x0 : List Int) (v1 : Int) : FState := ⟨tlist [(0, .sl 0 none false), (1, .dat (.int .i32) v1)], olist [(0, .row (.int .u8) 5 true x0)]⟩
noncomputable def g82_m0e : List NE := [.row 0 (.int .u8) 5 true, .keep 1]
noncomputable def g82_m1 (x0 : List Int) (v4 : Int) : FState := ⟨tlist [(0, .sl 0 none false), (4, .dat (.int .i64) v4)], olist [(0, .row (.int .u8) 5 true x0)]⟩
noncomputable def g82_m1e : List NE := [.row 0 (.int .u8) 5 true, .keep 4]
noncomputable def g82_m2 (x0 : List Int) (v1 v5 : Int) : FState := ⟨tlist [(0, .sl 0 none false), (1, .dat (.int .i32) v1), (5, .dat (.int .u32) v5)], olist [(0, .row (.int .u8) 5 true x0)]⟩
noncomputable def g82_m2e : List NE := [.row 0 (.int .u8) 5 true, .keep 1, .keep 5]
noncomputable def g82_C (n : Nat) : List (Nat × Spec) := []
noncomputable def g82_G (n : Nat) : Ctx := { Γ0 with calls := lkS (g82_C n) }
noncomputable def g82_B : Code := fb Tryd.f82
noncomputable def g82_1 (n : Nat) (kn : List Int → Int → Int → Option β) (x0 : List Int) (v1 : Int) : Option β := kn x0 v1 (IntKind.u32.wrap (v1))
noncomputable def g82_1F (n : Nat) (s : FState) (cx : Cx β) : Option β := FX (g82_G n) n (nav g82_B [0]) (.fin none none none [] .leaf) s { cx with nrm := fun s => FX (g82_G n) n (nav g82_B [1, 0]) (.fin none (some g82_m2e) none [] .leaf) s cx }
theorem g82_1_fx (n : Nat) (cx : Cx β) (x0 : List Int) (v1 : Int) : g82_1F n (g82_m0 x0 v1) cx = g82_1 n (fun x0 v1 v5 => cx.nrm (g82_m2 x0 v1 v5)) x0 v1 := by kernel_rfl
noncomputable def g82_2 (n : Nat) (kr : List Int → Int → Option β) (x0 : List Int) (v1 v5 : Int) : Option β := bif (decide (v5 ≤ (2047 : Int))) then (idx (1 : Int) (x0.length : Int) <| idx (0 : Int) (x0.length : Int) <| idx (1 : Int) ((x0.set (0 : Int).toNat (orI .u8 (192 : Int) (IntKind.u8.wrap ((shrI .i32 v1 (6 : Int)))))).length : Int) <| kr ((x0.set (0 : Int).toNat (orI .u8 (192 : Int) (IntKind.u8.wrap ((shrI .i32 v1 (6 : Int)))))).set (1 : Int).toNat (orI .u8 (128 : Int) (andI .u8 (IntKind.u8.wrap (v1)) (63 : Int)))) (2 : Int)) else (bif (decide (v5 < (55296 : Int))) then (bif (decide (v5 < (55296 : Int))) then (idx (2 : Int) (x0.length : Int) <| idx (0 : Int) (x0.length : Int) <| idx (1 : Int) ((x0.set (0 : Int).toNat (orI .u8 (224 : Int) (IntKind.u8.wrap ((shrI .i32 v1 (12 : Int)))))).length : Int) <| idx (2 : Int) (((x0.set (0 : Int).toNat (orI .u8 (224 : Int) (IntKind.u8.wrap ((shrI .i32 v1 (12 : Int)))))).set (1 : Int).toNat (orI .u8 (128 : Int) (andI .u8 (IntKind.u8.wrap ((shrI .i32 v1 (6 : Int)))) (63 : Int)))).length : Int) <| kr (((x0.set (0 : Int).toNat (orI .u8 (224 : Int) (IntKind.u8.wrap ((shrI .i32 v1 (12 : Int)))))).set (1 : Int).toNat (orI .u8 (128 : Int) (andI .u8 (IntKind.u8.wrap ((shrI .i32 v1 (6 : Int)))) (63 : Int)))).set (2 : Int).toNat (orI .u8 (128 : Int) (andI .u8 (IntKind.u8.wrap (v1)) (63 : Int)))) (3 : Int)) else (bif (decide (v5 > (65535 : Int))) then (bif (decide (v5 ≤ (1114111 : Int))) then (idx (3 : Int) (x0.length : Int) <| idx (0 : Int) (x0.length : Int) <| idx (1 : Int) ((x0.set (0 : Int).toNat (orI .u8 (240 : Int) (IntKind.u8.wrap ((shrI .i32 v1 (18 : Int)))))).length : Int) <| idx (2 : Int) (((x0.set (0 : Int).toNat (orI .u8 (240 : Int) (IntKind.u8.wrap ((shrI .i32 v1 (18 : Int)))))).set (1 : Int).toNat (orI .u8 (128 : Int) (andI .u8 (IntKind.u8.wrap ((shrI .i32 v1 (12 : Int)))) (63 : Int)))).length : Int) <| idx (3 : Int) ((((x0.set (0 : Int).toNat (orI .u8 (240 : Int) (IntKind.u8.wrap ((shrI .i32 v1 (18 : Int)))))).set (1 : Int).toNat (orI .u8 (128 : Int) (andI .u8 (IntKind.u8.wrap ((shrI .i32 v1 (12 : Int)))) (63 : Int)))).set (2 : Int).toNat (orI .u8 (128 : Int) (andI .u8 (IntKind.u8.wrap ((shrI .i32 v1 (6 : Int)))) (63 : Int)))).length : Int) <| kr ((((x0.set (0 : Int).toNat (orI .u8 (240 : Int) (IntKind.u8.wrap ((shrI .i32 v1 (18 : Int)))))).set (1 : Int).toNat (orI .u8 (128 : Int) (andI .u8 (IntKind.u8.wrap ((shrI .i32 v1 (12 : Int)))) (63 : Int)))).set (2 : Int).toNat (orI .u8 (128 : Int) (andI .u8 (IntKind.u8.wrap ((shrI .i32 v1 (6 : Int)))) (63 : Int)))).set (3 : Int).toNat (orI .u8 (128 : Int) (andI .u8 (IntKind.u8.wrap (v1)) (63 : Int)))) (4 : Int)) else (idx (2 : Int) (x0.length : Int) <| idx (0 : Int) (x0.length : Int) <| idx (1 : Int) ((x0.set (0 : Int).toNat (239 : Int)).length : Int) <| idx (2 : Int) (((x0.set (0 : Int).toNat (239 : Int)).set (1 : Int).toNat (191 : Int)).length : Int) <| kr (((x0.set (0 : Int).toNat (239 : Int)).set (1 : Int).toNat (191 : Int)).set (2 : Int).toNat (189 : Int)) (3 : Int))) else (idx (2 : Int) (x0.length : Int) <| idx (0 : Int) (x0.length : Int) <| idx (1 : Int) ((x0.set (0 : Int).toNat (239 : Int)).length : Int) <| idx (2 : Int) (((x0.set (0 : Int).toNat (239 : Int)).set (1 : Int).toNat (191 : Int)).length : Int) <| kr (((x0.set (0 : Int).toNat (239 : Int)).set (1 : Int).toNat (191 : Int)).set (2 : Int).toNat (189 : Int)) (3 : Int)))) else (bif (decide ((57343 : Int) < v5)) then (bif (decide (v5 ≤ (65535 : Int))) then (idx (2 : Int) (x0.length : Int) <| idx (0 : Int) (x0.length : Int) <| idx (1 : Int) ((x0.set (0 : Int).toNat (orI .u8 (224 : Int) (IntKind.u8.wrap ((shrI .i32 v1 (12 : Int)))))).length : Int) <| idx (2 : Int) (((x0.set (0 : Int).toNat (orI .u8 (224 : Int) (IntKind.u8.wrap ((shrI .i32 v1 (12 : Int)))))).set (1 : Int).toNat (orI .u8 (128 : Int) (andI .u8 (IntKind.u8.wrap ((shrI .i32 v1 (6 : Int)))) (63 : Int)))).length : Int) <| kr (((x0.set (0 : Int).toNat (orI .u8 (224 : Int) (IntKind.u8.wrap ((shrI .i32 v1 (12 : Int)))))).set (1 : Int).toNat (orI .u8 (128 : Int) (andI .u8 (IntKind.u8.wrap ((shrI .i32 v1 (6 : Int)))) (63 : Int)))).set (2 : Int).toNat (orI .u8 (128 : Int) (andI .u8 (IntKind.u8.wrap (v1)) (63 : Int)))) (3 : Int)) else (bif (decide (v5 > (65535 : Int))) then (bif (decide (v5 ≤ (1114111 : Int))) then (idx (3 : Int) (x0.length : Int) <| idx (0 : Int) (x0.length : Int) <| idx (1 : Int) ((x0.set (0 : Int).toNat (orI .u8 (240 : Int) (IntKind.u8.wrap ((shrI .i32 v1 (18 : Int)))))).length : Int) <| idx (2 : Int) (((x0.set (0 : Int).toNat (orI .u8 (240 : Int) (IntKind.u8.wrap ((shrI .i32 v1 (18 : Int)))))).set (1 : Int).toNat (orI .u8 (128 : Int) (andI .u8 (IntKind.u8.wrap ((shrI .i32 v1 (12 : Int)))) (63 : Int)))).length : Int) <| idx (3 : Int) ((((x0.set (0 : Int).toNat (orI .u8 (240 : Int) (IntKind.u8.wrap ((shrI .i32 v1 (18 : Int)))))).set (1 : Int).toNat (orI .u8 (128 : Int) (andI .u8 (IntKind.u8.wrap ((shrI .i32 v1 (12 : Int)))) (63 : Int)))).set (2 : Int).toNat (orI .u8 (128 : Int) (andI .u8 (IntKind.u8.wrap ((shrI .i32 v1 (6 : Int)))) (63 : Int)))).length : Int) <| kr ((((x0.set (0 : Int).toNat (orI .u8 (240 : Int) (IntKind.u8.wrap ((shrI .i32 v1 (18 : Int)))))).set (1 : Int).toNat (orI .u8 (128 : Int) (andI .u8 (IntKind.u8.wrap ((shrI .i32 v1 (12 : Int)))) (63 : Int)))).set (2 : Int).toNat (orI .u8 (128 : Int) (andI .u8 (IntKind.u8.wrap ((shrI .i32 v1 (6 : Int)))) (63 : Int)))).set (3 : Int).toNat (orI .u8 (128 : Int) (andI .u8 (IntKind.u8.wrap (v1)) (63 : Int)))) (4 : Int)) else (idx (2 : Int) (x0.length : Int) <| idx (0 : Int) (x0.length : Int) <| idx (1 : Int) ((x0.set (0 : Int).toNat (239 : Int)).length : Int) <| idx (2 : Int) (((x0.set (0 : Int).toNat (239 : Int)).set (1 : Int).toNat (191 : Int)).length : Int) <| kr (((x0.set (0 : Int).toNat (239 : Int)).set (1 : Int).toNat (191 : Int)).set (2 : Int).toNat (189 : Int)) (3 : Int))) else (idx (2 : Int) (x0.length : Int) <| idx (0 : Int) (x0.length : Int) <| idx (1 : Int) ((x0.set (0 : Int).toNat (239 : Int)).length : Int) <| idx (2 : Int) (((x0.set (0 : Int).toNat (239 : Int)).set (1 : Int).toNat (191 : Int)).length : Int) <| kr (((x0.set (0 : Int).toNat (239 : Int)).set (1 : Int).toNat (191 : Int)).set (2 : Int).toNat (189 : Int)) (3 : Int)))) else (bif (decide (v5 > (65535 : Int))) then (bif (decide (v5 ≤ (1114111 : Int))) then (idx (3 : Int) (x0.length : Int) <| idx (0 : Int) (x0.length : Int) <| idx (1 : Int) ((x0.set (0 : Int).toNat (orI .u8 (240 : Int) (IntKind.u8.wrap ((shrI .i32 v1 (18 : Int)))))).length : Int) <| idx (2 : Int) (((x0.set (0 : Int).toNat (orI .u8 (240 : Int) (IntKind.u8.wrap ((shrI .i32 v1 (18 : Int)))))).set (1 : Int).toNat (orI .u8 (128 : Int) (andI .u8 (IntKind.u8.wrap ((shrI .i32 v1 (12 : Int)))) (63 : Int)))).length : Int) <| idx (3 : Int) ((((x0.set (0 : Int).toNat (orI .u8 (240 : Int) (IntKind.u8.wrap ((shrI .i32 v1 (18 : Int)))))).set (1 : Int).toNat (orI .u8 (128 : Int) (andI .u8 (IntKind.u8.wrap ((shrI .i32 v1 (12 : Int)))) (63 : Int)))).set (2 : Int).toNat (orI .u8 (128 : Int) (andI .u8 (IntKind.u8.wrap ((shrI .i32 v1 (6 : Int)))) (63 : Int)))).length : Int) <| kr ((((x0.set (0 : Int).toNat (orI .u8 (240 : Int) (IntKind.u8.wrap ((shrI .i32 v1 (18 : Int)))))).set (1 : Int).toNat (orI .u8 (128 : Int) (andI .u8 (IntKind.u8.wrap ((shrI .i32 v1 (12 : Int)))) (63 : Int)))).set (2 : Int).toNat (orI .u8 (128 : Int) (andI .u8 (IntKind.u8.wrap ((shrI .i32 v1 (6 : Int)))) (63 : Int)))).set (3 : Int).toNat (orI .u8 (128 : Int) (andI .u8 (IntKind.u8.wrap (v1)) (63 : Int)))) (4 : Int)) else (idx (2 : Int) (x0.length : Int) <| idx (0 : Int) (x0.length : Int) <| idx (1 : Int) ((x0.set (0 : Int).toNat (239 : Int)).length : Int) <| idx (2 : Int) (((x0.set (0 : Int).toNat (239 : Int)).set (1 : Int).toNat (191 : Int)).length : Int) <| kr (((x0.set (0 : Int).toNat (239 : Int)).set (1 : Int).toNat (191 : Int)).set (2 : Int).toNat (189 : Int)) (3 : Int))) else (idx (2 : Int) (x0.length : Int) <| idx (0 : Int) (x0.length : Int) <| idx (1 : Int) ((x0.set (0 : Int).toNat (239 : Int)).length : Int) <| idx (2 : Int) (((x0.set (0 : Int).toNat (239 : Int)).set (1 : Int).toNat (191 : Int)).length : Int) <| kr (((x0.set (0 : Int).toNat (239 : Int)).set (1 : Int).toNat (191 : Int)).set (2 : Int).toNat (189 : Int)) (3 : Int)))))
noncomputable def g82_2F (n : Nat) (s : FState) (cx : Cx β) : Option β := FX (g82_G n) n (nav g82_B [1, 1, 0, 0]) (.fin none none (some g82_m1e) [] .leaf) s { cx with nrm := fun s => FX (g82_G n) n (nav g82_B [1, 1, 0, 1]) (.fin none none (some g82_m1e) [] .leaf) s cx }
theorem g82_2_fx (n : Nat) (cx : Cx β) (x0 : List Int) (v1 v5 : Int) : g82_2F n (g82_m2 x0 v1 v5) cx = g82_2 n (fun x0 v4 => cx.ret (g82_m1 x0 v4)) x0 v1 v5 := by kernel_rfl
noncomputable def g82_3 (n : Nat) (kr : List Int → Int → Option β) (x0 : List Int) (v1 v5 : Int) : Option β := g82_2 n kr x0 v1 v5
noncomputable def g82_3F (n : Nat) (s : FState) (cx : Cx β) : Option β := g82_2F n s { cx with ex := fun j s => bif Nat.beq j 0 then cx.nrm s else cx.ex j s }
theorem g82_3_fx (n : Nat) (cx : Cx β) (x0 : List Int) (v1 v5 : Int) : g82_3F n (g82_m2 x0 v1 v5) cx = g82_3 n (fun x0 v4 => cx.ret (g82_m1 x0 v4)) x0 v1 v5 := g82_2_fx n _ x0 v1 v5
noncomputable def g82_4 (n : Nat) (kr : List Int → Int → Option β) (x0 : List Int) (v1 : Int) : Option β := g82_1 n (fun x0 v1 v5 => g82_3 n kr x0 v1 v5) x0 v1
noncomputable def g82_4F (n : Nat) (s : FState) (cx : Cx β) : Option β := g82_1F n s { cx with nrm := fun s => g82_3F n s cx }
theorem g82_4_fx (n : Nat) (cx : Cx β) (x0 : List Int) (v1 : Int) : g82_4F n (g82_m0 x0 v1) cx = g82_4 n (fun x0 v4 => cx.ret (g82_m1 x0 v4)) x0 v1 := by simp only [g82_4F, g82_4, g82_1_fx, g82_3_fx]
noncomputable def g82 (n : Nat) (x0 : List Int) (v1 : Int) : Option (DenR [.dat (.int .i64)] × DenR (backsOf [.io (.int .u8) 5, .dat (.int .i32)])) := g82_4 n (fun x0 v4 => some ((v4, ()), (x0, ()))) x0 v1
noncomputable def g82_A : List AK := [.io (.int .u8) 5, .dat (.int .i32)]
noncomputable def g82_R : List RK := [.dat (.int .i64)]
noncomputable def g82_f (n : Nat) (d : DenA g82_A) : Option (DenR g82_R × DenR (backsOf g82_A)) := g82 n d.1 d.2.1
noncomputable def g82_S (n : Nat) : Spec := mkSpecB g82_A g82_R (g82_f n)
noncomputable def g82_K : Sk := (.nd (.fin none none none [] .leaf) (.nd (.fin none (some g82_m2e) none [] .leaf) (.nd (.nd (.fin none none (some g82_m1e) [] .leaf) (.fin none none (some g82_m1e) [] .leaf)) .leaf)))
theorem g82_top (n : Nat) (s : FState) (cx : Cx β) : FX (g82_G n) n g82_B g82_K s cx = g82_4F n s cx := by kernel_rfl
theorem g82_ini (n : Nat) (d : DenA g82_A) (β : Type) (κ : FState → Option β) : putBacks 0 0 (backsOf g82_A) (ioPos g82_A 0) (toB g82_A d) (initS g82_A d) (fun s => normK (g82_G n) g82_m0e (setIo g82_A 0 s) κ) = κ (g82_m0 d.1 d.2.1) := by kernel_rfl
theorem g82_fit (n : Nat) : Fit Tryd.prog 82 (g82_S n) :=
  fit_ofB (Γ := Γ0) (l := g82_C n) (n := n) (sk := g82_K) (nf := g82_m0e) (m := fun d => g82_m0 d.1 d.2.1) (ts := [(4, none)]) (fn := Tryd.f82) (c := g82_B) (by kernel_rfl) (by kernel_rfl) (by unfold Callable; kernel_rfl) tab_ok trivial follows_mixed (by kernel_rfl) (by kernel_rfl) (Nat.le_of_ble_eq_true (by kernel_rfl)) (Nat.le_of_ble_eq_true (by kernel_rfl)) (by kernel_rfl) (by kernel_rfl) (g82_ini n)
    (fun d => (g82_top n _ _).trans (Eq.trans (b := g82_4F n (g82_m0 d.1 d.2.1) (finCxB (g82_G n) g82_A g82_R [(4, none)])) (by kernel_rfl) ((g82_4_fx n _ d.1 d.2.1).trans (by kernel_rfl))))
noncomputable def g71_m0 (x0 : List Int) (v1 : Int) : FState := ⟨tlist [(0, .sl 0 none false), (1, .dat (.int .i32) v1)], olist [(0, .row (.int .u8) 5 true x0)]⟩
noncomputable def g71_m0e : List NE := [.row 0 (.int .u8) 5 true, .keep 1]
noncomputable def g71_m1 (x0 : List Int) (v4 : Int) : FState := ⟨tlist [(0, .sl 0 none false), (4, .dat (.int .i64) v4)], olist [(0, .row (.int .u8) 5 true x0)]⟩
noncomputable def g71_m1e : List NE := [.row 0 (.int .u8) 5 true, .keep 4]
noncomputable def g71_C (n : Nat) : List (Nat × Spec) := [(82, g82_S n)]
noncomputable def g71_G (n : Nat) : Ctx := { Γ0 with calls := lkS (g71_C n) }
noncomputable def g71_B : Code := fb Tryd.f71
noncomputable def g71_1 (n : Nat) (kr : List Int → Int → Option β) (x0 : List Int) (v1 : Int) : Option β := bif (decide ((IntKind.u32.wrap (v1)) ≤ (127 : Int))) then (idx (0 : Int) (x0.length : Int) <| kr (x0.set (0 : Int).toNat (IntKind.u8.wrap (v1))) (1 : Int)) else ((g82 n x0 v1).bind fun r1 => kr r1.2.1 r1.1.1)
noncomputable def g71_1F (n : Nat) (s : FState) (cx : Cx β) : Option β := FX (g71_G n) n (nav g71_B [0]) (.fin none none (some g71_m1e) [] .leaf) s { cx with nrm := fun s => FX (g71_G n) n (nav g71_B [1, 0, 0]) (.fin none none (some g71_m1e) [] .leaf) s { cx with nrm := fun s => FX (g71_G n) n (nav g71_B [1, 0, 1]) (.fin none none (some g71_m1e) [] .leaf) s { cx with nrm := fun s => FX (g71_G n) n (nav g71_B [1, 1, 0]) (.fin none none (some g71_m1e) [] .leaf) s { cx with nrm := fun s => FX (g71_G n) n (nav g71_B [1, 1, 1]) (.fin none none (some g71_m1e) [] .leaf) s cx } } } }
theorem g71_1_fx (n : Nat) (cx : Cx β) (x0 : List Int) (v1 : Int) : g71_1F n (g71_m0 x0 v1) cx = g71_1 n (fun x0 v4 => cx.ret (g71_m1 x0 v4)) x0 v1 := by kernel_rfl
noncomputable def g71 (n : Nat) (x0 : List Int) (v1 : Int) : Option (DenR [.dat (.int .i64)] × DenR (backsOf [.io (.int .u8) 5, .dat (.int .i32)])) := g71_1 n (fun x0 v4 => some ((v4, ()), (x0, ()))) x0 v1
noncomputable def g71_A : List AK := [.io (.int .u8) 5, .dat (.int .i32)]
noncomputable def g71_R : List RK := [.dat (.int .i64)]
noncomputable def g71_f (n : Nat) (d : DenA g71_A) : Option (DenR g71_R × DenR (backsOf g71_A)) := g71 n d.1 d.2.1
noncomputable def g71_S (n : Nat) : Spec := mkSpecB g71_A g71_R (g71_f n)
noncomputable def g71_K : Sk := (.nd (.fin none none (some g71_m1e) [] .leaf) (.nd (.nd (.fin none none (some g71_m1e) [] .leaf) (.fin none none (some g71_m1e) [] .leaf)) (.nd (.fin none none (some g71_m1e) [] .leaf) (.fin none none (some g71_m1e) [] .leaf))))
theorem g71_top (n : Nat) (s : FState) (cx : Cx β) : FX (g71_G n) n g71_B g71_K s cx = g71_1F n s cx := by kernel_rfl
theorem g71_ini (n : Nat) (d : DenA g71_A) (β : Type) (κ : FState → Option β) : putBacks 0 0 (backsOf g71_A) (ioPos g71_A 0) (toB g71_A d) (initS g71_A d) (fun s => normK (g71_G n) g71_m0e (setIo g71_A 0 s) κ) = κ (g71_m0 d.1 d.2.1) := by kernel_rfl
theorem g71_fit (n : Nat) : Fit Tryd.prog 71 (g71_S n) :=
  fit_ofB (Γ := Γ0) (l := g71_C n) (n := n) (sk := g71_K) (nf := g71_m0e) (m := fun d => g71_m0 d.1 d.2.1) (ts := [(4, none)]) (fn := Tryd.f71) (c := g71_B) (by kernel_rfl) (by kernel_rfl) (by unfold Callable; kernel_rfl) tab_ok ⟨g82_fit n, trivial⟩ follows_mixed (by kernel_rfl) (by kernel_rfl) (Nat.le_of_ble_eq_true (by kernel_rfl)) (Nat.le_of_ble_eq_true (by kernel_rfl)) (by kernel_rfl) (by kernel_rfl) (g71_ini n)
    (fun d => (g71_top n _ _).trans (Eq.trans (b := g71_1F n (g71_m0 d.1 d.2.1) (finCxB (g71_G n) g71_A g71_R [(4, none)])) (by kernel_rfl) ((g71_1_fx n _ d.1 d.2.1).trans (by kernel_rfl))))
noncomputable def g56_m0 (v0 : Int) : FState := ⟨tlist [(0, .dat (.int .i32) v0)], olist []⟩
noncomputable def g56_m1 (v2 : Int) : FState := ⟨tlist [(2, .dat (.int .u32) v2)], olist []⟩
noncomputable def g56_m1e : List NE := [.keep 2]
noncomputable def g56_C (n : Nat) : List (Nat × Spec) := [(71, g71_S n)]
noncomputable def g56_G (n : Nat) : Ctx := { Γ0 with calls := lkS (g56_C n) }
noncomputable def g56_B : Code := fb Tryd.f56
noncomputable def g56_1 (n : Nat) (kr : Int → Option β) (v0 : Int) : Option β := bif (decide ((IntKind.u32.wrap (v0)) < (128 : Int))) then (kr (IntKind.u32.wrap (v0))) else ((g71 n [(0 : Int), (0 : Int), (0 : Int), (0 : Int)] v0).bind fun r1 => bif (r1.1.1 == (2 : Int)) then (idx (0 : Int) (r1.2.1.length : Int) <| idx (1 : Int) (r1.2.1.length : Int) <| kr (orI .u32 (shlI .u32 (IntKind.u32.wrap ((andI .u8 (rd r1.2.1 (0 : Int) (0 : Int)) (31 : Int)))) (6 : Int)) (IntKind.u32.wrap ((andI .u8 (rd r1.2.1 (1 : Int) (0 : Int)) (63 : Int)))))) else (bif (r1.1.1 == (3 : Int)) then (idx (0 : Int) (r1.2.1.length : Int) <| idx (1 : Int) (r1.2.1.length : Int) <| idx (2 : Int) (r1.2.1.length : Int) <| bif (decide ((orI .u32 (orI .u32 (shlI .u32 (IntKind.u32.wrap ((andI .u8 (rd r1.2.1 (0 : Int) (0 : Int)) (15 : Int)))) (12 : Int)) (shlI .u32 (IntKind.u32.wrap ((andI .u8 (rd r1.2.1 (1 : Int) (0 : Int)) (63 : Int)))) (6 : Int))) (IntKind.u32.wrap ((andI .u8 (rd r1.2.1 (2 : Int) (0 : Int)) (63 : Int))))) ≥ (57343 : Int))) then (kr (IntKind.u32.wrap ((orI .u32 (orI .u32 (shlI .u32 (IntKind.u32.wrap ((andI .u8 (rd r1.2.1 (0 : Int) (0 : Int)) (15 : Int)))) (12 : Int)) (shlI .u32 (IntKind.u32.wrap ((andI .u8 (rd r1.2.1 (1 : Int) (0 : Int)) (63 : Int)))) (6 : Int))) (IntKind.u32.wrap ((andI .u8 (rd r1.2.1 (2 : Int) (0 : Int)) (63 : Int))))) - (2048 : Int)))) else (kr (orI .u32 (orI .u32 (shlI .u32 (IntKind.u32.wrap ((andI .u8 (rd r1.2.1 (0 : Int) (0 : Int)) (15 : Int)))) (12 : Int)) (shlI .u32 (IntKind.u32.wrap ((andI .u8 (rd r1.2.1 (1 : Int) (0 : Int)) (63 : Int)))) (6 : Int))) (IntKind.u32.wrap ((andI .u8 (rd r1.2.1 (2 : Int) (0 : Int)) (63 : Int))))))) else (bif (r1.1.1 == (4 : Int)) then (idx (0 : Int) (r1.2.1.length : Int) <| idx (1 : Int) (r1.2.1.length : Int) <| idx (2 : Int) (r1.2.1.length : Int) <| idx (3 : Int) (r1.2.1.length : Int) <| kr (IntKind.u32.wrap ((IntKind.u32.wrap ((orI .u32 (orI .u32 (orI .u32 (shlI .u32 (IntKind.u32.wrap ((andI .u8 (rd r1.2.1 (0 : Int) (0 : Int)) (7 : Int)))) (18 : Int)) (shlI .u32 (IntKind.u32.wrap ((andI .u8 (rd r1.2.1 (1 : Int) (0 : Int)) (63 : Int)))) (12 : Int))) (shlI .u32 (IntKind.u32.wrap ((andI .u8 (rd r1.2.1 (2 : Int) (0 : Int)) (63 : Int)))) (6 : Int))) (IntKind.u32.wrap ((andI .u8 (rd r1.2.1 (3 : Int) (0 : Int)) (63 : Int))))) - (2048 : Int))) - (3 : Int)))) else none)))
noncomputable def g56_1F (n : Nat) (s : FState) (cx : Cx β) : Option β := FX (g56_G n) n (nav g56_B [0]) (.fin none none (some g56_m1e) [] .leaf) s { cx with nrm := fun s => FX (g56_G n) n (nav g56_B [1, 0]) (.fin none none (some g56_m1e) [] .leaf) s { cx with nrm := fun s => FX (g56_G n) n (nav g56_B [1, 1, 0, 0]) (.fin none none (some g56_m1e) [] .leaf) s { cx with nrm := fun s => FX (g56_G n) n (nav g56_B [1, 1, 0, 1]) (.fin none none (some g56_m1e) [] .leaf) s { cx with nrm := fun s => FX (g56_G n) n (nav g56_B [1, 1, 1, 0]) (.fin none none (some g56_m1e) [] .leaf) s { cx with nrm := fun s => FX (g56_G n) n (nav g56_B [1, 1, 1, 1, 0]) (.fin none none (some g56_m1e) [] .leaf) s { cx with nrm := fun s => FX (g56_G n) n (nav g56_B [1, 1, 1, 1, 1, 0, 0]) (.fin none none (some g56_m1e) [] .leaf) s { cx with nrm := fun s => FX (g56_G n) n (nav g56_B [1, 1, 1, 1, 1, 0, 1]) (.fin none none (some g56_m1e) [] .leaf) s { cx with nrm := fun s => FX (g56_G n) n (nav g56_B [1, 1, 1, 1, 1, 1, 0, 0]) (.fin none none (some g56_m1e) [] .leaf) s { cx with nrm := fun s => FX (g56_G n) n (nav g56_B [1, 1, 1, 1, 1, 1, 0, 1]) (.fin none none (some g56_m1e) [] .leaf) s { cx with nrm := fun s => FX (g56_G n) n (nav g56_B [1, 1, 1, 1, 1, 1, 1, 0, 0]) (.fin none none (some g56_m1e) [] .leaf) s { cx with nrm := fun s => FX (g56_G n) n (nav g56_B [1, 1, 1, 1, 1, 1, 1, 0, 1]) (.fin none none (some g56_m1e) [] .leaf) s { cx with nrm := fun s => FX (g56_G n) n (nav g56_B [1, 1, 1, 1, 1, 1, 1, 1]) (.fin none none (some g56_m1e) [] .leaf) s cx } } } } } } } } } } } }
theorem g56_1_fx (n : Nat) (cx : Cx β) (v0 : Int) : g56_1F n (g56_m0 v0) cx = g56_1 n (fun v2 => cx.ret (g56_m1 v2)) v0 := by kernel_rfl
noncomputable def g56 (n : Nat) (v0 : Int) : Option (DenR [.dat (.int .u32)]) := g56_1 n (fun v2 => some (v2, ())) v0
noncomputable def g56_A : List AK := [.dat (.int .i32)]
noncomputable def g56_R : List RK := [.dat (.int .u32)]
noncomputable def g56_f (n : Nat) (d : DenA g56_A) : Option (DenR g56_R) := g56 n d.1
noncomputable def g56_S (n : Nat) : Spec := mkSpec g56_A g56_R (g56_f n)
noncomputable def g56_K : Sk := (.nd (.fin none none (some g56_m1e) [] .leaf) (.nd (.fin none none (some g56_m1e) [] .leaf) (.nd (.nd (.fin none none (some g56_m1e) [] .leaf) (.fin none none (some g56_m1e) [] .leaf)) (.nd (.fin none none (some g56_m1e) [] .leaf) (.nd (.fin none none (some g56_m1e) [] .leaf) (.nd (.nd (.fin none none (some g56_m1e) [] .leaf) (.fin none none (some g56_m1e) [] .leaf)) (.nd (.nd (.fin none none (some g56_m1e) [] .leaf) (.fin none none (some g56_m1e) [] .leaf)) (.nd (.nd (.fin none none (some g56_m1e) [] .leaf) (.fin none none (some g56_m1e) [] .leaf)) (.fin none none (some g56_m1e) [] .leaf)))))))))
theorem g56_top (n : Nat) (s : FState) (cx : Cx β) : FX (g56_G n) n g56_B g56_K s cx = g56_1F n s cx := by kernel_rfl
theorem g56_fit (n : Nat) : Fit Tryd.prog 56 (g56_S n) :=
  fit_of (Γ := Γ0) (l := g56_C n) (n := n) (sk := g56_K) (ts := [(2, none)]) (fn := Tryd.f56) (c := g56_B) (by kernel_rfl) (by kernel_rfl) (by unfold Callable; kernel_rfl) tab_ok ⟨g71_fit n, trivial⟩ follows_mixed (by kernel_rfl) (by kernel_rfl) (Nat.le_of_ble_eq_true (by kernel_rfl)) (Nat.le_of_ble_eq_true (by kernel_rfl)) (by kernel_rfl) (by kernel_rfl)
    (fun d => (g56_top n _ _).trans (Eq.trans (b := g56_1F n (g56_m0 d.1) (finCx (g56_G n) g56_R [(2, none)])) (by kernel_rfl) ((g56_1_fx n _ d.1).trans (by kernel_rfl))))
noncomputable def g44_m0 (v0 : Int) : FState := ⟨tlist [(0, .dat (.int .i32) v0)], olist []⟩
noncomputable def g44_m1 (v2 : Int) : FState := ⟨tlist [(2, .dat (.int .u32) v2)], olist []⟩
noncomputable def g44_m1e : List NE := [.keep 2]
noncomputable def g44_C (n : Nat) : List (Nat × Spec) := [(56, g56_S n)]
noncomputable def g44_G (n : Nat) : Ctx := { Γ0 with calls := lkS (g44_C n) }
noncomputable def g44_B : Code := fb Tryd.f44
noncomputable def g44_1 (n : Nat) (kr : Int → Option β) (v0 : Int) : Option β := (g56 n v0).bind fun r1 => kr r1.1
noncomputable def g44_1F (n : Nat) (s : FState) (cx : Cx β) : Option β := FX (g44_G n) n (nav g44_B [0]) (.fin none none (some g44_m1e) [] .leaf) s { cx with nrm := fun s => FX (g44_G n) n (nav g44_B [1, 0]) (.fin none none (some g44_m1e) [] .leaf) s { cx with nrm := fun s => FX (g44_G n) n (nav g44_B [1, 1]) (.fin none none (some g44_m1e) [] .leaf) s cx } }
theorem g44_1_fx (n : Nat) (cx : Cx β) (v0 : Int) : g44_1F n (g44_m0 v0) cx = g44_1 n (fun v2 => cx.ret (g44_m1 v2)) v0 := by kernel_rfl
noncomputable def g44 (n : Nat) (v0 : Int) : Option (DenR [.dat (.int .u32)]) := g44_1 n (fun v2 => some (v2, ())) v0
noncomputable def g44_A : List AK := [.dat (.int .i32)]
noncomputable def g44_R : List RK := [.dat (.int .u32)]
noncomputable def g44_f (n : Nat) (d : DenA g44_A) : Option (DenR g44_R) := g44 n d.1
noncomputable def g44_S (n : Nat) : Spec := mkSpec g44_A g44_R (g44_f n)
noncomputable def g44_K : Sk := (.nd (.fin none none (some g44_m1e) [] .leaf) (.nd (.fin none none (some g44_m1e) [] .leaf) (.fin none none (some g44_m1e) [] .leaf)))
theorem g44_top (n : Nat) (s : FState) (cx : Cx β) : FX (g44_G n) n g44_B g44_K s cx = g44_1F n s cx := by kernel_rfl
theorem g44_fit (n : Nat) : Fit Tryd.prog 44 (g44_S n) :=
  fit_of (Γ := Γ0) (l := g44_C n) (n := n) (sk := g44_K) (ts := [(2, none)]) (fn := Tryd.f44) (c := g44_B) (by kernel_rfl) (by kernel_rfl) (by unfold Callable; kernel_rfl) tab_ok ⟨g56_fit n, trivial⟩ follows_mixed (by kernel_rfl) (by kernel_rfl) (Nat.le_of_ble_eq_true (by kernel_rfl)) (Nat.le_of_ble_eq_true (by kernel_rfl)) (by kernel_rfl) (by kernel_rfl)
    (fun d => (g44_top n _ _).trans (Eq.trans (b := g44_1F n (g44_m0 d.1) (finCx (g44_G n) g44_R [(2, none)])) (by kernel_rfl) ((g44_1_fx n _ d.1).trans (by kernel_rfl))))
theorem g43_idle : Idle Tryd.prog 43 2 := fun vs w hv => by
  obtain ⟨p0, p1, rfl⟩ := arr2 hv
  refine callsD_of_wpS (fn := Tryd.f43) (c := fb Tryd.f43) (by kernel_rfl) (by kernel_rfl) fun c₀ cs hu => ?_
  show Code.wpS Tryd.prog (.seq (nav (fb Tryd.f43) [0]) (.cond (.tmp 3) (nav (fb Tryd.f43) [1, 0]) .skip)) _ _ _ _
  apply wpS_seq
  apply wpS_region
  simp [wpOpsS, go_sem, recoverD, hu, Exit.thenS]
  refine wpS_cond (t := false) (by simp [Act.eval, Array.replicate]) ?_
  simp only [Bool.false_eq_true, if_false]
  refine wpS_of_wp (wp_skip ?_)
  cases c₀
  simp_all [bodyPostS, results]
noncomputable def g21_m0 (v0 : Int) : FState := ⟨tlist [(0, .dat (.int .i32) v0)], olist []⟩
noncomputable def g21_m1 (p2 p3 : Int) : FState := ⟨tlist [(2, .ptr 2 0 0), (3, .ptr 3 0 0)], olist [(2, .row (.int .u32) 36 true [p2]), (3, .row (.int .i64) 3 true [p3])]⟩
noncomputable def g21_m1e : List NE := [.ptr 2 (.int .u32) 36 true, .ptr 3 (.int .i64) 3 true]
noncomputable def g21_m2 (v0 p2 p3 : Int) : FState := ⟨tlist [(0, .dat (.int .i32) v0), (2, .ptr 2 0 0), (3, .ptr 3 0 0)], olist [(2, .row (.int .u32) 36 true [p2]), (3, .row (.int .i64) 3 true [p3])]⟩
noncomputable def g21_m2e : List NE := [.keep 0, .ptr 2 (.int .u32) 36 true, .ptr 3 (.int .i64) 3 true]
noncomputable def g21_C (n : Nat) : List (Nat × Spec) := [(44, g44_S n)]
noncomputable def g21_G (n : Nat) : Ctx := { Γ0 with calls := lkS (g21_C n) }
noncomputable def g21_B : Code := fb Tryd.f21
noncomputable def g21_1 (n : Nat) (kn : Int → Int → Int → Option β) (v0 : Int) : Option β := kn v0 (0 : Int) (0 : Int)
noncomputable def g21_1F (n : Nat) (s : FState) (cx : Cx β) : Option β := FX (g21_G n) n (nav g21_B [0]) (.fin none (some g21_m2e) none [] .leaf) s cx
theorem g21_1_fx (n : Nat) (cx : Cx β) (v0 : Int) : g21_1F n (g21_m0 v0) cx = g21_1 n (fun v0 p2 p3 => cx.nrm (g21_m2 v0 p2 p3)) v0 := by kernel_rfl
noncomputable def g21_2 (n : Nat) (kr : Int → Int → Option β) (v0 p2 p3 : Int) : Option β := (g44 n v0).bind fun r1 => kr r1.1 (0 : Int)
noncomputable def g21_2F (n : Nat) (s : FState) (cx : Cx β) : Option β := FX (g21_G n) n (nav g21_B [1, 1, 0]) (.fin none none (some g21_m1e) [] .leaf) s { cx with nrm := fun s => FX (g21_G n) n (nav g21_B [1, 1, 1]) (.fin none none (some g21_m1e) [] .leaf) s cx }
theorem g21_2_fx (n : Nat) (cx : Cx β) (v0 p2 p3 : Int) : g21_2F n (g21_m2 v0 p2 p3) cx = g21_2 n (fun p2 p3 => cx.ret (g21_m1 p2 p3)) v0 p2 p3 := by kernel_rfl
noncomputable def g21 (n : Nat) (v0 : Int) : Option (DenR [.dat (.int .u32), .dat (.int .i64)]) := g21_1 n (fun v0 p2 p3 => g21_2 n (fun p2 p3 => some (p2, (p3, ()))) v0 p2 p3) v0
noncomputable def g21_A : List AK := [.dat (.int .i32)]
noncomputable def g21_R : List RK := [.dat (.int .u32), .dat (.int .i64)]
noncomputable def g21_f (n : Nat) (d : DenA g21_A) : Option (DenR g21_R) := g21 n d.1
noncomputable def g21_S (n : Nat) : Spec := mkSpec g21_A g21_R (g21_f n)
noncomputable def g21_K0 : Sk := (.fin none (some g21_m2e) none [] .leaf)
noncomputable def g21_K1 : Sk := (.nd (.fin none none (some g21_m1e) [] .leaf) (.fin none none (some g21_m1e) [] .leaf))
noncomputable def g21_K2 : Sk := (.fin (some g21_m2e) none none [] (.nd (.fin none none (some g21_m1e) [] .leaf) (.fin none none (some g21_m1e) [] .leaf)))
theorem g21_top (n : Nat) (s : FState) (cx : Cx β) : FX (g21_G n) n (nav g21_B [1, 1]) g21_K1 s cx = g21_2F n s cx := by kernel_rfl
theorem g21_mid (n : Nat) (cx : Cx β) (v0 p2 p3 : Int) : FX (g21_G n) n (nav g21_B [1, 1]) g21_K2 (FState.set (g21_m2 v0 p2 p3) 4 .dead) cx = g21_2 n (fun p2 p3 => cx.ret (g21_m1 p2 p3)) v0 p2 p3 :=
  Eq.trans (b := FX (g21_G n) n (nav g21_B [1, 1]) g21_K1 (g21_m2 v0 p2 p3) cx) (by kernel_rfl) ((g21_top n _ _).trans (g21_2_fx n cx v0 p2 p3))
theorem g21_fit (n : Nat) : Fit Tryd.prog 21 (g21_S n) :=
  fit_of_wrap (Γ := Γ0) (l := g21_C n) (n := n) (sk0 := g21_K0) (sk1 := g21_K2) (ts := [(2, some 36), (3, some 3)]) (fn := Tryd.f21) (c := g21_B) (c0 := nav g21_B [0]) (c1 := nav g21_B [1, 1]) (tm := 4) (g := 43) (k := 2) (by kernel_rfl) (by kernel_rfl) (by kernel_rfl) (by unfold Callable; kernel_rfl) tab_ok ⟨g44_fit n, trivial⟩ follows_mixed (by unfold Callable; kernel_rfl) g43_idle (by kernel_rfl) (by kernel_rfl) (by kernel_rfl) (Nat.le_of_ble_eq_true (by kernel_rfl)) (Nat.le_of_ble_eq_true (by kernel_rfl)) (Nat.le_of_ble_eq_true (by kernel_rfl)) (by kernel_rfl) (by kernel_rfl)
    (fun d => Eq.trans (b := g21_1F n (g21_m0 d.1) ⟨fun s => FX (g21_G n) n (nav g21_B [1, 1]) g21_K2 (FState.set s 4 .dead) (finCx (g21_G n) g21_R [(2, some 36), (3, some 3)]), fun _ => none, fun _ _ => none⟩) (by kernel_rfl) ((g21_1_fx n _ d.1).trans (Eq.trans (b := g21_1 n (fun v0 p2 p3 => g21_2 n (fun p2 p3 => (finCx (g21_G n) g21_R [(2, some 36), (3, some 3)]).ret (g21_m1 p2 p3)) v0 p2 p3) d.1) (congrArg (fun k_ => g21_1 n k_ d.1) (funext fun v0 => (funext fun p2 => (funext fun p3 => g21_mid n (finCx (g21_G n) g21_R [(2, some 36), (3, some 3)]) v0 p2 p3)))) (by kernel_rfl))))
noncomputable def g6_m0 (v0 : Int) : FState := ⟨tlist [(0, .dat (.int .u32) v0)], olist []⟩
noncomputable def g6_m1 (v2 : Bool) : FState := ⟨tlist [(2, .dat .bool v2)], olist []⟩
noncomputable def g6_m1e : List NE := [.keep 2]
noncomputable def g6_C (n : Nat) : List (Nat × Spec) := [(20, g20_S n), (21, g21_S n)]
noncomputable def g6_G (n : Nat) : Ctx := { Γ0 with calls := lkS (g6_C n) }
noncomputable def g6_B : Code := fb Tryd.f6
noncomputable def g6_1 (n : Nat) (kr : Bool → Option β) (v0 : Int) : Option β := (g20 n (v0.tmod (1110016 : Int))).bind fun r1 => (g21 n r1.1).bind fun r2 => bif (r1.2.1 == (0 : Int)) then (bif (r2.2.1 == (0 : Int)) then (bif (r2.1 == (v0.tmod (1110016 : Int))) then (bif (decide (r1.1 ≥ (0 : Int))) then (bif (decide (r1.1 < (1114111 : Int))) then (bif (decide (r1.1 < (55296 : Int))) then (kr true) else (kr (decide (r1.1 > (57343 : Int))))) else (kr false)) else (kr false)) else (kr false)) else (kr false)) else (kr false)
noncomputable def g6_1F (n : Nat) (s : FState) (cx : Cx β) : Option β := FX (g6_G n) n (nav g6_B [0]) (.fin none none (some g6_m1e) [] .leaf) s { cx with nrm := fun s => FX (g6_G n) n (nav g6_B [1, 0]) (.fin none none (some g6_m1e) [] .leaf) s { cx with nrm := fun s => FX (g6_G n) n (nav g6_B [1, 1, 0]) (.fin none none (some g6_m1e) [] .leaf) s { cx with nrm := fun s => FX (g6_G n) n (nav g6_B [1, 1, 1, 0]) (.fin none none (some g6_m1e) [] .leaf) s { cx with nrm := fun s => FX (g6_G n) n (nav g6_B [1, 1, 1, 1, 0]) (.fin none none (some g6_m1e) [] .leaf) s { cx with nrm := fun s => FX (g6_G n) n (nav g6_B [1, 1, 1, 1, 1]) (.fin none none (some g6_m1e) [] .leaf) s cx } } } } }
theorem g6_1_fx (n : Nat) (cx : Cx β) (v0 : Int) : g6_1F n (g6_m0 v0) cx = g6_1 n (fun v2 => cx.ret (g6_m1 v2)) v0 := by kernel_rfl
noncomputable def g6 (n : Nat) (v0 : Int) : Option (DenR [.dat .bool]) := g6_1 n (fun v2 => some (v2, ())) v0
noncomputable def g6_A : List AK := [.dat (.int .u32)]
noncomputable def g6_R : List RK := [.dat .bool]
noncomputable def g6_f (n : Nat) (d : DenA g6_A) : Option (DenR g6_R) := g6 n d.1
noncomputable def g6_S (n : Nat) : Spec := mkSpec g6_A g6_R (g6_f n)
noncomputable def g6_K : Sk := (.nd (.fin none none (some g6_m1e) [] .leaf) (.nd (.fin none none (some g6_m1e) [] .leaf) (.nd (.fin none none (some g6_m1e) [] .leaf) (.nd (.fin none none (some g6_m1e) [] .leaf) (.nd (.fin none none (some g6_m1e) [] .leaf) (.fin none none (some g6_m1e) [] .leaf))))))
theorem g6_top (n : Nat) (s : FState) (cx : Cx β) : FX (g6_G n) n g6_B g6_K s cx = g6_1F n s cx := by kernel_rfl
theorem g6_fit (n : Nat) : Fit Tryd.prog 6 (g6_S n) :=
  fit_of (Γ := Γ0) (l := g6_C n) (n := n) (sk := g6_K) (ts := [(2, none)]) (fn := Tryd.f6) (c := g6_B) (by kernel_rfl) (by kernel_rfl) (by unfold Callable; kernel_rfl) tab_ok ⟨g20_fit n, g21_fit n, trivial⟩ follows_mixed (by kernel_rfl) (by kernel_rfl) (Nat.le_of_ble_eq_true (by kernel_rfl)) (Nat.le_of_ble_eq_true (by kernel_rfl)) (by kernel_rfl) (by kernel_rfl)
    (fun d => (g6_top n _ _).trans (Eq.trans (b := g6_1F n (g6_m0 d.1) (finCx (g6_G n) g6_R [(2, none)])) (by kernel_rfl) ((g6_1_fx n _ d.1).trans (by kernel_rfl))))
end Go.Proofs.YtoafkjeamgelgaaDoorZF
