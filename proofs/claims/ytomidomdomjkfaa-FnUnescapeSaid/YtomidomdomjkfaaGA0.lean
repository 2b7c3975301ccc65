import Derived.Test.YtomidomdomjkfaaFT
namespace Go.Proofs.YtomidomdomjkfaaF
open Go Go.Proofs
set_option linter.unusedVariables false
set_option maxRecDepth 100000
noncomputable def g83_m0 (v0 : ByteArray) : FState := ⟨tlist [(0, .dat .str v0)], olist []⟩
noncomputable def g83_m1 (v2 : Int) : FState := ⟨tlist [(2, .dat (.int .u8) v2)], olist []⟩
noncomputable def g83_m1e : List NE := [.keep 2]
noncomputable def g83_m2 (v3 : ByteArray) : FState := ⟨tlist [(3, .dat .str v3)], olist []⟩
noncomputable def g83_m2e : List NE := [.keep 3]
noncomputable def g83_m3 : FState := ⟨tlist [], olist []⟩
noncomputable def g83_m3e : List NE := []
noncomputable def g83_m4 (v3 : ByteArray) (v4 : Bool) : FState := ⟨tlist [(3, .dat .str v3), (4, .dat .bool v4)], olist []⟩
noncomputable def g83_m4e : List NE := [.keep 3, .keep 4]
noncomputable def g83_m5 (v3 : ByteArray) (v6 : Bool) : FState := ⟨tlist [(3, .dat .str v3), (6, .dat .bool v6)], olist []⟩
noncomputable def g83_m5e : List NE := [.keep 3, .keep 6]
noncomputable def g83_m6 (v3 : ByteArray) (v8 : Bool) : FState := ⟨tlist [(3, .dat .str v3), (8, .dat .bool v8)], olist []⟩
noncomputable def g83_m6e : List NE := [.keep 3, .keep 8]
noncomputable def g83_m7 (v3 : ByteArray) (v10 : Bool) : FState := ⟨tlist [(3, .dat .str v3), (10, .dat .bool v10)], olist []⟩
noncomputable def g83_m7e : List NE := [.keep 3, .keep 10]
noncomputable def g83_m8 (v3 : ByteArray) (v12 : Bool) : FState := ⟨tlist [(3, .dat .str v3), (12, .dat .bool v12)], olist []⟩
noncomputable def g83_m8e : List NE := [.keep 3, .keep 12]
noncomputable def g83_m9 (v3 : ByteArray) (v14 : Bool) : FState := ⟨tlist [(3, .dat .str v3), (14, .dat .bool v14)], olist []⟩
noncomputable def g83_m9e : List NE := [.keep 3, .keep 14]
noncomputable def g83_m10 (v3 : ByteArray) (v16 : Bool) : FState := ⟨tlist [(3, .dat .str v3), (16, .dat .bool v16)], olist []⟩
noncomputable def g83_m10e : List NE := [.keep 3, .keep 16]
noncomputable def g83_m11 (v3 : ByteArray) (v18 : Bool) : FState := ⟨tlist [(3, .dat .str v3), (18, .dat .bool v18)], olist []⟩
noncomputable def g83_m11e : List NE := [.keep 3, .keep 18]
noncomputable def g83_C (n : Nat) : List (Nat × Spec) := []
noncomputable def g83_G (n : Nat) : Ctx := { Γ0 with calls := lkS (g83_C n) }
noncomputable def g83_B : Code := fb Try.f83
noncomputable def g83_1 {β : Type} (n : Nat) (kn : ByteArray → Option β) (v0 : ByteArray) : Option β := kn v0
noncomputable def g83_1F {β : Type} (n : Nat) (s : FState) (cx : Cx β) : Option β := FX (g83_G n) n (nav g83_B [0]) (.fin none none none [] .leaf) s { cx with nrm := fun s => FX (g83_G n) n (nav g83_B [1, 0, 0]) (.fin none (some g83_m2e) none [] .leaf) s cx }
theorem g83_1_fx {β : Type} (n : Nat) (cx : Cx β) (v0 : ByteArray) : g83_1F n (g83_m0 v0) cx = g83_1 n (fun v3 => cx.nrm (g83_m2 v3)) v0 := by kernel_rfl
noncomputable def g83_2 {β : Type} (n : Nat) (kn : ByteArray → Bool → Option β) (v3 : ByteArray) : Option β := kn v3 (strEq v3 (⟨#[37, 50, 49]⟩ : ByteArray))
noncomputable def g83_2F {β : Type} (n : Nat) (s : FState) (cx : Cx β) : Option β := FX (g83_G n) n (nav g83_B [1, 0, 1, 0, 0]) (.fin none (some g83_m4e) none [] .leaf) s cx
theorem g83_2_fx {β : Type} (n : Nat) (cx : Cx β) (v3 : ByteArray) : g83_2F n (g83_m2 v3) cx = g83_2 n (fun v3 v4 => cx.nrm (g83_m4 v3 v4)) v3 := by kernel_rfl
noncomputable def g83_3 {β : Type} (n : Nat) (kr : Int → Option β) (v3 : ByteArray) (v4 : Bool) : Option β := kr (33 : Int)
noncomputable def g83_3F {β : Type} (n : Nat) (s : FState) (cx : Cx β) : Option β := FX (g83_G n) n (nav g83_B [1, 0, 1, 0, 1, 0, 0]) (.fin none none (some g83_m1e) [] .leaf) s { cx with nrm := fun s => FX (g83_G n) n (nav g83_B [1, 0, 1, 0, 1, 0, 1]) (.fin none none (some g83_m1e) [] .leaf) s cx }
theorem g83_3_fx {β : Type} (n : Nat) (cx : Cx β) (v3 : ByteArray) (v4 : Bool) : g83_3F n (g83_m4 v3 v4) cx = g83_3 n (fun v2 => cx.ret (g83_m1 v2)) v3 v4 := by kernel_rfl
noncomputable def g83_4 {β : Type} (n : Nat) (kn : ByteArray → Bool → Option β) (v3 : ByteArray) (v4 : Bool) : Option β := kn v3 (strEq v3 (⟨#[37, 55, 69]⟩ : ByteArray))
noncomputable def g83_4F {β : Type} (n : Nat) (s : FState) (cx : Cx β) : Option β := FX (g83_G n) n (nav g83_B [1, 0, 1, 0, 1, 1, 0]) (.fin none (some g83_m5e) none [] .leaf) s cx
theorem g83_4_fx {β : Type} (n : Nat) (cx : Cx β) (v3 : ByteArray) (v4 : Bool) : g83_4F n (g83_m4 v3 v4) cx = g83_4 n (fun v3 v6 => cx.nrm (g83_m5 v3 v6)) v3 v4 := by kernel_rfl
noncomputable def g83_5 {β : Type} (n : Nat) (kr : Int → Option β) (v3 : ByteArray) (v6 : Bool) : Option β := kr (126 : Int)
noncomputable def g83_5F {β : Type} (n : Nat) (s : FState) (cx : Cx β) : Option β := FX (g83_G n) n (nav g83_B [1, 0, 1, 0, 1, 1, 1, 0, 0]) (.fin none none (some g83_m1e) [] .leaf) s { cx with nrm := fun s => FX (g83_G n) n (nav g83_B [1, 0, 1, 0, 1, 1, 1, 0, 1]) (.fin none none (some g83_m1e) [] .leaf) s cx }
theorem g83_5_fx {β : Type} (n : Nat) (cx : Cx β) (v3 : ByteArray) (v6 : Bool) : g83_5F n (g83_m5 v3 v6) cx = g83_5 n (fun v2 => cx.ret (g83_m1 v2)) v3 v6 := by kernel_rfl
noncomputable def g83_6 {β : Type} (n : Nat) (kn : ByteArray → Bool → Option β) (v3 : ByteArray) (v6 : Bool) : Option β := kn v3 (strEq v3 (⟨#[37, 50, 55]⟩ : ByteArray))
noncomputable def g83_6F {β : Type} (n : Nat) (s : FState) (cx : Cx β) : Option β := FX (g83_G n) n (nav g83_B [1, 0, 1, 0, 1, 1, 1, 1, 0]) (.fin none (some g83_m6e) none [] .leaf) s cx
theorem g83_6_fx {β : Type} (n : Nat) (cx : Cx β) (v3 : ByteArray) (v6 : Bool) : g83_6F n (g83_m5 v3 v6) cx = g83_6 n (fun v3 v8 => cx.nrm (g83_m6 v3 v8)) v3 v6 := by kernel_rfl
noncomputable def g83_7 {β : Type} (n : Nat) (kr : Int → Option β) (v3 : ByteArray) (v8 : Bool) : Option β := kr (39 : Int)
noncomputable def g83_7F {β : Type} (n : Nat) (s : FState) (cx : Cx β) : Option β := FX (g83_G n) n (nav g83_B [1, 0, 1, 0, 1, 1, 1, 1, 1, 0, 0]) (.fin none none (some g83_m1e) [] .leaf) s { cx with nrm := fun s => FX (g83_G n) n (nav g83_B [1, 0, 1, 0, 1, 1, 1, 1, 1, 0, 1]) (.fin none none (some g83_m1e) [] .leaf) s cx }
theorem g83_7_fx {β : Type} (n : Nat) (cx : Cx β) (v3 : ByteArray) (v8 : Bool) : g83_7F n (g83_m6 v3 v8) cx = g83_7 n (fun v2 => cx.ret (g83_m1 v2)) v3 v8 := by kernel_rfl
noncomputable def g83_8 {β : Type} (n : Nat) (kn : ByteArray → Bool → Option β) (v3 : ByteArray) (v8 : Bool) : Option β := kn v3 (strEq v3 (⟨#[37, 50, 56]⟩ : ByteArray))
noncomputable def g83_8F {β : Type} (n : Nat) (s : FState) (cx : Cx β) : Option β := FX (g83_G n) n (nav g83_B [1, 0, 1, 0, 1, 1, 1, 1, 1, 1, 0]) (.fin none (some g83_m7e) none [] .leaf) s cx
theorem g83_8_fx {β : Type} (n : Nat) (cx : Cx β) (v3 : ByteArray) (v8 : Bool) : g83_8F n (g83_m6 v3 v8) cx = g83_8 n (fun v3 v10 => cx.nrm (g83_m7 v3 v10)) v3 v8 := by kernel_rfl
noncomputable def g83_9 {β : Type} (n : Nat) (kr : Int → Option β) (v3 : ByteArray) (v10 : Bool) : Option β := kr (40 : Int)
noncomputable def g83_9F {β : Type} (n : Nat) (s : FState) (cx : Cx β) : Option β := FX (g83_G n) n (nav g83_B [1, 0, 1, 0, 1, 1, 1, 1, 1, 1, 1, 0, 0]) (.fin none none (some g83_m1e) [] .leaf) s { cx with nrm := fun s => FX (g83_G n) n (nav g83_B [1, 0, 1, 0, 1, 1, 1, 1, 1, 1, 1, 0, 1]) (.fin none none (some g83_m1e) [] .leaf) s cx }
theorem g83_9_fx {β : Type} (n : Nat) (cx : Cx β) (v3 : ByteArray) (v10 : Bool) : g83_9F n (g83_m7 v3 v10) cx = g83_9 n (fun v2 => cx.ret (g83_m1 v2)) v3 v10 := by kernel_rfl
noncomputable def g83_10 {β : Type} (n : Nat) (kn : ByteArray → Bool → Option β) (v3 : ByteArray) (v10 : Bool) : Option β := kn v3 (strEq v3 (⟨#[37, 50, 57]⟩ : ByteArray))
noncomputable def g83_10F {β : Type} (n : Nat) (s : FState) (cx : Cx β) : Option β := FX (g83_G n) n (nav g83_B [1, 0, 1, 0, 1, 1, 1, 1, 1, 1, 1, 1, 0]) (.fin none (some g83_m8e) none [] .leaf) s cx
theorem g83_10_fx {β : Type} (n : Nat) (cx : Cx β) (v3 : ByteArray) (v10 : Bool) : g83_10F n (g83_m7 v3 v10) cx = g83_10 n (fun v3 v12 => cx.nrm (g83_m8 v3 v12)) v3 v10 := by kernel_rfl
noncomputable def g83_11 {β : Type} (n : Nat) (kr : Int → Option β) (v3 : ByteArray) (v12 : Bool) : Option β := kr (41 : Int)
noncomputable def g83_11F {β : Type} (n : Nat) (s : FState) (cx : Cx β) : Option β := FX (g83_G n) n (nav g83_B [1, 0, 1, 0, 1, 1, 1, 1, 1, 1, 1, 1, 1, 0, 0]) (.fin none none (some g83_m1e) [] .leaf) s { cx with nrm := fun s => FX (g83_G n) n (nav g83_B [1, 0, 1, 0, 1, 1, 1, 1, 1, 1, 1, 1, 1, 0, 1]) (.fin none none (some g83_m1e) [] .leaf) s cx }
theorem g83_11_fx {β : Type} (n : Nat) (cx : Cx β) (v3 : ByteArray) (v12 : Bool) : g83_11F n (g83_m8 v3 v12) cx = g83_11 n (fun v2 => cx.ret (g83_m1 v2)) v3 v12 := by kernel_rfl
noncomputable def g83_12 {β : Type} (n : Nat) (kn : ByteArray → Bool → Option β) (v3 : ByteArray) (v12 : Bool) : Option β := kn v3 (strEq v3 (⟨#[37, 51, 66]⟩ : ByteArray))
noncomputable def g83_12F {β : Type} (n : Nat) (s : FState) (cx : Cx β) : Option β := FX (g83_G n) n (nav g83_B [1, 0, 1, 0, 1, 1, 1, 1, 1, 1, 1, 1, 1, 1, 0]) (.fin none (some g83_m9e) none [] .leaf) s cx
theorem g83_12_fx {β : Type} (n : Nat) (cx : Cx β) (v3 : ByteArray) (v12 : Bool) : g83_12F n (g83_m8 v3 v12) cx = g83_12 n (fun v3 v14 => cx.nrm (g83_m9 v3 v14)) v3 v12 := by kernel_rfl
noncomputable def g83_13 {β : Type} (n : Nat) (kr : Int → Option β) (v3 : ByteArray) (v14 : Bool) : Option β := kr (59 : Int)
noncomputable def g83_13F {β : Type} (n : Nat) (s : FState) (cx : Cx β) : Option β := FX (g83_G n) n (nav g83_B [1, 0, 1, 0, 1, 1, 1, 1, 1, 1, 1, 1, 1, 1, 1, 0, 0]) (.fin none none (some g83_m1e) [] .leaf) s { cx with nrm := fun s => FX (g83_G n) n (nav g83_B [1, 0, 1, 0, 1, 1, 1, 1, 1, 1, 1, 1, 1, 1, 1, 0, 1]) (.fin none none (some g83_m1e) [] .leaf) s cx }
theorem g83_13_fx {β : Type} (n : Nat) (cx : Cx β) (v3 : ByteArray) (v14 : Bool) : g83_13F n (g83_m9 v3 v14) cx = g83_13 n (fun v2 => cx.ret (g83_m1 v2)) v3 v14 := by kernel_rfl
noncomputable def g83_14 {β : Type} (n : Nat) (kn : ByteArray → Bool → Option β) (v3 : ByteArray) (v14 : Bool) : Option β := kn v3 (strEq v3 (⟨#[37, 50, 70]⟩ : ByteArray))
noncomputable def g83_14F {β : Type} (n : Nat) (s : FState) (cx : Cx β) : Option β := FX (g83_G n) n (nav g83_B [1, 0, 1, 0, 1, 1, 1, 1, 1, 1, 1, 1, 1, 1, 1, 1, 0]) (.fin none (some g83_m10e) none [] .leaf) s cx
theorem g83_14_fx {β : Type} (n : Nat) (cx : Cx β) (v3 : ByteArray) (v14 : Bool) : g83_14F n (g83_m9 v3 v14) cx = g83_14 n (fun v3 v16 => cx.nrm (g83_m10 v3 v16)) v3 v14 := by kernel_rfl
noncomputable def g83_15 {β : Type} (n : Nat) (kr : Int → Option β) (v3 : ByteArray) (v16 : Bool) : Option β := kr (47 : Int)
noncomputable def g83_15F {β : Type} (n : Nat) (s : FState) (cx : Cx β) : Option β := FX (g83_G n) n (nav g83_B [1, 0, 1, 0, 1, 1, 1, 1, 1, 1, 1, 1, 1, 1, 1, 1, 1, 0, 0]) (.fin none none (some g83_m1e) [] .leaf) s { cx with nrm := fun s => FX (g83_G n) n (nav g83_B [1, 0, 1, 0, 1, 1, 1, 1, 1, 1, 1, 1, 1, 1, 1, 1, 1, 0, 1]) (.fin none none (some g83_m1e) [] .leaf) s cx }
theorem g83_15_fx {β : Type} (n : Nat) (cx : Cx β) (v3 : ByteArray) (v16 : Bool) : g83_15F n (g83_m10 v3 v16) cx = g83_15 n (fun v2 => cx.ret (g83_m1 v2)) v3 v16 := by kernel_rfl
noncomputable def g83_16 {β : Type} (n : Nat) (kn : ByteArray → Bool → Option β) (v3 : ByteArray) (v16 : Bool) : Option β := kn v3 (strEq v3 (⟨#[37, 51, 70]⟩ : ByteArray))
noncomputable def g83_16F {β : Type} (n : Nat) (s : FState) (cx : Cx β) : Option β := FX (g83_G n) n (nav g83_B [1, 0, 1, 0, 1, 1, 1, 1, 1, 1, 1, 1, 1, 1, 1, 1, 1, 1, 0]) (.fin none (some g83_m11e) none [] .leaf) s cx
theorem g83_16_fx {β : Type} (n : Nat) (cx : Cx β) (v3 : ByteArray) (v16 : Bool) : g83_16F n (g83_m10 v3 v16) cx = g83_16 n (fun v3 v18 => cx.nrm (g83_m11 v3 v18)) v3 v16 := by kernel_rfl
noncomputable def g83_17 {β : Type} (n : Nat) (kr : Int → Option β) (v3 : ByteArray) (v18 : Bool) : Option β := kr (63 : Int)
noncomputable def g83_17F {β : Type} (n : Nat) (s : FState) (cx : Cx β) : Option β := FX (g83_G n) n (nav g83_B [1, 0, 1, 0, 1, 1, 1, 1, 1, 1, 1, 1, 1, 1, 1, 1, 1, 1, 1, 0, 0]) (.fin none none (some g83_m1e) [] .leaf) s { cx with nrm := fun s => FX (g83_G n) n (nav g83_B [1, 0, 1, 0, 1, 1, 1, 1, 1, 1, 1, 1, 1, 1, 1, 1, 1, 1, 1, 0, 1]) (.fin none none (some g83_m1e) [] .leaf) s cx }
theorem g83_17_fx {β : Type} (n : Nat) (cx : Cx β) (v3 : ByteArray) (v18 : Bool) : g83_17F n (g83_m11 v3 v18) cx = g83_17 n (fun v2 => cx.ret (g83_m1 v2)) v3 v18 := by kernel_rfl
noncomputable def g83_18 {β : Type} (n : Nat) (kn : Option β) (kr : Int → Option β) (v3 : ByteArray) (v18 : Bool) : Option β := bif (strEq v3 (⟨#[37, 51, 65]⟩ : ByteArray)) then (kr (58 : Int)) else (bif (strEq v3 (⟨#[37, 52, 48]⟩ : ByteArray)) then (kr (64 : Int)) else (bif (strEq v3 (⟨#[37, 50, 54]⟩ : ByteArray)) then (kr (38 : Int)) else (bif (strEq v3 (⟨#[37, 51, 68]⟩ : ByteArray)) then (kr (61 : Int)) else (bif (strEq v3 (⟨#[37, 50, 66]⟩ : ByteArray)) then (kr (43 : Int)) else (bif (strEq v3 (⟨#[37, 50, 52]⟩ : ByteArray)) then (kr (36 : Int)) else (bif (strEq v3 (⟨#[37, 50, 67]⟩ : ByteArray)) then (kr (44 : Int)) else (bif (strEq v3 (⟨#[37, 50, 51]⟩ : ByteArray)) then (kr (35 : Int)) else (bif (strEq v3 (⟨#[37, 50, 65]⟩ : ByteArray)) then (kr (42 : Int)) else kn))))))))
noncomputable def g83_18F {β : Type} (n : Nat) (s : FState) (cx : Cx β) : Option β := FX (g83_G n) n (nav g83_B [1, 0, 1, 0, 1, 1, 1, 1, 1, 1, 1, 1, 1, 1, 1, 1, 1, 1, 1, 1, 0]) (.fin none none (some g83_m1e) [] .leaf) s { cx with nrm := fun s => FX (g83_G n) n (nav g83_B [1, 0, 1, 0, 1, 1, 1, 1, 1, 1, 1, 1, 1, 1, 1, 1, 1, 1, 1, 1, 1]) (.fin none (some g83_m3e) (some g83_m1e) [] .leaf) s cx }
theorem g83_18_fx {β : Type} (n : Nat) (cx : Cx β) (v3 : ByteArray) (v18 : Bool) : g83_18F n (g83_m11 v3 v18) cx = g83_18 n (cx.nrm g83_m3) (fun v2 => cx.ret (g83_m1 v2)) v3 v18 := by kernel_rfl
noncomputable def g83_19 {β : Type} (n : Nat) (kn : Option β) (kr : Int → Option β) (v3 : ByteArray) (v18 : Bool) : Option β := bif v18 then g83_17 n kr v3 v18 else g83_18 n kn kr v3 v18
noncomputable def g83_19F {β : Type} (n : Nat) (s : FState) (cx : Cx β) : Option β := asBool (ev s (cond_of (nav g83_B [1, 0, 1, 0, 1, 1, 1, 1, 1, 1, 1, 1, 1, 1, 1, 1, 1, 1, 1]))) fun t => cond t (g83_17F n s cx) (g83_18F n s cx)
theorem g83_19_fx {β : Type} (n : Nat) (cx : Cx β) (v3 : ByteArray) (v18 : Bool) : g83_19F n (g83_m11 v3 v18) cx = g83_19 n (cx.nrm g83_m3) (fun v2 => cx.ret (g83_m1 v2)) v3 v18 := by
  simp only [g83_19F, g83_19, g83_17_fx, g83_18_fx]
  kernel_rfl
noncomputable def g83_20 {β : Type} (n : Nat) (kn : Option β) (kr : Int → Option β) (v3 : ByteArray) (v16 : Bool) : Option β := g83_16 n (fun v3 v18 => g83_19 n kn kr v3 v18) v3 v16
noncomputable def g83_20F {β : Type} (n : Nat) (s : FState) (cx : Cx β) : Option β := g83_16F n s { cx with nrm := fun s => g83_19F n s cx }
theorem g83_20_fx {β : Type} (n : Nat) (cx : Cx β) (v3 : ByteArray) (v16 : Bool) : g83_20F n (g83_m10 v3 v16) cx = g83_20 n (cx.nrm g83_m3) (fun v2 => cx.ret (g83_m1 v2)) v3 v16 := by simp only [g83_20F, g83_20, g83_16_fx, g83_19_fx]
noncomputable def g83_21 {β : Type} (n : Nat) (kn : Option β) (kr : Int → Option β) (v3 : ByteArray) (v16 : Bool) : Option β := bif v16 then g83_15 n kr v3 v16 else g83_20 n kn kr v3 v16
noncomputable def g83_21F {β : Type} (n : Nat) (s : FState) (cx : Cx β) : Option β := asBool (ev s (cond_of (nav g83_B [1, 0, 1, 0, 1, 1, 1, 1, 1, 1, 1, 1, 1, 1, 1, 1, 1]))) fun t => cond t (g83_15F n s cx) (g83_20F n s cx)
theorem g83_21_fx {β : Type} (n : Nat) (cx : Cx β) (v3 : ByteArray) (v16 : Bool) : g83_21F n (g83_m10 v3 v16) cx = g83_21 n (cx.nrm g83_m3) (fun v2 => cx.ret (g83_m1 v2)) v3 v16 := by
  simp only [g83_21F, g83_21, g83_15_fx, g83_20_fx]
  kernel_rfl
noncomputable def g83_22 {β : Type} (n : Nat) (kn : Option β) (kr : Int → Option β) (v3 : ByteArray) (v14 : Bool) : Option β := g83_14 n (fun v3 v16 => g83_21 n kn kr v3 v16) v3 v14
noncomputable def g83_22F {β : Type} (n : Nat) (s : FState) (cx : Cx β) : Option β := g83_14F n s { cx with nrm := fun s => g83_21F n s cx }
theorem g83_22_fx {β : Type} (n : Nat) (cx : Cx β) (v3 : ByteArray) (v14 : Bool) : g83_22F n (g83_m9 v3 v14) cx = g83_22 n (cx.nrm g83_m3) (fun v2 => cx.ret (g83_m1 v2)) v3 v14 := by simp only [g83_22F, g83_22, g83_14_fx, g83_21_fx]
noncomputable def g83_23 {β : Type} (n : Nat) (kn : Option β) (kr : Int → Option β) (v3 : ByteArray) (v14 : Bool) : Option β := bif v14 then g83_13 n kr v3 v14 else g83_22 n kn kr v3 v14
noncomputable def g83_23F {β : Type} (n : Nat) (s : FState) (cx : Cx β) : Option β := asBool (ev s (cond_of (nav g83_B [1, 0, 1, 0, 1, 1, 1, 1, 1, 1, 1, 1, 1, 1, 1]))) fun t => cond t (g83_13F n s cx) (g83_22F n s cx)
theorem g83_23_fx {β : Type} (n : Nat) (cx : Cx β) (v3 : ByteArray) (v14 : Bool) : g83_23F n (g83_m9 v3 v14) cx = g83_23 n (cx.nrm g83_m3) (fun v2 => cx.ret (g83_m1 v2)) v3 v14 := by
  simp only [g83_23F, g83_23, g83_13_fx, g83_22_fx]
  kernel_rfl
noncomputable def g83_24 {β : Type} (n : Nat) (kn : Option β) (kr : Int → Option β) (v3 : ByteArray) (v12 : Bool) : Option β := g83_12 n (fun v3 v14 => g83_23 n kn kr v3 v14) v3 v12
noncomputable def g83_24F {β : Type} (n : Nat) (s : FState) (cx : Cx β) : Option β := g83_12F n s { cx with nrm := fun s => g83_23F n s cx }
theorem g83_24_fx {β : Type} (n : Nat) (cx : Cx β) (v3 : ByteArray) (v12 : Bool) : g83_24F n (g83_m8 v3 v12) cx = g83_24 n (cx.nrm g83_m3) (fun v2 => cx.ret (g83_m1 v2)) v3 v12 := by simp only [g83_24F, g83_24, g83_12_fx, g83_23_fx]
noncomputable def g83_25 {β : Type} (n : Nat) (kn : Option β) (kr : Int → Option β) (v3 : ByteArray) (v12 : Bool) : Option β := bif v12 then g83_11 n kr v3 v12 else g83_24 n kn kr v3 v12
noncomputable def g83_25F {β : Type} (n : Nat) (s : FState) (cx : Cx β) : Option β := asBool (ev s (cond_of (nav g83_B [1, 0, 1, 0, 1, 1, 1, 1, 1, 1, 1, 1, 1]))) fun t => cond t (g83_11F n s cx) (g83_24F n s cx)
theorem g83_25_fx {β : Type} (n : Nat) (cx : Cx β) (v3 : ByteArray) (v12 : Bool) : g83_25F n (g83_m8 v3 v12) cx = g83_25 n (cx.nrm g83_m3) (fun v2 => cx.ret (g83_m1 v2)) v3 v12 := by
  simp only [g83_25F, g83_25, g83_11_fx, g83_24_fx]
  kernel_rfl
noncomputable def g83_26 {β : Type} (n : Nat) (kn : Option β) (kr : Int → Option β) (v3 : ByteArray) (v10 : Bool) : Option β := g83_10 n (fun v3 v12 => g83_25 n kn kr v3 v12) v3 v10
noncomputable def g83_26F {β : Type} (n : Nat) (s : FState) (cx : Cx β) : Option β := g83_10F n s { cx with nrm := fun s => g83_25F n s cx }
theorem g83_26_fx {β : Type} (n : Nat) (cx : Cx β) (v3 : ByteArray) (v10 : Bool) : g83_26F n (g83_m7 v3 v10) cx = g83_26 n (cx.nrm g83_m3) (fun v2 => cx.ret (g83_m1 v2)) v3 v10 := by simp only [g83_26F, g83_26, g83_10_fx, g83_25_fx]
noncomputable def g83_27 {β : Type} (n : Nat) (kn : Option β) (kr : Int → Option β) (v3 : ByteArray) (v10 : Bool) : Option β := bif v10 then g83_9 n kr v3 v10 else g83_26 n kn kr v3 v10
noncomputable def g83_27F {β : Type} (n : Nat) (s : FState) (cx : Cx β) : Option β := asBool (ev s (cond_of (nav g83_B [1, 0, 1, 0, 1, 1, 1, 1, 1, 1, 1]))) fun t => cond t (g83_9F n s cx) (g83_26F n s cx)
theorem g83_27_fx {β : Type} (n : Nat) (cx : Cx β) (v3 : ByteArray) (v10 : Bool) : g83_27F n (g83_m7 v3 v10) cx = g83_27 n (cx.nrm g83_m3) (fun v2 => cx.ret (g83_m1 v2)) v3 v10 := by
  simp only [g83_27F, g83_27, g83_9_fx, g83_26_fx]
  kernel_rfl
noncomputable def g83_28 {β : Type} (n : Nat) (kn : Option β) (kr : Int → Option β) (v3 : ByteArray) (v8 : Bool) : Option β := g83_8 n (fun v3 v10 => g83_27 n kn kr v3 v10) v3 v8
noncomputable def g83_28F {β : Type} (n : Nat) (s : FState) (cx : Cx β) : Option β := g83_8F n s { cx with nrm := fun s => g83_27F n s cx }
theorem g83_28_fx {β : Type} (n : Nat) (cx : Cx β) (v3 : ByteArray) (v8 : Bool) : g83_28F n (g83_m6 v3 v8) cx = g83_28 n (cx.nrm g83_m3) (fun v2 => cx.ret (g83_m1 v2)) v3 v8 := by simp only [g83_28F, g83_28, g83_8_fx, g83_27_fx]
noncomputable def g83_29 {β : Type} (n : Nat) (kn : Option β) (kr : Int → Option β) (v3 : ByteArray) (v8 : Bool) : Option β := bif v8 then g83_7 n kr v3 v8 else g83_28 n kn kr v3 v8
noncomputable def g83_29F {β : Type} (n : Nat) (s : FState) (cx : Cx β) : Option β := asBool (ev s (cond_of (nav g83_B [1, 0, 1, 0, 1, 1, 1, 1, 1]))) fun t => cond t (g83_7F n s cx) (g83_28F n s cx)
theorem g83_29_fx {β : Type} (n : Nat) (cx : Cx β) (v3 : ByteArray) (v8 : Bool) : g83_29F n (g83_m6 v3 v8) cx = g83_29 n (cx.nrm g83_m3) (fun v2 => cx.ret (g83_m1 v2)) v3 v8 := by
  simp only [g83_29F, g83_29, g83_7_fx, g83_28_fx]
  kernel_rfl
noncomputable def g83_30 {β : Type} (n : Nat) (kn : Option β) (kr : Int → Option β) (v3 : ByteArray) (v6 : Bool) : Option β := g83_6 n (fun v3 v8 => g83_29 n kn kr v3 v8) v3 v6
noncomputable def g83_30F {β : Type} (n : Nat) (s : FState) (cx : Cx β) : Option β := g83_6F n s { cx with nrm := fun s => g83_29F n s cx }
theorem g83_30_fx {β : Type} (n : Nat) (cx : Cx β) (v3 : ByteArray) (v6 : Bool) : g83_30F n (g83_m5 v3 v6) cx = g83_30 n (cx.nrm g83_m3) (fun v2 => cx.ret (g83_m1 v2)) v3 v6 := by simp only [g83_30F, g83_30, g83_6_fx, g83_29_fx]
noncomputable def g83_31 {β : Type} (n : Nat) (kn : Option β) (kr : Int → Option β) (v3 : ByteArray) (v6 : Bool) : Option β := bif v6 then g83_5 n kr v3 v6 else g83_30 n kn kr v3 v6
noncomputable def g83_31F {β : Type} (n : Nat) (s : FState) (cx : Cx β) : Option β := asBool (ev s (cond_of (nav g83_B [1, 0, 1, 0, 1, 1, 1]))) fun t => cond t (g83_5F n s cx) (g83_30F n s cx)
theorem g83_31_fx {β : Type} (n : Nat) (cx : Cx β) (v3 : ByteArray) (v6 : Bool) : g83_31F n (g83_m5 v3 v6) cx = g83_31 n (cx.nrm g83_m3) (fun v2 => cx.ret (g83_m1 v2)) v3 v6 := by
  simp only [g83_31F, g83_31, g83_5_fx, g83_30_fx]
  kernel_rfl
noncomputable def g83_32 {β : Type} (n : Nat) (kn : Option β) (kr : Int → Option β) (v3 : ByteArray) (v4 : Bool) : Option β := g83_4 n (fun v3 v6 => g83_31 n kn kr v3 v6) v3 v4
noncomputable def g83_32F {β : Type} (n : Nat) (s : FState) (cx : Cx β) : Option β := g83_4F n s { cx with nrm := fun s => g83_31F n s cx }
theorem g83_32_fx {β : Type} (n : Nat) (cx : Cx β) (v3 : ByteArray) (v4 : Bool) : g83_32F n (g83_m4 v3 v4) cx = g83_32 n (cx.nrm g83_m3) (fun v2 => cx.ret (g83_m1 v2)) v3 v4 := by simp only [g83_32F, g83_32, g83_4_fx, g83_31_fx]
noncomputable def g83_33 {β : Type} (n : Nat) (kn : Option β) (kr : Int → Option β) (v3 : ByteArray) (v4 : Bool) : Option β := bif v4 then g83_3 n kr v3 v4 else g83_32 n kn kr v3 v4
noncomputable def g83_33F {β : Type} (n : Nat) (s : FState) (cx : Cx β) : Option β := asBool (ev s (cond_of (nav g83_B [1, 0, 1, 0, 1]))) fun t => cond t (g83_3F n s cx) (g83_32F n s cx)
theorem g83_33_fx {β : Type} (n : Nat) (cx : Cx β) (v3 : ByteArray) (v4 : Bool) : g83_33F n (g83_m4 v3 v4) cx = g83_33 n (cx.nrm g83_m3) (fun v2 => cx.ret (g83_m1 v2)) v3 v4 := by
  simp only [g83_33F, g83_33, g83_3_fx, g83_32_fx]
  kernel_rfl
noncomputable def g83_34 {β : Type} (n : Nat) (kn : Option β) (kr : Int → Option β) (v3 : ByteArray) : Option β := g83_2 n (fun v3 v4 => g83_33 n kn kr v3 v4) v3
noncomputable def g83_34F {β : Type} (n : Nat) (s : FState) (cx : Cx β) : Option β := g83_2F n s { cx with nrm := fun s => g83_33F n s cx }
theorem g83_34_fx {β : Type} (n : Nat) (cx : Cx β) (v3 : ByteArray) : g83_34F n (g83_m2 v3) cx = g83_34 n (cx.nrm g83_m3) (fun v2 => cx.ret (g83_m1 v2)) v3 := by simp only [g83_34F, g83_34, g83_2_fx, g83_33_fx]
noncomputable def g83_35 {β : Type} (n : Nat) (kn : Option β) (kr : Int → Option β) (v3 : ByteArray) : Option β := g83_34 n kn kr v3
noncomputable def g83_35F {β : Type} (n : Nat) (s : FState) (cx : Cx β) : Option β := g83_34F n s { cx with ex := fun j s => bif Nat.beq j 0 then cx.nrm s else cx.ex j s }
theorem g83_35_fx {β : Type} (n : Nat) (cx : Cx β) (v3 : ByteArray) : g83_35F n (g83_m2 v3) cx = g83_35 n (cx.nrm g83_m3) (fun v2 => cx.ret (g83_m1 v2)) v3 := g83_34_fx n _ v3
noncomputable def g83_36 {β : Type} (n : Nat) (kr : Int → Option β) : Option β := kr (0 : Int)
noncomputable def g83_36F {β : Type} (n : Nat) (s : FState) (cx : Cx β) : Option β := FX (g83_G n) n (nav g83_B [1, 1, 0]) (.fin none none (some g83_m1e) [] .leaf) s { cx with nrm := fun s => FX (g83_G n) n (nav g83_B [1, 1, 1]) (.fin none none (some g83_m1e) [] .leaf) s cx }
theorem g83_36_fx {β : Type} (n : Nat) (cx : Cx β) : g83_36F n g83_m3 cx = g83_36 n (fun v2 => cx.ret (g83_m1 v2)) := by kernel_rfl
noncomputable def g83_37 {β : Type} (n : Nat) (kr : Int → Option β) (v0 : ByteArray) : Option β := g83_1 n (fun v3 => g83_35 n (g83_36 n kr) kr v3) v0
noncomputable def g83_37F {β : Type} (n : Nat) (s : FState) (cx : Cx β) : Option β := g83_1F n s { cx with nrm := fun s => g83_35F n s { cx with nrm := fun s => g83_36F n s cx } }
theorem g83_37_fx {β : Type} (n : Nat) (cx : Cx β) (v0 : ByteArray) : g83_37F n (g83_m0 v0) cx = g83_37 n (fun v2 => cx.ret (g83_m1 v2)) v0 := by simp only [g83_37F, g83_37, g83_1_fx, g83_35_fx, g83_36_fx]
noncomputable def g83 (n : Nat) (v0 : ByteArray) : Option (DenR [.dat (.int .u8)]) := g83_37 n (fun v2 => some (v2, ())) v0
noncomputable def g83_A : List AK := [.dat .str]
noncomputable def g83_R : List RK := [.dat (.int .u8)]
noncomputable def g83_f (n : Nat) (d : DenA g83_A) : Option (DenR g83_R) := g83 n d.1
noncomputable def g83_S (n : Nat) : Spec := mkSpec g83_A g83_R (g83_f n)
noncomputable def g83_K : Sk := (.nd (.fin none none none [] .leaf) (.nd (.nd (.fin none (some g83_m2e) none [] .leaf) (.nd (.nd (.fin none (some g83_m4e) none [] .leaf) (.nd (.nd (.fin none none (some g83_m1e) [] .leaf) (.fin none none (some g83_m1e) [] .leaf)) (.nd (.fin none (some g83_m5e) none [] .leaf) (.nd (.nd (.fin none none (some g83_m1e) [] .leaf) (.fin none none (some g83_m1e) [] .leaf)) (.nd (.fin none (some g83_m6e) none [] .leaf) (.nd (.nd (.fin none none (some g83_m1e) [] .leaf) (.fin none none (some g83_m1e) [] .leaf)) (.nd (.fin none (some g83_m7e) none [] .leaf) (.nd (.nd (.fin none none (some g83_m1e) [] .leaf) (.fin none none (some g83_m1e) [] .leaf)) (.nd (.fin none (some g83_m8e) none [] .leaf) (.nd (.nd (.fin none none (some g83_m1e) [] .leaf) (.fin none none (some g83_m1e) [] .leaf)) (.nd (.fin none (some g83_m9e) none [] .leaf) (.nd (.nd (.fin none none (some g83_m1e) [] .leaf) (.fin none none (some g83_m1e) [] .leaf)) (.nd (.fin none (some g83_m10e) none [] .leaf) (.nd (.nd (.fin none none (some g83_m1e) [] .leaf) (.fin none none (some g83_m1e) [] .leaf)) (.nd (.fin none (some g83_m11e) none [] .leaf) (.nd (.nd (.fin none none (some g83_m1e) [] .leaf) (.fin none none (some g83_m1e) [] .leaf)) (.nd (.fin none none (some g83_m1e) [] .leaf) (.fin none (some g83_m3e) (some g83_m1e) [] .leaf)))))))))))))))))) .leaf)) (.nd (.fin none none (some g83_m1e) [] .leaf) (.fin none none (some g83_m1e) [] .leaf))))
theorem g83_top {β : Type} (n : Nat) (s : FState) (cx : Cx β) : FX (g83_G n) n g83_B g83_K s cx = g83_37F n s cx := by kernel_rfl
theorem g83_fit (n : Nat) : Fit Try.prog 83 (g83_S n) :=
  fit_of (Γ := Γ0) (l := g83_C n) (n := n) (sk := g83_K) (ts := [(2, none)]) (fn := Try.f83) (c := g83_B) (by kernel_rfl) (by kernel_rfl) (by unfold Callable; kernel_rfl) tab_ok trivial follows_mixed (by kernel_rfl) (by kernel_rfl) (Nat.le_of_ble_eq_true (by kernel_rfl)) (by kernel_rfl) (by kernel_rfl)
    (fun d => (g83_top n _ _).trans (Eq.trans (b := g83_37F n (g83_m0 d.1) (finCx (g83_G n) g83_R [(2, none)])) (by kernel_rfl) ((g83_37_fx n _ d.1).trans (by kernel_rfl))))
noncomputable def g75_m0 (v0 : ByteArray) : FState := ⟨tlist [(0, .dat .str v0)], olist []⟩
noncomputable def g75_m1 (v2 : ByteArray) : FState := ⟨tlist [(2, .dat .str v2)], olist []⟩
noncomputable def g75_m1e : List NE := [.keep 2]
noncomputable def g75_m2 (v0 : ByteArray) (x3 : List Int) (v4 : Int) : FState := ⟨tlist [(0, .dat .str v0), (3, .sl 3 none false), (4, .dat (.int .i64) v4)], olist [(3, .row (.int .u8) 5 true x3)]⟩
noncomputable def g75_m2e : List NE := [.keep 0, .row 3 (.int .u8) 5 true, .keep 4]
noncomputable def g75_m3 (x3 : List Int) : FState := ⟨tlist [(3, .sl 3 none false)], olist [(3, .row (.int .u8) 5 true x3)]⟩
noncomputable def g75_m3e : List NE := [.row 3 (.int .u8) 5 true]
noncomputable def g75_C (n : Nat) : List (Nat × Spec) := [(83, g83_S n)]
noncomputable def g75_G (n : Nat) : Ctx := { Γ0 with calls := lkS (g75_C n) }
noncomputable def g75_B : Code := fb Try.f75
noncomputable def g75_1 {β : Type} (n : Nat) (kn : ByteArray → List Int → Int → Option β) (v0 : ByteArray) : Option β := kn v0 [] (0 : Int)
noncomputable def g75_1F {β : Type} (n : Nat) (s : FState) (cx : Cx β) : Option β := FX (g75_G n) n (nav g75_B [0]) (.fin none none none [] .leaf) s { cx with nrm := fun s => FX (g75_G n) n (nav g75_B [1, 0]) (.fin none none none [] .leaf) s { cx with nrm := fun s => FX (g75_G n) n (nav g75_B [1, 1, 0, 0]) (.fin none (some g75_m2e) none [] .leaf) s cx } }
theorem g75_1_fx {β : Type} (n : Nat) (cx : Cx β) (v0 : ByteArray) : g75_1F n (g75_m0 v0) cx = g75_1 n (fun v0 x3 v4 => cx.nrm (g75_m2 v0 x3 v4)) v0 := by kernel_rfl
noncomputable def g75_2 {β : Type} (n : Nat) (kn : ByteArray → List Int → Int → Option β) (kx0 : List Int → Option β) (v0 : ByteArray) (x3 : List Int) (v4 : Int) : Option β := bif (decide (v4 < (v0.size : Int))) then (bif (decide ((w64 (v4 + (3 : Int))) ≤ (v0.size : Int))) then (bnd v4 (w64 (v4 + (3 : Int))) (v0.size : Int) <| (g83 n (cutS v0 v4 (w64 (v4 + (3 : Int))))).bind fun r1 => bif (r1.1 != (0 : Int)) then (roomy (x3.length + [r1.1].length) <| kn v0 (x3 ++ [r1.1]) (w64 (v4 + (3 : Int)))) else (idx v4 (v0.size : Int) <| roomy (x3.length + [(byteAt v0 v4)].length) <| kn v0 (x3 ++ [(byteAt v0 v4)]) (w64 (v4 + (1 : Int))))) else (idx v4 (v0.size : Int) <| roomy (x3.length + [(byteAt v0 v4)].length) <| kn v0 (x3 ++ [(byteAt v0 v4)]) (w64 (v4 + (1 : Int))))) else (kx0 x3)
noncomputable def g75_2F {β : Type} (n : Nat) (s : FState) (cx : Cx β) : Option β := FX (g75_G n) n (nav g75_B [1, 1, 0, 1, 0, 0, 0, 0]) (.fin none none none [(0, g75_m3e)] .leaf) s { cx with nrm := fun s => FX (g75_G n) n (nav g75_B [1, 1, 0, 1, 0, 0, 0, 1]) (.fin none none none [(0, g75_m3e)] .leaf) s { cx with nrm := fun s => FX (g75_G n) n (nav g75_B [1, 1, 0, 1, 0, 0, 1]) (.fin none (some g75_m2e) none [(0, g75_m3e)] .leaf) s cx } }
theorem g75_2_fx {β : Type} (n : Nat) (cx : Cx β) (v0 : ByteArray) (x3 : List Int) (v4 : Int) : g75_2F n (g75_m2 v0 x3 v4) cx = g75_2 n (fun v0 x3 v4 => cx.nrm (g75_m2 v0 x3 v4)) (fun x3 => cx.ex 0 (g75_m3 x3)) v0 x3 v4 := by kernel_rfl
noncomputable def g75_3L {β : Type} (n : Nat) (kx0 : List Int → Option β) : Nat → ByteArray → List Int → Int → Option β
  | 0, _, _, _ => none
  | m + 1, v0, x3, v4 => g75_2 n (g75_3L n kx0 m) kx0 v0 x3 v4
noncomputable def g75_3 {β : Type} (n : Nat) (kx0 : List Int → Option β) (v0 : ByteArray) (x3 : List Int) (v4 : Int) : Option β := g75_3L n kx0 n v0 x3 v4
noncomputable def g75_3F {β : Type} (n : Nat) (s : FState) (cx : Cx β) : Option β := loopN (fun again s => g75_2F n s { cx with nrm := again }) n s
theorem g75_3L_fx {β : Type} (n : Nat) (cx : Cx β) : ∀ (m : Nat) (v0 : ByteArray) (x3 : List Int) (v4 : Int), loopN (fun again s => g75_2F n s { cx with nrm := again }) m (g75_m2 v0 x3 v4) = g75_3L n (fun x3 => cx.ex 0 (g75_m3 x3)) m v0 x3 v4 := by
  intro m
  induction m with
  | zero => intros; rfl
  | succ m ih => intros; simp only [loopN, g75_3L, g75_2_fx, ih]
theorem g75_3_fx {β : Type} (n : Nat) (cx : Cx β) (v0 : ByteArray) (x3 : List Int) (v4 : Int) : g75_3F n (g75_m2 v0 x3 v4) cx = g75_3 n (fun x3 => cx.ex 0 (g75_m3 x3)) v0 x3 v4 := g75_3L_fx n cx n v0 x3 v4
noncomputable def g75_4 {β : Type} (n : Nat) (kn : List Int → Option β) (v0 : ByteArray) (x3 : List Int) (v4 : Int) : Option β := g75_3 n kn v0 x3 v4
noncomputable def g75_4F {β : Type} (n : Nat) (s : FState) (cx : Cx β) : Option β := g75_3F n s { cx with ex := fun j s => bif Nat.beq j 0 then cx.nrm s else cx.ex j s }
theorem g75_4_fx {β : Type} (n : Nat) (cx : Cx β) (v0 : ByteArray) (x3 : List Int) (v4 : Int) : g75_4F n (g75_m2 v0 x3 v4) cx = g75_4 n (fun x3 => cx.nrm (g75_m3 x3)) v0 x3 v4 := g75_3_fx n _ v0 x3 v4
noncomputable def g75_5 {β : Type} (n : Nat) (kr : ByteArray → Option β) (x3 : List Int) : Option β := kr (strOfNums x3)
noncomputable def g75_5F {β : Type} (n : Nat) (s : FState) (cx : Cx β) : Option β := FX (g75_G n) n (nav g75_B [1, 1, 1, 0]) (.fin none none (some g75_m1e) [] .leaf) s { cx with nrm := fun s => FX (g75_G n) n (nav g75_B [1, 1, 1, 1]) (.fin none none (some g75_m1e) [] .leaf) s cx }
theorem g75_5_fx {β : Type} (n : Nat) (cx : Cx β) (x3 : List Int) : g75_5F n (g75_m3 x3) cx = g75_5 n (fun v2 => cx.ret (g75_m1 v2)) x3 := by kernel_rfl
noncomputable def g75_6 {β : Type} (n : Nat) (kr : ByteArray → Option β) (v0 : ByteArray) : Option β := g75_1 n (fun v0 x3 v4 => g75_4 n (fun x3 => g75_5 n kr x3) v0 x3 v4) v0
noncomputable def g75_6F {β : Type} (n : Nat) (s : FState) (cx : Cx β) : Option β := g75_1F n s { cx with nrm := fun s => g75_4F n s { cx with nrm := fun s => g75_5F n s cx } }
theorem g75_6_fx {β : Type} (n : Nat) (cx : Cx β) (v0 : ByteArray) : g75_6F n (g75_m0 v0) cx = g75_6 n (fun v2 => cx.ret (g75_m1 v2)) v0 := by simp only [g75_6F, g75_6, g75_1_fx, g75_4_fx, g75_5_fx]
noncomputable def g75 (n : Nat) (v0 : ByteArray) : Option (DenR [.dat .str]) := g75_6 n (fun v2 => some (v2, ())) v0
noncomputable def g75_A : List AK := [.dat .str]
noncomputable def g75_R : List RK := [.dat .str]
noncomputable def g75_f (n : Nat) (d : DenA g75_A) : Option (DenR g75_R) := g75 n d.1
noncomputable def g75_S (n : Nat) : Spec := mkSpec g75_A g75_R (g75_f n)
noncomputable def g75_K : Sk := (.nd (.fin none none none [] .leaf) (.nd (.fin none none none [] .leaf) (.nd (.nd (.fin none (some g75_m2e) none [] .leaf) (.nd (.nd (.nd (.nd (.fin none none none [(0, g75_m3e)] .leaf) (.fin none none none [(0, g75_m3e)] .leaf)) (.fin none (some g75_m2e) none [(0, g75_m3e)] .leaf)) .leaf) .leaf)) (.nd (.fin none none (some g75_m1e) [] .leaf) (.fin none none (some g75_m1e) [] .leaf)))))
theorem g75_top {β : Type} (n : Nat) (s : FState) (cx : Cx β) : FX (g75_G n) n g75_B g75_K s cx = g75_6F n s cx := by kernel_rfl
theorem g75_fit (n : Nat) : Fit Try.prog 75 (g75_S n) :=
  fit_of (Γ := Γ0) (l := g75_C n) (n := n) (sk := g75_K) (ts := [(2, none)]) (fn := Try.f75) (c := g75_B) (by kernel_rfl) (by kernel_rfl) (by unfold Callable; kernel_rfl) tab_ok ⟨g83_fit n, trivial⟩ follows_mixed (by kernel_rfl) (by kernel_rfl) (Nat.le_of_ble_eq_true (by kernel_rfl)) (by kernel_rfl) (by kernel_rfl)
    (fun d => (g75_top n _ _).trans (Eq.trans (b := g75_6F n (g75_m0 d.1) (finCx (g75_G n) g75_R [(2, none)])) (by kernel_rfl) ((g75_6_fx n _ d.1).trans (by kernel_rfl))))
noncomputable def g55_m0 (v0 : ByteArray) : FState := ⟨tlist [(0, .dat .str v0)], olist []⟩
noncomputable def g55_m1 (v2 : ByteArray) : FState := ⟨tlist [(2, .dat .str v2)], olist []⟩
noncomputable def g55_m1e : List NE := [.keep 2]
noncomputable def g55_C (n : Nat) : List (Nat × Spec) := [(75, g75_S n)]
noncomputable def g55_G (n : Nat) : Ctx := { Γ0 with calls := lkS (g55_C n) }
noncomputable def g55_B : Code := fb Try.f55
noncomputable def g55_1 {β : Type} (n : Nat) (kr : ByteArray → Option β) (v0 : ByteArray) : Option β := (g75 n v0).bind fun r1 => kr r1.1
noncomputable def g55_1F {β : Type} (n : Nat) (s : FState) (cx : Cx β) : Option β := FX (g55_G n) n (nav g55_B [0]) (.fin none none (some g55_m1e) [] .leaf) s { cx with nrm := fun s => FX (g55_G n) n (nav g55_B [1, 0]) (.fin none none (some g55_m1e) [] .leaf) s { cx with nrm := fun s => FX (g55_G n) n (nav g55_B [1, 1]) (.fin none none (some g55_m1e) [] .leaf) s cx } }
theorem g55_1_fx {β : Type} (n : Nat) (cx : Cx β) (v0 : ByteArray) : g55_1F n (g55_m0 v0) cx = g55_1 n (fun v2 => cx.ret (g55_m1 v2)) v0 := by kernel_rfl
noncomputable def g55 (n : Nat) (v0 : ByteArray) : Option (DenR [.dat .str]) := g55_1 n (fun v2 => some (v2, ())) v0
noncomputable def g55_A : List AK := [.dat .str]
noncomputable def g55_R : List RK := [.dat .str]
noncomputable def g55_f (n : Nat) (d : DenA g55_A) : Option (DenR g55_R) := g55 n d.1
noncomputable def g55_S (n : Nat) : Spec := mkSpec g55_A g55_R (g55_f n)
noncomputable def g55_K : Sk := (.nd (.fin none none (some g55_m1e) [] .leaf) (.nd (.fin none none (some g55_m1e) [] .leaf) (.fin none none (some g55_m1e) [] .leaf)))
theorem g55_top {β : Type} (n : Nat) (s : FState) (cx : Cx β) : FX (g55_G n) n g55_B g55_K s cx = g55_1F n s cx := by kernel_rfl
theorem g55_fit (n : Nat) : Fit Try.prog 55 (g55_S n) :=
  fit_of (Γ := Γ0) (l := g55_C n) (n := n) (sk := g55_K) (ts := [(2, none)]) (fn := Try.f55) (c := g55_B) (by kernel_rfl) (by kernel_rfl) (by unfold Callable; kernel_rfl) tab_ok ⟨g75_fit n, trivial⟩ follows_mixed (by kernel_rfl) (by kernel_rfl) (Nat.le_of_ble_eq_true (by kernel_rfl)) (by kernel_rfl) (by kernel_rfl)
    (fun d => (g55_top n _ _).trans (Eq.trans (b := g55_1F n (g55_m0 d.1) (finCx (g55_G n) g55_R [(2, none)])) (by kernel_rfl) ((g55_1_fx n _ d.1).trans (by kernel_rfl))))
noncomputable def g32_m0 (v0 : ByteArray) : FState := ⟨tlist [(0, .dat .str v0)], olist []⟩
noncomputable def g32_m1 (v2 : ByteArray) : FState := ⟨tlist [(2, .dat .str v2)], olist []⟩
noncomputable def g32_m1e : List NE := [.keep 2]
noncomputable def g32_C (n : Nat) : List (Nat × Spec) := [(55, g55_S n)]
noncomputable def g32_G (n : Nat) : Ctx := { Γ0 with calls := lkS (g32_C n) }
noncomputable def g32_B : Code := fb Try.f32
noncomputable def g32_1 {β : Type} (n : Nat) (kr : ByteArray → Option β) (v0 : ByteArray) : Option β := (g55 n v0).bind fun r1 => kr r1.1
noncomputable def g32_1F {β : Type} (n : Nat) (s : FState) (cx : Cx β) : Option β := FX (g32_G n) n (nav g32_B [0]) (.fin none none (some g32_m1e) [] .leaf) s { cx with nrm := fun s => FX (g32_G n) n (nav g32_B [1, 0]) (.fin none none (some g32_m1e) [] .leaf) s { cx with nrm := fun s => FX (g32_G n) n (nav g32_B [1, 1]) (.fin none none (some g32_m1e) [] .leaf) s cx } }
theorem g32_1_fx {β : Type} (n : Nat) (cx : Cx β) (v0 : ByteArray) : g32_1F n (g32_m0 v0) cx = g32_1 n (fun v2 => cx.ret (g32_m1 v2)) v0 := by kernel_rfl
noncomputable def g32 (n : Nat) (v0 : ByteArray) : Option (DenR [.dat .str]) := g32_1 n (fun v2 => some (v2, ())) v0
noncomputable def g32_A : List AK := [.dat .str]
noncomputable def g32_R : List RK := [.dat .str]
noncomputable def g32_f (n : Nat) (d : DenA g32_A) : Option (DenR g32_R) := g32 n d.1
noncomputable def g32_S (n : Nat) : Spec := mkSpec g32_A g32_R (g32_f n)
noncomputable def g32_K : Sk := (.nd (.fin none none (some g32_m1e) [] .leaf) (.nd (.fin none none (some g32_m1e) [] .leaf) (.fin none none (some g32_m1e) [] .leaf)))
theorem g32_top {β : Type} (n : Nat) (s : FState) (cx : Cx β) : FX (g32_G n) n g32_B g32_K s cx = g32_1F n s cx := by kernel_rfl
theorem g32_fit (n : Nat) : Fit Try.prog 32 (g32_S n) :=
  fit_of (Γ := Γ0) (l := g32_C n) (n := n) (sk := g32_K) (ts := [(2, none)]) (fn := Try.f32) (c := g32_B) (by kernel_rfl) (by kernel_rfl) (by unfold Callable; kernel_rfl) tab_ok ⟨g55_fit n, trivial⟩ follows_mixed (by kernel_rfl) (by kernel_rfl) (Nat.le_of_ble_eq_true (by kernel_rfl)) (by kernel_rfl) (by kernel_rfl)
    (fun d => (g32_top n _ _).trans (Eq.trans (b := g32_1F n (g32_m0 d.1) (finCx (g32_G n) g32_R [(2, none)])) (by kernel_rfl) ((g32_1_fx n _ d.1).trans (by kernel_rfl))))
noncomputable def g57_m0 (v0 : Int) : FState := ⟨tlist [(0, .dat (.int .u8) v0)], olist []⟩
noncomputable def g57_m1 (v2 : Int) : FState := ⟨tlist [(2, .dat (.int .i64) v2)], olist []⟩
noncomputable def g57_m1e : List NE := [.keep 2]
noncomputable def g57_m2 : FState := ⟨tlist [], olist []⟩
noncomputable def g57_m2e : List NE := []
noncomputable def g57_C (n : Nat) : List (Nat × Spec) := []
noncomputable def g57_G (n : Nat) : Ctx := { Γ0 with calls := lkS (g57_C n) }
noncomputable def g57_B : Code := fb Try.f57
noncomputable def g57_1 {β : Type} (n : Nat) (kn : Option β) (kr : Int → Option β) (v0 : Int) : Option β := bif (decide (v0 ≥ (48 : Int))) then (bif (decide (v0 ≤ (57 : Int))) then (kr (w64 ((IntKind.u8.wrap (v0 - (48 : Int)))))) else (bif (decide (v0 ≥ (97 : Int))) then (bif (decide (v0 ≤ (102 : Int))) then (kr (w64 ((w64 ((IntKind.u8.wrap (v0 - (97 : Int))))) + (10 : Int)))) else (bif (decide (v0 ≥ (65 : Int))) then (bif (decide (v0 ≤ (70 : Int))) then (kr (w64 ((w64 ((IntKind.u8.wrap (v0 - (65 : Int))))) + (10 : Int)))) else kn) else kn)) else (bif (decide (v0 ≥ (65 : Int))) then (bif (decide (v0 ≤ (70 : Int))) then (kr (w64 ((w64 ((IntKind.u8.wrap (v0 - (65 : Int))))) + (10 : Int)))) else kn) else kn))) else (bif (decide (v0 ≥ (97 : Int))) then (bif (decide (v0 ≤ (102 : Int))) then (kr (w64 ((w64 ((IntKind.u8.wrap (v0 - (97 : Int))))) + (10 : Int)))) else (bif (decide (v0 ≥ (65 : Int))) then (bif (decide (v0 ≤ (70 : Int))) then (kr (w64 ((w64 ((IntKind.u8.wrap (v0 - (65 : Int))))) + (10 : Int)))) else kn) else kn)) else (bif (decide (v0 ≥ (65 : Int))) then (bif (decide (v0 ≤ (70 : Int))) then (kr (w64 ((w64 ((IntKind.u8.wrap (v0 - (65 : Int))))) + (10 : Int)))) else kn) else kn))
noncomputable def g57_1F {β : Type} (n : Nat) (s : FState) (cx : Cx β) : Option β := FX (g57_G n) n (nav g57_B [0]) (.fin none none (some g57_m1e) [] .leaf) s { cx with nrm := fun s => FX (g57_G n) n (nav g57_B [1, 0]) (.fin none (some g57_m2e) (some g57_m1e) [] .leaf) s cx }
theorem g57_1_fx {β : Type} (n : Nat) (cx : Cx β) (v0 : Int) : g57_1F n (g57_m0 v0) cx = g57_1 n (cx.nrm g57_m2) (fun v2 => cx.ret (g57_m1 v2)) v0 := by kernel_rfl
noncomputable def g57_2 {β : Type} (n : Nat) (kr : Int → Option β) : Option β := kr (16 : Int)
noncomputable def g57_2F {β : Type} (n : Nat) (s : FState) (cx : Cx β) : Option β := FX (g57_G n) n (nav g57_B [1, 1, 0]) (.fin none none (some g57_m1e) [] .leaf) s { cx with nrm := fun s => FX (g57_G n) n (nav g57_B [1, 1, 1]) (.fin none none (some g57_m1e) [] .leaf) s cx }
theorem g57_2_fx {β : Type} (n : Nat) (cx : Cx β) : g57_2F n g57_m2 cx = g57_2 n (fun v2 => cx.ret (g57_m1 v2)) := by kernel_rfl
noncomputable def g57_3 {β : Type} (n : Nat) (kr : Int → Option β) (v0 : Int) : Option β := g57_1 n (g57_2 n kr) kr v0
noncomputable def g57_3F {β : Type} (n : Nat) (s : FState) (cx : Cx β) : Option β := g57_1F n s { cx with nrm := fun s => g57_2F n s cx }
theorem g57_3_fx {β : Type} (n : Nat) (cx : Cx β) (v0 : Int) : g57_3F n (g57_m0 v0) cx = g57_3 n (fun v2 => cx.ret (g57_m1 v2)) v0 := by simp only [g57_3F, g57_3, g57_1_fx, g57_2_fx]
noncomputable def g57 (n : Nat) (v0 : Int) : Option (DenR [.dat (.int .i64)]) := g57_3 n (fun v2 => some (v2, ())) v0
noncomputable def g57_A : List AK := [.dat (.int .u8)]
noncomputable def g57_R : List RK := [.dat (.int .i64)]
noncomputable def g57_f (n : Nat) (d : DenA g57_A) : Option (DenR g57_R) := g57 n d.1
noncomputable def g57_S (n : Nat) : Spec := mkSpec g57_A g57_R (g57_f n)
noncomputable def g57_K : Sk := (.nd (.fin none none (some g57_m1e) [] .leaf) (.nd (.fin none (some g57_m2e) (some g57_m1e) [] .leaf) (.nd (.fin none none (some g57_m1e) [] .leaf) (.fin none none (some g57_m1e) [] .leaf))))
theorem g57_top {β : Type} (n : Nat) (s : FState) (cx : Cx β) : FX (g57_G n) n g57_B g57_K s cx = g57_3F n s cx := by kernel_rfl
theorem g57_fit (n : Nat) : Fit Try.prog 57 (g57_S n) :=
  fit_of (Γ := Γ0) (l := g57_C n) (n := n) (sk := g57_K) (ts := [(2, none)]) (fn := Try.f57) (c := g57_B) (by kernel_rfl) (by kernel_rfl) (by unfold Callable; kernel_rfl) tab_ok trivial follows_mixed (by kernel_rfl) (by kernel_rfl) (Nat.le_of_ble_eq_true (by kernel_rfl)) (by kernel_rfl) (by kernel_rfl)
    (fun d => (g57_top n _ _).trans (Eq.trans (b := g57_3F n (g57_m0 d.1) (finCx (g57_G n) g57_R [(2, none)])) (by kernel_rfl) ((g57_3_fx n _ d.1).trans (by kernel_rfl))))
noncomputable def g56_m0 (v0 : ByteArray) : FState := ⟨tlist [(0, .dat .str v0)], olist []⟩
noncomputable def g56_m1 (v2 : Bool) : FState := ⟨tlist [(2, .dat .bool v2)], olist []⟩
noncomputable def g56_m1e : List NE := [.keep 2]
noncomputable def g56_m2 (x6 : List Int) (v7 : Int) (v8 : Int) : FState := ⟨tlist [(6, .sl 6 none false), (7, .dat (.int .i64) v7), (8, .dat (.int .i64) v8)], olist [(6, .row (.int .u8) 5 true x6)]⟩
noncomputable def g56_m2e : List NE := [.row 6 (.int .u8) 5 true, .keep 7, .keep 8]
noncomputable def g56_m3 : FState := ⟨tlist [], olist []⟩
noncomputable def g56_m3e : List NE := []
noncomputable def g56_C (n : Nat) : List (Nat × Spec) := [(57, g57_S n)]
noncomputable def g56_G (n : Nat) : Ctx := { Γ0 with calls := lkS (g56_C n) }
noncomputable def g56_B : Code := fb Try.f56
noncomputable def g56_1 {β : Type} (n : Nat) (kn : List Int → Int → Int → Option β) (v0 : ByteArray) : Option β := kn (bytesOf v0) ((bytesOf v0).length : Int) (0 : Int)
noncomputable def g56_1F {β : Type} (n : Nat) (s : FState) (cx : Cx β) : Option β := FX (g56_G n) n (nav g56_B [0]) (.fin none none none [] .leaf) s { cx with nrm := fun s => FX (g56_G n) n (nav g56_B [1, 0, 0]) (.fin none (some g56_m2e) none [] .leaf) s cx }
theorem g56_1_fx {β : Type} (n : Nat) (cx : Cx β) (v0 : ByteArray) : g56_1F n (g56_m0 v0) cx = g56_1 n (fun x6 v7 v8 => cx.nrm (g56_m2 x6 v7 v8)) v0 := by kernel_rfl
noncomputable def g56_2 {β : Type} (n : Nat) (kn : List Int → Int → Int → Option β) (kr : Bool → Option β) (kx0 : Option β) (x6 : List Int) (v7 : Int) (v8 : Int) : Option β := bif (decide (v8 < v7)) then (idx v8 (x6.length : Int) <| (g57 n (rd x6 v8 (0 : Int))).bind fun r1 => bif (decide (r1.1 > (15 : Int))) then (kr false) else (bif (decide ((rd x6 v8 (0 : Int)) ≥ (97 : Int))) then (kr false) else (kn x6 v7 (w64 (v8 + (1 : Int)))))) else kx0
noncomputable def g56_2F {β : Type} (n : Nat) (s : FState) (cx : Cx β) : Option β := FX (g56_G n) n (nav g56_B [1, 0, 1, 0, 0, 0]) (.fin none none (some g56_m1e) [(0, g56_m3e)] .leaf) s { cx with nrm := fun s => FX (g56_G n) n (nav g56_B [1, 0, 1, 0, 0, 1, 0]) (.fin none none (some g56_m1e) [(0, g56_m3e)] .leaf) s { cx with nrm := fun s => FX (g56_G n) n (nav g56_B [1, 0, 1, 0, 0, 1, 1, 0]) (.fin none none (some g56_m1e) [(0, g56_m3e)] .leaf) s { cx with nrm := fun s => FX (g56_G n) n (nav g56_B [1, 0, 1, 0, 0, 1, 1, 1]) (.fin none (some g56_m2e) (some g56_m1e) [(0, g56_m3e)] .leaf) s cx } } }
theorem g56_2_fx {β : Type} (n : Nat) (cx : Cx β) (x6 : List Int) (v7 : Int) (v8 : Int) : g56_2F n (g56_m2 x6 v7 v8) cx = g56_2 n (fun x6 v7 v8 => cx.nrm (g56_m2 x6 v7 v8)) (fun v2 => cx.ret (g56_m1 v2)) (cx.ex 0 g56_m3) x6 v7 v8 := by kernel_rfl
noncomputable def g56_3L {β : Type} (n : Nat) (kr : Bool → Option β) (kx0 : Option β) : Nat → List Int → Int → Int → Option β
  | 0, _, _, _ => none
  | m + 1, x6, v7, v8 => g56_2 n (g56_3L n kr kx0 m) kr kx0 x6 v7 v8
noncomputable def g56_3 {β : Type} (n : Nat) (kr : Bool → Option β) (kx0 : Option β) (x6 : List Int) (v7 : Int) (v8 : Int) : Option β := g56_3L n kr kx0 n x6 v7 v8
noncomputable def g56_3F {β : Type} (n : Nat) (s : FState) (cx : Cx β) : Option β := loopN (fun again s => g56_2F n s { cx with nrm := again }) n s
theorem g56_3L_fx {β : Type} (n : Nat) (cx : Cx β) : ∀ (m : Nat) (x6 : List Int) (v7 : Int) (v8 : Int), loopN (fun again s => g56_2F n s { cx with nrm := again }) m (g56_m2 x6 v7 v8) = g56_3L n (fun v2 => cx.ret (g56_m1 v2)) (cx.ex 0 g56_m3) m x6 v7 v8 := by
  intro m
  induction m with
  | zero => intros; rfl
  | succ m ih => intros; simp only [loopN, g56_3L, g56_2_fx, ih]
theorem g56_3_fx {β : Type} (n : Nat) (cx : Cx β) (x6 : List Int) (v7 : Int) (v8 : Int) : g56_3F n (g56_m2 x6 v7 v8) cx = g56_3 n (fun v2 => cx.ret (g56_m1 v2)) (cx.ex 0 g56_m3) x6 v7 v8 := g56_3L_fx n cx n x6 v7 v8
noncomputable def g56_4 {β : Type} (n : Nat) (kn : Option β) (kr : Bool → Option β) (x6 : List Int) (v7 : Int) (v8 : Int) : Option β := g56_3 n kr kn x6 v7 v8
noncomputable def g56_4F {β : Type} (n : Nat) (s : FState) (cx : Cx β) : Option β := g56_3F n s { cx with ex := fun j s => bif Nat.beq j 0 then cx.nrm s else cx.ex j s }
theorem g56_4_fx {β : Type} (n : Nat) (cx : Cx β) (x6 : List Int) (v7 : Int) (v8 : Int) : g56_4F n (g56_m2 x6 v7 v8) cx = g56_4 n (cx.nrm g56_m3) (fun v2 => cx.ret (g56_m1 v2)) x6 v7 v8 := g56_3_fx n _ x6 v7 v8
noncomputable def g56_5 {β : Type} (n : Nat) (kr : Bool → Option β) : Option β := kr true
noncomputable def g56_5F {β : Type} (n : Nat) (s : FState) (cx : Cx β) : Option β := FX (g56_G n) n (nav g56_B [1, 1, 0]) (.fin none none (some g56_m1e) [] .leaf) s { cx with nrm := fun s => FX (g56_G n) n (nav g56_B [1, 1, 1]) (.fin none none (some g56_m1e) [] .leaf) s cx }
theorem g56_5_fx {β : Type} (n : Nat) (cx : Cx β) : g56_5F n g56_m3 cx = g56_5 n (fun v2 => cx.ret (g56_m1 v2)) := by kernel_rfl
noncomputable def g56_6 {β : Type} (n : Nat) (kr : Bool → Option β) (v0 : ByteArray) : Option β := g56_1 n (fun x6 v7 v8 => g56_4 n (g56_5 n kr) kr x6 v7 v8) v0
noncomputable def g56_6F {β : Type} (n : Nat) (s : FState) (cx : Cx β) : Option β := g56_1F n s { cx with nrm := fun s => g56_4F n s { cx with nrm := fun s => g56_5F n s cx } }
theorem g56_6_fx {β : Type} (n : Nat) (cx : Cx β) (v0 : ByteArray) : g56_6F n (g56_m0 v0) cx = g56_6 n (fun v2 => cx.ret (g56_m1 v2)) v0 := by simp only [g56_6F, g56_6, g56_1_fx, g56_4_fx, g56_5_fx]
noncomputable def g56 (n : Nat) (v0 : ByteArray) : Option (DenR [.dat .bool]) := g56_6 n (fun v2 => some (v2, ())) v0
noncomputable def g56_A : List AK := [.dat .str]
noncomputable def g56_R : List RK := [.dat .bool]
noncomputable def g56_f (n : Nat) (d : DenA g56_A) : Option (DenR g56_R) := g56 n d.1
noncomputable def g56_S (n : Nat) : Spec := mkSpec g56_A g56_R (g56_f n)
noncomputable def g56_K : Sk := (.nd (.fin none none none [] .leaf) (.nd (.nd (.fin none (some g56_m2e) none [] .leaf) (.nd (.nd (.nd (.fin none none (some g56_m1e) [(0, g56_m3e)] .leaf) (.nd (.fin none none (some g56_m1e) [(0, g56_m3e)] .leaf) (.nd (.fin none none (some g56_m1e) [(0, g56_m3e)] .leaf) (.fin none (some g56_m2e) (some g56_m1e) [(0, g56_m3e)] .leaf)))) .leaf) .leaf)) (.nd (.fin none none (some g56_m1e) [] .leaf) (.fin none none (some g56_m1e) [] .leaf))))
theorem g56_top {β : Type} (n : Nat) (s : FState) (cx : Cx β) : FX (g56_G n) n g56_B g56_K s cx = g56_6F n s cx := by kernel_rfl
theorem g56_fit (n : Nat) : Fit Try.prog 56 (g56_S n) :=
  fit_of (Γ := Γ0) (l := g56_C n) (n := n) (sk := g56_K) (ts := [(2, none)]) (fn := Try.f56) (c := g56_B) (by kernel_rfl) (by kernel_rfl) (by unfold Callable; kernel_rfl) tab_ok ⟨g57_fit n, trivial⟩ follows_mixed (by kernel_rfl) (by kernel_rfl) (Nat.le_of_ble_eq_true (by kernel_rfl)) (by kernel_rfl) (by kernel_rfl)
    (fun d => (g56_top n _ _).trans (Eq.trans (b := g56_6F n (g56_m0 d.1) (finCx (g56_G n) g56_R [(2, none)])) (by kernel_rfl) ((g56_6_fx n _ d.1).trans (by kernel_rfl))))
noncomputable def g58_m0 (v0 : Int) : FState := ⟨tlist [(0, .dat (.int .u8) v0)], olist []⟩
noncomputable def g58_m1 (v2 : Bool) : FState := ⟨tlist [(2, .dat .bool v2)], olist []⟩
noncomputable def g58_m1e : List NE := [.keep 2]
noncomputable def g58_m2 (v0 : Int) (x6 : List Int) (v7 : Int) (v8 : Int) : FState := ⟨tlist [(0, .dat (.int .u8) v0), (6, .sl 6 none false), (7, .dat (.int .i64) v7), (8, .dat (.int .i64) v8)], olist [(6, .row (.int .u8) 5 true x6)]⟩
noncomputable def g58_m2e : List NE := [.keep 0, .row 6 (.int .u8) 5 true, .keep 7, .keep 8]
noncomputable def g58_m3 : FState := ⟨tlist [], olist []⟩
noncomputable def g58_m3e : List NE := []
noncomputable def g58_C (n : Nat) : List (Nat × Spec) := []
noncomputable def g58_G (n : Nat) : Ctx := { Γ0 with calls := lkS (g58_C n) }
noncomputable def g58_B : Code := fb Try.f58
noncomputable def g58_1 {β : Type} (n : Nat) (kn : Int → List Int → Int → Int → Option β) (v0 : Int) : Option β := idx 0 ([(33 : Int), (126 : Int), (42 : Int), (39 : Int), (40 : Int), (41 : Int), (59 : Int), (47 : Int), (63 : Int), (58 : Int), (64 : Int), (38 : Int), (61 : Int), (43 : Int), (36 : Int), (44 : Int), (35 : Int)].length : Int) <| kn v0 [(33 : Int), (126 : Int), (42 : Int), (39 : Int), (40 : Int), (41 : Int), (59 : Int), (47 : Int), (63 : Int), (58 : Int), (64 : Int), (38 : Int), (61 : Int), (43 : Int), (36 : Int), (44 : Int), (35 : Int)] ([(33 : Int), (126 : Int), (42 : Int), (39 : Int), (40 : Int), (41 : Int), (59 : Int), (47 : Int), (63 : Int), (58 : Int), (64 : Int), (38 : Int), (61 : Int), (43 : Int), (36 : Int), (44 : Int), (35 : Int)].length : Int) (0 : Int)
noncomputable def g58_1F {β : Type} (n : Nat) (s : FState) (cx : Cx β) : Option β := FX (g58_G n) n (nav g58_B [0]) (.fin none none none [] .leaf) s { cx with nrm := fun s => FX (g58_G n) n (nav g58_B [1, 0, 0]) (.fin none (some g58_m2e) none [] .leaf) s cx }
theorem g58_1_fx {β : Type} (n : Nat) (cx : Cx β) (v0 : Int) : g58_1F n (g58_m0 v0) cx = g58_1 n (fun v0 x6 v7 v8 => cx.nrm (g58_m2 v0 x6 v7 v8)) v0 := by kernel_rfl
noncomputable def g58_2 {β : Type} (n : Nat) (kn : Int → List Int → Int → Int → Option β) (kr : Bool → Option β) (kx0 : Option β) (v0 : Int) (x6 : List Int) (v7 : Int) (v8 : Int) : Option β := bif (decide (v8 < v7)) then (idx v8 (x6.length : Int) <| bif (v0 == (rd x6 v8 (0 : Int))) then (kr true) else (kn v0 x6 v7 (w64 (v8 + (1 : Int))))) else kx0
noncomputable def g58_2F {β : Type} (n : Nat) (s : FState) (cx : Cx β) : Option β := FX (g58_G n) n (nav g58_B [1, 0, 1, 0, 0, 0]) (.fin none none (some g58_m1e) [(0, g58_m3e)] .leaf) s { cx with nrm := fun s => FX (g58_G n) n (nav g58_B [1, 0, 1, 0, 0, 1, 0]) (.fin none none (some g58_m1e) [(0, g58_m3e)] .leaf) s { cx with nrm := fun s => FX (g58_G n) n (nav g58_B [1, 0, 1, 0, 0, 1, 1, 0]) (.fin none none (some g58_m1e) [(0, g58_m3e)] .leaf) s { cx with nrm := fun s => FX (g58_G n) n (nav g58_B [1, 0, 1, 0, 0, 1, 1, 1]) (.fin none (some g58_m2e) (some g58_m1e) [(0, g58_m3e)] .leaf) s cx } } }
theorem g58_2_fx {β : Type} (n : Nat) (cx : Cx β) (v0 : Int) (x6 : List Int) (v7 : Int) (v8 : Int) : g58_2F n (g58_m2 v0 x6 v7 v8) cx = g58_2 n (fun v0 x6 v7 v8 => cx.nrm (g58_m2 v0 x6 v7 v8)) (fun v2 => cx.ret (g58_m1 v2)) (cx.ex 0 g58_m3) v0 x6 v7 v8 := by kernel_rfl
noncomputable def g58_3L {β : Type} (n : Nat) (kr : Bool → Option β) (kx0 : Option β) : Nat → Int → List Int → Int → Int → Option β
  | 0, _, _, _, _ => none
  | m + 1, v0, x6, v7, v8 => g58_2 n (g58_3L n kr kx0 m) kr kx0 v0 x6 v7 v8
noncomputable def g58_3 {β : Type} (n : Nat) (kr : Bool → Option β) (kx0 : Option β) (v0 : Int) (x6 : List Int) (v7 : Int) (v8 : Int) : Option β := g58_3L n kr kx0 n v0 x6 v7 v8
noncomputable def g58_3F {β : Type} (n : Nat) (s : FState) (cx : Cx β) : Option β := loopN (fun again s => g58_2F n s { cx with nrm := again }) n s
theorem g58_3L_fx {β : Type} (n : Nat) (cx : Cx β) : ∀ (m : Nat) (v0 : Int) (x6 : List Int) (v7 : Int) (v8 : Int), loopN (fun again s => g58_2F n s { cx with nrm := again }) m (g58_m2 v0 x6 v7 v8) = g58_3L n (fun v2 => cx.ret (g58_m1 v2)) (cx.ex 0 g58_m3) m v0 x6 v7 v8 := by
  intro m
  induction m with
  | zero => intros; rfl
  | succ m ih => intros; simp only [loopN, g58_3L, g58_2_fx, ih]
theorem g58_3_fx {β : Type} (n : Nat) (cx : Cx β) (v0 : Int) (x6 : List Int) (v7 : Int) (v8 : Int) : g58_3F n (g58_m2 v0 x6 v7 v8) cx = g58_3 n (fun v2 => cx.ret (g58_m1 v2)) (cx.ex 0 g58_m3) v0 x6 v7 v8 := g58_3L_fx n cx n v0 x6 v7 v8
noncomputable def g58_4 {β : Type} (n : Nat) (kn : Option β) (kr : Bool → Option β) (v0 : Int) (x6 : List Int) (v7 : Int) (v8 : Int) : Option β := g58_3 n kr kn v0 x6 v7 v8
noncomputable def g58_4F {β : Type} (n : Nat) (s : FState) (cx : Cx β) : Option β := g58_3F n s { cx with ex := fun j s => bif Nat.beq j 0 then cx.nrm s else cx.ex j s }
theorem g58_4_fx {β : Type} (n : Nat) (cx : Cx β) (v0 : Int) (x6 : List Int) (v7 : Int) (v8 : Int) : g58_4F n (g58_m2 v0 x6 v7 v8) cx = g58_4 n (cx.nrm g58_m3) (fun v2 => cx.ret (g58_m1 v2)) v0 x6 v7 v8 := g58_3_fx n _ v0 x6 v7 v8
noncomputable def g58_5 {β : Type} (n : Nat) (kr : Bool → Option β) : Option β := kr false
noncomputable def g58_5F {β : Type} (n : Nat) (s : FState) (cx : Cx β) : Option β := FX (g58_G n) n (nav g58_B [1, 1, 0]) (.fin none none (some g58_m1e) [] .leaf) s { cx with nrm := fun s => FX (g58_G n) n (nav g58_B [1, 1, 1]) (.fin none none (some g58_m1e) [] .leaf) s cx }
theorem g58_5_fx {β : Type} (n : Nat) (cx : Cx β) : g58_5F n g58_m3 cx = g58_5 n (fun v2 => cx.ret (g58_m1 v2)) := by kernel_rfl
noncomputable def g58_6 {β : Type} (n : Nat) (kr : Bool → Option β) (v0 : Int) : Option β := g58_1 n (fun v0 x6 v7 v8 => g58_4 n (g58_5 n kr) kr v0 x6 v7 v8) v0
noncomputable def g58_6F {β : Type} (n : Nat) (s : FState) (cx : Cx β) : Option β := g58_1F n s { cx with nrm := fun s => g58_4F n s { cx with nrm := fun s => g58_5F n s cx } }
theorem g58_6_fx {β : Type} (n : Nat) (cx : Cx β) (v0 : Int) : g58_6F n (g58_m0 v0) cx = g58_6 n (fun v2 => cx.ret (g58_m1 v2)) v0 := by simp only [g58_6F, g58_6, g58_1_fx, g58_4_fx, g58_5_fx]
noncomputable def g58 (n : Nat) (v0 : Int) : Option (DenR [.dat .bool]) := g58_6 n (fun v2 => some (v2, ())) v0
noncomputable def g58_A : List AK := [.dat (.int .u8)]
noncomputable def g58_R : List RK := [.dat .bool]
noncomputable def g58_f (n : Nat) (d : DenA g58_A) : Option (DenR g58_R) := g58 n d.1
noncomputable def g58_S (n : Nat) : Spec := mkSpec g58_A g58_R (g58_f n)
noncomputable def g58_K : Sk := (.nd (.fin none none none [] .leaf) (.nd (.nd (.fin none (some g58_m2e) none [] .leaf) (.nd (.nd (.nd (.fin none none (some g58_m1e) [(0, g58_m3e)] .leaf) (.nd (.fin none none (some g58_m1e) [(0, g58_m3e)] .leaf) (.nd (.fin none none (some g58_m1e) [(0, g58_m3e)] .leaf) (.fin none (some g58_m2e) (some g58_m1e) [(0, g58_m3e)] .leaf)))) .leaf) .leaf)) (.nd (.fin none none (some g58_m1e) [] .leaf) (.fin none none (some g58_m1e) [] .leaf))))
theorem g58_top {β : Type} (n : Nat) (s : FState) (cx : Cx β) : FX (g58_G n) n g58_B g58_K s cx = g58_6F n s cx := by kernel_rfl
theorem g58_fit (n : Nat) : Fit Try.prog 58 (g58_S n) :=
  fit_of (Γ := Γ0) (l := g58_C n) (n := n) (sk := g58_K) (ts := [(2, none)]) (fn := Try.f58) (c := g58_B) (by kernel_rfl) (by kernel_rfl) (by unfold Callable; kernel_rfl) tab_ok trivial follows_mixed (by kernel_rfl) (by kernel_rfl) (Nat.le_of_ble_eq_true (by kernel_rfl)) (by kernel_rfl) (by kernel_rfl)
    (fun d => (g58_top n _ _).trans (Eq.trans (b := g58_6F n (g58_m0 d.1) (finCx (g58_G n) g58_R [(2, none)])) (by kernel_rfl) ((g58_6_fx n _ d.1).trans (by kernel_rfl))))
noncomputable def g33_m0 (v0 : ByteArray) : FState := ⟨tlist [(0, .dat .str v0)], olist []⟩
noncomputable def g33_m1 (v2 : ByteArray) : FState := ⟨tlist [(2, .dat .str v2)], olist []⟩
noncomputable def g33_m1e : List NE := [.keep 2]
noncomputable def g33_m2 (v0 : ByteArray) (x3 : List Int) (v4 : Int) : FState := ⟨tlist [(0, .dat .str v0), (3, .sl 3 none false), (4, .dat (.int .i64) v4)], olist [(3, .row (.int .u8) 5 true x3)]⟩
noncomputable def g33_m2e : List NE := [.keep 0, .row 3 (.int .u8) 5 true, .keep 4]
noncomputable def g33_m3 (x3 : List Int) : FState := ⟨tlist [(3, .sl 3 none false)], olist [(3, .row (.int .u8) 5 true x3)]⟩
noncomputable def g33_m3e : List NE := [.row 3 (.int .u8) 5 true]
noncomputable def g33_m4 (v0 : ByteArray) (x3 : List Int) (v4 : Int) : FState := ⟨tlist [(0, .dat .str v0), (3, .sl 3 none false), (4, .dat (.int .i64) v4)], olist [(3, .row (.int .u8) 5 true x3)]⟩
noncomputable def g33_m4e : List NE := [.keep 0, .row 3 (.int .u8) 5 true, .keep 4]
noncomputable def g33_C (n : Nat) : List (Nat × Spec) := [(56, g56_S n), (57, g57_S n), (58, g58_S n)]
noncomputable def g33_G (n : Nat) : Ctx := { Γ0 with calls := lkS (g33_C n) }
noncomputable def g33_B : Code := fb Try.f33
noncomputable def g33_1 {β : Type} (n : Nat) (kn : ByteArray → List Int → Int → Option β) (v0 : ByteArray) : Option β := kn v0 [] (0 : Int)
noncomputable def g33_1F {β : Type} (n : Nat) (s : FState) (cx : Cx β) : Option β := FX (g33_G n) n (nav g33_B [0]) (.fin none none none [] .leaf) s { cx with nrm := fun s => FX (g33_G n) n (nav g33_B [1, 0]) (.fin none none none [] .leaf) s { cx with nrm := fun s => FX (g33_G n) n (nav g33_B [1, 1, 0, 0]) (.fin none (some g33_m2e) none [] .leaf) s cx } }
theorem g33_1_fx {β : Type} (n : Nat) (cx : Cx β) (v0 : ByteArray) : g33_1F n (g33_m0 v0) cx = g33_1 n (fun v0 x3 v4 => cx.nrm (g33_m2 v0 x3 v4)) v0 := by kernel_rfl
noncomputable def g33_2 {β : Type} (n : Nat) (kn : ByteArray → List Int → Int → Option β) (kx0 : List Int → Option β) (v0 : ByteArray) (x3 : List Int) (v4 : Int) : Option β := bif (decide (v4 < (v0.size : Int))) then (idx v4 (v0.size : Int) <| bif ((byteAt v0 v4) == (37 : Int)) then (bif (decide ((w64 (v4 + (2 : Int))) < (v0.size : Int))) then (bnd (w64 (v4 + (1 : Int))) (w64 (v4 + (3 : Int))) (v0.size : Int) <| (g56 n (cutS v0 (w64 (v4 + (1 : Int))) (w64 (v4 + (3 : Int))))).bind fun r1 => bif r1.1 then (idx (w64 (v4 + (1 : Int))) (v0.size : Int) <| (g57 n (byteAt v0 (w64 (v4 + (1 : Int))))).bind fun r2 => idx (w64 (v4 + (2 : Int))) (v0.size : Int) <| (g57 n (byteAt v0 (w64 (v4 + (2 : Int))))).bind fun r3 => (g58 n (IntKind.u8.wrap ((orI .i64 (shlI .i64 r2.1 (4 : Int)) r3.1)))).bind fun r4 => bif r4.1 then (roomy (x3.length + [(IntKind.u8.wrap ((orI .i64 (shlI .i64 r2.1 (4 : Int)) r3.1)))].length) <| kn v0 (x3 ++ [(IntKind.u8.wrap ((orI .i64 (shlI .i64 r2.1 (4 : Int)) r3.1)))]) (w64 (v4 + (2 : Int)))) else (idx v4 (v0.size : Int) <| roomy (x3.length + [(byteAt v0 v4)].length) <| kn v0 (x3 ++ [(byteAt v0 v4)]) v4)) else (idx v4 (v0.size : Int) <| roomy (x3.length + [(byteAt v0 v4)].length) <| kn v0 (x3 ++ [(byteAt v0 v4)]) v4)) else (idx v4 (v0.size : Int) <| roomy (x3.length + [(byteAt v0 v4)].length) <| kn v0 (x3 ++ [(byteAt v0 v4)]) v4)) else (idx v4 (v0.size : Int) <| roomy (x3.length + [(byteAt v0 v4)].length) <| kn v0 (x3 ++ [(byteAt v0 v4)]) v4)) else (kx0 x3)
noncomputable def g33_2F {β : Type} (n : Nat) (s : FState) (cx : Cx β) : Option β := FX (g33_G n) n (nav g33_B [1, 1, 0, 1, 0, 0, 0, 0]) (.fin none none none [(0, g33_m3e)] .leaf) s { cx with nrm := fun s => FX (g33_G n) n (nav g33_B [1, 1, 0, 1, 0, 0, 0, 1]) (.fin none none none [(0, g33_m3e)] .leaf) s { cx with nrm := fun s => FX (g33_G n) n (nav g33_B [1, 1, 0, 1, 0, 0, 1, 0]) (.fin none (some g33_m4e) none [(0, g33_m3e)] .leaf) s cx } }
theorem g33_2_fx {β : Type} (n : Nat) (cx : Cx β) (v0 : ByteArray) (x3 : List Int) (v4 : Int) : g33_2F n (g33_m2 v0 x3 v4) cx = g33_2 n (fun v0 x3 v4 => cx.nrm (g33_m4 v0 x3 v4)) (fun x3 => cx.ex 0 (g33_m3 x3)) v0 x3 v4 := by kernel_rfl
noncomputable def g33_3 {β : Type} (n : Nat) (kn : ByteArray → List Int → Int → Option β) (v0 : ByteArray) (x3 : List Int) (v4 : Int) : Option β := kn v0 x3 (w64 (v4 + (1 : Int)))
noncomputable def g33_3F {β : Type} (n : Nat) (s : FState) (cx : Cx β) : Option β := FX (g33_G n) n (nav g33_B [1, 1, 0, 1, 0, 0, 1, 1]) (.fin none (some g33_m2e) none [] .leaf) s cx
theorem g33_3_fx {β : Type} (n : Nat) (cx : Cx β) (v0 : ByteArray) (x3 : List Int) (v4 : Int) : g33_3F n (g33_m4 v0 x3 v4) cx = g33_3 n (fun v0 x3 v4 => cx.nrm (g33_m2 v0 x3 v4)) v0 x3 v4 := by kernel_rfl
noncomputable def g33_4 {β : Type} (n : Nat) (kn : ByteArray → List Int → Int → Option β) (kx0 : List Int → Option β) (v0 : ByteArray) (x3 : List Int) (v4 : Int) : Option β := g33_2 n (fun v0 x3 v4 => g33_3 n kn v0 x3 v4) kx0 v0 x3 v4
noncomputable def g33_4F {β : Type} (n : Nat) (s : FState) (cx : Cx β) : Option β := g33_2F n s { cx with nrm := fun s => g33_3F n s cx }
theorem g33_4_fx {β : Type} (n : Nat) (cx : Cx β) (v0 : ByteArray) (x3 : List Int) (v4 : Int) : g33_4F n (g33_m2 v0 x3 v4) cx = g33_4 n (fun v0 x3 v4 => cx.nrm (g33_m2 v0 x3 v4)) (fun x3 => cx.ex 0 (g33_m3 x3)) v0 x3 v4 := by simp only [g33_4F, g33_4, g33_2_fx, g33_3_fx]
noncomputable def g33_5L {β : Type} (n : Nat) (kx0 : List Int → Option β) : Nat → ByteArray → List Int → Int → Option β
  | 0, _, _, _ => none
  | m + 1, v0, x3, v4 => g33_4 n (g33_5L n kx0 m) kx0 v0 x3 v4
noncomputable def g33_5 {β : Type} (n : Nat) (kx0 : List Int → Option β) (v0 : ByteArray) (x3 : List Int) (v4 : Int) : Option β := g33_5L n kx0 n v0 x3 v4
noncomputable def g33_5F {β : Type} (n : Nat) (s : FState) (cx : Cx β) : Option β := loopN (fun again s => g33_4F n s { cx with nrm := again }) n s
theorem g33_5L_fx {β : Type} (n : Nat) (cx : Cx β) : ∀ (m : Nat) (v0 : ByteArray) (x3 : List Int) (v4 : Int), loopN (fun again s => g33_4F n s { cx with nrm := again }) m (g33_m2 v0 x3 v4) = g33_5L n (fun x3 => cx.ex 0 (g33_m3 x3)) m v0 x3 v4 := by
  intro m
  induction m with
  | zero => intros; rfl
  | succ m ih => intros; simp only [loopN, g33_5L, g33_4_fx, ih]
theorem g33_5_fx {β : Type} (n : Nat) (cx : Cx β) (v0 : ByteArray) (x3 : List Int) (v4 : Int) : g33_5F n (g33_m2 v0 x3 v4) cx = g33_5 n (fun x3 => cx.ex 0 (g33_m3 x3)) v0 x3 v4 := g33_5L_fx n cx n v0 x3 v4
noncomputable def g33_6 {β : Type} (n : Nat) (kn : List Int → Option β) (v0 : ByteArray) (x3 : List Int) (v4 : Int) : Option β := g33_5 n kn v0 x3 v4
noncomputable def g33_6F {β : Type} (n : Nat) (s : FState) (cx : Cx β) : Option β := g33_5F n s { cx with ex := fun j s => bif Nat.beq j 0 then cx.nrm s else cx.ex j s }
theorem g33_6_fx {β : Type} (n : Nat) (cx : Cx β) (v0 : ByteArray) (x3 : List Int) (v4 : Int) : g33_6F n (g33_m2 v0 x3 v4) cx = g33_6 n (fun x3 => cx.nrm (g33_m3 x3)) v0 x3 v4 := g33_5_fx n _ v0 x3 v4
noncomputable def g33_7 {β : Type} (n : Nat) (kr : ByteArray → Option β) (x3 : List Int) : Option β := kr (strOfNums x3)
noncomputable def g33_7F {β : Type} (n : Nat) (s : FState) (cx : Cx β) : Option β := FX (g33_G n) n (nav g33_B [1, 1, 1, 0]) (.fin none none (some g33_m1e) [] .leaf) s { cx with nrm := fun s => FX (g33_G n) n (nav g33_B [1, 1, 1, 1]) (.fin none none (some g33_m1e) [] .leaf) s cx }
theorem g33_7_fx {β : Type} (n : Nat) (cx : Cx β) (x3 : List Int) : g33_7F n (g33_m3 x3) cx = g33_7 n (fun v2 => cx.ret (g33_m1 v2)) x3 := by kernel_rfl
noncomputable def g33_8 {β : Type} (n : Nat) (kr : ByteArray → Option β) (v0 : ByteArray) : Option β := g33_1 n (fun v0 x3 v4 => g33_6 n (fun x3 => g33_7 n kr x3) v0 x3 v4) v0
noncomputable def g33_8F {β : Type} (n : Nat) (s : FState) (cx : Cx β) : Option β := g33_1F n s { cx with nrm := fun s => g33_6F n s { cx with nrm := fun s => g33_7F n s cx } }
theorem g33_8_fx {β : Type} (n : Nat) (cx : Cx β) (v0 : ByteArray) : g33_8F n (g33_m0 v0) cx = g33_8 n (fun v2 => cx.ret (g33_m1 v2)) v0 := by simp only [g33_8F, g33_8, g33_1_fx, g33_6_fx, g33_7_fx]
noncomputable def g33 (n : Nat) (v0 : ByteArray) : Option (DenR [.dat .str]) := g33_8 n (fun v2 => some (v2, ())) v0
noncomputable def g33_A : List AK := [.dat .str]
noncomputable def g33_R : List RK := [.dat .str]
noncomputable def g33_f (n : Nat) (d : DenA g33_A) : Option (DenR g33_R) := g33 n d.1
noncomputable def g33_S (n : Nat) : Spec := mkSpec g33_A g33_R (g33_f n)
noncomputable def g33_K : Sk := (.nd (.fin none none none [] .leaf) (.nd (.fin none none none [] .leaf) (.nd (.nd (.fin none (some g33_m2e) none [] .leaf) (.nd (.nd (.nd (.nd (.fin none none none [(0, g33_m3e)] .leaf) (.fin none none none [(0, g33_m3e)] .leaf)) (.nd (.fin none (some g33_m4e) none [(0, g33_m3e)] .leaf) (.fin none (some g33_m2e) none [] .leaf))) .leaf) .leaf)) (.nd (.fin none none (some g33_m1e) [] .leaf) (.fin none none (some g33_m1e) [] .leaf)))))
theorem g33_top {β : Type} (n : Nat) (s : FState) (cx : Cx β) : FX (g33_G n) n g33_B g33_K s cx = g33_8F n s cx := by kernel_rfl
theorem g33_fit (n : Nat) : Fit Try.prog 33 (g33_S n) :=
  fit_of (Γ := Γ0) (l := g33_C n) (n := n) (sk := g33_K) (ts := [(2, none)]) (fn := Try.f33) (c := g33_B) (by kernel_rfl) (by kernel_rfl) (by unfold Callable; kernel_rfl) tab_ok ⟨g56_fit n, g57_fit n, g58_fit n, trivial⟩ follows_mixed (by kernel_rfl) (by kernel_rfl) (Nat.le_of_ble_eq_true (by kernel_rfl)) (by kernel_rfl) (by kernel_rfl)
    (fun d => (g33_top n _ _).trans (Eq.trans (b := g33_8F n (g33_m0 d.1) (finCx (g33_G n) g33_R [(2, none)])) (by kernel_rfl) ((g33_8_fx n _ d.1).trans (by kernel_rfl))))
noncomputable def g11_m0 (v0 : ByteArray) : FState := ⟨tlist [(0, .dat .str v0)], olist []⟩
noncomputable def g11_m1 (v2 : Bool) : FState := ⟨tlist [(2, .dat .bool v2)], olist []⟩
noncomputable def g11_m1e : List NE := [.keep 2]
noncomputable def g11_C (n : Nat) : List (Nat × Spec) := [(32, g32_S n), (33, g33_S n)]
noncomputable def g11_G (n : Nat) : Ctx := { Γ0 with calls := lkS (g11_C n) }
noncomputable def g11_B : Code := fb Try.f11
noncomputable def g11_1 {β : Type} (n : Nat) (kr : Bool → Option β) (v0 : ByteArray) : Option β := bif (decide ((v0.size : Int) > (2147483647 : Int))) then (kr true) else (bif (decide ((v0.size : Int) > (1000 : Int))) then (kr true) else ((g32 n v0).bind fun r1 => (g33 n v0).bind fun r2 => kr (strEq r1.1 r2.1)))
noncomputable def g11_1F {β : Type} (n : Nat) (s : FState) (cx : Cx β) : Option β := FX (g11_G n) n (nav g11_B [0]) (.fin none none (some g11_m1e) [] .leaf) s { cx with nrm := fun s => FX (g11_G n) n (nav g11_B [1, 0, 0]) (.fin none none (some g11_m1e) [] .leaf) s { cx with nrm := fun s => FX (g11_G n) n (nav g11_B [1, 0, 1]) (.fin none none (some g11_m1e) [] .leaf) s { cx with nrm := fun s => FX (g11_G n) n (nav g11_B [1, 1, 0]) (.fin none none (some g11_m1e) [] .leaf) s { cx with nrm := fun s => FX (g11_G n) n (nav g11_B [1, 1, 1]) (.fin none none (some g11_m1e) [] .leaf) s cx } } } }
theorem g11_1_fx {β : Type} (n : Nat) (cx : Cx β) (v0 : ByteArray) : g11_1F n (g11_m0 v0) cx = g11_1 n (fun v2 => cx.ret (g11_m1 v2)) v0 := by kernel_rfl
noncomputable def g11 (n : Nat) (v0 : ByteArray) : Option (DenR [.dat .bool]) := g11_1 n (fun v2 => some (v2, ())) v0
noncomputable def g11_A : List AK := [.dat .str]
noncomputable def g11_R : List RK := [.dat .bool]
noncomputable def g11_f (n : Nat) (d : DenA g11_A) : Option (DenR g11_R) := g11 n d.1
noncomputable def g11_S (n : Nat) : Spec := mkSpec g11_A g11_R (g11_f n)
noncomputable def g11_K : Sk := (.nd (.fin none none (some g11_m1e) [] .leaf) (.nd (.nd (.fin none none (some g11_m1e) [] .leaf) (.fin none none (some g11_m1e) [] .leaf)) (.nd (.fin none none (some g11_m1e) [] .leaf) (.fin none none (some g11_m1e) [] .leaf))))
theorem g11_top {β : Type} (n : Nat) (s : FState) (cx : Cx β) : FX (g11_G n) n g11_B g11_K s cx = g11_1F n s cx := by kernel_rfl
theorem g11_fit (n : Nat) : Fit Try.prog 11 (g11_S n) :=
  fit_of (Γ := Γ0) (l := g11_C n) (n := n) (sk := g11_K) (ts := [(2, none)]) (fn := Try.f11) (c := g11_B) (by kernel_rfl) (by kernel_rfl) (by unfold Callable; kernel_rfl) tab_ok ⟨g32_fit n, g33_fit n, trivial⟩ follows_mixed (by kernel_rfl) (by kernel_rfl) (Nat.le_of_ble_eq_true (by kernel_rfl)) (by kernel_rfl) (by kernel_rfl)
    (fun d => (g11_top n _ _).trans (Eq.trans (b := g11_1F n (g11_m0 d.1) (finCx (g11_G n) g11_R [(2, none)])) (by kernel_rfl) ((g11_1_fx n _ d.1).trans (by kernel_rfl))))
end Go.Proofs.YtomidomdomjkfaaF
