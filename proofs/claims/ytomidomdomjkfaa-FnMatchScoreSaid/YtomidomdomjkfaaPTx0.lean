-- Written by this session's own program (wip/tools) out of the translation.
import Derived.Test.YtomidomdomjkfaaProg
import Derived.Below
import Derived.Deep.Draws
import Derived.Deep.AppendLies
import Derived.Maps.AppendAt
import Derived.OwnWalk
import Derived.Laws.BytesArg
import Derived.Laws.MakeOwn
import Derived.Laws.OwnMore
import Derived.Deep.OwnRows
import Derived.Tactics
import Derived.Lib.ConvBytes
import Derived.Laws.Slices
import Derived.WalkKit
import Derived.KernelRfl
import Derived.RowKit3
import Derived.Deep.LoopGhost
import Derived.Deep.QuietTactic
import Derived.BigQuiet
import Derived.WideLaws
import Derived.Deep.DeepCutAuto
import Derived.Deep.CutBlock
import Derived.Deep.RegionHeld3
import Derived.Laws.Rows
import Derived.Lib.AppendStr
import Derived.ArgAppend
import Derived.Laws.IdiomCopy
import Derived.OrdersHeld
import Derived.Laws.BitsLemmas
import Derived.RowKit
import Derived.Test.YtomidomdomjkfaaWWords
import Derived.Test.YtomidomdomjkfaaWLast
import Derived.Test.YtomidomdomjkfaaWTab
import Derived.Test.YtomidomdomjkfaaWFour
import Derived.Test.YtomidomdomjkfaaWQPut
import Derived.Test.YtomidomdomjkfaaWApart
import Derived.Test.YtomidomdomjkfaaWArr
import Derived.Test.YtomidomdomjkfaaWZeros
import Derived.Test.YtomidomdomjkfaaWFoot
import Derived.Test.YtomidomdomjkfaaWKept
import Derived.Test.YtomidomdomjkfaaWShare
import Derived.Test.YtomidomdomjkfaaWN
import Derived.Test.YtomidomdomjkfaaWFootNe
import Derived.Test.YtomidomdomjkfaaWAt
import Derived.Test.YtomidomdomjkfaaWEqStruct
import Derived.Test.YtomidomdomjkfaaWRepsOne
import Derived.Test.YtomidomdomjkfaaWInv
import Derived.Test.YtomidomdomjkfaaWInvWords
import Derived.Test.YtomidomdomjkfaaWGuard
import Derived.Test.YtomidomdomjkfaaWNEv
import Derived.Test.YtomidomdomjkfaaWMore
import Derived.Test.YtomidomdomjkfaaWSized
import Derived.Test.YtomidomdomjkfaaXBase
import Derived.Test.YtomidomdomjkfaaXConv
import Derived.Test.YtomidomdomjkfaaXCopy
import Derived.Test.YtomidomdomjkfaaXDefer
import Derived.Test.YtomidomdomjkfaaXFloat
import Derived.Test.YtomidomdomjkfaaXOpen
import Derived.Test.YtomidomdomjkfaaXRows
namespace Go.Proofs.Ytomidomdomjkfaa.PT
open Go.RowKit Go.Proofs.YtomidomdomjkfaaW.PrintWords Go.Proofs.YtomidomdomjkfaaW.PrintLast Go.Proofs.YtomidomdomjkfaaW.PrintMore
attribute [local go_sem] max2_int min2_int max_two min_two max_three min_three max_four min_four   -- for this text's walks alone
set_option linter.unusedVariables false
set_option linter.unusedSimpArgs false



def errW : Option Int → Value
  | none => .nilIface
  | some c => .iface 0 (.int .i64 c)
theorem errW_none : errW none = .nilIface := rfl
theorem errW_some (c : Int) : errW (some c) = .iface 0 (.int .i64 c) := rfl

theorem info5 : (Try.prog.info? 5).map (fun i => (i.zero, i.size, i.bytes)) = some (some (.int .u8 0), 1, 1) := by kernel_rfl
theorem info21 : (Try.prog.info? 21).map (fun i => (i.zero, i.size, i.bytes)) = some (some (.int .i32 0), 1, 4) := by kernel_rfl
theorem info39 : (Try.prog.info? 39).map (fun i => (i.zero, i.size, i.bytes)) = some (some (.int .u32 0), 1, 4) := by kernel_rfl
theorem info57 : (Try.prog.info? 57).map (fun i => (i.zero, i.size, i.bytes)) = some (some (.agg #[(.int .i64 0), (.string ⟨#[]⟩)]), 2, 24) := by kernel_rfl
theorem info84 : (Try.prog.info? 84).map (fun i => (i.zero, i.size, i.bytes)) = some (some (.int .u32 0), 1, 4) := by kernel_rfl
theorem info91 : (Try.prog.info? 91).map (fun i => (i.zero, i.size, i.bytes)) = some (some (.agg #[(.int .i8 0), (.string ⟨#[]⟩)]), 2, 24) := by kernel_rfl
-- the values' own types
/-! #### struct type 45 -/
structure S45 where
  f0 : Bool
  f1 : Int
  f2 : Int
  f3 : Nat
  f4 : Nat
  f5 : Int
  f6 : Int
def z45 : S45 := ⟨false, (0 : Int), (0 : Int), (0 : Nat), (0 : Nat), (0 : Int), (0 : Int)⟩
def k45 : Kd S45 := Kd.iso (Kd.pair Kd.bool (Kd.pair (Kd.int .i64) (Kd.pair (Kd.int .i64) (Kd.pair Kd.flt (Kd.pair Kd.flt (Kd.pair (Kd.int .i64) (Kd.int .i64))))))) (fun x : S45 => (x.f0, x.f1, x.f2, x.f3, x.f4, x.f5, x.f6))
theorem k45_open {w : World} {x : S45} {cs : List Value} (h : k45.K w x cs) : cs = [.bool x.f0, .int .i64 x.f1, .int .i64 x.f2, .float .f64 x.f3, .float .f64 x.f4, .int .i64 x.f5, .int .i64 x.f6] := by
  obtain ⟨_, _, rfl, rfl, ⟨_, _, rfl, rfl, ⟨_, _, rfl, rfl, ⟨_, _, rfl, rfl, ⟨_, _, rfl, rfl, ⟨_, _, rfl, rfl, rfl⟩⟩⟩⟩⟩⟩ := h
  exact rfl
theorem k45_openM {w : World} {base : Nat} {ok : Nat → Prop} {x : S45} {cs : List Value} (h : k45.M w base ok x cs) : cs = [.bool x.f0, .int .i64 x.f1, .int .i64 x.f2, .float .f64 x.f3, .float .f64 x.f4, .int .i64 x.f5, .int .i64 x.f6] := by
  obtain ⟨_, _, rfl, rfl, ⟨_, _, rfl, rfl, ⟨_, _, rfl, rfl, ⟨_, _, rfl, rfl, ⟨_, _, rfl, rfl, ⟨_, _, rfl, rfl, rfl⟩⟩⟩⟩⟩⟩ := h
  exact rfl
theorem k45_mk (w : World) (x : S45)  : k45.K w x [.bool x.f0, .int .i64 x.f1, .int .i64 x.f2, .float .f64 x.f3, .float .f64 x.f4, .int .i64 x.f5, .int .i64 x.f6] := ⟨[.bool x.f0], [.int .i64 x.f1, .int .i64 x.f2, .float .f64 x.f3, .float .f64 x.f4, .int .i64 x.f5, .int .i64 x.f6], rfl, rfl, ⟨[.int .i64 x.f1], [.int .i64 x.f2, .float .f64 x.f3, .float .f64 x.f4, .int .i64 x.f5, .int .i64 x.f6], rfl, rfl, ⟨[.int .i64 x.f2], [.float .f64 x.f3, .float .f64 x.f4, .int .i64 x.f5, .int .i64 x.f6], rfl, rfl, ⟨[.float .f64 x.f3], [.float .f64 x.f4, .int .i64 x.f5, .int .i64 x.f6], rfl, rfl, ⟨[.float .f64 x.f4], [.int .i64 x.f5, .int .i64 x.f6], rfl, rfl, ⟨[.int .i64 x.f5], [.int .i64 x.f6], rfl, rfl, rfl⟩⟩⟩⟩⟩⟩
theorem k45_mkM (w : World) (base : Nat) (ok : Nat → Prop) (x : S45)  : k45.M w base ok x [.bool x.f0, .int .i64 x.f1, .int .i64 x.f2, .float .f64 x.f3, .float .f64 x.f4, .int .i64 x.f5, .int .i64 x.f6] := ⟨[.bool x.f0], [.int .i64 x.f1, .int .i64 x.f2, .float .f64 x.f3, .float .f64 x.f4, .int .i64 x.f5, .int .i64 x.f6], rfl, rfl, ⟨[.int .i64 x.f1], [.int .i64 x.f2, .float .f64 x.f3, .float .f64 x.f4, .int .i64 x.f5, .int .i64 x.f6], rfl, rfl, ⟨[.int .i64 x.f2], [.float .f64 x.f3, .float .f64 x.f4, .int .i64 x.f5, .int .i64 x.f6], rfl, rfl, ⟨[.float .f64 x.f3], [.float .f64 x.f4, .int .i64 x.f5, .int .i64 x.f6], rfl, rfl, ⟨[.float .f64 x.f4], [.int .i64 x.f5, .int .i64 x.f6], rfl, rfl, ⟨[.int .i64 x.f5], [.int .i64 x.f6], rfl, rfl, rfl⟩⟩⟩⟩⟩⟩
def rd_T45 (xs : List S45) (i : Int) : S45 := xs.getD i.toNat z45
theorem at_T45 {w : World} {A : Option Addr} {n : Nat} {xs : List S45} (h : Kd.C k45 w A n xs) (i : Int) (h0 : 0 ≤ i) (h1 : i < n) : ∃ ad , A = some ad ∧ w.cell? (ad.add (i.toNat * 7)) = some (.bool (rd_T45 xs i).f0) ∧ w.cell? ⟨(ad.add (i.toNat * 7)).block, (ad.add (i.toNat * 7)).off + 1, none⟩ = some (.int .i64 (rd_T45 xs i).f1) ∧ w.cell? ⟨(ad.add (i.toNat * 7)).block, (ad.add (i.toNat * 7)).off + 2, none⟩ = some (.int .i64 (rd_T45 xs i).f2) ∧ w.cell? ⟨(ad.add (i.toNat * 7)).block, (ad.add (i.toNat * 7)).off + 3, none⟩ = some (.float .f64 (rd_T45 xs i).f3) ∧ w.cell? ⟨(ad.add (i.toNat * 7)).block, (ad.add (i.toNat * 7)).off + 4, none⟩ = some (.float .f64 (rd_T45 xs i).f4) ∧ w.cell? ⟨(ad.add (i.toNat * 7)).block, (ad.add (i.toNat * 7)).off + 5, none⟩ = some (.int .i64 (rd_T45 xs i).f5) ∧ w.cell? ⟨(ad.add (i.toNat * 7)).block, (ad.add (i.toNat * 7)).off + 6, none⟩ = some (.int .i64 (rd_T45 xs i).f6) := by
  obtain ⟨ad, c, e, _, hK, hc0⟩ := Kd.C_get h z45 i h0 h1
  have hc : ∀ j u, c[j]? = some u → w.cell? (ad.add (i.toNat * 7 + j)) = some u := hc0
  obtain rfl := k45_open hK
  exact ⟨ad, e, hc 0 _ rfl, by rw [← add_field _ _ 1 (by omega)]; exact hc 1 _ rfl, by rw [← add_field _ _ 2 (by omega)]; exact hc 2 _ rfl, by rw [← add_field _ _ 3 (by omega)]; exact hc 3 _ rfl, by rw [← add_field _ _ 4 (by omega)]; exact hc 4 _ rfl, by rw [← add_field _ _ 5 (by omega)]; exact hc 5 _ rfl, by rw [← add_field _ _ 6 (by omega)]; exact hc 6 _ rfl⟩

/-! #### struct type 57 -/
structure S57 where
  f0 : Int
  f1 : ByteArray
def z57 : S57 := ⟨(0 : Int), (⟨#[]⟩ : ByteArray)⟩
def k57 : Kd S57 := Kd.iso (Kd.pair (Kd.int .i64) Kd.string) (fun x : S57 => (x.f0, x.f1))
theorem k57_open {w : World} {x : S57} {cs : List Value} (h : k57.K w x cs) : cs = [.int .i64 x.f0, .string x.f1] := by
  obtain ⟨_, _, rfl, rfl, rfl⟩ := h
  exact rfl
theorem k57_openM {w : World} {base : Nat} {ok : Nat → Prop} {x : S57} {cs : List Value} (h : k57.M w base ok x cs) : cs = [.int .i64 x.f0, .string x.f1] := by
  obtain ⟨_, _, rfl, rfl, rfl⟩ := h
  exact rfl
theorem k57_mk (w : World) (x : S57)  : k57.K w x [.int .i64 x.f0, .string x.f1] := ⟨[.int .i64 x.f0], [.string x.f1], rfl, rfl, rfl⟩
theorem k57_mkM (w : World) (base : Nat) (ok : Nat → Prop) (x : S57)  : k57.M w base ok x [.int .i64 x.f0, .string x.f1] := ⟨[.int .i64 x.f0], [.string x.f1], rfl, rfl, rfl⟩
def rd_T57 (xs : List S57) (i : Int) : S57 := xs.getD i.toNat z57
theorem at_T57 {w : World} {A : Option Addr} {n : Nat} {xs : List S57} (h : Kd.C k57 w A n xs) (i : Int) (h0 : 0 ≤ i) (h1 : i < n) : ∃ ad , A = some ad ∧ w.cell? (ad.add (i.toNat * 2)) = some (.int .i64 (rd_T57 xs i).f0) ∧ w.cell? ⟨(ad.add (i.toNat * 2)).block, (ad.add (i.toNat * 2)).off + 1, none⟩ = some (.string (rd_T57 xs i).f1) := by
  obtain ⟨ad, c, e, _, hK, hc0⟩ := Kd.C_get h z57 i h0 h1
  have hc : ∀ j u, c[j]? = some u → w.cell? (ad.add (i.toNat * 2 + j)) = some u := hc0
  obtain rfl := k57_open hK
  exact ⟨ad, e, hc 0 _ rfl, by rw [← add_field _ _ 1 (by omega)]; exact hc 1 _ rfl⟩

/-! #### struct type 91 -/
structure S91 where
  f0 : Int
  f1 : ByteArray
def z91 : S91 := ⟨(0 : Int), (⟨#[]⟩ : ByteArray)⟩
def k91 : Kd S91 := Kd.iso (Kd.pair (Kd.int .i8) Kd.string) (fun x : S91 => (x.f0, x.f1))
theorem k91_open {w : World} {x : S91} {cs : List Value} (h : k91.K w x cs) : cs = [.int .i8 x.f0, .string x.f1] := by
  obtain ⟨_, _, rfl, rfl, rfl⟩ := h
  exact rfl
theorem k91_openM {w : World} {base : Nat} {ok : Nat → Prop} {x : S91} {cs : List Value} (h : k91.M w base ok x cs) : cs = [.int .i8 x.f0, .string x.f1] := by
  obtain ⟨_, _, rfl, rfl, rfl⟩ := h
  exact rfl
theorem k91_mk (w : World) (x : S91)  : k91.K w x [.int .i8 x.f0, .string x.f1] := ⟨[.int .i8 x.f0], [.string x.f1], rfl, rfl, rfl⟩
theorem k91_mkM (w : World) (base : Nat) (ok : Nat → Prop) (x : S91)  : k91.M w base ok x [.int .i8 x.f0, .string x.f1] := ⟨[.int .i8 x.f0], [.string x.f1], rfl, rfl, rfl⟩
def rd_T91 (xs : List S91) (i : Int) : S91 := xs.getD i.toNat z91
theorem at_T91 {w : World} {A : Option Addr} {n : Nat} {xs : List S91} (h : Kd.C k91 w A n xs) (i : Int) (h0 : 0 ≤ i) (h1 : i < n) : ∃ ad , A = some ad ∧ w.cell? (ad.add (i.toNat * 2)) = some (.int .i8 (rd_T91 xs i).f0) ∧ w.cell? ⟨(ad.add (i.toNat * 2)).block, (ad.add (i.toNat * 2)).off + 1, none⟩ = some (.string (rd_T91 xs i).f1) := by
  obtain ⟨ad, c, e, _, hK, hc0⟩ := Kd.C_get h z91 i h0 h1
  have hc : ∀ j u, c[j]? = some u → w.cell? (ad.add (i.toNat * 2 + j)) = some u := hc0
  obtain rfl := k91_open hK
  exact ⟨ad, e, hc 0 _ rfl, by rw [← add_field _ _ 1 (by omega)]; exact hc 1 _ rfl⟩

end Go.Proofs.Ytomidomdomjkfaa.PT
