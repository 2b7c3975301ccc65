-- Written by this session's own program (wip/tools) out of the translation.
import Derived.Test.YtomidomdomjkfaaProg
import Derived.Below
import Derived.Deep.Draws
import Derived.Deep.AppendLies
import Derived.Maps.AppendAt
import Derived.OwnWalk
import Derived.Laws.BytesArg
import Derived.Laws.MakeOwn
import Derived.Laws.OwnMore
import Derived.Deep.OwnRows
import Derived.Tactics
import Derived.Lib.ConvBytes
import Derived.Laws.Slices
import Derived.WalkKit
import Derived.KernelRfl
import Derived.RowKit3
import Derived.Deep.LoopGhost
import Derived.Deep.QuietTactic
import Derived.BigQuiet
import Derived.WideLaws
import Derived.Deep.DeepCutAuto
import Derived.Deep.CutBlock
import Derived.Deep.RegionHeld3
import Derived.Laws.Rows
import Derived.Lib.AppendStr
import Derived.ArgAppend
import Derived.Laws.IdiomCopy
import Derived.OrdersHeld
import Derived.Laws.BitsLemmas
import Derived.RowKit
import Derived.Test.YtomidomdomjkfaaWWords
import Derived.Test.YtomidomdomjkfaaWLast
import Derived.Test.YtomidomdomjkfaaWTab
import Derived.Test.YtomidomdomjkfaaWFour
import Derived.Test.YtomidomdomjkfaaWQPut
import Derived.Test.YtomidomdomjkfaaWApart
import Derived.Test.YtomidomdomjkfaaWArr
import Derived.Test.YtomidomdomjkfaaWZeros
import Derived.Test.YtomidomdomjkfaaWFoot
import Derived.Test.YtomidomdomjkfaaWKept
import Derived.Test.YtomidomdomjkfaaWShare
import Derived.Test.YtomidomdomjkfaaWN
import Derived.Test.YtomidomdomjkfaaWFootNe
import Derived.Test.YtomidomdomjkfaaWAt
import Derived.Test.YtomidomdomjkfaaWEqStruct
import Derived.Test.YtomidomdomjkfaaWRepsOne
import Derived.Test.YtomidomdomjkfaaWInv
import Derived.Test.YtomidomdomjkfaaWInvWords
import Derived.Test.YtomidomdomjkfaaWGuard
import Derived.Test.YtomidomdomjkfaaWNEv
import Derived.Test.YtomidomdomjkfaaWMore
import Derived.Test.YtomidomdomjkfaaWSized
import Derived.Test.YtomidomdomjkfaaXBase
import Derived.Test.YtomidomdomjkfaaXConv
import Derived.Test.YtomidomdomjkfaaXCopy
import Derived.Test.YtomidomdomjkfaaXDefer
import Derived.Test.YtomidomdomjkfaaXOpen
import Derived.Test.YtomidomdomjkfaaXRows
namespace Go.Proofs.Ytomidomdomjkfaa.PT
open Go.RowKit Go.Proofs.YtomidomdomjkfaaW.PrintWords Go.Proofs.YtomidomdomjkfaaW.PrintLast Go.Proofs.YtomidomdomjkfaaW.PrintMore
attribute [local go_sem] max2_int min2_int max_two min_two max_three min_three max_four min_four   -- for this text's walks alone
set_option linter.unusedVariables false
set_option linter.unusedSimpArgs false



def errW : Option Int → Value
  | none => .nilIface
  | some c => .iface 0 (.int .i64 c)
theorem errW_none : errW none = .nilIface := rfl
theorem errW_some (c : Int) : errW (some c) = .iface 0 (.int .i64 c) := rfl

theorem info5 : (Try.prog.info? 5).map (fun i => (i.zero, i.size, i.bytes)) = some (some (.int .u8 0), 1, 1) := by kernel_rfl
theorem info21 : (Try.prog.info? 21).map (fun i => (i.zero, i.size, i.bytes)) = some (some (.int .i32 0), 1, 4) := by kernel_rfl
theorem info39 : (Try.prog.info? 39).map (fun i => (i.zero, i.size, i.bytes)) = some (some (.int .u32 0), 1, 4) := by kernel_rfl
theorem info57 : (Try.prog.info? 57).map (fun i => (i.zero, i.size, i.bytes)) = some (some (.agg #[(.int .i64 0), (.string ⟨#[]⟩)]), 2, 24) := by kernel_rfl
theorem info84 : (Try.prog.info? 84).map (fun i => (i.zero, i.size, i.bytes)) = some (some (.int .u32 0), 1, 4) := by kernel_rfl
theorem info91 : (Try.prog.info? 91).map (fun i => (i.zero, i.size, i.bytes)) = some (some (.agg #[(.int .i8 0), (.string ⟨#[]⟩)]), 2, 24) := by kernel_rfl
-- the values' own types
/-! #### struct type 57 -/
structure S57 where
  f0 : Int
  f1 : ByteArray
def z57 : S57 := ⟨(0 : Int), (⟨#[]⟩ : ByteArray)⟩
def k57 : Kd S57 := Kd.iso (Kd.pair (Kd.int .i64) Kd.string) (fun x : S57 => (x.f0, x.f1))
theorem k57_open {w : World} {x : S57} {cs : List Value} (h : k57.K w x cs) : cs = [.int .i64 x.f0, .string x.f1] := by
  obtain ⟨_, _, rfl, rfl, rfl⟩ := h
  exact rfl
theorem k57_openM {w : World} {base : Nat} {ok : Nat → Prop} {x : S57} {cs : List Value} (h : k57.M w base ok x cs) : cs = [.int .i64 x.f0, .string x.f1] := by
  obtain ⟨_, _, rfl, rfl, rfl⟩ := h
  exact rfl
theorem k57_mk (w : World) (x : S57)  : k57.K w x [.int .i64 x.f0, .string x.f1] := ⟨[.int .i64 x.f0], [.string x.f1], rfl, rfl, rfl⟩
theorem k57_mkM (w : World) (base : Nat) (ok : Nat → Prop) (x : S57)  : k57.M w base ok x [.int .i64 x.f0, .string x.f1] := ⟨[.int .i64 x.f0], [.string x.f1], rfl, rfl, rfl⟩
def rd_T57 (xs : List S57) (i : Int) : S57 := xs.getD i.toNat z57
theorem at_T57 {w : World} {A : Option Addr} {n : Nat} {xs : List S57} (h : Kd.C k57 w A n xs) (i : Int) (h0 : 0 ≤ i) (h1 : i < n) : ∃ ad , A = some ad ∧ w.cell? (ad.add (i.toNat * 2)) = some (.int .i64 (rd_T57 xs i).f0) ∧ w.cell? ⟨(ad.add (i.toNat * 2)).block, (ad.add (i.toNat * 2)).off + 1, none⟩ = some (.string (rd_T57 xs i).f1) := by
  obtain ⟨ad, c, e, _, hK, hc0⟩ := Kd.C_get h z57 i h0 h1
  have hc : ∀ j u, c[j]? = some u → w.cell? (ad.add (i.toNat * 2 + j)) = some u := hc0
  obtain rfl := k57_open hK
  exact ⟨ad, e, hc 0 _ rfl, by rw [← add_field _ _ 1 (by omega)]; exact hc 1 _ rfl⟩

/-! #### struct type 91 -/
structure S91 where
  f0 : Int
  f1 : ByteArray
def z91 : S91 := ⟨(0 : Int), (⟨#[]⟩ : ByteArray)⟩
def k91 : Kd S91 := Kd.iso (Kd.pair (Kd.int .i8) Kd.string) (fun x : S91 => (x.f0, x.f1))
theorem k91_open {w : World} {x : S91} {cs : List Value} (h : k91.K w x cs) : cs = [.int .i8 x.f0, .string x.f1] := by
  obtain ⟨_, _, rfl, rfl, rfl⟩ := h
  exact rfl
theorem k91_openM {w : World} {base : Nat} {ok : Nat → Prop} {x : S91} {cs : List Value} (h : k91.M w base ok x cs) : cs = [.int .i8 x.f0, .string x.f1] := by
  obtain ⟨_, _, rfl, rfl, rfl⟩ := h
  exact rfl
theorem k91_mk (w : World) (x : S91)  : k91.K w x [.int .i8 x.f0, .string x.f1] := ⟨[.int .i8 x.f0], [.string x.f1], rfl, rfl, rfl⟩
theorem k91_mkM (w : World) (base : Nat) (ok : Nat → Prop) (x : S91)  : k91.M w base ok x [.int .i8 x.f0, .string x.f1] := ⟨[.int .i8 x.f0], [.string x.f1], rfl, rfl, rfl⟩
def rd_T91 (xs : List S91) (i : Int) : S91 := xs.getD i.toNat z91
theorem at_T91 {w : World} {A : Option Addr} {n : Nat} {xs : List S91} (h : Kd.C k91 w A n xs) (i : Int) (h0 : 0 ≤ i) (h1 : i < n) : ∃ ad , A = some ad ∧ w.cell? (ad.add (i.toNat * 2)) = some (.int .i8 (rd_T91 xs i).f0) ∧ w.cell? ⟨(ad.add (i.toNat * 2)).block, (ad.add (i.toNat * 2)).off + 1, none⟩ = some (.string (rd_T91 xs i).f1) := by
  obtain ⟨ad, c, e, _, hK, hc0⟩ := Kd.C_get h z91 i h0 h1
  have hc : ∀ j u, c[j]? = some u → w.cell? (ad.add (i.toNat * 2 + j)) = some u := hc0
  obtain rfl := k91_open hK
  exact ⟨ad, e, hc 0 _ rfl, by rw [← add_field _ _ 1 (by omega)]; exact hc 1 _ rfl⟩

end Go.Proofs.Ytomidomdomjkfaa.PT
