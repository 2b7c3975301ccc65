-- Written by this session's own program (wip/tools) out of the translation.
import Derived.Test.YtoafkjeamgelgaaProg
import Derived.Below
import Derived.Deep.Draws
import Derived.Deep.AppendLies
import Derived.Maps.AppendAt
import Derived.OwnWalk
import Derived.Laws.BytesArg
import Derived.Laws.MakeOwn
import Derived.Laws.OwnMore
import Derived.Deep.OwnRows
import Derived.Tactics
import Derived.Lib.ConvBytes
import Derived.Laws.Slices
import Derived.WalkKit
import Derived.KernelRfl
import Derived.RowKit3
import Derived.Deep.LoopGhost
import Derived.Deep.QuietTactic
import Derived.BigQuiet
import Derived.WideLaws
import Derived.Deep.DeepCutAuto
import Derived.Deep.CutBlock
import Derived.Deep.RegionHeld3
import Derived.Laws.Rows
import Derived.Lib.AppendStr
import Derived.ArgAppend
import Derived.Laws.IdiomCopy
import Derived.OrdersHeld
import Derived.Laws.BitsLemmas
import Derived.RowKit
import Derived.Test.YtoafkjeamgelgaaWWords
import Derived.Test.YtoafkjeamgelgaaWLast
import Derived.Test.YtoafkjeamgelgaaWTab
import Derived.Test.YtoafkjeamgelgaaWFour
import Derived.Test.YtoafkjeamgelgaaWQPut
import Derived.Test.YtoafkjeamgelgaaWApart
import Derived.Test.YtoafkjeamgelgaaWArr
import Derived.Test.YtoafkjeamgelgaaWZeros
import Derived.Test.YtoafkjeamgelgaaWFoot
import Derived.Test.YtoafkjeamgelgaaWKept
import Derived.Test.YtoafkjeamgelgaaWShare
import Derived.Test.YtoafkjeamgelgaaWN
import Derived.Test.YtoafkjeamgelgaaWFootNe
import Derived.Test.YtoafkjeamgelgaaWAt
import Derived.Test.YtoafkjeamgelgaaWEqStruct
import Derived.Test.YtoafkjeamgelgaaWRepsOne
import Derived.Test.YtoafkjeamgelgaaWInv
import Derived.Test.YtoafkjeamgelgaaWInvWords
import Derived.Test.YtoafkjeamgelgaaWGuard
import Derived.Test.YtoafkjeamgelgaaWNEv
import Derived.Test.YtoafkjeamgelgaaWMore
import Derived.Test.YtoafkjeamgelgaaWSized
import Derived.Test.YtoafkjeamgelgaaXBase
import Derived.Test.YtoafkjeamgelgaaXConv
import Derived.Test.YtoafkjeamgelgaaXCopy
import Derived.Test.YtoafkjeamgelgaaXDefer
import Derived.Test.YtoafkjeamgelgaaXFloat
import Derived.Test.YtoafkjeamgelgaaXOpen
import Derived.Test.YtoafkjeamgelgaaXRows
namespace Go.Proofs.Ytoafkjeamgelgaa.PT
open Go.RowKit Go.Proofs.YtoafkjeamgelgaaW.PrintWords Go.Proofs.YtoafkjeamgelgaaW.PrintLast Go.Proofs.YtoafkjeamgelgaaW.PrintMore
attribute [local go_sem] max2_int min2_int max_two min_two max_three min_three max_four min_four   -- for this text's walks alone
set_option linter.unusedVariables false
set_option linter.unusedSimpArgs false



def errW : Option Int → Value
  | none => .nilIface
  | some c => .iface 0 (.int .i64 c)
theorem errW_none : errW none = .nilIface := rfl
theorem errW_some (c : Int) : errW (some c) = .iface 0 (.int .i64 c) := rfl

theorem info3 : (Try.prog.info? 3).map (fun i => (i.zero, i.size, i.bytes)) = some (some (.int .i64 0), 1, 8) := by kernel_rfl
theorem info5 : (Try.prog.info? 5).map (fun i => (i.zero, i.size, i.bytes)) = some (some (.int .u8 0), 1, 1) := by kernel_rfl
theorem info21 : (Try.prog.info? 21).map (fun i => (i.zero, i.size, i.bytes)) = some (some (.int .i32 0), 1, 4) := by kernel_rfl
theorem info27 : (Try.prog.info? 27).map (fun i => (i.zero, i.size, i.bytes)) = some (some (.slice none 0 0), 1, 24) := by kernel_rfl
theorem info48 : (Try.prog.info? 48).map (fun i => (i.zero, i.size, i.bytes)) = some (some (.agg #[(.int .i64 0), (.string ⟨#[]⟩)]), 2, 24) := by kernel_rfl
theorem info51 : (Try.prog.info? 51).map (fun i => (i.zero, i.size, i.bytes)) = some (some (.agg #[(.slice none 0 0), (.int .i64 0), (.int .i64 0), (.int .i64 0), (.int .i64 0)]), 5, 56) := by kernel_rfl
theorem info74 : (Try.prog.info? 74).map (fun i => (i.zero, i.size, i.bytes)) = some (some (.agg #[(.slice none 0 0), (.int .i64 0), (.int .i64 0), (.int .i64 0), (.int .i64 0)]), 5, 56) := by kernel_rfl
theorem info85 : (Try.prog.info? 85).map (fun i => (i.zero, i.size, i.bytes)) = some (some (.agg #[(.int .i8 0), (.string ⟨#[]⟩)]), 2, 24) := by kernel_rfl
-- the values' own types
/-! #### struct type 48 -/
structure S48 where
  f0 : Int
  f1 : ByteArray
def z48 : S48 := ⟨(0 : Int), (⟨#[]⟩ : ByteArray)⟩
def k48 : Kd S48 := Kd.iso (Kd.pair (Kd.int .i64) Kd.string) (fun x : S48 => (x.f0, x.f1))
theorem k48_open {w : World} {x : S48} {cs : List Value} (h : k48.K w x cs) : cs = [.int .i64 x.f0, .string x.f1] := by
  obtain ⟨_, _, rfl, rfl, rfl⟩ := h
  exact rfl
theorem k48_openM {w : World} {base : Nat} {ok : Nat → Prop} {x : S48} {cs : List Value} (h : k48.M w base ok x cs) : cs = [.int .i64 x.f0, .string x.f1] := by
  obtain ⟨_, _, rfl, rfl, rfl⟩ := h
  exact rfl
theorem k48_mk (w : World) (x : S48)  : k48.K w x [.int .i64 x.f0, .string x.f1] := ⟨[.int .i64 x.f0], [.string x.f1], rfl, rfl, rfl⟩
theorem k48_mkM (w : World) (base : Nat) (ok : Nat → Prop) (x : S48)  : k48.M w base ok x [.int .i64 x.f0, .string x.f1] := ⟨[.int .i64 x.f0], [.string x.f1], rfl, rfl, rfl⟩
theorem k48_mkF (W : World) (ok : Nat → Prop) (x : S48) : Kd.FK k48 W ok x [.int .i64 x.f0, .string x.f1] := fun W2 _ => k48_mk W2 x
def rd_T48 (xs : List S48) (i : Int) : S48 := xs.getD i.toNat z48
theorem at_T48 {w : World} {A : Option Addr} {n : Nat} {xs : List S48} (h : Kd.C k48 w A n xs) (i : Int) (h0 : 0 ≤ i) (h1 : i < n) : ∃ ad , A = some ad ∧ w.cell? (ad.add (i.toNat * 2)) = some (.int .i64 (rd_T48 xs i).f0) ∧ w.cell? ⟨(ad.add (i.toNat * 2)).block, (ad.add (i.toNat * 2)).off + 1, none⟩ = some (.string (rd_T48 xs i).f1) := by
  obtain ⟨ad, c, e, _, hK, hc0⟩ := Kd.C_get h z48 i h0 h1
  have hc : ∀ j u, c[j]? = some u → w.cell? (ad.add (i.toNat * 2 + j)) = some u := hc0
  obtain rfl := k48_open hK
  exact ⟨ad, e, hc 0 _ rfl, by rw [← add_field _ _ 1 (by omega)]; exact hc 1 _ rfl⟩

def rd_L3 (xs : List (List S48)) (i : Int) : (List S48) := xs.getD i.toNat ([] : List S48)
theorem at_L3 {w : World} {A : Option Addr} {n : Nat} {xs : List (List S48)} (h : Kd.C (Kd.slice 48 k48) w A n xs) (i : Int) (h0 : 0 ≤ i) (h1 : i < n) : ∃ ad A0 c0, A = some ad ∧ w.cell? (ad.add i.toNat) = some (.slice A0 (rd_L3 xs i).length c0) ∧ (rd_L3 xs i).length ≤ c0 ∧ k48.C w A0 (rd_L3 xs i).length (rd_L3 xs i) := by
  obtain ⟨ad, c, e, _, hK, hc0⟩ := Kd.C_get h ([] : List S48) i h0 h1
  have hc : ∀ j u, c[j]? = some u → w.cell? (ad.add (i.toNat * 1 + j)) = some u := hc0
  obtain ⟨A0, c0, rfl, l0, g0⟩ := hK
  exact ⟨ad, A0, c0, e, by have hq := hc 0 _ rfl; rwa [Nat.mul_one, Nat.add_zero] at hq, l0, g0⟩

/-! #### struct type 51 -/
structure S51 where
  f0 : (List S48)
  f1 : Int
  f2 : Int
  f3 : Int
  f4 : Int
def z51 : S51 := ⟨([] : List S48), (0 : Int), (0 : Int), (0 : Int), (0 : Int)⟩
def k51 : Kd S51 := Kd.iso (Kd.pair (Kd.slice 48 k48) (Kd.pair (Kd.int .i64) (Kd.pair (Kd.int .i64) (Kd.pair (Kd.int .i64) (Kd.int .i64))))) (fun x : S51 => (x.f0, x.f1, x.f2, x.f3, x.f4))
theorem k51_open {w : World} {x : S51} {cs : List Value} (h : k51.K w x cs) : ∃ A0 c0, cs = [.slice A0 x.f0.length c0, .int .i64 x.f1, .int .i64 x.f2, .int .i64 x.f3, .int .i64 x.f4] ∧ x.f0.length ≤ c0 ∧ k48.C w A0 x.f0.length x.f0 := by
  obtain ⟨_, _, rfl, ⟨A0, c0, rfl, l0, g0⟩, ⟨_, _, rfl, rfl, ⟨_, _, rfl, rfl, ⟨_, _, rfl, rfl, rfl⟩⟩⟩⟩ := h
  exact ⟨A0, c0, rfl, l0, g0⟩
theorem k51_openM {w : World} {base : Nat} {ok : Nat → Prop} {x : S51} {cs : List Value} (h : k51.M w base ok x cs) : ∃ v0, cs = [v0, .int .i64 x.f1, .int .i64 x.f2, .int .i64 x.f3, .int .i64 x.f4] ∧ k48.R 48 w base ok v0 x.f0 := by
  obtain ⟨_, _, rfl, ⟨v0, rfl, g0⟩, ⟨_, _, rfl, rfl, ⟨_, _, rfl, rfl, ⟨_, _, rfl, rfl, rfl⟩⟩⟩⟩ := h
  exact ⟨v0, rfl, g0⟩
theorem k51_mk (w : World) (x : S51) {A0 : Option Addr} {c0 : Nat} (l0 : x.f0.length ≤ c0) (g0 : k48.C w A0 x.f0.length x.f0) : k51.K w x [.slice A0 x.f0.length c0, .int .i64 x.f1, .int .i64 x.f2, .int .i64 x.f3, .int .i64 x.f4] := ⟨[.slice A0 x.f0.length c0], [.int .i64 x.f1, .int .i64 x.f2, .int .i64 x.f3, .int .i64 x.f4], rfl, ⟨A0, c0, rfl, l0, g0⟩, ⟨[.int .i64 x.f1], [.int .i64 x.f2, .int .i64 x.f3, .int .i64 x.f4], rfl, rfl, ⟨[.int .i64 x.f2], [.int .i64 x.f3, .int .i64 x.f4], rfl, rfl, ⟨[.int .i64 x.f3], [.int .i64 x.f4], rfl, rfl, rfl⟩⟩⟩⟩
theorem k51_mkM (w : World) (base : Nat) (ok : Nat → Prop) (x : S51) {v0 : Value} (g0 : k48.R 48 w base ok v0 x.f0) : k51.M w base ok x [v0, .int .i64 x.f1, .int .i64 x.f2, .int .i64 x.f3, .int .i64 x.f4] := ⟨[v0], [.int .i64 x.f1, .int .i64 x.f2, .int .i64 x.f3, .int .i64 x.f4], rfl, ⟨v0, rfl, g0⟩, ⟨[.int .i64 x.f1], [.int .i64 x.f2, .int .i64 x.f3, .int .i64 x.f4], rfl, rfl, ⟨[.int .i64 x.f2], [.int .i64 x.f3, .int .i64 x.f4], rfl, rfl, ⟨[.int .i64 x.f3], [.int .i64 x.f4], rfl, rfl, rfl⟩⟩⟩⟩
theorem k51_openF {W : World} {ok : Nat → Prop} {x : S51} {cs : List Value} (h : Kd.FK k51 W ok x cs) : ∃ A0 c0, cs = [.slice A0 x.f0.length c0, .int .i64 x.f1, .int .i64 x.f2, .int .i64 x.f3, .int .i64 x.f4] ∧ x.f0.length ≤ c0 ∧ Kd.F k48 W ok A0 x.f0.length x.f0 := by
  obtain ⟨A0, c0, rfl, l0, _⟩ := k51_open (Kd.FK_now h)
  exact ⟨A0, c0, rfl, l0, (fun W' hW => by obtain ⟨A0_, c0_, he, l0_, g0_⟩ := k51_open (h W' hW); injection (Option.some.inj (show some (Value.slice A0 x.f0.length c0) = some (Value.slice A0_ x.f0.length c0_) from congrArg (fun l => l[0]?) he)) with ha_ _ _; rw [ha_]; exact g0_)⟩
theorem k51_mkF (W : World) (ok : Nat → Prop) (x : S51) {A0 : Option Addr} {c0 : Nat} (l0 : x.f0.length ≤ c0) (g0 : Kd.F k48 W ok A0 x.f0.length x.f0) : Kd.FK k51 W ok x [.slice A0 x.f0.length c0, .int .i64 x.f1, .int .i64 x.f2, .int .i64 x.f3, .int .i64 x.f4] := fun W2 hW => k51_mk W2 x l0 (g0 W2 hW)
def rd_T51 (xs : List S51) (i : Int) : S51 := xs.getD i.toNat z51
theorem at_T51 {w : World} {A : Option Addr} {n : Nat} {xs : List S51} (h : Kd.C k51 w A n xs) (i : Int) (h0 : 0 ≤ i) (h1 : i < n) : ∃ ad A0 c0, A = some ad ∧ w.cell? (ad.add (i.toNat * 5)) = some (.slice A0 (rd_T51 xs i).f0.length c0) ∧ w.cell? ⟨(ad.add (i.toNat * 5)).block, (ad.add (i.toNat * 5)).off + 1, none⟩ = some (.int .i64 (rd_T51 xs i).f1) ∧ w.cell? ⟨(ad.add (i.toNat * 5)).block, (ad.add (i.toNat * 5)).off + 2, none⟩ = some (.int .i64 (rd_T51 xs i).f2) ∧ w.cell? ⟨(ad.add (i.toNat * 5)).block, (ad.add (i.toNat * 5)).off + 3, none⟩ = some (.int .i64 (rd_T51 xs i).f3) ∧ w.cell? ⟨(ad.add (i.toNat * 5)).block, (ad.add (i.toNat * 5)).off + 4, none⟩ = some (.int .i64 (rd_T51 xs i).f4) ∧ (rd_T51 xs i).f0.length ≤ c0 ∧ k48.C w A0 (rd_T51 xs i).f0.length (rd_T51 xs i).f0 := by
  obtain ⟨ad, c, e, _, hK, hc0⟩ := Kd.C_get h z51 i h0 h1
  have hc : ∀ j u, c[j]? = some u → w.cell? (ad.add (i.toNat * 5 + j)) = some u := hc0
  obtain ⟨A0, c0, rfl, l0, g0⟩ := k51_open hK
  exact ⟨ad, A0, c0, e, hc 0 _ rfl, by rw [← add_field _ _ 1 (by omega)]; exact hc 1 _ rfl, by rw [← add_field _ _ 2 (by omega)]; exact hc 2 _ rfl, by rw [← add_field _ _ 3 (by omega)]; exact hc 3 _ rfl, by rw [← add_field _ _ 4 (by omega)]; exact hc 4 _ rfl, l0, g0⟩

/-! #### struct type 85 -/
structure S85 where
  f0 : Int
  f1 : ByteArray
def z85 : S85 := ⟨(0 : Int), (⟨#[]⟩ : ByteArray)⟩
def k85 : Kd S85 := Kd.iso (Kd.pair (Kd.int .i8) Kd.string) (fun x : S85 => (x.f0, x.f1))
theorem k85_open {w : World} {x : S85} {cs : List Value} (h : k85.K w x cs) : cs = [.int .i8 x.f0, .string x.f1] := by
  obtain ⟨_, _, rfl, rfl, rfl⟩ := h
  exact rfl
theorem k85_openM {w : World} {base : Nat} {ok : Nat → Prop} {x : S85} {cs : List Value} (h : k85.M w base ok x cs) : cs = [.int .i8 x.f0, .string x.f1] := by
  obtain ⟨_, _, rfl, rfl, rfl⟩ := h
  exact rfl
theorem k85_mk (w : World) (x : S85)  : k85.K w x [.int .i8 x.f0, .string x.f1] := ⟨[.int .i8 x.f0], [.string x.f1], rfl, rfl, rfl⟩
theorem k85_mkM (w : World) (base : Nat) (ok : Nat → Prop) (x : S85)  : k85.M w base ok x [.int .i8 x.f0, .string x.f1] := ⟨[.int .i8 x.f0], [.string x.f1], rfl, rfl, rfl⟩
theorem k85_mkF (W : World) (ok : Nat → Prop) (x : S85) : Kd.FK k85 W ok x [.int .i8 x.f0, .string x.f1] := fun W2 _ => k85_mk W2 x
def rd_T85 (xs : List S85) (i : Int) : S85 := xs.getD i.toNat z85
theorem at_T85 {w : World} {A : Option Addr} {n : Nat} {xs : List S85} (h : Kd.C k85 w A n xs) (i : Int) (h0 : 0 ≤ i) (h1 : i < n) : ∃ ad , A = some ad ∧ w.cell? (ad.add (i.toNat * 2)) = some (.int .i8 (rd_T85 xs i).f0) ∧ w.cell? ⟨(ad.add (i.toNat * 2)).block, (ad.add (i.toNat * 2)).off + 1, none⟩ = some (.string (rd_T85 xs i).f1) := by
  obtain ⟨ad, c, e, _, hK, hc0⟩ := Kd.C_get h z85 i h0 h1
  have hc : ∀ j u, c[j]? = some u → w.cell? (ad.add (i.toNat * 2 + j)) = some u := hc0
  obtain rfl := k85_open hK
  exact ⟨ad, e, hc 0 _ rfl, by rw [← add_field _ _ 1 (by omega)]; exact hc 1 _ rfl⟩

def rd_L8 (xs : List (List S85)) (i : Int) : (List S85) := xs.getD i.toNat ([] : List S85)
theorem at_L8 {w : World} {A : Option Addr} {n : Nat} {xs : List (List S85)} (h : Kd.C (Kd.slice 85 k85) w A n xs) (i : Int) (h0 : 0 ≤ i) (h1 : i < n) : ∃ ad A0 c0, A = some ad ∧ w.cell? (ad.add i.toNat) = some (.slice A0 (rd_L8 xs i).length c0) ∧ (rd_L8 xs i).length ≤ c0 ∧ k85.C w A0 (rd_L8 xs i).length (rd_L8 xs i) := by
  obtain ⟨ad, c, e, _, hK, hc0⟩ := Kd.C_get h ([] : List S85) i h0 h1
  have hc : ∀ j u, c[j]? = some u → w.cell? (ad.add (i.toNat * 1 + j)) = some u := hc0
  obtain ⟨A0, c0, rfl, l0, g0⟩ := hK
  exact ⟨ad, A0, c0, e, by have hq := hc 0 _ rfl; rwa [Nat.mul_one, Nat.add_zero] at hq, l0, g0⟩

/-! #### struct type 74 -/
structure S74 where
  f0 : (List S85)
  f1 : Int
  f2 : Int
  f3 : Int
  f4 : Int
def z74 : S74 := ⟨([] : List S85), (0 : Int), (0 : Int), (0 : Int), (0 : Int)⟩
def k74 : Kd S74 := Kd.iso (Kd.pair (Kd.slice 85 k85) (Kd.pair (Kd.int .i64) (Kd.pair (Kd.int .i64) (Kd.pair (Kd.int .i64) (Kd.int .i64))))) (fun x : S74 => (x.f0, x.f1, x.f2, x.f3, x.f4))
theorem k74_open {w : World} {x : S74} {cs : List Value} (h : k74.K w x cs) : ∃ A0 c0, cs = [.slice A0 x.f0.length c0, .int .i64 x.f1, .int .i64 x.f2, .int .i64 x.f3, .int .i64 x.f4] ∧ x.f0.length ≤ c0 ∧ k85.C w A0 x.f0.length x.f0 := by
  obtain ⟨_, _, rfl, ⟨A0, c0, rfl, l0, g0⟩, ⟨_, _, rfl, rfl, ⟨_, _, rfl, rfl, ⟨_, _, rfl, rfl, rfl⟩⟩⟩⟩ := h
  exact ⟨A0, c0, rfl, l0, g0⟩
theorem k74_openM {w : World} {base : Nat} {ok : Nat → Prop} {x : S74} {cs : List Value} (h : k74.M w base ok x cs) : ∃ v0, cs = [v0, .int .i64 x.f1, .int .i64 x.f2, .int .i64 x.f3, .int .i64 x.f4] ∧ k85.R 85 w base ok v0 x.f0 := by
  obtain ⟨_, _, rfl, ⟨v0, rfl, g0⟩, ⟨_, _, rfl, rfl, ⟨_, _, rfl, rfl, ⟨_, _, rfl, rfl, rfl⟩⟩⟩⟩ := h
  exact ⟨v0, rfl, g0⟩
theorem k74_mk (w : World) (x : S74) {A0 : Option Addr} {c0 : Nat} (l0 : x.f0.length ≤ c0) (g0 : k85.C w A0 x.f0.length x.f0) : k74.K w x [.slice A0 x.f0.length c0, .int .i64 x.f1, .int .i64 x.f2, .int .i64 x.f3, .int .i64 x.f4] := ⟨[.slice A0 x.f0.length c0], [.int .i64 x.f1, .int .i64 x.f2, .int .i64 x.f3, .int .i64 x.f4], rfl, ⟨A0, c0, rfl, l0, g0⟩, ⟨[.int .i64 x.f1], [.int .i64 x.f2, .int .i64 x.f3, .int .i64 x.f4], rfl, rfl, ⟨[.int .i64 x.f2], [.int .i64 x.f3, .int .i64 x.f4], rfl, rfl, ⟨[.int .i64 x.f3], [.int .i64 x.f4], rfl, rfl, rfl⟩⟩⟩⟩
theorem k74_mkM (w : World) (base : Nat) (ok : Nat → Prop) (x : S74) {v0 : Value} (g0 : k85.R 85 w base ok v0 x.f0) : k74.M w base ok x [v0, .int .i64 x.f1, .int .i64 x.f2, .int .i64 x.f3, .int .i64 x.f4] := ⟨[v0], [.int .i64 x.f1, .int .i64 x.f2, .int .i64 x.f3, .int .i64 x.f4], rfl, ⟨v0, rfl, g0⟩, ⟨[.int .i64 x.f1], [.int .i64 x.f2, .int .i64 x.f3, .int .i64 x.f4], rfl, rfl, ⟨[.int .i64 x.f2], [.int .i64 x.f3, .int .i64 x.f4], rfl, rfl, ⟨[.int .i64 x.f3], [.int .i64 x.f4], rfl, rfl, rfl⟩⟩⟩⟩
theorem k74_openF {W : World} {ok : Nat → Prop} {x : S74} {cs : List Value} (h : Kd.FK k74 W ok x cs) : ∃ A0 c0, cs = [.slice A0 x.f0.length c0, .int .i64 x.f1, .int .i64 x.f2, .int .i64 x.f3, .int .i64 x.f4] ∧ x.f0.length ≤ c0 ∧ Kd.F k85 W ok A0 x.f0.length x.f0 := by
  obtain ⟨A0, c0, rfl, l0, _⟩ := k74_open (Kd.FK_now h)
  exact ⟨A0, c0, rfl, l0, (fun W' hW => by obtain ⟨A0_, c0_, he, l0_, g0_⟩ := k74_open (h W' hW); injection (Option.some.inj (show some (Value.slice A0 x.f0.length c0) = some (Value.slice A0_ x.f0.length c0_) from congrArg (fun l => l[0]?) he)) with ha_ _ _; rw [ha_]; exact g0_)⟩
theorem k74_mkF (W : World) (ok : Nat → Prop) (x : S74) {A0 : Option Addr} {c0 : Nat} (l0 : x.f0.length ≤ c0) (g0 : Kd.F k85 W ok A0 x.f0.length x.f0) : Kd.FK k74 W ok x [.slice A0 x.f0.length c0, .int .i64 x.f1, .int .i64 x.f2, .int .i64 x.f3, .int .i64 x.f4] := fun W2 hW => k74_mk W2 x l0 (g0 W2 hW)
def rd_T74 (xs : List S74) (i : Int) : S74 := xs.getD i.toNat z74
theorem at_T74 {w : World} {A : Option Addr} {n : Nat} {xs : List S74} (h : Kd.C k74 w A n xs) (i : Int) (h0 : 0 ≤ i) (h1 : i < n) : ∃ ad A0 c0, A = some ad ∧ w.cell? (ad.add (i.toNat * 5)) = some (.slice A0 (rd_T74 xs i).f0.length c0) ∧ w.cell? ⟨(ad.add (i.toNat * 5)).block, (ad.add (i.toNat * 5)).off + 1, none⟩ = some (.int .i64 (rd_T74 xs i).f1) ∧ w.cell? ⟨(ad.add (i.toNat * 5)).block, (ad.add (i.toNat * 5)).off + 2, none⟩ = some (.int .i64 (rd_T74 xs i).f2) ∧ w.cell? ⟨(ad.add (i.toNat * 5)).block, (ad.add (i.toNat * 5)).off + 3, none⟩ = some (.int .i64 (rd_T74 xs i).f3) ∧ w.cell? ⟨(ad.add (i.toNat * 5)).block, (ad.add (i.toNat * 5)).off + 4, none⟩ = some (.int .i64 (rd_T74 xs i).f4) ∧ (rd_T74 xs i).f0.length ≤ c0 ∧ k85.C w A0 (rd_T74 xs i).f0.length (rd_T74 xs i).f0 := by
  obtain ⟨ad, c, e, _, hK, hc0⟩ := Kd.C_get h z74 i h0 h1
  have hc : ∀ j u, c[j]? = some u → w.cell? (ad.add (i.toNat * 5 + j)) = some u := hc0
  obtain ⟨A0, c0, rfl, l0, g0⟩ := k74_open hK
  exact ⟨ad, A0, c0, e, hc 0 _ rfl, by rw [← add_field _ _ 1 (by omega)]; exact hc 1 _ rfl, by rw [← add_field _ _ 2 (by omega)]; exact hc 2 _ rfl, by rw [← add_field _ _ 3 (by omega)]; exact hc 3 _ rfl, by rw [← add_field _ _ 4 (by omega)]; exact hc 4 _ rfl, l0, g0⟩

def rd_L10 (xs : List (List Int)) (i : Int) : (List Int) := xs.getD i.toNat ([] : List Int)
theorem at_L10 {w : World} {A : Option Addr} {n : Nat} {xs : List (List Int)} (h : Kd.C (Kd.slice 21 (Kd.int .i32)) w A n xs) (i : Int) (h0 : 0 ≤ i) (h1 : i < n) : ∃ ad A0 c0, A = some ad ∧ w.cell? (ad.add i.toNat) = some (.slice A0 (rd_L10 xs i).length c0) ∧ (rd_L10 xs i).length ≤ c0 ∧ (Kd.int .i32).C w A0 (rd_L10 xs i).length (rd_L10 xs i) := by
  obtain ⟨ad, c, e, _, hK, hc0⟩ := Kd.C_get h ([] : List Int) i h0 h1
  have hc : ∀ j u, c[j]? = some u → w.cell? (ad.add (i.toNat * 1 + j)) = some u := hc0
  obtain ⟨A0, c0, rfl, l0, g0⟩ := hK
  exact ⟨ad, A0, c0, e, by have hq := hc 0 _ rfl; rwa [Nat.mul_one, Nat.add_zero] at hq, l0, g0⟩

end Go.Proofs.Ytoafkjeamgelgaa.PT
