/- The library's contracts at this program. -/
import Derived.Shelf.LaysM
import Derived.Shelf.Small.Utf8
import Derived.Shelf.LaysM
import Derived.Shelf.Bytes.Len
import Derived.Shelf.Bytes.TryGrow
import Derived.Shelf.Bytes.GrowSliceCatch
import Derived.Shelf.Bytes.GrowSlice
import Derived.Shelf.Bytes.GrowRow0
import Derived.Shelf.Bytes.GrowNil
import Derived.Shelf.Bytes.String
import Derived.Shelf.Bytes.Reset
import Derived.Shelf.Bytes.GrowRow0Kept
import Derived.Shelf.Bytes.GrowNilKept
import Derived.Shelf.Bytes.ResetKept
import Derived.Shelf.Strings.LastIndex
import Derived.Shelf.Strings.LastIndexAll
import Derived.Shelf.Bytes.GrowRow0Own
import Derived.Shelf.Bytes.GrowNilOwn
import Derived.Shelf.Bytes.LenAt
import Derived.Shelf.Bytes.StringAt
import Derived.Shelf.Bytes.TryGrowAt
import Derived.Shelf.Bytes.GrowRow0At
import Derived.Shelf.Bytes.GrowNilAt
import Derived.Shelf.Strings.Prefix
import Derived.Shelf.Unicode.Decode
import Derived.Shelf.Unicode.DecodeSlow
import Derived.Shelf.Unicode.DecodeAny
import Derived.Shelf.Unicode.DecodeLast
import Derived.Test.YtoafkjeamgelgaaDoorProg
namespace Go.Proofs
open Go.Shelf
def Tryd.laysM251_ren:Go.Shelf.Ren:=⟨fun | 251=>67 | n=>n,fun | 130=>87 | 3=>3 | 4=>4 | 0=>0 | 93=>70 | 37=>22 | 91=>68 | 5=>5 | n=>n,fun | n=>n⟩
theorem Tryd.laysM251:Go.Proofs.LaysM.n251 Tryd.prog Tryd.laysM251_ren:={
  mixed:=by kernel_rfl
  f251:=Tryd.func67.trans (congrArg some (by kernel_rfl))
  t0:=Tryd.underlying0
  a0:=Tryd.isAgg0
  z0:=Tryd.sizeOf0
  v0:=Tryd.zeroValue0
  t3:=Tryd.underlying3
  a3:=Tryd.isAgg3
  z3:=Tryd.sizeOf3
  v3:=Tryd.zeroValue3
  t4:=Tryd.underlying4
  a4:=Tryd.isAgg4
  z4:=Tryd.sizeOf4
  v4:=Tryd.zeroValue4
  t37:=Tryd.underlying22
  a37:=Tryd.isAgg22
  z37:=Tryd.sizeOf22
  v37:=Tryd.zeroValue22
  t93:=Tryd.underlying70
  a93:=Tryd.isAgg70
  z93:=Tryd.sizeOf70
  v93:=Tryd.zeroValue70
  t130:=Tryd.underlying87
  a130:=Tryd.isAgg87
  z130:=Tryd.sizeOf87
  v130:=Tryd.zeroValue87
  t5:=Tryd.underlying5
  a5:=Tryd.isAgg5
  z5:=Tryd.sizeOf5
  v5:=Tryd.zeroValue5
  t91:=Tryd.underlying68
  a91:=Tryd.isAgg68
  z91:=Tryd.sizeOf68
  v91:=Tryd.zeroValue68
  i0:=by kernel_rfl
  i3:=by kernel_rfl
  i4:=by kernel_rfl
  i5:=by kernel_rfl
  i37:=by kernel_rfl
  i91:=by kernel_rfl
  i93:=by kernel_rfl
  i130:=by kernel_rfl}
def Tryd.laysM324_ren:Go.Shelf.Ren:=⟨fun | 324=>85 | n=>n,fun | 20=>20 | 4=>4 | 75=>75 | 0=>0 | 80=>78 | 9=>9 | n=>n,fun | 14=>0 | n=>n⟩
theorem Tryd.laysM324:Go.Proofs.LaysM.n324 Tryd.prog Tryd.laysM324_ren:={
  mixed:=by kernel_rfl
  f324:=Tryd.func85.trans (congrArg some (by kernel_rfl))
  t0:=Tryd.underlying0
  a0:=Tryd.isAgg0
  z0:=Tryd.sizeOf0
  v0:=Tryd.zeroValue0
  t4:=Tryd.underlying4
  a4:=Tryd.isAgg4
  z4:=Tryd.sizeOf4
  v4:=Tryd.zeroValue4
  t20:=Tryd.underlying20
  a20:=Tryd.isAgg20
  z20:=Tryd.sizeOf20
  v20:=Tryd.zeroValue20
  t75:=Tryd.underlying75
  a75:=Tryd.isAgg75
  z75:=Tryd.sizeOf75
  v75:=Tryd.zeroValue75
  g14:=by kernel_rfl
  t9:=Tryd.underlying9
  a9:=Tryd.isAgg9
  z9:=Tryd.sizeOf9
  v9:=Tryd.zeroValue9
  t80:=Tryd.underlying78
  a80:=Tryd.isAgg78
  z80:=Tryd.sizeOf78
  v80:=Tryd.zeroValue78
  i0:=by kernel_rfl
  i4:=by kernel_rfl
  i9:=by kernel_rfl
  i20:=by kernel_rfl
  i75:=by kernel_rfl
  i80:=by kernel_rfl
  m14:=by kernel_rfl}
theorem Tryd.growSlice_catch_idle (w:World):
    CallsD Tryd.prog 85 #[] .returning w fun e u' w'=>e= .returned (.tuple #[])∧u'= .returning∧w'=w:=Any.growSlice_catch_idle Tryd.laysM324 w
def Tryd.laysM290_ren:Go.Shelf.Ren:=⟨fun | 290=>80 | 324=>85 | n=>n,fun | 37=>22 | 3=>3 | 0=>0 | 4=>4 | 20=>20 | 75=>75 | 5=>5 | 80=>78 | 9=>9 | n=>n,fun | 14=>0 | n=>n⟩
theorem Tryd.laysM290:Go.Proofs.LaysM.n290 Tryd.prog Tryd.laysM290_ren:={
  mixed:=by kernel_rfl
  f290:=Tryd.func80.trans (congrArg some (by kernel_rfl))
  f324:=Tryd.func85.trans (congrArg some (by kernel_rfl))
  t0:=Tryd.underlying0
  a0:=Tryd.isAgg0
  z0:=Tryd.sizeOf0
  v0:=Tryd.zeroValue0
  t3:=Tryd.underlying3
  a3:=Tryd.isAgg3
  z3:=Tryd.sizeOf3
  v3:=Tryd.zeroValue3
  t4:=Tryd.underlying4
  a4:=Tryd.isAgg4
  z4:=Tryd.sizeOf4
  v4:=Tryd.zeroValue4
  t20:=Tryd.underlying20
  a20:=Tryd.isAgg20
  z20:=Tryd.sizeOf20
  v20:=Tryd.zeroValue20
  t37:=Tryd.underlying22
  a37:=Tryd.isAgg22
  z37:=Tryd.sizeOf22
  v37:=Tryd.zeroValue22
  t75:=Tryd.underlying75
  a75:=Tryd.isAgg75
  z75:=Tryd.sizeOf75
  v75:=Tryd.zeroValue75
  g14:=by kernel_rfl
  t5:=Tryd.underlying5
  a5:=Tryd.isAgg5
  z5:=Tryd.sizeOf5
  v5:=Tryd.zeroValue5
  t9:=Tryd.underlying9
  a9:=Tryd.isAgg9
  z9:=Tryd.sizeOf9
  v9:=Tryd.zeroValue9
  t80:=Tryd.underlying78
  a80:=Tryd.isAgg78
  z80:=Tryd.sizeOf78
  v80:=Tryd.zeroValue78
  i0:=by kernel_rfl
  i3:=by kernel_rfl
  i4:=by kernel_rfl
  i5:=by kernel_rfl
  i9:=by kernel_rfl
  i20:=by kernel_rfl
  i37:=by kernel_rfl
  i75:=by kernel_rfl
  i80:=by kernel_rfl
  m14:=by kernel_rfl}
open Go.RowKit in
theorem Tryd.bytes_growSlice_nil (n:Nat) (w:World) (hn:1≤n) (hlim:n≤140737488355328):
    Calls Tryd.prog 80 #[.slice none 0 0,.int .i64 n] w fun e w'=>∃cap2 cells,e= .returned (.slice (some ⟨w.heap.size,0,none⟩) 0 cap2)∧w'.heap[w.heap.size]? =some (.cells cells 5 (0,0))∧
      cells.size=cap2∧n≤cap2∧cap2≤maxLen∧Below w.heap.size w w':=Any.bytes_growSlice_nil Tryd.laysM290 n w hn hlim
def Tryd.laysM182_ren:Go.Shelf.Ren:=⟨fun | 182=>53 | n=>n,fun | 130=>87 | 9=>9 | 4=>4 | 0=>0 | 93=>70 | 37=>22 | 3=>3 | 91=>68 | 5=>5 | n=>n,fun | n=>n⟩
theorem Tryd.laysM182:Go.Proofs.LaysM.n182 Tryd.prog Tryd.laysM182_ren:={
  mixed:=by kernel_rfl
  f182:=Tryd.func53.trans (congrArg some (by kernel_rfl))
  t0:=Tryd.underlying0
  a0:=Tryd.isAgg0
  z0:=Tryd.sizeOf0
  v0:=Tryd.zeroValue0
  t3:=Tryd.underlying3
  a3:=Tryd.isAgg3
  z3:=Tryd.sizeOf3
  v3:=Tryd.zeroValue3
  t4:=Tryd.underlying4
  a4:=Tryd.isAgg4
  z4:=Tryd.sizeOf4
  v4:=Tryd.zeroValue4
  t9:=Tryd.underlying9
  a9:=Tryd.isAgg9
  z9:=Tryd.sizeOf9
  v9:=Tryd.zeroValue9
  t37:=Tryd.underlying22
  a37:=Tryd.isAgg22
  z37:=Tryd.sizeOf22
  v37:=Tryd.zeroValue22
  t93:=Tryd.underlying70
  a93:=Tryd.isAgg70
  z93:=Tryd.sizeOf70
  v93:=Tryd.zeroValue70
  t130:=Tryd.underlying87
  a130:=Tryd.isAgg87
  z130:=Tryd.sizeOf87
  v130:=Tryd.zeroValue87
  t5:=Tryd.underlying5
  a5:=Tryd.isAgg5
  z5:=Tryd.sizeOf5
  v5:=Tryd.zeroValue5
  t91:=Tryd.underlying68
  a91:=Tryd.isAgg68
  z91:=Tryd.sizeOf68
  v91:=Tryd.zeroValue68
  i0:=by kernel_rfl
  i3:=by kernel_rfl
  i4:=by kernel_rfl
  i5:=by kernel_rfl
  i9:=by kernel_rfl
  i37:=by kernel_rfl
  i91:=by kernel_rfl
  i93:=by kernel_rfl
  i130:=by kernel_rfl}
open Go.RowKit in
theorem Tryd.Buffer_tryGrow_room_at (b q:Nat) (ao:Option Addr) (l cap n:Nat) (w:World) (c0:w.cell? ⟨b,q,none⟩=some (.slice ao l cap)) (f0:w.frozen? ⟨b,q,none⟩=false) (hlc:l≤cap) (hcap:cap≤maxLen) (hn:n≤cap - l):
    Calls Tryd.prog 67 #[.pointer (some ⟨b,q,none⟩),.int .i64 n] w fun e w'=>e= .returned (.tuple #[.int .i64 l,.bool true])∧w'=w.setCell ⟨b,q,none⟩ (.slice ao (l+n) cap):=Any.Buffer_tryGrow_room_at Tryd.laysM251 b q ao l cap n w c0 f0 hlc hcap hn
open Go.RowKit in
theorem Tryd.Buffer_tryGrow_none_at (b q:Nat) (ao:Option Addr) (l cap n:Nat) (w:World) (c0:w.cell? ⟨b,q,none⟩=some (.slice ao l cap)) (hlc:l≤cap) (hcap:cap≤maxLen) (hn:cap - l < n):
    Calls Tryd.prog 67 #[.pointer (some ⟨b,q,none⟩),.int .i64 n] w fun e w'=>e= .returned (.tuple #[.int .i64 0,.bool false])∧w'=w:=Any.Buffer_tryGrow_none_at Tryd.laysM251 b q ao l cap n w c0 hlc hcap hn
def Tryd.laysM178_ren:Go.Shelf.Ren:=⟨fun | 178=>52 | 251=>67 | 252=>68 | 181=>78 | 184=>79 | 290=>80 | 324=>85 | n=>n,fun | 130=>87 | 9=>9 | 3=>3 | 75=>75 | 0=>0 | 93=>70 | 91=>68 | 131=>88 | 4=>4 | 37=>22 | 20=>20 | 80=>78 | 5=>5 | n=>n,fun | 14=>0 | n=>n⟩
theorem Tryd.laysM178:Go.Proofs.LaysM.n178 Tryd.prog Tryd.laysM178_ren:={
  mixed:=by kernel_rfl
  f178:=Tryd.func52.trans (congrArg some (by kernel_rfl))
  f181:=Tryd.func78.trans (congrArg some (by kernel_rfl))
  f184:=Tryd.func79.trans (congrArg some (by kernel_rfl))
  f251:=Tryd.func67.trans (congrArg some (by kernel_rfl))
  f252:=Tryd.func68.trans (congrArg some (by kernel_rfl))
  f290:=Tryd.func80.trans (congrArg some (by kernel_rfl))
  f324:=Tryd.func85.trans (congrArg some (by kernel_rfl))
  t0:=Tryd.underlying0
  a0:=Tryd.isAgg0
  z0:=Tryd.sizeOf0
  v0:=Tryd.zeroValue0
  t3:=Tryd.underlying3
  a3:=Tryd.isAgg3
  z3:=Tryd.sizeOf3
  v3:=Tryd.zeroValue3
  t4:=Tryd.underlying4
  a4:=Tryd.isAgg4
  z4:=Tryd.sizeOf4
  v4:=Tryd.zeroValue4
  t9:=Tryd.underlying9
  a9:=Tryd.isAgg9
  z9:=Tryd.sizeOf9
  v9:=Tryd.zeroValue9
  t20:=Tryd.underlying20
  a20:=Tryd.isAgg20
  z20:=Tryd.sizeOf20
  v20:=Tryd.zeroValue20
  t37:=Tryd.underlying22
  a37:=Tryd.isAgg22
  z37:=Tryd.sizeOf22
  v37:=Tryd.zeroValue22
  t75:=Tryd.underlying75
  a75:=Tryd.isAgg75
  z75:=Tryd.sizeOf75
  v75:=Tryd.zeroValue75
  t91:=Tryd.underlying68
  a91:=Tryd.isAgg68
  z91:=Tryd.sizeOf68
  v91:=Tryd.zeroValue68
  t93:=Tryd.underlying70
  a93:=Tryd.isAgg70
  z93:=Tryd.sizeOf70
  v93:=Tryd.zeroValue70
  t130:=Tryd.underlying87
  a130:=Tryd.isAgg87
  z130:=Tryd.sizeOf87
  v130:=Tryd.zeroValue87
  t131:=Tryd.underlying88
  a131:=Tryd.isAgg88
  z131:=Tryd.sizeOf88
  v131:=Tryd.zeroValue88
  g14:=by kernel_rfl
  t5:=Tryd.underlying5
  a5:=Tryd.isAgg5
  z5:=Tryd.sizeOf5
  v5:=Tryd.zeroValue5
  t80:=Tryd.underlying78
  a80:=Tryd.isAgg78
  z80:=Tryd.sizeOf78
  v80:=Tryd.zeroValue78
  i0:=by kernel_rfl
  i3:=by kernel_rfl
  i4:=by kernel_rfl
  i5:=by kernel_rfl
  i9:=by kernel_rfl
  i20:=by kernel_rfl
  i37:=by kernel_rfl
  i75:=by kernel_rfl
  i80:=by kernel_rfl
  i91:=by kernel_rfl
  i93:=by kernel_rfl
  i130:=by kernel_rfl
  i131:=by kernel_rfl
  m14:=by kernel_rfl}
end Go.Proofs
