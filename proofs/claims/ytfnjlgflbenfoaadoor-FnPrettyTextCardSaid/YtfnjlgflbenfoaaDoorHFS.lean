/- The library's contracts at this program. -/
import Derived.Shelf.LaysM
import Derived.Shelf.Small.Utf8
import Derived.Shelf.Strconv.Itoa0
import Derived.Shelf.Strconv.Itoa1
import Derived.Shelf.LaysM
import Derived.Shelf.Strconv.Itoa2
import Derived.Shelf.Strconv.Itoa3
import Derived.Shelf.Bytes.Len
import Derived.Shelf.Bytes.TryGrow
import Derived.Shelf.Bytes.GrowSliceCatch
import Derived.Shelf.Bytes.GrowSlice
import Derived.Shelf.Bytes.GrowNil
import Derived.Shelf.Bytes.String
import Derived.Shelf.Bytes.Reset
import Derived.Shelf.Bytes.GrowNilKept
import Derived.Shelf.Bytes.ResetKept
import Derived.Shelf.Bytes.GrowNilOwn
import Derived.Shelf.Bytes.LenAt
import Derived.Shelf.Bytes.StringAt
import Derived.Shelf.Bytes.TryGrowAt
import Derived.Shelf.Bytes.GrowNilAt
import Derived.Shelf.Strings.Prefix
import Derived.Shelf.Unicode.Decode
import Derived.Shelf.Unicode.DecodeSlow
import Derived.Shelf.Unicode.DecodeAny
import Derived.Shelf.Unicode.DecodeLast
import Derived.Test.YtfnjlgflbenfoaaDoorProg
namespace Go.Proofs
open Go.Shelf
def Tryd.laysM251_ren:Go.Shelf.Ren:=⟨fun | 251=>57 | n=>n,fun | 130=>89 | 3=>3 | 4=>4 | 0=>0 | 93=>73 | 37=>39 | 91=>71 | 5=>5 | n=>n,fun | n=>n⟩
theorem Tryd.laysM251:Go.Proofs.LaysM.n251 Tryd.prog Tryd.laysM251_ren:={
  mixed:=by kernel_rfl
  f251:=Tryd.func57.trans (congrArg some (by kernel_rfl))
  t0:=Tryd.underlying0
  a0:=Tryd.isAgg0
  z0:=Tryd.sizeOf0
  v0:=Tryd.zeroValue0
  t3:=Tryd.underlying3
  a3:=Tryd.isAgg3
  z3:=Tryd.sizeOf3
  v3:=Tryd.zeroValue3
  t4:=Tryd.underlying4
  a4:=Tryd.isAgg4
  z4:=Tryd.sizeOf4
  v4:=Tryd.zeroValue4
  t37:=Tryd.underlying39
  a37:=Tryd.isAgg39
  z37:=Tryd.sizeOf39
  v37:=Tryd.zeroValue39
  t93:=Tryd.underlying73
  a93:=Tryd.isAgg73
  z93:=Tryd.sizeOf73
  v93:=Tryd.zeroValue73
  t130:=Tryd.underlying89
  a130:=Tryd.isAgg89
  z130:=Tryd.sizeOf89
  v130:=Tryd.zeroValue89
  t5:=Tryd.underlying5
  a5:=Tryd.isAgg5
  z5:=Tryd.sizeOf5
  v5:=Tryd.zeroValue5
  t91:=Tryd.underlying71
  a91:=Tryd.isAgg71
  z91:=Tryd.sizeOf71
  v91:=Tryd.zeroValue71
  i0:=by kernel_rfl
  i3:=by kernel_rfl
  i4:=by kernel_rfl
  i5:=by kernel_rfl
  i37:=by kernel_rfl
  i91:=by kernel_rfl
  i93:=by kernel_rfl
  i130:=by kernel_rfl}
def Tryd.laysM324_ren:Go.Shelf.Ren:=⟨fun | 324=>81 | n=>n,fun | 20=>20 | 4=>4 | 75=>78 | 0=>0 | 80=>58 | 9=>9 | n=>n,fun | 14=>1 | n=>n⟩
theorem Tryd.laysM324:Go.Proofs.LaysM.n324 Tryd.prog Tryd.laysM324_ren:={
  mixed:=by kernel_rfl
  f324:=Tryd.func81.trans (congrArg some (by kernel_rfl))
  t0:=Tryd.underlying0
  a0:=Tryd.isAgg0
  z0:=Tryd.sizeOf0
  v0:=Tryd.zeroValue0
  t4:=Tryd.underlying4
  a4:=Tryd.isAgg4
  z4:=Tryd.sizeOf4
  v4:=Tryd.zeroValue4
  t20:=Tryd.underlying20
  a20:=Tryd.isAgg20
  z20:=Tryd.sizeOf20
  v20:=Tryd.zeroValue20
  t75:=Tryd.underlying78
  a75:=Tryd.isAgg78
  z75:=Tryd.sizeOf78
  v75:=Tryd.zeroValue78
  g14:=by kernel_rfl
  t9:=Tryd.underlying9
  a9:=Tryd.isAgg9
  z9:=Tryd.sizeOf9
  v9:=Tryd.zeroValue9
  t80:=Tryd.underlying58
  a80:=Tryd.isAgg58
  z80:=Tryd.sizeOf58
  v80:=Tryd.zeroValue58
  i0:=by kernel_rfl
  i4:=by kernel_rfl
  i9:=by kernel_rfl
  i20:=by kernel_rfl
  i75:=by kernel_rfl
  i80:=by kernel_rfl
  m14:=by kernel_rfl}
theorem Tryd.growSlice_catch_idle (w:World):
    CallsD Tryd.prog 81 #[] .returning w fun e u' w'=>e= .returned (.tuple #[])∧u'= .returning∧w'=w:=Any.growSlice_catch_idle Tryd.laysM324 w
def Tryd.laysM290_ren:Go.Shelf.Ren:=⟨fun | 290=>69 | 324=>81 | n=>n,fun | 37=>39 | 3=>3 | 0=>0 | 4=>4 | 20=>20 | 75=>78 | 5=>5 | 80=>58 | 9=>9 | n=>n,fun | 14=>1 | n=>n⟩
theorem Tryd.laysM290:Go.Proofs.LaysM.n290 Tryd.prog Tryd.laysM290_ren:={
  mixed:=by kernel_rfl
  f290:=Tryd.func69.trans (congrArg some (by kernel_rfl))
  f324:=Tryd.func81.trans (congrArg some (by kernel_rfl))
  t0:=Tryd.underlying0
  a0:=Tryd.isAgg0
  z0:=Tryd.sizeOf0
  v0:=Tryd.zeroValue0
  t3:=Tryd.underlying3
  a3:=Tryd.isAgg3
  z3:=Tryd.sizeOf3
  v3:=Tryd.zeroValue3
  t4:=Tryd.underlying4
  a4:=Tryd.isAgg4
  z4:=Tryd.sizeOf4
  v4:=Tryd.zeroValue4
  t20:=Tryd.underlying20
  a20:=Tryd.isAgg20
  z20:=Tryd.sizeOf20
  v20:=Tryd.zeroValue20
  t37:=Tryd.underlying39
  a37:=Tryd.isAgg39
  z37:=Tryd.sizeOf39
  v37:=Tryd.zeroValue39
  t75:=Tryd.underlying78
  a75:=Tryd.isAgg78
  z75:=Tryd.sizeOf78
  v75:=Tryd.zeroValue78
  g14:=by kernel_rfl
  t5:=Tryd.underlying5
  a5:=Tryd.isAgg5
  z5:=Tryd.sizeOf5
  v5:=Tryd.zeroValue5
  t9:=Tryd.underlying9
  a9:=Tryd.isAgg9
  z9:=Tryd.sizeOf9
  v9:=Tryd.zeroValue9
  t80:=Tryd.underlying58
  a80:=Tryd.isAgg58
  z80:=Tryd.sizeOf58
  v80:=Tryd.zeroValue58
  i0:=by kernel_rfl
  i3:=by kernel_rfl
  i4:=by kernel_rfl
  i5:=by kernel_rfl
  i9:=by kernel_rfl
  i20:=by kernel_rfl
  i37:=by kernel_rfl
  i75:=by kernel_rfl
  i80:=by kernel_rfl
  m14:=by kernel_rfl}
open Go.RowKit in
theorem Tryd.bytes_growSlice_nil (n:Nat) (w:World) (hn:1≤n) (hlim:n≤140737488355328):
    Calls Tryd.prog 69 #[.slice none 0 0,.int .i64 n] w fun e w'=>∃cap2 cells,e= .returned (.slice (some ⟨w.heap.size,0,none⟩) 0 cap2)∧w'.heap[w.heap.size]? =some (.cells cells 5 (0,0))∧
      cells.size=cap2∧n≤cap2∧cap2≤maxLen∧Below w.heap.size w w':=Any.bytes_growSlice_nil Tryd.laysM290 n w hn hlim
def Tryd.laysM182_ren:Go.Shelf.Ren:=⟨fun | 182=>44 | n=>n,fun | 130=>89 | 9=>9 | 4=>4 | 0=>0 | 93=>73 | 37=>39 | 3=>3 | 91=>71 | 5=>5 | n=>n,fun | n=>n⟩
theorem Tryd.laysM182:Go.Proofs.LaysM.n182 Tryd.prog Tryd.laysM182_ren:={
  mixed:=by kernel_rfl
  f182:=Tryd.func44.trans (congrArg some (by kernel_rfl))
  t0:=Tryd.underlying0
  a0:=Tryd.isAgg0
  z0:=Tryd.sizeOf0
  v0:=Tryd.zeroValue0
  t3:=Tryd.underlying3
  a3:=Tryd.isAgg3
  z3:=Tryd.sizeOf3
  v3:=Tryd.zeroValue3
  t4:=Tryd.underlying4
  a4:=Tryd.isAgg4
  z4:=Tryd.sizeOf4
  v4:=Tryd.zeroValue4
  t9:=Tryd.underlying9
  a9:=Tryd.isAgg9
  z9:=Tryd.sizeOf9
  v9:=Tryd.zeroValue9
  t37:=Tryd.underlying39
  a37:=Tryd.isAgg39
  z37:=Tryd.sizeOf39
  v37:=Tryd.zeroValue39
  t93:=Tryd.underlying73
  a93:=Tryd.isAgg73
  z93:=Tryd.sizeOf73
  v93:=Tryd.zeroValue73
  t130:=Tryd.underlying89
  a130:=Tryd.isAgg89
  z130:=Tryd.sizeOf89
  v130:=Tryd.zeroValue89
  t5:=Tryd.underlying5
  a5:=Tryd.isAgg5
  z5:=Tryd.sizeOf5
  v5:=Tryd.zeroValue5
  t91:=Tryd.underlying71
  a91:=Tryd.isAgg71
  z91:=Tryd.sizeOf71
  v91:=Tryd.zeroValue71
  i0:=by kernel_rfl
  i3:=by kernel_rfl
  i4:=by kernel_rfl
  i5:=by kernel_rfl
  i9:=by kernel_rfl
  i37:=by kernel_rfl
  i91:=by kernel_rfl
  i93:=by kernel_rfl
  i130:=by kernel_rfl}
open Go.RowKit in
theorem Tryd.Buffer_tryGrow_room_at (b q:Nat) (ao:Option Addr) (l cap n:Nat) (w:World) (c0:w.cell? ⟨b,q,none⟩=some (.slice ao l cap)) (f0:w.frozen? ⟨b,q,none⟩=false) (hlc:l≤cap) (hcap:cap≤maxLen) (hn:n≤cap - l):
    Calls Tryd.prog 57 #[.pointer (some ⟨b,q,none⟩),.int .i64 n] w fun e w'=>e= .returned (.tuple #[.int .i64 l,.bool true])∧w'=w.setCell ⟨b,q,none⟩ (.slice ao (l+n) cap):=Any.Buffer_tryGrow_room_at Tryd.laysM251 b q ao l cap n w c0 f0 hlc hcap hn
open Go.RowKit in
theorem Tryd.Buffer_tryGrow_none_at (b q:Nat) (ao:Option Addr) (l cap n:Nat) (w:World) (c0:w.cell? ⟨b,q,none⟩=some (.slice ao l cap)) (hlc:l≤cap) (hcap:cap≤maxLen) (hn:cap - l < n):
    Calls Tryd.prog 57 #[.pointer (some ⟨b,q,none⟩),.int .i64 n] w fun e w'=>e= .returned (.tuple #[.int .i64 0,.bool false])∧w'=w:=Any.Buffer_tryGrow_none_at Tryd.laysM251 b q ao l cap n w c0 hlc hcap hn
def Tryd.laysM178_ren:Go.Shelf.Ren:=⟨fun | 178=>43 | 251=>57 | 252=>58 | 181=>67 | 184=>68 | 290=>69 | 324=>81 | n=>n,fun | 130=>89 | 9=>9 | 3=>3 | 75=>78 | 0=>0 | 93=>73 | 91=>71 | 131=>90 | 4=>4 | 37=>39 | 20=>20 | 80=>58 | 5=>5 | n=>n,fun | 14=>1 | n=>n⟩
theorem Tryd.laysM178:Go.Proofs.LaysM.n178 Tryd.prog Tryd.laysM178_ren:={
  mixed:=by kernel_rfl
  f178:=Tryd.func43.trans (congrArg some (by kernel_rfl))
  f181:=Tryd.func67.trans (congrArg some (by kernel_rfl))
  f184:=Tryd.func68.trans (congrArg some (by kernel_rfl))
  f251:=Tryd.func57.trans (congrArg some (by kernel_rfl))
  f252:=Tryd.func58.trans (congrArg some (by kernel_rfl))
  f290:=Tryd.func69.trans (congrArg some (by kernel_rfl))
  f324:=Tryd.func81.trans (congrArg some (by kernel_rfl))
  t0:=Tryd.underlying0
  a0:=Tryd.isAgg0
  z0:=Tryd.sizeOf0
  v0:=Tryd.zeroValue0
  t3:=Tryd.underlying3
  a3:=Tryd.isAgg3
  z3:=Tryd.sizeOf3
  v3:=Tryd.zeroValue3
  t4:=Tryd.underlying4
  a4:=Tryd.isAgg4
  z4:=Tryd.sizeOf4
  v4:=Tryd.zeroValue4
  t9:=Tryd.underlying9
  a9:=Tryd.isAgg9
  z9:=Tryd.sizeOf9
  v9:=Tryd.zeroValue9
  t20:=Tryd.underlying20
  a20:=Tryd.isAgg20
  z20:=Tryd.sizeOf20
  v20:=Tryd.zeroValue20
  t37:=Tryd.underlying39
  a37:=Tryd.isAgg39
  z37:=Tryd.sizeOf39
  v37:=Tryd.zeroValue39
  t75:=Tryd.underlying78
  a75:=Tryd.isAgg78
  z75:=Tryd.sizeOf78
  v75:=Tryd.zeroValue78
  t91:=Tryd.underlying71
  a91:=Tryd.isAgg71
  z91:=Tryd.sizeOf71
  v91:=Tryd.zeroValue71
  t93:=Tryd.underlying73
  a93:=Tryd.isAgg73
  z93:=Tryd.sizeOf73
  v93:=Tryd.zeroValue73
  t130:=Tryd.underlying89
  a130:=Tryd.isAgg89
  z130:=Tryd.sizeOf89
  v130:=Tryd.zeroValue89
  t131:=Tryd.underlying90
  a131:=Tryd.isAgg90
  z131:=Tryd.sizeOf90
  v131:=Tryd.zeroValue90
  g14:=by kernel_rfl
  t5:=Tryd.underlying5
  a5:=Tryd.isAgg5
  z5:=Tryd.sizeOf5
  v5:=Tryd.zeroValue5
  t80:=Tryd.underlying58
  a80:=Tryd.isAgg58
  z80:=Tryd.sizeOf58
  v80:=Tryd.zeroValue58
  i0:=by kernel_rfl
  i3:=by kernel_rfl
  i4:=by kernel_rfl
  i5:=by kernel_rfl
  i9:=by kernel_rfl
  i20:=by kernel_rfl
  i37:=by kernel_rfl
  i75:=by kernel_rfl
  i80:=by kernel_rfl
  i91:=by kernel_rfl
  i93:=by kernel_rfl
  i130:=by kernel_rfl
  i131:=by kernel_rfl
  m14:=by kernel_rfl}
end Go.Proofs
