/- The library's contracts at this program. -/
import Derived.Shelf.Lays7
import Derived.Shelf.Spec.DecodeRune
import Derived.Shelf.Strings.Builder1
import Derived.Shelf.Strings.Builder2
import Derived.Shelf.Strings.OnBuilder
import Derived.Shelf.Small.Utf8
import Derived.Shelf.Utf8.RuneCount
import Derived.Shelf.Strconv.Itoa0
import Derived.Shelf.Strconv.Itoa1
import Derived.Shelf.LaysM
import Derived.Shelf.Strconv.Itoa2
import Derived.Shelf.Strconv.Itoa3
import Derived.Shelf.Bytes.GrowSliceCatch
import Derived.Shelf.Bytes.GrowSlice
import Derived.Shelf.Bytes.LenAt
import Derived.Shelf.Bytes.TryGrowAt
import Derived.Shelf.Bytes.GrowNilAt
import Derived.Shelf.Unicode.Decode
import Derived.Shelf.Strings.RuneCount
import Derived.Shelf.Unicode.DecodeSlow
import Derived.Shelf.Unicode.DecodeAny
import Derived.Shelf.Unicode.DecodeLast
import Derived.Test.YthkiaiilpaojnaaDoorProg
namespace Go.Proofs
open Go.Shelf
def Tryd.lays156_ren:Go.Shelf.Ren:=⟨fun | 156=>139 | 165=>118 | 166=>160 | 169=>120 | 240=>144 | 241=>145 | 276=>167 | 277=>168 | n=>n,fun | 31=>33 | 9=>9 | 3=>3 | 4=>4 | 0=>0 | 20=>20 | 72=>173 | 76=>126 | 70=>171 | 37=>39 | 75=>76 | 127=>195 | 164=>213 | 5=>5 | 80=>138 | n=>n,fun | n=>n⟩
theorem Tryd.lays156:Go.Proofs.Lays.n156 Tryd.prog Tryd.lays156_ren:={
  mixed:=by kernel_rfl
  f156:=Tryd.func139.trans (congrArg some (by kernel_rfl))
  f165:=Tryd.func118.trans (congrArg some (by kernel_rfl))
  f166:=Tryd.func160.trans (congrArg some (by kernel_rfl))
  f169:=Tryd.func120.trans (congrArg some (by kernel_rfl))
  f240:=Tryd.func144.trans (congrArg some (by kernel_rfl))
  f241:=Tryd.func145.trans (congrArg some (by kernel_rfl))
  f276:=Tryd.func167.trans (congrArg some (by kernel_rfl))
  f277:=Tryd.func168.trans (congrArg some (by kernel_rfl))
  t0:=Tryd.underlying0
  a0:=Tryd.isAgg0
  z0:=Tryd.sizeOf0
  v0:=Tryd.zeroValue0
  t3:=Tryd.underlying3
  a3:=Tryd.isAgg3
  z3:=Tryd.sizeOf3
  v3:=Tryd.zeroValue3
  t4:=Tryd.underlying4
  a4:=Tryd.isAgg4
  z4:=Tryd.sizeOf4
  v4:=Tryd.zeroValue4
  t9:=Tryd.underlying9
  a9:=Tryd.isAgg9
  z9:=Tryd.sizeOf9
  v9:=Tryd.zeroValue9
  t20:=Tryd.underlying20
  a20:=Tryd.isAgg20
  z20:=Tryd.sizeOf20
  v20:=Tryd.zeroValue20
  t31:=Tryd.underlying33
  a31:=Tryd.isAgg33
  z31:=Tryd.sizeOf33
  v31:=Tryd.zeroValue33
  t37:=Tryd.underlying39
  a37:=Tryd.isAgg39
  z37:=Tryd.sizeOf39
  v37:=Tryd.zeroValue39
  t70:=Tryd.underlying171
  a70:=Tryd.isAgg171
  z70:=Tryd.sizeOf171
  v70:=Tryd.zeroValue171
  t72:=Tryd.underlying173
  a72:=Tryd.isAgg173
  z72:=Tryd.sizeOf173
  v72:=Tryd.zeroValue173
  t75:=Tryd.underlying76
  a75:=Tryd.isAgg76
  z75:=Tryd.sizeOf76
  v75:=Tryd.zeroValue76
  t76:=Tryd.underlying126
  a76:=Tryd.isAgg126
  z76:=Tryd.sizeOf126
  v76:=Tryd.zeroValue126
  t127:=Tryd.underlying195
  a127:=Tryd.isAgg195
  z127:=Tryd.sizeOf195
  v127:=Tryd.zeroValue195
  t164:=Tryd.underlying213
  a164:=Tryd.isAgg213
  z164:=Tryd.sizeOf213
  v164:=Tryd.zeroValue213}
theorem Tryd.Builder_Extra_156:Builder.Extra Tryd.prog Tryd.lays156_ren:={
  sizeBuilder:=by kernel_rfl
  liesBuilder:=by kernel_rfl
  t5:=Tryd.underlying5
  a5:=Tryd.isAgg5
  z5:=Tryd.sizeOf5
  v5:=Tryd.zeroValue5
  infoByte:=by kernel_rfl
  cellsByte:=by kernel_rfl
  sizeByte:=by kernel_rfl
  neB5:=by decide}
open Go.RowKit in
theorem Tryd.strings_Join_none (a:Option Addr) (c:Nat) (sep:ByteArray) (w:World):
    Calls Tryd.prog 139 #[.slice a 0 c,.string sep] w fun e w'=>e= .returned (.string ⟨#[]⟩)∧w'=w:=Any.strings_Join_none Tryd.lays156 Tryd.Builder_Extra_156 a c sep w
open Go.RowKit in
theorem Tryd.strings_Join (bk o c:Nat) (xs:List ByteArray) (sep:ByteArray) (w:World) (hcells:∀(j:Nat) x,xs[j]? =some x→w.cell? ⟨bk,o+j,none⟩=some (.string x)) (hbk:bk < w.heap.size) (hN:xs.length≤140737488355328) (hcap:xs.length≤c) (hlen:(Lib.join (xs.map (·.data.toList)) sep.data.toList).length≤140737488355328):
    Calls Tryd.prog 139 #[.slice (some ⟨bk,o,none⟩) xs.length c,.string sep] w fun e w'=>e= .returned (.string ⟨(Lib.join (xs.map (·.data.toList)) sep.data.toList).toArray⟩)∧Below w.heap.size w w':=Any.strings_Join Tryd.lays156 Tryd.Builder_Extra_156 bk o c xs sep w hcells hbk hN hcap hlen
def Tryd.lays197_ren:Go.Shelf.Ren:=⟨fun | 197=>165 | 260=>189 | n=>n,fun | 9=>9 | 21=>21 | 3=>3 | 4=>4 | 5=>5 | 105=>211 | 119=>119 | 0=>0 | 46=>83 | 139=>122 | 138=>121 | n=>n,fun | 3=>0 | 4=>1 | n=>n⟩
theorem Tryd.lays197:Go.Proofs.Lays.n197 Tryd.prog Tryd.lays197_ren:={
  mixed:=by kernel_rfl
  f197:=Tryd.func165.trans (congrArg some (by kernel_rfl))
  f260:=Tryd.func189.trans (congrArg some (by kernel_rfl))
  t0:=Tryd.underlying0
  a0:=Tryd.isAgg0
  z0:=Tryd.sizeOf0
  v0:=Tryd.zeroValue0
  t3:=Tryd.underlying3
  a3:=Tryd.isAgg3
  z3:=Tryd.sizeOf3
  v3:=Tryd.zeroValue3
  t4:=Tryd.underlying4
  a4:=Tryd.isAgg4
  z4:=Tryd.sizeOf4
  v4:=Tryd.zeroValue4
  t5:=Tryd.underlying5
  a5:=Tryd.isAgg5
  z5:=Tryd.sizeOf5
  v5:=Tryd.zeroValue5
  t9:=Tryd.underlying9
  a9:=Tryd.isAgg9
  z9:=Tryd.sizeOf9
  v9:=Tryd.zeroValue9
  t21:=Tryd.underlying21
  a21:=Tryd.isAgg21
  z21:=Tryd.sizeOf21
  v21:=Tryd.zeroValue21
  t46:=Tryd.underlying83
  a46:=Tryd.isAgg83
  z46:=Tryd.sizeOf83
  v46:=Tryd.zeroValue83
  t105:=Tryd.underlying211
  a105:=Tryd.isAgg211
  z105:=Tryd.sizeOf211
  v105:=Tryd.zeroValue211
  t119:=Tryd.underlying119
  a119:=Tryd.isAgg119
  z119:=Tryd.sizeOf119
  t138:=Tryd.underlying121
  a138:=Tryd.isAgg121
  z138:=Tryd.sizeOf121
  v138:=Tryd.zeroValue121
  t139:=Tryd.underlying122
  a139:=Tryd.isAgg122
  z139:=Tryd.sizeOf122
  v139:=Tryd.zeroValue122
  g3:=by kernel_rfl
  g4:=by kernel_rfl}
def Tryd.lays260_ren:Go.Shelf.Ren:=⟨fun | 260=>189 | n=>n,fun | 9=>9 | 21=>21 | 3=>3 | 4=>4 | 5=>5 | 119=>119 | 0=>0 | 46=>83 | 139=>122 | 138=>121 | n=>n,fun | 3=>0 | 4=>1 | n=>n⟩
theorem Tryd.lays260:Go.Proofs.Lays.n260 Tryd.prog Tryd.lays260_ren:={
  mixed:=by kernel_rfl
  f260:=Tryd.func189.trans (congrArg some (by kernel_rfl))
  t0:=Tryd.underlying0
  a0:=Tryd.isAgg0
  z0:=Tryd.sizeOf0
  v0:=Tryd.zeroValue0
  t3:=Tryd.underlying3
  a3:=Tryd.isAgg3
  z3:=Tryd.sizeOf3
  v3:=Tryd.zeroValue3
  t4:=Tryd.underlying4
  a4:=Tryd.isAgg4
  z4:=Tryd.sizeOf4
  v4:=Tryd.zeroValue4
  t5:=Tryd.underlying5
  a5:=Tryd.isAgg5
  z5:=Tryd.sizeOf5
  v5:=Tryd.zeroValue5
  t9:=Tryd.underlying9
  a9:=Tryd.isAgg9
  z9:=Tryd.sizeOf9
  v9:=Tryd.zeroValue9
  t21:=Tryd.underlying21
  a21:=Tryd.isAgg21
  z21:=Tryd.sizeOf21
  v21:=Tryd.zeroValue21
  t46:=Tryd.underlying83
  a46:=Tryd.isAgg83
  z46:=Tryd.sizeOf83
  v46:=Tryd.zeroValue83
  t119:=Tryd.underlying119
  a119:=Tryd.isAgg119
  z119:=Tryd.sizeOf119
  t138:=Tryd.underlying121
  a138:=Tryd.isAgg121
  z138:=Tryd.sizeOf121
  v138:=Tryd.zeroValue121
  t139:=Tryd.underlying122
  a139:=Tryd.isAgg122
  z139:=Tryd.sizeOf122
  v139:=Tryd.zeroValue122
  g3:=by kernel_rfl
  g4:=by kernel_rfl}
open Go.RowKit Go.Lib in
theorem Tryd.utf8_DecodeRuneInString (s:ByteArray) (w:World) (hT:Lib.Utf8Tabs 0 1 w):
    Calls Tryd.prog 165 #[.string s] w fun e w'=>e= .returned (.tuple #[.int .i32 (Lib.decodeGo s).1,.int .i64 (Lib.decodeGo s).2])∧Below w.heap.size w w':=Any.utf8_DecodeRuneInString Tryd.lays197 s w hT
def Tryd.lays271_ren:Go.Shelf.Ren:=⟨fun | 271=>184 | 120=>200 | 197=>165 | 260=>189 | n=>n,fun | 9=>9 | 21=>21 | 3=>3 | 4=>4 | 5=>5 | 105=>211 | 119=>119 | 0=>0 | 46=>83 | 139=>122 | 138=>121 | n=>n,fun | 3=>0 | 4=>1 | n=>n⟩
theorem Tryd.lays271:Go.Proofs.Lays.n271 Tryd.prog Tryd.lays271_ren:={
  mixed:=by kernel_rfl
  f120:=Tryd.func200.trans (congrArg some (by kernel_rfl))
  f197:=Tryd.func165.trans (congrArg some (by kernel_rfl))
  f260:=Tryd.func189.trans (congrArg some (by kernel_rfl))
  f271:=Tryd.func184.trans (congrArg some (by kernel_rfl))
  t0:=Tryd.underlying0
  a0:=Tryd.isAgg0
  z0:=Tryd.sizeOf0
  v0:=Tryd.zeroValue0
  t3:=Tryd.underlying3
  a3:=Tryd.isAgg3
  z3:=Tryd.sizeOf3
  v3:=Tryd.zeroValue3
  t4:=Tryd.underlying4
  a4:=Tryd.isAgg4
  z4:=Tryd.sizeOf4
  v4:=Tryd.zeroValue4
  t5:=Tryd.underlying5
  a5:=Tryd.isAgg5
  z5:=Tryd.sizeOf5
  v5:=Tryd.zeroValue5
  t9:=Tryd.underlying9
  a9:=Tryd.isAgg9
  z9:=Tryd.sizeOf9
  v9:=Tryd.zeroValue9
  t21:=Tryd.underlying21
  a21:=Tryd.isAgg21
  z21:=Tryd.sizeOf21
  v21:=Tryd.zeroValue21
  t46:=Tryd.underlying83
  a46:=Tryd.isAgg83
  z46:=Tryd.sizeOf83
  v46:=Tryd.zeroValue83
  t105:=Tryd.underlying211
  a105:=Tryd.isAgg211
  z105:=Tryd.sizeOf211
  v105:=Tryd.zeroValue211
  t119:=Tryd.underlying119
  a119:=Tryd.isAgg119
  z119:=Tryd.sizeOf119
  t138:=Tryd.underlying121
  a138:=Tryd.isAgg121
  z138:=Tryd.sizeOf121
  v138:=Tryd.zeroValue121
  t139:=Tryd.underlying122
  a139:=Tryd.isAgg122
  z139:=Tryd.sizeOf122
  v139:=Tryd.zeroValue122
  g3:=by kernel_rfl
  g4:=by kernel_rfl}
open Go.RowKit Go.Lib in
theorem Tryd.utf8_DecodeLastRuneInString (s:ByteArray) (w:World) (hs:s.size≤9223372036854775807) (hT:Lib.Utf8Tabs 0 1 w):
    Calls Tryd.prog 184 #[.string s] w fun e w'=>e= .returned (.tuple #[.int .i32 (Lib.decodeLastL s.data.toList).1,.int .i64 (Lib.decodeLastL s.data.toList).2])∧Below w.heap.size w w':=Any.utf8_DecodeLastRuneInString Tryd.lays271 s w hs hT
def Tryd.lays7x32_ren:Go.Shelf.Ren:=⟨fun | 32=>194 | 49=>201 | n=>n,fun | 30=>39 | 21=>21 | 3=>3 | 0=>0 | 5=>5 | 4=>4 | 33=>211 | 66=>119 | 25=>83 | 69=>122 | 68=>121 | n=>n,fun | 2=>0 | 3=>1 | n=>n⟩
theorem Tryd.lays7x32:Go.Proofs.Lays7.n32 Tryd.prog Tryd.lays7x32_ren:={
  mixed:=by kernel_rfl
  f32:=Tryd.func194.trans (congrArg some (by kernel_rfl))
  f49:=Tryd.func201.trans (congrArg some (by kernel_rfl))
  t0:=Tryd.underlying0
  a0:=Tryd.isAgg0
  z0:=Tryd.sizeOf0
  v0:=Tryd.zeroValue0
  i0:=by kernel_rfl
  t3:=Tryd.underlying3
  a3:=Tryd.isAgg3
  z3:=Tryd.sizeOf3
  v3:=Tryd.zeroValue3
  i3:=by kernel_rfl
  t4:=Tryd.underlying4
  a4:=Tryd.isAgg4
  z4:=Tryd.sizeOf4
  v4:=Tryd.zeroValue4
  i4:=by kernel_rfl
  t5:=Tryd.underlying5
  a5:=Tryd.isAgg5
  z5:=Tryd.sizeOf5
  v5:=Tryd.zeroValue5
  i5:=by kernel_rfl
  t21:=Tryd.underlying21
  a21:=Tryd.isAgg21
  z21:=Tryd.sizeOf21
  v21:=Tryd.zeroValue21
  i21:=by kernel_rfl
  t25:=Tryd.underlying83
  a25:=Tryd.isAgg83
  z25:=Tryd.sizeOf83
  v25:=Tryd.zeroValue83
  i25:=by kernel_rfl
  t30:=Tryd.underlying39
  a30:=Tryd.isAgg39
  z30:=Tryd.sizeOf39
  v30:=Tryd.zeroValue39
  i30:=by kernel_rfl
  t33:=Tryd.underlying211
  a33:=Tryd.isAgg211
  z33:=Tryd.sizeOf211
  v33:=Tryd.zeroValue211
  i33:=by kernel_rfl
  t66:=Tryd.underlying119
  a66:=Tryd.isAgg119
  z66:=Tryd.sizeOf119
  t68:=Tryd.underlying121
  a68:=Tryd.isAgg121
  z68:=Tryd.sizeOf121
  v68:=Tryd.zeroValue121
  i68:=by kernel_rfl
  t69:=Tryd.underlying122
  a69:=Tryd.isAgg122
  z69:=Tryd.sizeOf122
  v69:=Tryd.zeroValue122
  i69:=by kernel_rfl
  g2:=by kernel_rfl
  g3:=by kernel_rfl}
open Go.RowKit Go.Lib in
theorem Tryd.utf8_DecodeRune (s:ByteArray) (b off cap:Nat) (w:World) (hT:Lib.Utf8Tabs 0 1 w) (hp:∀j,j < s.size→w.cell? ⟨b,off+j,none⟩=some (.int .u8 (s.get! j).toNat)):
    Calls Tryd.prog 194 #[.slice (some ⟨b,off,none⟩) s.size cap] w fun e w'=>e= .returned (.tuple #[.int .i32 (Lib.decodeGo s).1,.int .i64 (Lib.decodeGo s).2])∧Below w.heap.size w w':=Any7.utf8_DecodeRune Tryd.lays7x32 s b off cap w hT hp
end Go.Proofs
