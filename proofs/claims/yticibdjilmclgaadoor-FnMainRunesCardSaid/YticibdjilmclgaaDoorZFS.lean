/- The library's contracts at this program. -/
import Derived.Shelf.Lays7
import Derived.Shelf.Spec.DecodeRune
import Derived.Shelf.Strings.Builder1
import Derived.Shelf.Strings.Builder2
import Derived.Shelf.Strings.OnBuilder
import Derived.Shelf.Small.Utf8
import Derived.Shelf.Utf8.RuneCount
import Derived.Shelf.Unicode.Decode
import Derived.Shelf.Strings.RuneCount
import Derived.Shelf.Unicode.DecodeSlow
import Derived.Shelf.Unicode.DecodeAny
import Derived.Shelf.Unicode.DecodeLast
import Derived.Test.YticibdjilmclgaaDoorProg
namespace Go.Proofs
open Go.Shelf
def Tryd.lays156_ren:Go.Shelf.Ren:=⟨fun | 156=>78 | 165=>98 | 166=>99 | 169=>100 | 240=>118 | 241=>119 | 276=>126 | 277=>127 | n=>n,fun | 31=>40 | 9=>9 | 3=>3 | 4=>4 | 0=>0 | 20=>20 | 72=>111 | 76=>115 | 70=>109 | 37=>107 | 75=>114 | 127=>132 | 164=>138 | 5=>5 | 80=>117 | n=>n,fun | n=>n⟩
theorem Tryd.lays156:Go.Proofs.Lays.n156 Tryd.prog Tryd.lays156_ren:={
  mixed:=by kernel_rfl
  f156:=Tryd.func78.trans (congrArg some (by kernel_rfl))
  f165:=Tryd.func98.trans (congrArg some (by kernel_rfl))
  f166:=Tryd.func99.trans (congrArg some (by kernel_rfl))
  f169:=Tryd.func100.trans (congrArg some (by kernel_rfl))
  f240:=Tryd.func118.trans (congrArg some (by kernel_rfl))
  f241:=Tryd.func119.trans (congrArg some (by kernel_rfl))
  f276:=Tryd.func126.trans (congrArg some (by kernel_rfl))
  f277:=Tryd.func127.trans (congrArg some (by kernel_rfl))
  t0:=Tryd.underlying0
  a0:=Tryd.isAgg0
  z0:=Tryd.sizeOf0
  v0:=Tryd.zeroValue0
  t3:=Tryd.underlying3
  a3:=Tryd.isAgg3
  z3:=Tryd.sizeOf3
  v3:=Tryd.zeroValue3
  t4:=Tryd.underlying4
  a4:=Tryd.isAgg4
  z4:=Tryd.sizeOf4
  v4:=Tryd.zeroValue4
  t9:=Tryd.underlying9
  a9:=Tryd.isAgg9
  z9:=Tryd.sizeOf9
  v9:=Tryd.zeroValue9
  t20:=Tryd.underlying20
  a20:=Tryd.isAgg20
  z20:=Tryd.sizeOf20
  v20:=Tryd.zeroValue20
  t31:=Tryd.underlying40
  a31:=Tryd.isAgg40
  z31:=Tryd.sizeOf40
  v31:=Tryd.zeroValue40
  t37:=Tryd.underlying107
  a37:=Tryd.isAgg107
  z37:=Tryd.sizeOf107
  v37:=Tryd.zeroValue107
  t70:=Tryd.underlying109
  a70:=Tryd.isAgg109
  z70:=Tryd.sizeOf109
  v70:=Tryd.zeroValue109
  t72:=Tryd.underlying111
  a72:=Tryd.isAgg111
  z72:=Tryd.sizeOf111
  v72:=Tryd.zeroValue111
  t75:=Tryd.underlying114
  a75:=Tryd.isAgg114
  z75:=Tryd.sizeOf114
  v75:=Tryd.zeroValue114
  t76:=Tryd.underlying115
  a76:=Tryd.isAgg115
  z76:=Tryd.sizeOf115
  v76:=Tryd.zeroValue115
  t127:=Tryd.underlying132
  a127:=Tryd.isAgg132
  z127:=Tryd.sizeOf132
  v127:=Tryd.zeroValue132
  t164:=Tryd.underlying138
  a164:=Tryd.isAgg138
  z164:=Tryd.sizeOf138
  v164:=Tryd.zeroValue138}
theorem Tryd.Builder_Extra_156:Builder.Extra Tryd.prog Tryd.lays156_ren:={
  sizeBuilder:=by kernel_rfl
  liesBuilder:=by kernel_rfl
  t5:=Tryd.underlying5
  a5:=Tryd.isAgg5
  z5:=Tryd.sizeOf5
  v5:=Tryd.zeroValue5
  infoByte:=by kernel_rfl
  cellsByte:=by kernel_rfl
  sizeByte:=by kernel_rfl
  neB5:=by decide}
open Go.RowKit in
theorem Tryd.strings_Join_none (a:Option Addr) (c:Nat) (sep:ByteArray) (w:World):
    Calls Tryd.prog 78 #[.slice a 0 c,.string sep] w fun e w'=>e= .returned (.string ⟨#[]⟩)∧w'=w:=Any.strings_Join_none Tryd.lays156 Tryd.Builder_Extra_156 a c sep w
open Go.RowKit in
theorem Tryd.strings_Join (bk o c:Nat) (xs:List ByteArray) (sep:ByteArray) (w:World) (hcells:∀(j:Nat) x,xs[j]? =some x→w.cell? ⟨bk,o+j,none⟩=some (.string x)) (hbk:bk < w.heap.size) (hN:xs.length≤140737488355328) (hcap:xs.length≤c) (hlen:(Lib.join (xs.map (·.data.toList)) sep.data.toList).length≤140737488355328):
    Calls Tryd.prog 78 #[.slice (some ⟨bk,o,none⟩) xs.length c,.string sep] w fun e w'=>e= .returned (.string ⟨(Lib.join (xs.map (·.data.toList)) sep.data.toList).toArray⟩)∧Below w.heap.size w w':=Any.strings_Join Tryd.lays156 Tryd.Builder_Extra_156 bk o c xs sep w hcells hbk hN hcap hlen
def Tryd.lays197_ren:Go.Shelf.Ren:=⟨fun | 197=>70 | 260=>88 | n=>n,fun | 9=>9 | 21=>21 | 3=>3 | 4=>4 | 5=>5 | 105=>88 | 119=>122 | 0=>0 | 46=>46 | 139=>125 | 138=>124 | n=>n,fun | 3=>1 | 4=>2 | n=>n⟩
theorem Tryd.lays197:Go.Proofs.Lays.n197 Tryd.prog Tryd.lays197_ren:={
  mixed:=by kernel_rfl
  f197:=Tryd.func70.trans (congrArg some (by kernel_rfl))
  f260:=Tryd.func88.trans (congrArg some (by kernel_rfl))
  t0:=Tryd.underlying0
  a0:=Tryd.isAgg0
  z0:=Tryd.sizeOf0
  v0:=Tryd.zeroValue0
  t3:=Tryd.underlying3
  a3:=Tryd.isAgg3
  z3:=Tryd.sizeOf3
  v3:=Tryd.zeroValue3
  t4:=Tryd.underlying4
  a4:=Tryd.isAgg4
  z4:=Tryd.sizeOf4
  v4:=Tryd.zeroValue4
  t5:=Tryd.underlying5
  a5:=Tryd.isAgg5
  z5:=Tryd.sizeOf5
  v5:=Tryd.zeroValue5
  t9:=Tryd.underlying9
  a9:=Tryd.isAgg9
  z9:=Tryd.sizeOf9
  v9:=Tryd.zeroValue9
  t21:=Tryd.underlying21
  a21:=Tryd.isAgg21
  z21:=Tryd.sizeOf21
  v21:=Tryd.zeroValue21
  t46:=Tryd.underlying46
  a46:=Tryd.isAgg46
  z46:=Tryd.sizeOf46
  v46:=Tryd.zeroValue46
  t105:=Tryd.underlying88
  a105:=Tryd.isAgg88
  z105:=Tryd.sizeOf88
  v105:=Tryd.zeroValue88
  t119:=Tryd.underlying122
  a119:=Tryd.isAgg122
  z119:=Tryd.sizeOf122
  t138:=Tryd.underlying124
  a138:=Tryd.isAgg124
  z138:=Tryd.sizeOf124
  v138:=Tryd.zeroValue124
  t139:=Tryd.underlying125
  a139:=Tryd.isAgg125
  z139:=Tryd.sizeOf125
  v139:=Tryd.zeroValue125
  g3:=by kernel_rfl
  g4:=by kernel_rfl}
def Tryd.lays260_ren:Go.Shelf.Ren:=⟨fun | 260=>88 | n=>n,fun | 9=>9 | 21=>21 | 3=>3 | 4=>4 | 5=>5 | 119=>122 | 0=>0 | 46=>46 | 139=>125 | 138=>124 | n=>n,fun | 3=>1 | 4=>2 | n=>n⟩
theorem Tryd.lays260:Go.Proofs.Lays.n260 Tryd.prog Tryd.lays260_ren:={
  mixed:=by kernel_rfl
  f260:=Tryd.func88.trans (congrArg some (by kernel_rfl))
  t0:=Tryd.underlying0
  a0:=Tryd.isAgg0
  z0:=Tryd.sizeOf0
  v0:=Tryd.zeroValue0
  t3:=Tryd.underlying3
  a3:=Tryd.isAgg3
  z3:=Tryd.sizeOf3
  v3:=Tryd.zeroValue3
  t4:=Tryd.underlying4
  a4:=Tryd.isAgg4
  z4:=Tryd.sizeOf4
  v4:=Tryd.zeroValue4
  t5:=Tryd.underlying5
  a5:=Tryd.isAgg5
  z5:=Tryd.sizeOf5
  v5:=Tryd.zeroValue5
  t9:=Tryd.underlying9
  a9:=Tryd.isAgg9
  z9:=Tryd.sizeOf9
  v9:=Tryd.zeroValue9
  t21:=Tryd.underlying21
  a21:=Tryd.isAgg21
  z21:=Tryd.sizeOf21
  v21:=Tryd.zeroValue21
  t46:=Tryd.underlying46
  a46:=Tryd.isAgg46
  z46:=Tryd.sizeOf46
  v46:=Tryd.zeroValue46
  t119:=Tryd.underlying122
  a119:=Tryd.isAgg122
  z119:=Tryd.sizeOf122
  t138:=Tryd.underlying124
  a138:=Tryd.isAgg124
  z138:=Tryd.sizeOf124
  v138:=Tryd.zeroValue124
  t139:=Tryd.underlying125
  a139:=Tryd.isAgg125
  z139:=Tryd.sizeOf125
  v139:=Tryd.zeroValue125
  g3:=by kernel_rfl
  g4:=by kernel_rfl}
open Go.RowKit Go.Lib in
theorem Tryd.utf8_DecodeRuneInString (s:ByteArray) (w:World) (hT:Lib.Utf8Tabs 1 2 w):
    Calls Tryd.prog 70 #[.string s] w fun e w'=>e= .returned (.tuple #[.int .i32 (Lib.decodeGo s).1,.int .i64 (Lib.decodeGo s).2])∧Below w.heap.size w w':=Any.utf8_DecodeRuneInString Tryd.lays197 s w hT
def Tryd.lays271_ren:Go.Shelf.Ren:=⟨fun | 271=>83 | 120=>105 | 197=>70 | 260=>88 | n=>n,fun | 9=>9 | 21=>21 | 3=>3 | 4=>4 | 5=>5 | 105=>88 | 119=>122 | 0=>0 | 46=>46 | 139=>125 | 138=>124 | n=>n,fun | 3=>1 | 4=>2 | n=>n⟩
theorem Tryd.lays271:Go.Proofs.Lays.n271 Tryd.prog Tryd.lays271_ren:={
  mixed:=by kernel_rfl
  f120:=Tryd.func105.trans (congrArg some (by kernel_rfl))
  f197:=Tryd.func70.trans (congrArg some (by kernel_rfl))
  f260:=Tryd.func88.trans (congrArg some (by kernel_rfl))
  f271:=Tryd.func83.trans (congrArg some (by kernel_rfl))
  t0:=Tryd.underlying0
  a0:=Tryd.isAgg0
  z0:=Tryd.sizeOf0
  v0:=Tryd.zeroValue0
  t3:=Tryd.underlying3
  a3:=Tryd.isAgg3
  z3:=Tryd.sizeOf3
  v3:=Tryd.zeroValue3
  t4:=Tryd.underlying4
  a4:=Tryd.isAgg4
  z4:=Tryd.sizeOf4
  v4:=Tryd.zeroValue4
  t5:=Tryd.underlying5
  a5:=Tryd.isAgg5
  z5:=Tryd.sizeOf5
  v5:=Tryd.zeroValue5
  t9:=Tryd.underlying9
  a9:=Tryd.isAgg9
  z9:=Tryd.sizeOf9
  v9:=Tryd.zeroValue9
  t21:=Tryd.underlying21
  a21:=Tryd.isAgg21
  z21:=Tryd.sizeOf21
  v21:=Tryd.zeroValue21
  t46:=Tryd.underlying46
  a46:=Tryd.isAgg46
  z46:=Tryd.sizeOf46
  v46:=Tryd.zeroValue46
  t105:=Tryd.underlying88
  a105:=Tryd.isAgg88
  z105:=Tryd.sizeOf88
  v105:=Tryd.zeroValue88
  t119:=Tryd.underlying122
  a119:=Tryd.isAgg122
  z119:=Tryd.sizeOf122
  t138:=Tryd.underlying124
  a138:=Tryd.isAgg124
  z138:=Tryd.sizeOf124
  v138:=Tryd.zeroValue124
  t139:=Tryd.underlying125
  a139:=Tryd.isAgg125
  z139:=Tryd.sizeOf125
  v139:=Tryd.zeroValue125
  g3:=by kernel_rfl
  g4:=by kernel_rfl}
open Go.RowKit Go.Lib in
theorem Tryd.utf8_DecodeLastRuneInString (s:ByteArray) (w:World) (hs:s.size≤9223372036854775807) (hT:Lib.Utf8Tabs 1 2 w):
    Calls Tryd.prog 83 #[.string s] w fun e w'=>e= .returned (.tuple #[.int .i32 (Lib.decodeLastL s.data.toList).1,.int .i64 (Lib.decodeLastL s.data.toList).2])∧Below w.heap.size w w':=Any.utf8_DecodeLastRuneInString Tryd.lays271 s w hs hT
def Tryd.lays7x32_ren:Go.Shelf.Ren:=⟨fun | 32=>115 | 49=>125 | n=>n,fun | 30=>107 | 21=>21 | 3=>3 | 0=>0 | 5=>5 | 4=>4 | 33=>88 | 66=>122 | 25=>46 | 69=>125 | 68=>124 | n=>n,fun | 2=>1 | 3=>2 | n=>n⟩
theorem Tryd.lays7x32:Go.Proofs.Lays7.n32 Tryd.prog Tryd.lays7x32_ren:={
  mixed:=by kernel_rfl
  f32:=Tryd.func115.trans (congrArg some (by kernel_rfl))
  f49:=Tryd.func125.trans (congrArg some (by kernel_rfl))
  t0:=Tryd.underlying0
  a0:=Tryd.isAgg0
  z0:=Tryd.sizeOf0
  v0:=Tryd.zeroValue0
  i0:=by kernel_rfl
  t3:=Tryd.underlying3
  a3:=Tryd.isAgg3
  z3:=Tryd.sizeOf3
  v3:=Tryd.zeroValue3
  i3:=by kernel_rfl
  t4:=Tryd.underlying4
  a4:=Tryd.isAgg4
  z4:=Tryd.sizeOf4
  v4:=Tryd.zeroValue4
  i4:=by kernel_rfl
  t5:=Tryd.underlying5
  a5:=Tryd.isAgg5
  z5:=Tryd.sizeOf5
  v5:=Tryd.zeroValue5
  i5:=by kernel_rfl
  t21:=Tryd.underlying21
  a21:=Tryd.isAgg21
  z21:=Tryd.sizeOf21
  v21:=Tryd.zeroValue21
  i21:=by kernel_rfl
  t25:=Tryd.underlying46
  a25:=Tryd.isAgg46
  z25:=Tryd.sizeOf46
  v25:=Tryd.zeroValue46
  i25:=by kernel_rfl
  t30:=Tryd.underlying107
  a30:=Tryd.isAgg107
  z30:=Tryd.sizeOf107
  v30:=Tryd.zeroValue107
  i30:=by kernel_rfl
  t33:=Tryd.underlying88
  a33:=Tryd.isAgg88
  z33:=Tryd.sizeOf88
  v33:=Tryd.zeroValue88
  i33:=by kernel_rfl
  t66:=Tryd.underlying122
  a66:=Tryd.isAgg122
  z66:=Tryd.sizeOf122
  t68:=Tryd.underlying124
  a68:=Tryd.isAgg124
  z68:=Tryd.sizeOf124
  v68:=Tryd.zeroValue124
  i68:=by kernel_rfl
  t69:=Tryd.underlying125
  a69:=Tryd.isAgg125
  z69:=Tryd.sizeOf125
  v69:=Tryd.zeroValue125
  i69:=by kernel_rfl
  g2:=by kernel_rfl
  g3:=by kernel_rfl}
open Go.RowKit Go.Lib in
theorem Tryd.utf8_DecodeRune (s:ByteArray) (b off cap:Nat) (w:World) (hT:Lib.Utf8Tabs 1 2 w) (hp:∀j,j < s.size→w.cell? ⟨b,off+j,none⟩=some (.int .u8 (s.get! j).toNat)):
    Calls Tryd.prog 115 #[.slice (some ⟨b,off,none⟩) s.size cap] w fun e w'=>e= .returned (.tuple #[.int .i32 (Lib.decodeGo s).1,.int .i64 (Lib.decodeGo s).2])∧Below w.heap.size w w':=Any7.utf8_DecodeRune Tryd.lays7x32 s b off cap w hT hp
end Go.Proofs
