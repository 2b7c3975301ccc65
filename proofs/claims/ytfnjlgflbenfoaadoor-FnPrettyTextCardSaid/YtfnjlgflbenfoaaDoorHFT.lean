import Derived.Test.YtfnjlgflbenfoaaDoorHFB
import Derived.Test.YtfnjlgflbenfoaaDoorProg
namespace Go.Proofs.YtfnjlgflbenfoaaDoorHF
open Go Go.Proofs
def KT:List (Nat×K):=[(2,(.int .i64)),(3,(.int .i64)),(4,.bool),(5,(.int .u8)),(6,(.int .u8)),(7,(.pair (.int .i64) (.pair (.int .i64) (.pair .bool (.int .u8))))),(8,(.pair (.int .i64) (.pair (.int .i64) (.pair .bool (.int .u8))))),(9,.str),(10,.str),(11,.str),(12,(.int .u64)),(13,(.pair .str (.int .u64))),(14,(.pair .str (.int .u64))),(21,(.int .i32)),(22,(.sl 45 (.pair (.int .i64) .str))),(32,(.sl 21 (.int .i32))),(33,(.sl 9 .str)),(39,(.sl 5 (.int .u8))),(44,(.pair (.int .i64) .str)),(45,(.pair (.int .i64) .str)),(53,(.sl 75 (.pair (.int .i8) .str))),(55,(.int .i8)),(56,(.int .i8)),(61,(.int .u32)),(68,(.flt .f64)),(69,(.pair (.int .i64) (.pair (.int .i64) (.pair (.int .i64) (.pair (.flt .f64) (.pair (.int .i64) (.pair (.int .i64) (.flt .f64)))))))),(70,(.pair (.int .i64) (.pair (.int .i64) (.pair (.int .i64) (.pair (.flt .f64) (.pair (.int .i64) (.pair (.int .i64) (.flt .f64)))))))),(71,(.int .i8)),(72,(.pair (.sl 5 (.int .u8)) (.pair (.int .i64) (.int .i8)))),(73,(.pair (.sl 5 (.int .u8)) (.pair (.int .i64) (.int .i8)))),(74,(.pair (.int .i8) .str)),(75,(.pair (.int .i8) .str)),(78,.err),(94,(.sl 105 (.int .u32))),(105,(.int .u32)),(108,(.int .u64)),(111,(.int .u64)),(119,(.pair (.int .u8) (.int .u8))),(120,(.pair (.int .u8) (.int .u8))),(137,(.int .u8)),(138,(.int .u8)),(141,(.int .i32)),(142,(.int .i32)),(147,(.pair .str .err)),(148,(.pair .str .err)),(149,(.sl 78 .err)),(150,(.pair .str (.sl 78 .err))),(151,(.pair .str (.sl 78 .err)))]
def SE:List (Nat×Nat):=[(22,45),(32,21),(33,9),(39,5),(53,75),(94,105),(149,78)]
def FO:List (Nat×List (Nat×Nat)):=[(7,[(0,2),(1,3),(2,4),(3,6)]),(8,[(0,2),(1,3),(2,4),(3,6)]),(13,[(0,9),(1,12)]),(14,[(0,9),(1,12)]),(44,[(0,3),(1,9)]),(45,[(0,3),(1,9)]),(69,[(0,2),(1,3),(2,3),(3,68),(4,3),(5,3),(6,68)]),(70,[(0,2),(1,3),(2,3),(3,68),(4,3),(5,3),(6,68)]),(72,[(0,39),(1,3),(2,71)]),(73,[(0,39),(1,3),(2,71)]),(74,[(0,56),(1,9)]),(75,[(0,56),(1,9)]),(119,[(0,5),(1,5)]),(120,[(0,5),(1,5)]),(147,[(0,9),(1,78)]),(148,[(0,9),(1,78)]),(150,[(0,9),(1,149)]),(151,[(0,9),(1,149)])]
theorem UJ:ktOk Tryd.prog KT:=⟨⟨by kernel_rfl,aH (by kernel_rfl)⟩,⟨by kernel_rfl,aH (by kernel_rfl)⟩,⟨by kernel_rfl,aH (by kernel_rfl)⟩,⟨by kernel_rfl,aH (by kernel_rfl)⟩,⟨by kernel_rfl,aH (by kernel_rfl)⟩,⟨by kernel_rfl,aH (by kernel_rfl)⟩,⟨by kernel_rfl,aH (by kernel_rfl)⟩,⟨by kernel_rfl,aH (by kernel_rfl)⟩,⟨by kernel_rfl,aH (by kernel_rfl)⟩,⟨by kernel_rfl,aH (by kernel_rfl)⟩,⟨by kernel_rfl,aH (by kernel_rfl)⟩,⟨by kernel_rfl,aH (by kernel_rfl)⟩,⟨by kernel_rfl,aH (by kernel_rfl)⟩,⟨by kernel_rfl,aH (by kernel_rfl)⟩,⟨by kernel_rfl,aH (by kernel_rfl)⟩,⟨by kernel_rfl,aH (by kernel_rfl)⟩,⟨by kernel_rfl,aH (by kernel_rfl)⟩,⟨by kernel_rfl,aH (by kernel_rfl)⟩,⟨by kernel_rfl,aH (by kernel_rfl)⟩,⟨by kernel_rfl,aH (by kernel_rfl)⟩,⟨by kernel_rfl,aH (by kernel_rfl)⟩,⟨by kernel_rfl,aH (by kernel_rfl)⟩,⟨by kernel_rfl,aH (by kernel_rfl)⟩,⟨by kernel_rfl,aH (by kernel_rfl)⟩,⟨by kernel_rfl,aH (by kernel_rfl)⟩,⟨by kernel_rfl,aH (by kernel_rfl)⟩,⟨by kernel_rfl,aH (by kernel_rfl)⟩,⟨by kernel_rfl,aH (by kernel_rfl)⟩,⟨by kernel_rfl,aH (by kernel_rfl)⟩,⟨by kernel_rfl,aH (by kernel_rfl)⟩,⟨by kernel_rfl,aH (by kernel_rfl)⟩,⟨by kernel_rfl,aH (by kernel_rfl)⟩,⟨by kernel_rfl,aH (by kernel_rfl)⟩,⟨by kernel_rfl,aH (by kernel_rfl)⟩,⟨by kernel_rfl,aH (by kernel_rfl)⟩,⟨by kernel_rfl,aH (by kernel_rfl)⟩,⟨by kernel_rfl,aH (by kernel_rfl)⟩,⟨by kernel_rfl,aH (by kernel_rfl)⟩,⟨by kernel_rfl,aH (by kernel_rfl)⟩,⟨by kernel_rfl,aH (by kernel_rfl)⟩,⟨by kernel_rfl,aH (by kernel_rfl)⟩,⟨by kernel_rfl,aH (by kernel_rfl)⟩,⟨by kernel_rfl,aH (by kernel_rfl)⟩,⟨by kernel_rfl,aH (by kernel_rfl)⟩,⟨by kernel_rfl,aH (by kernel_rfl)⟩,⟨by kernel_rfl,aH (by kernel_rfl)⟩,⟨by kernel_rfl,aH (by kernel_rfl)⟩,⟨by kernel_rfl,aH (by kernel_rfl)⟩,trivial⟩
theorem UI:seOk Tryd.prog SE:=⟨by kernel_rfl,by kernel_rfl,by kernel_rfl,by kernel_rfl,by kernel_rfl,by kernel_rfl,by kernel_rfl,trivial⟩
theorem UR:foOk Tryd.prog FO:=⟨⟨by kernel_rfl,by kernel_rfl⟩,⟨by kernel_rfl,by kernel_rfl⟩,⟨by kernel_rfl,by kernel_rfl⟩,⟨by kernel_rfl,by kernel_rfl⟩,⟨by kernel_rfl,by kernel_rfl⟩,⟨by kernel_rfl,by kernel_rfl⟩,⟨by kernel_rfl,by kernel_rfl⟩,⟨by kernel_rfl,by kernel_rfl⟩,⟨by kernel_rfl,by kernel_rfl⟩,⟨by kernel_rfl,by kernel_rfl⟩,⟨by kernel_rfl,by kernel_rfl⟩,⟨by kernel_rfl,by kernel_rfl⟩,⟨by kernel_rfl,by kernel_rfl⟩,⟨by kernel_rfl,by kernel_rfl⟩,⟨by kernel_rfl,by kernel_rfl⟩,⟨by kernel_rfl,by kernel_rfl⟩,⟨by kernel_rfl,by kernel_rfl⟩,⟨by kernel_rfl,by kernel_rfl⟩,trivial⟩
def EQ:List Nat:=[44,45,74,75,119,120]
def MP:List (Nat×(Nat×Nat)):=[(93,(9,3))]
theorem VK:mpOk Tryd.prog MP:=⟨by kernel_rfl,trivial⟩
def Γ0:Ctx:={kt:=KT,se:=SE,fo:=FO,eqs:=EQ,calls:=fun _=>none,mps:=MP}
theorem tab_ok:TabOk Tryd.prog Γ0:=VD UJ UI UR (by kernel_rfl) VK
theorem aT:Tryd.prog.follows .mixedOrders=true:=by kernel_rfl
abbrev Z16:Type:=(Int×BA)
abbrev Z15:K:=(.sl 5 (.int .u8))
abbrev Z14:K:=(.pair (.int .i8) .str)
abbrev Z13:K:=(.pair (.int .i64) .str)
abbrev Z12:Type:=(Nat×(Int×(Int×Nat)))
abbrev Z11:K:=(.pair (.int .i64) (.int .i8))
abbrev Z10:Z16:=((0:Int),(⟨#[]⟩:BA))
abbrev Z9:Type:=(Int×Z12)
abbrev Z8:Type:=(Int×Z9)
abbrev Z7:K:=(.pair (.int .i64) (.pair (.int .i64) (.flt .f64)))
abbrev Z6:Type:=(Int×Z8)
abbrev Z5:K:=(.pair Z15 Z11)
abbrev Z4:K:=(.pair (.flt .f64) Z7)
abbrev Z3:K:=(.pair (.int .i64) Z4)
abbrev Z2:K:=(.pair (.int .i64) Z3)
abbrev Z1:K:=(.pair (.int .i64) Z2)
end Go.Proofs.YtfnjlgflbenfoaaDoorHF
