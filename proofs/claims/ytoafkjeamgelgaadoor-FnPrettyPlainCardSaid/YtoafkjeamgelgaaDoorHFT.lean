import Derived.Test.YtoafkjeamgelgaaDoorHFB
import Derived.Test.YtoafkjeamgelgaaDoorProg
namespace Go.Proofs.YtoafkjeamgelgaaDoorHF
open Go Go.Proofs
def KT:List (Nat×K):=[(2,(.int .i64)),(3,(.int .i64)),(4,.bool),(5,(.int .u8)),(6,(.int .u8)),(7,(.pair (.int .i64) (.pair (.int .i64) (.pair .bool (.int .u8))))),(8,(.pair (.int .i64) (.pair (.int .i64) (.pair .bool (.int .u8))))),(9,.str),(10,.str),(11,.str),(12,(.int .u64)),(13,(.pair .str (.int .u64))),(14,(.pair .str (.int .u64))),(21,(.int .i32)),(22,(.sl 5 (.int .u8))),(24,(.int .u64)),(30,(.sl 34 (.pair (.int .i64) .str))),(33,(.pair (.int .i64) .str)),(34,(.pair (.int .i64) .str)),(36,(.int .u32)),(55,(.sl 73 (.pair (.int .i8) .str))),(62,(.sl 21 (.int .i32))),(64,(.flt .f64)),(65,(.pair (.int .i64) (.pair (.int .i64) (.pair (.int .i64) (.pair (.flt .f64) (.pair (.int .i64) (.pair (.int .i64) (.flt .f64)))))))),(66,(.pair (.int .i64) (.pair (.int .i64) (.pair (.int .i64) (.pair (.flt .f64) (.pair (.int .i64) (.pair (.int .i64) (.flt .f64)))))))),(67,(.int .i8)),(68,(.int .i8)),(69,(.pair (.sl 5 (.int .u8)) (.pair (.int .i64) (.int .i8)))),(70,(.pair (.sl 5 (.int .u8)) (.pair (.int .i64) (.int .i8)))),(71,(.int .i8)),(72,(.pair (.int .i8) .str)),(73,(.pair (.int .i8) .str)),(75,.err),(83,(.sl 9 .str)),(100,(.pair (.int .u8) (.int .u8))),(101,(.pair (.int .u8) (.int .u8))),(111,(.int .u8)),(112,(.int .u8)),(115,(.int .i32)),(116,(.int .i32)),(121,(.pair .str .err)),(122,(.pair .str .err)),(123,(.sl 75 .err)),(124,(.pair .str (.sl 75 .err))),(125,(.pair .str (.sl 75 .err)))]
def SE:List (Nat×Nat):=[(22,5),(30,34),(55,73),(62,21),(81,80),(83,9),(123,75)]
def FO:List (Nat×List (Nat×Nat)):=[(7,[(0,2),(1,3),(2,4),(3,6)]),(8,[(0,2),(1,3),(2,4),(3,6)]),(13,[(0,9),(1,12)]),(14,[(0,9),(1,12)]),(33,[(0,3),(1,9)]),(34,[(0,3),(1,9)]),(65,[(0,2),(1,3),(2,3),(3,64),(4,3),(5,3),(6,64)]),(66,[(0,2),(1,3),(2,3),(3,64),(4,3),(5,3),(6,64)]),(69,[(0,22),(1,3),(2,68)]),(70,[(0,22),(1,3),(2,68)]),(72,[(0,71),(1,9)]),(73,[(0,71),(1,9)]),(100,[(0,5),(1,5)]),(101,[(0,5),(1,5)]),(121,[(0,9),(1,75)]),(122,[(0,9),(1,75)]),(124,[(0,9),(1,123)]),(125,[(0,9),(1,123)])]
theorem YL:ktOk Tryd.prog KT:=⟨⟨by kernel_rfl,aJ (by kernel_rfl)⟩,⟨by kernel_rfl,aJ (by kernel_rfl)⟩,⟨by kernel_rfl,aJ (by kernel_rfl)⟩,⟨by kernel_rfl,aJ (by kernel_rfl)⟩,⟨by kernel_rfl,aJ (by kernel_rfl)⟩,⟨by kernel_rfl,aJ (by kernel_rfl)⟩,⟨by kernel_rfl,aJ (by kernel_rfl)⟩,⟨by kernel_rfl,aJ (by kernel_rfl)⟩,⟨by kernel_rfl,aJ (by kernel_rfl)⟩,⟨by kernel_rfl,aJ (by kernel_rfl)⟩,⟨by kernel_rfl,aJ (by kernel_rfl)⟩,⟨by kernel_rfl,aJ (by kernel_rfl)⟩,⟨by kernel_rfl,aJ (by kernel_rfl)⟩,⟨by kernel_rfl,aJ (by kernel_rfl)⟩,⟨by kernel_rfl,aJ (by kernel_rfl)⟩,⟨by kernel_rfl,aJ (by kernel_rfl)⟩,⟨by kernel_rfl,aJ (by kernel_rfl)⟩,⟨by kernel_rfl,aJ (by kernel_rfl)⟩,⟨by kernel_rfl,aJ (by kernel_rfl)⟩,⟨by kernel_rfl,aJ (by kernel_rfl)⟩,⟨by kernel_rfl,aJ (by kernel_rfl)⟩,⟨by kernel_rfl,aJ (by kernel_rfl)⟩,⟨by kernel_rfl,aJ (by kernel_rfl)⟩,⟨by kernel_rfl,aJ (by kernel_rfl)⟩,⟨by kernel_rfl,aJ (by kernel_rfl)⟩,⟨by kernel_rfl,aJ (by kernel_rfl)⟩,⟨by kernel_rfl,aJ (by kernel_rfl)⟩,⟨by kernel_rfl,aJ (by kernel_rfl)⟩,⟨by kernel_rfl,aJ (by kernel_rfl)⟩,⟨by kernel_rfl,aJ (by kernel_rfl)⟩,⟨by kernel_rfl,aJ (by kernel_rfl)⟩,⟨by kernel_rfl,aJ (by kernel_rfl)⟩,⟨by kernel_rfl,aJ (by kernel_rfl)⟩,⟨by kernel_rfl,aJ (by kernel_rfl)⟩,⟨by kernel_rfl,aJ (by kernel_rfl)⟩,⟨by kernel_rfl,aJ (by kernel_rfl)⟩,⟨by kernel_rfl,aJ (by kernel_rfl)⟩,⟨by kernel_rfl,aJ (by kernel_rfl)⟩,⟨by kernel_rfl,aJ (by kernel_rfl)⟩,⟨by kernel_rfl,aJ (by kernel_rfl)⟩,⟨by kernel_rfl,aJ (by kernel_rfl)⟩,⟨by kernel_rfl,aJ (by kernel_rfl)⟩,⟨by kernel_rfl,aJ (by kernel_rfl)⟩,⟨by kernel_rfl,aJ (by kernel_rfl)⟩,⟨by kernel_rfl,aJ (by kernel_rfl)⟩,trivial⟩
theorem YB:seOk Tryd.prog SE:=⟨by kernel_rfl,by kernel_rfl,by kernel_rfl,by kernel_rfl,by kernel_rfl,by kernel_rfl,by kernel_rfl,trivial⟩
theorem YI:foOk Tryd.prog FO:=⟨⟨by kernel_rfl,by kernel_rfl⟩,⟨by kernel_rfl,by kernel_rfl⟩,⟨by kernel_rfl,by kernel_rfl⟩,⟨by kernel_rfl,by kernel_rfl⟩,⟨by kernel_rfl,by kernel_rfl⟩,⟨by kernel_rfl,by kernel_rfl⟩,⟨by kernel_rfl,by kernel_rfl⟩,⟨by kernel_rfl,by kernel_rfl⟩,⟨by kernel_rfl,by kernel_rfl⟩,⟨by kernel_rfl,by kernel_rfl⟩,⟨by kernel_rfl,by kernel_rfl⟩,⟨by kernel_rfl,by kernel_rfl⟩,⟨by kernel_rfl,by kernel_rfl⟩,⟨by kernel_rfl,by kernel_rfl⟩,⟨by kernel_rfl,by kernel_rfl⟩,⟨by kernel_rfl,by kernel_rfl⟩,⟨by kernel_rfl,by kernel_rfl⟩,⟨by kernel_rfl,by kernel_rfl⟩,trivial⟩
def EQ:List Nat:=[33,34,72,73,100,101]
def MP:List (Nat×(Nat×Nat)):=[]
theorem XM:mpOk Tryd.prog MP:=trivial
def Γ0:Ctx:={kt:=KT,se:=SE,fo:=FO,eqs:=EQ,calls:=fun _=>none,mps:=MP}
theorem tab_ok:TabOk Tryd.prog Γ0:=XJ YL YB YI (by kernel_rfl) XM
theorem aT:Tryd.prog.follows .mixedOrders=true:=by kernel_rfl
abbrev Z16:Type:=(Int×BA)
abbrev Z15:K:=(.sl 5 (.int .u8))
abbrev Z14:K:=(.pair (.int .i8) .str)
abbrev Z13:K:=(.pair (.int .i64) .str)
abbrev Z12:Type:=(Nat×(Int×(Int×Nat)))
abbrev Z11:K:=(.pair (.int .i64) (.int .i8))
abbrev Z10:Z16:=((0:Int),(⟨#[]⟩:BA))
abbrev Z9:Type:=(Int×Z12)
abbrev Z8:Type:=(Int×Z9)
abbrev Z7:K:=(.pair (.int .i64) (.pair (.int .i64) (.flt .f64)))
abbrev Z6:Type:=(Int×Z8)
abbrev Z5:K:=(.pair Z15 Z11)
abbrev Z4:K:=(.pair (.flt .f64) Z7)
abbrev Z3:K:=(.pair (.int .i64) Z4)
abbrev Z2:K:=(.pair (.int .i64) Z3)
abbrev Z1:K:=(.pair (.int .i64) Z2)
end Go.Proofs.YtoafkjeamgelgaaDoorHF
