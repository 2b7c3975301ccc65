import Derived.Test.YticibdjilmclgaaDoorZFB
import Derived.Test.YticibdjilmclgaaDoorProg
namespace Go.Proofs.YticibdjilmclgaaDoorZF
open Go Go.Proofs
def KT:List (Nat×K):=[(2,(.int .i64)),(3,(.int .i64)),(4,.bool),(5,(.int .u8)),(6,(.int .u8)),(7,(.pair (.int .i64) (.pair (.int .i64) (.pair .bool (.int .u8))))),(8,(.pair (.int .i64) (.pair (.int .i64) (.pair .bool (.int .u8))))),(9,.str),(10,.str),(11,.str),(12,(.int .u64)),(13,(.pair .str (.int .u64))),(14,(.pair .str (.int .u64))),(21,(.int .i32)),(23,(.sl 31 (.pair (.int .i64) .str))),(30,(.pair (.int .i64) .str)),(31,(.pair (.int .i64) .str)),(32,(.sl 21 (.int .i32))),(40,(.sl 9 .str)),(46,(.int .u64)),(52,(.flt .f64)),(53,(.pair .bool (.pair (.int .i64) (.pair (.int .i64) (.pair (.flt .f64) (.pair (.flt .f64) (.pair (.int .i64) (.int .i64)))))))),(54,(.pair .bool (.pair (.int .i64) (.pair (.int .i64) (.pair (.flt .f64) (.pair (.flt .f64) (.pair (.int .i64) (.int .i64)))))))),(62,(.sl 3 (.int .i64))),(64,(.sl 81 (.pair (.int .i8) .str))),(73,(.pair (.int .i64) (.pair (.int .i64) (.pair (.int .i64) (.pair (.flt .f64) (.pair (.int .i64) (.pair (.int .i64) (.flt .f64)))))))),(74,(.pair (.int .i64) (.pair (.int .i64) (.pair (.int .i64) (.pair (.flt .f64) (.pair (.int .i64) (.pair (.int .i64) (.flt .f64)))))))),(78,(.int .i8)),(79,(.int .i8)),(80,(.pair (.int .i8) .str)),(81,(.pair (.int .i8) .str)),(93,(.sl 105 (.int .u32))),(97,(.int .u32)),(105,(.int .u32)),(107,(.sl 5 (.int .u8))),(114,.err),(118,(.sl 32 (.sl 21 (.int .i32)))),(123,(.pair (.int .u8) (.int .u8))),(124,(.pair (.int .u8) (.int .u8))),(135,(.int .u64)),(148,(.int .u8)),(149,(.int .u8)),(151,(.int .i32)),(152,(.int .i32))]
def SE:List (Nat×Nat):=[(23,31),(32,21),(40,9),(62,3),(64,81),(93,105),(107,5),(118,32)]
def FO:List (Nat×List (Nat×Nat)):=[(7,[(0,2),(1,3),(2,4),(3,6)]),(8,[(0,2),(1,3),(2,4),(3,6)]),(13,[(0,9),(1,12)]),(14,[(0,9),(1,12)]),(30,[(0,3),(1,9)]),(31,[(0,3),(1,9)]),(53,[(0,4),(1,3),(2,3),(3,52),(4,52),(5,3),(6,3)]),(54,[(0,4),(1,3),(2,3),(3,52),(4,52),(5,3),(6,3)]),(73,[(0,2),(1,3),(2,3),(3,52),(4,3),(5,3),(6,52)]),(74,[(0,2),(1,3),(2,3),(3,52),(4,3),(5,3),(6,52)]),(80,[(0,79),(1,9)]),(81,[(0,79),(1,9)]),(123,[(0,5),(1,5)]),(124,[(0,5),(1,5)])]
theorem fF3:ktOk Tryd.prog KT:=⟨⟨by kernel_rfl,bO (by kernel_rfl)⟩,⟨by kernel_rfl,bO (by kernel_rfl)⟩,⟨by kernel_rfl,bO (by kernel_rfl)⟩,⟨by kernel_rfl,bO (by kernel_rfl)⟩,⟨by kernel_rfl,bO (by kernel_rfl)⟩,⟨by kernel_rfl,bO (by kernel_rfl)⟩,⟨by kernel_rfl,bO (by kernel_rfl)⟩,⟨by kernel_rfl,bO (by kernel_rfl)⟩,⟨by kernel_rfl,bO (by kernel_rfl)⟩,⟨by kernel_rfl,bO (by kernel_rfl)⟩,⟨by kernel_rfl,bO (by kernel_rfl)⟩,⟨by kernel_rfl,bO (by kernel_rfl)⟩,⟨by kernel_rfl,bO (by kernel_rfl)⟩,⟨by kernel_rfl,bO (by kernel_rfl)⟩,⟨by kernel_rfl,bO (by kernel_rfl)⟩,⟨by kernel_rfl,bO (by kernel_rfl)⟩,⟨by kernel_rfl,bO (by kernel_rfl)⟩,⟨by kernel_rfl,bO (by kernel_rfl)⟩,⟨by kernel_rfl,bO (by kernel_rfl)⟩,⟨by kernel_rfl,bO (by kernel_rfl)⟩,⟨by kernel_rfl,bO (by kernel_rfl)⟩,⟨by kernel_rfl,bO (by kernel_rfl)⟩,⟨by kernel_rfl,bO (by kernel_rfl)⟩,⟨by kernel_rfl,bO (by kernel_rfl)⟩,⟨by kernel_rfl,bO (by kernel_rfl)⟩,⟨by kernel_rfl,bO (by kernel_rfl)⟩,⟨by kernel_rfl,bO (by kernel_rfl)⟩,⟨by kernel_rfl,bO (by kernel_rfl)⟩,⟨by kernel_rfl,bO (by kernel_rfl)⟩,⟨by kernel_rfl,bO (by kernel_rfl)⟩,⟨by kernel_rfl,bO (by kernel_rfl)⟩,⟨by kernel_rfl,bO (by kernel_rfl)⟩,⟨by kernel_rfl,bO (by kernel_rfl)⟩,⟨by kernel_rfl,bO (by kernel_rfl)⟩,⟨by kernel_rfl,bO (by kernel_rfl)⟩,⟨by kernel_rfl,bO (by kernel_rfl)⟩,⟨by kernel_rfl,bO (by kernel_rfl)⟩,⟨by kernel_rfl,bO (by kernel_rfl)⟩,⟨by kernel_rfl,bO (by kernel_rfl)⟩,⟨by kernel_rfl,bO (by kernel_rfl)⟩,⟨by kernel_rfl,bO (by kernel_rfl)⟩,⟨by kernel_rfl,bO (by kernel_rfl)⟩,⟨by kernel_rfl,bO (by kernel_rfl)⟩,⟨by kernel_rfl,bO (by kernel_rfl)⟩,trivial⟩
theorem fD3:seOk Tryd.prog SE:=⟨by kernel_rfl,by kernel_rfl,by kernel_rfl,by kernel_rfl,by kernel_rfl,by kernel_rfl,by kernel_rfl,by kernel_rfl,trivial⟩
theorem fB7:foOk Tryd.prog FO:=⟨⟨by kernel_rfl,by kernel_rfl⟩,⟨by kernel_rfl,by kernel_rfl⟩,⟨by kernel_rfl,by kernel_rfl⟩,⟨by kernel_rfl,by kernel_rfl⟩,⟨by kernel_rfl,by kernel_rfl⟩,⟨by kernel_rfl,by kernel_rfl⟩,⟨by kernel_rfl,by kernel_rfl⟩,⟨by kernel_rfl,by kernel_rfl⟩,⟨by kernel_rfl,by kernel_rfl⟩,⟨by kernel_rfl,by kernel_rfl⟩,⟨by kernel_rfl,by kernel_rfl⟩,⟨by kernel_rfl,by kernel_rfl⟩,⟨by kernel_rfl,by kernel_rfl⟩,⟨by kernel_rfl,by kernel_rfl⟩,trivial⟩
def EQ:List Nat:=[30,31,80,81,123,124]
def MP:List (Nat×(Nat×Nat)):=[(92,(9,3))]
theorem fC1:mpOk Tryd.prog MP:=⟨by kernel_rfl,trivial⟩
def Γ0:Ctx:={kt:=KT,se:=SE,fo:=FO,eqs:=EQ,calls:=fun _=>none,mps:=MP}
theorem cB:TabOk Tryd.prog Γ0:=fF1 fF3 fD3 fB7 (by kernel_rfl) fC1
theorem aH:Tryd.prog.follows .mixedOrders=true:=by kernel_rfl
abbrev Z31:Type:=(Int×Nat)
abbrev Z30:Type:=(Int×Int)
abbrev Z29:Type:=(BA×Int)
abbrev Z28:Type:=(Int×BA)
abbrev Z27:Type:=(Int×Z31)
abbrev Z26:Type:=(Nat×Z30)
abbrev Z25:K:=(.pair (.int .i8) .str)
abbrev Z24:Type:=(List Z28)
abbrev Z23:K:=(.pair (.int .i64) .str)
abbrev Z22:Type:=(Nat×Z27)
abbrev Z21:Type:=(Nat×Z26)
abbrev Z20:K:=(.pair (.int .i64) (.flt .f64))
abbrev Z19:K:=(.pair (.int .i64) (.int .i64))
abbrev Z18:Z28:=((0:Int),(⟨#[]⟩:BA))
abbrev Z17:K:=(.sl 31 Z23)
abbrev Z16:Type:=(Int×Z22)
abbrev Z15:Type:=(Int×Z21)
abbrev Z14:Type:=(Int×Z16)
abbrev Z13:Type:=(Int×Z15)
abbrev Z12:K:=(.pair (.int .i64) Z20)
abbrev Z11:Type:=(Int×Z14)
abbrev Z10:K:=(.pair (.flt .f64) Z19)
abbrev Z9:Type:=(Bool×Z13)
abbrev Z8:K:=(.pair (.flt .f64) Z12)
abbrev Z7:K:=(.pair (.flt .f64) Z10)
abbrev Z6:K:=(.pair (.int .i64) Z8)
abbrev Z5:K:=(.pair (.int .i64) Z7)
abbrev Z4:K:=(.pair (.int .i64) Z6)
abbrev Z3:K:=(.pair (.int .i64) Z5)
abbrev Z2:K:=(.pair .bool Z3)
abbrev Z1:K:=(.pair (.int .i64) Z4)
end Go.Proofs.YticibdjilmclgaaDoorZF
