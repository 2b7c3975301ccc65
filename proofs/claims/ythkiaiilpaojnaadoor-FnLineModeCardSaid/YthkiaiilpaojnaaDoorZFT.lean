import Derived.Test.YthkiaiilpaojnaaDoorZFB
import Derived.Test.YthkiaiilpaojnaaDoorProg
namespace Go.Proofs.YthkiaiilpaojnaaDoorZF
open Go Go.Proofs
def KT:List (Nat×K):=[(2,(.int .i64)),(3,(.int .i64)),(4,.bool),(5,(.int .u8)),(6,(.int .u8)),(7,(.pair (.int .i64) (.pair (.int .i64) (.pair .bool (.int .u8))))),(8,(.pair (.int .i64) (.pair (.int .i64) (.pair .bool (.int .u8))))),(9,.str),(10,.str),(11,.str),(12,(.int .u64)),(13,(.pair .str (.int .u64))),(14,(.pair .str (.int .u64))),(21,(.int .i32)),(22,(.sl 21 (.int .i32))),(24,(.sl 73 (.pair (.int .i64) (.pair (.int .i64) .str)))),(27,(.sl 68 (.pair (.int .i64) .str))),(33,(.sl 9 .str)),(38,(.sl 86 (.pair (.sl 68 (.pair (.int .i64) .str)) (.pair (.int .i64) (.pair (.int .i64) (.pair (.int .i64) (.int .i64))))))),(39,(.sl 5 (.int .u8))),(57,(.flt .f64)),(58,(.pair .bool (.pair (.int .i64) (.pair (.int .i64) (.pair (.flt .f64) (.pair (.flt .f64) (.pair (.int .i64) (.int .i64)))))))),(59,(.pair .bool (.pair (.int .i64) (.pair (.int .i64) (.pair (.flt .f64) (.pair (.flt .f64) (.pair (.int .i64) (.int .i64)))))))),(67,(.pair (.int .i64) .str)),(68,(.pair (.int .i64) .str)),(72,(.pair (.int .i64) (.pair (.int .i64) .str))),(73,(.pair (.int .i64) (.pair (.int .i64) .str))),(74,(.sl 115 (.pair (.int .i8) .str))),(76,.err),(83,(.int .u64)),(85,(.pair (.sl 68 (.pair (.int .i64) .str)) (.pair (.int .i64) (.pair (.int .i64) (.pair (.int .i64) (.int .i64)))))),(86,(.pair (.sl 68 (.pair (.int .i64) .str)) (.pair (.int .i64) (.pair (.int .i64) (.pair (.int .i64) (.int .i64)))))),(88,(.sl 124 (.pair (.sl 115 (.pair (.int .i8) .str)) (.pair (.int .i64) (.pair (.int .i64) (.pair (.int .i64) (.int .i64))))))),(105,(.pair (.int .i64) (.pair (.int .i64) (.pair (.int .i64) (.pair (.flt .f64) (.pair (.int .i64) (.pair (.int .i64) (.flt .f64)))))))),(106,(.pair (.int .i64) (.pair (.int .i64) (.pair (.int .i64) (.pair (.flt .f64) (.pair (.int .i64) (.pair (.int .i64) (.flt .f64)))))))),(112,(.int .i8)),(113,(.int .i8)),(114,(.pair (.int .i8) .str)),(115,(.pair (.int .i8) .str)),(120,(.pair (.int .u8) (.int .u8))),(121,(.pair (.int .u8) (.int .u8))),(123,(.pair (.sl 115 (.pair (.int .i8) .str)) (.pair (.int .i64) (.pair (.int .i64) (.pair (.int .i64) (.int .i64)))))),(124,(.pair (.sl 115 (.pair (.int .i8) .str)) (.pair (.int .i64) (.pair (.int .i64) (.pair (.int .i64) (.int .i64)))))),(133,(.int .i8)),(134,(.pair (.sl 5 (.int .u8)) (.pair (.int .i64) (.int .i8)))),(135,(.pair (.sl 5 (.int .u8)) (.pair (.int .i64) (.int .i8)))),(143,(.sl 3 (.int .i64))),(147,(.int .u8)),(153,(.int .u64)),(167,.str),(170,.str),(176,(.int .i64)),(189,(.int .u32)),(196,(.pair .str (.pair .str .err))),(197,(.pair .str (.pair .str .err))),(204,(.sl 222 (.int .u32))),(208,(.sl 22 (.sl 21 (.int .i32)))),(222,(.int .u32)),(244,(.int .u8)),(245,(.int .u8)),(247,(.int .i32)),(248,(.int .i32)),(251,(.pair .str .err)),(252,(.pair .str .err)),(253,(.sl 76 .err)),(254,(.pair .str (.sl 76 .err))),(255,(.pair .str (.sl 76 .err)))]
def SE:List (Nat×Nat):=[(22,21),(24,73),(27,68),(33,9),(38,86),(39,5),(74,115),(88,124),(143,3),(204,222),(208,22),(253,76)]
def FO:List (Nat×List (Nat×Nat)):=[(7,[(0,2),(1,3),(2,4),(3,6)]),(8,[(0,2),(1,3),(2,4),(3,6)]),(13,[(0,9),(1,12)]),(14,[(0,9),(1,12)]),(58,[(0,4),(1,3),(2,3),(3,57),(4,57),(5,3),(6,3)]),(59,[(0,4),(1,3),(2,3),(3,57),(4,57),(5,3),(6,3)]),(67,[(0,3),(1,9)]),(68,[(0,3),(1,9)]),(72,[(0,3),(1,3),(2,9)]),(73,[(0,3),(1,3),(2,9)]),(85,[(0,27),(1,3),(2,3),(3,3),(4,3)]),(86,[(0,27),(1,3),(2,3),(3,3),(4,3)]),(105,[(0,2),(1,3),(2,3),(3,57),(4,3),(5,3),(6,57)]),(106,[(0,2),(1,3),(2,3),(3,57),(4,3),(5,3),(6,57)]),(114,[(0,113),(1,9)]),(115,[(0,113),(1,9)]),(120,[(0,5),(1,5)]),(121,[(0,5),(1,5)]),(123,[(0,74),(1,3),(2,3),(3,3),(4,3)]),(124,[(0,74),(1,3),(2,3),(3,3),(4,3)]),(134,[(0,39),(1,3),(2,133)]),(135,[(0,39),(1,3),(2,133)]),(196,[(0,9),(1,9),(2,76)]),(197,[(0,9),(1,9),(2,76)]),(251,[(0,9),(1,76)]),(252,[(0,9),(1,76)]),(254,[(0,9),(1,253)]),(255,[(0,9),(1,253)])]
theorem eY6:ktOk Tryd.prog KT:=⟨⟨by kernel_rfl,aZ (by kernel_rfl)⟩,⟨by kernel_rfl,aZ (by kernel_rfl)⟩,⟨by kernel_rfl,aZ (by kernel_rfl)⟩,⟨by kernel_rfl,aZ (by kernel_rfl)⟩,⟨by kernel_rfl,aZ (by kernel_rfl)⟩,⟨by kernel_rfl,aZ (by kernel_rfl)⟩,⟨by kernel_rfl,aZ (by kernel_rfl)⟩,⟨by kernel_rfl,aZ (by kernel_rfl)⟩,⟨by kernel_rfl,aZ (by kernel_rfl)⟩,⟨by kernel_rfl,aZ (by kernel_rfl)⟩,⟨by kernel_rfl,aZ (by kernel_rfl)⟩,⟨by kernel_rfl,aZ (by kernel_rfl)⟩,⟨by kernel_rfl,aZ (by kernel_rfl)⟩,⟨by kernel_rfl,aZ (by kernel_rfl)⟩,⟨by kernel_rfl,aZ (by kernel_rfl)⟩,⟨by kernel_rfl,aZ (by kernel_rfl)⟩,⟨by kernel_rfl,aZ (by kernel_rfl)⟩,⟨by kernel_rfl,aZ (by kernel_rfl)⟩,⟨by kernel_rfl,aZ (by kernel_rfl)⟩,⟨by kernel_rfl,aZ (by kernel_rfl)⟩,⟨by kernel_rfl,aZ (by kernel_rfl)⟩,⟨by kernel_rfl,aZ (by kernel_rfl)⟩,⟨by kernel_rfl,aZ (by kernel_rfl)⟩,⟨by kernel_rfl,aZ (by kernel_rfl)⟩,⟨by kernel_rfl,aZ (by kernel_rfl)⟩,⟨by kernel_rfl,aZ (by kernel_rfl)⟩,⟨by kernel_rfl,aZ (by kernel_rfl)⟩,⟨by kernel_rfl,aZ (by kernel_rfl)⟩,⟨by kernel_rfl,aZ (by kernel_rfl)⟩,⟨by kernel_rfl,aZ (by kernel_rfl)⟩,⟨by kernel_rfl,aZ (by kernel_rfl)⟩,⟨by kernel_rfl,aZ (by kernel_rfl)⟩,⟨by kernel_rfl,aZ (by kernel_rfl)⟩,⟨by kernel_rfl,aZ (by kernel_rfl)⟩,⟨by kernel_rfl,aZ (by kernel_rfl)⟩,⟨by kernel_rfl,aZ (by kernel_rfl)⟩,⟨by kernel_rfl,aZ (by kernel_rfl)⟩,⟨by kernel_rfl,aZ (by kernel_rfl)⟩,⟨by kernel_rfl,aZ (by kernel_rfl)⟩,⟨by kernel_rfl,aZ (by kernel_rfl)⟩,⟨by kernel_rfl,aZ (by kernel_rfl)⟩,⟨by kernel_rfl,aZ (by kernel_rfl)⟩,⟨by kernel_rfl,aZ (by kernel_rfl)⟩,⟨by kernel_rfl,aZ (by kernel_rfl)⟩,⟨by kernel_rfl,aZ (by kernel_rfl)⟩,⟨by kernel_rfl,aZ (by kernel_rfl)⟩,⟨by kernel_rfl,aZ (by kernel_rfl)⟩,⟨by kernel_rfl,aZ (by kernel_rfl)⟩,⟨by kernel_rfl,aZ (by kernel_rfl)⟩,⟨by kernel_rfl,aZ (by kernel_rfl)⟩,⟨by kernel_rfl,aZ (by kernel_rfl)⟩,⟨by kernel_rfl,aZ (by kernel_rfl)⟩,⟨by kernel_rfl,aZ (by kernel_rfl)⟩,⟨by kernel_rfl,aZ (by kernel_rfl)⟩,⟨by kernel_rfl,aZ (by kernel_rfl)⟩,⟨by kernel_rfl,aZ (by kernel_rfl)⟩,⟨by kernel_rfl,aZ (by kernel_rfl)⟩,⟨by kernel_rfl,aZ (by kernel_rfl)⟩,⟨by kernel_rfl,aZ (by kernel_rfl)⟩,⟨by kernel_rfl,aZ (by kernel_rfl)⟩,⟨by kernel_rfl,aZ (by kernel_rfl)⟩,⟨by kernel_rfl,aZ (by kernel_rfl)⟩,⟨by kernel_rfl,aZ (by kernel_rfl)⟩,⟨by kernel_rfl,aZ (by kernel_rfl)⟩,⟨by kernel_rfl,aZ (by kernel_rfl)⟩,⟨by kernel_rfl,aZ (by kernel_rfl)⟩,⟨by kernel_rfl,aZ (by kernel_rfl)⟩,trivial⟩
theorem fC4:seOk Tryd.prog SE:=⟨by kernel_rfl,by kernel_rfl,by kernel_rfl,by kernel_rfl,by kernel_rfl,by kernel_rfl,by kernel_rfl,by kernel_rfl,by kernel_rfl,by kernel_rfl,by kernel_rfl,by kernel_rfl,trivial⟩
theorem fA2:foOk Tryd.prog FO:=⟨⟨by kernel_rfl,by kernel_rfl⟩,⟨by kernel_rfl,by kernel_rfl⟩,⟨by kernel_rfl,by kernel_rfl⟩,⟨by kernel_rfl,by kernel_rfl⟩,⟨by kernel_rfl,by kernel_rfl⟩,⟨by kernel_rfl,by kernel_rfl⟩,⟨by kernel_rfl,by kernel_rfl⟩,⟨by kernel_rfl,by kernel_rfl⟩,⟨by kernel_rfl,by kernel_rfl⟩,⟨by kernel_rfl,by kernel_rfl⟩,⟨by kernel_rfl,by kernel_rfl⟩,⟨by kernel_rfl,by kernel_rfl⟩,⟨by kernel_rfl,by kernel_rfl⟩,⟨by kernel_rfl,by kernel_rfl⟩,⟨by kernel_rfl,by kernel_rfl⟩,⟨by kernel_rfl,by kernel_rfl⟩,⟨by kernel_rfl,by kernel_rfl⟩,⟨by kernel_rfl,by kernel_rfl⟩,⟨by kernel_rfl,by kernel_rfl⟩,⟨by kernel_rfl,by kernel_rfl⟩,⟨by kernel_rfl,by kernel_rfl⟩,⟨by kernel_rfl,by kernel_rfl⟩,⟨by kernel_rfl,by kernel_rfl⟩,⟨by kernel_rfl,by kernel_rfl⟩,⟨by kernel_rfl,by kernel_rfl⟩,⟨by kernel_rfl,by kernel_rfl⟩,⟨by kernel_rfl,by kernel_rfl⟩,⟨by kernel_rfl,by kernel_rfl⟩,trivial⟩
def EQ:List Nat:=[67,68,72,73,114,115,120,121]
def MP:List (Nat×(Nat×Nat)):=[(96,(5,3)),(203,(9,3))]
theorem eZ8:mpOk Tryd.prog MP:=⟨by kernel_rfl,by kernel_rfl,trivial⟩
def Γ0:Ctx:={kt:=KT,se:=SE,fo:=FO,eqs:=EQ,calls:=fun _=>none,mps:=MP}
theorem cF:TabOk Tryd.prog Γ0:=fC0 eY6 fC4 fA2 (by kernel_rfl) eZ8
theorem aO:Tryd.prog.follows .mixedOrders=true:=by kernel_rfl
abbrev Z27:Type:=(Int×Nat)
abbrev Z26:Type:=(Int×BA)
abbrev Z25:Type:=(BA×Int)
abbrev Z24:Type:=(Int×Z27)
abbrev Z23:Type:=(Nat×(Int×Int))
abbrev Z22:K:=(.pair (.int .i8) .str)
abbrev Z21:K:=(.pair (.int .i64) .str)
abbrev Z20:Type:=(Nat×Z24)
abbrev Z19:Type:=(Nat×Z23)
abbrev Z18:K:=(.pair (.int .i64) (.flt .f64))
abbrev Z17:Z26:=((0:Int),(⟨#[]⟩:BA))
abbrev Z16:Type:=(Int×Z20)
abbrev Z15:Type:=(Int×Z19)
abbrev Z14:Type:=(Int×Z16)
abbrev Z13:Type:=(Int×Z15)
abbrev Z12:K:=(.pair (.int .i64) Z18)
abbrev Z11:Type:=(Int×Z14)
abbrev Z10:K:=(.pair (.flt .f64) (.pair (.int .i64) (.int .i64)))
abbrev Z9:Type:=(Bool×Z13)
abbrev Z8:K:=(.pair (.flt .f64) Z12)
abbrev Z7:K:=(.pair (.flt .f64) Z10)
abbrev Z6:K:=(.pair (.int .i64) Z8)
abbrev Z5:K:=(.pair (.int .i64) Z7)
abbrev Z4:K:=(.pair (.int .i64) Z6)
abbrev Z3:K:=(.pair (.int .i64) Z5)
abbrev Z2:K:=(.pair .bool Z3)
abbrev Z1:K:=(.pair (.int .i64) Z4)
end Go.Proofs.YthkiaiilpaojnaaDoorZF
