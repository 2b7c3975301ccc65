import Derived.Test.YticibdjilmclgaaDoorZFT
import Derived.Test.YticibdjilmclgaaDoorZFE
namespace Go.Proofs.YticibdjilmclgaaDoorZF
noncomputable section
open Go Go.Proofs
set_option linter.unusedVariables false
set_option maxRecDepth 100000
variable {β:Type}
def aK6 (v0:ByteArray):FState:=⟨aD [(0, .dat .str v0)],aC []⟩
def dF4 (x2:List Int):FState:=⟨aD [(2, .sl 2 none false)],aC [(2, .row (.int .i32) 21 true x2)]⟩
def AP:List NE:=[.row 2 (.int .i32) 21 true]
def cM8 (n:Nat):List (Nat×Spec):=[]
def bK6 (n:Nat):Ctx:={Γ0 with calls:=lkS (cM8 n)}
def bU3:Code:=fb Tryd.f20
def I4 (n:Nat) (kr:List Int→Option β) (v0:ByteArray):Option β:=oT v0<|kr (bE v0)
def VC (n:Nat) (s:FState) (cx:Cx β):Option β:=FXs (bK6 n) n bU3 none (some AP) [] [[0],[1,0],[1,1]] s cx
theorem aU4 (n:Nat) (cx:Cx β) (v0:ByteArray):VC n (aK6 v0) cx=I4 n (fun x2=>cx.ret (dF4 x2)) v0:=by kernel_rfl
def g20 (n:Nat) (v0:ByteArray):Option (DenR [.rw (.int .i32) 21]):=I4 n (fun x2=>some (x2,())) v0
def cL9:List AK:=[.dat .str]
def bB6:List RK:=[.rw (.int .i32) 21]
def dL2 (n:Nat) (d:DenA cL9):Option (DenR bB6):=g20 n d.1
def bU1 (n:Nat):Spec:=aK cL9 bB6 (dL2 n)
def cR3:Sk:=(.nd (.fin none none (some AP) [] .leaf) (.nd (.fin none none (some AP) [] .leaf) (.fin none none (some AP) [] .leaf)))
theorem cE9 (n:Nat) (s:FState) (cx:Cx β):FX (bK6 n) n bU3 cR3 s cx=VC n s cx:=by kernel_rfl
theorem S3 (n:Nat):Fit Tryd.prog 20 (bU1 n):=
  bT (Γ:=Γ0) (l:=cM8 n) (n:=n) (sk:=cR3) (ts:=[(2,none)]) (fn:=Tryd.f20) (c:=bU3) (by kernel_rfl) (by kernel_rfl) (by unfold aI;kernel_rfl) bL trivial aE (by kernel_rfl) (by kernel_rfl) (Nat.le_of_ble_eq_true (by kernel_rfl)) (Nat.le_of_ble_eq_true (by kernel_rfl)) (by kernel_rfl) (by kernel_rfl)
    (fun d=>(cE9 n _ _).trans (Eq.trans (b:=VC n (aK6 d.1) (bZ (bK6 n) bB6 [(2,none)])) (by kernel_rfl) ((aU4 n _ d.1).trans (by kernel_rfl))))
def aV4 (v0:ByteArray) (v1:Int):FState:=⟨aD [(0, .dat .str v0),(1, .dat (.int .i64) v1)],aC []⟩
def dD0 (v4:ByteArray):FState:=⟨aD [(4, .dat .str v4)],aC []⟩
def sM:List NE:=[.keep 4]
def cX0 (n:Nat):List (Nat×Spec):=[(20,bU1 n)]
def w8 (n:Nat):Ctx:={Γ0 with calls:=lkS (cX0 n)}
def aQ8:Code:=fb Tryd.f13
def bG2 (n:Nat) (kr:ByteArray→Option β) (v0:ByteArray) (v1:Int):Option β:=(g20 n v0).bind fun r1=>bnd (0:Int) (FK (r1.1.length:Int) v1) (r1.1.length:Int)<|kr (runesBytes (cut r1.1 (0:Int) ((0:Int)+((FK (r1.1.length:Int) v1) - (0:Int)))))
def UF (n:Nat) (s:FState) (cx:Cx β):Option β:=FXs (w8 n) n aQ8 none (some sM) [] [[0],[1,0],[1,1,0],[1,1,1]] s cx
theorem aV3 (n:Nat) (cx:Cx β) (v0:ByteArray) (v1:Int):UF n (aV4 v0 v1) cx=bG2 n (fun v4=>cx.ret (dD0 v4)) v0 v1:=by kernel_rfl
def g13 (n:Nat) (v0:ByteArray) (v1:Int):Option (DenR [.dat .str]):=bG2 n (fun v4=>some (v4,())) v0 v1
def dB6:List AK:=[.dat .str, .dat (.int .i64)]
def aO3:List RK:=[.dat .str]
def dN4 (n:Nat) (d:DenA dB6):Option (DenR aO3):=g13 n d.1 d.2.1
def dB0 (n:Nat):Spec:=aK dB6 aO3 (dN4 n)
def cK7:Sk:=(.nd (.fin none none (some sM) [] .leaf) (.nd (.fin none none (some sM) [] .leaf) (.nd (.fin none none (some sM) [] .leaf) (.fin none none (some sM) [] .leaf))))
theorem cB9 (n:Nat) (s:FState) (cx:Cx β):FX (w8 n) n aQ8 cK7 s cx=UF n s cx:=by kernel_rfl
theorem cB7 (n:Nat):Fit Tryd.prog 13 (dB0 n):=
  bT (Γ:=Γ0) (l:=cX0 n) (n:=n) (sk:=cK7) (ts:=[(4,none)]) (fn:=Tryd.f13) (c:=aQ8) (by kernel_rfl) (by kernel_rfl) (by unfold aI;kernel_rfl) bL ⟨S3 n,trivial⟩ aE (by kernel_rfl) (by kernel_rfl) (Nat.le_of_ble_eq_true (by kernel_rfl)) (Nat.le_of_ble_eq_true (by kernel_rfl)) (by kernel_rfl) (by kernel_rfl)
    (fun d=>(cB9 n _ _).trans (Eq.trans (b:=UF n (aV4 d.1 d.2.1) (bZ (w8 n) aO3 [(4,none)])) (by kernel_rfl) ((aV3 n _ d.1 d.2.1).trans (by kernel_rfl))))
def bC2:FState:=⟨aD [],aC []⟩
def dF6 (p0:Z10):FState:=⟨aD [(0, .ptr 0 0 0)],aC [(0, .row Z1 74 true [p0])]⟩
def AU:List NE:=[.ptr 0 Z1 74 true]
def cW3 (n:Nat):List (Nat×Spec):=[]
def aX5 (n:Nat):Ctx:={Γ0 with calls:=lkS (cW3 n)}
def aK9:Code:=fb Tryd.f42
def cL8 (n:Nat) (kr:Z10→Option β):Option β:=kr ((1000000000:Int),((4:Int),((1000:Int),((4602678819172646912:Nat),((4:Int),((32:Int),(4602678819172646912:Nat)))))))
def UR (n:Nat) (s:FState) (cx:Cx β):Option β:=FXs (aX5 n) n aK9 none (some AU) [] [[0],[1,0],[1,1]] s cx
theorem bD1 (n:Nat) (cx:Cx β):UR n bC2 cx=cL8 n (fun p0=>cx.ret (dF6 p0)):=by kernel_rfl
def g42 (n:Nat):Option (DenR [.ptr Z1 74]):=cL8 n (fun p0=>some (p0,()))
def cK9:List AK:=[]
def aE7:List RK:=[.ptr Z1 74]
def dO3 (n:Nat) (d:DenA cK9):Option (DenR aE7):=g42 n
def bW6 (n:Nat):Spec:=aK cK9 aE7 (dO3 n)
def cN9:Sk:=(.nd (.fin none none (some AU) [] .leaf) (.nd (.fin none none (some AU) [] .leaf) (.fin none none (some AU) [] .leaf)))
theorem cI5 (n:Nat) (s:FState) (cx:Cx β):FX (aX5 n) n aK9 cN9 s cx=UR n s cx:=by kernel_rfl
theorem J8 (n:Nat):Fit Tryd.prog 42 (bW6 n):=
  bT (Γ:=Γ0) (l:=cW3 n) (n:=n) (sk:=cN9) (ts:=[(0,none)]) (fn:=Tryd.f42) (c:=aK9) (by kernel_rfl) (by kernel_rfl) (by unfold aI;kernel_rfl) bL trivial aE (by kernel_rfl) (by kernel_rfl) (Nat.le_of_ble_eq_true (by kernel_rfl)) (Nat.le_of_ble_eq_true (by kernel_rfl)) (by kernel_rfl) (by kernel_rfl)
    (fun d=>(cI5 n _ _).trans (Eq.trans (b:=UR n (bC2) (bZ (aX5 n) aE7 [(0,none)])) (by kernel_rfl) ((bD1 n _).trans (by kernel_rfl))))
def C7 (v0 v1:ByteArray):FState:=⟨aD [(0, .dat .str v0),(1, .dat .str v1)],aC []⟩
def vI (v4:Int):FState:=⟨aD [(4, .dat (.int .i64) v4)],aC []⟩
def kX:List NE:=[.keep 4]
def wB (v0 v1:ByteArray) (v5:Int):FState:=⟨aD [(0, .dat .str v0),(1, .dat .str v1),(5, .dat (.int .i64) v5)],aC []⟩
def AM:List NE:=[.keep 0, .keep 1, .keep 5]
def DE:FState:=⟨aD [],aC []⟩
def tW:List NE:=[]
def cP7 (n:Nat):List (Nat×Spec):=[]
def QK (n:Nat):Ctx:={Γ0 with calls:=lkS (cP7 n)}
def SW:Code:=fb Tryd.f94
def bT6 (n:Nat) (kn:ByteArray→ByteArray→Int→Option β) (v0 v1:ByteArray):Option β:=kn v0 v1 (0:Int)
def bV6 (n:Nat) (s:FState) (cx:Cx β):Option β:=FXs (QK n) n SW (some AM) none [] [[0],[1,0,0]] s cx
theorem aT0 (n:Nat) (cx:Cx β) (v0 v1:ByteArray):bV6 n (C7 v0 v1) cx=bT6 n (fun v0 v1 v5=>cx.nrm (wB v0 v1 v5)) v0 v1:=by kernel_rfl
def K7 (n:Nat) (kn:ByteArray→ByteArray→Int→Option β) (kr:Int→Option β) (kx0:Option β) (v0 v1:ByteArray) (v5:Int):Option β:=bif (decide ((w64 (v5+(v1.size:Int)))≤(v0.size:Int))) then (bnd v5 (w64 (v5+(v1.size:Int))) (v0.size:Int)<|bif (dL (cD v0 v5 (w64 (v5+(v1.size:Int)))) v1) then (kr v5) else (kn v0 v1 (w64 (v5+1)))) else kx0
def TU (n:Nat) (s:FState) (cx:Cx β):Option β:=FXs (QK n) n SW (some AM) (some kX) [(0,tW)] [[1,0,1,0,0,0,0],[1,0,1,0,0,0,1],[1,0,1,0,0,1,0],[1,0,1,0,0,1,1]] s cx
theorem bQ4 (n:Nat) (cx:Cx β) (v0 v1:ByteArray) (v5:Int):TU n (wB v0 v1 v5) cx=K7 n (fun v0 v1 v5=>cx.nrm (wB v0 v1 v5)) (fun v4=>cx.ret (vI v4)) (cx.ex 0 DE) v0 v1 v5:=by kernel_rfl
def g94_3L (n:Nat) (kr:Int→Option β) (kx0:Option β):Nat→ByteArray→ByteArray→Int→Option β
  | 0,_,_,_=>none
  | m+1,v0,v1,v5=>K7 n (g94_3L n kr kx0 m) kr kx0 v0 v1 v5
def aX9 (n:Nat) (kr:Int→Option β) (kx0:Option β) (v0 v1:ByteArray) (v5:Int):Option β:=g94_3L n kr kx0 n v0 v1 v5
def bP3 (n:Nat) (s:FState) (cx:Cx β):Option β:=aZ (fun again s=>TU n s {cx with nrm:=again}) n s
theorem k7 (n:Nat) (cx:Cx β):∀(m:Nat) (v0 v1:ByteArray) (v5:Int),aZ (fun again s=>TU n s {cx with nrm:=again}) m (wB v0 v1 v5)=g94_3L n (fun v4=>cx.ret (vI v4)) (cx.ex 0 DE) m v0 v1 v5:=by
  intro m
  induction m with
  | zero=>intros;rfl
  | succ m ih=>intros;simp only [aZ,g94_3L,bQ4,ih]
theorem bJ1 (n:Nat) (cx:Cx β) (v0 v1:ByteArray) (v5:Int):bP3 n (wB v0 v1 v5) cx=aX9 n (fun v4=>cx.ret (vI v4)) (cx.ex 0 DE) v0 v1 v5:=k7 n cx n v0 v1 v5
def bT2 (n:Nat) (kn:Option β) (kr:Int→Option β) (v0 v1:ByteArray) (v5:Int):Option β:=aX9 n kr kn v0 v1 v5
def bV7 (n:Nat) (s:FState) (cx:Cx β):Option β:=bP3 n s {cx with ex:=fun j s=>bif Nat.beq j 0 then cx.nrm s else cx.ex j s}
theorem bK2 (n:Nat) (cx:Cx β) (v0 v1:ByteArray) (v5:Int):bV7 n (wB v0 v1 v5) cx=bT2 n (cx.nrm DE) (fun v4=>cx.ret (vI v4)) v0 v1 v5:=bJ1 n _ v0 v1 v5
def bJ5 (n:Nat) (kr:Int→Option β):Option β:=kr (-1:Int)
def aB3 (n:Nat) (s:FState) (cx:Cx β):Option β:=FXs (QK n) n SW none (some kX) [] [[1,1,0],[1,1,1]] s cx
theorem aG3 (n:Nat) (cx:Cx β):aB3 n DE cx=bJ5 n (fun v4=>cx.ret (vI v4)):=by kernel_rfl
def M6 (n:Nat) (kr:Int→Option β) (v0 v1:ByteArray):Option β:=bT6 n (fun v0 v1 v5=>bT2 n (bJ5 n kr) kr v0 v1 v5) v0 v1
def LZ (n:Nat) (s:FState) (cx:Cx β):Option β:=bV6 n s {cx with nrm:=fun s=>bV7 n s {cx with nrm:=fun s=>aB3 n s cx}}
theorem aY8 (n:Nat) (cx:Cx β) (v0 v1:ByteArray):LZ n (C7 v0 v1) cx=M6 n (fun v4=>cx.ret (vI v4)) v0 v1:=by simp only [LZ,M6,aT0,bK2,aG3]
def g94 (n:Nat) (v0 v1:ByteArray):Option (DenR [.dat (.int .i64)]):=M6 n (fun v4=>some (v4,())) v0 v1
def cM1:List AK:=[.dat .str, .dat .str]
def aN1:List RK:=[.dat (.int .i64)]
def dL6 (n:Nat) (d:DenA cM1):Option (DenR aN1):=g94 n d.1 d.2.1
def cO8 (n:Nat):Spec:=aK cM1 aN1 (dL6 n)
def dA4:Sk:=(.nd (.fin none none none [] .leaf) (.nd (.nd (.fin none (some AM) none [] .leaf) (.nd (.nd (.nd (.nd (.fin none none (some kX) [(0,tW)] .leaf) (.fin none none (some kX) [(0,tW)] .leaf)) (.nd (.fin none none (some kX) [(0,tW)] .leaf) (.fin none (some AM) (some kX) [(0,tW)] .leaf))) .leaf) .leaf)) (.nd (.fin none none (some kX) [] .leaf) (.fin none none (some kX) [] .leaf))))
theorem cK0 (n:Nat) (s:FState) (cx:Cx β):FX (QK n) n SW dA4 s cx=LZ n s cx:=by kernel_rfl
theorem bZ9 (n:Nat):Fit Tryd.prog 94 (cO8 n):=
  bT (Γ:=Γ0) (l:=cP7 n) (n:=n) (sk:=dA4) (ts:=[(4,none)]) (fn:=Tryd.f94) (c:=SW) (by kernel_rfl) (by kernel_rfl) (by unfold aI;kernel_rfl) bL trivial aE (by kernel_rfl) (by kernel_rfl) (Nat.le_of_ble_eq_true (by kernel_rfl)) (Nat.le_of_ble_eq_true (by kernel_rfl)) (by kernel_rfl) (by kernel_rfl)
    (fun d=>(cK0 n _ _).trans (Eq.trans (b:=LZ n (C7 d.1 d.2.1) (bZ (QK n) aN1 [(4,none)])) (by kernel_rfl) ((aY8 n _ d.1 d.2.1).trans (by kernel_rfl))))
def aH1 (v0 v1:ByteArray) (v2:Int):FState:=⟨aD [(0, .dat .str v0),(1, .dat .str v1),(2, .dat (.int .i64) v2)],aC []⟩
def dG0 (v6:Int):FState:=⟨aD [(6, .dat (.int .i64) v6)],aC []⟩
def iG:List NE:=[.keep 6]
def cU0 (n:Nat):List (Nat×Spec):=[(94,cO8 n)]
def aQ7 (n:Nat):Ctx:={Γ0 with calls:=lkS (cU0 n)}
def aO9:Code:=fb Tryd.f95
def aA4 (n:Nat) (kr:Int→Option β) (v0 v1:ByteArray) (v2:Int):Option β:=bif (decide (v2>(w64 ((v0.size:Int) - 1)))) then (kr (-1:Int)) else (bif (decide (v2≤(0:Int))) then ((g94 n v0 v1).bind fun r1=>kr r1.1) else (bnd v2 (v0.size:Int) (v0.size:Int)<|(g94 n (cD v0 v2 (v0.size:Int)) v1).bind fun r2=>bif (r2.1==(-1:Int)) then (kr (-1:Int)) else (kr (w64 (r2.1+v2)))))
def WL (n:Nat) (s:FState) (cx:Cx β):Option β:=FXs (aQ7 n) n aO9 none (some iG) [] [[0],[1,0,0],[1,0,1],[1,1,0,0],[1,1,0,1],[1,1,1,0],[1,1,1,1,0,0],[1,1,1,1,0,1],[1,1,1,1,1,0],[1,1,1,1,1,1]] s cx
theorem aC4 (n:Nat) (cx:Cx β) (v0 v1:ByteArray) (v2:Int):WL n (aH1 v0 v1 v2) cx=aA4 n (fun v6=>cx.ret (dG0 v6)) v0 v1 v2:=by kernel_rfl
def g95 (n:Nat) (v0 v1:ByteArray) (v2:Int):Option (DenR [.dat (.int .i64)]):=aA4 n (fun v6=>some (v6,())) v0 v1 v2
def cO0:List AK:=[.dat .str, .dat .str, .dat (.int .i64)]
def aW8:List RK:=[.dat (.int .i64)]
def dL7 (n:Nat) (d:DenA cO0):Option (DenR aW8):=g95 n d.1 d.2.1 d.2.2.1
def dC2 (n:Nat):Spec:=aK cO0 aW8 (dL7 n)
def dA2:Sk:=(.nd (.fin none none (some iG) [] .leaf) (.nd (.nd (.fin none none (some iG) [] .leaf) (.fin none none (some iG) [] .leaf)) (.nd (.nd (.fin none none (some iG) [] .leaf) (.fin none none (some iG) [] .leaf)) (.nd (.fin none none (some iG) [] .leaf) (.nd (.nd (.fin none none (some iG) [] .leaf) (.fin none none (some iG) [] .leaf)) (.nd (.fin none none (some iG) [] .leaf) (.fin none none (some iG) [] .leaf)))))))
theorem bZ3 (n:Nat) (s:FState) (cx:Cx β):FX (aQ7 n) n aO9 dA2 s cx=WL n s cx:=by kernel_rfl
theorem cF0 (n:Nat):Fit Tryd.prog 95 (dC2 n):=
  bT (Γ:=Γ0) (l:=cU0 n) (n:=n) (sk:=dA2) (ts:=[(6,none)]) (fn:=Tryd.f95) (c:=aO9) (by kernel_rfl) (by kernel_rfl) (by unfold aI;kernel_rfl) bL ⟨bZ9 n,trivial⟩ aE (by kernel_rfl) (by kernel_rfl) (Nat.le_of_ble_eq_true (by kernel_rfl)) (Nat.le_of_ble_eq_true (by kernel_rfl)) (by kernel_rfl) (by kernel_rfl)
    (fun d=>(bZ3 n _ _).trans (Eq.trans (b:=WL n (aH1 d.1 d.2.1 d.2.2.1) (bZ (aQ7 n) aW8 [(6,none)])) (by kernel_rfl) ((aC4 n _ d.1 d.2.1 d.2.2.1).trans (by kernel_rfl))))
def EJ (p0:Z10) (v1:ByteArray) (x1000002:List ByteArray) (m3:List Z27):FState:=⟨aD [(0, .ptr 0 0 0),(1, .dat .str v1),(2, .cp 2 0),(1000002, .sl 1000002 none false),(3, .mp 3)],aC [(0, .row Z1 74 false [p0]),(2, .cell (.sl 9 .str) 40),(1000002, .row .str 9 true x1000002),(3, .mapo .str (.int .i64) m3)]⟩
def J6:List NE:=[.ptr 0 Z1 74 false, .keep 1, .cell 2 (.sl 9 .str) 40, .row 1000002 .str 9 true, .mp 3 .str (.int .i64)]
def aU9 (x1000002:List ByteArray) (m3:List Z27) (x8:List Int):FState:=⟨aD [(2, .cp 2 0),(1000002, .sl 1000002 none false),(3, .mp 3),(8, .sl 8 none false)],aC [(2, .cell (.sl 9 .str) 40),(1000002, .row .str 9 true x1000002),(3, .mapo .str (.int .i64) m3),(8, .row (.int .u32) 105 true x8)]⟩
def MJ:List NE:=[.cell 2 (.sl 9 .str) 40, .row 1000002 .str 9 true, .mp 3 .str (.int .i64), .row 8 (.int .u32) 105 true]
def wV (v1:ByteArray) (x1000002:List ByteArray) (m3:List Z27) (v9 v10:Int) (x11:List Int):FState:=⟨aD [(1, .dat .str v1),(2, .cp 2 0),(1000002, .sl 1000002 none false),(3, .mp 3),(9, .dat (.int .i64) v9),(10, .dat (.int .i64) v10),(11, .sl 11 none false)],aC [(2, .cell (.sl 9 .str) 40),(1000002, .row .str 9 true x1000002),(3, .mapo .str (.int .i64) m3),(11, .row (.int .u32) 105 true x11)]⟩
def zM:List NE:=[.keep 1, .cell 2 (.sl 9 .str) 40, .row 1000002 .str 9 true, .mp 3 .str (.int .i64), .keep 9, .keep 10, .row 11 (.int .u32) 105 true]
def DM (x1000002:List ByteArray) (m3:List Z27) (x11:List Int):FState:=⟨aD [(2, .cp 2 0),(1000002, .sl 1000002 none false),(3, .mp 3),(11, .sl 11 none false)],aC [(2, .cell (.sl 9 .str) 40),(1000002, .row .str 9 true x1000002),(3, .mapo .str (.int .i64) m3),(11, .row (.int .u32) 105 true x11)]⟩
def AC:List NE:=[.cell 2 (.sl 9 .str) 40, .row 1000002 .str 9 true, .mp 3 .str (.int .i64), .row 11 (.int .u32) 105 true]
def cU5 (n:Nat):List (Nat×Spec):=[(95,dC2 n)]
def HS (n:Nat):Ctx:={Γ0 with calls:=lkS (cU5 n)}
def RR:Code:=fb Tryd.f75
def bQ3 (n:Nat) (kn:ByteArray→List ByteArray→List Z27→Int→Int→List Int→Option β) (p0:Z10) (v1:ByteArray) (x1000002:List ByteArray) (m3:List Z27):Option β:=kn v1 x1000002 m3 (0:Int) (-1:Int) ([]:List Int)
def aE4 (n:Nat) (s:FState) (cx:Cx β):Option β:=FXs (HS n) n RR (some zM) none [] [[0],[1,0],[1,1,0],[1,1,1,0]] s cx
theorem bR5 (n:Nat) (cx:Cx β) (p0:Z10) (v1:ByteArray) (x1000002:List ByteArray) (m3:List Z27):aE4 n (EJ p0 v1 x1000002 m3) cx=bQ3 n (fun v1 x1000002 m3 v9 v10 x11=>cx.nrm (wV v1 x1000002 m3 v9 v10 x11)) p0 v1 x1000002 m3:=by kernel_rfl
def bK7 (n:Nat) (kn:ByteArray→List ByteArray→List Z27→Int→Int→List Int→Option β) (kx0:List ByteArray→List Z27→List Int→Option β) (v1:ByteArray) (x1000002:List ByteArray) (m3:List Z27) (v9 v10:Int) (x11:List Int):Option β:=bif (decide (v10 < (w64 ((v1.size:Int) - 1)))) then ((g95 n v1 (⟨#[10]⟩:ByteArray) v9).bind fun r1=>bif (r1.1==(-1:Int)) then (bnd v9 (w64 ((w64 ((v1.size:Int) - 1))+(1:Int))) (v1.size:Int)<|bif (eR (a:= .str) (b:=(.int .i64)) (cD v1 v9 (w64 ((w64 ((v1.size:Int) - 1))+(1:Int)))) m3).isSome then (cG (x11.length+[(IntKind.u32.wrap (((eR (a:= .str) (b:=(.int .i64)) (cD v1 v9 (w64 ((w64 ((v1.size:Int) - 1))+(1:Int)))) m3).getD (0:Int))))].length)<|kn v1 x1000002 m3 (w64 ((w64 ((v1.size:Int) - 1))+(1:Int))) (w64 ((v1.size:Int) - 1)) (x11++[(IntKind.u32.wrap (((eR (a:= .str) (b:=(.int .i64)) (cD v1 v9 (w64 ((w64 ((v1.size:Int) - 1))+(1:Int)))) m3).getD (0:Int))))])) else (cG (x1000002.length+[(cD v1 v9 (w64 ((w64 ((v1.size:Int) - 1))+(1:Int))))].length)<|cG (x11.length+[(IntKind.u32.wrap ((w64 (((x1000002++[(cD v1 v9 (w64 ((w64 ((v1.size:Int) - 1))+(1:Int))))]).length:Int) - (1:Int)))))].length)<|kn v1 (x1000002++[(cD v1 v9 (w64 ((w64 ((v1.size:Int) - 1))+(1:Int))))]) (mH (a:= .str) (b:=(.int .i64)) (cD v1 v9 (w64 ((w64 ((v1.size:Int) - 1))+(1:Int)))) (w64 (((x1000002++[(cD v1 v9 (w64 ((w64 ((v1.size:Int) - 1))+(1:Int))))]).length:Int) - (1:Int))) m3) (w64 ((w64 ((v1.size:Int) - 1))+(1:Int))) (w64 ((v1.size:Int) - 1)) (x11++[(IntKind.u32.wrap ((w64 (((x1000002++[(cD v1 v9 (w64 ((w64 ((v1.size:Int) - 1))+(1:Int))))]).length:Int) - (1:Int)))))]))) else (bnd v9 (w64 (r1.1+1)) (v1.size:Int)<|bif (eR (a:= .str) (b:=(.int .i64)) (cD v1 v9 (w64 (r1.1+1))) m3).isSome then (cG (x11.length+[(IntKind.u32.wrap (((eR (a:= .str) (b:=(.int .i64)) (cD v1 v9 (w64 (r1.1+1))) m3).getD (0:Int))))].length)<|kn v1 x1000002 m3 (w64 (r1.1+1)) r1.1 (x11++[(IntKind.u32.wrap (((eR (a:= .str) (b:=(.int .i64)) (cD v1 v9 (w64 (r1.1+1))) m3).getD (0:Int))))])) else (cG (x1000002.length+[(cD v1 v9 (w64 (r1.1+1)))].length)<|cG (x11.length+[(IntKind.u32.wrap ((w64 (((x1000002++[(cD v1 v9 (w64 (r1.1+1)))]).length:Int) - (1:Int)))))].length)<|kn v1 (x1000002++[(cD v1 v9 (w64 (r1.1+1)))]) (mH (a:= .str) (b:=(.int .i64)) (cD v1 v9 (w64 (r1.1+1))) (w64 (((x1000002++[(cD v1 v9 (w64 (r1.1+1)))]).length:Int) - (1:Int))) m3) (w64 (r1.1+1)) r1.1 (x11++[(IntKind.u32.wrap ((w64 (((x1000002++[(cD v1 v9 (w64 (r1.1+1)))]).length:Int) - (1:Int)))))])))) else (kx0 x1000002 m3 x11)
def E4 (n:Nat) (s:FState) (cx:Cx β):Option β:=FXs (HS n) n RR (some zM) none [(0,AC)] [[1,1,1,1,0,0,0,0,0],[1,1,1,1,0,0,0,0,1],[1,1,1,1,0,0,0,1]] s cx
theorem aH5 (n:Nat) (cx:Cx β) (v1:ByteArray) (x1000002:List ByteArray) (m3:List Z27) (v9 v10:Int) (x11:List Int):E4 n (wV v1 x1000002 m3 v9 v10 x11) cx=bK7 n (fun v1 x1000002 m3 v9 v10 x11=>cx.nrm (wV v1 x1000002 m3 v9 v10 x11)) (fun x1000002 m3 x11=>cx.ex 0 (DM x1000002 m3 x11)) v1 x1000002 m3 v9 v10 x11:=by kernel_rfl
def g75_3L (n:Nat) (kx0:List ByteArray→List Z27→List Int→Option β):Nat→ByteArray→List ByteArray→List Z27→Int→Int→List Int→Option β
  | 0,_,_,_,_,_,_=>none
  | m+1,v1,x1000002,m3,v9,v10,x11=>bK7 n (g75_3L n kx0 m) kx0 v1 x1000002 m3 v9 v10 x11
def aZ2 (n:Nat) (kx0:List ByteArray→List Z27→List Int→Option β) (v1:ByteArray) (x1000002:List ByteArray) (m3:List Z27) (v9 v10:Int) (x11:List Int):Option β:=g75_3L n kx0 n v1 x1000002 m3 v9 v10 x11
def bA1 (n:Nat) (s:FState) (cx:Cx β):Option β:=aZ (fun again s=>E4 n s {cx with nrm:=again}) n s
theorem m6 (n:Nat) (cx:Cx β):∀(m:Nat) (v1:ByteArray) (x1000002:List ByteArray) (m3:List Z27) (v9 v10:Int) (x11:List Int),aZ (fun again s=>E4 n s {cx with nrm:=again}) m (wV v1 x1000002 m3 v9 v10 x11)=g75_3L n (fun x1000002 m3 x11=>cx.ex 0 (DM x1000002 m3 x11)) m v1 x1000002 m3 v9 v10 x11:=by
  intro m
  induction m with
  | zero=>intros;rfl
  | succ m ih=>intros;simp only [aZ,g75_3L,aH5,ih]
theorem bU7 (n:Nat) (cx:Cx β) (v1:ByteArray) (x1000002:List ByteArray) (m3:List Z27) (v9 v10:Int) (x11:List Int):bA1 n (wV v1 x1000002 m3 v9 v10 x11) cx=aZ2 n (fun x1000002 m3 x11=>cx.ex 0 (DM x1000002 m3 x11)) v1 x1000002 m3 v9 v10 x11:=m6 n cx n v1 x1000002 m3 v9 v10 x11
def bC6 (n:Nat) (kn:List ByteArray→List Z27→List Int→Option β) (v1:ByteArray) (x1000002:List ByteArray) (m3:List Z27) (v9 v10:Int) (x11:List Int):Option β:=aZ2 n kn v1 x1000002 m3 v9 v10 x11
def aW1 (n:Nat) (s:FState) (cx:Cx β):Option β:=bA1 n s {cx with ex:=fun j s=>bif Nat.beq j 0 then cx.nrm s else cx.ex j s}
theorem aH9 (n:Nat) (cx:Cx β) (v1:ByteArray) (x1000002:List ByteArray) (m3:List Z27) (v9 v10:Int) (x11:List Int):aW1 n (wV v1 x1000002 m3 v9 v10 x11) cx=bC6 n (fun x1000002 m3 x11=>cx.nrm (DM x1000002 m3 x11)) v1 x1000002 m3 v9 v10 x11:=bU7 n _ v1 x1000002 m3 v9 v10 x11
def bJ8 (n:Nat) (kr:List ByteArray→List Z27→List Int→Option β) (x1000002:List ByteArray) (m3:List Z27) (x11:List Int):Option β:=kr x1000002 m3 x11
def aY1 (n:Nat) (s:FState) (cx:Cx β):Option β:=FXs (HS n) n RR none (some MJ) [] [[1,1,1,1,1,0],[1,1,1,1,1,1]] s cx
theorem bW2 (n:Nat) (cx:Cx β) (x1000002:List ByteArray) (m3:List Z27) (x11:List Int):aY1 n (DM x1000002 m3 x11) cx=bJ8 n (fun x1000002 m3 x8=>cx.ret (aU9 x1000002 m3 x8)) x1000002 m3 x11:=by kernel_rfl
def L7 (n:Nat) (kr:List ByteArray→List Z27→List Int→Option β) (p0:Z10) (v1:ByteArray) (x1000002:List ByteArray) (m3:List Z27):Option β:=bQ3 n (fun v1 x1000002 m3 v9 v10 x11=>bC6 n (fun x1000002 m3 x11=>bJ8 n kr x1000002 m3 x11) v1 x1000002 m3 v9 v10 x11) p0 v1 x1000002 m3
def NM (n:Nat) (s:FState) (cx:Cx β):Option β:=aE4 n s {cx with nrm:=fun s=>aW1 n s {cx with nrm:=fun s=>aY1 n s cx}}
theorem aF0 (n:Nat) (cx:Cx β) (p0:Z10) (v1:ByteArray) (x1000002:List ByteArray) (m3:List Z27):NM n (EJ p0 v1 x1000002 m3) cx=L7 n (fun x1000002 m3 x8=>cx.ret (aU9 x1000002 m3 x8)) p0 v1 x1000002 m3:=by simp only [NM,L7,bR5,aH9,bW2]
def g75 (n:Nat) (p0:Z10) (v1:ByteArray) (x1000002:List ByteArray) (m3:List Z27):Option (DenR [.rw (.int .u32) 105]×DenR (aU [.pro Z1 74, .dat .str, .cel (.sl 9 .str) 40, .mp .str (.int .i64)])):=L7 n (fun x1000002 m3 x8=>some ((x8,()),(x1000002,(m3,())))) p0 v1 x1000002 m3
def qU:List AK:=[.pro Z1 74, .dat .str, .cel (.sl 9 .str) 40, .mp .str (.int .i64)]
def bF3:List RK:=[.rw (.int .u32) 105]
def dO6 (n:Nat) (d:DenA qU):Option (DenR bF3×DenR (aU qU)):=g75 n d.1 d.2.1 d.2.2.1 d.2.2.2.1
def cU4 (n:Nat):Spec:=kT qU bF3 (dO6 n)
def cW1:Sk:=(.nd (.fin none none none [] .leaf) (.nd (.fin none none none [] .leaf) (.nd (.fin none none none [] .leaf) (.nd (.fin none (some zM) none [] .leaf) (.nd (.nd (.nd (.nd (.nd (.fin none none none [(0,AC)] .leaf) (.fin none none none [(0,AC)] .leaf)) (.fin none (some zM) none [(0,AC)] .leaf)) .leaf) .leaf) (.nd (.fin none none (some MJ) [] .leaf) (.fin none none (some MJ) [] .leaf)))))))
theorem cI3 (n:Nat) (s:FState) (cx:Cx β):FX (HS n) n RR cW1 s cx=NM n s cx:=by kernel_rfl
theorem cF2 (n:Nat) (d:DenA qU) (β:Type) (κ:FState→Option β):cU 0 0 (aU qU) (eS qU 0) (toB qU d) (jK qU d) (fun s=>nQ (HS n) J6 (nO qU 0 s) κ)=κ (EJ d.1 d.2.1 d.2.2.1 d.2.2.2.1):=by kernel_rfl
theorem cC6 (n:Nat):Fit Tryd.prog 75 (cU4 n):=
  IH (Γ:=Γ0) (l:=cU5 n) (n:=n) (sk:=cW1) (nf:=J6) (m:=fun d=>EJ d.1 d.2.1 d.2.2.1 d.2.2.2.1) (ts:=[(8,none)]) (fn:=Tryd.f75) (c:=RR) (by kernel_rfl) (by kernel_rfl) (by unfold aI;kernel_rfl) bL ⟨cF0 n,trivial⟩ aE (by kernel_rfl) (by kernel_rfl) (Nat.le_of_ble_eq_true (by kernel_rfl)) (Nat.le_of_ble_eq_true (by kernel_rfl)) (by kernel_rfl) (by kernel_rfl) (cF2 n)
    (fun d=>(cI3 n _ _).trans (Eq.trans (b:=NM n (EJ d.1 d.2.1 d.2.2.1 d.2.2.2.1) (oV (HS n) qU bF3 [(8,none)])) (by kernel_rfl) ((aF0 n _ d.1 d.2.1 d.2.2.1 d.2.2.2.1).trans (by kernel_rfl))))
def O7 (v0 v1 v2:Int):FState:=⟨aD [(0, .dat (.int .u32) v0),(1, .dat (.int .u8) v1),(2, .dat (.int .u8) v2)],aC []⟩
def cH0 (v6:Int):FState:=⟨aD [(6, .dat (.int .u8) v6)],aC []⟩
def tV:List NE:=[.keep 6]
def aU7 (n:Nat):List (Nat×Spec):=[]
def ZD (n:Nat):Ctx:={Γ0 with calls:=lkS (aU7 n)}
def YD:Code:=fb Tryd.f116
def XT (n:Nat) (kr:Int→Option β) (v0 v1 v2:Int):Option β:=cH7 v2<|cH7 v1<|kr (IntKind.u8.wrap ((dE .u32 (dV .u32 v0 v2) (IntKind.u32.wrap ((mP .u32 (1:Int) v1) - (1:Int))))))
def NP (n:Nat) (s:FState) (cx:Cx β):Option β:=FXs (ZD n) n YD none (some tV) [] [[0],[1,0],[1,1]] s cx
theorem l6 (n:Nat) (cx:Cx β) (v0 v1 v2:Int):NP n (O7 v0 v1 v2) cx=XT n (fun v6=>cx.ret (cH0 v6)) v0 v1 v2:=by kernel_rfl
def rQ (n:Nat) (v0 v1 v2:Int):Option (DenR [.dat (.int .u8)]):=XT n (fun v6=>some (v6,())) v0 v1 v2
def bH7:List AK:=[.dat (.int .u32), .dat (.int .u8), .dat (.int .u8)]
def XA:List RK:=[.dat (.int .u8)]
def dG9 (n:Nat) (d:DenA bH7):Option (DenR XA):=rQ n d.1 d.2.1 d.2.2.1
def aP0 (n:Nat):Spec:=aK bH7 XA (dG9 n)
def bS9:Sk:=(.nd (.fin none none (some tV) [] .leaf) (.nd (.fin none none (some tV) [] .leaf) (.fin none none (some tV) [] .leaf)))
theorem bT8 (n:Nat) (s:FState) (cx:Cx β):FX (ZD n) n YD bS9 s cx=NP n s cx:=by kernel_rfl
theorem aX6 (n:Nat):Fit Tryd.prog 116 (aP0 n):=
  bT (Γ:=Γ0) (l:=aU7 n) (n:=n) (sk:=bS9) (ts:=[(6,none)]) (fn:=Tryd.f116) (c:=YD) (by kernel_rfl) (by kernel_rfl) (by unfold aI;kernel_rfl) bL trivial aE (by kernel_rfl) (by kernel_rfl) (Nat.le_of_ble_eq_true (by kernel_rfl)) (Nat.le_of_ble_eq_true (by kernel_rfl)) (by kernel_rfl) (by kernel_rfl)
    (fun d=>(bT8 n _ _).trans (Eq.trans (b:=NP n (O7 d.1 d.2.1 d.2.2.1) (bZ (ZD n) XA [(6,none)])) (by kernel_rfl) ((l6 n _ d.1 d.2.1 d.2.2.1).trans (by kernel_rfl))))
def aQ4:List AK:=[.ro (.int .u8) 5]
def bX7:List RK:=[.dat (.int .i32), .dat (.int .i64)]
def yC (n:Nat) (v0:List Int):Option (DenR [.dat (.int .i32), .dat (.int .i64)]):=if v0≠[]∧∀x∈v0,0≤x∧x < 256 then some (((Lib.decodeGo (strOfNums v0)).1:Int),(((Lib.decodeGo (strOfNums v0)).2:Int),())) else none
def dE4 (n:Nat) (d:DenA aQ4):Option (DenR bX7):=yC n d.1
def bS2 (n:Nat):Spec:=aK aQ4 bX7 (dE4 n)
theorem aN8 (n:Nat):Fit Tryd.prog 115 (bS2 n):=QO (by unfold aI;kernel_rfl) rfl fun d x w A vs hG ha hx=>by
  obtain ⟨v,vs',o1,o2,rfl,_,⟨_,ad,cap,rfl,hle,hne⟩,h3,_⟩:=ha
  obtain ⟨xs,u⟩:=d
  subst h3
  obtain ⟨hc,hx⟩:=aV hx
  cases hx
  obtain ⟨b,off,rfl,hb,hrow⟩:=hne hc.1
  have key:=Tryd.utf8_DecodeRune (strOfNums xs) b off cap w (cE7 hG) (E6 hc.2 hrow)
  rw [eY] at key
  exact key.mono fun e w' ⟨he,hb⟩=>⟨[.int .i32 (Lib.decodeGo (strOfNums xs)).1, .int .i64 (Lib.decodeGo (strOfNums xs)).2],he,⟨_,_,[],[],rfl,rfl,⟨rfl,_,rfl,rfl⟩,⟨_,_,[],[],rfl,rfl,⟨rfl,_,rfl,rfl⟩,rfl,rfl⟩⟩,hb⟩
def bK1 (v0:Int):FState:=⟨aD [(0, .dat (.int .u32) v0)],aC []⟩
def dD9 (v2:Int):FState:=⟨aD [(2, .dat (.int .i32) v2)],aC []⟩
def iF:List NE:=[.keep 2]
def dB5 (n:Nat):List (Nat×Spec):=[(115,bS2 n),(116,aP0 n)]
def aS6 (n:Nat):Ctx:={Γ0 with calls:=lkS (dB5 n)}
def bR1:Code:=fb Tryd.f96
def aG2 (n:Nat) (kr:Int→Option β) (v0:Int):Option β:=bif (decide (v0 < (128:Int))) then (kr (IntKind.i32.wrap (v0))) else (bif (decide (v0 < (2048:Int))) then ((rQ n v0 (5:Int) (6:Int)).bind fun r1=>(rQ n v0 (6:Int) (0:Int)).bind fun r2=>(yC n [(orI .u8 (192:Int) r1.1),(orI .u8 (128:Int) r2.1)]).bind fun r3=>bif (r3.2.1 !=(2:Int)) then none else (bif (r3.1==(65533:Int)) then none else (kr r3.1))) else (bif (decide (v0 < (63485:Int))) then (bif (decide (v0≥(55296:Int))) then ((rQ n (IntKind.u32.wrap (v0+(2048:Int))) (4:Int) (12:Int)).bind fun r4=>(rQ n (IntKind.u32.wrap (v0+(2048:Int))) (6:Int) (6:Int)).bind fun r5=>(rQ n (IntKind.u32.wrap (v0+(2048:Int))) (6:Int) (0:Int)).bind fun r6=>(yC n [(orI .u8 (224:Int) r4.1),(orI .u8 (128:Int) r5.1),(orI .u8 (128:Int) r6.1)]).bind fun r7=>bif (r7.2.1 !=(3:Int)) then none else (bif (r7.1==(65533:Int)) then none else (kr r7.1))) else ((rQ n v0 (4:Int) (12:Int)).bind fun r8=>(rQ n v0 (6:Int) (6:Int)).bind fun r9=>(rQ n v0 (6:Int) (0:Int)).bind fun r10=>(yC n [(orI .u8 (224:Int) r8.1),(orI .u8 (128:Int) r9.1),(orI .u8 (128:Int) r10.1)]).bind fun r11=>bif (r11.2.1 !=(3:Int)) then none else (bif (r11.1==(65533:Int)) then none else (kr r11.1)))) else (bif (decide (v0 < (2095101:Int))) then ((rQ n (IntKind.u32.wrap (v0+(2051:Int))) (3:Int) (18:Int)).bind fun r12=>(rQ n (IntKind.u32.wrap (v0+(2051:Int))) (6:Int) (12:Int)).bind fun r13=>(rQ n (IntKind.u32.wrap (v0+(2051:Int))) (6:Int) (6:Int)).bind fun r14=>(rQ n (IntKind.u32.wrap (v0+(2051:Int))) (6:Int) (0:Int)).bind fun r15=>(yC n [(orI .u8 (240:Int) r12.1),(orI .u8 (128:Int) r13.1),(orI .u8 (128:Int) r14.1),(orI .u8 (128:Int) r15.1)]).bind fun r16=>bif (r16.2.1 !=(4:Int)) then none else (bif (r16.1==(65533:Int)) then none else (kr r16.1))) else none)))
def UX (n:Nat) (s:FState) (cx:Cx β):Option β:=FXs (aS6 n) n bR1 none (some iF) [] [[0],[1,0,0],[1,0,1],[1,1,0,0],[1,1,0,1],[1,1,1,0,0],[1,1,1,0,1],[1,1,1,1,0,0],[1,1,1,1,0,1],[1,1,1,1,1]] s cx
theorem bX0 (n:Nat) (cx:Cx β) (v0:Int):UX n (bK1 v0) cx=aG2 n (fun v2=>cx.ret (dD9 v2)) v0:=by kernel_rfl
def g96 (n:Nat) (v0:Int):Option (DenR [.dat (.int .i32)]):=aG2 n (fun v2=>some (v2,())) v0
def cS4:List AK:=[.dat (.int .u32)]
def aA7:List RK:=[.dat (.int .i32)]
def dK9 (n:Nat) (d:DenA cS4):Option (DenR aA7):=g96 n d.1
def dB8 (n:Nat):Spec:=aK cS4 aA7 (dK9 n)
def cX6:Sk:=(.nd (.fin none none (some iF) [] .leaf) (.nd (.nd (.fin none none (some iF) [] .leaf) (.fin none none (some iF) [] .leaf)) (.nd (.nd (.fin none none (some iF) [] .leaf) (.fin none none (some iF) [] .leaf)) (.nd (.nd (.fin none none (some iF) [] .leaf) (.fin none none (some iF) [] .leaf)) (.nd (.nd (.fin none none (some iF) [] .leaf) (.fin none none (some iF) [] .leaf)) (.fin none none (some iF) [] .leaf))))))
theorem cH8 (n:Nat) (s:FState) (cx:Cx β):FX (aS6 n) n bR1 cX6 s cx=UX n s cx:=by kernel_rfl
theorem cE3 (n:Nat):Fit Tryd.prog 96 (dB8 n):=
  bT (Γ:=Γ0) (l:=dB5 n) (n:=n) (sk:=cX6) (ts:=[(2,none)]) (fn:=Tryd.f96) (c:=bR1) (by kernel_rfl) (by kernel_rfl) (by unfold aI;kernel_rfl) bL ⟨aN8 n,aX6 n,trivial⟩ aE (by kernel_rfl) (by kernel_rfl) (Nat.le_of_ble_eq_true (by kernel_rfl)) (Nat.le_of_ble_eq_true (by kernel_rfl)) (by kernel_rfl) (by kernel_rfl)
    (fun d=>(cH8 n _ _).trans (Eq.trans (b:=UX n (bK1 d.1) (bZ (aS6 n) aA7 [(2,none)])) (by kernel_rfl) ((bX0 n _ d.1).trans (by kernel_rfl))))
def A9 (x0:List Int):FState:=⟨aD [(0, .sl 0 none false)],aC [(0, .row (.int .u32) 105 false x0)]⟩
def UN (v2:ByteArray):FState:=⟨aD [(2, .dat .str v2)],aC []⟩
def jN:List NE:=[.keep 2]
def wS (x3 x10:List Int) (v11 v12:Int):FState:=⟨aD [(3, .sl 3 none false),(10, .sl 10 none false),(11, .dat (.int .i64) v11),(12, .dat (.int .i64) v12)],aC [(3, .row (.int .i32) 21 true x3),(10, .row (.int .u32) 105 false x10)]⟩
def zP:List NE:=[.row 3 (.int .i32) 21 true, .row 10 (.int .u32) 105 false, .keep 11, .keep 12]
def ES (x3:List Int):FState:=⟨aD [(3, .sl 3 none false)],aC [(3, .row (.int .i32) 21 true x3)]⟩
def tL:List NE:=[.row 3 (.int .i32) 21 true]
def cY3 (n:Nat):List (Nat×Spec):=[(96,dB8 n)]
def PE (n:Nat):Ctx:={Γ0 with calls:=lkS (cY3 n)}
def TL:Code:=fb Tryd.f76
def bQ2 (n:Nat) (kn:List Int→List Int→Int→Int→Option β) (kr:ByteArray→Option β) (x0:List Int):Option β:=bif ((x0.length:Int)==(0:Int)) then (kr (⟨#[]⟩:ByteArray)) else (kn ([]:List Int) x0 (x0.length:Int) (0:Int))
def y4 (n:Nat) (s:FState) (cx:Cx β):Option β:=FXs (PE n) n TL (some zP) (some jN) [] [[0],[1,0,0],[1,0,1],[1,1,0],[1,1,1,0,0]] s cx
theorem aF1 (n:Nat) (cx:Cx β) (x0:List Int):y4 n (A9 x0) cx=bQ2 n (fun x3 x10 v11 v12=>cx.nrm (wS x3 x10 v11 v12)) (fun v2=>cx.ret (UN v2)) x0:=by kernel_rfl
def H3 (n:Nat) (kn:List Int→List Int→Int→Int→Option β) (kx0:List Int→Option β) (x3 x10:List Int) (v11 v12:Int):Option β:=bif (decide (v12 < v11)) then (idx v12 (x10.length:Int)<|(g96 n (rd x10 v12 (0:Int))).bind fun r1=>cG (x3.length+[r1.1].length)<|kn (x3++[r1.1]) x10 v11 (w64 (v12+1))) else (kx0 x3)
def WV (n:Nat) (s:FState) (cx:Cx β):Option β:=FXs (PE n) n TL (some zP) none [(0,tL)] [[1,1,1,0,1,0,0,0],[1,1,1,0,1,0,0,1,0],[1,1,1,0,1,0,0,1,1,0],[1,1,1,0,1,0,0,1,1,1]] s cx
theorem aU8 (n:Nat) (cx:Cx β) (x3 x10:List Int) (v11 v12:Int):WV n (wS x3 x10 v11 v12) cx=H3 n (fun x3 x10 v11 v12=>cx.nrm (wS x3 x10 v11 v12)) (fun x3=>cx.ex 0 (ES x3)) x3 x10 v11 v12:=by kernel_rfl
def g76_3L (n:Nat) (kx0:List Int→Option β):Nat→List Int→List Int→Int→Int→Option β
  | 0,_,_,_,_=>none
  | m+1,x3,x10,v11,v12=>H3 n (g76_3L n kx0 m) kx0 x3 x10 v11 v12
def aJ2 (n:Nat) (kx0:List Int→Option β) (x3 x10:List Int) (v11 v12:Int):Option β:=g76_3L n kx0 n x3 x10 v11 v12
def aM0 (n:Nat) (s:FState) (cx:Cx β):Option β:=aZ (fun again s=>WV n s {cx with nrm:=again}) n s
theorem a8 (n:Nat) (cx:Cx β):∀(m:Nat) (x3 x10:List Int) (v11 v12:Int),aZ (fun again s=>WV n s {cx with nrm:=again}) m (wS x3 x10 v11 v12)=g76_3L n (fun x3=>cx.ex 0 (ES x3)) m x3 x10 v11 v12:=by
  intro m
  induction m with
  | zero=>intros;rfl
  | succ m ih=>intros;simp only [aZ,g76_3L,aU8,ih]
theorem bV1 (n:Nat) (cx:Cx β) (x3 x10:List Int) (v11 v12:Int):aM0 n (wS x3 x10 v11 v12) cx=aJ2 n (fun x3=>cx.ex 0 (ES x3)) x3 x10 v11 v12:=a8 n cx n x3 x10 v11 v12
def aX7 (n:Nat) (kn:List Int→Option β) (x3 x10:List Int) (v11 v12:Int):Option β:=aJ2 n kn x3 x10 v11 v12
def aC8 (n:Nat) (s:FState) (cx:Cx β):Option β:=aM0 n s {cx with ex:=fun j s=>bif Nat.beq j 0 then cx.nrm s else cx.ex j s}
theorem bO7 (n:Nat) (cx:Cx β) (x3 x10:List Int) (v11 v12:Int):aC8 n (wS x3 x10 v11 v12) cx=aX7 n (fun x3=>cx.nrm (ES x3)) x3 x10 v11 v12:=bV1 n _ x3 x10 v11 v12
def bS7 (n:Nat) (kr:ByteArray→Option β) (x3:List Int):Option β:=kr (runesBytes x3)
def aA2 (n:Nat) (s:FState) (cx:Cx β):Option β:=FXs (PE n) n TL none (some jN) [] [[1,1,1,1,0],[1,1,1,1,1]] s cx
theorem bM8 (n:Nat) (cx:Cx β) (x3:List Int):aA2 n (ES x3) cx=bS7 n (fun v2=>cx.ret (UN v2)) x3:=by kernel_rfl
def L6 (n:Nat) (kr:ByteArray→Option β) (x0:List Int):Option β:=bQ2 n (fun x3 x10 v11 v12=>aX7 n (fun x3=>bS7 n kr x3) x3 x10 v11 v12) kr x0
def MS (n:Nat) (s:FState) (cx:Cx β):Option β:=y4 n s {cx with nrm:=fun s=>aC8 n s {cx with nrm:=fun s=>aA2 n s cx}}
theorem bT4 (n:Nat) (cx:Cx β) (x0:List Int):MS n (A9 x0) cx=L6 n (fun v2=>cx.ret (UN v2)) x0:=by simp only [MS,L6,aF1,bO7,bM8]
def g76 (n:Nat) (x0:List Int):Option (DenR [.dat .str]):=L6 n (fun v2=>some (v2,())) x0
def cP8:List AK:=[.ro (.int .u32) 105]
def aS8:List RK:=[.dat .str]
def dJ8 (n:Nat) (d:DenA cP8):Option (DenR aS8):=g76 n d.1
def dA1 (n:Nat):Spec:=aK cP8 aS8 (dJ8 n)
def cO4:Sk:=(.nd (.fin none none (some jN) [] .leaf) (.nd (.nd (.fin none none (some jN) [] .leaf) (.fin none none (some jN) [] .leaf)) (.nd (.fin none none (some jN) [] .leaf) (.nd (.nd (.fin none (some zP) (some jN) [] .leaf) (.nd (.nd (.nd (.fin none none none [(0,tL)] .leaf) (.nd (.fin none none none [(0,tL)] .leaf) (.nd (.fin none none none [(0,tL)] .leaf) (.fin none (some zP) none [(0,tL)] .leaf)))) .leaf) .leaf)) (.nd (.fin none none (some jN) [] .leaf) (.fin none none (some jN) [] .leaf))))))
theorem bZ8 (n:Nat) (s:FState) (cx:Cx β):FX (PE n) n TL cO4 s cx=MS n s cx:=by kernel_rfl
theorem cI0 (n:Nat):Fit Tryd.prog 76 (dA1 n):=
  bT (Γ:=Γ0) (l:=cY3 n) (n:=n) (sk:=cO4) (ts:=[(2,none)]) (fn:=Tryd.f76) (c:=TL) (by kernel_rfl) (by kernel_rfl) (by unfold aI;kernel_rfl) bL ⟨cE3 n,trivial⟩ aE (by kernel_rfl) (by kernel_rfl) (Nat.le_of_ble_eq_true (by kernel_rfl)) (Nat.le_of_ble_eq_true (by kernel_rfl)) (by kernel_rfl) (by kernel_rfl)
    (fun d=>(bZ8 n _ _).trans (Eq.trans (b:=MS n (A9 d.1) (bZ (PE n) aS8 [(2,none)])) (by kernel_rfl) ((bT4 n _ d.1).trans (by kernel_rfl))))
def bV0 (p0:Z10) (v1 v2:ByteArray):FState:=⟨aD [(0, .ptr 0 0 0),(1, .dat .str v1),(2, .dat .str v2)],aC [(0, .row Z1 74 false [p0])]⟩
def dE6 (v6 v7:ByteArray) (x8:List ByteArray):FState:=⟨aD [(6, .dat .str v6),(7, .dat .str v7),(8, .sl 8 none false)],aC [(8, .row .str 9 true x8)]⟩
def kS:List NE:=[.keep 6, .keep 7, .row 8 .str 9 true]
def cU8 (n:Nat):List (Nat×Spec):=[(75,cU4 n),(76,dA1 n)]
def aN6 (n:Nat):Ctx:={Γ0 with calls:=lkS (cU8 n),cel:=[9]}
def bA3:Code:=fb Tryd.f59
def bL2 (n:Nat) (kr:ByteArray→ByteArray→List ByteArray→Option β) (p0:Z10) (v1 v2:ByteArray):Option β:=(g75 n p0 v1 [(⟨#[]⟩:ByteArray)] ([]:List Z27)).bind fun r1=>(g75 n p0 v2 r1.2.1 r1.2.2.1).bind fun r2=>(g76 n r1.1.1).bind fun r3=>(g76 n r2.1.1).bind fun r4=>kr r3.1 r4.1 r2.2.1
def D0 (n:Nat) (s:FState) (cx:Cx β):Option β:=FXs (aN6 n) n bA3 none (some kS) [] [[0],[1,0],[1,1,0],[1,1,1,0],[1,1,1,1,0],[1,1,1,1,1,0],[1,1,1,1,1,1]] s cx
theorem bK9 (n:Nat) (cx:Cx β) (p0:Z10) (v1 v2:ByteArray):D0 n (bV0 p0 v1 v2) cx=bL2 n (fun v6 v7 x8=>cx.ret (dE6 v6 v7 x8)) p0 v1 v2:=by kernel_rfl
def g59 (n:Nat) (p0:Z10) (v1 v2:ByteArray):Option (DenR [.dat .str, .dat .str, .rw .str 9]):=bL2 n (fun v6 v7 x8=>some (v6,(v7,(x8,())))) p0 v1 v2
def cZ4:List AK:=[.pro Z1 74, .dat .str, .dat .str]
def bH8:List RK:=[.dat .str, .dat .str, .rw .str 9]
def dK8 (n:Nat) (d:DenA cZ4):Option (DenR bH8):=g59 n d.1 d.2.1 d.2.2.1
def cR4 (n:Nat):Spec:=aK cZ4 bH8 (dK8 n)
def cN1:Sk:=(.nd (.fin none none (some kS) [] .leaf) (.nd (.fin none none (some kS) [] .leaf) (.nd (.fin none none (some kS) [] .leaf) (.nd (.fin none none (some kS) [] .leaf) (.nd (.fin none none (some kS) [] .leaf) (.nd (.fin none none (some kS) [] .leaf) (.fin none none (some kS) [] .leaf)))))))
theorem cE8 (n:Nat) (s:FState) (cx:Cx β):FX (aN6 n) n bA3 cN1 s cx=D0 n s cx:=by kernel_rfl
theorem cG6 (n:Nat):Fit Tryd.prog 59 (cR4 n):=
  bT (Γ:={Γ0 with cel:=[9]}) (l:=cU8 n) (n:=n) (sk:=cN1) (ts:=[(6,none),(7,none),(8,none)]) (fn:=Tryd.f59) (c:=bA3) (by kernel_rfl) (by kernel_rfl) (by unfold aI;kernel_rfl) (dF5 bL [9]) ⟨cC6 n,cI0 n,trivial⟩ aE (by kernel_rfl) (by kernel_rfl) (Nat.le_of_ble_eq_true (by kernel_rfl)) (Nat.le_of_ble_eq_true (by kernel_rfl)) (by kernel_rfl) (by kernel_rfl)
    (fun d=>(cE8 n _ _).trans (Eq.trans (b:=D0 n (bV0 d.1 d.2.1 d.2.2.1) (bZ (aN6 n) bH8 [(6,none),(7,none),(8,none)])) (by kernel_rfl) ((bK9 n _ d.1 d.2.1 d.2.2.1).trans (by kernel_rfl))))
def bQ8 (p0:Z10) (v1 v2:ByteArray):FState:=⟨aD [(0, .ptr 0 0 0),(1, .dat .str v1),(2, .dat .str v2)],aC [(0, .row Z1 74 false [p0])]⟩
def dE2 (x6 x7:List Int) (x8:List ByteArray):FState:=⟨aD [(6, .sl 6 none false),(7, .sl 7 none false),(8, .sl 8 none false)],aC [(6, .row (.int .i32) 21 true x6),(7, .row (.int .i32) 21 true x7),(8, .row .str 9 true x8)]⟩
def tE:List NE:=[.row 6 (.int .i32) 21 true, .row 7 (.int .i32) 21 true, .row 8 .str 9 true]
def cR9 (n:Nat):List (Nat×Spec):=[(59,cR4 n)]
def bV9 (n:Nat):Ctx:={Γ0 with calls:=lkS (cR9 n)}
def aL3:Code:=fb Tryd.f43
def aP3 (n:Nat) (kr:List Int→List Int→List ByteArray→Option β) (p0:Z10) (v1 v2:ByteArray):Option β:=(g59 n p0 v1 v2).bind fun r1=>oT r1.1<|oT r1.2.1<|kr (bE r1.1) (bE r1.2.1) r1.2.2.1
def WO (n:Nat) (s:FState) (cx:Cx β):Option β:=FXs (bV9 n) n aL3 none (some tE) [] [[0],[1,0],[1,1,0],[1,1,1]] s cx
theorem aJ8 (n:Nat) (cx:Cx β) (p0:Z10) (v1 v2:ByteArray):WO n (bQ8 p0 v1 v2) cx=aP3 n (fun x6 x7 x8=>cx.ret (dE2 x6 x7 x8)) p0 v1 v2:=by kernel_rfl
def g43 (n:Nat) (p0:Z10) (v1 v2:ByteArray):Option (DenR [.rw (.int .i32) 21, .rw (.int .i32) 21, .rw .str 9]):=aP3 n (fun x6 x7 x8=>some (x6,(x7,(x8,())))) p0 v1 v2
def dC3:List AK:=[.pro Z1 74, .dat .str, .dat .str]
def bD6:List RK:=[.rw (.int .i32) 21, .rw (.int .i32) 21, .rw .str 9]
def dP8 (n:Nat) (d:DenA dC3):Option (DenR bD6):=g43 n d.1 d.2.1 d.2.2.1
def cX2 (n:Nat):Spec:=aK dC3 bD6 (dP8 n)
def cT9:Sk:=(.nd (.fin none none (some tE) [] .leaf) (.nd (.fin none none (some tE) [] .leaf) (.nd (.fin none none (some tE) [] .leaf) (.fin none none (some tE) [] .leaf))))
theorem bZ4 (n:Nat) (s:FState) (cx:Cx β):FX (bV9 n) n aL3 cT9 s cx=WO n s cx:=by kernel_rfl
theorem cG1 (n:Nat):Fit Tryd.prog 43 (cX2 n):=
  bT (Γ:=Γ0) (l:=cR9 n) (n:=n) (sk:=cT9) (ts:=[(6,none),(7,none),(8,none)]) (fn:=Tryd.f43) (c:=aL3) (by kernel_rfl) (by kernel_rfl) (by unfold aI;kernel_rfl) bL ⟨cG6 n,trivial⟩ aE (by kernel_rfl) (by kernel_rfl) (Nat.le_of_ble_eq_true (by kernel_rfl)) (Nat.le_of_ble_eq_true (by kernel_rfl)) (by kernel_rfl) (by kernel_rfl)
    (fun d=>(bZ4 n _ _).trans (Eq.trans (b:=WO n (bQ8 d.1 d.2.1 d.2.2.1) (bZ (bV9 n) bD6 [(6,none),(7,none),(8,none)])) (by kernel_rfl) ((aJ8 n _ d.1 d.2.1 d.2.2.1).trans (by kernel_rfl))))
def bF5 (v0 v1:ByteArray):FState:=⟨aD [(0, .dat .str v0),(1, .dat .str v1)],aC []⟩
def dF0 (x4 x5:List Int) (x6:List ByteArray):FState:=⟨aD [(4, .sl 4 none false),(5, .sl 5 none false),(6, .sl 6 none false)],aC [(4, .row (.int .i32) 21 true x4),(5, .row (.int .i32) 21 true x5),(6, .row .str 9 true x6)]⟩
def yV:List NE:=[.row 4 (.int .i32) 21 true, .row 5 (.int .i32) 21 true, .row 6 .str 9 true]
def cW7 (n:Nat):List (Nat×Spec):=[(42,bW6 n),(43,cX2 n)]
def aX0 (n:Nat):Ctx:={Γ0 with calls:=lkS (cW7 n)}
def aV8:Code:=fb Tryd.f28
def bR8 (n:Nat) (kr:List Int→List Int→List ByteArray→Option β) (v0 v1:ByteArray):Option β:=(g42 n).bind fun r1=>(g43 n r1.1 v0 v1).bind fun r2=>kr r2.1 r2.2.1 r2.2.2.1
def VY (n:Nat) (s:FState) (cx:Cx β):Option β:=FXs (aX0 n) n aV8 none (some yV) [] [[0],[1,0],[1,1]] s cx
theorem bM3 (n:Nat) (cx:Cx β) (v0 v1:ByteArray):VY n (bF5 v0 v1) cx=bR8 n (fun x4 x5 x6=>cx.ret (dF0 x4 x5 x6)) v0 v1:=by kernel_rfl
def g28 (n:Nat) (v0 v1:ByteArray):Option (DenR [.rw (.int .i32) 21, .rw (.int .i32) 21, .rw .str 9]):=bR8 n (fun x4 x5 x6=>some (x4,(x5,(x6,())))) v0 v1
def cQ2:List AK:=[.dat .str, .dat .str]
def w7:List RK:=[.rw (.int .i32) 21, .rw (.int .i32) 21, .rw .str 9]
def dQ2 (n:Nat) (d:DenA cQ2):Option (DenR w7):=g28 n d.1 d.2.1
def cS0 (n:Nat):Spec:=aK cQ2 w7 (dQ2 n)
def cV9:Sk:=(.nd (.fin none none (some yV) [] .leaf) (.nd (.fin none none (some yV) [] .leaf) (.fin none none (some yV) [] .leaf)))
theorem cK1 (n:Nat) (s:FState) (cx:Cx β):FX (aX0 n) n aV8 cV9 s cx=VY n s cx:=by kernel_rfl
theorem cD1 (n:Nat):Fit Tryd.prog 28 (cS0 n):=
  bT (Γ:=Γ0) (l:=cW7 n) (n:=n) (sk:=cV9) (ts:=[(4,none),(5,none),(6,none)]) (fn:=Tryd.f28) (c:=aV8) (by kernel_rfl) (by kernel_rfl) (by unfold aI;kernel_rfl) bL ⟨J8 n,cG1 n,trivial⟩ aE (by kernel_rfl) (by kernel_rfl) (Nat.le_of_ble_eq_true (by kernel_rfl)) (Nat.le_of_ble_eq_true (by kernel_rfl)) (by kernel_rfl) (by kernel_rfl)
    (fun d=>(cK1 n _ _).trans (Eq.trans (b:=VY n (bF5 d.1 d.2.1) (bZ (aX0 n) w7 [(4,none),(5,none),(6,none)])) (by kernel_rfl) ((bM3 n _ d.1 d.2.1).trans (by kernel_rfl))))
def bD4 (v0 v1 v2 v3:Int):FState:=⟨aD [(0, .dat (.int .i64) v0),(1, .dat (.int .i64) v1),(2, .dat (.int .i64) v2),(3, .dat (.int .i64) v3)],aC []⟩
def dE0 (v8:Int):FState:=⟨aD [(8, .dat (.int .i64) v8)],aC []⟩
def pR:List NE:=[.keep 8]
def dA0 (n:Nat):List (Nat×Spec):=[]
def aX8 (n:Nat):Ctx:={Γ0 with calls:=lkS (dA0 n)}
def aP8:Code:=fb Tryd.f65
def aQ3 (n:Nat) (kr:Int→Option β) (v0 v1 v2 v3:Int):Option β:=bif (decide (v0 < v1)) then (kr v3) else (bif (decide (v0>v2)) then (kr v3) else (kr v0))
def ZF (n:Nat) (s:FState) (cx:Cx β):Option β:=FXs (aX8 n) n aP8 none (some pR) [] [[0],[1,0,0],[1,0,1],[1,1,0],[1,1,1]] s cx
theorem bP8 (n:Nat) (cx:Cx β) (v0 v1 v2 v3:Int):ZF n (bD4 v0 v1 v2 v3) cx=aQ3 n (fun v8=>cx.ret (dE0 v8)) v0 v1 v2 v3:=by kernel_rfl
def g65 (n:Nat) (v0 v1 v2 v3:Int):Option (DenR [.dat (.int .i64)]):=aQ3 n (fun v8=>some (v8,())) v0 v1 v2 v3
def cX5:List AK:=[.dat (.int .i64), .dat (.int .i64), .dat (.int .i64), .dat (.int .i64)]
def bH1:List RK:=[.dat (.int .i64)]
def dN7 (n:Nat) (d:DenA cX5):Option (DenR bH1):=g65 n d.1 d.2.1 d.2.2.1 d.2.2.2.1
def cW8 (n:Nat):Spec:=aK cX5 bH1 (dN7 n)
def cS2:Sk:=(.nd (.fin none none (some pR) [] .leaf) (.nd (.nd (.fin none none (some pR) [] .leaf) (.fin none none (some pR) [] .leaf)) (.nd (.fin none none (some pR) [] .leaf) (.fin none none (some pR) [] .leaf))))
theorem cF5 (n:Nat) (s:FState) (cx:Cx β):FX (aX8 n) n aP8 cS2 s cx=ZF n s cx:=by kernel_rfl
theorem cF1 (n:Nat):Fit Tryd.prog 65 (cW8 n):=
  bT (Γ:=Γ0) (l:=dA0 n) (n:=n) (sk:=cS2) (ts:=[(8,none)]) (fn:=Tryd.f65) (c:=aP8) (by kernel_rfl) (by kernel_rfl) (by unfold aI;kernel_rfl) bL trivial aE (by kernel_rfl) (by kernel_rfl) (Nat.le_of_ble_eq_true (by kernel_rfl)) (Nat.le_of_ble_eq_true (by kernel_rfl)) (by kernel_rfl) (by kernel_rfl)
    (fun d=>(cF5 n _ _).trans (Eq.trans (b:=ZF n (bD4 d.1 d.2.1 d.2.2.1 d.2.2.2.1) (bZ (aX8 n) bH1 [(8,none)])) (by kernel_rfl) ((bP8 n _ d.1 d.2.1 d.2.2.1 d.2.2.2.1).trans (by kernel_rfl))))
def aW0 (v0:Nat):FState:=⟨aD [(0, .dat (.flt .f64) v0)],aC []⟩
def dI2 (v2:Nat):FState:=⟨aD [(2, .dat (.flt .f64) v2)],aC []⟩
def pO:List NE:=[.keep 2]
def cL7 (n:Nat):List (Nat×Spec):=[]
def aI5 (n:Nat):Ctx:={Γ0 with calls:=lkS (cL7 n)}
def aV2:Code:=fb Tryd.f66
def bU6 (n:Nat) (kr:Nat→Option β) (v0:Nat):Option β:=bif ((fGt .f64 v0 (0:Nat))||(fEq .f64 v0 (0:Nat))) then (bif ((fLt .f64 v0 (4607182418800017408:Nat))||(fEq .f64 v0 (4607182418800017408:Nat))) then (kr v0) else (kr (4602678819172646912:Nat))) else (kr (4602678819172646912:Nat))
def VF (n:Nat) (s:FState) (cx:Cx β):Option β:=FXs (aI5 n) n aV2 none (some pO) [] [[0],[1,0,0],[1,0,1],[1,1,0],[1,1,1]] s cx
theorem bF7 (n:Nat) (cx:Cx β) (v0:Nat):VF n (aW0 v0) cx=bU6 n (fun v2=>cx.ret (dI2 v2)) v0:=by kernel_rfl
def g66 (n v0:Nat):Option (DenR [.dat (.flt .f64)]):=bU6 n (fun v2=>some (v2,())) v0
def cS9:List AK:=[.dat (.flt .f64)]
def aH2:List RK:=[.dat (.flt .f64)]
def dN6 (n:Nat) (d:DenA cS9):Option (DenR aH2):=g66 n d.1
def cQ1 (n:Nat):Spec:=aK cS9 aH2 (dN6 n)
def cP4:Sk:=(.nd (.fin none none (some pO) [] .leaf) (.nd (.nd (.fin none none (some pO) [] .leaf) (.fin none none (some pO) [] .leaf)) (.nd (.fin none none (some pO) [] .leaf) (.fin none none (some pO) [] .leaf))))
theorem cJ4 (n:Nat) (s:FState) (cx:Cx β):FX (aI5 n) n aV2 cP4 s cx=VF n s cx:=by kernel_rfl
theorem cC7 (n:Nat):Fit Tryd.prog 66 (cQ1 n):=
  bT (Γ:=Γ0) (l:=cL7 n) (n:=n) (sk:=cP4) (ts:=[(2,none)]) (fn:=Tryd.f66) (c:=aV2) (by kernel_rfl) (by kernel_rfl) (by unfold aI;kernel_rfl) bL trivial aE (by kernel_rfl) (by kernel_rfl) (Nat.le_of_ble_eq_true (by kernel_rfl)) (Nat.le_of_ble_eq_true (by kernel_rfl)) (by kernel_rfl) (by kernel_rfl)
    (fun d=>(cJ4 n _ _).trans (Eq.trans (b:=VF n (aW0 d.1) (bZ (aI5 n) aH2 [(2,none)])) (by kernel_rfl) ((bF7 n _ d.1).trans (by kernel_rfl))))
def bR7 (v0:Z9):FState:=⟨aD [(0, .dat Z2 v0)],aC []⟩
def dH3 (p2:Z10):FState:=⟨aD [(2, .ptr 2 0 0)],aC [(2, .row Z1 74 true [p2])]⟩
def mZ:List NE:=[.ptr 2 Z1 74 true]
def dA5 (n:Nat):List (Nat×Spec):=[(65,cW8 n),(66,cQ1 n)]
def bK8 (n:Nat):Ctx:={Γ0 with calls:=lkS (dA5 n)}
def bD9:Code:=fb Tryd.f50
def bP6 (n:Nat) (kr:Z10→Option β) (v0:Z9):Option β:=(g65 n v0.2.1 (0:Int) (1000:Int) (4:Int)).bind fun r1=>(g65 n v0.2.2.1 (0:Int) (1048576:Int) (1000:Int)).bind fun r2=>(g66 n v0.2.2.2.1).bind fun r3=>(g66 n v0.2.2.2.2.1).bind fun r4=>(g65 n v0.2.2.2.2.2.1 (1:Int) (8:Int) (4:Int)).bind fun r5=>(g65 n v0.2.2.2.2.2.2 (32:Int) (62:Int) (32:Int)).bind fun r6=>bif v0.1 then (kr ((1:Int),(r1.1,(r2.1,(r4.1,(r5.1,(r6.1,r3.1))))))) else (kr ((0:Int),(r1.1,(r2.1,(r4.1,(r5.1,(r6.1,r3.1)))))))
def WU (n:Nat) (s:FState) (cx:Cx β):Option β:=FXs (bK8 n) n bD9 none (some mZ) [] [[0],[1,0],[1,1,0,0],[1,1,0,1],[1,1,1,0],[1,1,1,1]] s cx
theorem aC6 (n:Nat) (cx:Cx β) (v0:Z9):WU n (bR7 v0) cx=bP6 n (fun p2=>cx.ret (dH3 p2)) v0:=by kernel_rfl
def g50 (n:Nat) (v0:Z9):Option (DenR [.ptr Z1 74]):=bP6 n (fun p2=>some (p2,())) v0
def cR7:List AK:=[.dat Z2]
def bB8:List RK:=[.ptr Z1 74]
def dP2 (n:Nat) (d:DenA cR7):Option (DenR bB8):=g50 n d.1
def cW6 (n:Nat):Spec:=aK cR7 bB8 (dP2 n)
def cL5:Sk:=(.nd (.fin none none (some mZ) [] .leaf) (.nd (.fin none none (some mZ) [] .leaf) (.nd (.nd (.fin none none (some mZ) [] .leaf) (.fin none none (some mZ) [] .leaf)) (.nd (.fin none none (some mZ) [] .leaf) (.fin none none (some mZ) [] .leaf)))))
theorem cG9 (n:Nat) (s:FState) (cx:Cx β):FX (bK8 n) n bD9 cL5 s cx=WU n s cx:=by kernel_rfl
theorem cF3 (n:Nat):Fit Tryd.prog 50 (cW6 n):=
  bT (Γ:=Γ0) (l:=dA5 n) (n:=n) (sk:=cL5) (ts:=[(2,none)]) (fn:=Tryd.f50) (c:=bD9) (by kernel_rfl) (by kernel_rfl) (by unfold aI;kernel_rfl) bL ⟨cF1 n,cC7 n,trivial⟩ aE (by kernel_rfl) (by kernel_rfl) (Nat.le_of_ble_eq_true (by kernel_rfl)) (Nat.le_of_ble_eq_true (by kernel_rfl)) (by kernel_rfl) (by kernel_rfl)
    (fun d=>(cG9 n _ _).trans (Eq.trans (b:=WU n (bR7 d.1) (bZ (bK8 n) bB8 [(2,none)])) (by kernel_rfl) ((aC6 n _ d.1).trans (by kernel_rfl))))
def bO6 (x0:List Int):FState:=⟨aD [(0, .sl 0 none false)],aC [(0, .row (.int .i32) 21 false x0)]⟩
def dD2 (x2:List Int):FState:=⟨aD [(2, .sl 2 none false)],aC [(2, .row (.int .i32) 21 true x2)]⟩
def AR:List NE:=[.row 2 (.int .i32) 21 true]
def dC0 (n:Nat):List (Nat×Spec):=[]
def bY2 (n:Nat):Ctx:={Γ0 with calls:=lkS (dC0 n)}
def bD3:Code:=fb Tryd.f54
def bI7 (n:Nat) (kr:List Int→Option β) (x0:List Int):Option β:=cG (([]:List Int).length+x0.length)<|kr (([]:List Int)++x0)
def UJ (n:Nat) (s:FState) (cx:Cx β):Option β:=FXs (bY2 n) n bD3 none (some AR) [] [[0],[1,0],[1,1]] s cx
theorem bC1 (n:Nat) (cx:Cx β) (x0:List Int):UJ n (bO6 x0) cx=bI7 n (fun x2=>cx.ret (dD2 x2)) x0:=by kernel_rfl
def g54 (n:Nat) (x0:List Int):Option (DenR [.rw (.int .i32) 21]):=bI7 n (fun x2=>some (x2,())) x0
def cV5:List AK:=[.ro (.int .i32) 21]
def aM7:List RK:=[.rw (.int .i32) 21]
def dK0 (n:Nat) (d:DenA cV5):Option (DenR aM7):=g54 n d.1
def cZ1 (n:Nat):Spec:=aK cV5 aM7 (dK0 n)
def cN5:Sk:=(.nd (.fin none none (some AR) [] .leaf) (.nd (.fin none none (some AR) [] .leaf) (.fin none none (some AR) [] .leaf)))
theorem cB3 (n:Nat) (s:FState) (cx:Cx β):FX (bY2 n) n bD3 cN5 s cx=UJ n s cx:=by kernel_rfl
theorem cJ9 (n:Nat):Fit Tryd.prog 54 (cZ1 n):=
  bT (Γ:=Γ0) (l:=dC0 n) (n:=n) (sk:=cN5) (ts:=[(2,none)]) (fn:=Tryd.f54) (c:=bD3) (by kernel_rfl) (by kernel_rfl) (by unfold aI;kernel_rfl) bL trivial aE (by kernel_rfl) (by kernel_rfl) (Nat.le_of_ble_eq_true (by kernel_rfl)) (Nat.le_of_ble_eq_true (by kernel_rfl)) (by kernel_rfl) (by kernel_rfl)
    (fun d=>(cB3 n _ _).trans (Eq.trans (b:=UJ n (bO6 d.1) (bZ (bY2 n) aM7 [(2,none)])) (by kernel_rfl) ((bC1 n _ d.1).trans (by kernel_rfl))))
def YL (x0 x1:List Int):FState:=⟨aD [(0, .sl 0 none false),(1, .sl 1 none false)],aC [(0, .row (.int .i32) 21 false x0),(1, .row (.int .i32) 21 false x1)]⟩
def rR (v4:Bool):FState:=⟨aD [(4, .dat .bool v4)],aC []⟩
def gI:List NE:=[.keep 4]
def vL (x1 x12:List Int) (v13 v14:Int):FState:=⟨aD [(1, .sl 1 none false),(12, .sl 12 none false),(13, .dat (.int .i64) v13),(14, .dat (.int .i64) v14)],aC [(1, .row (.int .i32) 21 false x1),(12, .row (.int .i32) 21 false x12)]⟩
def zF:List NE:=[.row 1 (.int .i32) 21 false, .row 12 (.int .i32) 21 false, .keep 13, .keep 14]
def BD:FState:=⟨aD [],aC []⟩
def tM:List NE:=[]
def cO9 (n:Nat):List (Nat×Spec):=[]
def SO (n:Nat):Ctx:={Γ0 with calls:=lkS (cO9 n)}
def RF:Code:=fb Tryd.f79
def aP9 (n:Nat) (kn:List Int→List Int→Int→Int→Option β) (kr:Bool→Option β) (x0 x1:List Int):Option β:=bif ((x0.length:Int)!=(x1.length:Int)) then (kr false) else (kn x1 x0 (x0.length:Int) (0:Int))
def aG1 (n:Nat) (s:FState) (cx:Cx β):Option β:=FXs (SO n) n RF (some zF) (some gI) [] [[0],[1,0,0],[1,0,1],[1,1,0,0]] s cx
theorem aR0 (n:Nat) (cx:Cx β) (x0 x1:List Int):aG1 n (YL x0 x1) cx=aP9 n (fun x1 x12 v13 v14=>cx.nrm (vL x1 x12 v13 v14)) (fun v4=>cx.ret (rR v4)) x0 x1:=by kernel_rfl
def P9 (n:Nat) (kn:List Int→List Int→Int→Int→Option β) (kr:Bool→Option β) (kx0:Option β) (x1 x12:List Int) (v13 v14:Int):Option β:=bif (decide (v14 < v13)) then (idx v14 (x12.length:Int)<|idx v14 (x1.length:Int)<|bif ((rd x12 v14 (0:Int))!=(rd x1 v14 (0:Int))) then (kr false) else (kn x1 x12 v13 (w64 (v14+1)))) else kx0
def XU (n:Nat) (s:FState) (cx:Cx β):Option β:=FXs (SO n) n RF (some zF) (some gI) [(0,tM)] [[1,1,0,1,0,0,0],[1,1,0,1,0,0,1,0],[1,1,0,1,0,0,1,1,0],[1,1,0,1,0,0,1,1,1]] s cx
theorem aC1 (n:Nat) (cx:Cx β) (x1 x12:List Int) (v13 v14:Int):XU n (vL x1 x12 v13 v14) cx=P9 n (fun x1 x12 v13 v14=>cx.nrm (vL x1 x12 v13 v14)) (fun v4=>cx.ret (rR v4)) (cx.ex 0 BD) x1 x12 v13 v14:=by kernel_rfl
def g79_3L (n:Nat) (kr:Bool→Option β) (kx0:Option β):Nat→List Int→List Int→Int→Int→Option β
  | 0,_,_,_,_=>none
  | m+1,x1,x12,v13,v14=>P9 n (g79_3L n kr kx0 m) kr kx0 x1 x12 v13 v14
def bC7 (n:Nat) (kr:Bool→Option β) (kx0:Option β) (x1 x12:List Int) (v13 v14:Int):Option β:=g79_3L n kr kx0 n x1 x12 v13 v14
def bY1 (n:Nat) (s:FState) (cx:Cx β):Option β:=aZ (fun again s=>XU n s {cx with nrm:=again}) n s
theorem l7 (n:Nat) (cx:Cx β):∀(m:Nat) (x1 x12:List Int) (v13 v14:Int),aZ (fun again s=>XU n s {cx with nrm:=again}) m (vL x1 x12 v13 v14)=g79_3L n (fun v4=>cx.ret (rR v4)) (cx.ex 0 BD) m x1 x12 v13 v14:=by
  intro m
  induction m with
  | zero=>intros;rfl
  | succ m ih=>intros;simp only [aZ,g79_3L,aC1,ih]
theorem aM1 (n:Nat) (cx:Cx β) (x1 x12:List Int) (v13 v14:Int):bY1 n (vL x1 x12 v13 v14) cx=bC7 n (fun v4=>cx.ret (rR v4)) (cx.ex 0 BD) x1 x12 v13 v14:=l7 n cx n x1 x12 v13 v14
def aJ4 (n:Nat) (kn:Option β) (kr:Bool→Option β) (x1 x12:List Int) (v13 v14:Int):Option β:=bC7 n kr kn x1 x12 v13 v14
def bF8 (n:Nat) (s:FState) (cx:Cx β):Option β:=bY1 n s {cx with ex:=fun j s=>bif Nat.beq j 0 then cx.nrm s else cx.ex j s}
theorem bF6 (n:Nat) (cx:Cx β) (x1 x12:List Int) (v13 v14:Int):bF8 n (vL x1 x12 v13 v14) cx=aJ4 n (cx.nrm BD) (fun v4=>cx.ret (rR v4)) x1 x12 v13 v14:=aM1 n _ x1 x12 v13 v14
def aE1 (n:Nat) (kr:Bool→Option β):Option β:=kr true
def bJ0 (n:Nat) (s:FState) (cx:Cx β):Option β:=FXs (SO n) n RF none (some gI) [] [[1,1,1,0],[1,1,1,1]] s cx
theorem bY3 (n:Nat) (cx:Cx β):bJ0 n BD cx=aE1 n (fun v4=>cx.ret (rR v4)):=by kernel_rfl
def P7 (n:Nat) (kr:Bool→Option β) (x0 x1:List Int):Option β:=aP9 n (fun x1 x12 v13 v14=>aJ4 n (aE1 n kr) kr x1 x12 v13 v14) kr x0 x1
def MX (n:Nat) (s:FState) (cx:Cx β):Option β:=aG1 n s {cx with nrm:=fun s=>bF8 n s {cx with nrm:=fun s=>bJ0 n s cx}}
theorem bP9 (n:Nat) (cx:Cx β) (x0 x1:List Int):MX n (YL x0 x1) cx=P7 n (fun v4=>cx.ret (rR v4)) x0 x1:=by simp only [MX,P7,aR0,bF6,bY3]
def g79 (n:Nat) (x0 x1:List Int):Option (DenR [.dat .bool]):=P7 n (fun v4=>some (v4,())) x0 x1
def dA9:List AK:=[.ro (.int .i32) 21, .ro (.int .i32) 21]
def aH7:List RK:=[.dat .bool]
def dJ7 (n:Nat) (d:DenA dA9):Option (DenR aH7):=g79 n d.1 d.2.1
def bE8 (n:Nat):Spec:=aK dA9 aH7 (dJ7 n)
def cU6:Sk:=(.nd (.fin none none (some gI) [] .leaf) (.nd (.nd (.fin none none (some gI) [] .leaf) (.fin none none (some gI) [] .leaf)) (.nd (.nd (.fin none (some zF) (some gI) [] .leaf) (.nd (.nd (.nd (.fin none none (some gI) [(0,tM)] .leaf) (.nd (.fin none none (some gI) [(0,tM)] .leaf) (.nd (.fin none none (some gI) [(0,tM)] .leaf) (.fin none (some zF) (some gI) [(0,tM)] .leaf)))) .leaf) .leaf)) (.nd (.fin none none (some gI) [] .leaf) (.fin none none (some gI) [] .leaf)))))
theorem cI8 (n:Nat) (s:FState) (cx:Cx β):FX (SO n) n RF cU6 s cx=MX n s cx:=by kernel_rfl
theorem R9 (n:Nat):Fit Tryd.prog 79 (bE8 n):=
  bT (Γ:=Γ0) (l:=cO9 n) (n:=n) (sk:=cU6) (ts:=[(4,none)]) (fn:=Tryd.f79) (c:=RF) (by kernel_rfl) (by kernel_rfl) (by unfold aI;kernel_rfl) bL trivial aE (by kernel_rfl) (by kernel_rfl) (Nat.le_of_ble_eq_true (by kernel_rfl)) (Nat.le_of_ble_eq_true (by kernel_rfl)) (by kernel_rfl) (by kernel_rfl)
    (fun d=>(cI8 n _ _).trans (Eq.trans (b:=MX n (YL d.1 d.2.1) (bZ (SO n) aH7 [(4,none)])) (by kernel_rfl) ((bP9 n _ d.1 d.2.1).trans (by kernel_rfl))))
def XQ (x0 x1:List Int):FState:=⟨aD [(0, .sl 0 none false),(1, .sl 1 none false)],aC [(0, .row (.int .i32) 21 false x0),(1, .row (.int .i32) 21 false x1)]⟩
def vR (v4:Int):FState:=⟨aD [(4, .dat (.int .i64) v4)],aC []⟩
def kY:List NE:=[.keep 4]
def wO (x0 x1:List Int) (v5:Int):FState:=⟨aD [(0, .sl 0 none false),(1, .sl 1 none false),(5, .dat (.int .i64) v5)],aC [(0, .row (.int .i32) 21 false x0),(1, .row (.int .i32) 21 false x1)]⟩
def yP:List NE:=[.row 0 (.int .i32) 21 false, .row 1 (.int .i32) 21 false, .keep 5]
def DV (v5:Int):FState:=⟨aD [(5, .dat (.int .i64) v5)],aC []⟩
def uK:List NE:=[.keep 5]
def cO5 (n:Nat):List (Nat×Spec):=[]
def PI (n:Nat):Ctx:={Γ0 with calls:=lkS (cO5 n)}
def PJ:Code:=fb Tryd.f80
def cP2 (n:Nat) (kn:List Int→List Int→Int→Option β) (x0 x1:List Int):Option β:=kn x0 x1 (0:Int)
def bB3 (n:Nat) (s:FState) (cx:Cx β):Option β:=FXs (PI n) n PJ (some yP) none [] [[0],[1,0]] s cx
theorem aV6 (n:Nat) (cx:Cx β) (x0 x1:List Int):bB3 n (XQ x0 x1) cx=cP2 n (fun x0 x1 v5=>cx.nrm (wO x0 x1 v5)) x0 x1:=by kernel_rfl
def bP2 (n:Nat) (kn:List Int→List Int→Int→Option β) (kr kx0:Int→Option β) (x0 x1:List Int) (v5:Int):Option β:=bif (decide (v5 < (x0.length:Int))) then (bif (decide (v5 < (x1.length:Int))) then (idx v5 (x0.length:Int)<|idx v5 (x1.length:Int)<|bif ((rd x0 v5 (0:Int))!=(rd x1 v5 (0:Int))) then (kr v5) else (kn x0 x1 (w64 (v5+1)))) else (kx0 v5)) else (kx0 v5)
def WG (n:Nat) (s:FState) (cx:Cx β):Option β:=FXs (PI n) n PJ (some yP) (some kY) [(0,uK)] [[1,1,0,0,0,0,0],[1,1,0,0,0,0,1],[1,1,0,0,0,1,0],[1,1,0,0,0,1,1]] s cx
theorem aA0 (n:Nat) (cx:Cx β) (x0 x1:List Int) (v5:Int):WG n (wO x0 x1 v5) cx=bP2 n (fun x0 x1 v5=>cx.nrm (wO x0 x1 v5)) (fun v4=>cx.ret (vR v4)) (fun v5=>cx.ex 0 (DV v5)) x0 x1 v5:=by kernel_rfl
def g80_3L (n:Nat) (kr:Int→Option β) (kx0:Int→Option β):Nat→List Int→List Int→Int→Option β
  | 0,_,_,_=>none
  | m+1,x0,x1,v5=>bP2 n (g80_3L n kr kx0 m) kr kx0 x0 x1 v5
def cM9 (n:Nat) (kr kx0:Int→Option β) (x0 x1:List Int) (v5:Int):Option β:=g80_3L n kr kx0 n x0 x1 v5
def aT1 (n:Nat) (s:FState) (cx:Cx β):Option β:=aZ (fun again s=>WG n s {cx with nrm:=again}) n s
theorem o6 (n:Nat) (cx:Cx β):∀(m:Nat) (x0 x1:List Int) (v5:Int),aZ (fun again s=>WG n s {cx with nrm:=again}) m (wO x0 x1 v5)=g80_3L n (fun v4=>cx.ret (vR v4)) (fun v5=>cx.ex 0 (DV v5)) m x0 x1 v5:=by
  intro m
  induction m with
  | zero=>intros;rfl
  | succ m ih=>intros;simp only [aZ,g80_3L,aA0,ih]
theorem bU0 (n:Nat) (cx:Cx β) (x0 x1:List Int) (v5:Int):aT1 n (wO x0 x1 v5) cx=cM9 n (fun v4=>cx.ret (vR v4)) (fun v5=>cx.ex 0 (DV v5)) x0 x1 v5:=o6 n cx n x0 x1 v5
def cQ5 (n:Nat) (kn kr:Int→Option β) (x0 x1:List Int) (v5:Int):Option β:=cM9 n kr kn x0 x1 v5
def aJ9 (n:Nat) (s:FState) (cx:Cx β):Option β:=aT1 n s {cx with ex:=fun j s=>bif Nat.beq j 0 then cx.nrm s else cx.ex j s}
theorem aR4 (n:Nat) (cx:Cx β) (x0 x1:List Int) (v5:Int):aJ9 n (wO x0 x1 v5) cx=cQ5 n (fun v5=>cx.nrm (DV v5)) (fun v4=>cx.ret (vR v4)) x0 x1 v5:=bU0 n _ x0 x1 v5
def cR5 (n:Nat) (kr:Int→Option β) (v5:Int):Option β:=kr v5
def bC4 (n:Nat) (s:FState) (cx:Cx β):Option β:=FXs (PI n) n PJ none (some kY) [] [[1,1,1,0],[1,1,1,1]] s cx
theorem aJ6 (n:Nat) (cx:Cx β) (v5:Int):bC4 n (DV v5) cx=cR5 n (fun v4=>cx.ret (vR v4)) v5:=by kernel_rfl
def aL1 (n:Nat) (kr:Int→Option β) (x0 x1:List Int):Option β:=cP2 n (fun x0 x1 v5=>cQ5 n (fun v5=>cR5 n kr v5) kr x0 x1 v5) x0 x1
def JG (n:Nat) (s:FState) (cx:Cx β):Option β:=bB3 n s {cx with nrm:=fun s=>aJ9 n s {cx with nrm:=fun s=>bC4 n s cx}}
theorem bS3 (n:Nat) (cx:Cx β) (x0 x1:List Int):JG n (XQ x0 x1) cx=aL1 n (fun v4=>cx.ret (vR v4)) x0 x1:=by simp only [JG,aL1,aV6,aR4,aJ6]
def g80 (n:Nat) (x0 x1:List Int):Option (DenR [.dat (.int .i64)]):=aL1 n (fun v4=>some (v4,())) x0 x1
def cV1:List AK:=[.ro (.int .i32) 21, .ro (.int .i32) 21]
def aO6:List RK:=[.dat (.int .i64)]
def dN9 (n:Nat) (d:DenA cV1):Option (DenR aO6):=g80 n d.1 d.2.1
def aI0 (n:Nat):Spec:=aK cV1 aO6 (dN9 n)
def cS1:Sk:=(.nd (.fin none none none [] .leaf) (.nd (.fin none (some yP) none [] .leaf) (.nd (.nd (.nd (.nd (.nd (.fin none none (some kY) [(0,uK)] .leaf) (.fin none none (some kY) [(0,uK)] .leaf)) (.nd (.fin none none (some kY) [(0,uK)] .leaf) (.fin none (some yP) (some kY) [(0,uK)] .leaf))) .leaf) .leaf) (.nd (.fin none none (some kY) [] .leaf) (.fin none none (some kY) [] .leaf)))))
theorem cK3 (n:Nat) (s:FState) (cx:Cx β):FX (PI n) n PJ cS1 s cx=JG n s cx:=by kernel_rfl
theorem N8 (n:Nat):Fit Tryd.prog 80 (aI0 n):=
  bT (Γ:=Γ0) (l:=cO5 n) (n:=n) (sk:=cS1) (ts:=[(4,none)]) (fn:=Tryd.f80) (c:=PJ) (by kernel_rfl) (by kernel_rfl) (by unfold aI;kernel_rfl) bL trivial aE (by kernel_rfl) (by kernel_rfl) (Nat.le_of_ble_eq_true (by kernel_rfl)) (Nat.le_of_ble_eq_true (by kernel_rfl)) (by kernel_rfl) (by kernel_rfl)
    (fun d=>(cK3 n _ _).trans (Eq.trans (b:=JG n (XQ d.1 d.2.1) (bZ (PI n) aO6 [(4,none)])) (by kernel_rfl) ((bS3 n _ d.1 d.2.1).trans (by kernel_rfl))))
def YZ (x0 x1:List Int):FState:=⟨aD [(0, .sl 0 none false),(1, .sl 1 none false)],aC [(0, .row (.int .i32) 21 false x0),(1, .row (.int .i32) 21 false x1)]⟩
def CJ (v4:Int):FState:=⟨aD [(4, .dat (.int .i64) v4)],aC []⟩
def IG:List NE:=[.keep 4]
def wR (x0 x1:List Int) (v5 v6 v7:Int):FState:=⟨aD [(0, .sl 0 none false),(1, .sl 1 none false),(5, .dat (.int .i64) v5),(6, .dat (.int .i64) v6),(7, .dat (.int .i64) v7)],aC [(0, .row (.int .i32) 21 false x0),(1, .row (.int .i32) 21 false x1)]⟩
def zC:List NE:=[.row 0 (.int .i32) 21 false, .row 1 (.int .i32) 21 false, .keep 5, .keep 6, .keep 7]
def cY0 (n:Nat):List (Nat×Spec):=[]
def O3 (n:Nat):Ctx:={Γ0 with calls:=lkS (cY0 n)}
def L1:Code:=fb Tryd.f81
def cY4 (n:Nat) (kn:List Int→List Int→Int→Int→Int→Option β) (x0 x1:List Int):Option β:=kn x0 x1 (x0.length:Int) (x1.length:Int) (0:Int)
def w9 (n:Nat) (s:FState) (cx:Cx β):Option β:=FXs (O3 n) n L1 (some zC) none [] [[0],[1,0],[1,1,0],[1,1,1,0]] s cx
theorem bV2 (n:Nat) (cx:Cx β) (x0 x1:List Int):w9 n (YZ x0 x1) cx=cY4 n (fun x0 x1 v5 v6 v7=>cx.nrm (wR x0 x1 v5 v6 v7)) x0 x1:=by kernel_rfl
def bN3 (n:Nat) (kn:List Int→List Int→Int→Int→Int→Option β) (kr:Int→Option β) (x0 x1:List Int) (v5 v6 v7:Int):Option β:=bif (decide ((w64 (v5 - 1)) < (0:Int))) then (kr v7) else (bif (decide ((w64 (v6 - 1)) < (0:Int))) then (kr v7) else (idx (w64 (v5 - 1)) (x0.length:Int)<|idx (w64 (v6 - 1)) (x1.length:Int)<|bif ((rd x0 (w64 (v5 - 1)) (0:Int))!=(rd x1 (w64 (v6 - 1)) (0:Int))) then (kr v7) else (kn x0 x1 (w64 (v5 - 1)) (w64 (v6 - 1)) (w64 (v7+1)))))
def UC (n:Nat) (s:FState) (cx:Cx β):Option β:=FXs (O3 n) n L1 (some zC) (some IG) [] [[1,1,1,1,0,0,0],[1,1,1,1,0,0,1]] s cx
theorem bB9 (n:Nat) (cx:Cx β) (x0 x1:List Int) (v5 v6 v7:Int):UC n (wR x0 x1 v5 v6 v7) cx=bN3 n (fun x0 x1 v5 v6 v7=>cx.nrm (wR x0 x1 v5 v6 v7)) (fun v4=>cx.ret (CJ v4)) x0 x1 v5 v6 v7:=by kernel_rfl
def g81_3L (n:Nat) (kr:Int→Option β):Nat→List Int→List Int→Int→Int→Int→Option β
  | 0,_,_,_,_,_=>none
  | m+1,x0,x1,v5,v6,v7=>bN3 n (g81_3L n kr m) kr x0 x1 v5 v6 v7
def cW4 (n:Nat) (kr:Int→Option β) (x0 x1:List Int) (v5 v6 v7:Int):Option β:=g81_3L n kr n x0 x1 v5 v6 v7
def bF4 (n:Nat) (s:FState) (cx:Cx β):Option β:=aZ (fun again s=>UC n s {cx with nrm:=again}) n s
theorem U9 (n:Nat) (cx:Cx β):∀(m:Nat) (x0 x1:List Int) (v5 v6 v7:Int),aZ (fun again s=>UC n s {cx with nrm:=again}) m (wR x0 x1 v5 v6 v7)=g81_3L n (fun v4=>cx.ret (CJ v4)) m x0 x1 v5 v6 v7:=by
  intro m
  induction m with
  | zero=>intros;rfl
  | succ m ih=>intros;simp only [aZ,g81_3L,bB9,ih]
theorem aR2 (n:Nat) (cx:Cx β) (x0 x1:List Int) (v5 v6 v7:Int):bF4 n (wR x0 x1 v5 v6 v7) cx=cW4 n (fun v4=>cx.ret (CJ v4)) x0 x1 v5 v6 v7:=U9 n cx n x0 x1 v5 v6 v7
def cP0 (n:Nat) (kr:Int→Option β) (x0 x1:List Int) (v5 v6 v7:Int):Option β:=cW4 n kr x0 x1 v5 v6 v7
def aL6 (n:Nat) (s:FState) (cx:Cx β):Option β:=bF4 n s {cx with ex:=fun j s=>bif Nat.beq j 0 then cx.nrm s else cx.ex j s}
theorem bK5 (n:Nat) (cx:Cx β) (x0 x1:List Int) (v5 v6 v7:Int):aL6 n (wR x0 x1 v5 v6 v7) cx=cP0 n (fun v4=>cx.ret (CJ v4)) x0 x1 v5 v6 v7:=aR2 n _ x0 x1 v5 v6 v7
def aD1 (n:Nat) (kr:Int→Option β) (x0 x1:List Int):Option β:=cY4 n (fun x0 x1 v5 v6 v7=>cP0 n kr x0 x1 v5 v6 v7) x0 x1
def JX (n:Nat) (s:FState) (cx:Cx β):Option β:=w9 n s {cx with nrm:=fun s=>aL6 n s cx}
theorem aY3 (n:Nat) (cx:Cx β) (x0 x1:List Int):JX n (YZ x0 x1) cx=aD1 n (fun v4=>cx.ret (CJ v4)) x0 x1:=by simp only [JX,aD1,bV2,bK5]
def g81 (n:Nat) (x0 x1:List Int):Option (DenR [.dat (.int .i64)]):=aD1 n (fun v4=>some (v4,())) x0 x1
def cR0:List AK:=[.ro (.int .i32) 21, .ro (.int .i32) 21]
def bI1:List RK:=[.dat (.int .i64)]
def dQ1 (n:Nat) (d:DenA cR0):Option (DenR bI1):=g81 n d.1 d.2.1
def bP5 (n:Nat):Spec:=aK cR0 bI1 (dQ1 n)
def cL4:Sk:=(.nd (.fin none none none [] .leaf) (.nd (.fin none none none [] .leaf) (.nd (.fin none none none [] .leaf) (.nd (.fin none (some zC) none [] .leaf) (.nd (.nd (.nd (.fin none none (some IG) [] .leaf) (.fin none (some zC) (some IG) [] .leaf)) .leaf) .leaf)))))
theorem cE5 (n:Nat) (s:FState) (cx:Cx β):FX (O3 n) n L1 cL4 s cx=JX n s cx:=by kernel_rfl
theorem T6 (n:Nat):Fit Tryd.prog 81 (bP5 n):=
  bT (Γ:=Γ0) (l:=cY0 n) (n:=n) (sk:=cL4) (ts:=[(4,none)]) (fn:=Tryd.f81) (c:=L1) (by kernel_rfl) (by kernel_rfl) (by unfold aI;kernel_rfl) bL trivial aE (by kernel_rfl) (by kernel_rfl) (Nat.le_of_ble_eq_true (by kernel_rfl)) (Nat.le_of_ble_eq_true (by kernel_rfl)) (by kernel_rfl) (by kernel_rfl)
    (fun d=>(cE5 n _ _).trans (Eq.trans (b:=JX n (YZ d.1 d.2.1) (bZ (O3 n) bI1 [(4,none)])) (by kernel_rfl) ((aY3 n _ d.1 d.2.1).trans (by kernel_rfl))))
def XI (x0:List Z28) (v1 v2:Int) (x3:List Z28):FState:=⟨aD [(0, .sl 0 none false),(1, .dat (.int .i64) v1),(2, .dat (.int .i64) v2),(3, .sl 3 none false)],aC [(0, .row Z24 81 true x0),(3, .row Z24 81 false x3)]⟩
def vZ (x8:List Z28):FState:=⟨aD [(8, .sl 8 none false)],aC [(8, .row Z24 81 true x8)]⟩
def gH:List NE:=[.row 8 Z24 81 true]
def CX (x0:List Z28) (v1 v2:Int) (x3:List Z28) (v26:Bool):FState:=⟨aD [(0, .sl 0 none false),(1, .dat (.int .i64) v1),(2, .dat (.int .i64) v2),(3, .sl 3 none false),(26, .dat .bool v26)],aC [(0, .row Z24 81 true x0),(3, .row Z24 81 false x3)]⟩
def F7:List NE:=[.row 0 Z24 81 true, .keep 1, .keep 2, .row 3 Z24 81 false, .keep 26]
def YK (x0:List Z28) (v1 v2:Int) (x3:List Z28):FState:=⟨aD [(0, .sl 0 none false),(1, .dat (.int .i64) v1),(2, .dat (.int .i64) v2),(3, .sl 3 none false)],aC [(0, .row Z24 81 true x0),(3, .row Z24 81 false x3)]⟩
def G6:List NE:=[.row 0 Z24 81 true, .keep 1, .keep 2, .row 3 Z24 81 false]
def xA (x0:List Z28) (v9 o10 l10 v55 v56:Int):FState:=⟨aD [(0, .sl 0 none false),(9, .dat (.int .i64) v9),(10, .sl 0 (some (o10,l10)) false),(55, .dat (.int .i64) v55),(56, .dat (.int .i64) v56)],aC [(0, .row Z24 81 true x0)]⟩
def yQ:List NE:=[.row 0 Z24 81 true, .keep 9, .row 10 Z24 81 true, .keep 55, .keep 56]
def DB (x0:List Z28) (v9:Int):FState:=⟨aD [(0, .sl 0 none false),(9, .dat (.int .i64) v9)],aC [(0, .row Z24 81 true x0)]⟩
def uY:List NE:=[.row 0 Z24 81 true, .keep 9]
def wJ (x0:List Z28) (v1 v2:Int) (x3:List Z28) (v12:Int):FState:=⟨aD [(0, .sl 0 none false),(1, .dat (.int .i64) v1),(2, .dat (.int .i64) v2),(3, .sl 3 none false),(12, .dat (.int .i64) v12)],aC [(0, .row Z24 81 true x0),(3, .row Z24 81 false x3)]⟩
def zO:List NE:=[.row 0 Z24 81 true, .keep 1, .keep 2, .row 3 Z24 81 false, .keep 12]
def EE (x0:List Z28) (v1 v2:Int) (x3:List Z28):FState:=⟨aD [(0, .sl 0 none false),(1, .dat (.int .i64) v1),(2, .dat (.int .i64) v2),(3, .sl 3 none false)],aC [(0, .row Z24 81 true x0),(3, .row Z24 81 false x3)]⟩
def AE:List NE:=[.row 0 Z24 81 true, .keep 1, .keep 2, .row 3 Z24 81 false]
def dC4 (n:Nat):List (Nat×Spec):=[]
def qL (n:Nat):Ctx:={Γ0 with calls:=lkS (dC4 n)}
def oC:Code:=fb Tryd.f71
def bU2 (n:Nat) (kn:List Z28→Int→Int→List Z28→Bool→Option β) (kr:List Z28→Option β) (x0:List Z28) (v1 v2:Int) (x3:List Z28):Option β:=bif ((x3.length:Int)==v2) then (bnd v1 (x0.length:Int) (x0.length:Int)<|kr (aQ x0 (v1+(0:Int)) ((x0.length:Int) - v1) x3)) else (kn x0 v1 v2 x3 (decide ((x3.length:Int) < v2)))
def aV7 (n:Nat) (s:FState) (cx:Cx β):Option β:=FXs (qL n) n oC (some F7) (some gH) [] [[0],[1,0,0],[1,0,1],[1,1,0,0]] s cx
theorem bK3 (n:Nat) (cx:Cx β) (x0:List Z28) (v1 v2:Int) (x3:List Z28):aV7 n (XI x0 v1 v2 x3) cx=bU2 n (fun x0 v1 v2 x3 v26=>cx.nrm (CX x0 v1 v2 x3 v26)) (fun x8=>cx.ret (vZ x8)) x0 v1 v2 x3:=by kernel_rfl
def bI3 (n:Nat) (kn:List Z28→Int→Int→Int→Int→Int→Option β) (x0:List Z28) (v1 v2:Int) (x3:List Z28) (v26:Bool):Option β:=bnd v1 (x0.length:Int) (x0.length:Int)<|bnd (w64 (v1+(x3.length:Int))) ((aQ x0 (v1+(0:Int)) ((x0.length:Int) - v1) x3).length:Int) ((aQ x0 (v1+(0:Int)) ((x0.length:Int) - v1) x3).length:Int)<|bnd (w64 (v1+v2)) ((aQ x0 (v1+(0:Int)) ((x0.length:Int) - v1) x3).length:Int) ((aQ x0 (v1+(0:Int)) ((x0.length:Int) - v1) x3).length:Int)<|bnd (w64 ((w64 (((aQ (aQ x0 (v1+(0:Int)) ((x0.length:Int) - v1) x3) ((w64 (v1+(x3.length:Int)))+(0:Int)) (((aQ x0 (v1+(0:Int)) ((x0.length:Int) - v1) x3).length:Int) - (w64 (v1+(x3.length:Int)))) (cut (aQ x0 (v1+(0:Int)) ((x0.length:Int) - v1) x3) (w64 (v1+v2)) ((w64 (v1+v2))+(((aQ x0 (v1+(0:Int)) ((x0.length:Int) - v1) x3).length:Int) - (w64 (v1+v2)))))).length:Int) - v2))+(x3.length:Int))) ((aQ (aQ x0 (v1+(0:Int)) ((x0.length:Int) - v1) x3) ((w64 (v1+(x3.length:Int)))+(0:Int)) (((aQ x0 (v1+(0:Int)) ((x0.length:Int) - v1) x3).length:Int) - (w64 (v1+(x3.length:Int)))) (cut (aQ x0 (v1+(0:Int)) ((x0.length:Int) - v1) x3) (w64 (v1+v2)) ((w64 (v1+v2))+(((aQ x0 (v1+(0:Int)) ((x0.length:Int) - v1) x3).length:Int) - (w64 (v1+v2)))))).length:Int) ((aQ (aQ x0 (v1+(0:Int)) ((x0.length:Int) - v1) x3) ((w64 (v1+(x3.length:Int)))+(0:Int)) (((aQ x0 (v1+(0:Int)) ((x0.length:Int) - v1) x3).length:Int) - (w64 (v1+(x3.length:Int)))) (cut (aQ x0 (v1+(0:Int)) ((x0.length:Int) - v1) x3) (w64 (v1+v2)) ((w64 (v1+v2))+(((aQ x0 (v1+(0:Int)) ((x0.length:Int) - v1) x3).length:Int) - (w64 (v1+v2)))))).length:Int)<|kn (aQ (aQ x0 (v1+(0:Int)) ((x0.length:Int) - v1) x3) ((w64 (v1+(x3.length:Int)))+(0:Int)) (((aQ x0 (v1+(0:Int)) ((x0.length:Int) - v1) x3).length:Int) - (w64 (v1+(x3.length:Int)))) (cut (aQ x0 (v1+(0:Int)) ((x0.length:Int) - v1) x3) (w64 (v1+v2)) ((w64 (v1+v2))+(((aQ x0 (v1+(0:Int)) ((x0.length:Int) - v1) x3).length:Int) - (w64 (v1+v2)))))) (w64 ((w64 (((aQ (aQ x0 (v1+(0:Int)) ((x0.length:Int) - v1) x3) ((w64 (v1+(x3.length:Int)))+(0:Int)) (((aQ x0 (v1+(0:Int)) ((x0.length:Int) - v1) x3).length:Int) - (w64 (v1+(x3.length:Int)))) (cut (aQ x0 (v1+(0:Int)) ((x0.length:Int) - v1) x3) (w64 (v1+v2)) ((w64 (v1+v2))+(((aQ x0 (v1+(0:Int)) ((x0.length:Int) - v1) x3).length:Int) - (w64 (v1+v2)))))).length:Int) - v2))+(x3.length:Int))) (w64 ((w64 (((aQ (aQ x0 (v1+(0:Int)) ((x0.length:Int) - v1) x3) ((w64 (v1+(x3.length:Int)))+(0:Int)) (((aQ x0 (v1+(0:Int)) ((x0.length:Int) - v1) x3).length:Int) - (w64 (v1+(x3.length:Int)))) (cut (aQ x0 (v1+(0:Int)) ((x0.length:Int) - v1) x3) (w64 (v1+v2)) ((w64 (v1+v2))+(((aQ x0 (v1+(0:Int)) ((x0.length:Int) - v1) x3).length:Int) - (w64 (v1+v2)))))).length:Int) - v2))+(x3.length:Int))) (((aQ (aQ x0 (v1+(0:Int)) ((x0.length:Int) - v1) x3) ((w64 (v1+(x3.length:Int)))+(0:Int)) (((aQ x0 (v1+(0:Int)) ((x0.length:Int) - v1) x3).length:Int) - (w64 (v1+(x3.length:Int)))) (cut (aQ x0 (v1+(0:Int)) ((x0.length:Int) - v1) x3) (w64 (v1+v2)) ((w64 (v1+v2))+(((aQ x0 (v1+(0:Int)) ((x0.length:Int) - v1) x3).length:Int) - (w64 (v1+v2)))))).length:Int) - (w64 ((w64 (((aQ (aQ x0 (v1+(0:Int)) ((x0.length:Int) - v1) x3) ((w64 (v1+(x3.length:Int)))+(0:Int)) (((aQ x0 (v1+(0:Int)) ((x0.length:Int) - v1) x3).length:Int) - (w64 (v1+(x3.length:Int)))) (cut (aQ x0 (v1+(0:Int)) ((x0.length:Int) - v1) x3) (w64 (v1+v2)) ((w64 (v1+v2))+(((aQ x0 (v1+(0:Int)) ((x0.length:Int) - v1) x3).length:Int) - (w64 (v1+v2)))))).length:Int) - v2))+(x3.length:Int)))) (((aQ (aQ x0 (v1+(0:Int)) ((x0.length:Int) - v1) x3) ((w64 (v1+(x3.length:Int)))+(0:Int)) (((aQ x0 (v1+(0:Int)) ((x0.length:Int) - v1) x3).length:Int) - (w64 (v1+(x3.length:Int)))) (cut (aQ x0 (v1+(0:Int)) ((x0.length:Int) - v1) x3) (w64 (v1+v2)) ((w64 (v1+v2))+(((aQ x0 (v1+(0:Int)) ((x0.length:Int) - v1) x3).length:Int) - (w64 (v1+v2)))))).length:Int) - (w64 ((w64 (((aQ (aQ x0 (v1+(0:Int)) ((x0.length:Int) - v1) x3) ((w64 (v1+(x3.length:Int)))+(0:Int)) (((aQ x0 (v1+(0:Int)) ((x0.length:Int) - v1) x3).length:Int) - (w64 (v1+(x3.length:Int)))) (cut (aQ x0 (v1+(0:Int)) ((x0.length:Int) - v1) x3) (w64 (v1+v2)) ((w64 (v1+v2))+(((aQ x0 (v1+(0:Int)) ((x0.length:Int) - v1) x3).length:Int) - (w64 (v1+v2)))))).length:Int) - v2))+(x3.length:Int)))) (0:Int)
def bL3 (n:Nat) (s:FState) (cx:Cx β):Option β:=FXs (qL n) n oC (some yQ) none [] [[1,1,0,1,0,0],[1,1,0,1,0,1,0],[1,1,0,1,0,1,1,0],[1,1,0,1,0,1,1,1,0],[1,1,0,1,0,1,1,1,1,0,0]] s cx
theorem bR3 (n:Nat) (cx:Cx β) (x0:List Z28) (v1 v2:Int) (x3:List Z28) (v26:Bool):bL3 n (CX x0 v1 v2 x3 v26) cx=bI3 n (fun x0 v9 o10 l10 v55 v56=>cx.nrm (xA x0 v9 o10 l10 v55 v56)) x0 v1 v2 x3 v26:=by kernel_rfl
def I1 (n:Nat) (kn:List Z28→Int→Int→Int→Int→Int→Option β) (kx0:List Z28→Int→Option β) (x0:List Z28) (v9 o10 l10 v55 v56:Int):Option β:=bif (decide (v56 < v55)) then (idx v56 l10<|kn (x0.set (o10+v56).toNat Z18) v9 o10 l10 v55 (w64 (v56+1))) else (kx0 x0 v9)
def ZX (n:Nat) (s:FState) (cx:Cx β):Option β:=FXs (qL n) n oC (some yQ) none [(0,uY)] [[1,1,0,1,0,1,1,1,1,0,1,0,0,0],[1,1,0,1,0,1,1,1,1,0,1,0,0,1,0],[1,1,0,1,0,1,1,1,1,0,1,0,0,1,1,0],[1,1,0,1,0,1,1,1,1,0,1,0,0,1,1,1]] s cx
theorem aT8 (n:Nat) (cx:Cx β) (x0:List Z28) (v9 o10 l10 v55 v56:Int):ZX n (xA x0 v9 o10 l10 v55 v56) cx=I1 n (fun x0 v9 o10 l10 v55 v56=>cx.nrm (xA x0 v9 o10 l10 v55 v56)) (fun x0 v9=>cx.ex 0 (DB x0 v9)) x0 v9 o10 l10 v55 v56:=by kernel_rfl
def g71_4L (n:Nat) (kx0:List Z28→Int→Option β):Nat→List Z28→Int→Int→Int→Int→Int→Option β
  | 0,_,_,_,_,_,_=>none
  | m+1,x0,v9,o10,l10,v55,v56=>I1 n (g71_4L n kx0 m) kx0 x0 v9 o10 l10 v55 v56
def aY2 (n:Nat) (kx0:List Z28→Int→Option β) (x0:List Z28) (v9 o10 l10 v55 v56:Int):Option β:=g71_4L n kx0 n x0 v9 o10 l10 v55 v56
def bD0 (n:Nat) (s:FState) (cx:Cx β):Option β:=aZ (fun again s=>ZX n s {cx with nrm:=again}) n s
theorem u7 (n:Nat) (cx:Cx β):∀(m:Nat) (x0:List Z28) (v9 o10 l10 v55 v56:Int),aZ (fun again s=>ZX n s {cx with nrm:=again}) m (xA x0 v9 o10 l10 v55 v56)=g71_4L n (fun x0 v9=>cx.ex 0 (DB x0 v9)) m x0 v9 o10 l10 v55 v56:=by
  intro m
  induction m with
  | zero=>intros;rfl
  | succ m ih=>intros;simp only [aZ,g71_4L,aT8,ih]
theorem bQ7 (n:Nat) (cx:Cx β) (x0:List Z28) (v9 o10 l10 v55 v56:Int):bD0 n (xA x0 v9 o10 l10 v55 v56) cx=aY2 n (fun x0 v9=>cx.ex 0 (DB x0 v9)) x0 v9 o10 l10 v55 v56:=u7 n cx n x0 v9 o10 l10 v55 v56
def aZ8 (n:Nat) (kn:List Z28→Int→Option β) (x0:List Z28) (v9 o10 l10 v55 v56:Int):Option β:=aY2 n kn x0 v9 o10 l10 v55 v56
def aO1 (n:Nat) (s:FState) (cx:Cx β):Option β:=bD0 n s {cx with ex:=fun j s=>bif Nat.beq j 0 then cx.nrm s else cx.ex j s}
theorem bC0 (n:Nat) (cx:Cx β) (x0:List Z28) (v9 o10 l10 v55 v56:Int):aO1 n (xA x0 v9 o10 l10 v55 v56) cx=aZ8 n (fun x0 v9=>cx.nrm (DB x0 v9)) x0 v9 o10 l10 v55 v56:=bQ7 n _ x0 v9 o10 l10 v55 v56
def J4 (n:Nat) (kr:List Z28→Option β) (x0:List Z28) (v9:Int):Option β:=bnd (0:Int) v9 (x0.length:Int)<|kr (cut x0 (0:Int) ((0:Int)+(v9 - (0:Int))))
def bV4 (n:Nat) (s:FState) (cx:Cx β):Option β:=FXs (qL n) n oC none (some gH) [] [[1,1,0,1,0,1,1,1,1,1,0],[1,1,0,1,0,1,1,1,1,1,1]] s cx
theorem bW7 (n:Nat) (cx:Cx β) (x0:List Z28) (v9:Int):bV4 n (DB x0 v9) cx=J4 n (fun x8=>cx.ret (vZ x8)) x0 v9:=by kernel_rfl
def T0 (n:Nat) (kr:List Z28→Option β) (x0:List Z28) (v1 v2:Int) (x3:List Z28) (v26:Bool):Option β:=bI3 n (fun x0 v9 o10 l10 v55 v56=>aZ8 n (fun x0 v9=>J4 n kr x0 v9) x0 v9 o10 l10 v55 v56) x0 v1 v2 x3 v26
def ZY (n:Nat) (s:FState) (cx:Cx β):Option β:=bL3 n s {cx with nrm:=fun s=>aO1 n s {cx with nrm:=fun s=>bV4 n s cx}}
theorem aJ7 (n:Nat) (cx:Cx β) (x0:List Z28) (v1 v2:Int) (x3:List Z28) (v26:Bool):ZY n (CX x0 v1 v2 x3 v26) cx=T0 n (fun x8=>cx.ret (vZ x8)) x0 v1 v2 x3 v26:=by simp only [ZY,T0,bR3,bC0,bW7]
def bD2 (n:Nat) (kn:List Z28→Int→Int→List Z28→Option β) (x0:List Z28) (v1 v2:Int) (x3:List Z28) (v26:Bool):Option β:=kn x0 v1 v2 x3
def bW8 (n:Nat) (s:FState) (cx:Cx β):Option β:=FXs (qL n) n oC (some G6) none [] [[1,1,0,1,1]] s cx
theorem aY4 (n:Nat) (cx:Cx β) (x0:List Z28) (v1 v2:Int) (x3:List Z28) (v26:Bool):bW8 n (CX x0 v1 v2 x3 v26) cx=bD2 n (fun x0 v1 v2 x3=>cx.nrm (YK x0 v1 v2 x3)) x0 v1 v2 x3 v26:=by kernel_rfl
def G3 (n:Nat) (kn:List Z28→Int→Int→List Z28→Option β) (kr:List Z28→Option β) (x0:List Z28) (v1 v2:Int) (x3:List Z28) (v26:Bool):Option β:=bif v26 then T0 n kr x0 v1 v2 x3 v26 else bD2 n kn x0 v1 v2 x3 v26
def WT (n:Nat) (s:FState) (cx:Cx β):Option β:=asBool (ev s (uN (nav oC [1,1,0,1]))) fun t=>cond t (ZY n s cx) (bW8 n s cx)
theorem bY9 (n:Nat) (cx:Cx β) (x0:List Z28) (v1 v2:Int) (x3:List Z28) (v26:Bool):WT n (CX x0 v1 v2 x3 v26) cx=G3 n (fun x0 v1 v2 x3=>cx.nrm (YK x0 v1 v2 x3)) (fun x8=>cx.ret (vZ x8)) x0 v1 v2 x3 v26:=by
  simp only [WT,G3,aJ7,aY4]
  kernel_rfl
def XC (n:Nat) (kn:List Z28→Int→Int→List Z28→Int→Option β) (x0:List Z28) (v1 v2:Int) (x3:List Z28):Option β:=kn x0 v1 v2 x3 (w64 ((w64 ((x0.length:Int) - v2))+(x3.length:Int)))
def K9 (n:Nat) (s:FState) (cx:Cx β):Option β:=FXs (qL n) n oC (some zO) none [] [[1,1,1,0]] s cx
theorem o8 (n:Nat) (cx:Cx β) (x0:List Z28) (v1 v2:Int) (x3:List Z28):K9 n (YK x0 v1 v2 x3) cx=XC n (fun x0 v1 v2 x3 v12=>cx.nrm (wJ x0 v1 v2 x3 v12)) x0 v1 v2 x3:=by kernel_rfl
def NR (n:Nat) (kn:List Z28→Int→Int→List Z28→Int→Option β) (kx2:List Z28→Int→Int→List Z28→Option β) (x0:List Z28) (v1 v2:Int) (x3:List Z28) (v12:Int):Option β:=bif (decide ((x0.length:Int) < v12)) then (cG (x0.length+[Z18].length)<|kn (x0++[Z18]) v1 v2 x3 v12) else (kx2 x0 v1 v2 x3)
def NQ (n:Nat) (s:FState) (cx:Cx β):Option β:=FXs (qL n) n oC (some zO) none [(2,AE)] [[1,1,1,1,0,0,0,0,0],[1,1,1,1,0,0,0,0,1],[1,1,1,1,0,0,0,1]] s cx
theorem i9 (n:Nat) (cx:Cx β) (x0:List Z28) (v1 v2:Int) (x3:List Z28) (v12:Int):NQ n (wJ x0 v1 v2 x3 v12) cx=NR n (fun x0 v1 v2 x3 v12=>cx.nrm (wJ x0 v1 v2 x3 v12)) (fun x0 v1 v2 x3=>cx.ex 2 (EE x0 v1 v2 x3)) x0 v1 v2 x3 v12:=by kernel_rfl
def g71_12L (n:Nat) (kx2:List Z28→Int→Int→List Z28→Option β):Nat→List Z28→Int→Int→List Z28→Int→Option β
  | 0,_,_,_,_,_=>none
  | m+1,x0,v1,v2,x3,v12=>NR n (g71_12L n kx2 m) kx2 x0 v1 v2 x3 v12
def WD (n:Nat) (kx2:List Z28→Int→Int→List Z28→Option β) (x0:List Z28) (v1 v2:Int) (x3:List Z28) (v12:Int):Option β:=g71_12L n kx2 n x0 v1 v2 x3 v12
def K8 (n:Nat) (s:FState) (cx:Cx β):Option β:=aZ (fun again s=>NQ n s {cx with nrm:=again}) n s
theorem A1 (n:Nat) (cx:Cx β):∀(m:Nat) (x0:List Z28) (v1 v2:Int) (x3:List Z28) (v12:Int),aZ (fun again s=>NQ n s {cx with nrm:=again}) m (wJ x0 v1 v2 x3 v12)=g71_12L n (fun x0 v1 v2 x3=>cx.ex 2 (EE x0 v1 v2 x3)) m x0 v1 v2 x3 v12:=by
  intro m
  induction m with
  | zero=>intros;rfl
  | succ m ih=>intros;simp only [aZ,g71_12L,i9,ih]
theorem q6 (n:Nat) (cx:Cx β) (x0:List Z28) (v1 v2:Int) (x3:List Z28) (v12:Int):K8 n (wJ x0 v1 v2 x3 v12) cx=WD n (fun x0 v1 v2 x3=>cx.ex 2 (EE x0 v1 v2 x3)) x0 v1 v2 x3 v12:=A1 n cx n x0 v1 v2 x3 v12
def XE (n:Nat) (kn:List Z28→Int→Int→List Z28→Option β) (x0:List Z28) (v1 v2:Int) (x3:List Z28) (v12:Int):Option β:=WD n kn x0 v1 v2 x3 v12
def T8 (n:Nat) (s:FState) (cx:Cx β):Option β:=K8 n s {cx with ex:=fun j s=>bif Nat.beq j 2 then cx.nrm s else cx.ex j s}
theorem V5 (n:Nat) (cx:Cx β) (x0:List Z28) (v1 v2:Int) (x3:List Z28) (v12:Int):T8 n (wJ x0 v1 v2 x3 v12) cx=XE n (fun x0 v1 v2 x3=>cx.nrm (EE x0 v1 v2 x3)) x0 v1 v2 x3 v12:=q6 n _ x0 v1 v2 x3 v12
def II (n:Nat) (kr:List Z28→Option β) (x0:List Z28) (v1 v2:Int) (x3:List Z28):Option β:=bnd (w64 (v1+(x3.length:Int))) (x0.length:Int) (x0.length:Int)<|bnd (w64 (v1+v2)) (x0.length:Int) (x0.length:Int)<|bnd v1 ((aQ x0 ((w64 (v1+(x3.length:Int)))+(0:Int)) ((x0.length:Int) - (w64 (v1+(x3.length:Int)))) (cut x0 (w64 (v1+v2)) ((w64 (v1+v2))+((x0.length:Int) - (w64 (v1+v2)))))).length:Int) ((aQ x0 ((w64 (v1+(x3.length:Int)))+(0:Int)) ((x0.length:Int) - (w64 (v1+(x3.length:Int)))) (cut x0 (w64 (v1+v2)) ((w64 (v1+v2))+((x0.length:Int) - (w64 (v1+v2)))))).length:Int)<|kr (aQ (aQ x0 ((w64 (v1+(x3.length:Int)))+(0:Int)) ((x0.length:Int) - (w64 (v1+(x3.length:Int)))) (cut x0 (w64 (v1+v2)) ((w64 (v1+v2))+((x0.length:Int) - (w64 (v1+v2)))))) (v1+(0:Int)) (((aQ x0 ((w64 (v1+(x3.length:Int)))+(0:Int)) ((x0.length:Int) - (w64 (v1+(x3.length:Int)))) (cut x0 (w64 (v1+v2)) ((w64 (v1+v2))+((x0.length:Int) - (w64 (v1+v2)))))).length:Int) - v1) x3)
def J7 (n:Nat) (s:FState) (cx:Cx β):Option β:=FXs (qL n) n oC none (some gH) [] [[1,1,1,1,1,0],[1,1,1,1,1,1,0],[1,1,1,1,1,1,1,0],[1,1,1,1,1,1,1,1]] s cx
theorem X8 (n:Nat) (cx:Cx β) (x0:List Z28) (v1 v2:Int) (x3:List Z28):J7 n (EE x0 v1 v2 x3) cx=II n (fun x8=>cx.ret (vZ x8)) x0 v1 v2 x3:=by kernel_rfl
def MY (n:Nat) (kr:List Z28→Option β) (x0:List Z28) (v1 v2:Int) (x3:List Z28):Option β:=bU2 n (fun x0 v1 v2 x3 v26=>G3 n (fun x0 v1 v2 x3=>XC n (fun x0 v1 v2 x3 v12=>XE n (fun x0 v1 v2 x3=>II n kr x0 v1 v2 x3) x0 v1 v2 x3 v12) x0 v1 v2 x3) kr x0 v1 v2 x3 v26) kr x0 v1 v2 x3
def AQ (n:Nat) (s:FState) (cx:Cx β):Option β:=aV7 n s {cx with nrm:=fun s=>WT n s {cx with nrm:=fun s=>K9 n s {cx with nrm:=fun s=>T8 n s {cx with nrm:=fun s=>J7 n s cx}}}}
theorem W1 (n:Nat) (cx:Cx β) (x0:List Z28) (v1 v2:Int) (x3:List Z28):AQ n (XI x0 v1 v2 x3) cx=MY n (fun x8=>cx.ret (vZ x8)) x0 v1 v2 x3:=by simp only [AQ,MY,bK3,bY9,o8,V5,X8]
def g71 (n:Nat) (x0:List Z28) (v1 v2:Int) (x3:List Z28):Option (DenR [.rw Z24 81]):=MY n (fun x8=>some (x8,())) x0 v1 v2 x3
def cZ9:List AK:=[.rw Z24 81, .dat (.int .i64), .dat (.int .i64), .ro Z24 81]
def aC9:List RK:=[.rw Z24 81]
def dN8 (n:Nat) (d:DenA cZ9):Option (DenR aC9):=g71 n d.1 d.2.1 d.2.2.1 d.2.2.2.1
def cZ6 (n:Nat):Spec:=aK cZ9 aC9 (dN8 n)
def cT5:Sk:=(.nd (.fin none none (some gH) [] .leaf) (.nd (.nd (.fin none none (some gH) [] .leaf) (.fin none none (some gH) [] .leaf)) (.nd (.nd (.fin none (some F7) (some gH) [] .leaf) (.nd (.nd (.fin none none none [] .leaf) (.nd (.fin none none none [] .leaf) (.nd (.fin none none none [] .leaf) (.nd (.fin none none none [] .leaf) (.nd (.nd (.fin none (some yQ) none [] .leaf) (.nd (.nd (.nd (.fin none none none [(0,uY)] .leaf) (.nd (.fin none none none [(0,uY)] .leaf) (.nd (.fin none none none [(0,uY)] .leaf) (.fin none (some yQ) none [(0,uY)] .leaf)))) .leaf) .leaf)) (.nd (.fin none none (some gH) [] .leaf) (.fin none none (some gH) [] .leaf))))))) (.fin none (some G6) none [] .leaf))) (.nd (.fin none (some zO) none [] .leaf) (.nd (.nd (.nd (.nd (.nd (.fin none none none [(2,AE)] .leaf) (.fin none none none [(2,AE)] .leaf)) (.fin none (some zO) none [(2,AE)] .leaf)) .leaf) .leaf) (.nd (.fin none none (some gH) [] .leaf) (.nd (.fin none none (some gH) [] .leaf) (.nd (.fin none none (some gH) [] .leaf) (.fin none none (some gH) [] .leaf)))))))))
theorem cA0 (n:Nat) (s:FState) (cx:Cx β):FX (qL n) n oC cT5 s cx=AQ n s cx:=by kernel_rfl
theorem cG4 (n:Nat):Fit Tryd.prog 71 (cZ6 n):=
  bT (Γ:=Γ0) (l:=dC4 n) (n:=n) (sk:=cT5) (ts:=[(8,none)]) (fn:=Tryd.f71) (c:=oC) (by kernel_rfl) (by kernel_rfl) (by unfold aI;kernel_rfl) bL trivial aE (by kernel_rfl) (by kernel_rfl) (Nat.le_of_ble_eq_true (by kernel_rfl)) (Nat.le_of_ble_eq_true (by kernel_rfl)) (by kernel_rfl) (by kernel_rfl)
    (fun d=>(cA0 n _ _).trans (Eq.trans (b:=AQ n (XI d.1 d.2.1 d.2.2.1 d.2.2.2.1) (bZ (qL n) aC9 [(8,none)])) (by kernel_rfl) ((W1 n _ d.1 d.2.1 d.2.2.1 d.2.2.2.1).trans (by kernel_rfl))))
def M4 (v0 v1:ByteArray):FState:=⟨aD [(0, .dat .str v0),(1, .dat .str v1)],aC []⟩
def cJ7 (v4:Bool):FState:=⟨aD [(4, .dat .bool v4)],aC []⟩
def uC:List NE:=[.keep 4]
def bL9 (n:Nat):List (Nat×Spec):=[]
def ZH (n:Nat):Ctx:={Γ0 with calls:=lkS (bL9 n)}
def YN:Code:=fb Tryd.f111
def ZR (n:Nat) (kr:Bool→Option β) (v0 v1:ByteArray):Option β:=bif (decide ((v0.size:Int)≥(v1.size:Int))) then (bnd (w64 ((v0.size:Int) - (v1.size:Int))) (v0.size:Int) (v0.size:Int)<|kr (dL (cD v0 (w64 ((v0.size:Int) - (v1.size:Int))) (v0.size:Int)) v1)) else (kr false)
def JI (n:Nat) (s:FState) (cx:Cx β):Option β:=FXs (ZH n) n YN none (some uC) [] [[0],[1,0],[1,1]] s cx
theorem n8 (n:Nat) (cx:Cx β) (v0 v1:ByteArray):JI n (M4 v0 v1) cx=ZR n (fun v4=>cx.ret (cJ7 v4)) v0 v1:=by kernel_rfl
def dE9 (n:Nat) (v0 v1:ByteArray):Option (DenR [.dat .bool]):=ZR n (fun v4=>some (v4,())) v0 v1
def bQ9:List AK:=[.dat .str, .dat .str]
def WP:List RK:=[.dat .bool]
def dF7 (n:Nat) (d:DenA bQ9):Option (DenR WP):=dE9 n d.1 d.2.1
def aQ6 (n:Nat):Spec:=aK bQ9 WP (dF7 n)
def aI6:Sk:=(.nd (.fin none none (some uC) [] .leaf) (.nd (.fin none none (some uC) [] .leaf) (.fin none none (some uC) [] .leaf)))
theorem bX4 (n:Nat) (s:FState) (cx:Cx β):FX (ZH n) n YN aI6 s cx=JI n s cx:=by kernel_rfl
theorem aH0 (n:Nat):Fit Tryd.prog 111 (aQ6 n):=
  bT (Γ:=Γ0) (l:=bL9 n) (n:=n) (sk:=aI6) (ts:=[(4,none)]) (fn:=Tryd.f111) (c:=YN) (by kernel_rfl) (by kernel_rfl) (by unfold aI;kernel_rfl) bL trivial aE (by kernel_rfl) (by kernel_rfl) (Nat.le_of_ble_eq_true (by kernel_rfl)) (Nat.le_of_ble_eq_true (by kernel_rfl)) (by kernel_rfl) (by kernel_rfl)
    (fun d=>(bX4 n _ _).trans (Eq.trans (b:=JI n (M4 d.1 d.2.1) (bZ (ZH n) WP [(4,none)])) (by kernel_rfl) ((n8 n _ d.1 d.2.1).trans (by kernel_rfl))))
def aP2 (v0 v1:ByteArray):FState:=⟨aD [(0, .dat .str v0),(1, .dat .str v1)],aC []⟩
def dG1 (v4:Bool):FState:=⟨aD [(4, .dat .bool v4)],aC []⟩
def yN:List NE:=[.keep 4]
def cS6 (n:Nat):List (Nat×Spec):=[(111,aQ6 n)]
def aQ0 (n:Nat):Ctx:={Γ0 with calls:=lkS (cS6 n)}
def bC8:Code:=fb Tryd.f91
def aL8 (n:Nat) (kr:Bool→Option β) (v0 v1:ByteArray):Option β:=(dE9 n v0 v1).bind fun r1=>kr r1.1
def ZV (n:Nat) (s:FState) (cx:Cx β):Option β:=FXs (aQ0 n) n bC8 none (some yN) [] [[0],[1,0],[1,1]] s cx
theorem bE2 (n:Nat) (cx:Cx β) (v0 v1:ByteArray):ZV n (aP2 v0 v1) cx=aL8 n (fun v4=>cx.ret (dG1 v4)) v0 v1:=by kernel_rfl
def g91 (n:Nat) (v0 v1:ByteArray):Option (DenR [.dat .bool]):=aL8 n (fun v4=>some (v4,())) v0 v1
def cQ0:List AK:=[.dat .str, .dat .str]
def aL0:List RK:=[.dat .bool]
def dK5 (n:Nat) (d:DenA cQ0):Option (DenR aL0):=g91 n d.1 d.2.1
def cZ2 (n:Nat):Spec:=aK cQ0 aL0 (dK5 n)
def cX1:Sk:=(.nd (.fin none none (some yN) [] .leaf) (.nd (.fin none none (some yN) [] .leaf) (.fin none none (some yN) [] .leaf)))
theorem cI9 (n:Nat) (s:FState) (cx:Cx β):FX (aQ0 n) n bC8 cX1 s cx=ZV n s cx:=by kernel_rfl
theorem cD0 (n:Nat):Fit Tryd.prog 91 (cZ2 n):=
  bT (Γ:=Γ0) (l:=cS6 n) (n:=n) (sk:=cX1) (ts:=[(4,none)]) (fn:=Tryd.f91) (c:=bC8) (by kernel_rfl) (by kernel_rfl) (by unfold aI;kernel_rfl) bL ⟨aH0 n,trivial⟩ aE (by kernel_rfl) (by kernel_rfl) (Nat.le_of_ble_eq_true (by kernel_rfl)) (Nat.le_of_ble_eq_true (by kernel_rfl)) (by kernel_rfl) (by kernel_rfl)
    (fun d=>(cI9 n _ _).trans (Eq.trans (b:=ZV n (aP2 d.1 d.2.1) (bZ (aQ0 n) aL0 [(4,none)])) (by kernel_rfl) ((bE2 n _ d.1 d.2.1).trans (by kernel_rfl))))
def S0 (v0 v1:ByteArray):FState:=⟨aD [(0, .dat .str v0),(1, .dat .str v1)],aC []⟩
def cJ6 (v4:Bool):FState:=⟨aD [(4, .dat .bool v4)],aC []⟩
def tQ:List NE:=[.keep 4]
def aG7 (n:Nat):List (Nat×Spec):=[]
def B3 (n:Nat):Ctx:={Γ0 with calls:=lkS (aG7 n)}
def VT:Code:=fb Tryd.f112
def UI (n:Nat) (kr:Bool→Option β) (v0 v1:ByteArray):Option β:=bif (decide ((v0.size:Int)≥(v1.size:Int))) then (bnd (0:Int) (v1.size:Int) (v0.size:Int)<|kr (dL (cD v0 (0:Int) (v1.size:Int)) v1)) else (kr false)
def KP (n:Nat) (s:FState) (cx:Cx β):Option β:=FXs (B3 n) n VT none (some tQ) [] [[0],[1,0],[1,1]] s cx
theorem W3 (n:Nat) (cx:Cx β) (v0 v1:ByteArray):KP n (S0 v0 v1) cx=UI n (fun v4=>cx.ret (cJ6 v4)) v0 v1:=by kernel_rfl
def dH7 (n:Nat) (v0 v1:ByteArray):Option (DenR [.dat .bool]):=UI n (fun v4=>some (v4,())) v0 v1
def bQ0:List AK:=[.dat .str, .dat .str]
def WR:List RK:=[.dat .bool]
def dC9 (n:Nat) (d:DenA bQ0):Option (DenR WR):=dH7 n d.1 d.2.1
def aA6 (n:Nat):Spec:=aK bQ0 WR (dC9 n)
def bE6:Sk:=(.nd (.fin none none (some tQ) [] .leaf) (.nd (.fin none none (some tQ) [] .leaf) (.fin none none (some tQ) [] .leaf)))
theorem bJ9 (n:Nat) (s:FState) (cx:Cx β):FX (B3 n) n VT bE6 s cx=KP n s cx:=by kernel_rfl
theorem bR6 (n:Nat):Fit Tryd.prog 112 (aA6 n):=
  bT (Γ:=Γ0) (l:=aG7 n) (n:=n) (sk:=bE6) (ts:=[(4,none)]) (fn:=Tryd.f112) (c:=VT) (by kernel_rfl) (by kernel_rfl) (by unfold aI;kernel_rfl) bL trivial aE (by kernel_rfl) (by kernel_rfl) (Nat.le_of_ble_eq_true (by kernel_rfl)) (Nat.le_of_ble_eq_true (by kernel_rfl)) (by kernel_rfl) (by kernel_rfl)
    (fun d=>(bJ9 n _ _).trans (Eq.trans (b:=KP n (S0 d.1 d.2.1) (bZ (B3 n) WR [(4,none)])) (by kernel_rfl) ((W3 n _ d.1 d.2.1).trans (by kernel_rfl))))
def bL0 (v0 v1:ByteArray):FState:=⟨aD [(0, .dat .str v0),(1, .dat .str v1)],aC []⟩
def dD6 (v4:Bool):FState:=⟨aD [(4, .dat .bool v4)],aC []⟩
def yI:List NE:=[.keep 4]
def cY7 (n:Nat):List (Nat×Spec):=[(112,aA6 n)]
def aX1 (n:Nat):Ctx:={Γ0 with calls:=lkS (cY7 n)}
def aY0:Code:=fb Tryd.f92
def bI5 (n:Nat) (kr:Bool→Option β) (v0 v1:ByteArray):Option β:=(dH7 n v0 v1).bind fun r1=>kr r1.1
def D4 (n:Nat) (s:FState) (cx:Cx β):Option β:=FXs (aX1 n) n aY0 none (some yI) [] [[0],[1,0],[1,1]] s cx
theorem bE7 (n:Nat) (cx:Cx β) (v0 v1:ByteArray):D4 n (bL0 v0 v1) cx=bI5 n (fun v4=>cx.ret (dD6 v4)) v0 v1:=by kernel_rfl
def g92 (n:Nat) (v0 v1:ByteArray):Option (DenR [.dat .bool]):=bI5 n (fun v4=>some (v4,())) v0 v1
def cR2:List AK:=[.dat .str, .dat .str]
def bW1:List RK:=[.dat .bool]
def dM4 (n:Nat) (d:DenA cR2):Option (DenR bW1):=g92 n d.1 d.2.1
def cR6 (n:Nat):Spec:=aK cR2 bW1 (dM4 n)
def cS7:Sk:=(.nd (.fin none none (some yI) [] .leaf) (.nd (.fin none none (some yI) [] .leaf) (.fin none none (some yI) [] .leaf)))
theorem cJ3 (n:Nat) (s:FState) (cx:Cx β):FX (aX1 n) n aY0 cS7 s cx=D4 n s cx:=by kernel_rfl
theorem cD2 (n:Nat):Fit Tryd.prog 92 (cR6 n):=
  bT (Γ:=Γ0) (l:=cY7 n) (n:=n) (sk:=cS7) (ts:=[(4,none)]) (fn:=Tryd.f92) (c:=aY0) (by kernel_rfl) (by kernel_rfl) (by unfold aI;kernel_rfl) bL ⟨bR6 n,trivial⟩ aE (by kernel_rfl) (by kernel_rfl) (Nat.le_of_ble_eq_true (by kernel_rfl)) (Nat.le_of_ble_eq_true (by kernel_rfl)) (by kernel_rfl) (by kernel_rfl)
    (fun d=>(cJ3 n _ _).trans (Eq.trans (b:=D4 n (bL0 d.1 d.2.1) (bZ (aX1 n) bW1 [(4,none)])) (by kernel_rfl) ((bE7 n _ d.1 d.2.1).trans (by kernel_rfl))))
def kV:List AK:=[.pro Z1 74, .rw Z24 81]
def iJ:List RK:=[.rw Z24 81]
abbrev Q73:=DenA kV→Option (DenR iJ)
def VK (p0:Z10) (x1:List Z28):FState:=⟨aD [(0, .ptr 0 0 0),(1, .sl 1 none false)],aC [(0, .row Z1 74 false [p0]),(1, .row Z24 81 true x1)]⟩
def bB0 (x4:List Z28):FState:=⟨aD [(4, .sl 4 none false)],aC [(4, .row Z24 81 true x4)]⟩
def sB:List NE:=[.row 4 Z24 81 true]
def dD (p0:Z10) (x1:List Z28) (v5 v6 v7:Int) (x9 x10:List Int):FState:=⟨aD [(0, .ptr 0 0 0),(1, .sl 1 none false),(5, .dat (.int .i64) v5),(6, .dat (.int .i64) v6),(7, .dat (.int .i64) v7),(9, .sl 9 none false),(10, .sl 10 none false)],aC [(0, .row Z1 74 false [p0]),(1, .row Z24 81 true x1),(9, .row (.int .i32) 21 true x9),(10, .row (.int .i32) 21 true x10)]⟩
def dI:List NE:=[.ptr 0 Z1 74 false, .row 1 Z24 81 true, .keep 5, .keep 6, .keep 7, .row 9 (.int .i32) 21 true, .row 10 (.int .i32) 21 true]
def vJ (p0:Z10) (x1:List Z28):FState:=⟨aD [(0, .ptr 0 0 0),(1, .sl 1 none false)],aC [(0, .row Z1 74 false [p0]),(1, .row Z24 81 true x1)]⟩
def LQ:List NE:=[.ptr 0 Z1 74 false, .row 1 Z24 81 true]
def ML (p0:Z10) (x1:List Z28) (v5 v6 v7:Int) (x9 x10:List Int):FState:=⟨aD [(0, .ptr 0 0 0),(1, .sl 1 none false),(5, .dat (.int .i64) v5),(6, .dat (.int .i64) v6),(7, .dat (.int .i64) v7),(9, .sl 9 none false),(10, .sl 10 none false)],aC [(0, .row Z1 74 false [p0]),(1, .row Z24 81 true x1),(9, .row (.int .i32) 21 true x9),(10, .row (.int .i32) 21 true x10)]⟩
def R2:List NE:=[.ptr 0 Z1 74 false, .row 1 Z24 81 true, .keep 5, .keep 6, .keep 7, .row 9 (.int .i32) 21 true, .row 10 (.int .i32) 21 true]
def ID (p0:Z10) (x1:List Z28) (v5 v6 v7:Int) (x9 x10:List Int) (v27:Int):FState:=⟨aD [(0, .ptr 0 0 0),(1, .sl 1 none false),(5, .dat (.int .i64) v5),(6, .dat (.int .i64) v6),(7, .dat (.int .i64) v7),(9, .sl 9 none false),(10, .sl 10 none false),(27, .dat (.int .i8) v27)],aC [(0, .row Z1 74 false [p0]),(1, .row Z24 81 true x1),(9, .row (.int .i32) 21 true x9),(10, .row (.int .i32) 21 true x10)]⟩
def G1:List NE:=[.ptr 0 Z1 74 false, .row 1 Z24 81 true, .keep 5, .keep 6, .keep 7, .row 9 (.int .i32) 21 true, .row 10 (.int .i32) 21 true, .keep 27]
def DF (p0:Z10) (x1:List Z28) (v5 v6 v7:Int) (x9 x10:List Int) (v27:Int) (v28:Bool):FState:=⟨aD [(0, .ptr 0 0 0),(1, .sl 1 none false),(5, .dat (.int .i64) v5),(6, .dat (.int .i64) v6),(7, .dat (.int .i64) v7),(9, .sl 9 none false),(10, .sl 10 none false),(27, .dat (.int .i8) v27),(28, .dat .bool v28)],aC [(0, .row Z1 74 false [p0]),(1, .row Z24 81 true x1),(9, .row (.int .i32) 21 true x9),(10, .row (.int .i32) 21 true x10)]⟩
def J3:List NE:=[.ptr 0 Z1 74 false, .row 1 Z24 81 true, .keep 5, .keep 6, .keep 7, .row 9 (.int .i32) 21 true, .row 10 (.int .i32) 21 true, .keep 27, .keep 28]
def BA (p0:Z10) (x1:List Z28) (v5 v6 v7:Int) (x9 x10:List Int) (v27:Int) (v42:Bool):FState:=⟨aD [(0, .ptr 0 0 0),(1, .sl 1 none false),(5, .dat (.int .i64) v5),(6, .dat (.int .i64) v6),(7, .dat (.int .i64) v7),(9, .sl 9 none false),(10, .sl 10 none false),(27, .dat (.int .i8) v27),(42, .dat .bool v42)],aC [(0, .row Z1 74 false [p0]),(1, .row Z24 81 true x1),(9, .row (.int .i32) 21 true x9),(10, .row (.int .i32) 21 true x10)]⟩
def P5:List NE:=[.ptr 0 Z1 74 false, .row 1 Z24 81 true, .keep 5, .keep 6, .keep 7, .row 9 (.int .i32) 21 true, .row 10 (.int .i32) 21 true, .keep 27, .keep 42]
def EW (p0:Z10) (x1:List Z28) (v5 v6 v7:Int) (x9 x10:List Int) (v56:Bool):FState:=⟨aD [(0, .ptr 0 0 0),(1, .sl 1 none false),(5, .dat (.int .i64) v5),(6, .dat (.int .i64) v6),(7, .dat (.int .i64) v7),(9, .sl 9 none false),(10, .sl 10 none false),(56, .dat .bool v56)],aC [(0, .row Z1 74 false [p0]),(1, .row Z24 81 true x1),(9, .row (.int .i32) 21 true x9),(10, .row (.int .i32) 21 true x10)]⟩
def G8:List NE:=[.ptr 0 Z1 74 false, .row 1 Z24 81 true, .keep 5, .keep 6, .keep 7, .row 9 (.int .i32) 21 true, .row 10 (.int .i32) 21 true, .keep 56]
def DR (p0:Z10) (x1:List Z28) (v5 v6 v7:Int) (x9 x10:List Int) (v61:Bool):FState:=⟨aD [(0, .ptr 0 0 0),(1, .sl 1 none false),(5, .dat (.int .i64) v5),(6, .dat (.int .i64) v6),(7, .dat (.int .i64) v7),(9, .sl 9 none false),(10, .sl 10 none false),(61, .dat .bool v61)],aC [(0, .row Z1 74 false [p0]),(1, .row Z24 81 true x1),(9, .row (.int .i32) 21 true x9),(10, .row (.int .i32) 21 true x10)]⟩
def E9:List NE:=[.ptr 0 Z1 74 false, .row 1 Z24 81 true, .keep 5, .keep 6, .keep 7, .row 9 (.int .i32) 21 true, .row 10 (.int .i32) 21 true, .keep 61]
def tU (p0:Z10) (x1:List Z28) (v5:Int):FState:=⟨aD [(0, .ptr 0 0 0),(1, .sl 1 none false),(5, .dat (.int .i64) v5)],aC [(0, .row Z1 74 false [p0]),(1, .row Z24 81 true x1)]⟩
def uM:List NE:=[.ptr 0 Z1 74 false, .row 1 Z24 81 true, .keep 5]
def F4 (p0:Z10) (x1:List Z28) (v5 v6 v7:Int) (x9 x10:List Int):FState:=⟨aD [(0, .ptr 0 0 0),(1, .sl 1 none false),(5, .dat (.int .i64) v5),(6, .dat (.int .i64) v6),(7, .dat (.int .i64) v7),(9, .sl 9 none false),(10, .sl 10 none false)],aC [(0, .row Z1 74 false [p0]),(1, .row Z24 81 true x1),(9, .row (.int .i32) 21 true x9),(10, .row (.int .i32) 21 true x10)]⟩
def QN:List NE:=[.ptr 0 Z1 74 false, .row 1 Z24 81 true, .keep 5, .keep 6, .keep 7, .row 9 (.int .i32) 21 true, .row 10 (.int .i32) 21 true]
def Q3 (p0:Z10) (x1:List Z28) (v5 v6 v7:Int):FState:=⟨aD [(0, .ptr 0 0 0),(1, .sl 1 none false),(5, .dat (.int .i64) v5),(6, .dat (.int .i64) v6),(7, .dat (.int .i64) v7)],aC [(0, .row Z1 74 false [p0]),(1, .row Z24 81 true x1)]⟩
def OZ:List NE:=[.ptr 0 Z1 74 false, .row 1 Z24 81 true, .keep 5, .keep 6, .keep 7]
def F0 (p0:Z10) (x1:List Z28) (v5 v7:Int):FState:=⟨aD [(0, .ptr 0 0 0),(1, .sl 1 none false),(5, .dat (.int .i64) v5),(7, .dat (.int .i64) v7)],aC [(0, .row Z1 74 false [p0]),(1, .row Z24 81 true x1)]⟩
def QA:List NE:=[.ptr 0 Z1 74 false, .row 1 Z24 81 true, .keep 5, .keep 7]
def Q1 (p0:Z10) (x1:List Z28):FState:=⟨aD [(0, .ptr 0 0 0),(1, .sl 1 none false)],aC [(0, .row Z1 74 false [p0]),(1, .row Z24 81 true x1)]⟩
def OQ:List NE:=[.ptr 0 Z1 74 false, .row 1 Z24 81 true]
def pE (p0:Z10) (x1:List Z28) (v5:Int) (v14:Bool):FState:=⟨aD [(0, .ptr 0 0 0),(1, .sl 1 none false),(5, .dat (.int .i64) v5),(14, .dat .bool v14)],aC [(0, .row Z1 74 false [p0]),(1, .row Z24 81 true x1)]⟩
def sK:List NE:=[.ptr 0 Z1 74 false, .row 1 Z24 81 true, .keep 5, .keep 14]
def rZ (p0:Z10) (x1:List Z28) (v14:Bool):FState:=⟨aD [(0, .ptr 0 0 0),(1, .sl 1 none false),(14, .dat .bool v14)],aC [(0, .row Z1 74 false [p0]),(1, .row Z24 81 true x1)]⟩
def sX:List NE:=[.ptr 0 Z1 74 false, .row 1 Z24 81 true, .keep 14]
def dC7 (n:Nat) (q73:Q73):List (Nat×Spec):=[(71,cZ6 n),(80,aI0 n),(81,bP5 n),(91,cZ2 n),(92,cR6 n),(73,aK kV iJ q73)]
def gJ (n:Nat) (q73:Q73):Ctx:={Γ0 with calls:=lkS (dC7 n q73)}
def fC:Code:=fb Tryd.f73
def bV3 (n:Nat) (q73:Q73) (kn:Z10→List Z28→Int→Int→Int→List Int→List Int→Option β) (p0:Z10) (x1:List Z28):Option β:=cG (x1.length+[Z18].length)<|kn p0 (x1++[Z18]) (0:Int) (0:Int) (0:Int) [] []
def aO8 (n:Nat) (q73:Q73) (s:FState) (cx:Cx β):Option β:=FXs (gJ n q73) n fC (some dI) none [] [[0],[1,0],[1,1,0],[1,1,1,0],[1,1,1,1,0],[1,1,1,1,1,0],[1,1,1,1,1,1,0],[1,1,1,1,1,1,1,0]] s cx
theorem bY0 (n:Nat) (q73:Q73) (cx:Cx β) (p0:Z10) (x1:List Z28):aO8 n q73 (VK p0 x1) cx=bV3 n q73 (fun p0 x1 v5 v6 v7 x9 x10=>cx.nrm (dD p0 x1 v5 v6 v7 x9 x10)) p0 x1:=by kernel_rfl
def M9 (n:Nat) (q73:Q73) (kn:Z10→List Z28→Int→Int→Int→List Int→List Int→Option β) (kx0:Z10→List Z28→Option β) (p0:Z10) (x1:List Z28) (v5 v6 v7:Int) (x9 x10:List Int):Option β:=bif (decide (v5 < (x1.length:Int))) then (kn p0 x1 v5 v6 v7 x9 x10) else (kx0 p0 x1)
def aW6 (n:Nat) (q73:Q73) (s:FState) (cx:Cx β):Option β:=FXs (gJ n q73) n fC (some R2) none [(0,LQ)] [[1,1,1,1,1,1,1,1,0,0,0,0,0],[1,1,1,1,1,1,1,1,0,0,0,0,1]] s cx
theorem bI6 (n:Nat) (q73:Q73) (cx:Cx β) (p0:Z10) (x1:List Z28) (v5 v6 v7:Int) (x9 x10:List Int):aW6 n q73 (dD p0 x1 v5 v6 v7 x9 x10) cx=M9 n q73 (fun p0 x1 v5 v6 v7 x9 x10=>cx.nrm (ML p0 x1 v5 v6 v7 x9 x10)) (fun p0 x1=>cx.ex 0 (vJ p0 x1)) p0 x1 v5 v6 v7 x9 x10:=by kernel_rfl
def bA9 (n:Nat) (q73:Q73) (kn:Z10→List Z28→Int→Int→Int→List Int→List Int→Int→Option β) (p0:Z10) (x1:List Z28) (v5 v6 v7:Int) (x9 x10:List Int):Option β:=idx v5 (x1.length:Int)<|kn p0 x1 v5 v6 v7 x9 x10 ((rd x1 v5 Z18).1)
def aM5 (n:Nat) (q73:Q73) (s:FState) (cx:Cx β):Option β:=FXs (gJ n q73) n fC (some G1) none [] [[1,1,1,1,1,1,1,1,0,0,0,1,0,0]] s cx
theorem aR7 (n:Nat) (q73:Q73) (cx:Cx β) (p0:Z10) (x1:List Z28) (v5 v6 v7:Int) (x9 x10:List Int):aM5 n q73 (ML p0 x1 v5 v6 v7 x9 x10) cx=bA9 n q73 (fun p0 x1 v5 v6 v7 x9 x10 v27=>cx.nrm (ID p0 x1 v5 v6 v7 x9 x10 v27)) p0 x1 v5 v6 v7 x9 x10:=by kernel_rfl
def aH8 (n:Nat) (q73:Q73) (kn:Z10→List Z28→Int→Int→Int→List Int→List Int→Int→Bool→Option β) (p0:Z10) (x1:List Z28) (v5 v6 v7:Int) (x9 x10:List Int) (v27:Int):Option β:=kn p0 x1 v5 v6 v7 x9 x10 v27 (v27==(1:Int))
def z6 (n:Nat) (q73:Q73) (s:FState) (cx:Cx β):Option β:=FXs (gJ n q73) n fC (some J3) none [] [[1,1,1,1,1,1,1,1,0,0,0,1,0,1,0,0]] s cx
theorem aD5 (n:Nat) (q73:Q73) (cx:Cx β) (p0:Z10) (x1:List Z28) (v5 v6 v7:Int) (x9 x10:List Int) (v27:Int):z6 n q73 (ID p0 x1 v5 v6 v7 x9 x10 v27) cx=aH8 n q73 (fun p0 x1 v5 v6 v7 x9 x10 v27 v28=>cx.nrm (DF p0 x1 v5 v6 v7 x9 x10 v27 v28)) p0 x1 v5 v6 v7 x9 x10 v27:=by kernel_rfl
def bM4 (n:Nat) (q73:Q73) (kx2:Z10→List Z28→Int→Int→Int→List Int→List Int→Option β) (p0:Z10) (x1:List Z28) (v5 v6 v7:Int) (x9 x10:List Int) (v27:Int) (v28:Bool):Option β:=idx v5 (x1.length:Int)<|oT ((rd x1 v5 Z18).2)<|cG (x10.length+(bE ((rd x1 v5 Z18).2)).length)<|kx2 p0 x1 (w64 (v5+1)) v6 (w64 (v7+1)) x9 (x10++(bE ((rd x1 v5 Z18).2)))
def aI9 (n:Nat) (q73:Q73) (s:FState) (cx:Cx β):Option β:=FXs (gJ n q73) n fC none none [(2,dI)] [[1,1,1,1,1,1,1,1,0,0,0,1,0,1,0,1,0,0],[1,1,1,1,1,1,1,1,0,0,0,1,0,1,0,1,0,1,0],[1,1,1,1,1,1,1,1,0,0,0,1,0,1,0,1,0,1,1,0],[1,1,1,1,1,1,1,1,0,0,0,1,0,1,0,1,0,1,1,1]] s cx
theorem aR5 (n:Nat) (q73:Q73) (cx:Cx β) (p0:Z10) (x1:List Z28) (v5 v6 v7:Int) (x9 x10:List Int) (v27:Int) (v28:Bool):aI9 n q73 (DF p0 x1 v5 v6 v7 x9 x10 v27 v28) cx=bM4 n q73 (fun p0 x1 v5 v6 v7 x9 x10=>cx.ex 2 (dD p0 x1 v5 v6 v7 x9 x10)) p0 x1 v5 v6 v7 x9 x10 v27 v28:=by kernel_rfl
def aZ1 (n:Nat) (q73:Q73) (kn:Z10→List Z28→Int→Int→Int→List Int→List Int→Int→Bool→Option β) (p0:Z10) (x1:List Z28) (v5 v6 v7:Int) (x9 x10:List Int) (v27:Int) (v28:Bool):Option β:=kn p0 x1 v5 v6 v7 x9 x10 v27 (v27==(-1:Int))
def bR9 (n:Nat) (q73:Q73) (s:FState) (cx:Cx β):Option β:=FXs (gJ n q73) n fC (some P5) none [] [[1,1,1,1,1,1,1,1,0,0,0,1,0,1,0,1,1,0]] s cx
theorem aU1 (n:Nat) (q73:Q73) (cx:Cx β) (p0:Z10) (x1:List Z28) (v5 v6 v7:Int) (x9 x10:List Int) (v27:Int) (v28:Bool):bR9 n q73 (DF p0 x1 v5 v6 v7 x9 x10 v27 v28) cx=aZ1 n q73 (fun p0 x1 v5 v6 v7 x9 x10 v27 v42=>cx.nrm (BA p0 x1 v5 v6 v7 x9 x10 v27 v42)) p0 x1 v5 v6 v7 x9 x10 v27 v28:=by kernel_rfl
def bG8 (n:Nat) (q73:Q73) (kx2:Z10→List Z28→Int→Int→Int→List Int→List Int→Option β) (p0:Z10) (x1:List Z28) (v5 v6 v7:Int) (x9 x10:List Int) (v27:Int) (v42:Bool):Option β:=idx v5 (x1.length:Int)<|oT ((rd x1 v5 Z18).2)<|cG (x9.length+(bE ((rd x1 v5 Z18).2)).length)<|kx2 p0 x1 (w64 (v5+1)) (w64 (v6+1)) v7 (x9++(bE ((rd x1 v5 Z18).2))) x10
def y9 (n:Nat) (q73:Q73) (s:FState) (cx:Cx β):Option β:=FXs (gJ n q73) n fC none none [(2,dI)] [[1,1,1,1,1,1,1,1,0,0,0,1,0,1,0,1,1,1,0,0],[1,1,1,1,1,1,1,1,0,0,0,1,0,1,0,1,1,1,0,1,0],[1,1,1,1,1,1,1,1,0,0,0,1,0,1,0,1,1,1,0,1,1,0],[1,1,1,1,1,1,1,1,0,0,0,1,0,1,0,1,1,1,0,1,1,1]] s cx
theorem bA8 (n:Nat) (q73:Q73) (cx:Cx β) (p0:Z10) (x1:List Z28) (v5 v6 v7:Int) (x9 x10:List Int) (v27:Int) (v42:Bool):y9 n q73 (BA p0 x1 v5 v6 v7 x9 x10 v27 v42) cx=bG8 n q73 (fun p0 x1 v5 v6 v7 x9 x10=>cx.ex 2 (dD p0 x1 v5 v6 v7 x9 x10)) p0 x1 v5 v6 v7 x9 x10 v27 v42:=by kernel_rfl
def bL7 (n:Nat) (q73:Q73) (kn:Z10→List Z28→Int→Int→Int→List Int→List Int→Bool→Option β) (p0:Z10) (x1:List Z28) (v5 v6 v7:Int) (x9 x10:List Int) (v27:Int) (v42:Bool):Option β:=kn p0 x1 v5 v6 v7 x9 x10 (v27==(0:Int))
def bB7 (n:Nat) (q73:Q73) (s:FState) (cx:Cx β):Option β:=FXs (gJ n q73) n fC (some G8) none [] [[1,1,1,1,1,1,1,1,0,0,0,1,0,1,0,1,1,1,1,0]] s cx
theorem bO8 (n:Nat) (q73:Q73) (cx:Cx β) (p0:Z10) (x1:List Z28) (v5 v6 v7:Int) (x9 x10:List Int) (v27:Int) (v42:Bool):bB7 n q73 (BA p0 x1 v5 v6 v7 x9 x10 v27 v42) cx=bL7 n q73 (fun p0 x1 v5 v6 v7 x9 x10 v56=>cx.nrm (EW p0 x1 v5 v6 v7 x9 x10 v56)) p0 x1 v5 v6 v7 x9 x10 v27 v42:=by kernel_rfl
def aU6 (n:Nat) (q73:Q73) (kn:Z10→List Z28→Int→Int→Int→List Int→List Int→Bool→Option β) (p0:Z10) (x1:List Z28) (v5 v6 v7:Int) (x9 x10:List Int) (v56:Bool):Option β:=kn p0 x1 v5 v6 v7 x9 x10 (decide ((w64 (v6+v7))>(1:Int)))
def bM9 (n:Nat) (q73:Q73) (s:FState) (cx:Cx β):Option β:=FXs (gJ n q73) n fC (some E9) none [] [[1,1,1,1,1,1,1,1,0,0,0,1,0,1,0,1,1,1,1,1,0,0,0]] s cx
theorem y5 (n:Nat) (q73:Q73) (cx:Cx β) (p0:Z10) (x1:List Z28) (v5 v6 v7:Int) (x9 x10:List Int) (v56:Bool):bM9 n q73 (EW p0 x1 v5 v6 v7 x9 x10 v56) cx=aU6 n q73 (fun p0 x1 v5 v6 v7 x9 x10 v61=>cx.nrm (DR p0 x1 v5 v6 v7 x9 x10 v61)) p0 x1 v5 v6 v7 x9 x10 v56:=by kernel_rfl
def wW (n:Nat) (q73:Q73) (kn:Z10→List Z28→Int→Int→Int→List Int→List Int→Option β) (p0:Z10) (x1:List Z28) (v5 v6 v7:Int) (x9 x10:List Int) (v61:Bool):Option β:=bif (v6 !=(0:Int)) then (bif (v7 !=(0:Int)) then ((g80 n x10 x9).bind fun r1=>bif (r1.1 !=(0:Int)) then (bif (decide ((w64 ((w64 (v5 - v6)) - v7))>(0:Int))) then (idx (w64 ((w64 ((w64 (v5 - v6)) - v7)) - (1:Int))) (x1.length:Int)<|bif ((rd x1 (w64 ((w64 ((w64 (v5 - v6)) - v7)) - (1:Int))) Z18).1==(0:Int)) then (idx (w64 ((w64 ((w64 (v5 - v6)) - v7)) - (1:Int))) (x1.length:Int)<|bnd (0:Int) r1.1 (x10.length:Int)<|cG (((rd x1 (w64 ((w64 ((w64 (v5 - v6)) - v7)) - (1:Int))) Z18).2).size+(runesBytes (cut x10 (0:Int) ((0:Int)+(r1.1 - (0:Int))))).size)<|idx (w64 ((w64 ((w64 (v5 - v6)) - v7)) - (1:Int))) (x1.length:Int)<|bnd r1.1 (x10.length:Int) (x10.length:Int)<|bnd r1.1 (x9.length:Int) (x9.length:Int)<|(g81 n (cut x10 r1.1 (r1.1+((x10.length:Int) - r1.1))) (cut x9 r1.1 (r1.1+((x9.length:Int) - r1.1)))).bind fun r2=>bif (r2.1 !=(0:Int)) then (bnd (w64 (((x10.length:Int) - r1.1) - r2.1)) ((x10.length:Int) - r1.1) ((x10.length:Int) - r1.1)<|idx v5 ((x1.set (w64 ((w64 ((w64 (v5 - v6)) - v7)) - (1:Int))).toNat ((rd x1 (w64 ((w64 ((w64 (v5 - v6)) - v7)) - (1:Int))) Z18).1,((rd x1 (w64 ((w64 ((w64 (v5 - v6)) - v7)) - (1:Int))) Z18).2++(runesBytes (cut x10 (0:Int) ((0:Int)+(r1.1 - (0:Int)))))))).length:Int)<|cG ((runesBytes (cut x10 (r1.1+(w64 (((x10.length:Int) - r1.1) - r2.1))) ((r1.1+(w64 (((x10.length:Int) - r1.1) - r2.1)))+(((x10.length:Int) - r1.1) - (w64 (((x10.length:Int) - r1.1) - r2.1)))))).size+((rd (x1.set (w64 ((w64 ((w64 (v5 - v6)) - v7)) - (1:Int))).toNat ((rd x1 (w64 ((w64 ((w64 (v5 - v6)) - v7)) - (1:Int))) Z18).1,((rd x1 (w64 ((w64 ((w64 (v5 - v6)) - v7)) - (1:Int))) Z18).2++(runesBytes (cut x10 (0:Int) ((0:Int)+(r1.1 - (0:Int)))))))) v5 Z18).2).size)<|idx v5 ((x1.set (w64 ((w64 ((w64 (v5 - v6)) - v7)) - (1:Int))).toNat ((rd x1 (w64 ((w64 ((w64 (v5 - v6)) - v7)) - (1:Int))) Z18).1,((rd x1 (w64 ((w64 ((w64 (v5 - v6)) - v7)) - (1:Int))) Z18).2++(runesBytes (cut x10 (0:Int) ((0:Int)+(r1.1 - (0:Int)))))))).length:Int)<|bnd (0:Int) (w64 (((x10.length:Int) - r1.1) - r2.1)) ((x10.length:Int) - r1.1)<|bnd (0:Int) (w64 (((x9.length:Int) - r1.1) - r2.1)) ((x9.length:Int) - r1.1)<|kn p0 ((x1.set (w64 ((w64 ((w64 (v5 - v6)) - v7)) - (1:Int))).toNat ((rd x1 (w64 ((w64 ((w64 (v5 - v6)) - v7)) - (1:Int))) Z18).1,((rd x1 (w64 ((w64 ((w64 (v5 - v6)) - v7)) - (1:Int))) Z18).2++(runesBytes (cut x10 (0:Int) ((0:Int)+(r1.1 - (0:Int)))))))).set v5.toNat ((rd (x1.set (w64 ((w64 ((w64 (v5 - v6)) - v7)) - (1:Int))).toNat ((rd x1 (w64 ((w64 ((w64 (v5 - v6)) - v7)) - (1:Int))) Z18).1,((rd x1 (w64 ((w64 ((w64 (v5 - v6)) - v7)) - (1:Int))) Z18).2++(runesBytes (cut x10 (0:Int) ((0:Int)+(r1.1 - (0:Int)))))))) v5 Z18).1,((runesBytes (cut x10 (r1.1+(w64 (((x10.length:Int) - r1.1) - r2.1))) ((r1.1+(w64 (((x10.length:Int) - r1.1) - r2.1)))+(((x10.length:Int) - r1.1) - (w64 (((x10.length:Int) - r1.1) - r2.1))))))++(rd (x1.set (w64 ((w64 ((w64 (v5 - v6)) - v7)) - (1:Int))).toNat ((rd x1 (w64 ((w64 ((w64 (v5 - v6)) - v7)) - (1:Int))) Z18).1,((rd x1 (w64 ((w64 ((w64 (v5 - v6)) - v7)) - (1:Int))) Z18).2++(runesBytes (cut x10 (0:Int) ((0:Int)+(r1.1 - (0:Int)))))))) v5 Z18).2))) v5 v6 v7 (cut x9 (r1.1+(0:Int)) ((r1.1+(0:Int))+((w64 (((x9.length:Int) - r1.1) - r2.1)) - (0:Int)))) (cut x10 (r1.1+(0:Int)) ((r1.1+(0:Int))+((w64 (((x10.length:Int) - r1.1) - r2.1)) - (0:Int))))) else (kn p0 (x1.set (w64 ((w64 ((w64 (v5 - v6)) - v7)) - (1:Int))).toNat ((rd x1 (w64 ((w64 ((w64 (v5 - v6)) - v7)) - (1:Int))) Z18).1,((rd x1 (w64 ((w64 ((w64 (v5 - v6)) - v7)) - (1:Int))) Z18).2++(runesBytes (cut x10 (0:Int) ((0:Int)+(r1.1 - (0:Int)))))))) v5 v6 v7 (cut x9 r1.1 (r1.1+((x9.length:Int) - r1.1))) (cut x10 r1.1 (r1.1+((x10.length:Int) - r1.1))))) else (bnd (0:Int) r1.1 (x10.length:Int)<|cG ([((0:Int),(runesBytes (cut x10 (0:Int) ((0:Int)+(r1.1 - (0:Int))))))].length+x1.length)<|bnd r1.1 (x10.length:Int) (x10.length:Int)<|bnd r1.1 (x9.length:Int) (x9.length:Int)<|(g81 n (cut x10 r1.1 (r1.1+((x10.length:Int) - r1.1))) (cut x9 r1.1 (r1.1+((x9.length:Int) - r1.1)))).bind fun r3=>bif (r3.1 !=(0:Int)) then (bnd (w64 (((x10.length:Int) - r1.1) - r3.1)) ((x10.length:Int) - r1.1) ((x10.length:Int) - r1.1)<|idx (w64 (v5+1)) (([((0:Int),(runesBytes (cut x10 (0:Int) ((0:Int)+(r1.1 - (0:Int))))))]++x1).length:Int)<|cG ((runesBytes (cut x10 (r1.1+(w64 (((x10.length:Int) - r1.1) - r3.1))) ((r1.1+(w64 (((x10.length:Int) - r1.1) - r3.1)))+(((x10.length:Int) - r1.1) - (w64 (((x10.length:Int) - r1.1) - r3.1)))))).size+((rd ([((0:Int),(runesBytes (cut x10 (0:Int) ((0:Int)+(r1.1 - (0:Int))))))]++x1) (w64 (v5+1)) Z18).2).size)<|idx (w64 (v5+1)) (([((0:Int),(runesBytes (cut x10 (0:Int) ((0:Int)+(r1.1 - (0:Int))))))]++x1).length:Int)<|bnd (0:Int) (w64 (((x10.length:Int) - r1.1) - r3.1)) ((x10.length:Int) - r1.1)<|bnd (0:Int) (w64 (((x9.length:Int) - r1.1) - r3.1)) ((x9.length:Int) - r1.1)<|kn p0 (([((0:Int),(runesBytes (cut x10 (0:Int) ((0:Int)+(r1.1 - (0:Int))))))]++x1).set (w64 (v5+1)).toNat ((rd ([((0:Int),(runesBytes (cut x10 (0:Int) ((0:Int)+(r1.1 - (0:Int))))))]++x1) (w64 (v5+1)) Z18).1,((runesBytes (cut x10 (r1.1+(w64 (((x10.length:Int) - r1.1) - r3.1))) ((r1.1+(w64 (((x10.length:Int) - r1.1) - r3.1)))+(((x10.length:Int) - r1.1) - (w64 (((x10.length:Int) - r1.1) - r3.1))))))++(rd ([((0:Int),(runesBytes (cut x10 (0:Int) ((0:Int)+(r1.1 - (0:Int))))))]++x1) (w64 (v5+1)) Z18).2))) (w64 (v5+1)) v6 v7 (cut x9 (r1.1+(0:Int)) ((r1.1+(0:Int))+((w64 (((x9.length:Int) - r1.1) - r3.1)) - (0:Int)))) (cut x10 (r1.1+(0:Int)) ((r1.1+(0:Int))+((w64 (((x10.length:Int) - r1.1) - r3.1)) - (0:Int))))) else (kn p0 ([((0:Int),(runesBytes (cut x10 (0:Int) ((0:Int)+(r1.1 - (0:Int))))))]++x1) (w64 (v5+1)) v6 v7 (cut x9 r1.1 (r1.1+((x9.length:Int) - r1.1))) (cut x10 r1.1 (r1.1+((x10.length:Int) - r1.1)))))) else (bnd (0:Int) r1.1 (x10.length:Int)<|cG ([((0:Int),(runesBytes (cut x10 (0:Int) ((0:Int)+(r1.1 - (0:Int))))))].length+x1.length)<|bnd r1.1 (x10.length:Int) (x10.length:Int)<|bnd r1.1 (x9.length:Int) (x9.length:Int)<|(g81 n (cut x10 r1.1 (r1.1+((x10.length:Int) - r1.1))) (cut x9 r1.1 (r1.1+((x9.length:Int) - r1.1)))).bind fun r4=>bif (r4.1 !=(0:Int)) then (bnd (w64 (((x10.length:Int) - r1.1) - r4.1)) ((x10.length:Int) - r1.1) ((x10.length:Int) - r1.1)<|idx (w64 (v5+1)) (([((0:Int),(runesBytes (cut x10 (0:Int) ((0:Int)+(r1.1 - (0:Int))))))]++x1).length:Int)<|cG ((runesBytes (cut x10 (r1.1+(w64 (((x10.length:Int) - r1.1) - r4.1))) ((r1.1+(w64 (((x10.length:Int) - r1.1) - r4.1)))+(((x10.length:Int) - r1.1) - (w64 (((x10.length:Int) - r1.1) - r4.1)))))).size+((rd ([((0:Int),(runesBytes (cut x10 (0:Int) ((0:Int)+(r1.1 - (0:Int))))))]++x1) (w64 (v5+1)) Z18).2).size)<|idx (w64 (v5+1)) (([((0:Int),(runesBytes (cut x10 (0:Int) ((0:Int)+(r1.1 - (0:Int))))))]++x1).length:Int)<|bnd (0:Int) (w64 (((x10.length:Int) - r1.1) - r4.1)) ((x10.length:Int) - r1.1)<|bnd (0:Int) (w64 (((x9.length:Int) - r1.1) - r4.1)) ((x9.length:Int) - r1.1)<|kn p0 (([((0:Int),(runesBytes (cut x10 (0:Int) ((0:Int)+(r1.1 - (0:Int))))))]++x1).set (w64 (v5+1)).toNat ((rd ([((0:Int),(runesBytes (cut x10 (0:Int) ((0:Int)+(r1.1 - (0:Int))))))]++x1) (w64 (v5+1)) Z18).1,((runesBytes (cut x10 (r1.1+(w64 (((x10.length:Int) - r1.1) - r4.1))) ((r1.1+(w64 (((x10.length:Int) - r1.1) - r4.1)))+(((x10.length:Int) - r1.1) - (w64 (((x10.length:Int) - r1.1) - r4.1))))))++(rd ([((0:Int),(runesBytes (cut x10 (0:Int) ((0:Int)+(r1.1 - (0:Int))))))]++x1) (w64 (v5+1)) Z18).2))) (w64 (v5+1)) v6 v7 (cut x9 (r1.1+(0:Int)) ((r1.1+(0:Int))+((w64 (((x9.length:Int) - r1.1) - r4.1)) - (0:Int)))) (cut x10 (r1.1+(0:Int)) ((r1.1+(0:Int))+((w64 (((x10.length:Int) - r1.1) - r4.1)) - (0:Int))))) else (kn p0 ([((0:Int),(runesBytes (cut x10 (0:Int) ((0:Int)+(r1.1 - (0:Int))))))]++x1) (w64 (v5+1)) v6 v7 (cut x9 r1.1 (r1.1+((x9.length:Int) - r1.1))) (cut x10 r1.1 (r1.1+((x10.length:Int) - r1.1)))))) else ((g81 n x10 x9).bind fun r5=>bif (r5.1 !=(0:Int)) then (bnd (w64 ((x10.length:Int) - r5.1)) (x10.length:Int) (x10.length:Int)<|idx v5 (x1.length:Int)<|cG ((runesBytes (cut x10 (w64 ((x10.length:Int) - r5.1)) ((w64 ((x10.length:Int) - r5.1))+((x10.length:Int) - (w64 ((x10.length:Int) - r5.1)))))).size+((rd x1 v5 Z18).2).size)<|idx v5 (x1.length:Int)<|bnd (0:Int) (w64 ((x10.length:Int) - r5.1)) (x10.length:Int)<|bnd (0:Int) (w64 ((x9.length:Int) - r5.1)) (x9.length:Int)<|kn p0 (x1.set v5.toNat ((rd x1 v5 Z18).1,((runesBytes (cut x10 (w64 ((x10.length:Int) - r5.1)) ((w64 ((x10.length:Int) - r5.1))+((x10.length:Int) - (w64 ((x10.length:Int) - r5.1))))))++(rd x1 v5 Z18).2))) v5 v6 v7 (cut x9 (0:Int) ((0:Int)+((w64 ((x9.length:Int) - r5.1)) - (0:Int)))) (cut x10 (0:Int) ((0:Int)+((w64 ((x10.length:Int) - r5.1)) - (0:Int))))) else (kn p0 x1 v5 v6 v7 x9 x10))) else (kn p0 x1 v5 v6 v7 x9 x10)) else (kn p0 x1 v5 v6 v7 x9 x10)
def Q4 (n:Nat) (q73:Q73) (s:FState) (cx:Cx β):Option β:=FXs (gJ n q73) n fC (some QN) none [] [[1,1,1,1,1,1,1,1,0,0,0,1,0,1,0,1,1,1,1,1,0,0,1,0,0,0],[1,1,1,1,1,1,1,1,0,0,0,1,0,1,0,1,1,1,1,1,0,0,1,0,0,1]] s cx
theorem U8 (n:Nat) (q73:Q73) (cx:Cx β) (p0:Z10) (x1:List Z28) (v5 v6 v7:Int) (x9 x10:List Int) (v61:Bool):Q4 n q73 (DR p0 x1 v5 v6 v7 x9 x10 v61) cx=wW n q73 (fun p0 x1 v5 v6 v7 x9 x10=>cx.nrm (F4 p0 x1 v5 v6 v7 x9 x10)) p0 x1 v5 v6 v7 x9 x10 v61:=by kernel_rfl
def EU (n:Nat) (q73:Q73) (kn:Z10→List Z28→Int→Int→Int→Option β) (p0:Z10) (x1:List Z28) (v5 v6 v7:Int) (x9 x10:List Int):Option β:=bif (v6==(0:Int)) then ((g71 n x1 (w64 (v5 - v7)) (w64 (v6+v7)) [((1:Int),(runesBytes x10))]).bind fun r1=>kn p0 r1.1 v5 v6 v7) else (bif (v7==(0:Int)) then ((g71 n x1 (w64 (v5 - v6)) (w64 (v6+v7)) [((-1:Int),(runesBytes x9))]).bind fun r2=>kn p0 r2.1 v5 v6 v7) else ((g71 n x1 (w64 ((w64 (v5 - v6)) - v7)) (w64 (v6+v7)) [((-1:Int),(runesBytes x9)),((1:Int),(runesBytes x10))]).bind fun r3=>kn p0 r3.1 v5 v6 v7))
def O6 (n:Nat) (q73:Q73) (s:FState) (cx:Cx β):Option β:=FXs (gJ n q73) n fC (some OZ) none [] [[1,1,1,1,1,1,1,1,0,0,0,1,0,1,0,1,1,1,1,1,0,0,1,0,1,0,0],[1,1,1,1,1,1,1,1,0,0,0,1,0,1,0,1,1,1,1,1,0,0,1,0,1,0,1]] s cx
theorem j8 (n:Nat) (q73:Q73) (cx:Cx β) (p0:Z10) (x1:List Z28) (v5 v6 v7:Int) (x9 x10:List Int):O6 n q73 (F4 p0 x1 v5 v6 v7 x9 x10) cx=EU n q73 (fun p0 x1 v5 v6 v7=>cx.nrm (Q3 p0 x1 v5 v6 v7)) p0 x1 v5 v6 v7 x9 x10:=by kernel_rfl
def DC (n:Nat) (q73:Q73) (kn:Z10→List Z28→Int→Int→Option β) (p0:Z10) (x1:List Z28) (v5 v6 v7:Int):Option β:=bif (v6 !=(0:Int)) then (kn p0 x1 (w64 ((w64 ((w64 ((w64 (v5 - v6)) - v7))+(1:Int)))+(1:Int))) v7) else (kn p0 x1 (w64 ((w64 ((w64 (v5 - v6)) - v7))+(1:Int))) v7)
def T7 (n:Nat) (q73:Q73) (s:FState) (cx:Cx β):Option β:=FXs (gJ n q73) n fC (some QA) none [] [[1,1,1,1,1,1,1,1,0,0,0,1,0,1,0,1,1,1,1,1,0,0,1,0,1,1,0],[1,1,1,1,1,1,1,1,0,0,0,1,0,1,0,1,1,1,1,1,0,0,1,0,1,1,1,0,0],[1,1,1,1,1,1,1,1,0,0,0,1,0,1,0,1,1,1,1,1,0,0,1,0,1,1,1,0,1]] s cx
theorem u4 (n:Nat) (q73:Q73) (cx:Cx β) (p0:Z10) (x1:List Z28) (v5 v6 v7:Int):T7 n q73 (Q3 p0 x1 v5 v6 v7) cx=DC n q73 (fun p0 x1 v5 v7=>cx.nrm (F0 p0 x1 v5 v7)) p0 x1 v5 v6 v7:=by kernel_rfl
def FI (n:Nat) (q73:Q73) (kn:Z10→List Z28→Int→Option β) (p0:Z10) (x1:List Z28) (v5 v7:Int):Option β:=bif (v7 !=(0:Int)) then (kn p0 x1 (w64 (v5+1))) else (kn p0 x1 v5)
def O2 (n:Nat) (q73:Q73) (s:FState) (cx:Cx β):Option β:=FXs (gJ n q73) n fC (some uM) none [] [[1,1,1,1,1,1,1,1,0,0,0,1,0,1,0,1,1,1,1,1,0,0,1,0,1,1,1,1,0],[1,1,1,1,1,1,1,1,0,0,0,1,0,1,0,1,1,1,1,1,0,0,1,0,1,1,1,1,1]] s cx
theorem Y5 (n:Nat) (q73:Q73) (cx:Cx β) (p0:Z10) (x1:List Z28) (v5 v7:Int):O2 n q73 (F0 p0 x1 v5 v7) cx=FI n q73 (fun p0 x1 v5=>cx.nrm (tU p0 x1 v5)) p0 x1 v5 v7:=by kernel_rfl
def CU (n:Nat) (q73:Q73) (kn:Z10→List Z28→Int→Option β) (p0:Z10) (x1:List Z28) (v5 v6 v7:Int) (x9 x10:List Int) (v61:Bool):Option β:=wW n q73 (fun p0 x1 v5 v6 v7 x9 x10=>EU n q73 (fun p0 x1 v5 v6 v7=>DC n q73 (fun p0 x1 v5 v7=>FI n q73 kn p0 x1 v5 v7) p0 x1 v5 v6 v7) p0 x1 v5 v6 v7 x9 x10) p0 x1 v5 v6 v7 x9 x10 v61
def MC (n:Nat) (q73:Q73) (s:FState) (cx:Cx β):Option β:=Q4 n q73 s {cx with nrm:=fun s=>O6 n q73 s {cx with nrm:=fun s=>T7 n q73 s {cx with nrm:=fun s=>O2 n q73 s cx}}}
theorem m9 (n:Nat) (q73:Q73) (cx:Cx β) (p0:Z10) (x1:List Z28) (v5 v6 v7:Int) (x9 x10:List Int) (v61:Bool):MC n q73 (DR p0 x1 v5 v6 v7 x9 x10 v61) cx=CU n q73 (fun p0 x1 v5=>cx.nrm (tU p0 x1 v5)) p0 x1 v5 v6 v7 x9 x10 v61:=by simp only [MC,CU,U8,j8,u4,Y5]
def UD (n:Nat) (q73:Q73) (kn:Z10→List Z28→Int→Option β) (p0:Z10) (x1:List Z28) (v5 v6 v7:Int) (x9 x10:List Int) (v61:Bool):Option β:=bif (v5 !=(0:Int)) then (idx (w64 (v5 - 1)) (x1.length:Int)<|bif ((rd x1 (w64 (v5 - 1)) Z18).1==(0:Int)) then (idx (w64 (v5 - 1)) (x1.length:Int)<|idx v5 (x1.length:Int)<|cG (((rd x1 (w64 (v5 - 1)) Z18).2).size+((rd x1 v5 Z18).2).size)<|idx (w64 (v5 - 1)) (x1.length:Int)<|bnd (0:Int) v5 ((x1.set (w64 (v5 - 1)).toNat ((rd x1 (w64 (v5 - 1)) Z18).1,((rd x1 (w64 (v5 - 1)) Z18).2++(rd x1 v5 Z18).2))).length:Int)<|bnd (w64 (v5+1)) ((x1.set (w64 (v5 - 1)).toNat ((rd x1 (w64 (v5 - 1)) Z18).1,((rd x1 (w64 (v5 - 1)) Z18).2++(rd x1 v5 Z18).2))).length:Int) ((x1.set (w64 (v5 - 1)).toNat ((rd x1 (w64 (v5 - 1)) Z18).1,((rd x1 (w64 (v5 - 1)) Z18).2++(rd x1 v5 Z18).2))).length:Int)<|cG ((cut (x1.set (w64 (v5 - 1)).toNat ((rd x1 (w64 (v5 - 1)) Z18).1,((rd x1 (w64 (v5 - 1)) Z18).2++(rd x1 v5 Z18).2))) (0:Int) ((0:Int)+(v5 - (0:Int)))).length+(cut (x1.set (w64 (v5 - 1)).toNat ((rd x1 (w64 (v5 - 1)) Z18).1,((rd x1 (w64 (v5 - 1)) Z18).2++(rd x1 v5 Z18).2))) (w64 (v5+1)) ((w64 (v5+1))+(((x1.set (w64 (v5 - 1)).toNat ((rd x1 (w64 (v5 - 1)) Z18).1,((rd x1 (w64 (v5 - 1)) Z18).2++(rd x1 v5 Z18).2))).length:Int) - (w64 (v5+1))))).length)<|kn p0 ((cut (x1.set (w64 (v5 - 1)).toNat ((rd x1 (w64 (v5 - 1)) Z18).1,((rd x1 (w64 (v5 - 1)) Z18).2++(rd x1 v5 Z18).2))) (0:Int) ((0:Int)+(v5 - (0:Int))))++(cut (x1.set (w64 (v5 - 1)).toNat ((rd x1 (w64 (v5 - 1)) Z18).1,((rd x1 (w64 (v5 - 1)) Z18).2++(rd x1 v5 Z18).2))) (w64 (v5+1)) ((w64 (v5+1))+(((x1.set (w64 (v5 - 1)).toNat ((rd x1 (w64 (v5 - 1)) Z18).1,((rd x1 (w64 (v5 - 1)) Z18).2++(rd x1 v5 Z18).2))).length:Int) - (w64 (v5+1)))))) v5) else (kn p0 x1 (w64 (v5+1)))) else (kn p0 x1 (w64 (v5+1)))
def H7 (n:Nat) (q73:Q73) (s:FState) (cx:Cx β):Option β:=FXs (gJ n q73) n fC (some uM) none [] [[1,1,1,1,1,1,1,1,0,0,0,1,0,1,0,1,1,1,1,1,0,0,1,1,0],[1,1,1,1,1,1,1,1,0,0,0,1,0,1,0,1,1,1,1,1,0,0,1,1,1]] s cx
theorem b5 (n:Nat) (q73:Q73) (cx:Cx β) (p0:Z10) (x1:List Z28) (v5 v6 v7:Int) (x9 x10:List Int) (v61:Bool):H7 n q73 (DR p0 x1 v5 v6 v7 x9 x10 v61) cx=UD n q73 (fun p0 x1 v5=>cx.nrm (tU p0 x1 v5)) p0 x1 v5 v6 v7 x9 x10 v61:=by kernel_rfl
def NS (n:Nat) (q73:Q73) (kn:Z10→List Z28→Int→Option β) (p0:Z10) (x1:List Z28) (v5 v6 v7:Int) (x9 x10:List Int) (v61:Bool):Option β:=bif v61 then CU n q73 kn p0 x1 v5 v6 v7 x9 x10 v61 else UD n q73 kn p0 x1 v5 v6 v7 x9 x10 v61
def JJ (n:Nat) (q73:Q73) (s:FState) (cx:Cx β):Option β:=asBool (ev s (uN (nav fC [1,1,1,1,1,1,1,1,0,0,0,1,0,1,0,1,1,1,1,1,0,0,1]))) fun t=>cond t (MC n q73 s cx) (H7 n q73 s cx)
theorem p6 (n:Nat) (q73:Q73) (cx:Cx β) (p0:Z10) (x1:List Z28) (v5 v6 v7:Int) (x9 x10:List Int) (v61:Bool):JJ n q73 (DR p0 x1 v5 v6 v7 x9 x10 v61) cx=NS n q73 (fun p0 x1 v5=>cx.nrm (tU p0 x1 v5)) p0 x1 v5 v6 v7 x9 x10 v61:=by
  simp only [JJ,NS,m9,b5]
  kernel_rfl
def KH (n:Nat) (q73:Q73) (kx2:Z10→List Z28→Int→Int→Int→List Int→List Int→Option β) (p0:Z10) (x1:List Z28) (v5:Int):Option β:=kx2 p0 x1 v5 (0:Int) (0:Int) [] []
def J2 (n:Nat) (q73:Q73) (s:FState) (cx:Cx β):Option β:=FXs (gJ n q73) n fC none none [(2,dI)] [[1,1,1,1,1,1,1,1,0,0,0,1,0,1,0,1,1,1,1,1,0,1,0],[1,1,1,1,1,1,1,1,0,0,0,1,0,1,0,1,1,1,1,1,0,1,1,0],[1,1,1,1,1,1,1,1,0,0,0,1,0,1,0,1,1,1,1,1,0,1,1,1,0],[1,1,1,1,1,1,1,1,0,0,0,1,0,1,0,1,1,1,1,1,0,1,1,1,1,0],[1,1,1,1,1,1,1,1,0,0,0,1,0,1,0,1,1,1,1,1,0,1,1,1,1,1]] s cx
theorem b9 (n:Nat) (q73:Q73) (cx:Cx β) (p0:Z10) (x1:List Z28) (v5:Int):J2 n q73 (tU p0 x1 v5) cx=KH n q73 (fun p0 x1 v5 v6 v7 x9 x10=>cx.ex 2 (dD p0 x1 v5 v6 v7 x9 x10)) p0 x1 v5:=by kernel_rfl
def KQ (n:Nat) (q73:Q73) (kx2:Z10→List Z28→Int→Int→Int→List Int→List Int→Option β) (p0:Z10) (x1:List Z28) (v5 v6 v7:Int) (x9 x10:List Int) (v56:Bool):Option β:=aU6 n q73 (fun p0 x1 v5 v6 v7 x9 x10 v61=>NS n q73 (fun p0 x1 v5=>KH n q73 kx2 p0 x1 v5) p0 x1 v5 v6 v7 x9 x10 v61) p0 x1 v5 v6 v7 x9 x10 v56
def KM (n:Nat) (q73:Q73) (s:FState) (cx:Cx β):Option β:=bM9 n q73 s {cx with nrm:=fun s=>JJ n q73 s {cx with nrm:=fun s=>J2 n q73 s cx}}
theorem t6 (n:Nat) (q73:Q73) (cx:Cx β) (p0:Z10) (x1:List Z28) (v5 v6 v7:Int) (x9 x10:List Int) (v56:Bool):KM n q73 (EW p0 x1 v5 v6 v7 x9 x10 v56) cx=KQ n q73 (fun p0 x1 v5 v6 v7 x9 x10=>cx.ex 2 (dD p0 x1 v5 v6 v7 x9 x10)) p0 x1 v5 v6 v7 x9 x10 v56:=by simp only [KM,KQ,y5,p6,b9]
def bL5 (n:Nat) (q73:Q73) (kn:Z10→List Z28→Int→Int→Int→List Int→List Int→Option β) (p0:Z10) (x1:List Z28) (v5 v6 v7:Int) (x9 x10:List Int) (v56:Bool):Option β:=kn p0 x1 v5 v6 v7 x9 x10
def F5 (n:Nat) (q73:Q73) (s:FState) (cx:Cx β):Option β:=FXs (gJ n q73) n fC (some dI) none [] [[1,1,1,1,1,1,1,1,0,0,0,1,0,1,0,1,1,1,1,1,1]] s cx
theorem Z0 (n:Nat) (q73:Q73) (cx:Cx β) (p0:Z10) (x1:List Z28) (v5 v6 v7:Int) (x9 x10:List Int) (v56:Bool):F5 n q73 (EW p0 x1 v5 v6 v7 x9 x10 v56) cx=bL5 n q73 (fun p0 x1 v5 v6 v7 x9 x10=>cx.nrm (dD p0 x1 v5 v6 v7 x9 x10)) p0 x1 v5 v6 v7 x9 x10 v56:=by kernel_rfl
def IW (n:Nat) (q73:Q73) (kn kx2:Z10→List Z28→Int→Int→Int→List Int→List Int→Option β) (p0:Z10) (x1:List Z28) (v5 v6 v7:Int) (x9 x10:List Int) (v56:Bool):Option β:=bif v56 then KQ n q73 kx2 p0 x1 v5 v6 v7 x9 x10 v56 else bL5 n q73 kn p0 x1 v5 v6 v7 x9 x10 v56
def JO (n:Nat) (q73:Q73) (s:FState) (cx:Cx β):Option β:=asBool (ev s (uN (nav fC [1,1,1,1,1,1,1,1,0,0,0,1,0,1,0,1,1,1,1,1]))) fun t=>cond t (KM n q73 s cx) (F5 n q73 s cx)
theorem j7 (n:Nat) (q73:Q73) (cx:Cx β) (p0:Z10) (x1:List Z28) (v5 v6 v7:Int) (x9 x10:List Int) (v56:Bool):JO n q73 (EW p0 x1 v5 v6 v7 x9 x10 v56) cx=IW n q73 (fun p0 x1 v5 v6 v7 x9 x10=>cx.nrm (dD p0 x1 v5 v6 v7 x9 x10)) (fun p0 x1 v5 v6 v7 x9 x10=>cx.ex 2 (dD p0 x1 v5 v6 v7 x9 x10)) p0 x1 v5 v6 v7 x9 x10 v56:=by
  simp only [JO,IW,t6,Z0]
  kernel_rfl
def NK (n:Nat) (q73:Q73) (kn kx2:Z10→List Z28→Int→Int→Int→List Int→List Int→Option β) (p0:Z10) (x1:List Z28) (v5 v6 v7:Int) (x9 x10:List Int) (v27:Int) (v42:Bool):Option β:=bL7 n q73 (fun p0 x1 v5 v6 v7 x9 x10 v56=>IW n q73 kn kx2 p0 x1 v5 v6 v7 x9 x10 v56) p0 x1 v5 v6 v7 x9 x10 v27 v42
def MQ (n:Nat) (q73:Q73) (s:FState) (cx:Cx β):Option β:=bB7 n q73 s {cx with nrm:=fun s=>JO n q73 s cx}
theorem X1 (n:Nat) (q73:Q73) (cx:Cx β) (p0:Z10) (x1:List Z28) (v5 v6 v7:Int) (x9 x10:List Int) (v27:Int) (v42:Bool):MQ n q73 (BA p0 x1 v5 v6 v7 x9 x10 v27 v42) cx=NK n q73 (fun p0 x1 v5 v6 v7 x9 x10=>cx.nrm (dD p0 x1 v5 v6 v7 x9 x10)) (fun p0 x1 v5 v6 v7 x9 x10=>cx.ex 2 (dD p0 x1 v5 v6 v7 x9 x10)) p0 x1 v5 v6 v7 x9 x10 v27 v42:=by simp only [MQ,NK,bO8,j7]
def NT (n:Nat) (q73:Q73) (kn kx2:Z10→List Z28→Int→Int→Int→List Int→List Int→Option β) (p0:Z10) (x1:List Z28) (v5 v6 v7:Int) (x9 x10:List Int) (v27:Int) (v42:Bool):Option β:=bif v42 then bG8 n q73 kx2 p0 x1 v5 v6 v7 x9 x10 v27 v42 else NK n q73 kn kx2 p0 x1 v5 v6 v7 x9 x10 v27 v42
def NV (n:Nat) (q73:Q73) (s:FState) (cx:Cx β):Option β:=asBool (ev s (uN (nav fC [1,1,1,1,1,1,1,1,0,0,0,1,0,1,0,1,1,1]))) fun t=>cond t (y9 n q73 s cx) (MQ n q73 s cx)
theorem Y9 (n:Nat) (q73:Q73) (cx:Cx β) (p0:Z10) (x1:List Z28) (v5 v6 v7:Int) (x9 x10:List Int) (v27:Int) (v42:Bool):NV n q73 (BA p0 x1 v5 v6 v7 x9 x10 v27 v42) cx=NT n q73 (fun p0 x1 v5 v6 v7 x9 x10=>cx.nrm (dD p0 x1 v5 v6 v7 x9 x10)) (fun p0 x1 v5 v6 v7 x9 x10=>cx.ex 2 (dD p0 x1 v5 v6 v7 x9 x10)) p0 x1 v5 v6 v7 x9 x10 v27 v42:=by
  simp only [NV,NT,bA8,X1]
  kernel_rfl
def LT (n:Nat) (q73:Q73) (kn kx2:Z10→List Z28→Int→Int→Int→List Int→List Int→Option β) (p0:Z10) (x1:List Z28) (v5 v6 v7:Int) (x9 x10:List Int) (v27:Int) (v28:Bool):Option β:=aZ1 n q73 (fun p0 x1 v5 v6 v7 x9 x10 v27 v42=>NT n q73 kn kx2 p0 x1 v5 v6 v7 x9 x10 v27 v42) p0 x1 v5 v6 v7 x9 x10 v27 v28
def JN (n:Nat) (q73:Q73) (s:FState) (cx:Cx β):Option β:=bR9 n q73 s {cx with nrm:=fun s=>NV n q73 s cx}
theorem Y4 (n:Nat) (q73:Q73) (cx:Cx β) (p0:Z10) (x1:List Z28) (v5 v6 v7:Int) (x9 x10:List Int) (v27:Int) (v28:Bool):JN n q73 (DF p0 x1 v5 v6 v7 x9 x10 v27 v28) cx=LT n q73 (fun p0 x1 v5 v6 v7 x9 x10=>cx.nrm (dD p0 x1 v5 v6 v7 x9 x10)) (fun p0 x1 v5 v6 v7 x9 x10=>cx.ex 2 (dD p0 x1 v5 v6 v7 x9 x10)) p0 x1 v5 v6 v7 x9 x10 v27 v28:=by simp only [JN,LT,aU1,Y9]
def KD (n:Nat) (q73:Q73) (kn kx2:Z10→List Z28→Int→Int→Int→List Int→List Int→Option β) (p0:Z10) (x1:List Z28) (v5 v6 v7:Int) (x9 x10:List Int) (v27:Int) (v28:Bool):Option β:=bif v28 then bM4 n q73 kx2 p0 x1 v5 v6 v7 x9 x10 v27 v28 else LT n q73 kn kx2 p0 x1 v5 v6 v7 x9 x10 v27 v28
def JW (n:Nat) (q73:Q73) (s:FState) (cx:Cx β):Option β:=asBool (ev s (uN (nav fC [1,1,1,1,1,1,1,1,0,0,0,1,0,1,0,1]))) fun t=>cond t (aI9 n q73 s cx) (JN n q73 s cx)
theorem w4 (n:Nat) (q73:Q73) (cx:Cx β) (p0:Z10) (x1:List Z28) (v5 v6 v7:Int) (x9 x10:List Int) (v27:Int) (v28:Bool):JW n q73 (DF p0 x1 v5 v6 v7 x9 x10 v27 v28) cx=KD n q73 (fun p0 x1 v5 v6 v7 x9 x10=>cx.nrm (dD p0 x1 v5 v6 v7 x9 x10)) (fun p0 x1 v5 v6 v7 x9 x10=>cx.ex 2 (dD p0 x1 v5 v6 v7 x9 x10)) p0 x1 v5 v6 v7 x9 x10 v27 v28:=by
  simp only [JW,KD,aR5,Y4]
  kernel_rfl
def MO (n:Nat) (q73:Q73) (kn kx2:Z10→List Z28→Int→Int→Int→List Int→List Int→Option β) (p0:Z10) (x1:List Z28) (v5 v6 v7:Int) (x9 x10:List Int) (v27:Int):Option β:=aH8 n q73 (fun p0 x1 v5 v6 v7 x9 x10 v27 v28=>KD n q73 kn kx2 p0 x1 v5 v6 v7 x9 x10 v27 v28) p0 x1 v5 v6 v7 x9 x10 v27
def NL (n:Nat) (q73:Q73) (s:FState) (cx:Cx β):Option β:=z6 n q73 s {cx with nrm:=fun s=>JW n q73 s cx}
theorem w3 (n:Nat) (q73:Q73) (cx:Cx β) (p0:Z10) (x1:List Z28) (v5 v6 v7:Int) (x9 x10:List Int) (v27:Int):NL n q73 (ID p0 x1 v5 v6 v7 x9 x10 v27) cx=MO n q73 (fun p0 x1 v5 v6 v7 x9 x10=>cx.nrm (dD p0 x1 v5 v6 v7 x9 x10)) (fun p0 x1 v5 v6 v7 x9 x10=>cx.ex 2 (dD p0 x1 v5 v6 v7 x9 x10)) p0 x1 v5 v6 v7 x9 x10 v27:=by simp only [NL,MO,aD5,w4]
def WA (n:Nat) (q73:Q73) (kn:Z10→List Z28→Int→Int→Int→List Int→List Int→Option β) (p0:Z10) (x1:List Z28) (v5 v6 v7:Int) (x9 x10:List Int) (v27:Int):Option β:=MO n q73 kn kn p0 x1 v5 v6 v7 x9 x10 v27
def I7 (n:Nat) (q73:Q73) (s:FState) (cx:Cx β):Option β:=NL n q73 s {cx with ex:=fun j s=>bif Nat.beq j 2 then cx.nrm s else cx.ex j s}
theorem X7 (n:Nat) (q73:Q73) (cx:Cx β) (p0:Z10) (x1:List Z28) (v5 v6 v7:Int) (x9 x10:List Int) (v27:Int):I7 n q73 (ID p0 x1 v5 v6 v7 x9 x10 v27) cx=WA n q73 (fun p0 x1 v5 v6 v7 x9 x10=>cx.nrm (dD p0 x1 v5 v6 v7 x9 x10)) p0 x1 v5 v6 v7 x9 x10 v27:=w3 n q73 _ p0 x1 v5 v6 v7 x9 x10 v27
def MR (n:Nat) (q73:Q73) (kn:Z10→List Z28→Int→Int→Int→List Int→List Int→Option β) (p0:Z10) (x1:List Z28) (v5 v6 v7:Int) (x9 x10:List Int):Option β:=bA9 n q73 (fun p0 x1 v5 v6 v7 x9 x10 v27=>WA n q73 kn p0 x1 v5 v6 v7 x9 x10 v27) p0 x1 v5 v6 v7 x9 x10
def LU (n:Nat) (q73:Q73) (s:FState) (cx:Cx β):Option β:=aM5 n q73 s {cx with nrm:=fun s=>I7 n q73 s cx}
theorem Y3 (n:Nat) (q73:Q73) (cx:Cx β) (p0:Z10) (x1:List Z28) (v5 v6 v7:Int) (x9 x10:List Int):LU n q73 (ML p0 x1 v5 v6 v7 x9 x10) cx=MR n q73 (fun p0 x1 v5 v6 v7 x9 x10=>cx.nrm (dD p0 x1 v5 v6 v7 x9 x10)) p0 x1 v5 v6 v7 x9 x10:=by simp only [LU,MR,aR7,X7]
def VE (n:Nat) (q73:Q73) (kn:Z10→List Z28→Int→Int→Int→List Int→List Int→Option β) (p0:Z10) (x1:List Z28) (v5 v6 v7:Int) (x9 x10:List Int):Option β:=MR n q73 kn p0 x1 v5 v6 v7 x9 x10
def S2 (n:Nat) (q73:Q73) (s:FState) (cx:Cx β):Option β:=LU n q73 s {cx with ex:=fun j s=>bif Nat.beq j 1 then cx.nrm s else cx.ex j s}
theorem j3 (n:Nat) (q73:Q73) (cx:Cx β) (p0:Z10) (x1:List Z28) (v5 v6 v7:Int) (x9 x10:List Int):S2 n q73 (ML p0 x1 v5 v6 v7 x9 x10) cx=VE n q73 (fun p0 x1 v5 v6 v7 x9 x10=>cx.nrm (dD p0 x1 v5 v6 v7 x9 x10)) p0 x1 v5 v6 v7 x9 x10:=Y3 n q73 _ p0 x1 v5 v6 v7 x9 x10
def BU (n:Nat) (q73:Q73) (kn:Z10→List Z28→Int→Int→Int→List Int→List Int→Option β) (kx0:Z10→List Z28→Option β) (p0:Z10) (x1:List Z28) (v5 v6 v7:Int) (x9 x10:List Int):Option β:=M9 n q73 (fun p0 x1 v5 v6 v7 x9 x10=>VE n q73 kn p0 x1 v5 v6 v7 x9 x10) kx0 p0 x1 v5 v6 v7 x9 x10
def zJ (n:Nat) (q73:Q73) (s:FState) (cx:Cx β):Option β:=aW6 n q73 s {cx with nrm:=fun s=>S2 n q73 s cx}
theorem c9 (n:Nat) (q73:Q73) (cx:Cx β) (p0:Z10) (x1:List Z28) (v5 v6 v7:Int) (x9 x10:List Int):zJ n q73 (dD p0 x1 v5 v6 v7 x9 x10) cx=BU n q73 (fun p0 x1 v5 v6 v7 x9 x10=>cx.nrm (dD p0 x1 v5 v6 v7 x9 x10)) (fun p0 x1=>cx.ex 0 (vJ p0 x1)) p0 x1 v5 v6 v7 x9 x10:=by simp only [zJ,BU,bI6,j3]
def g73_30L (n:Nat) (q73:Q73) (kx0:Z10→List Z28→Option β):Nat→Z10→List Z28→Int→Int→Int→List Int→List Int→Option β
  | 0,_,_,_,_,_,_,_=>none
  | m+1,p0,x1,v5,v6,v7,x9,x10=>BU n q73 (g73_30L n q73 kx0 m) kx0 p0 x1 v5 v6 v7 x9 x10
def B9 (n:Nat) (q73:Q73) (kx0:Z10→List Z28→Option β) (p0:Z10) (x1:List Z28) (v5 v6 v7:Int) (x9 x10:List Int):Option β:=g73_30L n q73 kx0 n p0 x1 v5 v6 v7 x9 x10
def K0 (n:Nat) (q73:Q73) (s:FState) (cx:Cx β):Option β:=aZ (fun again s=>zJ n q73 s {cx with nrm:=again}) n s
theorem WH (n:Nat) (q73:Q73) (cx:Cx β):∀(m:Nat) (p0:Z10) (x1:List Z28) (v5 v6 v7:Int) (x9 x10:List Int),aZ (fun again s=>zJ n q73 s {cx with nrm:=again}) m (dD p0 x1 v5 v6 v7 x9 x10)=g73_30L n q73 (fun p0 x1=>cx.ex 0 (vJ p0 x1)) m p0 x1 v5 v6 v7 x9 x10:=by
  intro m
  induction m with
  | zero=>intros;rfl
  | succ m ih=>intros;simp only [aZ,g73_30L,c9,ih]
theorem m8 (n:Nat) (q73:Q73) (cx:Cx β) (p0:Z10) (x1:List Z28) (v5 v6 v7:Int) (x9 x10:List Int):K0 n q73 (dD p0 x1 v5 v6 v7 x9 x10) cx=B9 n q73 (fun p0 x1=>cx.ex 0 (vJ p0 x1)) p0 x1 v5 v6 v7 x9 x10:=WH n q73 cx n p0 x1 v5 v6 v7 x9 x10
def ZT (n:Nat) (q73:Q73) (kn:Z10→List Z28→Option β) (p0:Z10) (x1:List Z28) (v5 v6 v7:Int) (x9 x10:List Int):Option β:=B9 n q73 kn p0 x1 v5 v6 v7 x9 x10
def Q6 (n:Nat) (q73:Q73) (s:FState) (cx:Cx β):Option β:=K0 n q73 s {cx with ex:=fun j s=>bif Nat.beq j 0 then cx.nrm s else cx.ex j s}
theorem d8 (n:Nat) (q73:Q73) (cx:Cx β) (p0:Z10) (x1:List Z28) (v5 v6 v7:Int) (x9 x10:List Int):Q6 n q73 (dD p0 x1 v5 v6 v7 x9 x10) cx=ZT n q73 (fun p0 x1=>cx.nrm (vJ p0 x1)) p0 x1 v5 v6 v7 x9 x10:=m8 n q73 _ p0 x1 v5 v6 v7 x9 x10
def MG (n:Nat) (q73:Q73) (kn:Z10→List Z28→Option β) (p0:Z10) (x1:List Z28):Option β:=idx (w64 ((x1.length:Int) - 1)) (x1.length:Int)<|bif ((((rd x1 (w64 ((x1.length:Int) - 1)) Z18).2).size:Int)==(0:Int)) then (bnd (0:Int) (w64 ((x1.length:Int) - 1)) (x1.length:Int)<|kn p0 (cut x1 (0:Int) ((0:Int)+((w64 ((x1.length:Int) - 1)) - (0:Int))))) else (kn p0 x1)
def U6 (n:Nat) (q73:Q73) (s:FState) (cx:Cx β):Option β:=FXs (gJ n q73) n fC (some OQ) none [] [[1,1,1,1,1,1,1,1,1,0,0],[1,1,1,1,1,1,1,1,1,0,1]] s cx
theorem Y2 (n:Nat) (q73:Q73) (cx:Cx β) (p0:Z10) (x1:List Z28):U6 n q73 (vJ p0 x1) cx=MG n q73 (fun p0 x1=>cx.nrm (Q1 p0 x1)) p0 x1:=by kernel_rfl
def CM (n:Nat) (q73:Q73) (kn:Z10→List Z28→Int→Bool→Option β) (p0:Z10) (x1:List Z28):Option β:=kn p0 x1 (1:Int) false
def N0 (n:Nat) (q73:Q73) (s:FState) (cx:Cx β):Option β:=FXs (gJ n q73) n fC (some sK) none [] [[1,1,1,1,1,1,1,1,1,1,0],[1,1,1,1,1,1,1,1,1,1,1,0]] s cx
theorem o7 (n:Nat) (q73:Q73) (cx:Cx β) (p0:Z10) (x1:List Z28):N0 n q73 (Q1 p0 x1) cx=CM n q73 (fun p0 x1 v5 v14=>cx.nrm (pE p0 x1 v5 v14)) p0 x1:=by kernel_rfl
def B2 (n:Nat) (q73:Q73) (kn:Z10→List Z28→Int→Bool→Option β) (kx3:Z10→List Z28→Bool→Option β) (p0:Z10) (x1:List Z28) (v5:Int) (v14:Bool):Option β:=bif (decide (v5 < (w64 ((x1.length:Int) - 1)))) then (idx (w64 (v5 - 1)) (x1.length:Int)<|bif ((rd x1 (w64 (v5 - 1)) Z18).1==(0:Int)) then (idx (w64 (v5+1)) (x1.length:Int)<|bif ((rd x1 (w64 (v5+1)) Z18).1==(0:Int)) then (idx v5 (x1.length:Int)<|idx (w64 (v5 - 1)) (x1.length:Int)<|(g91 n ((rd x1 v5 Z18).2) ((rd x1 (w64 (v5 - 1)) Z18).2)).bind fun r1=>bif r1.1 then (idx (w64 (v5 - 1)) (x1.length:Int)<|idx v5 (x1.length:Int)<|idx v5 (x1.length:Int)<|idx (w64 (v5 - 1)) (x1.length:Int)<|bnd (0:Int) (w64 ((((rd x1 v5 Z18).2).size:Int) - (((rd x1 (w64 (v5 - 1)) Z18).2).size:Int))) (((rd x1 v5 Z18).2).size:Int)<|cG (((rd x1 (w64 (v5 - 1)) Z18).2).size+(cD ((rd x1 v5 Z18).2) (0:Int) (w64 ((((rd x1 v5 Z18).2).size:Int) - (((rd x1 (w64 (v5 - 1)) Z18).2).size:Int)))).size)<|idx v5 (x1.length:Int)<|idx (w64 (v5 - 1)) ((x1.set v5.toNat ((rd x1 v5 Z18).1,((rd x1 (w64 (v5 - 1)) Z18).2++(cD ((rd x1 v5 Z18).2) (0:Int) (w64 ((((rd x1 v5 Z18).2).size:Int) - (((rd x1 (w64 (v5 - 1)) Z18).2).size:Int))))))).length:Int)<|idx (w64 (v5+1)) ((x1.set v5.toNat ((rd x1 v5 Z18).1,((rd x1 (w64 (v5 - 1)) Z18).2++(cD ((rd x1 v5 Z18).2) (0:Int) (w64 ((((rd x1 v5 Z18).2).size:Int) - (((rd x1 (w64 (v5 - 1)) Z18).2).size:Int))))))).length:Int)<|cG (((rd (x1.set v5.toNat ((rd x1 v5 Z18).1,((rd x1 (w64 (v5 - 1)) Z18).2++(cD ((rd x1 v5 Z18).2) (0:Int) (w64 ((((rd x1 v5 Z18).2).size:Int) - (((rd x1 (w64 (v5 - 1)) Z18).2).size:Int))))))) (w64 (v5 - 1)) Z18).2).size+((rd (x1.set v5.toNat ((rd x1 v5 Z18).1,((rd x1 (w64 (v5 - 1)) Z18).2++(cD ((rd x1 v5 Z18).2) (0:Int) (w64 ((((rd x1 v5 Z18).2).size:Int) - (((rd x1 (w64 (v5 - 1)) Z18).2).size:Int))))))) (w64 (v5+1)) Z18).2).size)<|idx (w64 (v5+1)) ((x1.set v5.toNat ((rd x1 v5 Z18).1,((rd x1 (w64 (v5 - 1)) Z18).2++(cD ((rd x1 v5 Z18).2) (0:Int) (w64 ((((rd x1 v5 Z18).2).size:Int) - (((rd x1 (w64 (v5 - 1)) Z18).2).size:Int))))))).length:Int)<|(g71 n ((x1.set v5.toNat ((rd x1 v5 Z18).1,((rd x1 (w64 (v5 - 1)) Z18).2++(cD ((rd x1 v5 Z18).2) (0:Int) (w64 ((((rd x1 v5 Z18).2).size:Int) - (((rd x1 (w64 (v5 - 1)) Z18).2).size:Int))))))).set (w64 (v5+1)).toNat ((rd (x1.set v5.toNat ((rd x1 v5 Z18).1,((rd x1 (w64 (v5 - 1)) Z18).2++(cD ((rd x1 v5 Z18).2) (0:Int) (w64 ((((rd x1 v5 Z18).2).size:Int) - (((rd x1 (w64 (v5 - 1)) Z18).2).size:Int))))))) (w64 (v5+1)) Z18).1,((rd (x1.set v5.toNat ((rd x1 v5 Z18).1,((rd x1 (w64 (v5 - 1)) Z18).2++(cD ((rd x1 v5 Z18).2) (0:Int) (w64 ((((rd x1 v5 Z18).2).size:Int) - (((rd x1 (w64 (v5 - 1)) Z18).2).size:Int))))))) (w64 (v5 - 1)) Z18).2++(rd (x1.set v5.toNat ((rd x1 v5 Z18).1,((rd x1 (w64 (v5 - 1)) Z18).2++(cD ((rd x1 v5 Z18).2) (0:Int) (w64 ((((rd x1 v5 Z18).2).size:Int) - (((rd x1 (w64 (v5 - 1)) Z18).2).size:Int))))))) (w64 (v5+1)) Z18).2))) (w64 (v5 - 1)) (1:Int) []).bind fun r2=>kn p0 r2.1 (w64 (v5+1)) true) else (idx v5 (x1.length:Int)<|idx (w64 (v5+1)) (x1.length:Int)<|(g92 n ((rd x1 v5 Z18).2) ((rd x1 (w64 (v5+1)) Z18).2)).bind fun r3=>bif r3.1 then (idx (w64 (v5 - 1)) (x1.length:Int)<|idx (w64 (v5+1)) (x1.length:Int)<|cG (((rd x1 (w64 (v5 - 1)) Z18).2).size+((rd x1 (w64 (v5+1)) Z18).2).size)<|idx (w64 (v5 - 1)) (x1.length:Int)<|idx v5 ((x1.set (w64 (v5 - 1)).toNat ((rd x1 (w64 (v5 - 1)) Z18).1,((rd x1 (w64 (v5 - 1)) Z18).2++(rd x1 (w64 (v5+1)) Z18).2))).length:Int)<|idx (w64 (v5+1)) ((x1.set (w64 (v5 - 1)).toNat ((rd x1 (w64 (v5 - 1)) Z18).1,((rd x1 (w64 (v5 - 1)) Z18).2++(rd x1 (w64 (v5+1)) Z18).2))).length:Int)<|bnd (((rd (x1.set (w64 (v5 - 1)).toNat ((rd x1 (w64 (v5 - 1)) Z18).1,((rd x1 (w64 (v5 - 1)) Z18).2++(rd x1 (w64 (v5+1)) Z18).2))) (w64 (v5+1)) Z18).2).size:Int) (((rd (x1.set (w64 (v5 - 1)).toNat ((rd x1 (w64 (v5 - 1)) Z18).1,((rd x1 (w64 (v5 - 1)) Z18).2++(rd x1 (w64 (v5+1)) Z18).2))) v5 Z18).2).size:Int) (((rd (x1.set (w64 (v5 - 1)).toNat ((rd x1 (w64 (v5 - 1)) Z18).1,((rd x1 (w64 (v5 - 1)) Z18).2++(rd x1 (w64 (v5+1)) Z18).2))) v5 Z18).2).size:Int)<|idx (w64 (v5+1)) ((x1.set (w64 (v5 - 1)).toNat ((rd x1 (w64 (v5 - 1)) Z18).1,((rd x1 (w64 (v5 - 1)) Z18).2++(rd x1 (w64 (v5+1)) Z18).2))).length:Int)<|cG ((cD ((rd (x1.set (w64 (v5 - 1)).toNat ((rd x1 (w64 (v5 - 1)) Z18).1,((rd x1 (w64 (v5 - 1)) Z18).2++(rd x1 (w64 (v5+1)) Z18).2))) v5 Z18).2) (((rd (x1.set (w64 (v5 - 1)).toNat ((rd x1 (w64 (v5 - 1)) Z18).1,((rd x1 (w64 (v5 - 1)) Z18).2++(rd x1 (w64 (v5+1)) Z18).2))) (w64 (v5+1)) Z18).2).size:Int) (((rd (x1.set (w64 (v5 - 1)).toNat ((rd x1 (w64 (v5 - 1)) Z18).1,((rd x1 (w64 (v5 - 1)) Z18).2++(rd x1 (w64 (v5+1)) Z18).2))) v5 Z18).2).size:Int)).size+((rd (x1.set (w64 (v5 - 1)).toNat ((rd x1 (w64 (v5 - 1)) Z18).1,((rd x1 (w64 (v5 - 1)) Z18).2++(rd x1 (w64 (v5+1)) Z18).2))) (w64 (v5+1)) Z18).2).size)<|idx v5 ((x1.set (w64 (v5 - 1)).toNat ((rd x1 (w64 (v5 - 1)) Z18).1,((rd x1 (w64 (v5 - 1)) Z18).2++(rd x1 (w64 (v5+1)) Z18).2))).length:Int)<|(g71 n ((x1.set (w64 (v5 - 1)).toNat ((rd x1 (w64 (v5 - 1)) Z18).1,((rd x1 (w64 (v5 - 1)) Z18).2++(rd x1 (w64 (v5+1)) Z18).2))).set v5.toNat ((rd (x1.set (w64 (v5 - 1)).toNat ((rd x1 (w64 (v5 - 1)) Z18).1,((rd x1 (w64 (v5 - 1)) Z18).2++(rd x1 (w64 (v5+1)) Z18).2))) v5 Z18).1,((cD ((rd (x1.set (w64 (v5 - 1)).toNat ((rd x1 (w64 (v5 - 1)) Z18).1,((rd x1 (w64 (v5 - 1)) Z18).2++(rd x1 (w64 (v5+1)) Z18).2))) v5 Z18).2) (((rd (x1.set (w64 (v5 - 1)).toNat ((rd x1 (w64 (v5 - 1)) Z18).1,((rd x1 (w64 (v5 - 1)) Z18).2++(rd x1 (w64 (v5+1)) Z18).2))) (w64 (v5+1)) Z18).2).size:Int) (((rd (x1.set (w64 (v5 - 1)).toNat ((rd x1 (w64 (v5 - 1)) Z18).1,((rd x1 (w64 (v5 - 1)) Z18).2++(rd x1 (w64 (v5+1)) Z18).2))) v5 Z18).2).size:Int))++(rd (x1.set (w64 (v5 - 1)).toNat ((rd x1 (w64 (v5 - 1)) Z18).1,((rd x1 (w64 (v5 - 1)) Z18).2++(rd x1 (w64 (v5+1)) Z18).2))) (w64 (v5+1)) Z18).2))) (w64 (v5+1)) (1:Int) []).bind fun r4=>kn p0 r4.1 (w64 (v5+1)) true) else (kn p0 x1 (w64 (v5+1)) v14))) else (kn p0 x1 (w64 (v5+1)) v14)) else (kn p0 x1 (w64 (v5+1)) v14)) else (kx3 p0 x1 v14)
def JY (n:Nat) (q73:Q73) (s:FState) (cx:Cx β):Option β:=FXs (gJ n q73) n fC (some sK) none [(3,sX)] [[1,1,1,1,1,1,1,1,1,1,1,1,0,0,0,0,0],[1,1,1,1,1,1,1,1,1,1,1,1,0,0,0,0,1],[1,1,1,1,1,1,1,1,1,1,1,1,0,0,0,1]] s cx
theorem n4 (n:Nat) (q73:Q73) (cx:Cx β) (p0:Z10) (x1:List Z28) (v5:Int) (v14:Bool):JY n q73 (pE p0 x1 v5 v14) cx=B2 n q73 (fun p0 x1 v5 v14=>cx.nrm (pE p0 x1 v5 v14)) (fun p0 x1 v14=>cx.ex 3 (rZ p0 x1 v14)) p0 x1 v5 v14:=by kernel_rfl
def g73_35L (n:Nat) (q73:Q73) (kx3:Z10→List Z28→Bool→Option β):Nat→Z10→List Z28→Int→Bool→Option β
  | 0,_,_,_,_=>none
  | m+1,p0,x1,v5,v14=>B2 n q73 (g73_35L n q73 kx3 m) kx3 p0 x1 v5 v14
def D5 (n:Nat) (q73:Q73) (kx3:Z10→List Z28→Bool→Option β) (p0:Z10) (x1:List Z28) (v5:Int) (v14:Bool):Option β:=g73_35L n q73 kx3 n p0 x1 v5 v14
def G4 (n:Nat) (q73:Q73) (s:FState) (cx:Cx β):Option β:=aZ (fun again s=>JY n q73 s {cx with nrm:=again}) n s
theorem A7 (n:Nat) (q73:Q73) (cx:Cx β):∀(m:Nat) (p0:Z10) (x1:List Z28) (v5:Int) (v14:Bool),aZ (fun again s=>JY n q73 s {cx with nrm:=again}) m (pE p0 x1 v5 v14)=g73_35L n q73 (fun p0 x1 v14=>cx.ex 3 (rZ p0 x1 v14)) m p0 x1 v5 v14:=by
  intro m
  induction m with
  | zero=>intros;rfl
  | succ m ih=>intros;simp only [aZ,g73_35L,n4,ih]
theorem b7 (n:Nat) (q73:Q73) (cx:Cx β) (p0:Z10) (x1:List Z28) (v5:Int) (v14:Bool):G4 n q73 (pE p0 x1 v5 v14) cx=D5 n q73 (fun p0 x1 v14=>cx.ex 3 (rZ p0 x1 v14)) p0 x1 v5 v14:=A7 n q73 cx n p0 x1 v5 v14
def DG (n:Nat) (q73:Q73) (kn:Z10→List Z28→Bool→Option β) (p0:Z10) (x1:List Z28) (v5:Int) (v14:Bool):Option β:=D5 n q73 kn p0 x1 v5 v14
def I6 (n:Nat) (q73:Q73) (s:FState) (cx:Cx β):Option β:=G4 n q73 s {cx with ex:=fun j s=>bif Nat.beq j 3 then cx.nrm s else cx.ex j s}
theorem d3 (n:Nat) (q73:Q73) (cx:Cx β) (p0:Z10) (x1:List Z28) (v5:Int) (v14:Bool):I6 n q73 (pE p0 x1 v5 v14) cx=DG n q73 (fun p0 x1 v14=>cx.nrm (rZ p0 x1 v14)) p0 x1 v5 v14:=b7 n q73 _ p0 x1 v5 v14
def wZ (n:Nat) (q73:Q73) (kr:List Z28→Option β) (p0:Z10) (x1:List Z28) (v14:Bool):Option β:=bif v14 then ((q73 (p0,(x1,()))).bind fun r1=>kr r1.1) else (kr x1)
def S7 (n:Nat) (q73:Q73) (s:FState) (cx:Cx β):Option β:=FXs (gJ n q73) n fC none (some sB) [] [[1,1,1,1,1,1,1,1,1,1,1,1,1,0,0],[1,1,1,1,1,1,1,1,1,1,1,1,1,0,1],[1,1,1,1,1,1,1,1,1,1,1,1,1,1,0],[1,1,1,1,1,1,1,1,1,1,1,1,1,1,1]] s cx
theorem e9 (n:Nat) (q73:Q73) (cx:Cx β) (p0:Z10) (x1:List Z28) (v14:Bool):S7 n q73 (rZ p0 x1 v14) cx=wZ n q73 (fun x4=>cx.ret (bB0 x4)) p0 x1 v14:=by kernel_rfl
def IF (n:Nat) (q73:Q73) (kr:List Z28→Option β) (p0:Z10) (x1:List Z28):Option β:=bV3 n q73 (fun p0 x1 v5 v6 v7 x9 x10=>ZT n q73 (fun p0 x1=>MG n q73 (fun p0 x1=>CM n q73 (fun p0 x1 v5 v14=>DG n q73 (fun p0 x1 v14=>wZ n q73 kr p0 x1 v14) p0 x1 v5 v14) p0 x1) p0 x1) p0 x1 v5 v6 v7 x9 x10) p0 x1
def yW (n:Nat) (q73:Q73) (s:FState) (cx:Cx β):Option β:=aO8 n q73 s {cx with nrm:=fun s=>Q6 n q73 s {cx with nrm:=fun s=>U6 n q73 s {cx with nrm:=fun s=>N0 n q73 s {cx with nrm:=fun s=>I6 n q73 s {cx with nrm:=fun s=>S7 n q73 s cx}}}}}
theorem X5 (n:Nat) (q73:Q73) (cx:Cx β) (p0:Z10) (x1:List Z28):yW n q73 (VK p0 x1) cx=IF n q73 (fun x4=>cx.ret (bB0 x4)) p0 x1:=by simp only [yW,IF,bY0,d8,Y2,o7,d3,e9]
def G5 (n:Nat) (q73:Q73) (p0:Z10) (x1:List Z28):Option (DenR [.rw Z24 81]):=IF n q73 (fun x4=>some (x4,())) p0 x1
def aQ5 (n:Nat) (q73:Q73) (d:DenA kV):Option (DenR iJ):=G5 n q73 d.1 d.2.1
def dB1:Sk:=(.nd (.fin none none none [] .leaf) (.nd (.fin none none none [] .leaf) (.nd (.fin none none none [] .leaf) (.nd (.fin none none none [] .leaf) (.nd (.fin none none none [] .leaf) (.nd (.fin none none none [] .leaf) (.nd (.fin none none none [] .leaf) (.nd (.fin none (some dI) none [] .leaf) (.nd (.nd (.nd (.nd (.nd (.fin none none none [(0,LQ)] .leaf) (.fin none (some R2) none [(0,LQ)] .leaf)) (.nd (.nd (.fin none (some G1) none [] .leaf) (.nd (.nd (.fin none (some J3) none [] .leaf) (.nd (.nd (.fin none none none [(2,dI)] .leaf) (.nd (.fin none none none [(2,dI)] .leaf) (.nd (.fin none none none [(2,dI)] .leaf) (.fin none none none [(2,dI)] .leaf)))) (.nd (.fin none (some P5) none [] .leaf) (.nd (.nd (.fin none none none [(2,dI)] .leaf) (.nd (.fin none none none [(2,dI)] .leaf) (.nd (.fin none none none [(2,dI)] .leaf) (.fin none none none [(2,dI)] .leaf)))) (.nd (.fin none (some G8) none [] .leaf) (.nd (.nd (.nd (.fin none (some E9) none [] .leaf) (.nd (.nd (.nd (.fin none none none [] .leaf) (.fin none (some QN) none [] .leaf)) (.nd (.nd (.fin none none none [] .leaf) (.fin none (some OZ) none [] .leaf)) (.nd (.fin none none none [] .leaf) (.nd (.nd (.fin none none none [] .leaf) (.fin none (some QA) none [] .leaf)) (.nd (.fin none none none [] .leaf) (.fin none (some uM) none [] .leaf)))))) (.nd (.fin none none none [] .leaf) (.fin none (some uM) none [] .leaf)))) (.nd (.fin none none none [(2,dI)] .leaf) (.nd (.fin none none none [(2,dI)] .leaf) (.nd (.fin none none none [(2,dI)] .leaf) (.nd (.fin none none none [(2,dI)] .leaf) (.fin none none none [(2,dI)] .leaf)))))) (.fin none (some dI) none [] .leaf))))))) .leaf)) .leaf)) .leaf) .leaf) (.nd (.nd (.fin none none none [] .leaf) (.fin none (some OQ) none [] .leaf)) (.nd (.fin none none none [] .leaf) (.nd (.fin none (some sK) none [] .leaf) (.nd (.nd (.nd (.nd (.nd (.fin none none none [(3,sX)] .leaf) (.fin none none none [(3,sX)] .leaf)) (.fin none (some sK) none [(3,sX)] .leaf)) .leaf) .leaf) (.nd (.nd (.fin none none (some sB) [] .leaf) (.fin none none (some sB) [] .leaf)) (.nd (.fin none none (some sB) [] .leaf) (.fin none none (some sB) [] .leaf))))))))))))))))
theorem cC1 (n:Nat) (q73:Q73) (s:FState) (cx:Cx β):FX (gJ n q73) n fC dB1 s cx=yW n q73 s cx:=by kernel_rfl
theorem bA2 (n:Nat) (q73:Q73) (h73:Fit Tryd.prog 73 (aK kV iJ q73)):Fit Tryd.prog 73 (aK kV iJ (aQ5 n q73)):=
  bT (Γ:=Γ0) (l:=dC7 n q73) (n:=n) (sk:=dB1) (ts:=[(4,none)]) (fn:=Tryd.f73) (c:=fC) (by kernel_rfl) (by kernel_rfl) (by unfold aI;kernel_rfl) bL ⟨cG4 n,N8 n,T6 n,cD0 n,cD2 n,h73,trivial⟩ aE (by kernel_rfl) (by kernel_rfl) (Nat.le_of_ble_eq_true (by kernel_rfl)) (Nat.le_of_ble_eq_true (by kernel_rfl)) (by kernel_rfl) (by kernel_rfl)
    (fun d=>(cC1 n q73 _ _).trans (Eq.trans (b:=yW n q73 (VK d.1 d.2.1) (bZ (gJ n q73) iJ [(4,none)])) (by kernel_rfl) ((X5 n q73 _ d.1 d.2.1).trans (by kernel_rfl))))
def mU (n:Nat):Nat→(DenA kV→Option (DenR iJ))
  | 0=>(fun _=>none)
  | m+1=>(aQ5 n (mU n m))
theorem xN (n:Nat):∀m:Nat,Fit Tryd.prog 73 (aK kV iJ (mU n m))
  | 0=>jW (by unfold aI;kernel_rfl)
  | m+1=>bA2 n (mU n m) (xN n m)
def cO6 (n:Nat) (d:DenA kV):Option (DenR iJ):=(mU n n) d
def g73 (n:Nat) (a0:AK.den (.pro Z1 74)) (a1:AK.den (.rw Z24 81)):Option (DenR iJ):=cO6 n (a0,(a1,()))
def cL2 (n:Nat):Spec:=aK kV iJ (cO6 n)
theorem cF9 (n:Nat):Fit Tryd.prog 73 (cL2 n):=(xN n n)
def LY (x0 x1:List Int):FState:=⟨aD [(0, .sl 0 none false),(1, .sl 1 none false)],aC [(0, .row (.int .i32) 21 false x0),(1, .row (.int .i32) 21 false x1)]⟩
def pC (v4:Int):FState:=⟨aD [(4, .dat (.int .i64) v4)],aC []⟩
def iT:List NE:=[.keep 4]
def pG (x0 x1:List Int) (v5 v6:Int):FState:=⟨aD [(0, .sl 0 none false),(1, .sl 1 none false),(5, .dat (.int .i64) v5),(6, .dat (.int .i64) v6)],aC [(0, .row (.int .i32) 21 false x0),(1, .row (.int .i32) 21 false x1)]⟩
def uS:List NE:=[.row 0 (.int .i32) 21 false, .row 1 (.int .i32) 21 false, .keep 5, .keep 6]
def uE:FState:=⟨aD [],aC []⟩
def oB:List NE:=[]
def z7 (n:Nat):List (Nat×Spec):=[(79,bE8 n)]
def BK (n:Nat):Ctx:={Γ0 with calls:=lkS (z7 n)}
def CF:Code:=fb Tryd.f101
def XS (n:Nat) (kn:List Int→List Int→Int→Int→Option β) (x0 x1:List Int):Option β:=kn x0 x1 (w64 ((x0.length:Int) - (x1.length:Int))) (0:Int)
def G7 (n:Nat) (s:FState) (cx:Cx β):Option β:=FXs (BK n) n CF (some uS) none [] [[0],[1,0],[1,1,0,0]] s cx
theorem Y7 (n:Nat) (cx:Cx β) (x0 x1:List Int):G7 n (LY x0 x1) cx=XS n (fun x0 x1 v5 v6=>cx.nrm (pG x0 x1 v5 v6)) x0 x1:=by kernel_rfl
def YM (n:Nat) (kn:List Int→List Int→Int→Int→Option β) (kr:Int→Option β) (kx0:Option β) (x0 x1:List Int) (v5 v6:Int):Option β:=bif (decide (v6≤v5)) then (bnd v6 (w64 (v6+(x1.length:Int))) (x0.length:Int)<|(g79 n (cut x0 v6 (w64 (v6+(x1.length:Int)))) x1).bind fun r1=>bif r1.1 then (kr v6) else (kn x0 x1 v5 (w64 (v6+1)))) else kx0
def LK (n:Nat) (s:FState) (cx:Cx β):Option β:=FXs (BK n) n CF (some uS) (some iT) [(0,oB)] [[1,1,0,1,0,0,0,0],[1,1,0,1,0,0,0,1],[1,1,0,1,0,0,1,0],[1,1,0,1,0,0,1,1]] s cx
theorem c8 (n:Nat) (cx:Cx β) (x0 x1:List Int) (v5 v6:Int):LK n (pG x0 x1 v5 v6) cx=YM n (fun x0 x1 v5 v6=>cx.nrm (pG x0 x1 v5 v6)) (fun v4=>cx.ret (pC v4)) (cx.ex 0 uE) x0 x1 v5 v6:=by kernel_rfl
def g101_3L (n:Nat) (kr:Int→Option β) (kx0:Option β):Nat→List Int→List Int→Int→Int→Option β
  | 0,_,_,_,_=>none
  | m+1,x0,x1,v5,v6=>YM n (g101_3L n kr kx0 m) kr kx0 x0 x1 v5 v6
def YH (n:Nat) (kr:Int→Option β) (kx0:Option β) (x0 x1:List Int) (v5 v6:Int):Option β:=g101_3L n kr kx0 n x0 x1 v5 v6
def T5 (n:Nat) (s:FState) (cx:Cx β):Option β:=aZ (fun again s=>LK n s {cx with nrm:=again}) n s
theorem VH (n:Nat) (cx:Cx β):∀(m:Nat) (x0 x1:List Int) (v5 v6:Int),aZ (fun again s=>LK n s {cx with nrm:=again}) m (pG x0 x1 v5 v6)=g101_3L n (fun v4=>cx.ret (pC v4)) (cx.ex 0 uE) m x0 x1 v5 v6:=by
  intro m
  induction m with
  | zero=>intros;rfl
  | succ m ih=>intros;simp only [aZ,g101_3L,c8,ih]
theorem W5 (n:Nat) (cx:Cx β) (x0 x1:List Int) (v5 v6:Int):T5 n (pG x0 x1 v5 v6) cx=YH n (fun v4=>cx.ret (pC v4)) (cx.ex 0 uE) x0 x1 v5 v6:=VH n cx n x0 x1 v5 v6
def XH (n:Nat) (kn:Option β) (kr:Int→Option β) (x0 x1:List Int) (v5 v6:Int):Option β:=YH n kr kn x0 x1 v5 v6
def M8 (n:Nat) (s:FState) (cx:Cx β):Option β:=T5 n s {cx with ex:=fun j s=>bif Nat.beq j 0 then cx.nrm s else cx.ex j s}
theorem W2 (n:Nat) (cx:Cx β) (x0 x1:List Int) (v5 v6:Int):M8 n (pG x0 x1 v5 v6) cx=XH n (cx.nrm uE) (fun v4=>cx.ret (pC v4)) x0 x1 v5 v6:=W5 n _ x0 x1 v5 v6
def A4 (n:Nat) (kr:Int→Option β):Option β:=kr (-1:Int)
def H6 (n:Nat) (s:FState) (cx:Cx β):Option β:=FXs (BK n) n CF none (some iT) [] [[1,1,1,0],[1,1,1,1]] s cx
theorem V9 (n:Nat) (cx:Cx β):H6 n uE cx=A4 n (fun v4=>cx.ret (pC v4)):=by kernel_rfl
def LG (n:Nat) (kr:Int→Option β) (x0 x1:List Int):Option β:=XS n (fun x0 x1 v5 v6=>XH n (A4 n kr) kr x0 x1 v5 v6) x0 x1
def zN (n:Nat) (s:FState) (cx:Cx β):Option β:=G7 n s {cx with nrm:=fun s=>M8 n s {cx with nrm:=fun s=>H6 n s cx}}
theorem j5 (n:Nat) (cx:Cx β) (x0 x1:List Int):zN n (LY x0 x1) cx=LG n (fun v4=>cx.ret (pC v4)) x0 x1:=by simp only [zN,LG,Y7,W2,V9]
def aX3 (n:Nat) (x0 x1:List Int):Option (DenR [.dat (.int .i64)]):=LG n (fun v4=>some (v4,())) x0 x1
def bM1:List AK:=[.ro (.int .i32) 21, .ro (.int .i32) 21]
def YJ:List RK:=[.dat (.int .i64)]
def dH9 (n:Nat) (d:DenA bM1):Option (DenR YJ):=aX3 n d.1 d.2.1
def aN2 (n:Nat):Spec:=aK bM1 YJ (dH9 n)
def aY9:Sk:=(.nd (.fin none none none [] .leaf) (.nd (.fin none none none [] .leaf) (.nd (.nd (.fin none (some uS) none [] .leaf) (.nd (.nd (.nd (.nd (.fin none none (some iT) [(0,oB)] .leaf) (.fin none none (some iT) [(0,oB)] .leaf)) (.nd (.fin none none (some iT) [(0,oB)] .leaf) (.fin none (some uS) (some iT) [(0,oB)] .leaf))) .leaf) .leaf)) (.nd (.fin none none (some iT) [] .leaf) (.fin none none (some iT) [] .leaf)))))
theorem aP7 (n:Nat) (s:FState) (cx:Cx β):FX (BK n) n CF aY9 s cx=zN n s cx:=by kernel_rfl
theorem bW3 (n:Nat):Fit Tryd.prog 101 (aN2 n):=
  bT (Γ:=Γ0) (l:=z7 n) (n:=n) (sk:=aY9) (ts:=[(4,none)]) (fn:=Tryd.f101) (c:=CF) (by kernel_rfl) (by kernel_rfl) (by unfold aI;kernel_rfl) bL ⟨R9 n,trivial⟩ aE (by kernel_rfl) (by kernel_rfl) (Nat.le_of_ble_eq_true (by kernel_rfl)) (Nat.le_of_ble_eq_true (by kernel_rfl)) (by kernel_rfl) (by kernel_rfl)
    (fun d=>(aP7 n _ _).trans (Eq.trans (b:=zN n (LY d.1 d.2.1) (bZ (BK n) YJ [(4,none)])) (by kernel_rfl) ((j5 n _ d.1 d.2.1).trans (by kernel_rfl))))
def bN1:List AK:=[.pro Z1 74, .ro (.int .i32) 21, .ro (.int .i32) 21, .dat (.int .i64)]
def aG6:List RK:=[.rw (.sl 21 (.int .i32)) 32]
def dJ9 (n:Nat) (v0:Z10) (v1 v2:List Int) (v3:Int):Option (DenR [.rw (.sl 21 (.int .i32)) 32]):=none
def dI6 (n:Nat) (d:DenA bN1):Option (DenR aG6):=none
def bI0 (n:Nat):Spec:=aK bN1 aG6 (dI6 n)
theorem bQ6 (n:Nat):Fit Tryd.prog 120 (bI0 n):=jW (by unfold aI;kernel_rfl)
def JP (p0:Z10) (x1 x2:List Int):FState:=⟨aD [(0, .ptr 0 0 0),(1, .sl 1 none false),(2, .sl 2 none false)],aC [(0, .row Z1 74 false [p0]),(1, .row (.int .i32) 21 false x1),(2, .row (.int .i32) 21 false x2)]⟩
def KY:FState:=⟨aD [(6, .nsl)],aC []⟩
def cV:List NE:=[.keep 6]
def T1 (p0:Z10) (x1 x2 x7 x8:List Int):FState:=⟨aD [(0, .ptr 0 0 0),(1, .sl 1 none false),(2, .sl 2 none false),(7, .sl 7 none false),(8, .sl 8 none false)],aC [(0, .row Z1 74 false [p0]),(1, .row (.int .i32) 21 false x1),(2, .row (.int .i32) 21 false x2),(7, .row (.int .i32) 21 false x7),(8, .row (.int .i32) 21 false x8)]⟩
def OR:List NE:=[.ptr 0 Z1 74 false, .row 1 (.int .i32) 21 false, .row 2 (.int .i32) 21 false, .row 7 (.int .i32) 21 false, .row 8 (.int .i32) 21 false]
def aF8 (n:Nat):List (Nat×Spec):=[(120,bI0 n)]
def JU (n:Nat):Ctx:={Γ0 with calls:=lkS (aF8 n)}
def LM:Code:=fb Tryd.f102
def YX (n:Nat) (kn:Z10→List Int→List Int→List Int→List Int→Option β) (kr:Option β) (p0:Z10) (x1 x2:List Int):Option β:=bif (decide (p0.1≤(0:Int))) then kr else (bif (decide ((x1.length:Int)>(x2.length:Int))) then (kn p0 x1 x2 x1 x2) else (kn p0 x1 x2 x2 x1))
def U0 (n:Nat) (s:FState) (cx:Cx β):Option β:=FXs (JU n) n LM (some OR) (some cV) [] [[0],[1,0,0],[1,0,1],[1,1,0],[1,1,1,0,0],[1,1,1,0,1]] s cx
theorem f8 (n:Nat) (cx:Cx β) (p0:Z10) (x1 x2:List Int):U0 n (JP p0 x1 x2) cx=YX n (fun p0 x1 x2 x7 x8=>cx.nrm (T1 p0 x1 x2 x7 x8)) (cx.ret KY) p0 x1 x2:=by kernel_rfl
def bL4 (n:Nat) (kr:Option β) (p0:Z10) (x1 x2 x7 x8:List Int):Option β:=bif (decide ((x7.length:Int) < (4:Int))) then kr else (bif (decide ((w64 ((x8.length:Int) * 2)) < (x7.length:Int))) then kr else (onS (floatBits .quo .f64 (floatOfInt .f64 (w64 ((x7.length:Int)+3))) (4616189618054758400:Nat)) fun r1=>onS (floatToIntVal .f64 r1 .i64) fun r2=>(dJ9 n p0 x7 x8 r2).bind fun r3=>onS (floatBits .quo .f64 (floatOfInt .f64 (w64 ((x7.length:Int)+1))) (4611686018427387904:Nat)) fun r4=>onS (floatToIntVal .f64 r4 .i64) fun r5=>(dJ9 n p0 x7 x8 r5).bind fun r6=>none))
def U2 (n:Nat) (s:FState) (cx:Cx β):Option β:=FXs (JU n) n LM none (some cV) [] [[1,1,1,1,0,0],[1,1,1,1,0,1],[1,1,1,1,1,0],[1,1,1,1,1,1,0],[1,1,1,1,1,1,1,0],[1,1,1,1,1,1,1,1,0,0],[1,1,1,1,1,1,1,1,0,1],[1,1,1,1,1,1,1,1,1,0,0],[1,1,1,1,1,1,1,1,1,0,1],[1,1,1,1,1,1,1,1,1,1,0],[1,1,1,1,1,1,1,1,1,1,1]] s cx
theorem s7 (n:Nat) (cx:Cx β) (p0:Z10) (x1 x2 x7 x8:List Int):U2 n (T1 p0 x1 x2 x7 x8) cx=bL4 n (cx.ret KY) p0 x1 x2 x7 x8:=by kernel_rfl
def MW (n:Nat) (kr:Option β) (p0:Z10) (x1 x2:List Int):Option β:=YX n (fun p0 x1 x2 x7 x8=>bL4 n kr p0 x1 x2 x7 x8) kr p0 x1 x2
def AI (n:Nat) (s:FState) (cx:Cx β):Option β:=U0 n s {cx with nrm:=fun s=>U2 n s cx}
theorem u3 (n:Nat) (cx:Cx β) (p0:Z10) (x1 x2:List Int):AI n (JP p0 x1 x2) cx=MW n (cx.ret KY) p0 x1 x2:=by simp only [AI,MW,f8,s7]
def cC3 (n:Nat) (p0:Z10) (x1 x2:List Int):Option (DenR [.nsl]):=MW n (some ((),())) p0 x1 x2
def bJ6:List AK:=[.pro Z1 74, .ro (.int .i32) 21, .ro (.int .i32) 21]
def WB:List RK:=[.nsl]
def dE8 (n:Nat) (d:DenA bJ6):Option (DenR WB):=cC3 n d.1 d.2.1 d.2.2.1
def bC5 (n:Nat):Spec:=aK bJ6 WB (dE8 n)
def aM3:Sk:=(.nd (.fin none none (some cV) [] .leaf) (.nd (.nd (.fin none none (some cV) [] .leaf) (.fin none none (some cV) [] .leaf)) (.nd (.fin none none (some cV) [] .leaf) (.nd (.nd (.fin none none (some cV) [] .leaf) (.fin none (some OR) (some cV) [] .leaf)) (.nd (.nd (.fin none none (some cV) [] .leaf) (.fin none none (some cV) [] .leaf)) (.nd (.fin none none (some cV) [] .leaf) (.nd (.fin none none (some cV) [] .leaf) (.nd (.fin none none (some cV) [] .leaf) (.nd (.nd (.fin none none (some cV) [] .leaf) (.fin none none (some cV) [] .leaf)) (.nd (.nd (.fin none none (some cV) [] .leaf) (.fin none none (some cV) [] .leaf)) (.nd (.fin none none (some cV) [] .leaf) (.fin none none (some cV) [] .leaf))))))))))))
theorem aS3 (n:Nat) (s:FState) (cx:Cx β):FX (JU n) n LM aM3 s cx=AI n s cx:=by kernel_rfl
theorem bS8 (n:Nat):Fit Tryd.prog 102 (bC5 n):=
  bT (Γ:=Γ0) (l:=aF8 n) (n:=n) (sk:=aM3) (ts:=[(6,none)]) (fn:=Tryd.f102) (c:=LM) (by kernel_rfl) (by kernel_rfl) (by unfold aI;kernel_rfl) bL ⟨bQ6 n,trivial⟩ aE (by kernel_rfl) (by kernel_rfl) (Nat.le_of_ble_eq_true (by kernel_rfl)) (Nat.le_of_ble_eq_true (by kernel_rfl)) (by kernel_rfl) (by kernel_rfl)
    (fun d=>(aS3 n _ _).trans (Eq.trans (b:=AI n (JP d.1 d.2.1 d.2.2.1) (bZ (JU n) WB [(6,none)])) (by kernel_rfl) ((u3 n _ d.1 d.2.1 d.2.2.1).trans (by kernel_rfl))))
def aW5:List AK:=[.pro Z1 74, .ro (.int .i32) 21, .ro (.int .i32) 21]
def aM8:List RK:=[.rw Z24 81]
def dQ9 (n:Nat) (v0:Z10) (v1 v2:List Int):Option (DenR [.rw Z24 81]):=none
def dG2 (n:Nat) (d:DenA aW5):Option (DenR aM8):=none
def aR8 (n:Nat):Spec:=aK aW5 aM8 (dG2 n)
theorem bF9 (n:Nat):Fit Tryd.prog 103 (aR8 n):=jW (by unfold aI;kernel_rfl)
end
end Go.Proofs.YticibdjilmclgaaDoorZF
