import Derived.Test.YticibdjilmclgaaDoorZFT
import Derived.Test.YticibdjilmclgaaDoorZFE
namespace Go.Proofs.YticibdjilmclgaaDoorZF
noncomputable section
open Go Go.Proofs
set_option linter.unusedVariables false
set_option maxRecDepth 100000
variable {β:Type}
def k6 (v0:ByteArray):FState:=⟨aD [(0, .dat .str v0)],aC []⟩
def cT4 (x2:List Int):FState:=⟨aD [(2, .sl 2 none false)],aC [(2, .row (.int .i32) 21 true x2)]⟩
def yV:List NE:=[.row 2 (.int .i32) 21 true]
def cK6 (n:Nat):List (Nat×Spec):=[]
def bN7 (n:Nat):Ctx:={Γ0 with calls:=lkS (cK6 n)}
def n8:Code:=fb Tryd.f20
def bO4 (n:Nat) (kr:List Int→Option β) (v0:ByteArray):Option β:=oN v0<|kr (bE v0)
def UQ (n:Nat) (s:FState) (cx:Cx β):Option β:=FXs (bN7 n) n n8 none (some yV) [] [[0],[1,0],[1,1]] s cx
theorem y4 (n:Nat) (cx:Cx β) (v0:ByteArray):UQ n (k6 v0) cx=bO4 n (fun x2=>cx.ret (cT4 x2)) v0:=by kernel_rfl
def g20 (n:Nat) (v0:ByteArray):Option (DenR [.rw (.int .i32) 21]):=bO4 n (fun x2=>some (x2,())) v0
def cP6:List AK:=[.dat .str]
def aR6:List RK:=[.rw (.int .i32) 21]
def dB3 (n:Nat) (d:DenA cP6):Option (DenR aR6):=g20 n d.1
def cM4 (n:Nat):Spec:=aK cP6 aR6 (dB3 n)
def cO0:Sk:=(.nd (.fin none none (some yV) [] .leaf) (.nd (.fin none none (some yV) [] .leaf) (.fin none none (some yV) [] .leaf)))
theorem bS4 (n:Nat) (s:FState) (cx:Cx β):FX (bN7 n) n n8 cO0 s cx=UQ n s cx:=by kernel_rfl
theorem bS3 (n:Nat):Fit Tryd.prog 20 (cM4 n):=
  bY (Γ:=Γ0) (l:=cK6 n) (n:=n) (sk:=cO0) (ts:=[(2,none)]) (fn:=Tryd.f20) (c:=n8) (by kernel_rfl) (by kernel_rfl) (by unfold aJ;kernel_rfl) bT trivial aE (by kernel_rfl) (by kernel_rfl) (Nat.le_of_ble_eq_true (by kernel_rfl)) (Nat.le_of_ble_eq_true (by kernel_rfl)) (by kernel_rfl) (by kernel_rfl)
    (fun d=>(bS4 n _ _).trans (Eq.trans (b:=UQ n (k6 d.1) (cD (bN7 n) aR6 [(2,none)])) (by kernel_rfl) ((y4 n _ d.1).trans (by kernel_rfl))))
def y3 (v0:ByteArray) (v1:Int):FState:=⟨aD [(0, .dat .str v0),(1, .dat (.int .i64) v1)],aC []⟩
def cW3 (v4:ByteArray):FState:=⟨aD [(4, .dat .str v4)],aC []⟩
def uP:List NE:=[.keep 4]
def cF0 (n:Nat):List (Nat×Spec):=[(20,cM4 n)]
def aV8 (n:Nat):Ctx:={Γ0 with calls:=lkS (cF0 n)}
def bD2:Code:=fb Tryd.f13
def aD3 (n:Nat) (kr:ByteArray→Option β) (v0:ByteArray) (v1:Int):Option β:=(g20 n v0).bind fun r1=>bnd (0:Int) (FF (r1.1.length:Int) v1) (r1.1.length:Int)<|kr (runesBytes (cut r1.1 (0:Int) ((0:Int)+((FF (r1.1.length:Int) v1) - (0:Int)))))
def YJ (n:Nat) (s:FState) (cx:Cx β):Option β:=FXs (aV8 n) n bD2 none (some uP) [] [[0],[1,0],[1,1,0],[1,1,1]] s cx
theorem bB2 (n:Nat) (cx:Cx β) (v0:ByteArray) (v1:Int):YJ n (y3 v0 v1) cx=aD3 n (fun v4=>cx.ret (cW3 v4)) v0 v1:=by kernel_rfl
def g13 (n:Nat) (v0:ByteArray) (v1:Int):Option (DenR [.dat .str]):=aD3 n (fun v4=>some (v4,())) v0 v1
def cE7:List AK:=[.dat .str, .dat (.int .i64)]
def aO1:List RK:=[.dat .str]
def dB8 (n:Nat) (d:DenA cE7):Option (DenR aO1):=g13 n d.1 d.2.1
def cJ0 (n:Nat):Spec:=aK cE7 aO1 (dB8 n)
def cE4:Sk:=(.nd (.fin none none (some uP) [] .leaf) (.nd (.fin none none (some uP) [] .leaf) (.nd (.fin none none (some uP) [] .leaf) (.fin none none (some uP) [] .leaf))))
theorem bW9 (n:Nat) (s:FState) (cx:Cx β):FX (aV8 n) n bD2 cE4 s cx=YJ n s cx:=by kernel_rfl
theorem bW8 (n:Nat):Fit Tryd.prog 13 (cJ0 n):=
  bY (Γ:=Γ0) (l:=cF0 n) (n:=n) (sk:=cE4) (ts:=[(4,none)]) (fn:=Tryd.f13) (c:=bD2) (by kernel_rfl) (by kernel_rfl) (by unfold aJ;kernel_rfl) bT ⟨bS3 n,trivial⟩ aE (by kernel_rfl) (by kernel_rfl) (Nat.le_of_ble_eq_true (by kernel_rfl)) (Nat.le_of_ble_eq_true (by kernel_rfl)) (by kernel_rfl) (by kernel_rfl)
    (fun d=>(bW9 n _ _).trans (Eq.trans (b:=YJ n (y3 d.1 d.2.1) (cD (aV8 n) aO1 [(4,none)])) (by kernel_rfl) ((bB2 n _ d.1 d.2.1).trans (by kernel_rfl))))
def aK1:FState:=⟨aD [],aC []⟩
def cS1 (p0:Z10):FState:=⟨aD [(0, .ptr 0 0 0)],aC [(0, .row Z1 74 true [p0])]⟩
def yG:List NE:=[.ptr 0 Z1 74 true]
def cQ2 (n:Nat):List (Nat×Spec):=[]
def aA3 (n:Nat):Ctx:={Γ0 with calls:=lkS (cQ2 n)}
def aK0:Code:=fb Tryd.f42
def cQ9 (n:Nat) (kr:Z10→Option β):Option β:=kr ((1000000000:Int),((4:Int),((1000:Int),((4602678819172646912:Nat),((4:Int),((32:Int),(4602678819172646912:Nat)))))))
def WI (n:Nat) (s:FState) (cx:Cx β):Option β:=FXs (aA3 n) n aK0 none (some yG) [] [[0],[1,0],[1,1]] s cx
theorem aV2 (n:Nat) (cx:Cx β):WI n aK1 cx=cQ9 n (fun p0=>cx.ret (cS1 p0)):=by kernel_rfl
def g42 (n:Nat):Option (DenR [.ptr Z1 74]):=cQ9 n (fun p0=>some (p0,()))
def cP9:List AK:=[]
def aP0:List RK:=[.ptr Z1 74]
def dC4 (n:Nat) (d:DenA cP9):Option (DenR aP0):=g42 n
def y5 (n:Nat):Spec:=aK cP9 aP0 (dC4 n)
def cG4:Sk:=(.nd (.fin none none (some yG) [] .leaf) (.nd (.fin none none (some yG) [] .leaf) (.fin none none (some yG) [] .leaf)))
theorem bR0 (n:Nat) (s:FState) (cx:Cx β):FX (aA3 n) n aK0 cG4 s cx=WI n s cx:=by kernel_rfl
theorem L9 (n:Nat):Fit Tryd.prog 42 (y5 n):=
  bY (Γ:=Γ0) (l:=cQ2 n) (n:=n) (sk:=cG4) (ts:=[(0,none)]) (fn:=Tryd.f42) (c:=aK0) (by kernel_rfl) (by kernel_rfl) (by unfold aJ;kernel_rfl) bT trivial aE (by kernel_rfl) (by kernel_rfl) (Nat.le_of_ble_eq_true (by kernel_rfl)) (Nat.le_of_ble_eq_true (by kernel_rfl)) (by kernel_rfl) (by kernel_rfl)
    (fun d=>(bR0 n _ _).trans (Eq.trans (b:=WI n (aK1) (cD (aA3 n) aP0 [(0,none)])) (by kernel_rfl) ((aV2 n _).trans (by kernel_rfl))))
def UI (v0 v1:ByteArray):FState:=⟨aD [(0, .dat .str v0),(1, .dat .str v1)],aC []⟩
def vG (v4:Int):FState:=⟨aD [(4, .dat (.int .i64) v4)],aC []⟩
def kQ:List NE:=[.keep 4]
def vN (v0 v1:ByteArray) (v5:Int):FState:=⟨aD [(0, .dat .str v0),(1, .dat .str v1),(5, .dat (.int .i64) v5)],aC []⟩
def yT:List NE:=[.keep 0, .keep 1, .keep 5]
def BO:FState:=⟨aD [],aC []⟩
def rQ:List NE:=[]
def cG0 (n:Nat):List (Nat×Spec):=[]
def PD (n:Nat):Ctx:={Γ0 with calls:=lkS (cG0 n)}
def PI:Code:=fb Tryd.f94
def aB0 (n:Nat) (kn:ByteArray→ByteArray→Int→Option β) (v0 v1:ByteArray):Option β:=kn v0 v1 (0:Int)
def bA5 (n:Nat) (s:FState) (cx:Cx β):Option β:=FXs (PD n) n PI (some yT) none [] [[0],[1,0,0]] s cx
theorem aL7 (n:Nat) (cx:Cx β) (v0 v1:ByteArray):bA5 n (UI v0 v1) cx=aB0 n (fun v0 v1 v5=>cx.nrm (vN v0 v1 v5)) v0 v1:=by kernel_rfl
def D9 (n:Nat) (kn:ByteArray→ByteArray→Int→Option β) (kr:Int→Option β) (kx0:Option β) (v0 v1:ByteArray) (v5:Int):Option β:=bif (decide ((w64 (v5+(v1.size:Int)))≤(v0.size:Int))) then (bnd v5 (w64 (v5+(v1.size:Int))) (v0.size:Int)<|bif (dQ (cF v0 v5 (w64 (v5+(v1.size:Int)))) v1) then (kr v5) else (kn v0 v1 (w64 (v5+1)))) else kx0
def UL (n:Nat) (s:FState) (cx:Cx β):Option β:=FXs (PD n) n PI (some yT) (some kQ) [(0,rQ)] [[1,0,1,0,0,0,0],[1,0,1,0,0,0,1],[1,0,1,0,0,1,0],[1,0,1,0,0,1,1]] s cx
theorem bC6 (n:Nat) (cx:Cx β) (v0 v1:ByteArray) (v5:Int):UL n (vN v0 v1 v5) cx=D9 n (fun v0 v1 v5=>cx.nrm (vN v0 v1 v5)) (fun v4=>cx.ret (vG v4)) (cx.ex 0 BO) v0 v1 v5:=by kernel_rfl
def g94_3L (n:Nat) (kr:Int→Option β) (kx0:Option β):Nat→ByteArray→ByteArray→Int→Option β
  | 0,_,_,_=>none
  | m+1,v0,v1,v5=>D9 n (g94_3L n kr kx0 m) kr kx0 v0 v1 v5
def z8 (n:Nat) (kr:Int→Option β) (kx0:Option β) (v0 v1:ByteArray) (v5:Int):Option β:=g94_3L n kr kx0 n v0 v1 v5
def aZ2 (n:Nat) (s:FState) (cx:Cx β):Option β:=bF (fun again s=>UL n s {cx with nrm:=again}) n s
theorem Y2 (n:Nat) (cx:Cx β):∀(m:Nat) (v0 v1:ByteArray) (v5:Int),bF (fun again s=>UL n s {cx with nrm:=again}) m (vN v0 v1 v5)=g94_3L n (fun v4=>cx.ret (vG v4)) (cx.ex 0 BO) m v0 v1 v5:=by
  intro m
  induction m with
  | zero=>intros;rfl
  | succ m ih=>intros;simp only [bF,g94_3L,bC6,ih]
theorem bK8 (n:Nat) (cx:Cx β) (v0 v1:ByteArray) (v5:Int):aZ2 n (vN v0 v1 v5) cx=z8 n (fun v4=>cx.ret (vG v4)) (cx.ex 0 BO) v0 v1 v5:=Y2 n cx n v0 v1 v5
def aV3 (n:Nat) (kn:Option β) (kr:Int→Option β) (v0 v1:ByteArray) (v5:Int):Option β:=z8 n kr kn v0 v1 v5
def bN4 (n:Nat) (s:FState) (cx:Cx β):Option β:=aZ2 n s {cx with ex:=fun j s=>bif Nat.beq j 0 then cx.nrm s else cx.ex j s}
theorem bI5 (n:Nat) (cx:Cx β) (v0 v1:ByteArray) (v5:Int):bN4 n (vN v0 v1 v5) cx=aV3 n (cx.nrm BO) (fun v4=>cx.ret (vG v4)) v0 v1 v5:=bK8 n _ v0 v1 v5
def aZ4 (n:Nat) (kr:Int→Option β):Option β:=kr (-1:Int)
def bH7 (n:Nat) (s:FState) (cx:Cx β):Option β:=FXs (PD n) n PI none (some kQ) [] [[1,1,0],[1,1,1]] s cx
theorem aJ1 (n:Nat) (cx:Cx β):bH7 n BO cx=aZ4 n (fun v4=>cx.ret (vG v4)):=by kernel_rfl
def B7 (n:Nat) (kr:Int→Option β) (v0 v1:ByteArray):Option β:=aB0 n (fun v0 v1 v5=>aV3 n (aZ4 n kr) kr v0 v1 v5) v0 v1
def KM (n:Nat) (s:FState) (cx:Cx β):Option β:=bA5 n s {cx with nrm:=fun s=>bN4 n s {cx with nrm:=fun s=>bH7 n s cx}}
theorem bN0 (n:Nat) (cx:Cx β) (v0 v1:ByteArray):KM n (UI v0 v1) cx=B7 n (fun v4=>cx.ret (vG v4)) v0 v1:=by simp only [KM,B7,aL7,bI5,aJ1]
def g94 (n:Nat) (v0 v1:ByteArray):Option (DenR [.dat (.int .i64)]):=B7 n (fun v4=>some (v4,())) v0 v1
def cB9:List AK:=[.dat .str, .dat .str]
def bI9:List RK:=[.dat (.int .i64)]
def dC9 (n:Nat) (d:DenA cB9):Option (DenR bI9):=g94 n d.1 d.2.1
def cI8 (n:Nat):Spec:=aK cB9 bI9 (dC9 n)
def cM6:Sk:=(.nd (.fin none none none [] .leaf) (.nd (.nd (.fin none (some yT) none [] .leaf) (.nd (.nd (.nd (.nd (.fin none none (some kQ) [(0,rQ)] .leaf) (.fin none none (some kQ) [(0,rQ)] .leaf)) (.nd (.fin none none (some kQ) [(0,rQ)] .leaf) (.fin none (some yT) (some kQ) [(0,rQ)] .leaf))) .leaf) .leaf)) (.nd (.fin none none (some kQ) [] .leaf) (.fin none none (some kQ) [] .leaf))))
theorem bW0 (n:Nat) (s:FState) (cx:Cx β):FX (PD n) n PI cM6 s cx=KM n s cx:=by kernel_rfl
theorem bR8 (n:Nat):Fit Tryd.prog 94 (cI8 n):=
  bY (Γ:=Γ0) (l:=cG0 n) (n:=n) (sk:=cM6) (ts:=[(4,none)]) (fn:=Tryd.f94) (c:=PI) (by kernel_rfl) (by kernel_rfl) (by unfold aJ;kernel_rfl) bT trivial aE (by kernel_rfl) (by kernel_rfl) (Nat.le_of_ble_eq_true (by kernel_rfl)) (Nat.le_of_ble_eq_true (by kernel_rfl)) (by kernel_rfl) (by kernel_rfl)
    (fun d=>(bW0 n _ _).trans (Eq.trans (b:=KM n (UI d.1 d.2.1) (cD (PD n) bI9 [(4,none)])) (by kernel_rfl) ((bN0 n _ d.1 d.2.1).trans (by kernel_rfl))))
def aT7 (v0 v1:ByteArray) (v2:Int):FState:=⟨aD [(0, .dat .str v0),(1, .dat .str v1),(2, .dat (.int .i64) v2)],aC []⟩
def cW7 (v6:Int):FState:=⟨aD [(6, .dat (.int .i64) v6)],aC []⟩
def iC:List NE:=[.keep 6]
def cB3 (n:Nat):List (Nat×Spec):=[(94,cI8 n)]
def aC5 (n:Nat):Ctx:={Γ0 with calls:=lkS (cB3 n)}
def aH6:Code:=fb Tryd.f95
def o5 (n:Nat) (kr:Int→Option β) (v0 v1:ByteArray) (v2:Int):Option β:=bif (decide (v2>(w64 ((v0.size:Int) - 1)))) then (kr (-1:Int)) else (bif (decide (v2≤(0:Int))) then ((g94 n v0 v1).bind fun r1=>kr r1.1) else (bnd v2 (v0.size:Int) (v0.size:Int)<|(g94 n (cF v0 v2 (v0.size:Int)) v1).bind fun r2=>bif (r2.1==(-1:Int)) then (kr (-1:Int)) else (kr (w64 (r2.1+v2)))))
def WA (n:Nat) (s:FState) (cx:Cx β):Option β:=FXs (aC5 n) n aH6 none (some iC) [] [[0],[1,0,0],[1,0,1],[1,1,0,0],[1,1,0,1],[1,1,1,0],[1,1,1,1,0,0],[1,1,1,1,0,1],[1,1,1,1,1,0],[1,1,1,1,1,1]] s cx
theorem aT4 (n:Nat) (cx:Cx β) (v0 v1:ByteArray) (v2:Int):WA n (aT7 v0 v1 v2) cx=o5 n (fun v6=>cx.ret (cW7 v6)) v0 v1 v2:=by kernel_rfl
def g95 (n:Nat) (v0 v1:ByteArray) (v2:Int):Option (DenR [.dat (.int .i64)]):=o5 n (fun v6=>some (v6,())) v0 v1 v2
def cC6:List AK:=[.dat .str, .dat .str, .dat (.int .i64)]
def aD6:List RK:=[.dat (.int .i64)]
def dB9 (n:Nat) (d:DenA cC6):Option (DenR aD6):=g95 n d.1 d.2.1 d.2.2.1
def cE8 (n:Nat):Spec:=aK cC6 aD6 (dB9 n)
def cB4:Sk:=(.nd (.fin none none (some iC) [] .leaf) (.nd (.nd (.fin none none (some iC) [] .leaf) (.fin none none (some iC) [] .leaf)) (.nd (.nd (.fin none none (some iC) [] .leaf) (.fin none none (some iC) [] .leaf)) (.nd (.fin none none (some iC) [] .leaf) (.nd (.nd (.fin none none (some iC) [] .leaf) (.fin none none (some iC) [] .leaf)) (.nd (.fin none none (some iC) [] .leaf) (.fin none none (some iC) [] .leaf)))))))
theorem cA2 (n:Nat) (s:FState) (cx:Cx β):FX (aC5 n) n aH6 cB4 s cx=WA n s cx:=by kernel_rfl
theorem bZ9 (n:Nat):Fit Tryd.prog 95 (cE8 n):=
  bY (Γ:=Γ0) (l:=cB3 n) (n:=n) (sk:=cB4) (ts:=[(6,none)]) (fn:=Tryd.f95) (c:=aH6) (by kernel_rfl) (by kernel_rfl) (by unfold aJ;kernel_rfl) bT ⟨bR8 n,trivial⟩ aE (by kernel_rfl) (by kernel_rfl) (Nat.le_of_ble_eq_true (by kernel_rfl)) (Nat.le_of_ble_eq_true (by kernel_rfl)) (by kernel_rfl) (by kernel_rfl)
    (fun d=>(cA2 n _ _).trans (Eq.trans (b:=WA n (aT7 d.1 d.2.1 d.2.2.1) (cD (aC5 n) aD6 [(6,none)])) (by kernel_rfl) ((aT4 n _ d.1 d.2.1 d.2.2.1).trans (by kernel_rfl))))
def BI (p0:Z10) (v1:ByteArray) (x1000002:List ByteArray) (m3:List Z27):FState:=⟨aD [(0, .ptr 0 0 0),(1, .dat .str v1),(2, .cp 2 0),(1000002, .sl 1000002 none false),(3, .mp 3)],aC [(0, .row Z1 74 false [p0]),(2, .cell (.sl 9 .str) 40),(1000002, .row .str 9 true x1000002),(3, .mapo .str (.int .i64) m3)]⟩
def P9:List NE:=[.ptr 0 Z1 74 false, .keep 1, .cell 2 (.sl 9 .str) 40, .row 1000002 .str 9 true, .mp 3 .str (.int .i64)]
def k7 (x1000002:List ByteArray) (m3:List Z27) (x8:List Int):FState:=⟨aD [(2, .cp 2 0),(1000002, .sl 1000002 none false),(3, .mp 3),(8, .sl 8 none false)],aC [(2, .cell (.sl 9 .str) 40),(1000002, .row .str 9 true x1000002),(3, .mapo .str (.int .i64) m3),(8, .row (.int .u32) 105 true x8)]⟩
def MX:List NE:=[.cell 2 (.sl 9 .str) 40, .row 1000002 .str 9 true, .mp 3 .str (.int .i64), .row 8 (.int .u32) 105 true]
def wB (v1:ByteArray) (x1000002:List ByteArray) (m3:List Z27) (v9 v10:Int) (x11:List Int):FState:=⟨aD [(1, .dat .str v1),(2, .cp 2 0),(1000002, .sl 1000002 none false),(3, .mp 3),(9, .dat (.int .i64) v9),(10, .dat (.int .i64) v10),(11, .sl 11 none false)],aC [(2, .cell (.sl 9 .str) 40),(1000002, .row .str 9 true x1000002),(3, .mapo .str (.int .i64) m3),(11, .row (.int .u32) 105 true x11)]⟩
def zI:List NE:=[.keep 1, .cell 2 (.sl 9 .str) 40, .row 1000002 .str 9 true, .mp 3 .str (.int .i64), .keep 9, .keep 10, .row 11 (.int .u32) 105 true]
def DZ (x1000002:List ByteArray) (m3:List Z27) (x11:List Int):FState:=⟨aD [(2, .cp 2 0),(1000002, .sl 1000002 none false),(3, .mp 3),(11, .sl 11 none false)],aC [(2, .cell (.sl 9 .str) 40),(1000002, .row .str 9 true x1000002),(3, .mapo .str (.int .i64) m3),(11, .row (.int .u32) 105 true x11)]⟩
def yN:List NE:=[.cell 2 (.sl 9 .str) 40, .row 1000002 .str 9 true, .mp 3 .str (.int .i64), .row 11 (.int .u32) 105 true]
def cP0 (n:Nat):List (Nat×Spec):=[(95,cE8 n)]
def FJ (n:Nat):Ctx:={Γ0 with calls:=lkS (cP0 n)}
def QY:Code:=fb Tryd.f75
def bE6 (n:Nat) (kn:ByteArray→List ByteArray→List Z27→Int→Int→List Int→Option β) (p0:Z10) (v1:ByteArray) (x1000002:List ByteArray) (m3:List Z27):Option β:=kn v1 x1000002 m3 (0:Int) (-1:Int) ([]:List Int)
def m6 (n:Nat) (s:FState) (cx:Cx β):Option β:=FXs (FJ n) n QY (some zI) none [] [[0],[1,0],[1,1,0],[1,1,1,0]] s cx
theorem aI2 (n:Nat) (cx:Cx β) (p0:Z10) (v1:ByteArray) (x1000002:List ByteArray) (m3:List Z27):m6 n (BI p0 v1 x1000002 m3) cx=bE6 n (fun v1 x1000002 m3 v9 v10 x11=>cx.nrm (wB v1 x1000002 m3 v9 v10 x11)) p0 v1 x1000002 m3:=by kernel_rfl
def aU7 (n:Nat) (kn:ByteArray→List ByteArray→List Z27→Int→Int→List Int→Option β) (kx0:List ByteArray→List Z27→List Int→Option β) (v1:ByteArray) (x1000002:List ByteArray) (m3:List Z27) (v9 v10:Int) (x11:List Int):Option β:=bif (decide (v10 < (w64 ((v1.size:Int) - 1)))) then ((g95 n v1 (⟨#[10]⟩:ByteArray) v9).bind fun r1=>bif (r1.1==(-1:Int)) then (bnd v9 (w64 ((w64 ((v1.size:Int) - 1))+(1:Int))) (v1.size:Int)<|bif (eQ (a:= .str) (b:=(.int .i64)) (cF v1 v9 (w64 ((w64 ((v1.size:Int) - 1))+(1:Int)))) m3).isSome then (cG (x11.length+[(IntKind.u32.wrap (((eQ (a:= .str) (b:=(.int .i64)) (cF v1 v9 (w64 ((w64 ((v1.size:Int) - 1))+(1:Int)))) m3).getD (0:Int))))].length)<|kn v1 x1000002 m3 (w64 ((w64 ((v1.size:Int) - 1))+(1:Int))) (w64 ((v1.size:Int) - 1)) (x11++[(IntKind.u32.wrap (((eQ (a:= .str) (b:=(.int .i64)) (cF v1 v9 (w64 ((w64 ((v1.size:Int) - 1))+(1:Int)))) m3).getD (0:Int))))])) else (cG (x1000002.length+[(cF v1 v9 (w64 ((w64 ((v1.size:Int) - 1))+(1:Int))))].length)<|cG (x11.length+[(IntKind.u32.wrap ((w64 (((x1000002++[(cF v1 v9 (w64 ((w64 ((v1.size:Int) - 1))+(1:Int))))]).length:Int) - (1:Int)))))].length)<|kn v1 (x1000002++[(cF v1 v9 (w64 ((w64 ((v1.size:Int) - 1))+(1:Int))))]) (mH (a:= .str) (b:=(.int .i64)) (cF v1 v9 (w64 ((w64 ((v1.size:Int) - 1))+(1:Int)))) (w64 (((x1000002++[(cF v1 v9 (w64 ((w64 ((v1.size:Int) - 1))+(1:Int))))]).length:Int) - (1:Int))) m3) (w64 ((w64 ((v1.size:Int) - 1))+(1:Int))) (w64 ((v1.size:Int) - 1)) (x11++[(IntKind.u32.wrap ((w64 (((x1000002++[(cF v1 v9 (w64 ((w64 ((v1.size:Int) - 1))+(1:Int))))]).length:Int) - (1:Int)))))]))) else (bnd v9 (w64 (r1.1+1)) (v1.size:Int)<|bif (eQ (a:= .str) (b:=(.int .i64)) (cF v1 v9 (w64 (r1.1+1))) m3).isSome then (cG (x11.length+[(IntKind.u32.wrap (((eQ (a:= .str) (b:=(.int .i64)) (cF v1 v9 (w64 (r1.1+1))) m3).getD (0:Int))))].length)<|kn v1 x1000002 m3 (w64 (r1.1+1)) r1.1 (x11++[(IntKind.u32.wrap (((eQ (a:= .str) (b:=(.int .i64)) (cF v1 v9 (w64 (r1.1+1))) m3).getD (0:Int))))])) else (cG (x1000002.length+[(cF v1 v9 (w64 (r1.1+1)))].length)<|cG (x11.length+[(IntKind.u32.wrap ((w64 (((x1000002++[(cF v1 v9 (w64 (r1.1+1)))]).length:Int) - (1:Int)))))].length)<|kn v1 (x1000002++[(cF v1 v9 (w64 (r1.1+1)))]) (mH (a:= .str) (b:=(.int .i64)) (cF v1 v9 (w64 (r1.1+1))) (w64 (((x1000002++[(cF v1 v9 (w64 (r1.1+1)))]).length:Int) - (1:Int))) m3) (w64 (r1.1+1)) r1.1 (x11++[(IntKind.u32.wrap ((w64 (((x1000002++[(cF v1 v9 (w64 (r1.1+1)))]).length:Int) - (1:Int)))))])))) else (kx0 x1000002 m3 x11)
def ZM (n:Nat) (s:FState) (cx:Cx β):Option β:=FXs (FJ n) n QY (some zI) none [(0,yN)] [[1,1,1,1,0,0,0,0,0],[1,1,1,1,0,0,0,0,1],[1,1,1,1,0,0,0,1]] s cx
theorem bL9 (n:Nat) (cx:Cx β) (v1:ByteArray) (x1000002:List ByteArray) (m3:List Z27) (v9 v10:Int) (x11:List Int):ZM n (wB v1 x1000002 m3 v9 v10 x11) cx=aU7 n (fun v1 x1000002 m3 v9 v10 x11=>cx.nrm (wB v1 x1000002 m3 v9 v10 x11)) (fun x1000002 m3 x11=>cx.ex 0 (DZ x1000002 m3 x11)) v1 x1000002 m3 v9 v10 x11:=by kernel_rfl
def g75_3L (n:Nat) (kx0:List ByteArray→List Z27→List Int→Option β):Nat→ByteArray→List ByteArray→List Z27→Int→Int→List Int→Option β
  | 0,_,_,_,_,_,_=>none
  | m+1,v1,x1000002,m3,v9,v10,x11=>aU7 n (g75_3L n kx0 m) kx0 v1 x1000002 m3 v9 v10 x11
def bF0 (n:Nat) (kx0:List ByteArray→List Z27→List Int→Option β) (v1:ByteArray) (x1000002:List ByteArray) (m3:List Z27) (v9 v10:Int) (x11:List Int):Option β:=g75_3L n kx0 n v1 x1000002 m3 v9 v10 x11
def aP7 (n:Nat) (s:FState) (cx:Cx β):Option β:=bF (fun again s=>ZM n s {cx with nrm:=again}) n s
theorem V9 (n:Nat) (cx:Cx β):∀(m:Nat) (v1:ByteArray) (x1000002:List ByteArray) (m3:List Z27) (v9 v10:Int) (x11:List Int),bF (fun again s=>ZM n s {cx with nrm:=again}) m (wB v1 x1000002 m3 v9 v10 x11)=g75_3L n (fun x1000002 m3 x11=>cx.ex 0 (DZ x1000002 m3 x11)) m v1 x1000002 m3 v9 v10 x11:=by
  intro m
  induction m with
  | zero=>intros;rfl
  | succ m ih=>intros;simp only [bF,g75_3L,bL9,ih]
theorem aH1 (n:Nat) (cx:Cx β) (v1:ByteArray) (x1000002:List ByteArray) (m3:List Z27) (v9 v10:Int) (x11:List Int):aP7 n (wB v1 x1000002 m3 v9 v10 x11) cx=bF0 n (fun x1000002 m3 x11=>cx.ex 0 (DZ x1000002 m3 x11)) v1 x1000002 m3 v9 v10 x11:=V9 n cx n v1 x1000002 m3 v9 v10 x11
def bK4 (n:Nat) (kn:List ByteArray→List Z27→List Int→Option β) (v1:ByteArray) (x1000002:List ByteArray) (m3:List Z27) (v9 v10:Int) (x11:List Int):Option β:=bF0 n kn v1 x1000002 m3 v9 v10 x11
def n5 (n:Nat) (s:FState) (cx:Cx β):Option β:=aP7 n s {cx with ex:=fun j s=>bif Nat.beq j 0 then cx.nrm s else cx.ex j s}
theorem s8 (n:Nat) (cx:Cx β) (v1:ByteArray) (x1000002:List ByteArray) (m3:List Z27) (v9 v10:Int) (x11:List Int):n5 n (wB v1 x1000002 m3 v9 v10 x11) cx=bK4 n (fun x1000002 m3 x11=>cx.nrm (DZ x1000002 m3 x11)) v1 x1000002 m3 v9 v10 x11:=aH1 n _ v1 x1000002 m3 v9 v10 x11
def aB2 (n:Nat) (kr:List ByteArray→List Z27→List Int→Option β) (x1000002:List ByteArray) (m3:List Z27) (x11:List Int):Option β:=kr x1000002 m3 x11
def bN2 (n:Nat) (s:FState) (cx:Cx β):Option β:=FXs (FJ n) n QY none (some MX) [] [[1,1,1,1,1,0],[1,1,1,1,1,1]] s cx
theorem bA8 (n:Nat) (cx:Cx β) (x1000002:List ByteArray) (m3:List Z27) (x11:List Int):bN2 n (DZ x1000002 m3 x11) cx=aB2 n (fun x1000002 m3 x8=>cx.ret (k7 x1000002 m3 x8)) x1000002 m3 x11:=by kernel_rfl
def N6 (n:Nat) (kr:List ByteArray→List Z27→List Int→Option β) (p0:Z10) (v1:ByteArray) (x1000002:List ByteArray) (m3:List Z27):Option β:=bE6 n (fun v1 x1000002 m3 v9 v10 x11=>bK4 n (fun x1000002 m3 x11=>aB2 n kr x1000002 m3 x11) v1 x1000002 m3 v9 v10 x11) p0 v1 x1000002 m3
def HL (n:Nat) (s:FState) (cx:Cx β):Option β:=m6 n s {cx with nrm:=fun s=>n5 n s {cx with nrm:=fun s=>bN2 n s cx}}
theorem bO6 (n:Nat) (cx:Cx β) (p0:Z10) (v1:ByteArray) (x1000002:List ByteArray) (m3:List Z27):HL n (BI p0 v1 x1000002 m3) cx=N6 n (fun x1000002 m3 x8=>cx.ret (k7 x1000002 m3 x8)) p0 v1 x1000002 m3:=by simp only [HL,N6,aI2,s8,bA8]
def g75 (n:Nat) (p0:Z10) (v1:ByteArray) (x1000002:List ByteArray) (m3:List Z27):Option (DenR [.rw (.int .u32) 105]×DenR (aU [.pro Z1 74, .dat .str, .cel (.sl 9 .str) 40, .mp .str (.int .i64)])):=N6 n (fun x1000002 m3 x8=>some ((x8,()),(x1000002,(m3,())))) p0 v1 x1000002 m3
def qB:List AK:=[.pro Z1 74, .dat .str, .cel (.sl 9 .str) 40, .mp .str (.int .i64)]
def aC8:List RK:=[.rw (.int .u32) 105]
def dC1 (n:Nat) (d:DenA qB):Option (DenR aC8×DenR (aU qB)):=g75 n d.1 d.2.1 d.2.2.1 d.2.2.2.1
def cN0 (n:Nat):Spec:=kY qB aC8 (dC1 n)
def cH6:Sk:=(.nd (.fin none none none [] .leaf) (.nd (.fin none none none [] .leaf) (.nd (.fin none none none [] .leaf) (.nd (.fin none (some zI) none [] .leaf) (.nd (.nd (.nd (.nd (.nd (.fin none none none [(0,yN)] .leaf) (.fin none none none [(0,yN)] .leaf)) (.fin none (some zI) none [(0,yN)] .leaf)) .leaf) .leaf) (.nd (.fin none none (some MX) [] .leaf) (.fin none none (some MX) [] .leaf)))))))
theorem bY1 (n:Nat) (s:FState) (cx:Cx β):FX (FJ n) n QY cH6 s cx=HL n s cx:=by kernel_rfl
theorem bX3 (n:Nat) (d:DenA qB) (β:Type) (κ:FState→Option β):cV 0 0 (aU qB) (eR qB 0) (toB qB d) (jJ qB d) (fun s=>oO (FJ n) P9 (nJ qB 0 s) κ)=κ (BI d.1 d.2.1 d.2.2.1 d.2.2.2.1):=by kernel_rfl
theorem bY9 (n:Nat):Fit Tryd.prog 75 (cN0 n):=
  JB (Γ:=Γ0) (l:=cP0 n) (n:=n) (sk:=cH6) (nf:=P9) (m:=fun d=>BI d.1 d.2.1 d.2.2.1 d.2.2.2.1) (ts:=[(8,none)]) (fn:=Tryd.f75) (c:=QY) (by kernel_rfl) (by kernel_rfl) (by unfold aJ;kernel_rfl) bT ⟨bZ9 n,trivial⟩ aE (by kernel_rfl) (by kernel_rfl) (Nat.le_of_ble_eq_true (by kernel_rfl)) (Nat.le_of_ble_eq_true (by kernel_rfl)) (by kernel_rfl) (by kernel_rfl) (bX3 n)
    (fun d=>(bY1 n _ _).trans (Eq.trans (b:=HL n (BI d.1 d.2.1 d.2.2.1 d.2.2.2.1) (nN (FJ n) qB aC8 [(8,none)])) (by kernel_rfl) ((bO6 n _ d.1 d.2.1 d.2.2.1 d.2.2.2.1).trans (by kernel_rfl))))
def I2 (v0 v1 v2:Int):FState:=⟨aD [(0, .dat (.int .u32) v0),(1, .dat (.int .u8) v1),(2, .dat (.int .u8) v2)],aC []⟩
def bU4 (v6:Int):FState:=⟨aD [(6, .dat (.int .u8) v6)],aC []⟩
def sH:List NE:=[.keep 6]
def aN4 (n:Nat):List (Nat×Spec):=[]
def VN (n:Nat):Ctx:={Γ0 with calls:=lkS (aN4 n)}
def ZL:Code:=fb Tryd.f116
def SV (n:Nat) (kr:Int→Option β) (v0 v1 v2:Int):Option β:=bU7 v2<|bU7 v1<|kr (IntKind.u8.wrap ((dD .u32 (dS .u32 v0 v2) (IntKind.u32.wrap ((mT .u32 (1:Int) v1) - (1:Int))))))
def JP (n:Nat) (s:FState) (cx:Cx β):Option β:=FXs (VN n) n ZL none (some sH) [] [[0],[1,0],[1,1]] s cx
theorem c8 (n:Nat) (cx:Cx β) (v0 v1 v2:Int):JP n (I2 v0 v1 v2) cx=SV n (fun v6=>cx.ret (bU4 v6)) v0 v1 v2:=by kernel_rfl
def rP (n:Nat) (v0 v1 v2:Int):Option (DenR [.dat (.int .u8)]):=SV n (fun v6=>some (v6,())) v0 v1 v2
def aG4:List AK:=[.dat (.int .u32), .dat (.int .u8), .dat (.int .u8)]
def YC:List RK:=[.dat (.int .u8)]
def cT3 (n:Nat) (d:DenA aG4):Option (DenR YC):=rP n d.1 d.2.1 d.2.2.1
def bA3 (n:Nat):Spec:=aK aG4 YC (cT3 n)
def bI4:Sk:=(.nd (.fin none none (some sH) [] .leaf) (.nd (.fin none none (some sH) [] .leaf) (.fin none none (some sH) [] .leaf)))
theorem y7 (n:Nat) (s:FState) (cx:Cx β):FX (VN n) n ZL bI4 s cx=JP n s cx:=by kernel_rfl
theorem bG5 (n:Nat):Fit Tryd.prog 116 (bA3 n):=
  bY (Γ:=Γ0) (l:=aN4 n) (n:=n) (sk:=bI4) (ts:=[(6,none)]) (fn:=Tryd.f116) (c:=ZL) (by kernel_rfl) (by kernel_rfl) (by unfold aJ;kernel_rfl) bT trivial aE (by kernel_rfl) (by kernel_rfl) (Nat.le_of_ble_eq_true (by kernel_rfl)) (Nat.le_of_ble_eq_true (by kernel_rfl)) (by kernel_rfl) (by kernel_rfl)
    (fun d=>(y7 n _ _).trans (Eq.trans (b:=JP n (I2 d.1 d.2.1 d.2.2.1) (cD (VN n) YC [(6,none)])) (by kernel_rfl) ((c8 n _ d.1 d.2.1 d.2.2.1).trans (by kernel_rfl))))
def bP8:List AK:=[.ro (.int .u8) 5]
def bP6:List RK:=[.dat (.int .i32), .dat (.int .i64)]
def xR (n:Nat) (v0:List Int):Option (DenR [.dat (.int .i32), .dat (.int .i64)]):=if v0≠[]∧∀x∈v0,0≤x∧x < 256 then some (((Lib.decodeGo (strOfNums v0)).1:Int),(((Lib.decodeGo (strOfNums v0)).2:Int),())) else none
def cW6 (n:Nat) (d:DenA bP8):Option (DenR bP6):=xR n d.1
def aH0 (n:Nat):Spec:=aK bP8 bP6 (cW6 n)
theorem bK5 (n:Nat):Fit Tryd.prog 115 (aH0 n):=QX (by unfold aJ;kernel_rfl) rfl fun d x w A vs hG ha hx=>by
  obtain ⟨v,vs',o1,o2,rfl,_,⟨_,ad,cap,rfl,hle,hne⟩,h3,_⟩:=ha
  obtain ⟨xs,u⟩:=d
  subst h3
  obtain ⟨hc,hx⟩:=aV hx
  cases hx
  obtain ⟨b,off,rfl,hb,hrow⟩:=hne hc.1
  have key:=Tryd.utf8_DecodeRune (strOfNums xs) b off cap w (cA4 hG) (XW hc.2 hrow)
  rw [eY] at key
  exact key.mono fun e w' ⟨he,hb⟩=>⟨[.int .i32 (Lib.decodeGo (strOfNums xs)).1, .int .i64 (Lib.decodeGo (strOfNums xs)).2],he,⟨_,_,[],[],rfl,rfl,⟨rfl,_,rfl,rfl⟩,⟨_,_,[],[],rfl,rfl,⟨rfl,_,rfl,rfl⟩,rfl,rfl⟩⟩,hb⟩
def aB8 (v0:Int):FState:=⟨aD [(0, .dat (.int .u32) v0)],aC []⟩
def cT6 (v2:Int):FState:=⟨aD [(2, .dat (.int .i32) v2)],aC []⟩
def iH:List NE:=[.keep 2]
def cR4 (n:Nat):List (Nat×Spec):=[(115,aH0 n),(116,bA3 n)]
def bH2 (n:Nat):Ctx:={Γ0 with calls:=lkS (cR4 n)}
def bG9:Code:=fb Tryd.f96
def aK2 (n:Nat) (kr:Int→Option β) (v0:Int):Option β:=bif (decide (v0 < (128:Int))) then (kr (IntKind.i32.wrap (v0))) else (bif (decide (v0 < (2048:Int))) then ((rP n v0 (5:Int) (6:Int)).bind fun r1=>(rP n v0 (6:Int) (0:Int)).bind fun r2=>(xR n [(orI .u8 (192:Int) r1.1),(orI .u8 (128:Int) r2.1)]).bind fun r3=>bif (r3.2.1 !=(2:Int)) then none else (bif (r3.1==(65533:Int)) then none else (kr r3.1))) else (bif (decide (v0 < (63485:Int))) then (bif (decide (v0≥(55296:Int))) then ((rP n (IntKind.u32.wrap (v0+(2048:Int))) (4:Int) (12:Int)).bind fun r4=>(rP n (IntKind.u32.wrap (v0+(2048:Int))) (6:Int) (6:Int)).bind fun r5=>(rP n (IntKind.u32.wrap (v0+(2048:Int))) (6:Int) (0:Int)).bind fun r6=>(xR n [(orI .u8 (224:Int) r4.1),(orI .u8 (128:Int) r5.1),(orI .u8 (128:Int) r6.1)]).bind fun r7=>bif (r7.2.1 !=(3:Int)) then none else (bif (r7.1==(65533:Int)) then none else (kr r7.1))) else ((rP n v0 (4:Int) (12:Int)).bind fun r8=>(rP n v0 (6:Int) (6:Int)).bind fun r9=>(rP n v0 (6:Int) (0:Int)).bind fun r10=>(xR n [(orI .u8 (224:Int) r8.1),(orI .u8 (128:Int) r9.1),(orI .u8 (128:Int) r10.1)]).bind fun r11=>bif (r11.2.1 !=(3:Int)) then none else (bif (r11.1==(65533:Int)) then none else (kr r11.1)))) else (bif (decide (v0 < (2095101:Int))) then ((rP n (IntKind.u32.wrap (v0+(2051:Int))) (3:Int) (18:Int)).bind fun r12=>(rP n (IntKind.u32.wrap (v0+(2051:Int))) (6:Int) (12:Int)).bind fun r13=>(rP n (IntKind.u32.wrap (v0+(2051:Int))) (6:Int) (6:Int)).bind fun r14=>(rP n (IntKind.u32.wrap (v0+(2051:Int))) (6:Int) (0:Int)).bind fun r15=>(xR n [(orI .u8 (240:Int) r12.1),(orI .u8 (128:Int) r13.1),(orI .u8 (128:Int) r14.1),(orI .u8 (128:Int) r15.1)]).bind fun r16=>bif (r16.2.1 !=(4:Int)) then none else (bif (r16.1==(65533:Int)) then none else (kr r16.1))) else none)))
def XY (n:Nat) (s:FState) (cx:Cx β):Option β:=FXs (bH2 n) n bG9 none (some iH) [] [[0],[1,0,0],[1,0,1],[1,1,0,0],[1,1,0,1],[1,1,1,0,0],[1,1,1,0,1],[1,1,1,1,0,0],[1,1,1,1,0,1],[1,1,1,1,1]] s cx
theorem aB5 (n:Nat) (cx:Cx β) (v0:Int):XY n (aB8 v0) cx=aK2 n (fun v2=>cx.ret (cT6 v2)) v0:=by kernel_rfl
def g96 (n:Nat) (v0:Int):Option (DenR [.dat (.int .i32)]):=aK2 n (fun v2=>some (v2,())) v0
def cB6:List AK:=[.dat (.int .u32)]
def o8:List RK:=[.dat (.int .i32)]
def dD7 (n:Nat) (d:DenA cB6):Option (DenR o8):=g96 n d.1
def cO9 (n:Nat):Spec:=aK cB6 o8 (dD7 n)
def cD3:Sk:=(.nd (.fin none none (some iH) [] .leaf) (.nd (.nd (.fin none none (some iH) [] .leaf) (.fin none none (some iH) [] .leaf)) (.nd (.nd (.fin none none (some iH) [] .leaf) (.fin none none (some iH) [] .leaf)) (.nd (.nd (.fin none none (some iH) [] .leaf) (.fin none none (some iH) [] .leaf)) (.nd (.nd (.fin none none (some iH) [] .leaf) (.fin none none (some iH) [] .leaf)) (.fin none none (some iH) [] .leaf))))))
theorem bS7 (n:Nat) (s:FState) (cx:Cx β):FX (bH2 n) n bG9 cD3 s cx=XY n s cx:=by kernel_rfl
theorem bY3 (n:Nat):Fit Tryd.prog 96 (cO9 n):=
  bY (Γ:=Γ0) (l:=cR4 n) (n:=n) (sk:=cD3) (ts:=[(2,none)]) (fn:=Tryd.f96) (c:=bG9) (by kernel_rfl) (by kernel_rfl) (by unfold aJ;kernel_rfl) bT ⟨bK5 n,bG5 n,trivial⟩ aE (by kernel_rfl) (by kernel_rfl) (Nat.le_of_ble_eq_true (by kernel_rfl)) (Nat.le_of_ble_eq_true (by kernel_rfl)) (by kernel_rfl) (by kernel_rfl)
    (fun d=>(bS7 n _ _).trans (Eq.trans (b:=XY n (aB8 d.1) (cD (bH2 n) o8 [(2,none)])) (by kernel_rfl) ((aB5 n _ d.1).trans (by kernel_rfl))))
def TK (x0:List Int):FState:=⟨aD [(0, .sl 0 none false)],aC [(0, .row (.int .u32) 105 false x0)]⟩
def WW (v2:ByteArray):FState:=⟨aD [(2, .dat .str v2)],aC []⟩
def jM:List NE:=[.keep 2]
def vJ (x3 x10:List Int) (v11 v12:Int):FState:=⟨aD [(3, .sl 3 none false),(10, .sl 10 none false),(11, .dat (.int .i64) v11),(12, .dat (.int .i64) v12)],aC [(3, .row (.int .i32) 21 true x3),(10, .row (.int .u32) 105 false x10)]⟩
def zR:List NE:=[.row 3 (.int .i32) 21 true, .row 10 (.int .u32) 105 false, .keep 11, .keep 12]
def CK (x3:List Int):FState:=⟨aD [(3, .sl 3 none false)],aC [(3, .row (.int .i32) 21 true x3)]⟩
def tN:List NE:=[.row 3 (.int .i32) 21 true]
def cC5 (n:Nat):List (Nat×Spec):=[(96,cO9 n)]
def PB (n:Nat):Ctx:={Γ0 with calls:=lkS (cC5 n)}
def OQ:Code:=fb Tryd.f76
def bB3 (n:Nat) (kn:List Int→List Int→Int→Int→Option β) (kr:ByteArray→Option β) (x0:List Int):Option β:=bif ((x0.length:Int)==(0:Int)) then (kr (⟨#[]⟩:ByteArray)) else (kn ([]:List Int) x0 (x0.length:Int) (0:Int))
def bP3 (n:Nat) (s:FState) (cx:Cx β):Option β:=FXs (PB n) n OQ (some zR) (some jM) [] [[0],[1,0,0],[1,0,1],[1,1,0],[1,1,1,0,0]] s cx
theorem j7 (n:Nat) (cx:Cx β) (x0:List Int):bP3 n (TK x0) cx=bB3 n (fun x3 x10 v11 v12=>cx.nrm (vJ x3 x10 v11 v12)) (fun v2=>cx.ret (WW v2)) x0:=by kernel_rfl
def I4 (n:Nat) (kn:List Int→List Int→Int→Int→Option β) (kx0:List Int→Option β) (x3 x10:List Int) (v11 v12:Int):Option β:=bif (decide (v12 < v11)) then (idx v12 (x10.length:Int)<|(g96 n (rd x10 v12 (0:Int))).bind fun r1=>cG (x3.length+[r1.1].length)<|kn (x3++[r1.1]) x10 v11 (w64 (v12+1))) else (kx0 x3)
def WV (n:Nat) (s:FState) (cx:Cx β):Option β:=FXs (PB n) n OQ (some zR) none [(0,tN)] [[1,1,1,0,1,0,0,0],[1,1,1,0,1,0,0,1,0],[1,1,1,0,1,0,0,1,1,0],[1,1,1,0,1,0,0,1,1,1]] s cx
theorem bF7 (n:Nat) (cx:Cx β) (x3 x10:List Int) (v11 v12:Int):WV n (vJ x3 x10 v11 v12) cx=I4 n (fun x3 x10 v11 v12=>cx.nrm (vJ x3 x10 v11 v12)) (fun x3=>cx.ex 0 (CK x3)) x3 x10 v11 v12:=by kernel_rfl
def g76_3L (n:Nat) (kx0:List Int→Option β):Nat→List Int→List Int→Int→Int→Option β
  | 0,_,_,_,_=>none
  | m+1,x3,x10,v11,v12=>I4 n (g76_3L n kx0 m) kx0 x3 x10 v11 v12
def aQ4 (n:Nat) (kx0:List Int→Option β) (x3 x10:List Int) (v11 v12:Int):Option β:=g76_3L n kx0 n x3 x10 v11 v12
def bI6 (n:Nat) (s:FState) (cx:Cx β):Option β:=bF (fun again s=>WV n s {cx with nrm:=again}) n s
theorem d9 (n:Nat) (cx:Cx β):∀(m:Nat) (x3 x10:List Int) (v11 v12:Int),bF (fun again s=>WV n s {cx with nrm:=again}) m (vJ x3 x10 v11 v12)=g76_3L n (fun x3=>cx.ex 0 (CK x3)) m x3 x10 v11 v12:=by
  intro m
  induction m with
  | zero=>intros;rfl
  | succ m ih=>intros;simp only [bF,g76_3L,bF7,ih]
theorem aM6 (n:Nat) (cx:Cx β) (x3 x10:List Int) (v11 v12:Int):bI6 n (vJ x3 x10 v11 v12) cx=aQ4 n (fun x3=>cx.ex 0 (CK x3)) x3 x10 v11 v12:=d9 n cx n x3 x10 v11 v12
def bG3 (n:Nat) (kn:List Int→Option β) (x3 x10:List Int) (v11 v12:Int):Option β:=aQ4 n kn x3 x10 v11 v12
def aS4 (n:Nat) (s:FState) (cx:Cx β):Option β:=bI6 n s {cx with ex:=fun j s=>bif Nat.beq j 0 then cx.nrm s else cx.ex j s}
theorem s9 (n:Nat) (cx:Cx β) (x3 x10:List Int) (v11 v12:Int):aS4 n (vJ x3 x10 v11 v12) cx=bG3 n (fun x3=>cx.nrm (CK x3)) x3 x10 v11 v12:=aM6 n _ x3 x10 v11 v12
def j9 (n:Nat) (kr:ByteArray→Option β) (x3:List Int):Option β:=kr (runesBytes x3)
def bF5 (n:Nat) (s:FState) (cx:Cx β):Option β:=FXs (PB n) n OQ none (some jM) [] [[1,1,1,1,0],[1,1,1,1,1]] s cx
theorem aK8 (n:Nat) (cx:Cx β) (x3:List Int):bF5 n (CK x3) cx=j9 n (fun v2=>cx.ret (WW v2)) x3:=by kernel_rfl
def C7 (n:Nat) (kr:ByteArray→Option β) (x0:List Int):Option β:=bB3 n (fun x3 x10 v11 v12=>bG3 n (fun x3=>j9 n kr x3) x3 x10 v11 v12) kr x0
def IP (n:Nat) (s:FState) (cx:Cx β):Option β:=bP3 n s {cx with nrm:=fun s=>aS4 n s {cx with nrm:=fun s=>bF5 n s cx}}
theorem u0 (n:Nat) (cx:Cx β) (x0:List Int):IP n (TK x0) cx=C7 n (fun v2=>cx.ret (WW v2)) x0:=by simp only [IP,C7,j7,s9,aK8]
def g76 (n:Nat) (x0:List Int):Option (DenR [.dat .str]):=C7 n (fun v2=>some (v2,())) x0
def cP3:List AK:=[.ro (.int .u32) 105]
def aN5:List RK:=[.dat .str]
def cZ7 (n:Nat) (d:DenA cP3):Option (DenR aN5):=g76 n d.1
def cP2 (n:Nat):Spec:=aK cP3 aN5 (cZ7 n)
def cR6:Sk:=(.nd (.fin none none (some jM) [] .leaf) (.nd (.nd (.fin none none (some jM) [] .leaf) (.fin none none (some jM) [] .leaf)) (.nd (.fin none none (some jM) [] .leaf) (.nd (.nd (.fin none (some zR) (some jM) [] .leaf) (.nd (.nd (.nd (.fin none none none [(0,tN)] .leaf) (.nd (.fin none none none [(0,tN)] .leaf) (.nd (.fin none none none [(0,tN)] .leaf) (.fin none (some zR) none [(0,tN)] .leaf)))) .leaf) .leaf)) (.nd (.fin none none (some jM) [] .leaf) (.fin none none (some jM) [] .leaf))))))
theorem bR1 (n:Nat) (s:FState) (cx:Cx β):FX (PB n) n OQ cR6 s cx=IP n s cx:=by kernel_rfl
theorem bR3 (n:Nat):Fit Tryd.prog 76 (cP2 n):=
  bY (Γ:=Γ0) (l:=cC5 n) (n:=n) (sk:=cR6) (ts:=[(2,none)]) (fn:=Tryd.f76) (c:=OQ) (by kernel_rfl) (by kernel_rfl) (by unfold aJ;kernel_rfl) bT ⟨bY3 n,trivial⟩ aE (by kernel_rfl) (by kernel_rfl) (Nat.le_of_ble_eq_true (by kernel_rfl)) (Nat.le_of_ble_eq_true (by kernel_rfl)) (by kernel_rfl) (by kernel_rfl)
    (fun d=>(bR1 n _ _).trans (Eq.trans (b:=IP n (TK d.1) (cD (PB n) aN5 [(2,none)])) (by kernel_rfl) ((u0 n _ d.1).trans (by kernel_rfl))))
def bM1 (p0:Z10) (v1 v2:ByteArray):FState:=⟨aD [(0, .ptr 0 0 0),(1, .dat .str v1),(2, .dat .str v2)],aC [(0, .row Z1 74 false [p0])]⟩
def cR9 (v6 v7:ByteArray) (x8:List ByteArray):FState:=⟨aD [(6, .dat .str v6),(7, .dat .str v7),(8, .sl 8 none false)],aC [(8, .row .str 9 true x8)]⟩
def kT:List NE:=[.keep 6, .keep 7, .row 8 .str 9 true]
def cJ1 (n:Nat):List (Nat×Spec):=[(75,cN0 n),(76,cP2 n)]
def bK3 (n:Nat):Ctx:={Γ0 with calls:=lkS (cJ1 n),cel:=[9]}
def aJ0:Code:=fb Tryd.f59
def bF1 (n:Nat) (kr:ByteArray→ByteArray→List ByteArray→Option β) (p0:Z10) (v1 v2:ByteArray):Option β:=(g75 n p0 v1 [(⟨#[]⟩:ByteArray)] ([]:List Z27)).bind fun r1=>(g75 n p0 v2 r1.2.1 r1.2.2.1).bind fun r2=>(g76 n r1.1.1).bind fun r3=>(g76 n r2.1.1).bind fun r4=>kr r3.1 r4.1 r2.2.1
def WL (n:Nat) (s:FState) (cx:Cx β):Option β:=FXs (bK3 n) n aJ0 none (some kT) [] [[0],[1,0],[1,1,0],[1,1,1,0],[1,1,1,1,0],[1,1,1,1,1,0],[1,1,1,1,1,1]] s cx
theorem aO7 (n:Nat) (cx:Cx β) (p0:Z10) (v1 v2:ByteArray):WL n (bM1 p0 v1 v2) cx=bF1 n (fun v6 v7 x8=>cx.ret (cR9 v6 v7 x8)) p0 v1 v2:=by kernel_rfl
def g59 (n:Nat) (p0:Z10) (v1 v2:ByteArray):Option (DenR [.dat .str, .dat .str, .rw .str 9]):=bF1 n (fun v6 v7 x8=>some (v6,(v7,(x8,())))) p0 v1 v2
def cJ6:List AK:=[.pro Z1 74, .dat .str, .dat .str]
def aD5:List RK:=[.dat .str, .dat .str, .rw .str 9]
def cX5 (n:Nat) (d:DenA cJ6):Option (DenR aD5):=g59 n d.1 d.2.1 d.2.2.1
def cC4 (n:Nat):Spec:=aK cJ6 aD5 (cX5 n)
def cH9:Sk:=(.nd (.fin none none (some kT) [] .leaf) (.nd (.fin none none (some kT) [] .leaf) (.nd (.fin none none (some kT) [] .leaf) (.nd (.fin none none (some kT) [] .leaf) (.nd (.fin none none (some kT) [] .leaf) (.nd (.fin none none (some kT) [] .leaf) (.fin none none (some kT) [] .leaf)))))))
theorem bW6 (n:Nat) (s:FState) (cx:Cx β):FX (bK3 n) n aJ0 cH9 s cx=WL n s cx:=by kernel_rfl
theorem bX7 (n:Nat):Fit Tryd.prog 59 (cC4 n):=
  bY (Γ:={Γ0 with cel:=[9]}) (l:=cJ1 n) (n:=n) (sk:=cH9) (ts:=[(6,none),(7,none),(8,none)]) (fn:=Tryd.f59) (c:=aJ0) (by kernel_rfl) (by kernel_rfl) (by unfold aJ;kernel_rfl) (cU2 bT [9]) ⟨bY9 n,bR3 n,trivial⟩ aE (by kernel_rfl) (by kernel_rfl) (Nat.le_of_ble_eq_true (by kernel_rfl)) (Nat.le_of_ble_eq_true (by kernel_rfl)) (by kernel_rfl) (by kernel_rfl)
    (fun d=>(bW6 n _ _).trans (Eq.trans (b:=WL n (bM1 d.1 d.2.1 d.2.2.1) (cD (bK3 n) aD5 [(6,none),(7,none),(8,none)])) (by kernel_rfl) ((aO7 n _ d.1 d.2.1 d.2.2.1).trans (by kernel_rfl))))
def aM3 (p0:Z10) (v1 v2:ByteArray):FState:=⟨aD [(0, .ptr 0 0 0),(1, .dat .str v1),(2, .dat .str v2)],aC [(0, .row Z1 74 false [p0])]⟩
def cU5 (x6 x7:List Int) (x8:List ByteArray):FState:=⟨aD [(6, .sl 6 none false),(7, .sl 7 none false),(8, .sl 8 none false)],aC [(6, .row (.int .i32) 21 true x6),(7, .row (.int .i32) 21 true x7),(8, .row .str 9 true x8)]⟩
def tK:List NE:=[.row 6 (.int .i32) 21 true, .row 7 (.int .i32) 21 true, .row 8 .str 9 true]
def cE1 (n:Nat):List (Nat×Spec):=[(59,cC4 n)]
def aM5 (n:Nat):Ctx:={Γ0 with calls:=lkS (cE1 n)}
def bP4:Code:=fb Tryd.f43
def aA6 (n:Nat) (kr:List Int→List Int→List ByteArray→Option β) (p0:Z10) (v1 v2:ByteArray):Option β:=(g59 n p0 v1 v2).bind fun r1=>oN r1.1<|oN r1.2.1<|kr (bE r1.1) (bE r1.2.1) r1.2.2.1
def ZF (n:Nat) (s:FState) (cx:Cx β):Option β:=FXs (aM5 n) n bP4 none (some tK) [] [[0],[1,0],[1,1,0],[1,1,1]] s cx
theorem q7 (n:Nat) (cx:Cx β) (p0:Z10) (v1 v2:ByteArray):ZF n (aM3 p0 v1 v2) cx=aA6 n (fun x6 x7 x8=>cx.ret (cU5 x6 x7 x8)) p0 v1 v2:=by kernel_rfl
def g43 (n:Nat) (p0:Z10) (v1 v2:ByteArray):Option (DenR [.rw (.int .i32) 21, .rw (.int .i32) 21, .rw .str 9]):=aA6 n (fun x6 x7 x8=>some (x6,(x7,(x8,())))) p0 v1 v2
def cK9:List AK:=[.pro Z1 74, .dat .str, .dat .str]
def bM4:List RK:=[.rw (.int .i32) 21, .rw (.int .i32) 21, .rw .str 9]
def dC3 (n:Nat) (d:DenA cK9):Option (DenR bM4):=g43 n d.1 d.2.1 d.2.2.1
def cQ7 (n:Nat):Spec:=aK cK9 bM4 (dC3 n)
def cQ8:Sk:=(.nd (.fin none none (some tK) [] .leaf) (.nd (.fin none none (some tK) [] .leaf) (.nd (.fin none none (some tK) [] .leaf) (.fin none none (some tK) [] .leaf))))
theorem bV8 (n:Nat) (s:FState) (cx:Cx β):FX (aM5 n) n bP4 cQ8 s cx=ZF n s cx:=by kernel_rfl
theorem bU2 (n:Nat):Fit Tryd.prog 43 (cQ7 n):=
  bY (Γ:=Γ0) (l:=cE1 n) (n:=n) (sk:=cQ8) (ts:=[(6,none),(7,none),(8,none)]) (fn:=Tryd.f43) (c:=bP4) (by kernel_rfl) (by kernel_rfl) (by unfold aJ;kernel_rfl) bT ⟨bX7 n,trivial⟩ aE (by kernel_rfl) (by kernel_rfl) (Nat.le_of_ble_eq_true (by kernel_rfl)) (Nat.le_of_ble_eq_true (by kernel_rfl)) (by kernel_rfl) (by kernel_rfl)
    (fun d=>(bV8 n _ _).trans (Eq.trans (b:=ZF n (aM3 d.1 d.2.1 d.2.2.1) (cD (aM5 n) bM4 [(6,none),(7,none),(8,none)])) (by kernel_rfl) ((q7 n _ d.1 d.2.1 d.2.2.1).trans (by kernel_rfl))))
def aO4 (v0 v1:ByteArray):FState:=⟨aD [(0, .dat .str v0),(1, .dat .str v1)],aC []⟩
def cU3 (x4 x5:List Int) (x6:List ByteArray):FState:=⟨aD [(4, .sl 4 none false),(5, .sl 5 none false),(6, .sl 6 none false)],aC [(4, .row (.int .i32) 21 true x4),(5, .row (.int .i32) 21 true x5),(6, .row .str 9 true x6)]⟩
def yQ:List NE:=[.row 4 (.int .i32) 21 true, .row 5 (.int .i32) 21 true, .row 6 .str 9 true]
def cP7 (n:Nat):List (Nat×Spec):=[(42,y5 n),(43,cQ7 n)]
def aV0 (n:Nat):Ctx:={Γ0 with calls:=lkS (cP7 n)}
def bB5:Code:=fb Tryd.f28
def bC7 (n:Nat) (kr:List Int→List Int→List ByteArray→Option β) (v0 v1:ByteArray):Option β:=(g42 n).bind fun r1=>(g43 n r1.1 v0 v1).bind fun r2=>kr r2.1 r2.2.1 r2.2.2.1
def VP (n:Nat) (s:FState) (cx:Cx β):Option β:=FXs (aV0 n) n bB5 none (some yQ) [] [[0],[1,0],[1,1]] s cx
theorem bK2 (n:Nat) (cx:Cx β) (v0 v1:ByteArray):VP n (aO4 v0 v1) cx=bC7 n (fun x4 x5 x6=>cx.ret (cU3 x4 x5 x6)) v0 v1:=by kernel_rfl
def g28 (n:Nat) (v0 v1:ByteArray):Option (DenR [.rw (.int .i32) 21, .rw (.int .i32) 21, .rw .str 9]):=bC7 n (fun x4 x5 x6=>some (x4,(x5,(x6,())))) v0 v1
def cH7:List AK:=[.dat .str, .dat .str]
def aK3:List RK:=[.rw (.int .i32) 21, .rw (.int .i32) 21, .rw .str 9]
def cX6 (n:Nat) (d:DenA cH7):Option (DenR aK3):=g28 n d.1 d.2.1
def cO7 (n:Nat):Spec:=aK cH7 aK3 (cX6 n)
def cF9:Sk:=(.nd (.fin none none (some yQ) [] .leaf) (.nd (.fin none none (some yQ) [] .leaf) (.fin none none (some yQ) [] .leaf)))
theorem bT6 (n:Nat) (s:FState) (cx:Cx β):FX (aV0 n) n bB5 cF9 s cx=VP n s cx:=by kernel_rfl
theorem bV3 (n:Nat):Fit Tryd.prog 28 (cO7 n):=
  bY (Γ:=Γ0) (l:=cP7 n) (n:=n) (sk:=cF9) (ts:=[(4,none),(5,none),(6,none)]) (fn:=Tryd.f28) (c:=bB5) (by kernel_rfl) (by kernel_rfl) (by unfold aJ;kernel_rfl) bT ⟨L9 n,bU2 n,trivial⟩ aE (by kernel_rfl) (by kernel_rfl) (Nat.le_of_ble_eq_true (by kernel_rfl)) (Nat.le_of_ble_eq_true (by kernel_rfl)) (by kernel_rfl) (by kernel_rfl)
    (fun d=>(bT6 n _ _).trans (Eq.trans (b:=VP n (aO4 d.1 d.2.1) (cD (aV0 n) aK3 [(4,none),(5,none),(6,none)])) (by kernel_rfl) ((bK2 n _ d.1 d.2.1).trans (by kernel_rfl))))
def aD9 (v0 v1 v2 v3:Int):FState:=⟨aD [(0, .dat (.int .i64) v0),(1, .dat (.int .i64) v1),(2, .dat (.int .i64) v2),(3, .dat (.int .i64) v3)],aC []⟩
def cU7 (v8:Int):FState:=⟨aD [(8, .dat (.int .i64) v8)],aC []⟩
def pE:List NE:=[.keep 8]
def cC1 (n:Nat):List (Nat×Spec):=[]
def o6 (n:Nat):Ctx:={Γ0 with calls:=lkS (cC1 n)}
def aD8:Code:=fb Tryd.f65
def k5 (n:Nat) (kr:Int→Option β) (v0 v1 v2 v3:Int):Option β:=bif (decide (v0 < v1)) then (kr v3) else (bif (decide (v0>v2)) then (kr v3) else (kr v0))
def YE (n:Nat) (s:FState) (cx:Cx β):Option β:=FXs (o6 n) n aD8 none (some pE) [] [[0],[1,0,0],[1,0,1],[1,1,0],[1,1,1]] s cx
theorem aH4 (n:Nat) (cx:Cx β) (v0 v1 v2 v3:Int):YE n (aD9 v0 v1 v2 v3) cx=k5 n (fun v8=>cx.ret (cU7 v8)) v0 v1 v2 v3:=by kernel_rfl
def g65 (n:Nat) (v0 v1 v2 v3:Int):Option (DenR [.dat (.int .i64)]):=k5 n (fun v8=>some (v8,())) v0 v1 v2 v3
def cH3:List AK:=[.dat (.int .i64), .dat (.int .i64), .dat (.int .i64), .dat (.int .i64)]
def aE2:List RK:=[.dat (.int .i64)]
def dA8 (n:Nat) (d:DenA cH3):Option (DenR aE2):=g65 n d.1 d.2.1 d.2.2.1 d.2.2.2.1
def cR7 (n:Nat):Spec:=aK cH3 aE2 (dA8 n)
def cE2:Sk:=(.nd (.fin none none (some pE) [] .leaf) (.nd (.nd (.fin none none (some pE) [] .leaf) (.fin none none (some pE) [] .leaf)) (.nd (.fin none none (some pE) [] .leaf) (.fin none none (some pE) [] .leaf))))
theorem bZ6 (n:Nat) (s:FState) (cx:Cx β):FX (o6 n) n aD8 cE2 s cx=YE n s cx:=by kernel_rfl
theorem cA7 (n:Nat):Fit Tryd.prog 65 (cR7 n):=
  bY (Γ:=Γ0) (l:=cC1 n) (n:=n) (sk:=cE2) (ts:=[(8,none)]) (fn:=Tryd.f65) (c:=aD8) (by kernel_rfl) (by kernel_rfl) (by unfold aJ;kernel_rfl) bT trivial aE (by kernel_rfl) (by kernel_rfl) (Nat.le_of_ble_eq_true (by kernel_rfl)) (Nat.le_of_ble_eq_true (by kernel_rfl)) (by kernel_rfl) (by kernel_rfl)
    (fun d=>(bZ6 n _ _).trans (Eq.trans (b:=YE n (aD9 d.1 d.2.1 d.2.2.1 d.2.2.2.1) (cD (o6 n) aE2 [(8,none)])) (by kernel_rfl) ((aH4 n _ d.1 d.2.1 d.2.2.1 d.2.2.2.1).trans (by kernel_rfl))))
def aI0 (v0:Nat):FState:=⟨aD [(0, .dat (.flt .f64) v0)],aC []⟩
def cU0 (v2:Nat):FState:=⟨aD [(2, .dat (.flt .f64) v2)],aC []⟩
def pH:List NE:=[.keep 2]
def cF7 (n:Nat):List (Nat×Spec):=[]
def bL4 (n:Nat):Ctx:={Γ0 with calls:=lkS (cF7 n)}
def bI0:Code:=fb Tryd.f66
def bA0 (n:Nat) (kr:Nat→Option β) (v0:Nat):Option β:=bif ((fGt .f64 v0 (0:Nat))||(fEq .f64 v0 (0:Nat))) then (bif ((fLt .f64 v0 (4607182418800017408:Nat))||(fEq .f64 v0 (4607182418800017408:Nat))) then (kr v0) else (kr (4602678819172646912:Nat))) else (kr (4602678819172646912:Nat))
def UR (n:Nat) (s:FState) (cx:Cx β):Option β:=FXs (bL4 n) n bI0 none (some pH) [] [[0],[1,0,0],[1,0,1],[1,1,0],[1,1,1]] s cx
theorem aT9 (n:Nat) (cx:Cx β) (v0:Nat):UR n (aI0 v0) cx=bA0 n (fun v2=>cx.ret (cU0 v2)) v0:=by kernel_rfl
def g66 (n v0:Nat):Option (DenR [.dat (.flt .f64)]):=bA0 n (fun v2=>some (v2,())) v0
def cM1:List AK:=[.dat (.flt .f64)]
def aV5:List RK:=[.dat (.flt .f64)]
def dA3 (n:Nat) (d:DenA cM1):Option (DenR aV5):=g66 n d.1
def cP1 (n:Nat):Spec:=aK cM1 aV5 (dA3 n)
def cB7:Sk:=(.nd (.fin none none (some pH) [] .leaf) (.nd (.nd (.fin none none (some pH) [] .leaf) (.fin none none (some pH) [] .leaf)) (.nd (.fin none none (some pH) [] .leaf) (.fin none none (some pH) [] .leaf))))
theorem bW1 (n:Nat) (s:FState) (cx:Cx β):FX (bL4 n) n bI0 cB7 s cx=UR n s cx:=by kernel_rfl
theorem bZ7 (n:Nat):Fit Tryd.prog 66 (cP1 n):=
  bY (Γ:=Γ0) (l:=cF7 n) (n:=n) (sk:=cB7) (ts:=[(2,none)]) (fn:=Tryd.f66) (c:=bI0) (by kernel_rfl) (by kernel_rfl) (by unfold aJ;kernel_rfl) bT trivial aE (by kernel_rfl) (by kernel_rfl) (Nat.le_of_ble_eq_true (by kernel_rfl)) (Nat.le_of_ble_eq_true (by kernel_rfl)) (by kernel_rfl) (by kernel_rfl)
    (fun d=>(bW1 n _ _).trans (Eq.trans (b:=UR n (aI0 d.1) (cD (bL4 n) aV5 [(2,none)])) (by kernel_rfl) ((aT9 n _ d.1).trans (by kernel_rfl))))
def bA2 (v0:Z9):FState:=⟨aD [(0, .dat Z2 v0)],aC []⟩
def cT8 (p2:Z10):FState:=⟨aD [(2, .ptr 2 0 0)],aC [(2, .row Z1 74 true [p2])]⟩
def mF:List NE:=[.ptr 2 Z1 74 true]
def cP4 (n:Nat):List (Nat×Spec):=[(65,cR7 n),(66,cP1 n)]
def aJ4 (n:Nat):Ctx:={Γ0 with calls:=lkS (cP4 n)}
def aF7:Code:=fb Tryd.f50
def aR1 (n:Nat) (kr:Z10→Option β) (v0:Z9):Option β:=(g65 n v0.2.1 (0:Int) (1000:Int) (4:Int)).bind fun r1=>(g65 n v0.2.2.1 (0:Int) (1048576:Int) (1000:Int)).bind fun r2=>(g66 n v0.2.2.2.1).bind fun r3=>(g66 n v0.2.2.2.2.1).bind fun r4=>(g65 n v0.2.2.2.2.2.1 (1:Int) (8:Int) (4:Int)).bind fun r5=>(g65 n v0.2.2.2.2.2.2 (32:Int) (62:Int) (32:Int)).bind fun r6=>bif v0.1 then (kr ((1:Int),(r1.1,(r2.1,(r4.1,(r5.1,(r6.1,r3.1))))))) else (kr ((0:Int),(r1.1,(r2.1,(r4.1,(r5.1,(r6.1,r3.1)))))))
def ZR (n:Nat) (s:FState) (cx:Cx β):Option β:=FXs (aJ4 n) n aF7 none (some mF) [] [[0],[1,0],[1,1,0,0],[1,1,0,1],[1,1,1,0],[1,1,1,1]] s cx
theorem aR9 (n:Nat) (cx:Cx β) (v0:Z9):ZR n (bA2 v0) cx=aR1 n (fun p2=>cx.ret (cT8 p2)) v0:=by kernel_rfl
def g50 (n:Nat) (v0:Z9):Option (DenR [.ptr Z1 74]):=aR1 n (fun p2=>some (p2,())) v0
def cH8:List AK:=[.dat Z2]
def k9:List RK:=[.ptr Z1 74]
def cY7 (n:Nat) (d:DenA cH8):Option (DenR k9):=g50 n d.1
def cF3 (n:Nat):Spec:=aK cH8 k9 (cY7 n)
def cH4:Sk:=(.nd (.fin none none (some mF) [] .leaf) (.nd (.fin none none (some mF) [] .leaf) (.nd (.nd (.fin none none (some mF) [] .leaf) (.fin none none (some mF) [] .leaf)) (.nd (.fin none none (some mF) [] .leaf) (.fin none none (some mF) [] .leaf)))))
theorem bT0 (n:Nat) (s:FState) (cx:Cx β):FX (aJ4 n) n aF7 cH4 s cx=ZR n s cx:=by kernel_rfl
theorem bU8 (n:Nat):Fit Tryd.prog 50 (cF3 n):=
  bY (Γ:=Γ0) (l:=cP4 n) (n:=n) (sk:=cH4) (ts:=[(2,none)]) (fn:=Tryd.f50) (c:=aF7) (by kernel_rfl) (by kernel_rfl) (by unfold aJ;kernel_rfl) bT ⟨cA7 n,bZ7 n,trivial⟩ aE (by kernel_rfl) (by kernel_rfl) (Nat.le_of_ble_eq_true (by kernel_rfl)) (Nat.le_of_ble_eq_true (by kernel_rfl)) (by kernel_rfl) (by kernel_rfl)
    (fun d=>(bT0 n _ _).trans (Eq.trans (b:=ZR n (bA2 d.1) (cD (aJ4 n) k9 [(2,none)])) (by kernel_rfl) ((aR9 n _ d.1).trans (by kernel_rfl))))
def aU9 (x0:List Int):FState:=⟨aD [(0, .sl 0 none false)],aC [(0, .row (.int .i32) 21 false x0)]⟩
def cW9 (x2:List Int):FState:=⟨aD [(2, .sl 2 none false)],aC [(2, .row (.int .i32) 21 true x2)]⟩
def yL:List NE:=[.row 2 (.int .i32) 21 true]
def cG3 (n:Nat):List (Nat×Spec):=[]
def bM3 (n:Nat):Ctx:={Γ0 with calls:=lkS (cG3 n)}
def t6:Code:=fb Tryd.f54
def bB7 (n:Nat) (kr:List Int→Option β) (x0:List Int):Option β:=cG (([]:List Int).length+x0.length)<|kr (([]:List Int)++x0)
def ZW (n:Nat) (s:FState) (cx:Cx β):Option β:=FXs (bM3 n) n t6 none (some yL) [] [[0],[1,0],[1,1]] s cx
theorem bJ2 (n:Nat) (cx:Cx β) (x0:List Int):ZW n (aU9 x0) cx=bB7 n (fun x2=>cx.ret (cW9 x2)) x0:=by kernel_rfl
def g54 (n:Nat) (x0:List Int):Option (DenR [.rw (.int .i32) 21]):=bB7 n (fun x2=>some (x2,())) x0
def cN9:List AK:=[.ro (.int .i32) 21]
def aC3:List RK:=[.rw (.int .i32) 21]
def dA7 (n:Nat) (d:DenA cN9):Option (DenR aC3):=g54 n d.1
def cF1 (n:Nat):Spec:=aK cN9 aC3 (dA7 n)
def cR5:Sk:=(.nd (.fin none none (some yL) [] .leaf) (.nd (.fin none none (some yL) [] .leaf) (.fin none none (some yL) [] .leaf)))
theorem bT8 (n:Nat) (s:FState) (cx:Cx β):FX (bM3 n) n t6 cR5 s cx=ZW n s cx:=by kernel_rfl
theorem bQ6 (n:Nat):Fit Tryd.prog 54 (cF1 n):=
  bY (Γ:=Γ0) (l:=cG3 n) (n:=n) (sk:=cR5) (ts:=[(2,none)]) (fn:=Tryd.f54) (c:=t6) (by kernel_rfl) (by kernel_rfl) (by unfold aJ;kernel_rfl) bT trivial aE (by kernel_rfl) (by kernel_rfl) (Nat.le_of_ble_eq_true (by kernel_rfl)) (Nat.le_of_ble_eq_true (by kernel_rfl)) (by kernel_rfl) (by kernel_rfl)
    (fun d=>(bT8 n _ _).trans (Eq.trans (b:=ZW n (aU9 d.1) (cD (bM3 n) aC3 [(2,none)])) (by kernel_rfl) ((bJ2 n _ d.1).trans (by kernel_rfl))))
def US (x0 x1:List Int):FState:=⟨aD [(0, .sl 0 none false),(1, .sl 1 none false)],aC [(0, .row (.int .i32) 21 false x0),(1, .row (.int .i32) 21 false x1)]⟩
def rO (v4:Bool):FState:=⟨aD [(4, .dat .bool v4)],aC []⟩
def gC:List NE:=[.keep 4]
def vT (x1 x12:List Int) (v13 v14:Int):FState:=⟨aD [(1, .sl 1 none false),(12, .sl 12 none false),(13, .dat (.int .i64) v13),(14, .dat (.int .i64) v14)],aC [(1, .row (.int .i32) 21 false x1),(12, .row (.int .i32) 21 false x12)]⟩
def yD:List NE:=[.row 1 (.int .i32) 21 false, .row 12 (.int .i32) 21 false, .keep 13, .keep 14]
def DX:FState:=⟨aD [],aC []⟩
def sX:List NE:=[]
def cK0 (n:Nat):List (Nat×Spec):=[]
def QH (n:Nat):Ctx:={Γ0 with calls:=lkS (cK0 n)}
def NK:Code:=fb Tryd.f79
def bC2 (n:Nat) (kn:List Int→List Int→Int→Int→Option β) (kr:Bool→Option β) (x0 x1:List Int):Option β:=bif ((x0.length:Int)!=(x1.length:Int)) then (kr false) else (kn x1 x0 (x0.length:Int) (0:Int))
def bO5 (n:Nat) (s:FState) (cx:Cx β):Option β:=FXs (QH n) n NK (some yD) (some gC) [] [[0],[1,0,0],[1,0,1],[1,1,0,0]] s cx
theorem o9 (n:Nat) (cx:Cx β) (x0 x1:List Int):bO5 n (US x0 x1) cx=bC2 n (fun x1 x12 v13 v14=>cx.nrm (vT x1 x12 v13 v14)) (fun v4=>cx.ret (rO v4)) x0 x1:=by kernel_rfl
def J8 (n:Nat) (kn:List Int→List Int→Int→Int→Option β) (kr:Bool→Option β) (kx0:Option β) (x1 x12:List Int) (v13 v14:Int):Option β:=bif (decide (v14 < v13)) then (idx v14 (x12.length:Int)<|idx v14 (x1.length:Int)<|bif ((rd x12 v14 (0:Int))!=(rd x1 v14 (0:Int))) then (kr false) else (kn x1 x12 v13 (w64 (v14+1)))) else kx0
def TG (n:Nat) (s:FState) (cx:Cx β):Option β:=FXs (QH n) n NK (some yD) (some gC) [(0,sX)] [[1,1,0,1,0,0,0],[1,1,0,1,0,0,1,0],[1,1,0,1,0,0,1,1,0],[1,1,0,1,0,0,1,1,1]] s cx
theorem bG7 (n:Nat) (cx:Cx β) (x1 x12:List Int) (v13 v14:Int):TG n (vT x1 x12 v13 v14) cx=J8 n (fun x1 x12 v13 v14=>cx.nrm (vT x1 x12 v13 v14)) (fun v4=>cx.ret (rO v4)) (cx.ex 0 DX) x1 x12 v13 v14:=by kernel_rfl
def g79_3L (n:Nat) (kr:Bool→Option β) (kx0:Option β):Nat→List Int→List Int→Int→Int→Option β
  | 0,_,_,_,_=>none
  | m+1,x1,x12,v13,v14=>J8 n (g79_3L n kr kx0 m) kr kx0 x1 x12 v13 v14
def bA1 (n:Nat) (kr:Bool→Option β) (kx0:Option β) (x1 x12:List Int) (v13 v14:Int):Option β:=g79_3L n kr kx0 n x1 x12 v13 v14
def aQ1 (n:Nat) (s:FState) (cx:Cx β):Option β:=bF (fun again s=>TG n s {cx with nrm:=again}) n s
theorem W8 (n:Nat) (cx:Cx β):∀(m:Nat) (x1 x12:List Int) (v13 v14:Int),bF (fun again s=>TG n s {cx with nrm:=again}) m (vT x1 x12 v13 v14)=g79_3L n (fun v4=>cx.ret (rO v4)) (cx.ex 0 DX) m x1 x12 v13 v14:=by
  intro m
  induction m with
  | zero=>intros;rfl
  | succ m ih=>intros;simp only [bF,g79_3L,bG7,ih]
theorem aC2 (n:Nat) (cx:Cx β) (x1 x12:List Int) (v13 v14:Int):aQ1 n (vT x1 x12 v13 v14) cx=bA1 n (fun v4=>cx.ret (rO v4)) (cx.ex 0 DX) x1 x12 v13 v14:=W8 n cx n x1 x12 v13 v14
def aN1 (n:Nat) (kn:Option β) (kr:Bool→Option β) (x1 x12:List Int) (v13 v14:Int):Option β:=bA1 n kr kn x1 x12 v13 v14
def bL5 (n:Nat) (s:FState) (cx:Cx β):Option β:=aQ1 n s {cx with ex:=fun j s=>bif Nat.beq j 0 then cx.nrm s else cx.ex j s}
theorem aK4 (n:Nat) (cx:Cx β) (x1 x12:List Int) (v13 v14:Int):bL5 n (vT x1 x12 v13 v14) cx=aN1 n (cx.nrm DX) (fun v4=>cx.ret (rO v4)) x1 x12 v13 v14:=aC2 n _ x1 x12 v13 v14
def bA9 (n:Nat) (kr:Bool→Option β):Option β:=kr true
def p6 (n:Nat) (s:FState) (cx:Cx β):Option β:=FXs (QH n) n NK none (some gC) [] [[1,1,1,0],[1,1,1,1]] s cx
theorem bD4 (n:Nat) (cx:Cx β):p6 n DX cx=bA9 n (fun v4=>cx.ret (rO v4)):=by kernel_rfl
def E5 (n:Nat) (kr:Bool→Option β) (x0 x1:List Int):Option β:=bC2 n (fun x1 x12 v13 v14=>aN1 n (bA9 n kr) kr x1 x12 v13 v14) kr x0 x1
def LY (n:Nat) (s:FState) (cx:Cx β):Option β:=bO5 n s {cx with nrm:=fun s=>bL5 n s {cx with nrm:=fun s=>p6 n s cx}}
theorem bG8 (n:Nat) (cx:Cx β) (x0 x1:List Int):LY n (US x0 x1) cx=E5 n (fun v4=>cx.ret (rO v4)) x0 x1:=by simp only [LY,E5,o9,aK4,bD4]
def g79 (n:Nat) (x0 x1:List Int):Option (DenR [.dat .bool]):=E5 n (fun v4=>some (v4,())) x0 x1
def cK7:List AK:=[.ro (.int .i32) 21, .ro (.int .i32) 21]
def aS3:List RK:=[.dat .bool]
def cZ8 (n:Nat) (d:DenA cK7):Option (DenR aS3):=g79 n d.1 d.2.1
def aO6 (n:Nat):Spec:=aK cK7 aS3 (cZ8 n)
def cM8:Sk:=(.nd (.fin none none (some gC) [] .leaf) (.nd (.nd (.fin none none (some gC) [] .leaf) (.fin none none (some gC) [] .leaf)) (.nd (.nd (.fin none (some yD) (some gC) [] .leaf) (.nd (.nd (.nd (.fin none none (some gC) [(0,sX)] .leaf) (.nd (.fin none none (some gC) [(0,sX)] .leaf) (.nd (.fin none none (some gC) [(0,sX)] .leaf) (.fin none (some yD) (some gC) [(0,sX)] .leaf)))) .leaf) .leaf)) (.nd (.fin none none (some gC) [] .leaf) (.fin none none (some gC) [] .leaf)))))
theorem bS2 (n:Nat) (s:FState) (cx:Cx β):FX (QH n) n NK cM8 s cx=LY n s cx:=by kernel_rfl
theorem D3 (n:Nat):Fit Tryd.prog 79 (aO6 n):=
  bY (Γ:=Γ0) (l:=cK0 n) (n:=n) (sk:=cM8) (ts:=[(4,none)]) (fn:=Tryd.f79) (c:=NK) (by kernel_rfl) (by kernel_rfl) (by unfold aJ;kernel_rfl) bT trivial aE (by kernel_rfl) (by kernel_rfl) (Nat.le_of_ble_eq_true (by kernel_rfl)) (Nat.le_of_ble_eq_true (by kernel_rfl)) (by kernel_rfl) (by kernel_rfl)
    (fun d=>(bS2 n _ _).trans (Eq.trans (b:=LY n (US d.1 d.2.1) (cD (QH n) aS3 [(4,none)])) (by kernel_rfl) ((bG8 n _ d.1 d.2.1).trans (by kernel_rfl))))
def UY (x0 x1:List Int):FState:=⟨aD [(0, .sl 0 none false),(1, .sl 1 none false)],aC [(0, .row (.int .i32) 21 false x0),(1, .row (.int .i32) 21 false x1)]⟩
def vI (v4:Int):FState:=⟨aD [(4, .dat (.int .i64) v4)],aC []⟩
def kJ:List NE:=[.keep 4]
def wI (x0 x1:List Int) (v5:Int):FState:=⟨aD [(0, .sl 0 none false),(1, .sl 1 none false),(5, .dat (.int .i64) v5)],aC [(0, .row (.int .i32) 21 false x0),(1, .row (.int .i32) 21 false x1)]⟩
def AB:List NE:=[.row 0 (.int .i32) 21 false, .row 1 (.int .i32) 21 false, .keep 5]
def DF (v5:Int):FState:=⟨aD [(5, .dat (.int .i64) v5)],aC []⟩
def uM:List NE:=[.keep 5]
def cJ4 (n:Nat):List (Nat×Spec):=[]
def RC (n:Nat):Ctx:={Γ0 with calls:=lkS (cJ4 n)}
def OT:Code:=fb Tryd.f80
def cR1 (n:Nat) (kn:List Int→List Int→Int→Option β) (x0 x1:List Int):Option β:=kn x0 x1 (0:Int)
def aL6 (n:Nat) (s:FState) (cx:Cx β):Option β:=FXs (RC n) n OT (some AB) none [] [[0],[1,0]] s cx
theorem aF1 (n:Nat) (cx:Cx β) (x0 x1:List Int):aL6 n (UY x0 x1) cx=cR1 n (fun x0 x1 v5=>cx.nrm (wI x0 x1 v5)) x0 x1:=by kernel_rfl
def aZ5 (n:Nat) (kn:List Int→List Int→Int→Option β) (kr kx0:Int→Option β) (x0 x1:List Int) (v5:Int):Option β:=bif (decide (v5 < (x0.length:Int))) then (bif (decide (v5 < (x1.length:Int))) then (idx v5 (x0.length:Int)<|idx v5 (x1.length:Int)<|bif ((rd x0 v5 (0:Int))!=(rd x1 v5 (0:Int))) then (kr v5) else (kn x0 x1 (w64 (v5+1)))) else (kx0 v5)) else (kx0 v5)
def XJ (n:Nat) (s:FState) (cx:Cx β):Option β:=FXs (RC n) n OT (some AB) (some kJ) [(0,uM)] [[1,1,0,0,0,0,0],[1,1,0,0,0,0,1],[1,1,0,0,0,1,0],[1,1,0,0,0,1,1]] s cx
theorem bJ8 (n:Nat) (cx:Cx β) (x0 x1:List Int) (v5:Int):XJ n (wI x0 x1 v5) cx=aZ5 n (fun x0 x1 v5=>cx.nrm (wI x0 x1 v5)) (fun v4=>cx.ret (vI v4)) (fun v5=>cx.ex 0 (DF v5)) x0 x1 v5:=by kernel_rfl
def g80_3L (n:Nat) (kr:Int→Option β) (kx0:Int→Option β):Nat→List Int→List Int→Int→Option β
  | 0,_,_,_=>none
  | m+1,x0,x1,v5=>aZ5 n (g80_3L n kr kx0 m) kr kx0 x0 x1 v5
def cE6 (n:Nat) (kr kx0:Int→Option β) (x0 x1:List Int) (v5:Int):Option β:=g80_3L n kr kx0 n x0 x1 v5
def w5 (n:Nat) (s:FState) (cx:Cx β):Option β:=bF (fun again s=>XJ n s {cx with nrm:=again}) n s
theorem Y1 (n:Nat) (cx:Cx β):∀(m:Nat) (x0 x1:List Int) (v5:Int),bF (fun again s=>XJ n s {cx with nrm:=again}) m (wI x0 x1 v5)=g80_3L n (fun v4=>cx.ret (vI v4)) (fun v5=>cx.ex 0 (DF v5)) m x0 x1 v5:=by
  intro m
  induction m with
  | zero=>intros;rfl
  | succ m ih=>intros;simp only [bF,g80_3L,bJ8,ih]
theorem bJ0 (n:Nat) (cx:Cx β) (x0 x1:List Int) (v5:Int):w5 n (wI x0 x1 v5) cx=cE6 n (fun v4=>cx.ret (vI v4)) (fun v5=>cx.ex 0 (DF v5)) x0 x1 v5:=Y1 n cx n x0 x1 v5
def cD2 (n:Nat) (kn kr:Int→Option β) (x0 x1:List Int) (v5:Int):Option β:=cE6 n kr kn x0 x1 v5
def aL5 (n:Nat) (s:FState) (cx:Cx β):Option β:=w5 n s {cx with ex:=fun j s=>bif Nat.beq j 0 then cx.nrm s else cx.ex j s}
theorem t7 (n:Nat) (cx:Cx β) (x0 x1:List Int) (v5:Int):aL5 n (wI x0 x1 v5) cx=cD2 n (fun v5=>cx.nrm (DF v5)) (fun v4=>cx.ret (vI v4)) x0 x1 v5:=bJ0 n _ x0 x1 v5
def cH0 (n:Nat) (kr:Int→Option β) (v5:Int):Option β:=kr v5
def aS6 (n:Nat) (s:FState) (cx:Cx β):Option β:=FXs (RC n) n OT none (some kJ) [] [[1,1,1,0],[1,1,1,1]] s cx
theorem aI3 (n:Nat) (cx:Cx β) (v5:Int):aS6 n (DF v5) cx=cH0 n (fun v4=>cx.ret (vI v4)) v5:=by kernel_rfl
def aO0 (n:Nat) (kr:Int→Option β) (x0 x1:List Int):Option β:=cR1 n (fun x0 x1 v5=>cD2 n (fun v5=>cH0 n kr v5) kr x0 x1 v5) x0 x1
def LE (n:Nat) (s:FState) (cx:Cx β):Option β:=aL6 n s {cx with nrm:=fun s=>aL5 n s {cx with nrm:=fun s=>aS6 n s cx}}
theorem aZ9 (n:Nat) (cx:Cx β) (x0 x1:List Int):LE n (UY x0 x1) cx=aO0 n (fun v4=>cx.ret (vI v4)) x0 x1:=by simp only [LE,aO0,aF1,t7,aI3]
def g80 (n:Nat) (x0 x1:List Int):Option (DenR [.dat (.int .i64)]):=aO0 n (fun v4=>some (v4,())) x0 x1
def cI2:List AK:=[.ro (.int .i32) 21, .ro (.int .i32) 21]
def aL8:List RK:=[.dat (.int .i64)]
def dC5 (n:Nat) (d:DenA cI2):Option (DenR aL8):=g80 n d.1 d.2.1
def aR3 (n:Nat):Spec:=aK cI2 aL8 (dC5 n)
def cJ3:Sk:=(.nd (.fin none none none [] .leaf) (.nd (.fin none (some AB) none [] .leaf) (.nd (.nd (.nd (.nd (.nd (.fin none none (some kJ) [(0,uM)] .leaf) (.fin none none (some kJ) [(0,uM)] .leaf)) (.nd (.fin none none (some kJ) [(0,uM)] .leaf) (.fin none (some AB) (some kJ) [(0,uM)] .leaf))) .leaf) .leaf) (.nd (.fin none none (some kJ) [] .leaf) (.fin none none (some kJ) [] .leaf)))))
theorem bX9 (n:Nat) (s:FState) (cx:Cx β):FX (RC n) n OT cJ3 s cx=LE n s cx:=by kernel_rfl
theorem O7 (n:Nat):Fit Tryd.prog 80 (aR3 n):=
  bY (Γ:=Γ0) (l:=cJ4 n) (n:=n) (sk:=cJ3) (ts:=[(4,none)]) (fn:=Tryd.f80) (c:=OT) (by kernel_rfl) (by kernel_rfl) (by unfold aJ;kernel_rfl) bT trivial aE (by kernel_rfl) (by kernel_rfl) (Nat.le_of_ble_eq_true (by kernel_rfl)) (Nat.le_of_ble_eq_true (by kernel_rfl)) (by kernel_rfl) (by kernel_rfl)
    (fun d=>(bX9 n _ _).trans (Eq.trans (b:=LE n (UY d.1 d.2.1) (cD (RC n) aL8 [(4,none)])) (by kernel_rfl) ((aZ9 n _ d.1 d.2.1).trans (by kernel_rfl))))
def ZN (x0 x1:List Int):FState:=⟨aD [(0, .sl 0 none false),(1, .sl 1 none false)],aC [(0, .row (.int .i32) 21 false x0),(1, .row (.int .i32) 21 false x1)]⟩
def CD (v4:Int):FState:=⟨aD [(4, .dat (.int .i64) v4)],aC []⟩
def KB:List NE:=[.keep 4]
def vZ (x0 x1:List Int) (v5 v6 v7:Int):FState:=⟨aD [(0, .sl 0 none false),(1, .sl 1 none false),(5, .dat (.int .i64) v5),(6, .dat (.int .i64) v6),(7, .dat (.int .i64) v7)],aC [(0, .row (.int .i32) 21 false x0),(1, .row (.int .i32) 21 false x1)]⟩
def zK:List NE:=[.row 0 (.int .i32) 21 false, .row 1 (.int .i32) 21 false, .keep 5, .keep 6, .keep 7]
def cJ5 (n:Nat):List (Nat×Spec):=[]
def K3 (n:Nat):Ctx:={Γ0 with calls:=lkS (cJ5 n)}
def M9:Code:=fb Tryd.f81
def cF5 (n:Nat) (kn:List Int→List Int→Int→Int→Int→Option β) (x0 x1:List Int):Option β:=kn x0 x1 (x0.length:Int) (x1.length:Int) (0:Int)
def aO9 (n:Nat) (s:FState) (cx:Cx β):Option β:=FXs (K3 n) n M9 (some zK) none [] [[0],[1,0],[1,1,0],[1,1,1,0]] s cx
theorem bA6 (n:Nat) (cx:Cx β) (x0 x1:List Int):aO9 n (ZN x0 x1) cx=cF5 n (fun x0 x1 v5 v6 v7=>cx.nrm (vZ x0 x1 v5 v6 v7)) x0 x1:=by kernel_rfl
def aU3 (n:Nat) (kn:List Int→List Int→Int→Int→Int→Option β) (kr:Int→Option β) (x0 x1:List Int) (v5 v6 v7:Int):Option β:=bif (decide ((w64 (v5 - 1)) < (0:Int))) then (kr v7) else (bif (decide ((w64 (v6 - 1)) < (0:Int))) then (kr v7) else (idx (w64 (v5 - 1)) (x0.length:Int)<|idx (w64 (v6 - 1)) (x1.length:Int)<|bif ((rd x0 (w64 (v5 - 1)) (0:Int))!=(rd x1 (w64 (v6 - 1)) (0:Int))) then (kr v7) else (kn x0 x1 (w64 (v5 - 1)) (w64 (v6 - 1)) (w64 (v7+1)))))
def TJ (n:Nat) (s:FState) (cx:Cx β):Option β:=FXs (K3 n) n M9 (some zK) (some KB) [] [[1,1,1,1,0,0,0],[1,1,1,1,0,0,1]] s cx
theorem aZ7 (n:Nat) (cx:Cx β) (x0 x1:List Int) (v5 v6 v7:Int):TJ n (vZ x0 x1 v5 v6 v7) cx=aU3 n (fun x0 x1 v5 v6 v7=>cx.nrm (vZ x0 x1 v5 v6 v7)) (fun v4=>cx.ret (CD v4)) x0 x1 v5 v6 v7:=by kernel_rfl
def g81_3L (n:Nat) (kr:Int→Option β):Nat→List Int→List Int→Int→Int→Int→Option β
  | 0,_,_,_,_,_=>none
  | m+1,x0,x1,v5,v6,v7=>aU3 n (g81_3L n kr m) kr x0 x1 v5 v6 v7
def cL9 (n:Nat) (kr:Int→Option β) (x0 x1:List Int) (v5 v6 v7:Int):Option β:=g81_3L n kr n x0 x1 v5 v6 v7
def bB9 (n:Nat) (s:FState) (cx:Cx β):Option β:=bF (fun again s=>TJ n s {cx with nrm:=again}) n s
theorem i9 (n:Nat) (cx:Cx β):∀(m:Nat) (x0 x1:List Int) (v5 v6 v7:Int),bF (fun again s=>TJ n s {cx with nrm:=again}) m (vZ x0 x1 v5 v6 v7)=g81_3L n (fun v4=>cx.ret (CD v4)) m x0 x1 v5 v6 v7:=by
  intro m
  induction m with
  | zero=>intros;rfl
  | succ m ih=>intros;simp only [bF,g81_3L,aZ7,ih]
theorem bD5 (n:Nat) (cx:Cx β) (x0 x1:List Int) (v5 v6 v7:Int):bB9 n (vZ x0 x1 v5 v6 v7) cx=cL9 n (fun v4=>cx.ret (CD v4)) x0 x1 v5 v6 v7:=i9 n cx n x0 x1 v5 v6 v7
def cD5 (n:Nat) (kr:Int→Option β) (x0 x1:List Int) (v5 v6 v7:Int):Option β:=cL9 n kr x0 x1 v5 v6 v7
def bG1 (n:Nat) (s:FState) (cx:Cx β):Option β:=bB9 n s {cx with ex:=fun j s=>bif Nat.beq j 0 then cx.nrm s else cx.ex j s}
theorem aY6 (n:Nat) (cx:Cx β) (x0 x1:List Int) (v5 v6 v7:Int):bG1 n (vZ x0 x1 v5 v6 v7) cx=cD5 n (fun v4=>cx.ret (CD v4)) x0 x1 v5 v6 v7:=bD5 n _ x0 x1 v5 v6 v7
def bP7 (n:Nat) (kr:Int→Option β) (x0 x1:List Int):Option β:=cF5 n (fun x0 x1 v5 v6 v7=>cD5 n kr x0 x1 v5 v6 v7) x0 x1
def MH (n:Nat) (s:FState) (cx:Cx β):Option β:=aO9 n s {cx with nrm:=fun s=>bG1 n s cx}
theorem aH9 (n:Nat) (cx:Cx β) (x0 x1:List Int):MH n (ZN x0 x1) cx=bP7 n (fun v4=>cx.ret (CD v4)) x0 x1:=by simp only [MH,bP7,bA6,aY6]
def g81 (n:Nat) (x0 x1:List Int):Option (DenR [.dat (.int .i64)]):=bP7 n (fun v4=>some (v4,())) x0 x1
def cL1:List AK:=[.ro (.int .i32) 21, .ro (.int .i32) 21]
def aB6:List RK:=[.dat (.int .i64)]
def dC8 (n:Nat) (d:DenA cL1):Option (DenR aB6):=g81 n d.1 d.2.1
def bD1 (n:Nat):Spec:=aK cL1 aB6 (dC8 n)
def cD6:Sk:=(.nd (.fin none none none [] .leaf) (.nd (.fin none none none [] .leaf) (.nd (.fin none none none [] .leaf) (.nd (.fin none (some zK) none [] .leaf) (.nd (.nd (.nd (.fin none none (some KB) [] .leaf) (.fin none (some zK) (some KB) [] .leaf)) .leaf) .leaf)))))
theorem bW4 (n:Nat) (s:FState) (cx:Cx β):FX (K3 n) n M9 cD6 s cx=MH n s cx:=by kernel_rfl
theorem G8 (n:Nat):Fit Tryd.prog 81 (bD1 n):=
  bY (Γ:=Γ0) (l:=cJ5 n) (n:=n) (sk:=cD6) (ts:=[(4,none)]) (fn:=Tryd.f81) (c:=M9) (by kernel_rfl) (by kernel_rfl) (by unfold aJ;kernel_rfl) bT trivial aE (by kernel_rfl) (by kernel_rfl) (Nat.le_of_ble_eq_true (by kernel_rfl)) (Nat.le_of_ble_eq_true (by kernel_rfl)) (by kernel_rfl) (by kernel_rfl)
    (fun d=>(bW4 n _ _).trans (Eq.trans (b:=MH n (ZN d.1 d.2.1) (cD (K3 n) aB6 [(4,none)])) (by kernel_rfl) ((aH9 n _ d.1 d.2.1).trans (by kernel_rfl))))
def VQ (x0:List Z28) (v1 v2:Int) (x3:List Z28):FState:=⟨aD [(0, .sl 0 none false),(1, .dat (.int .i64) v1),(2, .dat (.int .i64) v2),(3, .sl 3 none false)],aC [(0, .row Z24 81 true x0),(3, .row Z24 81 false x3)]⟩
def vR (x8:List Z28):FState:=⟨aD [(8, .sl 8 none false)],aC [(8, .row Z24 81 true x8)]⟩
def gD:List NE:=[.row 8 Z24 81 true]
def CN (x0:List Z28) (v1 v2:Int) (x3:List Z28) (v26:Bool):FState:=⟨aD [(0, .sl 0 none false),(1, .dat (.int .i64) v1),(2, .dat (.int .i64) v2),(3, .sl 3 none false),(26, .dat .bool v26)],aC [(0, .row Z24 81 true x0),(3, .row Z24 81 false x3)]⟩
def J5:List NE:=[.row 0 Z24 81 true, .keep 1, .keep 2, .row 3 Z24 81 false, .keep 26]
def TW (x0:List Z28) (v1 v2:Int) (x3:List Z28):FState:=⟨aD [(0, .sl 0 none false),(1, .dat (.int .i64) v1),(2, .dat (.int .i64) v2),(3, .sl 3 none false)],aC [(0, .row Z24 81 true x0),(3, .row Z24 81 false x3)]⟩
def F6:List NE:=[.row 0 Z24 81 true, .keep 1, .keep 2, .row 3 Z24 81 false]
def wO (x0:List Z28) (v9 o10 l10 v55 v56:Int):FState:=⟨aD [(0, .sl 0 none false),(9, .dat (.int .i64) v9),(10, .sl 0 (some (o10,l10)) false),(55, .dat (.int .i64) v55),(56, .dat (.int .i64) v56)],aC [(0, .row Z24 81 true x0)]⟩
def yK:List NE:=[.row 0 Z24 81 true, .keep 9, .row 10 Z24 81 true, .keep 55, .keep 56]
def BK (x0:List Z28) (v9:Int):FState:=⟨aD [(0, .sl 0 none false),(9, .dat (.int .i64) v9)],aC [(0, .row Z24 81 true x0)]⟩
def tR:List NE:=[.row 0 Z24 81 true, .keep 9]
def wC (x0:List Z28) (v1 v2:Int) (x3:List Z28) (v12:Int):FState:=⟨aD [(0, .sl 0 none false),(1, .dat (.int .i64) v1),(2, .dat (.int .i64) v2),(3, .sl 3 none false),(12, .dat (.int .i64) v12)],aC [(0, .row Z24 81 true x0),(3, .row Z24 81 false x3)]⟩
def zH:List NE:=[.row 0 Z24 81 true, .keep 1, .keep 2, .row 3 Z24 81 false, .keep 12]
def DD (x0:List Z28) (v1 v2:Int) (x3:List Z28):FState:=⟨aD [(0, .sl 0 none false),(1, .dat (.int .i64) v1),(2, .dat (.int .i64) v2),(3, .sl 3 none false)],aC [(0, .row Z24 81 true x0),(3, .row Z24 81 false x3)]⟩
def zE:List NE:=[.row 0 Z24 81 true, .keep 1, .keep 2, .row 3 Z24 81 false]
def cN7 (n:Nat):List (Nat×Spec):=[]
def qP (n:Nat):Ctx:={Γ0 with calls:=lkS (cN7 n)}
def oH:Code:=fb Tryd.f71
def l7 (n:Nat) (kn:List Z28→Int→Int→List Z28→Bool→Option β) (kr:List Z28→Option β) (x0:List Z28) (v1 v2:Int) (x3:List Z28):Option β:=bif ((x3.length:Int)==v2) then (bnd v1 (x0.length:Int) (x0.length:Int)<|kr (aQ x0 (v1+(0:Int)) ((x0.length:Int) - v1) x3)) else (kn x0 v1 v2 x3 (decide ((x3.length:Int) < v2)))
def bE8 (n:Nat) (s:FState) (cx:Cx β):Option β:=FXs (qP n) n oH (some J5) (some gD) [] [[0],[1,0,0],[1,0,1],[1,1,0,0]] s cx
theorem aG9 (n:Nat) (cx:Cx β) (x0:List Z28) (v1 v2:Int) (x3:List Z28):bE8 n (VQ x0 v1 v2 x3) cx=l7 n (fun x0 v1 v2 x3 v26=>cx.nrm (CN x0 v1 v2 x3 v26)) (fun x8=>cx.ret (vR x8)) x0 v1 v2 x3:=by kernel_rfl
def u9 (n:Nat) (kn:List Z28→Int→Int→Int→Int→Int→Option β) (x0:List Z28) (v1 v2:Int) (x3:List Z28) (v26:Bool):Option β:=bnd v1 (x0.length:Int) (x0.length:Int)<|bnd (w64 (v1+(x3.length:Int))) ((aQ x0 (v1+(0:Int)) ((x0.length:Int) - v1) x3).length:Int) ((aQ x0 (v1+(0:Int)) ((x0.length:Int) - v1) x3).length:Int)<|bnd (w64 (v1+v2)) ((aQ x0 (v1+(0:Int)) ((x0.length:Int) - v1) x3).length:Int) ((aQ x0 (v1+(0:Int)) ((x0.length:Int) - v1) x3).length:Int)<|bnd (w64 ((w64 (((aQ (aQ x0 (v1+(0:Int)) ((x0.length:Int) - v1) x3) ((w64 (v1+(x3.length:Int)))+(0:Int)) (((aQ x0 (v1+(0:Int)) ((x0.length:Int) - v1) x3).length:Int) - (w64 (v1+(x3.length:Int)))) (cut (aQ x0 (v1+(0:Int)) ((x0.length:Int) - v1) x3) (w64 (v1+v2)) ((w64 (v1+v2))+(((aQ x0 (v1+(0:Int)) ((x0.length:Int) - v1) x3).length:Int) - (w64 (v1+v2)))))).length:Int) - v2))+(x3.length:Int))) ((aQ (aQ x0 (v1+(0:Int)) ((x0.length:Int) - v1) x3) ((w64 (v1+(x3.length:Int)))+(0:Int)) (((aQ x0 (v1+(0:Int)) ((x0.length:Int) - v1) x3).length:Int) - (w64 (v1+(x3.length:Int)))) (cut (aQ x0 (v1+(0:Int)) ((x0.length:Int) - v1) x3) (w64 (v1+v2)) ((w64 (v1+v2))+(((aQ x0 (v1+(0:Int)) ((x0.length:Int) - v1) x3).length:Int) - (w64 (v1+v2)))))).length:Int) ((aQ (aQ x0 (v1+(0:Int)) ((x0.length:Int) - v1) x3) ((w64 (v1+(x3.length:Int)))+(0:Int)) (((aQ x0 (v1+(0:Int)) ((x0.length:Int) - v1) x3).length:Int) - (w64 (v1+(x3.length:Int)))) (cut (aQ x0 (v1+(0:Int)) ((x0.length:Int) - v1) x3) (w64 (v1+v2)) ((w64 (v1+v2))+(((aQ x0 (v1+(0:Int)) ((x0.length:Int) - v1) x3).length:Int) - (w64 (v1+v2)))))).length:Int)<|kn (aQ (aQ x0 (v1+(0:Int)) ((x0.length:Int) - v1) x3) ((w64 (v1+(x3.length:Int)))+(0:Int)) (((aQ x0 (v1+(0:Int)) ((x0.length:Int) - v1) x3).length:Int) - (w64 (v1+(x3.length:Int)))) (cut (aQ x0 (v1+(0:Int)) ((x0.length:Int) - v1) x3) (w64 (v1+v2)) ((w64 (v1+v2))+(((aQ x0 (v1+(0:Int)) ((x0.length:Int) - v1) x3).length:Int) - (w64 (v1+v2)))))) (w64 ((w64 (((aQ (aQ x0 (v1+(0:Int)) ((x0.length:Int) - v1) x3) ((w64 (v1+(x3.length:Int)))+(0:Int)) (((aQ x0 (v1+(0:Int)) ((x0.length:Int) - v1) x3).length:Int) - (w64 (v1+(x3.length:Int)))) (cut (aQ x0 (v1+(0:Int)) ((x0.length:Int) - v1) x3) (w64 (v1+v2)) ((w64 (v1+v2))+(((aQ x0 (v1+(0:Int)) ((x0.length:Int) - v1) x3).length:Int) - (w64 (v1+v2)))))).length:Int) - v2))+(x3.length:Int))) (w64 ((w64 (((aQ (aQ x0 (v1+(0:Int)) ((x0.length:Int) - v1) x3) ((w64 (v1+(x3.length:Int)))+(0:Int)) (((aQ x0 (v1+(0:Int)) ((x0.length:Int) - v1) x3).length:Int) - (w64 (v1+(x3.length:Int)))) (cut (aQ x0 (v1+(0:Int)) ((x0.length:Int) - v1) x3) (w64 (v1+v2)) ((w64 (v1+v2))+(((aQ x0 (v1+(0:Int)) ((x0.length:Int) - v1) x3).length:Int) - (w64 (v1+v2)))))).length:Int) - v2))+(x3.length:Int))) (((aQ (aQ x0 (v1+(0:Int)) ((x0.length:Int) - v1) x3) ((w64 (v1+(x3.length:Int)))+(0:Int)) (((aQ x0 (v1+(0:Int)) ((x0.length:Int) - v1) x3).length:Int) - (w64 (v1+(x3.length:Int)))) (cut (aQ x0 (v1+(0:Int)) ((x0.length:Int) - v1) x3) (w64 (v1+v2)) ((w64 (v1+v2))+(((aQ x0 (v1+(0:Int)) ((x0.length:Int) - v1) x3).length:Int) - (w64 (v1+v2)))))).length:Int) - (w64 ((w64 (((aQ (aQ x0 (v1+(0:Int)) ((x0.length:Int) - v1) x3) ((w64 (v1+(x3.length:Int)))+(0:Int)) (((aQ x0 (v1+(0:Int)) ((x0.length:Int) - v1) x3).length:Int) - (w64 (v1+(x3.length:Int)))) (cut (aQ x0 (v1+(0:Int)) ((x0.length:Int) - v1) x3) (w64 (v1+v2)) ((w64 (v1+v2))+(((aQ x0 (v1+(0:Int)) ((x0.length:Int) - v1) x3).length:Int) - (w64 (v1+v2)))))).length:Int) - v2))+(x3.length:Int)))) (((aQ (aQ x0 (v1+(0:Int)) ((x0.length:Int) - v1) x3) ((w64 (v1+(x3.length:Int)))+(0:Int)) (((aQ x0 (v1+(0:Int)) ((x0.length:Int) - v1) x3).length:Int) - (w64 (v1+(x3.length:Int)))) (cut (aQ x0 (v1+(0:Int)) ((x0.length:Int) - v1) x3) (w64 (v1+v2)) ((w64 (v1+v2))+(((aQ x0 (v1+(0:Int)) ((x0.length:Int) - v1) x3).length:Int) - (w64 (v1+v2)))))).length:Int) - (w64 ((w64 (((aQ (aQ x0 (v1+(0:Int)) ((x0.length:Int) - v1) x3) ((w64 (v1+(x3.length:Int)))+(0:Int)) (((aQ x0 (v1+(0:Int)) ((x0.length:Int) - v1) x3).length:Int) - (w64 (v1+(x3.length:Int)))) (cut (aQ x0 (v1+(0:Int)) ((x0.length:Int) - v1) x3) (w64 (v1+v2)) ((w64 (v1+v2))+(((aQ x0 (v1+(0:Int)) ((x0.length:Int) - v1) x3).length:Int) - (w64 (v1+v2)))))).length:Int) - v2))+(x3.length:Int)))) (0:Int)
def j8 (n:Nat) (s:FState) (cx:Cx β):Option β:=FXs (qP n) n oH (some yK) none [] [[1,1,0,1,0,0],[1,1,0,1,0,1,0],[1,1,0,1,0,1,1,0],[1,1,0,1,0,1,1,1,0],[1,1,0,1,0,1,1,1,1,0,0]] s cx
theorem aJ7 (n:Nat) (cx:Cx β) (x0:List Z28) (v1 v2:Int) (x3:List Z28) (v26:Bool):j8 n (CN x0 v1 v2 x3 v26) cx=u9 n (fun x0 v9 o10 l10 v55 v56=>cx.nrm (wO x0 v9 o10 l10 v55 v56)) x0 v1 v2 x3 v26:=by kernel_rfl
def P0 (n:Nat) (kn:List Z28→Int→Int→Int→Int→Int→Option β) (kx0:List Z28→Int→Option β) (x0:List Z28) (v9 o10 l10 v55 v56:Int):Option β:=bif (decide (v56 < v55)) then (idx v56 l10<|kn (x0.set (o10+v56).toNat Z18) v9 o10 l10 v55 (w64 (v56+1))) else (kx0 x0 v9)
def VJ (n:Nat) (s:FState) (cx:Cx β):Option β:=FXs (qP n) n oH (some yK) none [(0,tR)] [[1,1,0,1,0,1,1,1,1,0,1,0,0,0],[1,1,0,1,0,1,1,1,1,0,1,0,0,1,0],[1,1,0,1,0,1,1,1,1,0,1,0,0,1,1,0],[1,1,0,1,0,1,1,1,1,0,1,0,0,1,1,1]] s cx
theorem aT6 (n:Nat) (cx:Cx β) (x0:List Z28) (v9 o10 l10 v55 v56:Int):VJ n (wO x0 v9 o10 l10 v55 v56) cx=P0 n (fun x0 v9 o10 l10 v55 v56=>cx.nrm (wO x0 v9 o10 l10 v55 v56)) (fun x0 v9=>cx.ex 0 (BK x0 v9)) x0 v9 o10 l10 v55 v56:=by kernel_rfl
def g71_4L (n:Nat) (kx0:List Z28→Int→Option β):Nat→List Z28→Int→Int→Int→Int→Int→Option β
  | 0,_,_,_,_,_,_=>none
  | m+1,x0,v9,o10,l10,v55,v56=>P0 n (g71_4L n kx0 m) kx0 x0 v9 o10 l10 v55 v56
def bJ7 (n:Nat) (kx0:List Z28→Int→Option β) (x0:List Z28) (v9 o10 l10 v55 v56:Int):Option β:=g71_4L n kx0 n x0 v9 o10 l10 v55 v56
def aU1 (n:Nat) (s:FState) (cx:Cx β):Option β:=bF (fun again s=>VJ n s {cx with nrm:=again}) n s
theorem X0 (n:Nat) (cx:Cx β):∀(m:Nat) (x0:List Z28) (v9 o10 l10 v55 v56:Int),bF (fun again s=>VJ n s {cx with nrm:=again}) m (wO x0 v9 o10 l10 v55 v56)=g71_4L n (fun x0 v9=>cx.ex 0 (BK x0 v9)) m x0 v9 o10 l10 v55 v56:=by
  intro m
  induction m with
  | zero=>intros;rfl
  | succ m ih=>intros;simp only [bF,g71_4L,aT6,ih]
theorem bO8 (n:Nat) (cx:Cx β) (x0:List Z28) (v9 o10 l10 v55 v56:Int):aU1 n (wO x0 v9 o10 l10 v55 v56) cx=bJ7 n (fun x0 v9=>cx.ex 0 (BK x0 v9)) x0 v9 o10 l10 v55 v56:=X0 n cx n x0 v9 o10 l10 v55 v56
def aY4 (n:Nat) (kn:List Z28→Int→Option β) (x0:List Z28) (v9 o10 l10 v55 v56:Int):Option β:=bJ7 n kn x0 v9 o10 l10 v55 v56
def t8 (n:Nat) (s:FState) (cx:Cx β):Option β:=aU1 n s {cx with ex:=fun j s=>bif Nat.beq j 0 then cx.nrm s else cx.ex j s}
theorem q8 (n:Nat) (cx:Cx β) (x0:List Z28) (v9 o10 l10 v55 v56:Int):t8 n (wO x0 v9 o10 l10 v55 v56) cx=aY4 n (fun x0 v9=>cx.nrm (BK x0 v9)) x0 v9 o10 l10 v55 v56:=bO8 n _ x0 v9 o10 l10 v55 v56
def K7 (n:Nat) (kr:List Z28→Option β) (x0:List Z28) (v9:Int):Option β:=bnd (0:Int) v9 (x0.length:Int)<|kr (cut x0 (0:Int) ((0:Int)+(v9 - (0:Int))))
def bN3 (n:Nat) (s:FState) (cx:Cx β):Option β:=FXs (qP n) n oH none (some gD) [] [[1,1,0,1,0,1,1,1,1,1,0],[1,1,0,1,0,1,1,1,1,1,1]] s cx
theorem bP0 (n:Nat) (cx:Cx β) (x0:List Z28) (v9:Int):bN3 n (BK x0 v9) cx=K7 n (fun x8=>cx.ret (vR x8)) x0 v9:=by kernel_rfl
def J6 (n:Nat) (kr:List Z28→Option β) (x0:List Z28) (v1 v2:Int) (x3:List Z28) (v26:Bool):Option β:=u9 n (fun x0 v9 o10 l10 v55 v56=>aY4 n (fun x0 v9=>K7 n kr x0 v9) x0 v9 o10 l10 v55 v56) x0 v1 v2 x3 v26
def TE (n:Nat) (s:FState) (cx:Cx β):Option β:=j8 n s {cx with nrm:=fun s=>t8 n s {cx with nrm:=fun s=>bN3 n s cx}}
theorem bM9 (n:Nat) (cx:Cx β) (x0:List Z28) (v1 v2:Int) (x3:List Z28) (v26:Bool):TE n (CN x0 v1 v2 x3 v26) cx=J6 n (fun x8=>cx.ret (vR x8)) x0 v1 v2 x3 v26:=by simp only [TE,J6,aJ7,q8,bP0]
def w8 (n:Nat) (kn:List Z28→Int→Int→List Z28→Option β) (x0:List Z28) (v1 v2:Int) (x3:List Z28) (v26:Bool):Option β:=kn x0 v1 v2 x3
def aS0 (n:Nat) (s:FState) (cx:Cx β):Option β:=FXs (qP n) n oH (some F6) none [] [[1,1,0,1,1]] s cx
theorem aO2 (n:Nat) (cx:Cx β) (x0:List Z28) (v1 v2:Int) (x3:List Z28) (v26:Bool):aS0 n (CN x0 v1 v2 x3 v26) cx=w8 n (fun x0 v1 v2 x3=>cx.nrm (TW x0 v1 v2 x3)) x0 v1 v2 x3 v26:=by kernel_rfl
def C3 (n:Nat) (kn:List Z28→Int→Int→List Z28→Option β) (kr:List Z28→Option β) (x0:List Z28) (v1 v2:Int) (x3:List Z28) (v26:Bool):Option β:=bif v26 then J6 n kr x0 v1 v2 x3 v26 else w8 n kn x0 v1 v2 x3 v26
def VD (n:Nat) (s:FState) (cx:Cx β):Option β:=asBool (ev s (uF (nav oH [1,1,0,1]))) fun t=>cond t (TE n s cx) (aS0 n s cx)
theorem aS9 (n:Nat) (cx:Cx β) (x0:List Z28) (v1 v2:Int) (x3:List Z28) (v26:Bool):VD n (CN x0 v1 v2 x3 v26) cx=C3 n (fun x0 v1 v2 x3=>cx.nrm (TW x0 v1 v2 x3)) (fun x8=>cx.ret (vR x8)) x0 v1 v2 x3 v26:=by
  simp only [VD,C3,bM9,aO2]
  kernel_rfl
def TU (n:Nat) (kn:List Z28→Int→Int→List Z28→Int→Option β) (x0:List Z28) (v1 v2:Int) (x3:List Z28):Option β:=kn x0 v1 v2 x3 (w64 ((w64 ((x0.length:Int) - v2))+(x3.length:Int)))
def C5 (n:Nat) (s:FState) (cx:Cx β):Option β:=FXs (qP n) n oH (some zH) none [] [[1,1,1,0]] s cx
theorem R9 (n:Nat) (cx:Cx β) (x0:List Z28) (v1 v2:Int) (x3:List Z28):C5 n (TW x0 v1 v2 x3) cx=TU n (fun x0 v1 v2 x3 v12=>cx.nrm (wC x0 v1 v2 x3 v12)) x0 v1 v2 x3:=by kernel_rfl
def KN (n:Nat) (kn:List Z28→Int→Int→List Z28→Int→Option β) (kx2:List Z28→Int→Int→List Z28→Option β) (x0:List Z28) (v1 v2:Int) (x3:List Z28) (v12:Int):Option β:=bif (decide ((x0.length:Int) < v12)) then (cG (x0.length+[Z18].length)<|kn (x0++[Z18]) v1 v2 x3 v12) else (kx2 x0 v1 v2 x3)
def HR (n:Nat) (s:FState) (cx:Cx β):Option β:=FXs (qP n) n oH (some zH) none [(2,zE)] [[1,1,1,1,0,0,0,0,0],[1,1,1,1,0,0,0,0,1],[1,1,1,1,0,0,0,1]] s cx
theorem S4 (n:Nat) (cx:Cx β) (x0:List Z28) (v1 v2:Int) (x3:List Z28) (v12:Int):HR n (wC x0 v1 v2 x3 v12) cx=KN n (fun x0 v1 v2 x3 v12=>cx.nrm (wC x0 v1 v2 x3 v12)) (fun x0 v1 v2 x3=>cx.ex 2 (DD x0 v1 v2 x3)) x0 v1 v2 x3 v12:=by kernel_rfl
def g71_12L (n:Nat) (kx2:List Z28→Int→Int→List Z28→Option β):Nat→List Z28→Int→Int→List Z28→Int→Option β
  | 0,_,_,_,_,_=>none
  | m+1,x0,v1,v2,x3,v12=>KN n (g71_12L n kx2 m) kx2 x0 v1 v2 x3 v12
def XV (n:Nat) (kx2:List Z28→Int→Int→List Z28→Option β) (x0:List Z28) (v1 v2:Int) (x3:List Z28) (v12:Int):Option β:=g71_12L n kx2 n x0 v1 v2 x3 v12
def F2 (n:Nat) (s:FState) (cx:Cx β):Option β:=bF (fun again s=>HR n s {cx with nrm:=again}) n s
theorem WP (n:Nat) (cx:Cx β):∀(m:Nat) (x0:List Z28) (v1 v2:Int) (x3:List Z28) (v12:Int),bF (fun again s=>HR n s {cx with nrm:=again}) m (wC x0 v1 v2 x3 v12)=g71_12L n (fun x0 v1 v2 x3=>cx.ex 2 (DD x0 v1 v2 x3)) m x0 v1 v2 x3 v12:=by
  intro m
  induction m with
  | zero=>intros;rfl
  | succ m ih=>intros;simp only [bF,g71_12L,S4,ih]
theorem W3 (n:Nat) (cx:Cx β) (x0:List Z28) (v1 v2:Int) (x3:List Z28) (v12:Int):F2 n (wC x0 v1 v2 x3 v12) cx=XV n (fun x0 v1 v2 x3=>cx.ex 2 (DD x0 v1 v2 x3)) x0 v1 v2 x3 v12:=WP n cx n x0 v1 v2 x3 v12
def XS (n:Nat) (kn:List Z28→Int→Int→List Z28→Option β) (x0:List Z28) (v1 v2:Int) (x3:List Z28) (v12:Int):Option β:=XV n kn x0 v1 v2 x3 v12
def P3 (n:Nat) (s:FState) (cx:Cx β):Option β:=F2 n s {cx with ex:=fun j s=>bif Nat.beq j 2 then cx.nrm s else cx.ex j s}
theorem T1 (n:Nat) (cx:Cx β) (x0:List Z28) (v1 v2:Int) (x3:List Z28) (v12:Int):P3 n (wC x0 v1 v2 x3 v12) cx=XS n (fun x0 v1 v2 x3=>cx.nrm (DD x0 v1 v2 x3)) x0 v1 v2 x3 v12:=W3 n _ x0 v1 v2 x3 v12
def MG (n:Nat) (kr:List Z28→Option β) (x0:List Z28) (v1 v2:Int) (x3:List Z28):Option β:=bnd (w64 (v1+(x3.length:Int))) (x0.length:Int) (x0.length:Int)<|bnd (w64 (v1+v2)) (x0.length:Int) (x0.length:Int)<|bnd v1 ((aQ x0 ((w64 (v1+(x3.length:Int)))+(0:Int)) ((x0.length:Int) - (w64 (v1+(x3.length:Int)))) (cut x0 (w64 (v1+v2)) ((w64 (v1+v2))+((x0.length:Int) - (w64 (v1+v2)))))).length:Int) ((aQ x0 ((w64 (v1+(x3.length:Int)))+(0:Int)) ((x0.length:Int) - (w64 (v1+(x3.length:Int)))) (cut x0 (w64 (v1+v2)) ((w64 (v1+v2))+((x0.length:Int) - (w64 (v1+v2)))))).length:Int)<|kr (aQ (aQ x0 ((w64 (v1+(x3.length:Int)))+(0:Int)) ((x0.length:Int) - (w64 (v1+(x3.length:Int)))) (cut x0 (w64 (v1+v2)) ((w64 (v1+v2))+((x0.length:Int) - (w64 (v1+v2)))))) (v1+(0:Int)) (((aQ x0 ((w64 (v1+(x3.length:Int)))+(0:Int)) ((x0.length:Int) - (w64 (v1+(x3.length:Int)))) (cut x0 (w64 (v1+v2)) ((w64 (v1+v2))+((x0.length:Int) - (w64 (v1+v2)))))).length:Int) - v1) x3)
def C4 (n:Nat) (s:FState) (cx:Cx β):Option β:=FXs (qP n) n oH none (some gD) [] [[1,1,1,1,1,0],[1,1,1,1,1,1,0],[1,1,1,1,1,1,1,0],[1,1,1,1,1,1,1,1]] s cx
theorem S7 (n:Nat) (cx:Cx β) (x0:List Z28) (v1 v2:Int) (x3:List Z28):C4 n (DD x0 v1 v2 x3) cx=MG n (fun x8=>cx.ret (vR x8)) x0 v1 v2 x3:=by kernel_rfl
def JN (n:Nat) (kr:List Z28→Option β) (x0:List Z28) (v1 v2:Int) (x3:List Z28):Option β:=l7 n (fun x0 v1 v2 x3 v26=>C3 n (fun x0 v1 v2 x3=>TU n (fun x0 v1 v2 x3 v12=>XS n (fun x0 v1 v2 x3=>MG n kr x0 v1 v2 x3) x0 v1 v2 x3 v12) x0 v1 v2 x3) kr x0 v1 v2 x3 v26) kr x0 v1 v2 x3
def yB (n:Nat) (s:FState) (cx:Cx β):Option β:=bE8 n s {cx with nrm:=fun s=>VD n s {cx with nrm:=fun s=>C5 n s {cx with nrm:=fun s=>P3 n s {cx with nrm:=fun s=>C4 n s cx}}}}
theorem a8 (n:Nat) (cx:Cx β) (x0:List Z28) (v1 v2:Int) (x3:List Z28):yB n (VQ x0 v1 v2 x3) cx=JN n (fun x8=>cx.ret (vR x8)) x0 v1 v2 x3:=by simp only [yB,JN,aG9,aS9,R9,T1,S7]
def g71 (n:Nat) (x0:List Z28) (v1 v2:Int) (x3:List Z28):Option (DenR [.rw Z24 81]):=JN n (fun x8=>some (x8,())) x0 v1 v2 x3
def cM7:List AK:=[.rw Z24 81, .dat (.int .i64), .dat (.int .i64), .ro Z24 81]
def l8:List RK:=[.rw Z24 81]
def dD8 (n:Nat) (d:DenA cM7):Option (DenR l8):=g71 n d.1 d.2.1 d.2.2.1 d.2.2.2.1
def cI9 (n:Nat):Spec:=aK cM7 l8 (dD8 n)
def cC9:Sk:=(.nd (.fin none none (some gD) [] .leaf) (.nd (.nd (.fin none none (some gD) [] .leaf) (.fin none none (some gD) [] .leaf)) (.nd (.nd (.fin none (some J5) (some gD) [] .leaf) (.nd (.nd (.fin none none none [] .leaf) (.nd (.fin none none none [] .leaf) (.nd (.fin none none none [] .leaf) (.nd (.fin none none none [] .leaf) (.nd (.nd (.fin none (some yK) none [] .leaf) (.nd (.nd (.nd (.fin none none none [(0,tR)] .leaf) (.nd (.fin none none none [(0,tR)] .leaf) (.nd (.fin none none none [(0,tR)] .leaf) (.fin none (some yK) none [(0,tR)] .leaf)))) .leaf) .leaf)) (.nd (.fin none none (some gD) [] .leaf) (.fin none none (some gD) [] .leaf))))))) (.fin none (some F6) none [] .leaf))) (.nd (.fin none (some zH) none [] .leaf) (.nd (.nd (.nd (.nd (.nd (.fin none none none [(2,zE)] .leaf) (.fin none none none [(2,zE)] .leaf)) (.fin none (some zH) none [(2,zE)] .leaf)) .leaf) .leaf) (.nd (.fin none none (some gD) [] .leaf) (.nd (.fin none none (some gD) [] .leaf) (.nd (.fin none none (some gD) [] .leaf) (.fin none none (some gD) [] .leaf)))))))))
theorem bU0 (n:Nat) (s:FState) (cx:Cx β):FX (qP n) n oH cC9 s cx=yB n s cx:=by kernel_rfl
theorem bR4 (n:Nat):Fit Tryd.prog 71 (cI9 n):=
  bY (Γ:=Γ0) (l:=cN7 n) (n:=n) (sk:=cC9) (ts:=[(8,none)]) (fn:=Tryd.f71) (c:=oH) (by kernel_rfl) (by kernel_rfl) (by unfold aJ;kernel_rfl) bT trivial aE (by kernel_rfl) (by kernel_rfl) (Nat.le_of_ble_eq_true (by kernel_rfl)) (Nat.le_of_ble_eq_true (by kernel_rfl)) (by kernel_rfl) (by kernel_rfl)
    (fun d=>(bU0 n _ _).trans (Eq.trans (b:=yB n (VQ d.1 d.2.1 d.2.2.1 d.2.2.2.1) (cD (qP n) l8 [(8,none)])) (by kernel_rfl) ((a8 n _ d.1 d.2.1 d.2.2.1 d.2.2.2.1).trans (by kernel_rfl))))
def G7 (v0 v1:ByteArray):FState:=⟨aD [(0, .dat .str v0),(1, .dat .str v1)],aC []⟩
def bY5 (v4:Bool):FState:=⟨aD [(4, .dat .bool v4)],aC []⟩
def uO:List NE:=[.keep 4]
def aY7 (n:Nat):List (Nat×Spec):=[]
def A4 (n:Nat):Ctx:={Γ0 with calls:=lkS (aY7 n)}
def WU:Code:=fb Tryd.f111
def UO (n:Nat) (kr:Bool→Option β) (v0 v1:ByteArray):Option β:=bif (decide ((v0.size:Int)≥(v1.size:Int))) then (bnd (w64 ((v0.size:Int) - (v1.size:Int))) (v0.size:Int) (v0.size:Int)<|kr (dQ (cF v0 (w64 ((v0.size:Int) - (v1.size:Int))) (v0.size:Int)) v1)) else (kr false)
def LP (n:Nat) (s:FState) (cx:Cx β):Option β:=FXs (A4 n) n WU none (some uO) [] [[0],[1,0],[1,1]] s cx
theorem X4 (n:Nat) (cx:Cx β) (v0 v1:ByteArray):LP n (G7 v0 v1) cx=UO n (fun v4=>cx.ret (bY5 v4)) v0 v1:=by kernel_rfl
def cS8 (n:Nat) (v0 v1:ByteArray):Option (DenR [.dat .bool]):=UO n (fun v4=>some (v4,())) v0 v1
def aH8:List AK:=[.dat .str, .dat .str]
def ZC:List RK:=[.dat .bool]
def cS7 (n:Nat) (d:DenA aH8):Option (DenR ZC):=cS8 n d.1 d.2.1
def bM8 (n:Nat):Spec:=aK aH8 ZC (cS7 n)
def q5:Sk:=(.nd (.fin none none (some uO) [] .leaf) (.nd (.fin none none (some uO) [] .leaf) (.fin none none (some uO) [] .leaf)))
theorem bE7 (n:Nat) (s:FState) (cx:Cx β):FX (A4 n) n WU q5 s cx=LP n s cx:=by kernel_rfl
theorem aE5 (n:Nat):Fit Tryd.prog 111 (bM8 n):=
  bY (Γ:=Γ0) (l:=aY7 n) (n:=n) (sk:=q5) (ts:=[(4,none)]) (fn:=Tryd.f111) (c:=WU) (by kernel_rfl) (by kernel_rfl) (by unfold aJ;kernel_rfl) bT trivial aE (by kernel_rfl) (by kernel_rfl) (Nat.le_of_ble_eq_true (by kernel_rfl)) (Nat.le_of_ble_eq_true (by kernel_rfl)) (by kernel_rfl) (by kernel_rfl)
    (fun d=>(bE7 n _ _).trans (Eq.trans (b:=LP n (G7 d.1 d.2.1) (cD (A4 n) ZC [(4,none)])) (by kernel_rfl) ((X4 n _ d.1 d.2.1).trans (by kernel_rfl))))
def aW0 (v0 v1:ByteArray):FState:=⟨aD [(0, .dat .str v0),(1, .dat .str v1)],aC []⟩
def cW1 (v4:Bool):FState:=⟨aD [(4, .dat .bool v4)],aC []⟩
def zT:List NE:=[.keep 4]
def cG7 (n:Nat):List (Nat×Spec):=[(111,bM8 n)]
def y6 (n:Nat):Ctx:={Γ0 with calls:=lkS (cG7 n)}
def bO0:Code:=fb Tryd.f91
def bO2 (n:Nat) (kr:Bool→Option β) (v0 v1:ByteArray):Option β:=(cS8 n v0 v1).bind fun r1=>kr r1.1
def YK (n:Nat) (s:FState) (cx:Cx β):Option β:=FXs (y6 n) n bO0 none (some zT) [] [[0],[1,0],[1,1]] s cx
theorem aE4 (n:Nat) (cx:Cx β) (v0 v1:ByteArray):YK n (aW0 v0 v1) cx=bO2 n (fun v4=>cx.ret (cW1 v4)) v0 v1:=by kernel_rfl
def g91 (n:Nat) (v0 v1:ByteArray):Option (DenR [.dat .bool]):=bO2 n (fun v4=>some (v4,())) v0 v1
def cO1:List AK:=[.dat .str, .dat .str]
def aU8:List RK:=[.dat .bool]
def dD5 (n:Nat) (d:DenA cO1):Option (DenR aU8):=g91 n d.1 d.2.1
def cB0 (n:Nat):Spec:=aK cO1 aU8 (dD5 n)
def cM3:Sk:=(.nd (.fin none none (some zT) [] .leaf) (.nd (.fin none none (some zT) [] .leaf) (.fin none none (some zT) [] .leaf)))
theorem bT1 (n:Nat) (s:FState) (cx:Cx β):FX (y6 n) n bO0 cM3 s cx=YK n s cx:=by kernel_rfl
theorem cA8 (n:Nat):Fit Tryd.prog 91 (cB0 n):=
  bY (Γ:=Γ0) (l:=cG7 n) (n:=n) (sk:=cM3) (ts:=[(4,none)]) (fn:=Tryd.f91) (c:=bO0) (by kernel_rfl) (by kernel_rfl) (by unfold aJ;kernel_rfl) bT ⟨aE5 n,trivial⟩ aE (by kernel_rfl) (by kernel_rfl) (Nat.le_of_ble_eq_true (by kernel_rfl)) (Nat.le_of_ble_eq_true (by kernel_rfl)) (by kernel_rfl) (by kernel_rfl)
    (fun d=>(bT1 n _ _).trans (Eq.trans (b:=YK n (aW0 d.1 d.2.1) (cD (y6 n) aU8 [(4,none)])) (by kernel_rfl) ((aE4 n _ d.1 d.2.1).trans (by kernel_rfl))))
def B9 (v0 v1:ByteArray):FState:=⟨aD [(0, .dat .str v0),(1, .dat .str v1)],aC []⟩
def bZ2 (v4:Bool):FState:=⟨aD [(4, .dat .bool v4)],aC []⟩
def tS:List NE:=[.keep 4]
def aZ0 (n:Nat):List (Nat×Spec):=[]
def YG (n:Nat):Ctx:={Γ0 with calls:=lkS (aZ0 n)}
def TM:Code:=fb Tryd.f112
def YL (n:Nat) (kr:Bool→Option β) (v0 v1:ByteArray):Option β:=bif (decide ((v0.size:Int)≥(v1.size:Int))) then (bnd (0:Int) (v1.size:Int) (v0.size:Int)<|kr (dQ (cF v0 (0:Int) (v1.size:Int)) v1)) else (kr false)
def JO (n:Nat) (s:FState) (cx:Cx β):Option β:=FXs (YG n) n TM none (some tS) [] [[0],[1,0],[1,1]] s cx
theorem g7 (n:Nat) (cx:Cx β) (v0 v1:ByteArray):JO n (B9 v0 v1) cx=YL n (fun v4=>cx.ret (bZ2 v4)) v0 v1:=by kernel_rfl
def cS4 (n:Nat) (v0 v1:ByteArray):Option (DenR [.dat .bool]):=YL n (fun v4=>some (v4,())) v0 v1
def aN0:List AK:=[.dat .str, .dat .str]
def XF:List RK:=[.dat .bool]
def cV2 (n:Nat) (d:DenA aN0):Option (DenR XF):=cS4 n d.1 d.2.1
def bD6 (n:Nat):Spec:=aK aN0 XF (cV2 n)
def aY0:Sk:=(.nd (.fin none none (some tS) [] .leaf) (.nd (.fin none none (some tS) [] .leaf) (.fin none none (some tS) [] .leaf)))
theorem u7 (n:Nat) (s:FState) (cx:Cx β):FX (YG n) n TM aY0 s cx=JO n s cx:=by kernel_rfl
theorem bA4 (n:Nat):Fit Tryd.prog 112 (bD6 n):=
  bY (Γ:=Γ0) (l:=aZ0 n) (n:=n) (sk:=aY0) (ts:=[(4,none)]) (fn:=Tryd.f112) (c:=TM) (by kernel_rfl) (by kernel_rfl) (by unfold aJ;kernel_rfl) bT trivial aE (by kernel_rfl) (by kernel_rfl) (Nat.le_of_ble_eq_true (by kernel_rfl)) (Nat.le_of_ble_eq_true (by kernel_rfl)) (by kernel_rfl) (by kernel_rfl)
    (fun d=>(u7 n _ _).trans (Eq.trans (b:=JO n (B9 d.1 d.2.1) (cD (YG n) XF [(4,none)])) (by kernel_rfl) ((g7 n _ d.1 d.2.1).trans (by kernel_rfl))))
def aX7 (v0 v1:ByteArray):FState:=⟨aD [(0, .dat .str v0),(1, .dat .str v1)],aC []⟩
def cT7 (v4:Bool):FState:=⟨aD [(4, .dat .bool v4)],aC []⟩
def zG:List NE:=[.keep 4]
def cR8 (n:Nat):List (Nat×Spec):=[(112,bD6 n)]
def bD3 (n:Nat):Ctx:={Γ0 with calls:=lkS (cR8 n)}
def aZ6:Code:=fb Tryd.f92
def o7 (n:Nat) (kr:Bool→Option β) (v0 v1:ByteArray):Option β:=(cS4 n v0 v1).bind fun r1=>kr r1.1
def ZA (n:Nat) (s:FState) (cx:Cx β):Option β:=FXs (bD3 n) n aZ6 none (some zG) [] [[0],[1,0],[1,1]] s cx
theorem bD0 (n:Nat) (cx:Cx β) (v0 v1:ByteArray):ZA n (aX7 v0 v1) cx=o7 n (fun v4=>cx.ret (cT7 v4)) v0 v1:=by kernel_rfl
def g92 (n:Nat) (v0 v1:ByteArray):Option (DenR [.dat .bool]):=o7 n (fun v4=>some (v4,())) v0 v1
def cN4:List AK:=[.dat .str, .dat .str]
def aV7:List RK:=[.dat .bool]
def dA0 (n:Nat) (d:DenA cN4):Option (DenR aV7):=g92 n d.1 d.2.1
def cI1 (n:Nat):Spec:=aK cN4 aV7 (dA0 n)
def cE5:Sk:=(.nd (.fin none none (some zG) [] .leaf) (.nd (.fin none none (some zG) [] .leaf) (.fin none none (some zG) [] .leaf)))
theorem cA0 (n:Nat) (s:FState) (cx:Cx β):FX (bD3 n) n aZ6 cE5 s cx=ZA n s cx:=by kernel_rfl
theorem bQ0 (n:Nat):Fit Tryd.prog 92 (cI1 n):=
  bY (Γ:=Γ0) (l:=cR8 n) (n:=n) (sk:=cE5) (ts:=[(4,none)]) (fn:=Tryd.f92) (c:=aZ6) (by kernel_rfl) (by kernel_rfl) (by unfold aJ;kernel_rfl) bT ⟨bA4 n,trivial⟩ aE (by kernel_rfl) (by kernel_rfl) (Nat.le_of_ble_eq_true (by kernel_rfl)) (Nat.le_of_ble_eq_true (by kernel_rfl)) (by kernel_rfl) (by kernel_rfl)
    (fun d=>(cA0 n _ _).trans (Eq.trans (b:=ZA n (aX7 d.1 d.2.1) (cD (bD3 n) aV7 [(4,none)])) (by kernel_rfl) ((bD0 n _ d.1 d.2.1).trans (by kernel_rfl))))
def lC:List AK:=[.pro Z1 74, .rw Z24 81]
def iM:List RK:=[.rw Z24 81]
abbrev Q73:=DenA lC→Option (DenR iM)
def UK (p0:Z10) (x1:List Z28):FState:=⟨aD [(0, .ptr 0 0 0),(1, .sl 1 none false)],aC [(0, .row Z1 74 false [p0]),(1, .row Z24 81 true x1)]⟩
def aJ2 (x4:List Z28):FState:=⟨aD [(4, .sl 4 none false)],aC [(4, .row Z24 81 true x4)]⟩
def sP:List NE:=[.row 4 Z24 81 true]
def dE (p0:Z10) (x1:List Z28) (v5 v6 v7:Int) (x9 x10:List Int):FState:=⟨aD [(0, .ptr 0 0 0),(1, .sl 1 none false),(5, .dat (.int .i64) v5),(6, .dat (.int .i64) v6),(7, .dat (.int .i64) v7),(9, .sl 9 none false),(10, .sl 10 none false)],aC [(0, .row Z1 74 false [p0]),(1, .row Z24 81 true x1),(9, .row (.int .i32) 21 true x9),(10, .row (.int .i32) 21 true x10)]⟩
def dI:List NE:=[.ptr 0 Z1 74 false, .row 1 Z24 81 true, .keep 5, .keep 6, .keep 7, .row 9 (.int .i32) 21 true, .row 10 (.int .i32) 21 true]
def wQ (p0:Z10) (x1:List Z28):FState:=⟨aD [(0, .ptr 0 0 0),(1, .sl 1 none false)],aC [(0, .row Z1 74 false [p0]),(1, .row Z24 81 true x1)]⟩
def LI:List NE:=[.ptr 0 Z1 74 false, .row 1 Z24 81 true]
def IK (p0:Z10) (x1:List Z28) (v5 v6 v7:Int) (x9 x10:List Int):FState:=⟨aD [(0, .ptr 0 0 0),(1, .sl 1 none false),(5, .dat (.int .i64) v5),(6, .dat (.int .i64) v6),(7, .dat (.int .i64) v7),(9, .sl 9 none false),(10, .sl 10 none false)],aC [(0, .row Z1 74 false [p0]),(1, .row Z24 81 true x1),(9, .row (.int .i32) 21 true x9),(10, .row (.int .i32) 21 true x10)]⟩
def P7:List NE:=[.ptr 0 Z1 74 false, .row 1 Z24 81 true, .keep 5, .keep 6, .keep 7, .row 9 (.int .i32) 21 true, .row 10 (.int .i32) 21 true]
def IR (p0:Z10) (x1:List Z28) (v5 v6 v7:Int) (x9 x10:List Int) (v27:Int):FState:=⟨aD [(0, .ptr 0 0 0),(1, .sl 1 none false),(5, .dat (.int .i64) v5),(6, .dat (.int .i64) v6),(7, .dat (.int .i64) v7),(9, .sl 9 none false),(10, .sl 10 none false),(27, .dat (.int .i8) v27)],aC [(0, .row Z1 74 false [p0]),(1, .row Z24 81 true x1),(9, .row (.int .i32) 21 true x9),(10, .row (.int .i32) 21 true x10)]⟩
def O3:List NE:=[.ptr 0 Z1 74 false, .row 1 Z24 81 true, .keep 5, .keep 6, .keep 7, .row 9 (.int .i32) 21 true, .row 10 (.int .i32) 21 true, .keep 27]
def AV (p0:Z10) (x1:List Z28) (v5 v6 v7:Int) (x9 x10:List Int) (v27:Int) (v28:Bool):FState:=⟨aD [(0, .ptr 0 0 0),(1, .sl 1 none false),(5, .dat (.int .i64) v5),(6, .dat (.int .i64) v6),(7, .dat (.int .i64) v7),(9, .sl 9 none false),(10, .sl 10 none false),(27, .dat (.int .i8) v27),(28, .dat .bool v28)],aC [(0, .row Z1 74 false [p0]),(1, .row Z24 81 true x1),(9, .row (.int .i32) 21 true x9),(10, .row (.int .i32) 21 true x10)]⟩
def L5:List NE:=[.ptr 0 Z1 74 false, .row 1 Z24 81 true, .keep 5, .keep 6, .keep 7, .row 9 (.int .i32) 21 true, .row 10 (.int .i32) 21 true, .keep 27, .keep 28]
def CE (p0:Z10) (x1:List Z28) (v5 v6 v7:Int) (x9 x10:List Int) (v27:Int) (v42:Bool):FState:=⟨aD [(0, .ptr 0 0 0),(1, .sl 1 none false),(5, .dat (.int .i64) v5),(6, .dat (.int .i64) v6),(7, .dat (.int .i64) v7),(9, .sl 9 none false),(10, .sl 10 none false),(27, .dat (.int .i8) v27),(42, .dat .bool v42)],aC [(0, .row Z1 74 false [p0]),(1, .row Z24 81 true x1),(9, .row (.int .i32) 21 true x9),(10, .row (.int .i32) 21 true x10)]⟩
def O4:List NE:=[.ptr 0 Z1 74 false, .row 1 Z24 81 true, .keep 5, .keep 6, .keep 7, .row 9 (.int .i32) 21 true, .row 10 (.int .i32) 21 true, .keep 27, .keep 42]
def BB (p0:Z10) (x1:List Z28) (v5 v6 v7:Int) (x9 x10:List Int) (v56:Bool):FState:=⟨aD [(0, .ptr 0 0 0),(1, .sl 1 none false),(5, .dat (.int .i64) v5),(6, .dat (.int .i64) v6),(7, .dat (.int .i64) v7),(9, .sl 9 none false),(10, .sl 10 none false),(56, .dat .bool v56)],aC [(0, .row Z1 74 false [p0]),(1, .row Z24 81 true x1),(9, .row (.int .i32) 21 true x9),(10, .row (.int .i32) 21 true x10)]⟩
def C8:List NE:=[.ptr 0 Z1 74 false, .row 1 Z24 81 true, .keep 5, .keep 6, .keep 7, .row 9 (.int .i32) 21 true, .row 10 (.int .i32) 21 true, .keep 56]
def EP (p0:Z10) (x1:List Z28) (v5 v6 v7:Int) (x9 x10:List Int) (v61:Bool):FState:=⟨aD [(0, .ptr 0 0 0),(1, .sl 1 none false),(5, .dat (.int .i64) v5),(6, .dat (.int .i64) v6),(7, .dat (.int .i64) v7),(9, .sl 9 none false),(10, .sl 10 none false),(61, .dat .bool v61)],aC [(0, .row Z1 74 false [p0]),(1, .row Z24 81 true x1),(9, .row (.int .i32) 21 true x9),(10, .row (.int .i32) 21 true x10)]⟩
def O6:List NE:=[.ptr 0 Z1 74 false, .row 1 Z24 81 true, .keep 5, .keep 6, .keep 7, .row 9 (.int .i32) 21 true, .row 10 (.int .i32) 21 true, .keep 61]
def tU (p0:Z10) (x1:List Z28) (v5:Int):FState:=⟨aD [(0, .ptr 0 0 0),(1, .sl 1 none false),(5, .dat (.int .i64) v5)],aC [(0, .row Z1 74 false [p0]),(1, .row Z24 81 true x1)]⟩
def rW:List NE:=[.ptr 0 Z1 74 false, .row 1 Z24 81 true, .keep 5]
def F5 (p0:Z10) (x1:List Z28) (v5 v6 v7:Int) (x9 x10:List Int):FState:=⟨aD [(0, .ptr 0 0 0),(1, .sl 1 none false),(5, .dat (.int .i64) v5),(6, .dat (.int .i64) v6),(7, .dat (.int .i64) v7),(9, .sl 9 none false),(10, .sl 10 none false)],aC [(0, .row Z1 74 false [p0]),(1, .row Z24 81 true x1),(9, .row (.int .i32) 21 true x9),(10, .row (.int .i32) 21 true x10)]⟩
def OM:List NE:=[.ptr 0 Z1 74 false, .row 1 Z24 81 true, .keep 5, .keep 6, .keep 7, .row 9 (.int .i32) 21 true, .row 10 (.int .i32) 21 true]
def F1 (p0:Z10) (x1:List Z28) (v5 v6 v7:Int):FState:=⟨aD [(0, .ptr 0 0 0),(1, .sl 1 none false),(5, .dat (.int .i64) v5),(6, .dat (.int .i64) v6),(7, .dat (.int .i64) v7)],aC [(0, .row Z1 74 false [p0]),(1, .row Z24 81 true x1)]⟩
def SK:List NE:=[.ptr 0 Z1 74 false, .row 1 Z24 81 true, .keep 5, .keep 6, .keep 7]
def P4 (p0:Z10) (x1:List Z28) (v5 v7:Int):FState:=⟨aD [(0, .ptr 0 0 0),(1, .sl 1 none false),(5, .dat (.int .i64) v5),(7, .dat (.int .i64) v7)],aC [(0, .row Z1 74 false [p0]),(1, .row Z24 81 true x1)]⟩
def QE:List NE:=[.ptr 0 Z1 74 false, .row 1 Z24 81 true, .keep 5, .keep 7]
def K1 (p0:Z10) (x1:List Z28):FState:=⟨aD [(0, .ptr 0 0 0),(1, .sl 1 none false)],aC [(0, .row Z1 74 false [p0]),(1, .row Z24 81 true x1)]⟩
def RS:List NE:=[.ptr 0 Z1 74 false, .row 1 Z24 81 true]
def oU (p0:Z10) (x1:List Z28) (v5:Int) (v14:Bool):FState:=⟨aD [(0, .ptr 0 0 0),(1, .sl 1 none false),(5, .dat (.int .i64) v5),(14, .dat .bool v14)],aC [(0, .row Z1 74 false [p0]),(1, .row Z24 81 true x1)]⟩
def sN:List NE:=[.ptr 0 Z1 74 false, .row 1 Z24 81 true, .keep 5, .keep 14]
def vB (p0:Z10) (x1:List Z28) (v14:Bool):FState:=⟨aD [(0, .ptr 0 0 0),(1, .sl 1 none false),(14, .dat .bool v14)],aC [(0, .row Z1 74 false [p0]),(1, .row Z24 81 true x1)]⟩
def sM:List NE:=[.ptr 0 Z1 74 false, .row 1 Z24 81 true, .keep 14]
def cM0 (n:Nat) (q73:Q73):List (Nat×Spec):=[(71,cI9 n),(80,aR3 n),(81,bD1 n),(91,cB0 n),(92,cI1 n),(73,aK lC iM q73)]
def gH (n:Nat) (q73:Q73):Ctx:={Γ0 with calls:=lkS (cM0 n q73)}
def fC:Code:=fb Tryd.f73
def bL7 (n:Nat) (q73:Q73) (kn:Z10→List Z28→Int→Int→Int→List Int→List Int→Option β) (p0:Z10) (x1:List Z28):Option β:=cG (x1.length+[Z18].length)<|kn p0 (x1++[Z18]) (0:Int) (0:Int) (0:Int) [] []
def bI8 (n:Nat) (q73:Q73) (s:FState) (cx:Cx β):Option β:=FXs (gH n q73) n fC (some dI) none [] [[0],[1,0],[1,1,0],[1,1,1,0],[1,1,1,1,0],[1,1,1,1,1,0],[1,1,1,1,1,1,0],[1,1,1,1,1,1,1,0]] s cx
theorem aQ9 (n:Nat) (q73:Q73) (cx:Cx β) (p0:Z10) (x1:List Z28):bI8 n q73 (UK p0 x1) cx=bL7 n q73 (fun p0 x1 v5 v6 v7 x9 x10=>cx.nrm (dE p0 x1 v5 v6 v7 x9 x10)) p0 x1:=by kernel_rfl
def J0 (n:Nat) (q73:Q73) (kn:Z10→List Z28→Int→Int→Int→List Int→List Int→Option β) (kx0:Z10→List Z28→Option β) (p0:Z10) (x1:List Z28) (v5 v6 v7:Int) (x9 x10:List Int):Option β:=bif (decide (v5 < (x1.length:Int))) then (kn p0 x1 v5 v6 v7 x9 x10) else (kx0 p0 x1)
def aX5 (n:Nat) (q73:Q73) (s:FState) (cx:Cx β):Option β:=FXs (gH n q73) n fC (some P7) none [(0,LI)] [[1,1,1,1,1,1,1,1,0,0,0,0,0],[1,1,1,1,1,1,1,1,0,0,0,0,1]] s cx
theorem bE2 (n:Nat) (q73:Q73) (cx:Cx β) (p0:Z10) (x1:List Z28) (v5 v6 v7:Int) (x9 x10:List Int):aX5 n q73 (dE p0 x1 v5 v6 v7 x9 x10) cx=J0 n q73 (fun p0 x1 v5 v6 v7 x9 x10=>cx.nrm (IK p0 x1 v5 v6 v7 x9 x10)) (fun p0 x1=>cx.ex 0 (wQ p0 x1)) p0 x1 v5 v6 v7 x9 x10:=by kernel_rfl
def aI1 (n:Nat) (q73:Q73) (kn:Z10→List Z28→Int→Int→Int→List Int→List Int→Int→Option β) (p0:Z10) (x1:List Z28) (v5 v6 v7:Int) (x9 x10:List Int):Option β:=idx v5 (x1.length:Int)<|kn p0 x1 v5 v6 v7 x9 x10 ((rd x1 v5 Z18).1)
def bJ6 (n:Nat) (q73:Q73) (s:FState) (cx:Cx β):Option β:=FXs (gH n q73) n fC (some O3) none [] [[1,1,1,1,1,1,1,1,0,0,0,1,0,0]] s cx
theorem aF9 (n:Nat) (q73:Q73) (cx:Cx β) (p0:Z10) (x1:List Z28) (v5 v6 v7:Int) (x9 x10:List Int):bJ6 n q73 (IK p0 x1 v5 v6 v7 x9 x10) cx=aI1 n q73 (fun p0 x1 v5 v6 v7 x9 x10 v27=>cx.nrm (IR p0 x1 v5 v6 v7 x9 x10 v27)) p0 x1 v5 v6 v7 x9 x10:=by kernel_rfl
def aO3 (n:Nat) (q73:Q73) (kn:Z10→List Z28→Int→Int→Int→List Int→List Int→Int→Bool→Option β) (p0:Z10) (x1:List Z28) (v5 v6 v7:Int) (x9 x10:List Int) (v27:Int):Option β:=kn p0 x1 v5 v6 v7 x9 x10 v27 (v27==(1:Int))
def bO9 (n:Nat) (q73:Q73) (s:FState) (cx:Cx β):Option β:=FXs (gH n q73) n fC (some L5) none [] [[1,1,1,1,1,1,1,1,0,0,0,1,0,1,0,0]] s cx
theorem aQ6 (n:Nat) (q73:Q73) (cx:Cx β) (p0:Z10) (x1:List Z28) (v5 v6 v7:Int) (x9 x10:List Int) (v27:Int):bO9 n q73 (IR p0 x1 v5 v6 v7 x9 x10 v27) cx=aO3 n q73 (fun p0 x1 v5 v6 v7 x9 x10 v27 v28=>cx.nrm (AV p0 x1 v5 v6 v7 x9 x10 v27 v28)) p0 x1 v5 v6 v7 x9 x10 v27:=by kernel_rfl
def aD4 (n:Nat) (q73:Q73) (kx2:Z10→List Z28→Int→Int→Int→List Int→List Int→Option β) (p0:Z10) (x1:List Z28) (v5 v6 v7:Int) (x9 x10:List Int) (v27:Int) (v28:Bool):Option β:=idx v5 (x1.length:Int)<|oN ((rd x1 v5 Z18).2)<|cG (x10.length+(bE ((rd x1 v5 Z18).2)).length)<|kx2 p0 x1 (w64 (v5+1)) v6 (w64 (v7+1)) x9 (x10++(bE ((rd x1 v5 Z18).2)))
def bM2 (n:Nat) (q73:Q73) (s:FState) (cx:Cx β):Option β:=FXs (gH n q73) n fC none none [(2,dI)] [[1,1,1,1,1,1,1,1,0,0,0,1,0,1,0,1,0,0],[1,1,1,1,1,1,1,1,0,0,0,1,0,1,0,1,0,1,0],[1,1,1,1,1,1,1,1,0,0,0,1,0,1,0,1,0,1,1,0],[1,1,1,1,1,1,1,1,0,0,0,1,0,1,0,1,0,1,1,1]] s cx
theorem aD0 (n:Nat) (q73:Q73) (cx:Cx β) (p0:Z10) (x1:List Z28) (v5 v6 v7:Int) (x9 x10:List Int) (v27:Int) (v28:Bool):bM2 n q73 (AV p0 x1 v5 v6 v7 x9 x10 v27 v28) cx=aD4 n q73 (fun p0 x1 v5 v6 v7 x9 x10=>cx.ex 2 (dE p0 x1 v5 v6 v7 x9 x10)) p0 x1 v5 v6 v7 x9 x10 v27 v28:=by kernel_rfl
def aR4 (n:Nat) (q73:Q73) (kn:Z10→List Z28→Int→Int→Int→List Int→List Int→Int→Bool→Option β) (p0:Z10) (x1:List Z28) (v5 v6 v7:Int) (x9 x10:List Int) (v27:Int) (v28:Bool):Option β:=kn p0 x1 v5 v6 v7 x9 x10 v27 (v27==(-1:Int))
def l9 (n:Nat) (q73:Q73) (s:FState) (cx:Cx β):Option β:=FXs (gH n q73) n fC (some O4) none [] [[1,1,1,1,1,1,1,1,0,0,0,1,0,1,0,1,1,0]] s cx
theorem s3 (n:Nat) (q73:Q73) (cx:Cx β) (p0:Z10) (x1:List Z28) (v5 v6 v7:Int) (x9 x10:List Int) (v27:Int) (v28:Bool):l9 n q73 (AV p0 x1 v5 v6 v7 x9 x10 v27 v28) cx=aR4 n q73 (fun p0 x1 v5 v6 v7 x9 x10 v27 v42=>cx.nrm (CE p0 x1 v5 v6 v7 x9 x10 v27 v42)) p0 x1 v5 v6 v7 x9 x10 v27 v28:=by kernel_rfl
def bP1 (n:Nat) (q73:Q73) (kx2:Z10→List Z28→Int→Int→Int→List Int→List Int→Option β) (p0:Z10) (x1:List Z28) (v5 v6 v7:Int) (x9 x10:List Int) (v27:Int) (v42:Bool):Option β:=idx v5 (x1.length:Int)<|oN ((rd x1 v5 Z18).2)<|cG (x9.length+(bE ((rd x1 v5 Z18).2)).length)<|kx2 p0 x1 (w64 (v5+1)) (w64 (v6+1)) v7 (x9++(bE ((rd x1 v5 Z18).2))) x10
def aC1 (n:Nat) (q73:Q73) (s:FState) (cx:Cx β):Option β:=FXs (gH n q73) n fC none none [(2,dI)] [[1,1,1,1,1,1,1,1,0,0,0,1,0,1,0,1,1,1,0,0],[1,1,1,1,1,1,1,1,0,0,0,1,0,1,0,1,1,1,0,1,0],[1,1,1,1,1,1,1,1,0,0,0,1,0,1,0,1,1,1,0,1,1,0],[1,1,1,1,1,1,1,1,0,0,0,1,0,1,0,1,1,1,0,1,1,1]] s cx
theorem bG0 (n:Nat) (q73:Q73) (cx:Cx β) (p0:Z10) (x1:List Z28) (v5 v6 v7:Int) (x9 x10:List Int) (v27:Int) (v42:Bool):aC1 n q73 (CE p0 x1 v5 v6 v7 x9 x10 v27 v42) cx=bP1 n q73 (fun p0 x1 v5 v6 v7 x9 x10=>cx.ex 2 (dE p0 x1 v5 v6 v7 x9 x10)) p0 x1 v5 v6 v7 x9 x10 v27 v42:=by kernel_rfl
def aV9 (n:Nat) (q73:Q73) (kn:Z10→List Z28→Int→Int→Int→List Int→List Int→Bool→Option β) (p0:Z10) (x1:List Z28) (v5 v6 v7:Int) (x9 x10:List Int) (v27:Int) (v42:Bool):Option β:=kn p0 x1 v5 v6 v7 x9 x10 (v27==(0:Int))
def bE5 (n:Nat) (q73:Q73) (s:FState) (cx:Cx β):Option β:=FXs (gH n q73) n fC (some C8) none [] [[1,1,1,1,1,1,1,1,0,0,0,1,0,1,0,1,1,1,1,0]] s cx
theorem aA7 (n:Nat) (q73:Q73) (cx:Cx β) (p0:Z10) (x1:List Z28) (v5 v6 v7:Int) (x9 x10:List Int) (v27:Int) (v42:Bool):bE5 n q73 (CE p0 x1 v5 v6 v7 x9 x10 v27 v42) cx=aV9 n q73 (fun p0 x1 v5 v6 v7 x9 x10 v56=>cx.nrm (BB p0 x1 v5 v6 v7 x9 x10 v56)) p0 x1 v5 v6 v7 x9 x10 v27 v42:=by kernel_rfl
def aS1 (n:Nat) (q73:Q73) (kn:Z10→List Z28→Int→Int→Int→List Int→List Int→Bool→Option β) (p0:Z10) (x1:List Z28) (v5 v6 v7:Int) (x9 x10:List Int) (v56:Bool):Option β:=kn p0 x1 v5 v6 v7 x9 x10 (decide ((w64 (v6+v7))>(1:Int)))
def aQ0 (n:Nat) (q73:Q73) (s:FState) (cx:Cx β):Option β:=FXs (gH n q73) n fC (some O6) none [] [[1,1,1,1,1,1,1,1,0,0,0,1,0,1,0,1,1,1,1,1,0,0,0]] s cx
theorem bK7 (n:Nat) (q73:Q73) (cx:Cx β) (p0:Z10) (x1:List Z28) (v5 v6 v7:Int) (x9 x10:List Int) (v56:Bool):aQ0 n q73 (BB p0 x1 v5 v6 v7 x9 x10 v56) cx=aS1 n q73 (fun p0 x1 v5 v6 v7 x9 x10 v61=>cx.nrm (EP p0 x1 v5 v6 v7 x9 x10 v61)) p0 x1 v5 v6 v7 x9 x10 v56:=by kernel_rfl
def vU (n:Nat) (q73:Q73) (kn:Z10→List Z28→Int→Int→Int→List Int→List Int→Option β) (p0:Z10) (x1:List Z28) (v5 v6 v7:Int) (x9 x10:List Int) (v61:Bool):Option β:=bif (v6 !=(0:Int)) then (bif (v7 !=(0:Int)) then ((g80 n x10 x9).bind fun r1=>bif (r1.1 !=(0:Int)) then (bif (decide ((w64 ((w64 (v5 - v6)) - v7))>(0:Int))) then (idx (w64 ((w64 ((w64 (v5 - v6)) - v7)) - (1:Int))) (x1.length:Int)<|bif ((rd x1 (w64 ((w64 ((w64 (v5 - v6)) - v7)) - (1:Int))) Z18).1==(0:Int)) then (idx (w64 ((w64 ((w64 (v5 - v6)) - v7)) - (1:Int))) (x1.length:Int)<|bnd (0:Int) r1.1 (x10.length:Int)<|cG (((rd x1 (w64 ((w64 ((w64 (v5 - v6)) - v7)) - (1:Int))) Z18).2).size+(runesBytes (cut x10 (0:Int) ((0:Int)+(r1.1 - (0:Int))))).size)<|idx (w64 ((w64 ((w64 (v5 - v6)) - v7)) - (1:Int))) (x1.length:Int)<|bnd r1.1 (x10.length:Int) (x10.length:Int)<|bnd r1.1 (x9.length:Int) (x9.length:Int)<|(g81 n (cut x10 r1.1 (r1.1+((x10.length:Int) - r1.1))) (cut x9 r1.1 (r1.1+((x9.length:Int) - r1.1)))).bind fun r2=>bif (r2.1 !=(0:Int)) then (bnd (w64 (((x10.length:Int) - r1.1) - r2.1)) ((x10.length:Int) - r1.1) ((x10.length:Int) - r1.1)<|idx v5 ((x1.set (w64 ((w64 ((w64 (v5 - v6)) - v7)) - (1:Int))).toNat ((rd x1 (w64 ((w64 ((w64 (v5 - v6)) - v7)) - (1:Int))) Z18).1,((rd x1 (w64 ((w64 ((w64 (v5 - v6)) - v7)) - (1:Int))) Z18).2++(runesBytes (cut x10 (0:Int) ((0:Int)+(r1.1 - (0:Int)))))))).length:Int)<|cG ((runesBytes (cut x10 (r1.1+(w64 (((x10.length:Int) - r1.1) - r2.1))) ((r1.1+(w64 (((x10.length:Int) - r1.1) - r2.1)))+(((x10.length:Int) - r1.1) - (w64 (((x10.length:Int) - r1.1) - r2.1)))))).size+((rd (x1.set (w64 ((w64 ((w64 (v5 - v6)) - v7)) - (1:Int))).toNat ((rd x1 (w64 ((w64 ((w64 (v5 - v6)) - v7)) - (1:Int))) Z18).1,((rd x1 (w64 ((w64 ((w64 (v5 - v6)) - v7)) - (1:Int))) Z18).2++(runesBytes (cut x10 (0:Int) ((0:Int)+(r1.1 - (0:Int)))))))) v5 Z18).2).size)<|idx v5 ((x1.set (w64 ((w64 ((w64 (v5 - v6)) - v7)) - (1:Int))).toNat ((rd x1 (w64 ((w64 ((w64 (v5 - v6)) - v7)) - (1:Int))) Z18).1,((rd x1 (w64 ((w64 ((w64 (v5 - v6)) - v7)) - (1:Int))) Z18).2++(runesBytes (cut x10 (0:Int) ((0:Int)+(r1.1 - (0:Int)))))))).length:Int)<|bnd (0:Int) (w64 (((x10.length:Int) - r1.1) - r2.1)) ((x10.length:Int) - r1.1)<|bnd (0:Int) (w64 (((x9.length:Int) - r1.1) - r2.1)) ((x9.length:Int) - r1.1)<|kn p0 ((x1.set (w64 ((w64 ((w64 (v5 - v6)) - v7)) - (1:Int))).toNat ((rd x1 (w64 ((w64 ((w64 (v5 - v6)) - v7)) - (1:Int))) Z18).1,((rd x1 (w64 ((w64 ((w64 (v5 - v6)) - v7)) - (1:Int))) Z18).2++(runesBytes (cut x10 (0:Int) ((0:Int)+(r1.1 - (0:Int)))))))).set v5.toNat ((rd (x1.set (w64 ((w64 ((w64 (v5 - v6)) - v7)) - (1:Int))).toNat ((rd x1 (w64 ((w64 ((w64 (v5 - v6)) - v7)) - (1:Int))) Z18).1,((rd x1 (w64 ((w64 ((w64 (v5 - v6)) - v7)) - (1:Int))) Z18).2++(runesBytes (cut x10 (0:Int) ((0:Int)+(r1.1 - (0:Int)))))))) v5 Z18).1,((runesBytes (cut x10 (r1.1+(w64 (((x10.length:Int) - r1.1) - r2.1))) ((r1.1+(w64 (((x10.length:Int) - r1.1) - r2.1)))+(((x10.length:Int) - r1.1) - (w64 (((x10.length:Int) - r1.1) - r2.1))))))++(rd (x1.set (w64 ((w64 ((w64 (v5 - v6)) - v7)) - (1:Int))).toNat ((rd x1 (w64 ((w64 ((w64 (v5 - v6)) - v7)) - (1:Int))) Z18).1,((rd x1 (w64 ((w64 ((w64 (v5 - v6)) - v7)) - (1:Int))) Z18).2++(runesBytes (cut x10 (0:Int) ((0:Int)+(r1.1 - (0:Int)))))))) v5 Z18).2))) v5 v6 v7 (cut x9 (r1.1+(0:Int)) ((r1.1+(0:Int))+((w64 (((x9.length:Int) - r1.1) - r2.1)) - (0:Int)))) (cut x10 (r1.1+(0:Int)) ((r1.1+(0:Int))+((w64 (((x10.length:Int) - r1.1) - r2.1)) - (0:Int))))) else (kn p0 (x1.set (w64 ((w64 ((w64 (v5 - v6)) - v7)) - (1:Int))).toNat ((rd x1 (w64 ((w64 ((w64 (v5 - v6)) - v7)) - (1:Int))) Z18).1,((rd x1 (w64 ((w64 ((w64 (v5 - v6)) - v7)) - (1:Int))) Z18).2++(runesBytes (cut x10 (0:Int) ((0:Int)+(r1.1 - (0:Int)))))))) v5 v6 v7 (cut x9 r1.1 (r1.1+((x9.length:Int) - r1.1))) (cut x10 r1.1 (r1.1+((x10.length:Int) - r1.1))))) else (bnd (0:Int) r1.1 (x10.length:Int)<|cG ([((0:Int),(runesBytes (cut x10 (0:Int) ((0:Int)+(r1.1 - (0:Int))))))].length+x1.length)<|bnd r1.1 (x10.length:Int) (x10.length:Int)<|bnd r1.1 (x9.length:Int) (x9.length:Int)<|(g81 n (cut x10 r1.1 (r1.1+((x10.length:Int) - r1.1))) (cut x9 r1.1 (r1.1+((x9.length:Int) - r1.1)))).bind fun r3=>bif (r3.1 !=(0:Int)) then (bnd (w64 (((x10.length:Int) - r1.1) - r3.1)) ((x10.length:Int) - r1.1) ((x10.length:Int) - r1.1)<|idx (w64 (v5+1)) (([((0:Int),(runesBytes (cut x10 (0:Int) ((0:Int)+(r1.1 - (0:Int))))))]++x1).length:Int)<|cG ((runesBytes (cut x10 (r1.1+(w64 (((x10.length:Int) - r1.1) - r3.1))) ((r1.1+(w64 (((x10.length:Int) - r1.1) - r3.1)))+(((x10.length:Int) - r1.1) - (w64 (((x10.length:Int) - r1.1) - r3.1)))))).size+((rd ([((0:Int),(runesBytes (cut x10 (0:Int) ((0:Int)+(r1.1 - (0:Int))))))]++x1) (w64 (v5+1)) Z18).2).size)<|idx (w64 (v5+1)) (([((0:Int),(runesBytes (cut x10 (0:Int) ((0:Int)+(r1.1 - (0:Int))))))]++x1).length:Int)<|bnd (0:Int) (w64 (((x10.length:Int) - r1.1) - r3.1)) ((x10.length:Int) - r1.1)<|bnd (0:Int) (w64 (((x9.length:Int) - r1.1) - r3.1)) ((x9.length:Int) - r1.1)<|kn p0 (([((0:Int),(runesBytes (cut x10 (0:Int) ((0:Int)+(r1.1 - (0:Int))))))]++x1).set (w64 (v5+1)).toNat ((rd ([((0:Int),(runesBytes (cut x10 (0:Int) ((0:Int)+(r1.1 - (0:Int))))))]++x1) (w64 (v5+1)) Z18).1,((runesBytes (cut x10 (r1.1+(w64 (((x10.length:Int) - r1.1) - r3.1))) ((r1.1+(w64 (((x10.length:Int) - r1.1) - r3.1)))+(((x10.length:Int) - r1.1) - (w64 (((x10.length:Int) - r1.1) - r3.1))))))++(rd ([((0:Int),(runesBytes (cut x10 (0:Int) ((0:Int)+(r1.1 - (0:Int))))))]++x1) (w64 (v5+1)) Z18).2))) (w64 (v5+1)) v6 v7 (cut x9 (r1.1+(0:Int)) ((r1.1+(0:Int))+((w64 (((x9.length:Int) - r1.1) - r3.1)) - (0:Int)))) (cut x10 (r1.1+(0:Int)) ((r1.1+(0:Int))+((w64 (((x10.length:Int) - r1.1) - r3.1)) - (0:Int))))) else (kn p0 ([((0:Int),(runesBytes (cut x10 (0:Int) ((0:Int)+(r1.1 - (0:Int))))))]++x1) (w64 (v5+1)) v6 v7 (cut x9 r1.1 (r1.1+((x9.length:Int) - r1.1))) (cut x10 r1.1 (r1.1+((x10.length:Int) - r1.1)))))) else (bnd (0:Int) r1.1 (x10.length:Int)<|cG ([((0:Int),(runesBytes (cut x10 (0:Int) ((0:Int)+(r1.1 - (0:Int))))))].length+x1.length)<|bnd r1.1 (x10.length:Int) (x10.length:Int)<|bnd r1.1 (x9.length:Int) (x9.length:Int)<|(g81 n (cut x10 r1.1 (r1.1+((x10.length:Int) - r1.1))) (cut x9 r1.1 (r1.1+((x9.length:Int) - r1.1)))).bind fun r4=>bif (r4.1 !=(0:Int)) then (bnd (w64 (((x10.length:Int) - r1.1) - r4.1)) ((x10.length:Int) - r1.1) ((x10.length:Int) - r1.1)<|idx (w64 (v5+1)) (([((0:Int),(runesBytes (cut x10 (0:Int) ((0:Int)+(r1.1 - (0:Int))))))]++x1).length:Int)<|cG ((runesBytes (cut x10 (r1.1+(w64 (((x10.length:Int) - r1.1) - r4.1))) ((r1.1+(w64 (((x10.length:Int) - r1.1) - r4.1)))+(((x10.length:Int) - r1.1) - (w64 (((x10.length:Int) - r1.1) - r4.1)))))).size+((rd ([((0:Int),(runesBytes (cut x10 (0:Int) ((0:Int)+(r1.1 - (0:Int))))))]++x1) (w64 (v5+1)) Z18).2).size)<|idx (w64 (v5+1)) (([((0:Int),(runesBytes (cut x10 (0:Int) ((0:Int)+(r1.1 - (0:Int))))))]++x1).length:Int)<|bnd (0:Int) (w64 (((x10.length:Int) - r1.1) - r4.1)) ((x10.length:Int) - r1.1)<|bnd (0:Int) (w64 (((x9.length:Int) - r1.1) - r4.1)) ((x9.length:Int) - r1.1)<|kn p0 (([((0:Int),(runesBytes (cut x10 (0:Int) ((0:Int)+(r1.1 - (0:Int))))))]++x1).set (w64 (v5+1)).toNat ((rd ([((0:Int),(runesBytes (cut x10 (0:Int) ((0:Int)+(r1.1 - (0:Int))))))]++x1) (w64 (v5+1)) Z18).1,((runesBytes (cut x10 (r1.1+(w64 (((x10.length:Int) - r1.1) - r4.1))) ((r1.1+(w64 (((x10.length:Int) - r1.1) - r4.1)))+(((x10.length:Int) - r1.1) - (w64 (((x10.length:Int) - r1.1) - r4.1))))))++(rd ([((0:Int),(runesBytes (cut x10 (0:Int) ((0:Int)+(r1.1 - (0:Int))))))]++x1) (w64 (v5+1)) Z18).2))) (w64 (v5+1)) v6 v7 (cut x9 (r1.1+(0:Int)) ((r1.1+(0:Int))+((w64 (((x9.length:Int) - r1.1) - r4.1)) - (0:Int)))) (cut x10 (r1.1+(0:Int)) ((r1.1+(0:Int))+((w64 (((x10.length:Int) - r1.1) - r4.1)) - (0:Int))))) else (kn p0 ([((0:Int),(runesBytes (cut x10 (0:Int) ((0:Int)+(r1.1 - (0:Int))))))]++x1) (w64 (v5+1)) v6 v7 (cut x9 r1.1 (r1.1+((x9.length:Int) - r1.1))) (cut x10 r1.1 (r1.1+((x10.length:Int) - r1.1)))))) else ((g81 n x10 x9).bind fun r5=>bif (r5.1 !=(0:Int)) then (bnd (w64 ((x10.length:Int) - r5.1)) (x10.length:Int) (x10.length:Int)<|idx v5 (x1.length:Int)<|cG ((runesBytes (cut x10 (w64 ((x10.length:Int) - r5.1)) ((w64 ((x10.length:Int) - r5.1))+((x10.length:Int) - (w64 ((x10.length:Int) - r5.1)))))).size+((rd x1 v5 Z18).2).size)<|idx v5 (x1.length:Int)<|bnd (0:Int) (w64 ((x10.length:Int) - r5.1)) (x10.length:Int)<|bnd (0:Int) (w64 ((x9.length:Int) - r5.1)) (x9.length:Int)<|kn p0 (x1.set v5.toNat ((rd x1 v5 Z18).1,((runesBytes (cut x10 (w64 ((x10.length:Int) - r5.1)) ((w64 ((x10.length:Int) - r5.1))+((x10.length:Int) - (w64 ((x10.length:Int) - r5.1))))))++(rd x1 v5 Z18).2))) v5 v6 v7 (cut x9 (0:Int) ((0:Int)+((w64 ((x9.length:Int) - r5.1)) - (0:Int)))) (cut x10 (0:Int) ((0:Int)+((w64 ((x10.length:Int) - r5.1)) - (0:Int))))) else (kn p0 x1 v5 v6 v7 x9 x10))) else (kn p0 x1 v5 v6 v7 x9 x10)) else (kn p0 x1 v5 v6 v7 x9 x10)
def O9 (n:Nat) (q73:Q73) (s:FState) (cx:Cx β):Option β:=FXs (gH n q73) n fC (some OM) none [] [[1,1,1,1,1,1,1,1,0,0,0,1,0,1,0,1,1,1,1,1,0,0,1,0,0,0],[1,1,1,1,1,1,1,1,0,0,0,1,0,1,0,1,1,1,1,1,0,0,1,0,0,1]] s cx
theorem R8 (n:Nat) (q73:Q73) (cx:Cx β) (p0:Z10) (x1:List Z28) (v5 v6 v7:Int) (x9 x10:List Int) (v61:Bool):O9 n q73 (EP p0 x1 v5 v6 v7 x9 x10 v61) cx=vU n q73 (fun p0 x1 v5 v6 v7 x9 x10=>cx.nrm (F5 p0 x1 v5 v6 v7 x9 x10)) p0 x1 v5 v6 v7 x9 x10 v61:=by kernel_rfl
def AM (n:Nat) (q73:Q73) (kn:Z10→List Z28→Int→Int→Int→Option β) (p0:Z10) (x1:List Z28) (v5 v6 v7:Int) (x9 x10:List Int):Option β:=bif (v6==(0:Int)) then ((g71 n x1 (w64 (v5 - v7)) (w64 (v6+v7)) [((1:Int),(runesBytes x10))]).bind fun r1=>kn p0 r1.1 v5 v6 v7) else (bif (v7==(0:Int)) then ((g71 n x1 (w64 (v5 - v6)) (w64 (v6+v7)) [((-1:Int),(runesBytes x9))]).bind fun r2=>kn p0 r2.1 v5 v6 v7) else ((g71 n x1 (w64 ((w64 (v5 - v6)) - v7)) (w64 (v6+v7)) [((-1:Int),(runesBytes x9)),((1:Int),(runesBytes x10))]).bind fun r3=>kn p0 r3.1 v5 v6 v7))
def I6 (n:Nat) (q73:Q73) (s:FState) (cx:Cx β):Option β:=FXs (gH n q73) n fC (some SK) none [] [[1,1,1,1,1,1,1,1,0,0,0,1,0,1,0,1,1,1,1,1,0,0,1,0,1,0,0],[1,1,1,1,1,1,1,1,0,0,0,1,0,1,0,1,1,1,1,1,0,0,1,0,1,0,1]] s cx
theorem U9 (n:Nat) (q73:Q73) (cx:Cx β) (p0:Z10) (x1:List Z28) (v5 v6 v7:Int) (x9 x10:List Int):I6 n q73 (F5 p0 x1 v5 v6 v7 x9 x10) cx=AM n q73 (fun p0 x1 v5 v6 v7=>cx.nrm (F1 p0 x1 v5 v6 v7)) p0 x1 v5 v6 v7 x9 x10:=by kernel_rfl
def AL (n:Nat) (q73:Q73) (kn:Z10→List Z28→Int→Int→Option β) (p0:Z10) (x1:List Z28) (v5 v6 v7:Int):Option β:=bif (v6 !=(0:Int)) then (kn p0 x1 (w64 ((w64 ((w64 ((w64 (v5 - v6)) - v7))+(1:Int)))+(1:Int))) v7) else (kn p0 x1 (w64 ((w64 ((w64 (v5 - v6)) - v7))+(1:Int))) v7)
def J3 (n:Nat) (q73:Q73) (s:FState) (cx:Cx β):Option β:=FXs (gH n q73) n fC (some QE) none [] [[1,1,1,1,1,1,1,1,0,0,0,1,0,1,0,1,1,1,1,1,0,0,1,0,1,1,0],[1,1,1,1,1,1,1,1,0,0,0,1,0,1,0,1,1,1,1,1,0,0,1,0,1,1,1,0,0],[1,1,1,1,1,1,1,1,0,0,0,1,0,1,0,1,1,1,1,1,0,0,1,0,1,1,1,0,1]] s cx
theorem c7 (n:Nat) (q73:Q73) (cx:Cx β) (p0:Z10) (x1:List Z28) (v5 v6 v7:Int):J3 n q73 (F1 p0 x1 v5 v6 v7) cx=AL n q73 (fun p0 x1 v5 v7=>cx.nrm (P4 p0 x1 v5 v7)) p0 x1 v5 v6 v7:=by kernel_rfl
def CX (n:Nat) (q73:Q73) (kn:Z10→List Z28→Int→Option β) (p0:Z10) (x1:List Z28) (v5 v7:Int):Option β:=bif (v7 !=(0:Int)) then (kn p0 x1 (w64 (v5+1))) else (kn p0 x1 v5)
def N9 (n:Nat) (q73:Q73) (s:FState) (cx:Cx β):Option β:=FXs (gH n q73) n fC (some rW) none [] [[1,1,1,1,1,1,1,1,0,0,0,1,0,1,0,1,1,1,1,1,0,0,1,0,1,1,1,1,0],[1,1,1,1,1,1,1,1,0,0,0,1,0,1,0,1,1,1,1,1,0,0,1,0,1,1,1,1,1]] s cx
theorem c9 (n:Nat) (q73:Q73) (cx:Cx β) (p0:Z10) (x1:List Z28) (v5 v7:Int):N9 n q73 (P4 p0 x1 v5 v7) cx=CX n q73 (fun p0 x1 v5=>cx.nrm (tU p0 x1 v5)) p0 x1 v5 v7:=by kernel_rfl
def BN (n:Nat) (q73:Q73) (kn:Z10→List Z28→Int→Option β) (p0:Z10) (x1:List Z28) (v5 v6 v7:Int) (x9 x10:List Int) (v61:Bool):Option β:=vU n q73 (fun p0 x1 v5 v6 v7 x9 x10=>AM n q73 (fun p0 x1 v5 v6 v7=>AL n q73 (fun p0 x1 v5 v7=>CX n q73 kn p0 x1 v5 v7) p0 x1 v5 v6 v7) p0 x1 v5 v6 v7 x9 x10) p0 x1 v5 v6 v7 x9 x10 v61
def LW (n:Nat) (q73:Q73) (s:FState) (cx:Cx β):Option β:=O9 n q73 s {cx with nrm:=fun s=>I6 n q73 s {cx with nrm:=fun s=>J3 n q73 s {cx with nrm:=fun s=>N9 n q73 s cx}}}
theorem U8 (n:Nat) (q73:Q73) (cx:Cx β) (p0:Z10) (x1:List Z28) (v5 v6 v7:Int) (x9 x10:List Int) (v61:Bool):LW n q73 (EP p0 x1 v5 v6 v7 x9 x10 v61) cx=BN n q73 (fun p0 x1 v5=>cx.nrm (tU p0 x1 v5)) p0 x1 v5 v6 v7 x9 x10 v61:=by simp only [LW,BN,R8,U9,c7,c9]
def WE (n:Nat) (q73:Q73) (kn:Z10→List Z28→Int→Option β) (p0:Z10) (x1:List Z28) (v5 v6 v7:Int) (x9 x10:List Int) (v61:Bool):Option β:=bif (v5 !=(0:Int)) then (idx (w64 (v5 - 1)) (x1.length:Int)<|bif ((rd x1 (w64 (v5 - 1)) Z18).1==(0:Int)) then (idx (w64 (v5 - 1)) (x1.length:Int)<|idx v5 (x1.length:Int)<|cG (((rd x1 (w64 (v5 - 1)) Z18).2).size+((rd x1 v5 Z18).2).size)<|idx (w64 (v5 - 1)) (x1.length:Int)<|bnd (0:Int) v5 ((x1.set (w64 (v5 - 1)).toNat ((rd x1 (w64 (v5 - 1)) Z18).1,((rd x1 (w64 (v5 - 1)) Z18).2++(rd x1 v5 Z18).2))).length:Int)<|bnd (w64 (v5+1)) ((x1.set (w64 (v5 - 1)).toNat ((rd x1 (w64 (v5 - 1)) Z18).1,((rd x1 (w64 (v5 - 1)) Z18).2++(rd x1 v5 Z18).2))).length:Int) ((x1.set (w64 (v5 - 1)).toNat ((rd x1 (w64 (v5 - 1)) Z18).1,((rd x1 (w64 (v5 - 1)) Z18).2++(rd x1 v5 Z18).2))).length:Int)<|cG ((cut (x1.set (w64 (v5 - 1)).toNat ((rd x1 (w64 (v5 - 1)) Z18).1,((rd x1 (w64 (v5 - 1)) Z18).2++(rd x1 v5 Z18).2))) (0:Int) ((0:Int)+(v5 - (0:Int)))).length+(cut (x1.set (w64 (v5 - 1)).toNat ((rd x1 (w64 (v5 - 1)) Z18).1,((rd x1 (w64 (v5 - 1)) Z18).2++(rd x1 v5 Z18).2))) (w64 (v5+1)) ((w64 (v5+1))+(((x1.set (w64 (v5 - 1)).toNat ((rd x1 (w64 (v5 - 1)) Z18).1,((rd x1 (w64 (v5 - 1)) Z18).2++(rd x1 v5 Z18).2))).length:Int) - (w64 (v5+1))))).length)<|kn p0 ((cut (x1.set (w64 (v5 - 1)).toNat ((rd x1 (w64 (v5 - 1)) Z18).1,((rd x1 (w64 (v5 - 1)) Z18).2++(rd x1 v5 Z18).2))) (0:Int) ((0:Int)+(v5 - (0:Int))))++(cut (x1.set (w64 (v5 - 1)).toNat ((rd x1 (w64 (v5 - 1)) Z18).1,((rd x1 (w64 (v5 - 1)) Z18).2++(rd x1 v5 Z18).2))) (w64 (v5+1)) ((w64 (v5+1))+(((x1.set (w64 (v5 - 1)).toNat ((rd x1 (w64 (v5 - 1)) Z18).1,((rd x1 (w64 (v5 - 1)) Z18).2++(rd x1 v5 Z18).2))).length:Int) - (w64 (v5+1)))))) v5) else (kn p0 x1 (w64 (v5+1)))) else (kn p0 x1 (w64 (v5+1)))
def I8 (n:Nat) (q73:Q73) (s:FState) (cx:Cx β):Option β:=FXs (gH n q73) n fC (some rW) none [] [[1,1,1,1,1,1,1,1,0,0,0,1,0,1,0,1,1,1,1,1,0,0,1,1,0],[1,1,1,1,1,1,1,1,0,0,0,1,0,1,0,1,1,1,1,1,0,0,1,1,1]] s cx
theorem X2 (n:Nat) (q73:Q73) (cx:Cx β) (p0:Z10) (x1:List Z28) (v5 v6 v7:Int) (x9 x10:List Int) (v61:Bool):I8 n q73 (EP p0 x1 v5 v6 v7 x9 x10 v61) cx=WE n q73 (fun p0 x1 v5=>cx.nrm (tU p0 x1 v5)) p0 x1 v5 v6 v7 x9 x10 v61:=by kernel_rfl
def KQ (n:Nat) (q73:Q73) (kn:Z10→List Z28→Int→Option β) (p0:Z10) (x1:List Z28) (v5 v6 v7:Int) (x9 x10:List Int) (v61:Bool):Option β:=bif v61 then BN n q73 kn p0 x1 v5 v6 v7 x9 x10 v61 else WE n q73 kn p0 x1 v5 v6 v7 x9 x10 v61
def IO (n:Nat) (q73:Q73) (s:FState) (cx:Cx β):Option β:=asBool (ev s (uF (nav fC [1,1,1,1,1,1,1,1,0,0,0,1,0,1,0,1,1,1,1,1,0,0,1]))) fun t=>cond t (LW n q73 s cx) (I8 n q73 s cx)
theorem Q4 (n:Nat) (q73:Q73) (cx:Cx β) (p0:Z10) (x1:List Z28) (v5 v6 v7:Int) (x9 x10:List Int) (v61:Bool):IO n q73 (EP p0 x1 v5 v6 v7 x9 x10 v61) cx=KQ n q73 (fun p0 x1 v5=>cx.nrm (tU p0 x1 v5)) p0 x1 v5 v6 v7 x9 x10 v61:=by
  simp only [IO,KQ,U8,X2]
  kernel_rfl
def MC (n:Nat) (q73:Q73) (kx2:Z10→List Z28→Int→Int→Int→List Int→List Int→Option β) (p0:Z10) (x1:List Z28) (v5:Int):Option β:=kx2 p0 x1 v5 (0:Int) (0:Int) [] []
def K9 (n:Nat) (q73:Q73) (s:FState) (cx:Cx β):Option β:=FXs (gH n q73) n fC none none [(2,dI)] [[1,1,1,1,1,1,1,1,0,0,0,1,0,1,0,1,1,1,1,1,0,1,0],[1,1,1,1,1,1,1,1,0,0,0,1,0,1,0,1,1,1,1,1,0,1,1,0],[1,1,1,1,1,1,1,1,0,0,0,1,0,1,0,1,1,1,1,1,0,1,1,1,0],[1,1,1,1,1,1,1,1,0,0,0,1,0,1,0,1,1,1,1,1,0,1,1,1,1,0],[1,1,1,1,1,1,1,1,0,0,0,1,0,1,0,1,1,1,1,1,0,1,1,1,1,1]] s cx
theorem f7 (n:Nat) (q73:Q73) (cx:Cx β) (p0:Z10) (x1:List Z28) (v5:Int):K9 n q73 (tU p0 x1 v5) cx=MC n q73 (fun p0 x1 v5 v6 v7 x9 x10=>cx.ex 2 (dE p0 x1 v5 v6 v7 x9 x10)) p0 x1 v5:=by kernel_rfl
def LK (n:Nat) (q73:Q73) (kx2:Z10→List Z28→Int→Int→Int→List Int→List Int→Option β) (p0:Z10) (x1:List Z28) (v5 v6 v7:Int) (x9 x10:List Int) (v56:Bool):Option β:=aS1 n q73 (fun p0 x1 v5 v6 v7 x9 x10 v61=>KQ n q73 (fun p0 x1 v5=>MC n q73 kx2 p0 x1 v5) p0 x1 v5 v6 v7 x9 x10 v61) p0 x1 v5 v6 v7 x9 x10 v56
def HV (n:Nat) (q73:Q73) (s:FState) (cx:Cx β):Option β:=aQ0 n q73 s {cx with nrm:=fun s=>IO n q73 s {cx with nrm:=fun s=>K9 n q73 s cx}}
theorem V4 (n:Nat) (q73:Q73) (cx:Cx β) (p0:Z10) (x1:List Z28) (v5 v6 v7:Int) (x9 x10:List Int) (v56:Bool):HV n q73 (BB p0 x1 v5 v6 v7 x9 x10 v56) cx=LK n q73 (fun p0 x1 v5 v6 v7 x9 x10=>cx.ex 2 (dE p0 x1 v5 v6 v7 x9 x10)) p0 x1 v5 v6 v7 x9 x10 v56:=by simp only [HV,LK,bK7,Q4,f7]
def bN8 (n:Nat) (q73:Q73) (kn:Z10→List Z28→Int→Int→Int→List Int→List Int→Option β) (p0:Z10) (x1:List Z28) (v5 v6 v7:Int) (x9 x10:List Int) (v56:Bool):Option β:=kn p0 x1 v5 v6 v7 x9 x10
def P5 (n:Nat) (q73:Q73) (s:FState) (cx:Cx β):Option β:=FXs (gH n q73) n fC (some dI) none [] [[1,1,1,1,1,1,1,1,0,0,0,1,0,1,0,1,1,1,1,1,1]] s cx
theorem Y7 (n:Nat) (q73:Q73) (cx:Cx β) (p0:Z10) (x1:List Z28) (v5 v6 v7:Int) (x9 x10:List Int) (v56:Bool):P5 n q73 (BB p0 x1 v5 v6 v7 x9 x10 v56) cx=bN8 n q73 (fun p0 x1 v5 v6 v7 x9 x10=>cx.nrm (dE p0 x1 v5 v6 v7 x9 x10)) p0 x1 v5 v6 v7 x9 x10 v56:=by kernel_rfl
def IH (n:Nat) (q73:Q73) (kn kx2:Z10→List Z28→Int→Int→Int→List Int→List Int→Option β) (p0:Z10) (x1:List Z28) (v5 v6 v7:Int) (x9 x10:List Int) (v56:Bool):Option β:=bif v56 then LK n q73 kx2 p0 x1 v5 v6 v7 x9 x10 v56 else bN8 n q73 kn p0 x1 v5 v6 v7 x9 x10 v56
def LR (n:Nat) (q73:Q73) (s:FState) (cx:Cx β):Option β:=asBool (ev s (uF (nav fC [1,1,1,1,1,1,1,1,0,0,0,1,0,1,0,1,1,1,1,1]))) fun t=>cond t (HV n q73 s cx) (P5 n q73 s cx)
theorem Y0 (n:Nat) (q73:Q73) (cx:Cx β) (p0:Z10) (x1:List Z28) (v5 v6 v7:Int) (x9 x10:List Int) (v56:Bool):LR n q73 (BB p0 x1 v5 v6 v7 x9 x10 v56) cx=IH n q73 (fun p0 x1 v5 v6 v7 x9 x10=>cx.nrm (dE p0 x1 v5 v6 v7 x9 x10)) (fun p0 x1 v5 v6 v7 x9 x10=>cx.ex 2 (dE p0 x1 v5 v6 v7 x9 x10)) p0 x1 v5 v6 v7 x9 x10 v56:=by
  simp only [LR,IH,V4,Y7]
  kernel_rfl
def JU (n:Nat) (q73:Q73) (kn kx2:Z10→List Z28→Int→Int→Int→List Int→List Int→Option β) (p0:Z10) (x1:List Z28) (v5 v6 v7:Int) (x9 x10:List Int) (v27:Int) (v42:Bool):Option β:=aV9 n q73 (fun p0 x1 v5 v6 v7 x9 x10 v56=>IH n q73 kn kx2 p0 x1 v5 v6 v7 x9 x10 v56) p0 x1 v5 v6 v7 x9 x10 v27 v42
def JG (n:Nat) (q73:Q73) (s:FState) (cx:Cx β):Option β:=bE5 n q73 s {cx with nrm:=fun s=>LR n q73 s cx}
theorem Q1 (n:Nat) (q73:Q73) (cx:Cx β) (p0:Z10) (x1:List Z28) (v5 v6 v7:Int) (x9 x10:List Int) (v27:Int) (v42:Bool):JG n q73 (CE p0 x1 v5 v6 v7 x9 x10 v27 v42) cx=JU n q73 (fun p0 x1 v5 v6 v7 x9 x10=>cx.nrm (dE p0 x1 v5 v6 v7 x9 x10)) (fun p0 x1 v5 v6 v7 x9 x10=>cx.ex 2 (dE p0 x1 v5 v6 v7 x9 x10)) p0 x1 v5 v6 v7 x9 x10 v27 v42:=by simp only [JG,JU,aA7,Y0]
def HQ (n:Nat) (q73:Q73) (kn kx2:Z10→List Z28→Int→Int→Int→List Int→List Int→Option β) (p0:Z10) (x1:List Z28) (v5 v6 v7:Int) (x9 x10:List Int) (v27:Int) (v42:Bool):Option β:=bif v42 then bP1 n q73 kx2 p0 x1 v5 v6 v7 x9 x10 v27 v42 else JU n q73 kn kx2 p0 x1 v5 v6 v7 x9 x10 v27 v42
def HS (n:Nat) (q73:Q73) (s:FState) (cx:Cx β):Option β:=asBool (ev s (uF (nav fC [1,1,1,1,1,1,1,1,0,0,0,1,0,1,0,1,1,1]))) fun t=>cond t (aC1 n q73 s cx) (JG n q73 s cx)
theorem X6 (n:Nat) (q73:Q73) (cx:Cx β) (p0:Z10) (x1:List Z28) (v5 v6 v7:Int) (x9 x10:List Int) (v27:Int) (v42:Bool):HS n q73 (CE p0 x1 v5 v6 v7 x9 x10 v27 v42) cx=HQ n q73 (fun p0 x1 v5 v6 v7 x9 x10=>cx.nrm (dE p0 x1 v5 v6 v7 x9 x10)) (fun p0 x1 v5 v6 v7 x9 x10=>cx.ex 2 (dE p0 x1 v5 v6 v7 x9 x10)) p0 x1 v5 v6 v7 x9 x10 v27 v42:=by
  simp only [HS,HQ,bG0,Q1]
  kernel_rfl
def MV (n:Nat) (q73:Q73) (kn kx2:Z10→List Z28→Int→Int→Int→List Int→List Int→Option β) (p0:Z10) (x1:List Z28) (v5 v6 v7:Int) (x9 x10:List Int) (v27:Int) (v28:Bool):Option β:=aR4 n q73 (fun p0 x1 v5 v6 v7 x9 x10 v27 v42=>HQ n q73 kn kx2 p0 x1 v5 v6 v7 x9 x10 v27 v42) p0 x1 v5 v6 v7 x9 x10 v27 v28
def IV (n:Nat) (q73:Q73) (s:FState) (cx:Cx β):Option β:=l9 n q73 s {cx with nrm:=fun s=>HS n q73 s cx}
theorem S5 (n:Nat) (q73:Q73) (cx:Cx β) (p0:Z10) (x1:List Z28) (v5 v6 v7:Int) (x9 x10:List Int) (v27:Int) (v28:Bool):IV n q73 (AV p0 x1 v5 v6 v7 x9 x10 v27 v28) cx=MV n q73 (fun p0 x1 v5 v6 v7 x9 x10=>cx.nrm (dE p0 x1 v5 v6 v7 x9 x10)) (fun p0 x1 v5 v6 v7 x9 x10=>cx.ex 2 (dE p0 x1 v5 v6 v7 x9 x10)) p0 x1 v5 v6 v7 x9 x10 v27 v28:=by simp only [IV,MV,s3,X6]
def JJ (n:Nat) (q73:Q73) (kn kx2:Z10→List Z28→Int→Int→Int→List Int→List Int→Option β) (p0:Z10) (x1:List Z28) (v5 v6 v7:Int) (x9 x10:List Int) (v27:Int) (v28:Bool):Option β:=bif v28 then aD4 n q73 kx2 p0 x1 v5 v6 v7 x9 x10 v27 v28 else MV n q73 kn kx2 p0 x1 v5 v6 v7 x9 x10 v27 v28
def MS (n:Nat) (q73:Q73) (s:FState) (cx:Cx β):Option β:=asBool (ev s (uF (nav fC [1,1,1,1,1,1,1,1,0,0,0,1,0,1,0,1]))) fun t=>cond t (bM2 n q73 s cx) (IV n q73 s cx)
theorem d3 (n:Nat) (q73:Q73) (cx:Cx β) (p0:Z10) (x1:List Z28) (v5 v6 v7:Int) (x9 x10:List Int) (v27:Int) (v28:Bool):MS n q73 (AV p0 x1 v5 v6 v7 x9 x10 v27 v28) cx=JJ n q73 (fun p0 x1 v5 v6 v7 x9 x10=>cx.nrm (dE p0 x1 v5 v6 v7 x9 x10)) (fun p0 x1 v5 v6 v7 x9 x10=>cx.ex 2 (dE p0 x1 v5 v6 v7 x9 x10)) p0 x1 v5 v6 v7 x9 x10 v27 v28:=by
  simp only [MS,JJ,aD0,S5]
  kernel_rfl
def MF (n:Nat) (q73:Q73) (kn kx2:Z10→List Z28→Int→Int→Int→List Int→List Int→Option β) (p0:Z10) (x1:List Z28) (v5 v6 v7:Int) (x9 x10:List Int) (v27:Int):Option β:=aO3 n q73 (fun p0 x1 v5 v6 v7 x9 x10 v27 v28=>JJ n q73 kn kx2 p0 x1 v5 v6 v7 x9 x10 v27 v28) p0 x1 v5 v6 v7 x9 x10 v27
def HG (n:Nat) (q73:Q73) (s:FState) (cx:Cx β):Option β:=bO9 n q73 s {cx with nrm:=fun s=>MS n q73 s cx}
theorem W6 (n:Nat) (q73:Q73) (cx:Cx β) (p0:Z10) (x1:List Z28) (v5 v6 v7:Int) (x9 x10:List Int) (v27:Int):HG n q73 (IR p0 x1 v5 v6 v7 x9 x10 v27) cx=MF n q73 (fun p0 x1 v5 v6 v7 x9 x10=>cx.nrm (dE p0 x1 v5 v6 v7 x9 x10)) (fun p0 x1 v5 v6 v7 x9 x10=>cx.ex 2 (dE p0 x1 v5 v6 v7 x9 x10)) p0 x1 v5 v6 v7 x9 x10 v27:=by simp only [HG,MF,aQ6,d3]
def WZ (n:Nat) (q73:Q73) (kn:Z10→List Z28→Int→Int→Int→List Int→List Int→Option β) (p0:Z10) (x1:List Z28) (v5 v6 v7:Int) (x9 x10:List Int) (v27:Int):Option β:=MF n q73 kn kn p0 x1 v5 v6 v7 x9 x10 v27
def H8 (n:Nat) (q73:Q73) (s:FState) (cx:Cx β):Option β:=HG n q73 s {cx with ex:=fun j s=>bif Nat.beq j 2 then cx.nrm s else cx.ex j s}
theorem X8 (n:Nat) (q73:Q73) (cx:Cx β) (p0:Z10) (x1:List Z28) (v5 v6 v7:Int) (x9 x10:List Int) (v27:Int):H8 n q73 (IR p0 x1 v5 v6 v7 x9 x10 v27) cx=WZ n q73 (fun p0 x1 v5 v6 v7 x9 x10=>cx.nrm (dE p0 x1 v5 v6 v7 x9 x10)) p0 x1 v5 v6 v7 x9 x10 v27:=W6 n q73 _ p0 x1 v5 v6 v7 x9 x10 v27
def LH (n:Nat) (q73:Q73) (kn:Z10→List Z28→Int→Int→Int→List Int→List Int→Option β) (p0:Z10) (x1:List Z28) (v5 v6 v7:Int) (x9 x10:List Int):Option β:=aI1 n q73 (fun p0 x1 v5 v6 v7 x9 x10 v27=>WZ n q73 kn p0 x1 v5 v6 v7 x9 x10 v27) p0 x1 v5 v6 v7 x9 x10
def KA (n:Nat) (q73:Q73) (s:FState) (cx:Cx β):Option β:=bJ6 n q73 s {cx with nrm:=fun s=>H8 n q73 s cx}
theorem V7 (n:Nat) (q73:Q73) (cx:Cx β) (p0:Z10) (x1:List Z28) (v5 v6 v7:Int) (x9 x10:List Int):KA n q73 (IK p0 x1 v5 v6 v7 x9 x10) cx=LH n q73 (fun p0 x1 v5 v6 v7 x9 x10=>cx.nrm (dE p0 x1 v5 v6 v7 x9 x10)) p0 x1 v5 v6 v7 x9 x10:=by simp only [KA,LH,aF9,X8]
def ZG (n:Nat) (q73:Q73) (kn:Z10→List Z28→Int→Int→Int→List Int→List Int→Option β) (p0:Z10) (x1:List Z28) (v5 v6 v7:Int) (x9 x10:List Int):Option β:=LH n q73 kn p0 x1 v5 v6 v7 x9 x10
def N8 (n:Nat) (q73:Q73) (s:FState) (cx:Cx β):Option β:=KA n q73 s {cx with ex:=fun j s=>bif Nat.beq j 1 then cx.nrm s else cx.ex j s}
theorem h9 (n:Nat) (q73:Q73) (cx:Cx β) (p0:Z10) (x1:List Z28) (v5 v6 v7:Int) (x9 x10:List Int):N8 n q73 (IK p0 x1 v5 v6 v7 x9 x10) cx=ZG n q73 (fun p0 x1 v5 v6 v7 x9 x10=>cx.nrm (dE p0 x1 v5 v6 v7 x9 x10)) p0 x1 v5 v6 v7 x9 x10:=V7 n q73 _ p0 x1 v5 v6 v7 x9 x10
def CO (n:Nat) (q73:Q73) (kn:Z10→List Z28→Int→Int→Int→List Int→List Int→Option β) (kx0:Z10→List Z28→Option β) (p0:Z10) (x1:List Z28) (v5 v6 v7:Int) (x9 x10:List Int):Option β:=J0 n q73 (fun p0 x1 v5 v6 v7 x9 x10=>ZG n q73 kn p0 x1 v5 v6 v7 x9 x10) kx0 p0 x1 v5 v6 v7 x9 x10
def yA (n:Nat) (q73:Q73) (s:FState) (cx:Cx β):Option β:=aX5 n q73 s {cx with nrm:=fun s=>N8 n q73 s cx}
theorem W5 (n:Nat) (q73:Q73) (cx:Cx β) (p0:Z10) (x1:List Z28) (v5 v6 v7:Int) (x9 x10:List Int):yA n q73 (dE p0 x1 v5 v6 v7 x9 x10) cx=CO n q73 (fun p0 x1 v5 v6 v7 x9 x10=>cx.nrm (dE p0 x1 v5 v6 v7 x9 x10)) (fun p0 x1=>cx.ex 0 (wQ p0 x1)) p0 x1 v5 v6 v7 x9 x10:=by simp only [yA,CO,bE2,h9]
def g73_30L (n:Nat) (q73:Q73) (kx0:Z10→List Z28→Option β):Nat→Z10→List Z28→Int→Int→Int→List Int→List Int→Option β
  | 0,_,_,_,_,_,_,_=>none
  | m+1,p0,x1,v5,v6,v7,x9,x10=>CO n q73 (g73_30L n q73 kx0 m) kx0 p0 x1 v5 v6 v7 x9 x10
def VS (n:Nat) (q73:Q73) (kx0:Z10→List Z28→Option β) (p0:Z10) (x1:List Z28) (v5 v6 v7:Int) (x9 x10:List Int):Option β:=g73_30L n q73 kx0 n p0 x1 v5 v6 v7 x9 x10
def F0 (n:Nat) (q73:Q73) (s:FState) (cx:Cx β):Option β:=bF (fun again s=>yA n q73 s {cx with nrm:=again}) n s
theorem UC (n:Nat) (q73:Q73) (cx:Cx β):∀(m:Nat) (p0:Z10) (x1:List Z28) (v5 v6 v7:Int) (x9 x10:List Int),bF (fun again s=>yA n q73 s {cx with nrm:=again}) m (dE p0 x1 v5 v6 v7 x9 x10)=g73_30L n q73 (fun p0 x1=>cx.ex 0 (wQ p0 x1)) m p0 x1 v5 v6 v7 x9 x10:=by
  intro m
  induction m with
  | zero=>intros;rfl
  | succ m ih=>intros;simp only [bF,g73_30L,W5,ih]
theorem Q8 (n:Nat) (q73:Q73) (cx:Cx β) (p0:Z10) (x1:List Z28) (v5 v6 v7:Int) (x9 x10:List Int):F0 n q73 (dE p0 x1 v5 v6 v7 x9 x10) cx=VS n q73 (fun p0 x1=>cx.ex 0 (wQ p0 x1)) p0 x1 v5 v6 v7 x9 x10:=UC n q73 cx n p0 x1 v5 v6 v7 x9 x10
def SY (n:Nat) (q73:Q73) (kn:Z10→List Z28→Option β) (p0:Z10) (x1:List Z28) (v5 v6 v7:Int) (x9 x10:List Int):Option β:=VS n q73 kn p0 x1 v5 v6 v7 x9 x10
def I3 (n:Nat) (q73:Q73) (s:FState) (cx:Cx β):Option β:=F0 n q73 s {cx with ex:=fun j s=>bif Nat.beq j 0 then cx.nrm s else cx.ex j s}
theorem d6 (n:Nat) (q73:Q73) (cx:Cx β) (p0:Z10) (x1:List Z28) (v5 v6 v7:Int) (x9 x10:List Int):I3 n q73 (dE p0 x1 v5 v6 v7 x9 x10) cx=SY n q73 (fun p0 x1=>cx.nrm (wQ p0 x1)) p0 x1 v5 v6 v7 x9 x10:=Q8 n q73 _ p0 x1 v5 v6 v7 x9 x10
def MN (n:Nat) (q73:Q73) (kn:Z10→List Z28→Option β) (p0:Z10) (x1:List Z28):Option β:=idx (w64 ((x1.length:Int) - 1)) (x1.length:Int)<|bif ((((rd x1 (w64 ((x1.length:Int) - 1)) Z18).2).size:Int)==(0:Int)) then (bnd (0:Int) (w64 ((x1.length:Int) - 1)) (x1.length:Int)<|kn p0 (cut x1 (0:Int) ((0:Int)+((w64 ((x1.length:Int) - 1)) - (0:Int))))) else (kn p0 x1)
def B8 (n:Nat) (q73:Q73) (s:FState) (cx:Cx β):Option β:=FXs (gH n q73) n fC (some RS) none [] [[1,1,1,1,1,1,1,1,1,0,0],[1,1,1,1,1,1,1,1,1,0,1]] s cx
theorem U5 (n:Nat) (q73:Q73) (cx:Cx β) (p0:Z10) (x1:List Z28):B8 n q73 (wQ p0 x1) cx=MN n q73 (fun p0 x1=>cx.nrm (K1 p0 x1)) p0 x1:=by kernel_rfl
def CY (n:Nat) (q73:Q73) (kn:Z10→List Z28→Int→Bool→Option β) (p0:Z10) (x1:List Z28):Option β:=kn p0 x1 (1:Int) false
def E4 (n:Nat) (q73:Q73) (s:FState) (cx:Cx β):Option β:=FXs (gH n q73) n fC (some sN) none [] [[1,1,1,1,1,1,1,1,1,1,0],[1,1,1,1,1,1,1,1,1,1,1,0]] s cx
theorem T6 (n:Nat) (q73:Q73) (cx:Cx β) (p0:Z10) (x1:List Z28):E4 n q73 (K1 p0 x1) cx=CY n q73 (fun p0 x1 v5 v14=>cx.nrm (oU p0 x1 v5 v14)) p0 x1:=by kernel_rfl
def ZE (n:Nat) (q73:Q73) (kn:Z10→List Z28→Int→Bool→Option β) (kx3:Z10→List Z28→Bool→Option β) (p0:Z10) (x1:List Z28) (v5:Int) (v14:Bool):Option β:=bif (decide (v5 < (w64 ((x1.length:Int) - 1)))) then (idx (w64 (v5 - 1)) (x1.length:Int)<|bif ((rd x1 (w64 (v5 - 1)) Z18).1==(0:Int)) then (idx (w64 (v5+1)) (x1.length:Int)<|bif ((rd x1 (w64 (v5+1)) Z18).1==(0:Int)) then (idx v5 (x1.length:Int)<|idx (w64 (v5 - 1)) (x1.length:Int)<|(g91 n ((rd x1 v5 Z18).2) ((rd x1 (w64 (v5 - 1)) Z18).2)).bind fun r1=>bif r1.1 then (idx (w64 (v5 - 1)) (x1.length:Int)<|idx v5 (x1.length:Int)<|idx v5 (x1.length:Int)<|idx (w64 (v5 - 1)) (x1.length:Int)<|bnd (0:Int) (w64 ((((rd x1 v5 Z18).2).size:Int) - (((rd x1 (w64 (v5 - 1)) Z18).2).size:Int))) (((rd x1 v5 Z18).2).size:Int)<|cG (((rd x1 (w64 (v5 - 1)) Z18).2).size+(cF ((rd x1 v5 Z18).2) (0:Int) (w64 ((((rd x1 v5 Z18).2).size:Int) - (((rd x1 (w64 (v5 - 1)) Z18).2).size:Int)))).size)<|idx v5 (x1.length:Int)<|idx (w64 (v5 - 1)) ((x1.set v5.toNat ((rd x1 v5 Z18).1,((rd x1 (w64 (v5 - 1)) Z18).2++(cF ((rd x1 v5 Z18).2) (0:Int) (w64 ((((rd x1 v5 Z18).2).size:Int) - (((rd x1 (w64 (v5 - 1)) Z18).2).size:Int))))))).length:Int)<|idx (w64 (v5+1)) ((x1.set v5.toNat ((rd x1 v5 Z18).1,((rd x1 (w64 (v5 - 1)) Z18).2++(cF ((rd x1 v5 Z18).2) (0:Int) (w64 ((((rd x1 v5 Z18).2).size:Int) - (((rd x1 (w64 (v5 - 1)) Z18).2).size:Int))))))).length:Int)<|cG (((rd (x1.set v5.toNat ((rd x1 v5 Z18).1,((rd x1 (w64 (v5 - 1)) Z18).2++(cF ((rd x1 v5 Z18).2) (0:Int) (w64 ((((rd x1 v5 Z18).2).size:Int) - (((rd x1 (w64 (v5 - 1)) Z18).2).size:Int))))))) (w64 (v5 - 1)) Z18).2).size+((rd (x1.set v5.toNat ((rd x1 v5 Z18).1,((rd x1 (w64 (v5 - 1)) Z18).2++(cF ((rd x1 v5 Z18).2) (0:Int) (w64 ((((rd x1 v5 Z18).2).size:Int) - (((rd x1 (w64 (v5 - 1)) Z18).2).size:Int))))))) (w64 (v5+1)) Z18).2).size)<|idx (w64 (v5+1)) ((x1.set v5.toNat ((rd x1 v5 Z18).1,((rd x1 (w64 (v5 - 1)) Z18).2++(cF ((rd x1 v5 Z18).2) (0:Int) (w64 ((((rd x1 v5 Z18).2).size:Int) - (((rd x1 (w64 (v5 - 1)) Z18).2).size:Int))))))).length:Int)<|(g71 n ((x1.set v5.toNat ((rd x1 v5 Z18).1,((rd x1 (w64 (v5 - 1)) Z18).2++(cF ((rd x1 v5 Z18).2) (0:Int) (w64 ((((rd x1 v5 Z18).2).size:Int) - (((rd x1 (w64 (v5 - 1)) Z18).2).size:Int))))))).set (w64 (v5+1)).toNat ((rd (x1.set v5.toNat ((rd x1 v5 Z18).1,((rd x1 (w64 (v5 - 1)) Z18).2++(cF ((rd x1 v5 Z18).2) (0:Int) (w64 ((((rd x1 v5 Z18).2).size:Int) - (((rd x1 (w64 (v5 - 1)) Z18).2).size:Int))))))) (w64 (v5+1)) Z18).1,((rd (x1.set v5.toNat ((rd x1 v5 Z18).1,((rd x1 (w64 (v5 - 1)) Z18).2++(cF ((rd x1 v5 Z18).2) (0:Int) (w64 ((((rd x1 v5 Z18).2).size:Int) - (((rd x1 (w64 (v5 - 1)) Z18).2).size:Int))))))) (w64 (v5 - 1)) Z18).2++(rd (x1.set v5.toNat ((rd x1 v5 Z18).1,((rd x1 (w64 (v5 - 1)) Z18).2++(cF ((rd x1 v5 Z18).2) (0:Int) (w64 ((((rd x1 v5 Z18).2).size:Int) - (((rd x1 (w64 (v5 - 1)) Z18).2).size:Int))))))) (w64 (v5+1)) Z18).2))) (w64 (v5 - 1)) (1:Int) []).bind fun r2=>kn p0 r2.1 (w64 (v5+1)) true) else (idx v5 (x1.length:Int)<|idx (w64 (v5+1)) (x1.length:Int)<|(g92 n ((rd x1 v5 Z18).2) ((rd x1 (w64 (v5+1)) Z18).2)).bind fun r3=>bif r3.1 then (idx (w64 (v5 - 1)) (x1.length:Int)<|idx (w64 (v5+1)) (x1.length:Int)<|cG (((rd x1 (w64 (v5 - 1)) Z18).2).size+((rd x1 (w64 (v5+1)) Z18).2).size)<|idx (w64 (v5 - 1)) (x1.length:Int)<|idx v5 ((x1.set (w64 (v5 - 1)).toNat ((rd x1 (w64 (v5 - 1)) Z18).1,((rd x1 (w64 (v5 - 1)) Z18).2++(rd x1 (w64 (v5+1)) Z18).2))).length:Int)<|idx (w64 (v5+1)) ((x1.set (w64 (v5 - 1)).toNat ((rd x1 (w64 (v5 - 1)) Z18).1,((rd x1 (w64 (v5 - 1)) Z18).2++(rd x1 (w64 (v5+1)) Z18).2))).length:Int)<|bnd (((rd (x1.set (w64 (v5 - 1)).toNat ((rd x1 (w64 (v5 - 1)) Z18).1,((rd x1 (w64 (v5 - 1)) Z18).2++(rd x1 (w64 (v5+1)) Z18).2))) (w64 (v5+1)) Z18).2).size:Int) (((rd (x1.set (w64 (v5 - 1)).toNat ((rd x1 (w64 (v5 - 1)) Z18).1,((rd x1 (w64 (v5 - 1)) Z18).2++(rd x1 (w64 (v5+1)) Z18).2))) v5 Z18).2).size:Int) (((rd (x1.set (w64 (v5 - 1)).toNat ((rd x1 (w64 (v5 - 1)) Z18).1,((rd x1 (w64 (v5 - 1)) Z18).2++(rd x1 (w64 (v5+1)) Z18).2))) v5 Z18).2).size:Int)<|idx (w64 (v5+1)) ((x1.set (w64 (v5 - 1)).toNat ((rd x1 (w64 (v5 - 1)) Z18).1,((rd x1 (w64 (v5 - 1)) Z18).2++(rd x1 (w64 (v5+1)) Z18).2))).length:Int)<|cG ((cF ((rd (x1.set (w64 (v5 - 1)).toNat ((rd x1 (w64 (v5 - 1)) Z18).1,((rd x1 (w64 (v5 - 1)) Z18).2++(rd x1 (w64 (v5+1)) Z18).2))) v5 Z18).2) (((rd (x1.set (w64 (v5 - 1)).toNat ((rd x1 (w64 (v5 - 1)) Z18).1,((rd x1 (w64 (v5 - 1)) Z18).2++(rd x1 (w64 (v5+1)) Z18).2))) (w64 (v5+1)) Z18).2).size:Int) (((rd (x1.set (w64 (v5 - 1)).toNat ((rd x1 (w64 (v5 - 1)) Z18).1,((rd x1 (w64 (v5 - 1)) Z18).2++(rd x1 (w64 (v5+1)) Z18).2))) v5 Z18).2).size:Int)).size+((rd (x1.set (w64 (v5 - 1)).toNat ((rd x1 (w64 (v5 - 1)) Z18).1,((rd x1 (w64 (v5 - 1)) Z18).2++(rd x1 (w64 (v5+1)) Z18).2))) (w64 (v5+1)) Z18).2).size)<|idx v5 ((x1.set (w64 (v5 - 1)).toNat ((rd x1 (w64 (v5 - 1)) Z18).1,((rd x1 (w64 (v5 - 1)) Z18).2++(rd x1 (w64 (v5+1)) Z18).2))).length:Int)<|(g71 n ((x1.set (w64 (v5 - 1)).toNat ((rd x1 (w64 (v5 - 1)) Z18).1,((rd x1 (w64 (v5 - 1)) Z18).2++(rd x1 (w64 (v5+1)) Z18).2))).set v5.toNat ((rd (x1.set (w64 (v5 - 1)).toNat ((rd x1 (w64 (v5 - 1)) Z18).1,((rd x1 (w64 (v5 - 1)) Z18).2++(rd x1 (w64 (v5+1)) Z18).2))) v5 Z18).1,((cF ((rd (x1.set (w64 (v5 - 1)).toNat ((rd x1 (w64 (v5 - 1)) Z18).1,((rd x1 (w64 (v5 - 1)) Z18).2++(rd x1 (w64 (v5+1)) Z18).2))) v5 Z18).2) (((rd (x1.set (w64 (v5 - 1)).toNat ((rd x1 (w64 (v5 - 1)) Z18).1,((rd x1 (w64 (v5 - 1)) Z18).2++(rd x1 (w64 (v5+1)) Z18).2))) (w64 (v5+1)) Z18).2).size:Int) (((rd (x1.set (w64 (v5 - 1)).toNat ((rd x1 (w64 (v5 - 1)) Z18).1,((rd x1 (w64 (v5 - 1)) Z18).2++(rd x1 (w64 (v5+1)) Z18).2))) v5 Z18).2).size:Int))++(rd (x1.set (w64 (v5 - 1)).toNat ((rd x1 (w64 (v5 - 1)) Z18).1,((rd x1 (w64 (v5 - 1)) Z18).2++(rd x1 (w64 (v5+1)) Z18).2))) (w64 (v5+1)) Z18).2))) (w64 (v5+1)) (1:Int) []).bind fun r4=>kn p0 r4.1 (w64 (v5+1)) true) else (kn p0 x1 (w64 (v5+1)) v14))) else (kn p0 x1 (w64 (v5+1)) v14)) else (kn p0 x1 (w64 (v5+1)) v14)) else (kx3 p0 x1 v14)
def IF (n:Nat) (q73:Q73) (s:FState) (cx:Cx β):Option β:=FXs (gH n q73) n fC (some sN) none [(3,sM)] [[1,1,1,1,1,1,1,1,1,1,1,1,0,0,0,0,0],[1,1,1,1,1,1,1,1,1,1,1,1,0,0,0,0,1],[1,1,1,1,1,1,1,1,1,1,1,1,0,0,0,1]] s cx
theorem T2 (n:Nat) (q73:Q73) (cx:Cx β) (p0:Z10) (x1:List Z28) (v5:Int) (v14:Bool):IF n q73 (oU p0 x1 v5 v14) cx=ZE n q73 (fun p0 x1 v5 v14=>cx.nrm (oU p0 x1 v5 v14)) (fun p0 x1 v14=>cx.ex 3 (vB p0 x1 v14)) p0 x1 v5 v14:=by kernel_rfl
def g73_35L (n:Nat) (q73:Q73) (kx3:Z10→List Z28→Bool→Option β):Nat→Z10→List Z28→Int→Bool→Option β
  | 0,_,_,_,_=>none
  | m+1,p0,x1,v5,v14=>ZE n q73 (g73_35L n q73 kx3 m) kx3 p0 x1 v5 v14
def XD (n:Nat) (q73:Q73) (kx3:Z10→List Z28→Bool→Option β) (p0:Z10) (x1:List Z28) (v5:Int) (v14:Bool):Option β:=g73_35L n q73 kx3 n p0 x1 v5 v14
def I1 (n:Nat) (q73:Q73) (s:FState) (cx:Cx β):Option β:=bF (fun again s=>IF n q73 s {cx with nrm:=again}) n s
theorem WG (n:Nat) (q73:Q73) (cx:Cx β):∀(m:Nat) (p0:Z10) (x1:List Z28) (v5:Int) (v14:Bool),bF (fun again s=>IF n q73 s {cx with nrm:=again}) m (oU p0 x1 v5 v14)=g73_35L n q73 (fun p0 x1 v14=>cx.ex 3 (vB p0 x1 v14)) m p0 x1 v5 v14:=by
  intro m
  induction m with
  | zero=>intros;rfl
  | succ m ih=>intros;simp only [bF,g73_35L,T2,ih]
theorem T3 (n:Nat) (q73:Q73) (cx:Cx β) (p0:Z10) (x1:List Z28) (v5:Int) (v14:Bool):I1 n q73 (oU p0 x1 v5 v14) cx=XD n q73 (fun p0 x1 v14=>cx.ex 3 (vB p0 x1 v14)) p0 x1 v5 v14:=WG n q73 cx n p0 x1 v5 v14
def DO (n:Nat) (q73:Q73) (kn:Z10→List Z28→Bool→Option β) (p0:Z10) (x1:List Z28) (v5:Int) (v14:Bool):Option β:=XD n q73 kn p0 x1 v5 v14
def L4 (n:Nat) (q73:Q73) (s:FState) (cx:Cx β):Option β:=I1 n q73 s {cx with ex:=fun j s=>bif Nat.beq j 3 then cx.nrm s else cx.ex j s}
theorem T5 (n:Nat) (q73:Q73) (cx:Cx β) (p0:Z10) (x1:List Z28) (v5:Int) (v14:Bool):L4 n q73 (oU p0 x1 v5 v14) cx=DO n q73 (fun p0 x1 v14=>cx.nrm (vB p0 x1 v14)) p0 x1 v5 v14:=T3 n q73 _ p0 x1 v5 v14
def wK (n:Nat) (q73:Q73) (kr:List Z28→Option β) (p0:Z10) (x1:List Z28) (v14:Bool):Option β:=bif v14 then ((q73 (p0,(x1,()))).bind fun r1=>kr r1.1) else (kr x1)
def I0 (n:Nat) (q73:Q73) (s:FState) (cx:Cx β):Option β:=FXs (gH n q73) n fC none (some sP) [] [[1,1,1,1,1,1,1,1,1,1,1,1,1,0,0],[1,1,1,1,1,1,1,1,1,1,1,1,1,0,1],[1,1,1,1,1,1,1,1,1,1,1,1,1,1,0],[1,1,1,1,1,1,1,1,1,1,1,1,1,1,1]] s cx
theorem b7 (n:Nat) (q73:Q73) (cx:Cx β) (p0:Z10) (x1:List Z28) (v14:Bool):I0 n q73 (vB p0 x1 v14) cx=wK n q73 (fun x4=>cx.ret (aJ2 x4)) p0 x1 v14:=by kernel_rfl
def LL (n:Nat) (q73:Q73) (kr:List Z28→Option β) (p0:Z10) (x1:List Z28):Option β:=bL7 n q73 (fun p0 x1 v5 v6 v7 x9 x10=>SY n q73 (fun p0 x1=>MN n q73 (fun p0 x1=>CY n q73 (fun p0 x1 v5 v14=>DO n q73 (fun p0 x1 v14=>wK n q73 kr p0 x1 v14) p0 x1 v5 v14) p0 x1) p0 x1) p0 x1 v5 v6 v7 x9 x10) p0 x1
def yY (n:Nat) (q73:Q73) (s:FState) (cx:Cx β):Option β:=bI8 n q73 s {cx with nrm:=fun s=>I3 n q73 s {cx with nrm:=fun s=>B8 n q73 s {cx with nrm:=fun s=>E4 n q73 s {cx with nrm:=fun s=>L4 n q73 s {cx with nrm:=fun s=>I0 n q73 s cx}}}}}
theorem d5 (n:Nat) (q73:Q73) (cx:Cx β) (p0:Z10) (x1:List Z28):yY n q73 (UK p0 x1) cx=LL n q73 (fun x4=>cx.ret (aJ2 x4)) p0 x1:=by simp only [yY,LL,aQ9,d6,U5,T6,T5,b7]
def C0 (n:Nat) (q73:Q73) (p0:Z10) (x1:List Z28):Option (DenR [.rw Z24 81]):=LL n q73 (fun x4=>some (x4,())) p0 x1
def bH6 (n:Nat) (q73:Q73) (d:DenA lC):Option (DenR iM):=C0 n q73 d.1 d.2.1
def cC3:Sk:=(.nd (.fin none none none [] .leaf) (.nd (.fin none none none [] .leaf) (.nd (.fin none none none [] .leaf) (.nd (.fin none none none [] .leaf) (.nd (.fin none none none [] .leaf) (.nd (.fin none none none [] .leaf) (.nd (.fin none none none [] .leaf) (.nd (.fin none (some dI) none [] .leaf) (.nd (.nd (.nd (.nd (.nd (.fin none none none [(0,LI)] .leaf) (.fin none (some P7) none [(0,LI)] .leaf)) (.nd (.nd (.fin none (some O3) none [] .leaf) (.nd (.nd (.fin none (some L5) none [] .leaf) (.nd (.nd (.fin none none none [(2,dI)] .leaf) (.nd (.fin none none none [(2,dI)] .leaf) (.nd (.fin none none none [(2,dI)] .leaf) (.fin none none none [(2,dI)] .leaf)))) (.nd (.fin none (some O4) none [] .leaf) (.nd (.nd (.fin none none none [(2,dI)] .leaf) (.nd (.fin none none none [(2,dI)] .leaf) (.nd (.fin none none none [(2,dI)] .leaf) (.fin none none none [(2,dI)] .leaf)))) (.nd (.fin none (some C8) none [] .leaf) (.nd (.nd (.nd (.fin none (some O6) none [] .leaf) (.nd (.nd (.nd (.fin none none none [] .leaf) (.fin none (some OM) none [] .leaf)) (.nd (.nd (.fin none none none [] .leaf) (.fin none (some SK) none [] .leaf)) (.nd (.fin none none none [] .leaf) (.nd (.nd (.fin none none none [] .leaf) (.fin none (some QE) none [] .leaf)) (.nd (.fin none none none [] .leaf) (.fin none (some rW) none [] .leaf)))))) (.nd (.fin none none none [] .leaf) (.fin none (some rW) none [] .leaf)))) (.nd (.fin none none none [(2,dI)] .leaf) (.nd (.fin none none none [(2,dI)] .leaf) (.nd (.fin none none none [(2,dI)] .leaf) (.nd (.fin none none none [(2,dI)] .leaf) (.fin none none none [(2,dI)] .leaf)))))) (.fin none (some dI) none [] .leaf))))))) .leaf)) .leaf)) .leaf) .leaf) (.nd (.nd (.fin none none none [] .leaf) (.fin none (some RS) none [] .leaf)) (.nd (.fin none none none [] .leaf) (.nd (.fin none (some sN) none [] .leaf) (.nd (.nd (.nd (.nd (.nd (.fin none none none [(3,sM)] .leaf) (.fin none none none [(3,sM)] .leaf)) (.fin none (some sN) none [(3,sM)] .leaf)) .leaf) .leaf) (.nd (.nd (.fin none none (some sP) [] .leaf) (.fin none none (some sP) [] .leaf)) (.nd (.fin none none (some sP) [] .leaf) (.fin none none (some sP) [] .leaf))))))))))))))))
theorem bV2 (n:Nat) (q73:Q73) (s:FState) (cx:Cx β):FX (gH n q73) n fC cC3 s cx=yY n q73 s cx:=by kernel_rfl
theorem aP3 (n:Nat) (q73:Q73) (h73:Fit Tryd.prog 73 (aK lC iM q73)):Fit Tryd.prog 73 (aK lC iM (bH6 n q73)):=
  bY (Γ:=Γ0) (l:=cM0 n q73) (n:=n) (sk:=cC3) (ts:=[(4,none)]) (fn:=Tryd.f73) (c:=fC) (by kernel_rfl) (by kernel_rfl) (by unfold aJ;kernel_rfl) bT ⟨bR4 n,O7 n,G8 n,cA8 n,bQ0 n,h73,trivial⟩ aE (by kernel_rfl) (by kernel_rfl) (Nat.le_of_ble_eq_true (by kernel_rfl)) (Nat.le_of_ble_eq_true (by kernel_rfl)) (by kernel_rfl) (by kernel_rfl)
    (fun d=>(bV2 n q73 _ _).trans (Eq.trans (b:=yY n q73 (UK d.1 d.2.1) (cD (gH n q73) iM [(4,none)])) (by kernel_rfl) ((d5 n q73 _ d.1 d.2.1).trans (by kernel_rfl))))
def mP (n:Nat):Nat→(DenA lC→Option (DenR iM))
  | 0=>(fun _=>none)
  | m+1=>(bH6 n (mP n m))
theorem xE (n:Nat):∀m:Nat,Fit Tryd.prog 73 (aK lC iM (mP n m))
  | 0=>kF (by unfold aJ;kernel_rfl)
  | m+1=>aP3 n (mP n m) (xE n m)
def cK5 (n:Nat) (d:DenA lC):Option (DenR iM):=(mP n n) d
def g73 (n:Nat) (a0:AK.den (.pro Z1 74)) (a1:AK.den (.rw Z24 81)):Option (DenR iM):=cK5 n (a0,(a1,()))
def cK8 (n:Nat):Spec:=aK lC iM (cK5 n)
theorem bQ1 (n:Nat):Fit Tryd.prog 73 (cK8 n):=(xE n n)
def IM (x0 x1:List Int):FState:=⟨aD [(0, .sl 0 none false),(1, .sl 1 none false)],aC [(0, .row (.int .i32) 21 false x0),(1, .row (.int .i32) 21 false x1)]⟩
def pD (v4:Int):FState:=⟨aD [(4, .dat (.int .i64) v4)],aC []⟩
def iU:List NE:=[.keep 4]
def pY (x0 x1:List Int) (v5 v6:Int):FState:=⟨aD [(0, .sl 0 none false),(1, .sl 1 none false),(5, .dat (.int .i64) v5),(6, .dat (.int .i64) v6)],aC [(0, .row (.int .i32) 21 false x0),(1, .row (.int .i32) 21 false x1)]⟩
def tA:List NE:=[.row 0 (.int .i32) 21 false, .row 1 (.int .i32) 21 false, .keep 5, .keep 6]
def tG:FState:=⟨aD [],aC []⟩
def oF:List NE:=[]
def bD8 (n:Nat):List (Nat×Spec):=[(79,aO6 n)]
def EC (n:Nat):Ctx:={Γ0 with calls:=lkS (bD8 n)}
def AW:Code:=fb Tryd.f101
def YW (n:Nat) (kn:List Int→List Int→Int→Int→Option β) (x0 x1:List Int):Option β:=kn x0 x1 (w64 ((x0.length:Int) - (x1.length:Int))) (0:Int)
def O2 (n:Nat) (s:FState) (cx:Cx β):Option β:=FXs (EC n) n AW (some tA) none [] [[0],[1,0],[1,1,0,0]] s cx
theorem S8 (n:Nat) (cx:Cx β) (x0 x1:List Int):O2 n (IM x0 x1) cx=YW n (fun x0 x1 v5 v6=>cx.nrm (pY x0 x1 v5 v6)) x0 x1:=by kernel_rfl
def UW (n:Nat) (kn:List Int→List Int→Int→Int→Option β) (kr:Int→Option β) (kx0:Option β) (x0 x1:List Int) (v5 v6:Int):Option β:=bif (decide (v6≤v5)) then (bnd v6 (w64 (v6+(x1.length:Int))) (x0.length:Int)<|(g79 n (cut x0 v6 (w64 (v6+(x1.length:Int)))) x1).bind fun r1=>bif r1.1 then (kr v6) else (kn x0 x1 v5 (w64 (v6+1)))) else kx0
def HX (n:Nat) (s:FState) (cx:Cx β):Option β:=FXs (EC n) n AW (some tA) (some iU) [(0,oF)] [[1,1,0,1,0,0,0,0],[1,1,0,1,0,0,0,1],[1,1,0,1,0,0,1,0],[1,1,0,1,0,0,1,1]] s cx
theorem U4 (n:Nat) (cx:Cx β) (x0 x1:List Int) (v5 v6:Int):HX n (pY x0 x1 v5 v6) cx=UW n (fun x0 x1 v5 v6=>cx.nrm (pY x0 x1 v5 v6)) (fun v4=>cx.ret (pD v4)) (cx.ex 0 tG) x0 x1 v5 v6:=by kernel_rfl
def g101_3L (n:Nat) (kr:Int→Option β) (kx0:Option β):Nat→List Int→List Int→Int→Int→Option β
  | 0,_,_,_,_=>none
  | m+1,x0,x1,v5,v6=>UW n (g101_3L n kr kx0 m) kr kx0 x0 x1 v5 v6
def YH (n:Nat) (kr:Int→Option β) (kx0:Option β) (x0 x1:List Int) (v5 v6:Int):Option β:=g101_3L n kr kx0 n x0 x1 v5 v6
def K8 (n:Nat) (s:FState) (cx:Cx β):Option β:=bF (fun again s=>HX n s {cx with nrm:=again}) n s
theorem SU (n:Nat) (cx:Cx β):∀(m:Nat) (x0 x1:List Int) (v5 v6:Int),bF (fun again s=>HX n s {cx with nrm:=again}) m (pY x0 x1 v5 v6)=g101_3L n (fun v4=>cx.ret (pD v4)) (cx.ex 0 tG) m x0 x1 v5 v6:=by
  intro m
  induction m with
  | zero=>intros;rfl
  | succ m ih=>intros;simp only [bF,g101_3L,U4,ih]
theorem S3 (n:Nat) (cx:Cx β) (x0 x1:List Int) (v5 v6:Int):K8 n (pY x0 x1 v5 v6) cx=YH n (fun v4=>cx.ret (pD v4)) (cx.ex 0 tG) x0 x1 v5 v6:=SU n cx n x0 x1 v5 v6
def ZK (n:Nat) (kn:Option β) (kr:Int→Option β) (x0 x1:List Int) (v5 v6:Int):Option β:=YH n kr kn x0 x1 v5 v6
def F9 (n:Nat) (s:FState) (cx:Cx β):Option β:=K8 n s {cx with ex:=fun j s=>bif Nat.beq j 0 then cx.nrm s else cx.ex j s}
theorem Y6 (n:Nat) (cx:Cx β) (x0 x1:List Int) (v5 v6:Int):F9 n (pY x0 x1 v5 v6) cx=ZK n (cx.nrm tG) (fun v4=>cx.ret (pD v4)) x0 x1 v5 v6:=S3 n _ x0 x1 v5 v6
def TO (n:Nat) (kr:Int→Option β):Option β:=kr (-1:Int)
def B3 (n:Nat) (s:FState) (cx:Cx β):Option β:=FXs (EC n) n AW none (some iU) [] [[1,1,1,0],[1,1,1,1]] s cx
theorem i6 (n:Nat) (cx:Cx β):B3 n tG cx=TO n (fun v4=>cx.ret (pD v4)):=by kernel_rfl
def HH (n:Nat) (kr:Int→Option β) (x0 x1:List Int):Option β:=YW n (fun x0 x1 v5 v6=>ZK n (TO n kr) kr x0 x1 v5 v6) x0 x1
def zL (n:Nat) (s:FState) (cx:Cx β):Option β:=O2 n s {cx with nrm:=fun s=>F9 n s {cx with nrm:=fun s=>B3 n s cx}}
theorem X5 (n:Nat) (cx:Cx β) (x0 x1:List Int):zL n (IM x0 x1) cx=HH n (fun v4=>cx.ret (pD v4)) x0 x1:=by simp only [zL,HH,S8,Y6,i6]
def y9 (n:Nat) (x0 x1:List Int):Option (DenR [.dat (.int .i64)]):=HH n (fun v4=>some (v4,())) x0 x1
def q9:List AK:=[.ro (.int .i32) 21, .ro (.int .i32) 21]
def TI:List RK:=[.dat (.int .i64)]
def cV3 (n:Nat) (d:DenA q9):Option (DenR TI):=y9 n d.1 d.2.1
def aE7 (n:Nat):Spec:=aK q9 TI (cV3 n)
def aP1:Sk:=(.nd (.fin none none none [] .leaf) (.nd (.fin none none none [] .leaf) (.nd (.nd (.fin none (some tA) none [] .leaf) (.nd (.nd (.nd (.nd (.fin none none (some iU) [(0,oF)] .leaf) (.fin none none (some iU) [(0,oF)] .leaf)) (.nd (.fin none none (some iU) [(0,oF)] .leaf) (.fin none (some tA) (some iU) [(0,oF)] .leaf))) .leaf) .leaf)) (.nd (.fin none none (some iU) [] .leaf) (.fin none none (some iU) [] .leaf)))))
theorem aV1 (n:Nat) (s:FState) (cx:Cx β):FX (EC n) n AW aP1 s cx=zL n s cx:=by kernel_rfl
theorem bE0 (n:Nat):Fit Tryd.prog 101 (aE7 n):=
  bY (Γ:=Γ0) (l:=bD8 n) (n:=n) (sk:=aP1) (ts:=[(4,none)]) (fn:=Tryd.f101) (c:=AW) (by kernel_rfl) (by kernel_rfl) (by unfold aJ;kernel_rfl) bT ⟨D3 n,trivial⟩ aE (by kernel_rfl) (by kernel_rfl) (Nat.le_of_ble_eq_true (by kernel_rfl)) (Nat.le_of_ble_eq_true (by kernel_rfl)) (by kernel_rfl) (by kernel_rfl)
    (fun d=>(aV1 n _ _).trans (Eq.trans (b:=zL n (IM d.1 d.2.1) (cD (EC n) TI [(4,none)])) (by kernel_rfl) ((X5 n _ d.1 d.2.1).trans (by kernel_rfl))))
def bO7:List AK:=[.pro Z1 74, .ro (.int .i32) 21, .ro (.int .i32) 21, .dat (.int .i64)]
def aE8:List RK:=[.rw (.sl 21 (.int .i32)) 32]
def dD4 (n:Nat) (v0:Z10) (v1 v2:List Int) (v3:Int):Option (DenR [.rw (.sl 21 (.int .i32)) 32]):=none
def cS0 (n:Nat) (d:DenA bO7):Option (DenR aE8):=none
def aE0 (n:Nat):Spec:=aK bO7 aE8 (cS0 n)
theorem bJ1 (n:Nat):Fit Tryd.prog 120 (aE0 n):=kF (by unfold aJ;kernel_rfl)
def LN (p0:Z10) (x1 x2:List Int):FState:=⟨aD [(0, .ptr 0 0 0),(1, .sl 1 none false),(2, .sl 2 none false)],aC [(0, .row Z1 74 false [p0]),(1, .row (.int .i32) 21 false x1),(2, .row (.int .i32) 21 false x2)]⟩
def JD:FState:=⟨aD [(6, .nsl)],aC []⟩
def cU:List NE:=[.keep 6]
def D7 (p0:Z10) (x1 x2 x7 x8:List Int):FState:=⟨aD [(0, .ptr 0 0 0),(1, .sl 1 none false),(2, .sl 2 none false),(7, .sl 7 none false),(8, .sl 8 none false)],aC [(0, .row Z1 74 false [p0]),(1, .row (.int .i32) 21 false x1),(2, .row (.int .i32) 21 false x2),(7, .row (.int .i32) 21 false x7),(8, .row (.int .i32) 21 false x8)]⟩
def PK:List NE:=[.ptr 0 Z1 74 false, .row 1 (.int .i32) 21 false, .row 2 (.int .i32) 21 false, .row 7 (.int .i32) 21 false, .row 8 (.int .i32) 21 false]
def aP8 (n:Nat):List (Nat×Spec):=[(120,aE0 n)]
def LJ (n:Nat):Ctx:={Γ0 with calls:=lkS (aP8 n)}
def IE:Code:=fb Tryd.f102
def UZ (n:Nat) (kn:Z10→List Int→List Int→List Int→List Int→Option β) (kr:Option β) (p0:Z10) (x1 x2:List Int):Option β:=bif (decide (p0.1≤(0:Int))) then kr else (bif (decide ((x1.length:Int)>(x2.length:Int))) then (kn p0 x1 x2 x1 x2) else (kn p0 x1 x2 x2 x1))
def E8 (n:Nat) (s:FState) (cx:Cx β):Option β:=FXs (LJ n) n IE (some PK) (some cU) [] [[0],[1,0,0],[1,0,1],[1,1,0],[1,1,1,0,0],[1,1,1,0,1]] s cx
theorem R3 (n:Nat) (cx:Cx β) (p0:Z10) (x1 x2:List Int):E8 n (LN p0 x1 x2) cx=UZ n (fun p0 x1 x2 x7 x8=>cx.nrm (D7 p0 x1 x2 x7 x8)) (cx.ret JD) p0 x1 x2:=by kernel_rfl
def bM5 (n:Nat) (kr:Option β) (p0:Z10) (x1 x2 x7 x8:List Int):Option β:=bif (decide ((x7.length:Int) < (4:Int))) then kr else (bif (decide ((w64 ((x8.length:Int) * 2)) < (x7.length:Int))) then kr else (onS (floatBits .quo .f64 (floatOfInt .f64 (w64 ((x7.length:Int)+3))) (4616189618054758400:Nat)) fun r1=>onS (floatToIntVal .f64 r1 .i64) fun r2=>(dD4 n p0 x7 x8 r2).bind fun r3=>onS (floatBits .quo .f64 (floatOfInt .f64 (w64 ((x7.length:Int)+1))) (4611686018427387904:Nat)) fun r4=>onS (floatToIntVal .f64 r4 .i64) fun r5=>(dD4 n p0 x7 x8 r5).bind fun r6=>none))
def H6 (n:Nat) (s:FState) (cx:Cx β):Option β:=FXs (LJ n) n IE none (some cU) [] [[1,1,1,1,0,0],[1,1,1,1,0,1],[1,1,1,1,1,0],[1,1,1,1,1,1,0],[1,1,1,1,1,1,1,0],[1,1,1,1,1,1,1,1,0,0],[1,1,1,1,1,1,1,1,0,1],[1,1,1,1,1,1,1,1,1,0,0],[1,1,1,1,1,1,1,1,1,0,1],[1,1,1,1,1,1,1,1,1,1,0],[1,1,1,1,1,1,1,1,1,1,1]] s cx
theorem R1 (n:Nat) (cx:Cx β) (p0:Z10) (x1 x2 x7 x8:List Int):H6 n (D7 p0 x1 x2 x7 x8) cx=bM5 n (cx.ret JD) p0 x1 x2 x7 x8:=by kernel_rfl
def MI (n:Nat) (kr:Option β) (p0:Z10) (x1 x2:List Int):Option β:=UZ n (fun p0 x1 x2 x7 x8=>bM5 n kr p0 x1 x2 x7 x8) kr p0 x1 x2
def zB (n:Nat) (s:FState) (cx:Cx β):Option β:=E8 n s {cx with nrm:=fun s=>H6 n s cx}
theorem d4 (n:Nat) (cx:Cx β) (p0:Z10) (x1 x2:List Int):zB n (LN p0 x1 x2) cx=MI n (cx.ret JD) p0 x1 x2:=by simp only [zB,MI,R3,R1]
def bR6 (n:Nat) (p0:Z10) (x1 x2:List Int):Option (DenR [.nsl]):=MI n (some ((),())) p0 x1 x2
def aB7:List AK:=[.pro Z1 74, .ro (.int .i32) 21, .ro (.int .i32) 21]
def YU:List RK:=[.nsl]
def cW4 (n:Nat) (d:DenA aB7):Option (DenR YU):=bR6 n d.1 d.2.1 d.2.2.1
def aE3 (n:Nat):Spec:=aK aB7 YU (cW4 n)
def n9:Sk:=(.nd (.fin none none (some cU) [] .leaf) (.nd (.nd (.fin none none (some cU) [] .leaf) (.fin none none (some cU) [] .leaf)) (.nd (.fin none none (some cU) [] .leaf) (.nd (.nd (.fin none none (some cU) [] .leaf) (.fin none (some PK) (some cU) [] .leaf)) (.nd (.nd (.fin none none (some cU) [] .leaf) (.fin none none (some cU) [] .leaf)) (.nd (.fin none none (some cU) [] .leaf) (.nd (.fin none none (some cU) [] .leaf) (.nd (.fin none none (some cU) [] .leaf) (.nd (.nd (.fin none none (some cU) [] .leaf) (.fin none none (some cU) [] .leaf)) (.nd (.nd (.fin none none (some cU) [] .leaf) (.fin none none (some cU) [] .leaf)) (.nd (.fin none none (some cU) [] .leaf) (.fin none none (some cU) [] .leaf))))))))))))
theorem aD2 (n:Nat) (s:FState) (cx:Cx β):FX (LJ n) n IE n9 s cx=zB n s cx:=by kernel_rfl
theorem bK6 (n:Nat):Fit Tryd.prog 102 (aE3 n):=
  bY (Γ:=Γ0) (l:=aP8 n) (n:=n) (sk:=n9) (ts:=[(6,none)]) (fn:=Tryd.f102) (c:=IE) (by kernel_rfl) (by kernel_rfl) (by unfold aJ;kernel_rfl) bT ⟨bJ1 n,trivial⟩ aE (by kernel_rfl) (by kernel_rfl) (Nat.le_of_ble_eq_true (by kernel_rfl)) (Nat.le_of_ble_eq_true (by kernel_rfl)) (by kernel_rfl) (by kernel_rfl)
    (fun d=>(aD2 n _ _).trans (Eq.trans (b:=zB n (LN d.1 d.2.1 d.2.2.1) (cD (LJ n) YU [(6,none)])) (by kernel_rfl) ((d4 n _ d.1 d.2.1 d.2.2.1).trans (by kernel_rfl))))
def aA1:List AK:=[.pro Z1 74, .ro (.int .i32) 21, .ro (.int .i32) 21]
def u6:List RK:=[.rw Z24 81]
def dE2 (n:Nat) (v0:Z10) (v1 v2:List Int):Option (DenR [.rw Z24 81]):=none
def cW5 (n:Nat) (d:DenA aA1):Option (DenR u6):=none
def bC3 (n:Nat):Spec:=aK aA1 u6 (cW5 n)
theorem aJ3 (n:Nat):Fit Tryd.prog 103 (bC3 n):=kF (by unfold aJ;kernel_rfl)
end
end Go.Proofs.YticibdjilmclgaaDoorZF
