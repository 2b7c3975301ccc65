import Derived.Test.YticibdjilmclgaaDoorZFT
import Derived.Test.YticibdjilmclgaaDoorZGA0
import Derived.Test.YticibdjilmclgaaDoorZGA1
namespace Go.Proofs.YticibdjilmclgaaDoorZF
noncomputable section
open Go Go.Proofs
set_option linter.unusedVariables false
set_option maxRecDepth 100000
variable {β:Type}
def XL (x0:List Z28):FState:=⟨aD [(0, .sl 0 none false)],aC [(0, .row Z22 31 false x0)]⟩
def aD7 (v2:ByteArray):FState:=⟨aD [(2, .dat .str v2)],aC []⟩
def JQ:List NE:=[.keep 2]
def wL (v3:ByteArray) (x6:List Z28) (v7 v8:Int):FState:=⟨aD [(3, .dat .str v3),(6, .sl 6 none false),(7, .dat (.int .i64) v7),(8, .dat (.int .i64) v8)],aC [(6, .row Z22 31 false x6)]⟩
def AG:List NE:=[.keep 3, .row 6 Z22 31 false, .keep 7, .keep 8]
def BQ (v3:ByteArray):FState:=⟨aD [(3, .dat .str v3)],aC []⟩
def sF:List NE:=[.keep 3]
def cX7 (n:Nat):List (Nat×Spec):=[]
def PX (n:Nat):Ctx:={Γ0 with calls:=lkS (cX7 n)}
def PC:Code:=fb Tryd.f16
def cM5 (n:Nat) (kn:ByteArray→List Z28→Int→Int→Option β) (x0:List Z28):Option β:=kn (⟨#[]⟩:ByteArray) x0 (x0.length:Int) (0:Int)
def bA5 (n:Nat) (s:FState) (cx:Cx β):Option β:=FXs (PX n) n PC (some AG) none [] [[0],[1,0],[1,1,0,0]] s cx
theorem bS5 (n:Nat) (cx:Cx β) (x0:List Z28):bA5 n (XL x0) cx=cM5 n (fun v3 x6 v7 v8=>cx.nrm (wL v3 x6 v7 v8)) x0:=by kernel_rfl
def L9 (n:Nat) (kn:ByteArray→List Z28→Int→Int→Option β) (kx0:ByteArray→Option β) (v3:ByteArray) (x6:List Z28) (v7 v8:Int):Option β:=bif (decide (v8 < v7)) then (idx v8 (x6.length:Int)<|bif ((rd [(rd x6 v8 Z18)] (0:Int) Z18).1 !=(1:Int)) then (cG (v3.size+((rd [(rd x6 v8 Z18)] (0:Int) Z18).2).size)<|kn (v3++(rd [(rd x6 v8 Z18)] (0:Int) Z18).2) x6 v7 (w64 (v8+1))) else (kn v3 x6 v7 (w64 (v8+1)))) else (kx0 v3)
def ZM (n:Nat) (s:FState) (cx:Cx β):Option β:=FXs (PX n) n PC (some AG) none [(0,sF)] [[1,1,0,1,0,0,0],[1,1,0,1,0,0,1,0],[1,1,0,1,0,0,1,1,0],[1,1,0,1,0,0,1,1,1]] s cx
theorem bQ1 (n:Nat) (cx:Cx β) (v3:ByteArray) (x6:List Z28) (v7 v8:Int):ZM n (wL v3 x6 v7 v8) cx=L9 n (fun v3 x6 v7 v8=>cx.nrm (wL v3 x6 v7 v8)) (fun v3=>cx.ex 0 (BQ v3)) v3 x6 v7 v8:=by kernel_rfl
def g16_3L (n:Nat) (kx0:ByteArray→Option β):Nat→ByteArray→List Z28→Int→Int→Option β
  | 0,_,_,_,_=>none
  | m+1,v3,x6,v7,v8=>L9 n (g16_3L n kx0 m) kx0 v3 x6 v7 v8
def cK6 (n:Nat) (kx0:ByteArray→Option β) (v3:ByteArray) (x6:List Z28) (v7 v8:Int):Option β:=g16_3L n kx0 n v3 x6 v7 v8
def y7 (n:Nat) (s:FState) (cx:Cx β):Option β:=aZ (fun again s=>ZM n s {cx with nrm:=again}) n s
theorem d6 (n:Nat) (cx:Cx β):∀(m:Nat) (v3:ByteArray) (x6:List Z28) (v7 v8:Int),aZ (fun again s=>ZM n s {cx with nrm:=again}) m (wL v3 x6 v7 v8)=g16_3L n (fun v3=>cx.ex 0 (BQ v3)) m v3 x6 v7 v8:=by
  intro m
  induction m with
  | zero=>intros;rfl
  | succ m ih=>intros;simp only [aZ,g16_3L,bQ1,ih]
theorem aB8 (n:Nat) (cx:Cx β) (v3:ByteArray) (x6:List Z28) (v7 v8:Int):y7 n (wL v3 x6 v7 v8) cx=cK6 n (fun v3=>cx.ex 0 (BQ v3)) v3 x6 v7 v8:=d6 n cx n v3 x6 v7 v8
def cO2 (n:Nat) (kn:ByteArray→Option β) (v3:ByteArray) (x6:List Z28) (v7 v8:Int):Option β:=cK6 n kn v3 x6 v7 v8
def aC5 (n:Nat) (s:FState) (cx:Cx β):Option β:=y7 n s {cx with ex:=fun j s=>bif Nat.beq j 0 then cx.nrm s else cx.ex j s}
theorem bF2 (n:Nat) (cx:Cx β) (v3:ByteArray) (x6:List Z28) (v7 v8:Int):aC5 n (wL v3 x6 v7 v8) cx=cO2 n (fun v3=>cx.nrm (BQ v3)) v3 x6 v7 v8:=aB8 n _ v3 x6 v7 v8
def cT6 (n:Nat) (kr:ByteArray→Option β) (v3:ByteArray):Option β:=kr v3
def aI8 (n:Nat) (s:FState) (cx:Cx β):Option β:=FXs (PX n) n PC none (some JQ) [] [[1,1,1,0],[1,1,1,1]] s cx
theorem aF9 (n:Nat) (cx:Cx β) (v3:ByteArray):aI8 n (BQ v3) cx=cT6 n (fun v2=>cx.ret (aD7 v2)) v3:=by kernel_rfl
def aG0 (n:Nat) (kr:ByteArray→Option β) (x0:List Z28):Option β:=cM5 n (fun v3 x6 v7 v8=>cO2 n (fun v3=>cT6 n kr v3) v3 x6 v7 v8) x0
def LE (n:Nat) (s:FState) (cx:Cx β):Option β:=bA5 n s {cx with nrm:=fun s=>aC5 n s {cx with nrm:=fun s=>aI8 n s cx}}
theorem aE6 (n:Nat) (cx:Cx β) (x0:List Z28):LE n (XL x0) cx=aG0 n (fun v2=>cx.ret (aD7 v2)) x0:=by simp only [LE,aG0,bS5,bF2,aF9]
def g16 (n:Nat) (x0:List Z28):Option (DenR [.dat .str]):=aG0 n (fun v2=>some (v2,())) x0
def cN6:List AK:=[.ro Z22 31]
def bV5:List RK:=[.dat .str]
def dK4 (n:Nat) (d:DenA cN6):Option (DenR bV5):=g16 n d.1
def cT8 (n:Nat):Spec:=aK cN6 bV5 (dK4 n)
def cV2:Sk:=(.nd (.fin none none none [] .leaf) (.nd (.fin none none none [] .leaf) (.nd (.nd (.fin none (some AG) none [] .leaf) (.nd (.nd (.nd (.fin none none none [(0,sF)] .leaf) (.nd (.fin none none none [(0,sF)] .leaf) (.nd (.fin none none none [(0,sF)] .leaf) (.fin none (some AG) none [(0,sF)] .leaf)))) .leaf) .leaf)) (.nd (.fin none none (some JQ) [] .leaf) (.fin none none (some JQ) [] .leaf)))))
theorem cG8 (n:Nat) (s:FState) (cx:Cx β):FX (PX n) n PC cV2 s cx=LE n s cx:=by kernel_rfl
theorem cG7 (n:Nat):Fit Tryd.prog 16 (cT8 n):=
  bT (Γ:=Γ0) (l:=cX7 n) (n:=n) (sk:=cV2) (ts:=[(2,none)]) (fn:=Tryd.f16) (c:=PC) (by kernel_rfl) (by kernel_rfl) (by unfold aI;kernel_rfl) bL trivial aE (by kernel_rfl) (by kernel_rfl) (Nat.le_of_ble_eq_true (by kernel_rfl)) (Nat.le_of_ble_eq_true (by kernel_rfl)) (by kernel_rfl) (by kernel_rfl)
    (fun d=>(cG8 n _ _).trans (Eq.trans (b:=LE n (XL d.1) (bZ (PX n) bV5 [(2,none)])) (by kernel_rfl) ((aE6 n _ d.1).trans (by kernel_rfl))))
def VI (x0:List Z28):FState:=⟨aD [(0, .sl 0 none false)],aC [(0, .row Z22 31 false x0)]⟩
def aF4 (v2:ByteArray):FState:=⟨aD [(2, .dat .str v2)],aC []⟩
def NI:List NE:=[.keep 2]
def wK (v3:ByteArray) (x6:List Z28) (v7 v8:Int):FState:=⟨aD [(3, .dat .str v3),(6, .sl 6 none false),(7, .dat (.int .i64) v7),(8, .dat (.int .i64) v8)],aC [(6, .row Z22 31 false x6)]⟩
def yU:List NE:=[.keep 3, .row 6 Z22 31 false, .keep 7, .keep 8]
def EY (v3:ByteArray):FState:=⟨aD [(3, .dat .str v3)],aC []⟩
def sL:List NE:=[.keep 3]
def cK8 (n:Nat):List (Nat×Spec):=[]
def TB (n:Nat):Ctx:={Γ0 with calls:=lkS (cK8 n)}
def SB:Code:=fb Tryd.f17
def cZ3 (n:Nat) (kn:ByteArray→List Z28→Int→Int→Option β) (x0:List Z28):Option β:=kn (⟨#[]⟩:ByteArray) x0 (x0.length:Int) (0:Int)
def aF6 (n:Nat) (s:FState) (cx:Cx β):Option β:=FXs (TB n) n SB (some yU) none [] [[0],[1,0],[1,1,0,0]] s cx
theorem aH4 (n:Nat) (cx:Cx β) (x0:List Z28):aF6 n (VI x0) cx=cZ3 n (fun v3 x6 v7 v8=>cx.nrm (wK v3 x6 v7 v8)) x0:=by kernel_rfl
def U7 (n:Nat) (kn:ByteArray→List Z28→Int→Int→Option β) (kx0:ByteArray→Option β) (v3:ByteArray) (x6:List Z28) (v7 v8:Int):Option β:=bif (decide (v8 < v7)) then (idx v8 (x6.length:Int)<|bif ((rd [(rd x6 v8 Z18)] (0:Int) Z18).1 !=(-1:Int)) then (cG (v3.size+((rd [(rd x6 v8 Z18)] (0:Int) Z18).2).size)<|kn (v3++(rd [(rd x6 v8 Z18)] (0:Int) Z18).2) x6 v7 (w64 (v8+1))) else (kn v3 x6 v7 (w64 (v8+1)))) else (kx0 v3)
def YF (n:Nat) (s:FState) (cx:Cx β):Option β:=FXs (TB n) n SB (some yU) none [(0,sL)] [[1,1,0,1,0,0,0],[1,1,0,1,0,0,1,0],[1,1,0,1,0,0,1,1,0],[1,1,0,1,0,0,1,1,1]] s cx
theorem bD8 (n:Nat) (cx:Cx β) (v3:ByteArray) (x6:List Z28) (v7 v8:Int):YF n (wK v3 x6 v7 v8) cx=U7 n (fun v3 x6 v7 v8=>cx.nrm (wK v3 x6 v7 v8)) (fun v3=>cx.ex 0 (EY v3)) v3 x6 v7 v8:=by kernel_rfl
def g17_3L (n:Nat) (kx0:ByteArray→Option β):Nat→ByteArray→List Z28→Int→Int→Option β
  | 0,_,_,_,_=>none
  | m+1,v3,x6,v7,v8=>U7 n (g17_3L n kx0 m) kx0 v3 x6 v7 v8
def cX9 (n:Nat) (kx0:ByteArray→Option β) (v3:ByteArray) (x6:List Z28) (v7 v8:Int):Option β:=g17_3L n kx0 n v3 x6 v7 v8
def aY7 (n:Nat) (s:FState) (cx:Cx β):Option β:=aZ (fun again s=>YF n s {cx with nrm:=again}) n s
theorem u9 (n:Nat) (cx:Cx β):∀(m:Nat) (v3:ByteArray) (x6:List Z28) (v7 v8:Int),aZ (fun again s=>YF n s {cx with nrm:=again}) m (wK v3 x6 v7 v8)=g17_3L n (fun v3=>cx.ex 0 (EY v3)) m v3 x6 v7 v8:=by
  intro m
  induction m with
  | zero=>intros;rfl
  | succ m ih=>intros;simp only [aZ,g17_3L,bD8,ih]
theorem aE5 (n:Nat) (cx:Cx β) (v3:ByteArray) (x6:List Z28) (v7 v8:Int):aY7 n (wK v3 x6 v7 v8) cx=cX9 n (fun v3=>cx.ex 0 (EY v3)) v3 x6 v7 v8:=u9 n cx n v3 x6 v7 v8
def cP3 (n:Nat) (kn:ByteArray→Option β) (v3:ByteArray) (x6:List Z28) (v7 v8:Int):Option β:=cX9 n kn v3 x6 v7 v8
def aI7 (n:Nat) (s:FState) (cx:Cx β):Option β:=aY7 n s {cx with ex:=fun j s=>bif Nat.beq j 0 then cx.nrm s else cx.ex j s}
theorem aN9 (n:Nat) (cx:Cx β) (v3:ByteArray) (x6:List Z28) (v7 v8:Int):aI7 n (wK v3 x6 v7 v8) cx=cP3 n (fun v3=>cx.nrm (EY v3)) v3 x6 v7 v8:=aE5 n _ v3 x6 v7 v8
def cN8 (n:Nat) (kr:ByteArray→Option β) (v3:ByteArray):Option β:=kr v3
def aC3 (n:Nat) (s:FState) (cx:Cx β):Option β:=FXs (TB n) n SB none (some NI) [] [[1,1,1,0],[1,1,1,1]] s cx
theorem aX2 (n:Nat) (cx:Cx β) (v3:ByteArray):aC3 n (EY v3) cx=cN8 n (fun v2=>cx.ret (aF4 v2)) v3:=by kernel_rfl
def bJ2 (n:Nat) (kr:ByteArray→Option β) (x0:List Z28):Option β:=cZ3 n (fun v3 x6 v7 v8=>cP3 n (fun v3=>cN8 n kr v3) v3 x6 v7 v8) x0
def LP (n:Nat) (s:FState) (cx:Cx β):Option β:=aF6 n s {cx with nrm:=fun s=>aI7 n s {cx with nrm:=fun s=>aC3 n s cx}}
theorem bN0 (n:Nat) (cx:Cx β) (x0:List Z28):LP n (VI x0) cx=bJ2 n (fun v2=>cx.ret (aF4 v2)) x0:=by simp only [LP,bJ2,aH4,aN9,aX2]
def g17 (n:Nat) (x0:List Z28):Option (DenR [.dat .str]):=bJ2 n (fun v2=>some (v2,())) x0
def cM4:List AK:=[.ro Z22 31]
def aI3:List RK:=[.dat .str]
def dO8 (n:Nat) (d:DenA cM4):Option (DenR aI3):=g17 n d.1
def dA3 (n:Nat):Spec:=aK cM4 aI3 (dO8 n)
def cN7:Sk:=(.nd (.fin none none none [] .leaf) (.nd (.fin none none none [] .leaf) (.nd (.nd (.fin none (some yU) none [] .leaf) (.nd (.nd (.nd (.fin none none none [(0,sL)] .leaf) (.nd (.fin none none none [(0,sL)] .leaf) (.nd (.fin none none none [(0,sL)] .leaf) (.fin none (some yU) none [(0,sL)] .leaf)))) .leaf) .leaf)) (.nd (.fin none none (some NI) [] .leaf) (.fin none none (some NI) [] .leaf)))))
theorem cD5 (n:Nat) (s:FState) (cx:Cx β):FX (TB n) n SB cN7 s cx=LP n s cx:=by kernel_rfl
theorem cC4 (n:Nat):Fit Tryd.prog 17 (dA3 n):=
  bT (Γ:=Γ0) (l:=cK8 n) (n:=n) (sk:=cN7) (ts:=[(2,none)]) (fn:=Tryd.f17) (c:=SB) (by kernel_rfl) (by kernel_rfl) (by unfold aI;kernel_rfl) bL trivial aE (by kernel_rfl) (by kernel_rfl) (Nat.le_of_ble_eq_true (by kernel_rfl)) (Nat.le_of_ble_eq_true (by kernel_rfl)) (by kernel_rfl) (by kernel_rfl)
    (fun d=>(cD5 n _ _).trans (Eq.trans (b:=LP n (VI d.1) (bZ (TB n) aI3 [(2,none)])) (by kernel_rfl) ((bN0 n _ d.1).trans (by kernel_rfl))))
def cU7 (v0 v1:ByteArray):FState:=⟨aD [(0, .dat .str v0),(1, .dat .str v1)],aC []⟩
def dK6 (v4:Bool):FState:=⟨aD [(4, .dat .bool v4)],aC []⟩
def lI:List NE:=[.keep 4]
def dL8 (n:Nat):List (Nat×Spec):=[(13,dB0 n),(15,dB9 n),(16,cT8 n),(17,dA3 n),(21,cS5 n),(28,cS0 n),(29,cQ8 n),(30,cO7 n),(31,cZ0 n)]
def dE5 (n:Nat):Ctx:={Γ0 with calls:=lkS (dL8 n)}
def dE3:Code:=fb Tryd.f9
def dE1 (n:Nat) (kr:Bool→Option β) (v0 v1:ByteArray):Option β:=bif (decide ((v0.size:Int)>(2147483647:Int))) then (kr true) else (bif (decide ((v1.size:Int)>(2147483647:Int))) then (kr true) else ((g13 n v0 (200:Int)).bind fun r1=>(g13 n v1 (200:Int)).bind fun r2=>(g28 n r1.1 r2.1).bind fun r3=>(g21 n r3.1 r3.2.1 false).bind fun r4=>(g29 n r4.1 r3.2.2.1).bind fun r5=>(g15 n r4.1).bind fun r6=>(g31 n r1.1).bind fun r7=>(g31 n r2.1).bind fun r8=>(g30 n r7.1 r8.1).bind fun r9=>bif (r6.1==r9.1) then ((g16 n r5.1).bind fun r10=>bif (dL r10.1 r1.1) then ((g17 n r5.1).bind fun r11=>kr (dL r11.1 r2.1)) else (kr false)) else (kr false)))
def aS1 (n:Nat) (s:FState) (cx:Cx β):Option β:=FXs (dE5 n) n dE3 none (some lI) [] [[0],[1,0,0],[1,0,1],[1,1,0],[1,1,1,0],[1,1,1,1,0],[1,1,1,1,1,0],[1,1,1,1,1,1,0],[1,1,1,1,1,1,1]] s cx
theorem cB2 (n:Nat) (cx:Cx β) (v0 v1:ByteArray):aS1 n (cU7 v0 v1) cx=dE1 n (fun v4=>cx.ret (dK6 v4)) v0 v1:=by kernel_rfl
def g9 (n:Nat) (v0 v1:ByteArray):Option (DenR [.dat .bool]):=dE1 n (fun v4=>some (v4,())) v0 v1
def g9_A:List AK:=[.dat .str, .dat .str]
def dE7:List RK:=[.dat .bool]
def dI8 (n:Nat) (d:DenA g9_A):Option (DenR dE7):=g9 n d.1 d.2.1
def dQ6 (n:Nat):Spec:=aK g9_A dE7 (dI8 n)
def dQ0:Sk:=(.nd (.fin none none (some lI) [] .leaf) (.nd (.nd (.fin none none (some lI) [] .leaf) (.fin none none (some lI) [] .leaf)) (.nd (.fin none none (some lI) [] .leaf) (.nd (.fin none none (some lI) [] .leaf) (.nd (.fin none none (some lI) [] .leaf) (.nd (.fin none none (some lI) [] .leaf) (.nd (.fin none none (some lI) [] .leaf) (.fin none none (some lI) [] .leaf))))))))
theorem dH2 (n:Nat) (s:FState) (cx:Cx β):FX (dE5 n) n dE3 dQ0 s cx=aS1 n s cx:=by kernel_rfl
theorem dD4 (n:Nat):Fit Tryd.prog 9 (dQ6 n):=
  bT (Γ:=Γ0) (l:=dL8 n) (n:=n) (sk:=dQ0) (ts:=[(4,none)]) (fn:=Tryd.f9) (c:=dE3) (by kernel_rfl) (by kernel_rfl) (by unfold aI;kernel_rfl) bL ⟨cB7 n,cJ5 n,cG7 n,cC4 n,cA2 n,cD1 n,cF4 n,bZ2 n,cI7 n,trivial⟩ aE (by kernel_rfl) (by kernel_rfl) (Nat.le_of_ble_eq_true (by kernel_rfl)) (Nat.le_of_ble_eq_true (by kernel_rfl)) (by kernel_rfl) (by kernel_rfl)
    (fun d=>(dH2 n _ _).trans (Eq.trans (b:=aS1 n (cU7 d.1 d.2.1) (bZ (dE5 n) dE7 [(4,none)])) (by kernel_rfl) ((cB2 n _ d.1 d.2.1).trans (by kernel_rfl))))
end
end Go.Proofs.YticibdjilmclgaaDoorZF
