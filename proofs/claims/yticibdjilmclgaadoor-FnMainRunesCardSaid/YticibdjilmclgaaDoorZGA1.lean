import Derived.Test.YticibdjilmclgaaDoorZFT
import Derived.Test.YticibdjilmclgaaDoorZFE
import Derived.Test.YticibdjilmclgaaDoorZGA0
namespace Go.Proofs.YticibdjilmclgaaDoorZF
noncomputable section
open Go Go.Proofs
set_option linter.unusedVariables false
set_option maxRecDepth 100000
variable {β:Type}
def F5 (C:Z11) (B:List Z28):FState:=⟨aG [(0,.ptr 0 0 0),(1,.sl 1 none false)],aD [(0,.row Z1 74 false [C]),(1,.row Z25 81 true B)]⟩
def cT9 (x4:List Z28):FState:=⟨aG [(4,.sl 4 none false)],aD [(4,.row Z25 81 true x4)]⟩
def UD:List NE:=[.row 4 Z25 81 true]
def gO (C:Z11) (B:List Z28) (D:Int):FState:=⟨aG [(0,.ptr 0 0 0),(1,.sl 1 none false),(5,.dat (.int .i64) D)],aD [(0,.row Z1 74 false [C]),(1,.row Z25 81 true B)]⟩
def lA:List NE:=[.ptr 0 Z1 74 false,.row 1 Z25 81 true,.keep 5]
def zQ (B:List Z28):FState:=⟨aG [(1,.sl 1 none false)],aD [(1,.row Z25 81 true B)]⟩
def QD:List NE:=[.row 1 Z25 81 true]
def KI (C:Z11) (B:List Z28) (D:Int) (bg:Bool):FState:=⟨aG [(0,.ptr 0 0 0),(1,.sl 1 none false),(5,.dat (.int .i64) D),(38,.dat .bool bg)],aD [(0,.row Z1 74 false [C]),(1,.row Z25 81 true B)]⟩
def aC4:List NE:=[.ptr 0 Z1 74 false,.row 1 Z25 81 true,.keep 5,.keep 38]
def dL5 (C:Z11) (B:List Z28) (D:Int) (T F I:BA):FState:=⟨aG [(0,.ptr 0 0 0),(1,.sl 1 none false),(5,.dat (.int .i64) D),(6,.dat .str T),(7,.dat .str F),(8,.dat .str I)],aD [(0,.row Z1 74 false [C]),(1,.row Z25 81 true B)]⟩
def aL7:List NE:=[.ptr 0 Z1 74 false,.row 1 Z25 81 true,.keep 5,.keep 6,.keep 7,.keep 8]
def zM (C:Z11) (B:List Z28) (D:Int) (T F I G N Z:BA) (ac:Int):FState:=⟨aG [(0,.ptr 0 0 0),(1,.sl 1 none false),(5,.dat (.int .i64) D),(6,.dat .str T),(7,.dat .str F),(8,.dat .str I),(11,.dat .str G),(12,.dat .str N),(13,.dat .str Z),(14,.dat (.int .i64) ac)],aD [(0,.row Z1 74 false [C]),(1,.row Z25 81 true B)]⟩
def EW:List NE:=[.ptr 0 Z1 74 false,.row 1 Z25 81 true,.keep 5,.keep 6,.keep 7,.keep 8,.keep 11,.keep 12,.keep 13,.keep 14]
def IM (C:Z11) (B:List Z28) (D:Int) (G N Z:BA):FState:=⟨aG [(0,.ptr 0 0 0),(1,.sl 1 none false),(5,.dat (.int .i64) D),(11,.dat .str G),(12,.dat .str N),(13,.dat .str Z)],aD [(0,.row Z1 74 false [C]),(1,.row Z25 81 true B)]⟩
def DU:List NE:=[.ptr 0 Z1 74 false,.row 1 Z25 81 true,.keep 5,.keep 11,.keep 12,.keep 13]
section
variable (n:Nat) (cx:Cx β)
def eK8:List (Nat×Spec):=[(68,eJ0 n),(69,eE1 n),(70,bM9 n),(71,XA n)]
def qL:Ctx:={Γ0 with calls:=lkS (eK8 n)}
def oY:Code:=fb Tryd.f56
def bT3 (n:Nat) (kn:Z11→List Z28→Int→Option β) (C:Z11) (B:List Z28):Option β:=kn C B (1:Int)
def cM4:FS1 β:=FXs (qL n) n oY (some lA) none [] [2,6]
theorem dA2 (C:Z11) (B:List Z28):cM4 n (F5 C B) cx=bT3 n (fun C B D=>cx.nrm (gO C B D)) C B:=by kernel_rfl
def bR6 (n:Nat) (kn:Z11→List Z28→Int→Option β) (ae:List Z28→Option β) (C:Z11) (B:List Z28) (D:Int):Option β:=bif (decide (D < (w64 ((B.length:Int) - 1)))) then (kn C B D) else (ae B)
def cO3:FS1 β:=FXs (qL n) n oY (some lA) none [(0,QD)] [224,225]
theorem dE3 (C:Z11) (B:List Z28) (D:Int):cO3 n (gO C B D) cx=bR6 n (fun C B D=>cx.nrm (gO C B D)) (fun B=>cx.ex 0 (zQ B)) C B D:=by kernel_rfl
def cC4 (n:Nat) (kn:Z11→List Z28→Int→Bool→Option β) (C:Z11) (B:List Z28) (D:Int):Option β:=idx (w64 (D - 1)) (B.length:Int)<|bif ((rd B (w64 (D - 1)) Z18).1==(0:Int)) then (idx (w64 (D+1)) (B.length:Int)<|kn C B D ((rd B (w64 (D+1)) Z18).1==(0:Int))) else (kn C B D false)
def bS6:FS1 β:=FXs (qL n) n oY (some aC4) none [] [904]
theorem bL6 (C:Z11) (B:List Z28) (D:Int):bS6 n (gO C B D) cx=cC4 n (fun C B D bg=>cx.nrm (KI C B D bg)) C B D:=by kernel_rfl
def cV5 (kn:Z11→List Z28→Int→BA→BA→BA→Option β) (C:Z11) (B:List Z28) (D:Int) (bg:Bool):Option β:=idx (w64 (D - 1)) (B.length:Int)<|idx D (B.length:Int)<|idx (w64 (D+1)) (B.length:Int)<|(g68 n C ((rd B (w64 (D - 1)) Z18).2) ((rd B D Z18).2)).bind fun V=>bif (decide (V.1>(0:Int))) then (bnd (w64 ((((rd B D Z18).2).size:Int) - V.1)) (((rd B D Z18).2).size:Int) (((rd B D Z18).2).size:Int)<|bnd (0:Int) (w64 ((((rd B (w64 (D - 1)) Z18).2).size:Int) - V.1)) (((rd B (w64 (D - 1)) Z18).2).size:Int)<|bnd (0:Int) (w64 ((((rd B D Z18).2).size:Int) - V.1)) (((rd B D Z18).2).size:Int)<|cJ ((bA ((rd B D Z18).2) (w64 ((((rd B D Z18).2).size:Int) - V.1)) (((rd B D Z18).2).size:Int)).size+(bA ((rd B D Z18).2) (0:Int) (w64 ((((rd B D Z18).2).size:Int) - V.1))).size)<|cJ ((bA ((rd B D Z18).2) (w64 ((((rd B D Z18).2).size:Int) - V.1)) (((rd B D Z18).2).size:Int)).size+((rd B (w64 (D+1)) Z18).2).size)<|kn C B D (bA ((rd B (w64 (D - 1)) Z18).2) (0:Int) (w64 ((((rd B (w64 (D - 1)) Z18).2).size:Int) - V.1))) ((bA ((rd B D Z18).2) (w64 ((((rd B D Z18).2).size:Int) - V.1)) (((rd B D Z18).2).size:Int))++(bA ((rd B D Z18).2) (0:Int) (w64 ((((rd B D Z18).2).size:Int) - V.1)))) ((bA ((rd B D Z18).2) (w64 ((((rd B D Z18).2).size:Int) - V.1)) (((rd B D Z18).2).size:Int))++(rd B (w64 (D+1)) Z18).2)) else (kn C B D ((rd B (w64 (D - 1)) Z18).2) ((rd B D Z18).2) ((rd B (w64 (D+1)) Z18).2))
def cU3:FS1 β:=FXs (qL n) n oY (some aL7) none [] [3620,7242,14486,28974,115900,115901]
theorem bL0 (C:Z11) (B:List Z28) (D:Int) (bg:Bool):cU3 n (KI C B D bg) cx=cV5 n (fun C B D T F I=>cx.nrm (dL5 C B D T F I)) C B D bg:=by kernel_rfl
def aE8 (kn:Z11→List Z28→Int→BA→BA→BA→BA→BA→BA→Int→Option β) (C:Z11) (B:List Z28) (D:Int) (T F I:BA):Option β:=(g69 n T F).bind fun V=>(g69 n F I).bind fun r2=>kn C B D T F I T F I (w64 (V.1+r2.1))
def cJ2:FS1 β:=FXs (qL n) n oY (some EW) none [] [115902,231806,463614,927230]
theorem cL1 (C:Z11) (B:List Z28) (D:Int) (T F I:BA):cJ2 n (dL5 C B D T F I) cx=aE8 n (fun C B D T F I G N Z ac=>cx.nrm (zM C B D T F I G N Z ac)) C B D T F I:=by kernel_rfl
def aB4 (kn:Z11→List Z28→Int→BA→BA→BA→BA→BA→BA→Int→Option β) (ap:Z11→List Z28→Int→BA→BA→BA→Option β) (C:Z11) (B:List Z28) (D:Int) (T F I G N Z:BA) (ac:Int):Option β:=bif ((F.size:Int)!=(0:Int)) then (bif ((I.size:Int)!=(0:Int)) then ((g70 n F).bind fun V=>bif (decide ((I.size:Int) < V.2.1)) then (ap C B D G N Z) else (bnd (0:Int) V.2.1 (F.size:Int)<|bnd (0:Int) V.2.1 (I.size:Int)<|bif (!dY (bA F (0:Int) V.2.1) (bA I (0:Int) V.2.1)) then (ap C B D G N Z) else (bnd (0:Int) V.2.1 (F.size:Int)<|cJ (T.size+(bA F (0:Int) V.2.1).size)<|bnd V.2.1 (F.size:Int) (F.size:Int)<|bnd (0:Int) V.2.1 (I.size:Int)<|cJ ((bA F V.2.1 (F.size:Int)).size+(bA I (0:Int) V.2.1).size)<|bnd V.2.1 (I.size:Int) (I.size:Int)<|(g69 n (T++(bA F (0:Int) V.2.1)) ((bA F V.2.1 (F.size:Int))++(bA I (0:Int) V.2.1))).bind fun r2=>(g69 n ((bA F V.2.1 (F.size:Int))++(bA I (0:Int) V.2.1)) (bA I V.2.1 (I.size:Int))).bind fun r3=>bif (decide ((w64 (r2.1+r3.1))≥ac)) then (kn C B D (T++(bA F (0:Int) V.2.1)) ((bA F V.2.1 (F.size:Int))++(bA I (0:Int) V.2.1)) (bA I V.2.1 (I.size:Int)) (T++(bA F (0:Int) V.2.1)) ((bA F V.2.1 (F.size:Int))++(bA I (0:Int) V.2.1)) (bA I V.2.1 (I.size:Int)) (w64 (r2.1+r3.1))) else (kn C B D (T++(bA F (0:Int) V.2.1)) ((bA F V.2.1 (F.size:Int))++(bA I (0:Int) V.2.1)) (bA I V.2.1 (I.size:Int)) G N Z ac)))) else (ap C B D G N Z)) else (ap C B D G N Z)
def W6:FS1 β:=FXs (qL n) n oY (some EW) none [(2,DU)] [29671392,29671393,14835697]
theorem dE6 (C:Z11) (B:List Z28) (D:Int) (T F I G N Z:BA) (ac:Int):W6 n (zM C B D T F I G N Z ac) cx=aB4 n (fun C B D T F I G N Z ac=>cx.nrm (zM C B D T F I G N Z ac)) (fun C B D G N Z=>cx.ex 2 (IM C B D G N Z)) C B D T F I G N Z ac:=by kernel_rfl
def g56_7L (n:Nat) (ap:Z11→List Z28→Int→BA→BA→BA→Option β):Nat→Z11→List Z28→Int→BA→BA→BA→BA→BA→BA→Int→Option β
  | 0,_,_,_,_,_,_,_,_,_,_=>none
  | m+1,C,B,D,T,F,I,G,N,Z,ac=>aB4 n (g56_7L n ap m) ap C B D T F I G N Z ac
def bM7 (ap:Z11→List Z28→Int→BA→BA→BA→Option β) (C:Z11) (B:List Z28) (D:Int) (T F I G N Z:BA) (ac:Int):Option β:=g56_7L n ap n C B D T F I G N Z ac
def cQ4 (s:FState) (cx:Cx β):Option β:=bK (fun again s=>W6 n s {cx with nrm:=again}) n s
theorem aU1 (n:Nat) (cx:Cx β):∀(m:Nat) (C:Z11) (B:List Z28) (D:Int) (T F I G N Z:BA) (ac:Int),bK (fun again s=>W6 n s {cx with nrm:=again}) m (zM C B D T F I G N Z ac)=g56_7L n (fun C B D G N Z=>cx.ex 2 (IM C B D G N Z)) m C B D T F I G N Z ac:=by
  intro m
  induction m with
  | zero=>intros;rfl
  | succ m ih=>intros;simp only [bK,g56_7L,dE6,ih]
theorem cB7 (C:Z11) (B:List Z28) (D:Int) (T F I G N Z:BA) (ac:Int):cQ4 n (zM C B D T F I G N Z ac) cx=bM7 n (fun C B D G N Z=>cx.ex 2 (IM C B D G N Z)) C B D T F I G N Z ac:=aU1 n cx n C B D T F I G N Z ac
def aL9 (kn:Z11→List Z28→Int→BA→BA→BA→Option β) (C:Z11) (B:List Z28) (D:Int) (T F I G N Z:BA) (ac:Int):Option β:=bM7 n kn C B D T F I G N Z ac
def bW3 (s:FState) (cx:Cx β):Option β:=cQ4 n s {cx with ex:=fun j s=>bif Nat.beq j 2 then cx.nrm s else cx.ex j s}
theorem cM1 (C:Z11) (B:List Z28) (D:Int) (T F I G N Z:BA) (ac:Int):bW3 n (zM C B D T F I G N Z ac) cx=aL9 n (fun C B D G N Z=>cx.nrm (IM C B D G N Z)) C B D T F I G N Z ac:=cB7 n _ C B D T F I G N Z ac
def VK (kn:Z11→List Z28→Int→Option β) (C:Z11) (B:List Z28) (D:Int) (G N Z:BA):Option β:=idx (w64 (D - 1)) (B.length:Int)<|bif (!dY ((rd B (w64 (D - 1)) Z18).2) G) then (bif ((G.size:Int)!=(0:Int)) then (idx (w64 (D - 1)) (B.length:Int)<|idx D ((B.set (w64 (D - 1)).toNat ((rd B (w64 (D - 1)) Z18).1,G)).length:Int)<|bif ((Z.size:Int)!=(0:Int)) then (idx (w64 (D+1)) (((B.set (w64 (D - 1)).toNat ((rd B (w64 (D - 1)) Z18).1,G)).set D.toNat ((rd (B.set (w64 (D - 1)).toNat ((rd B (w64 (D - 1)) Z18).1,G)) D Z18).1,N)).length:Int)<|kn C (((B.set (w64 (D - 1)).toNat ((rd B (w64 (D - 1)) Z18).1,G)).set D.toNat ((rd (B.set (w64 (D - 1)).toNat ((rd B (w64 (D - 1)) Z18).1,G)) D Z18).1,N)).set (w64 (D+1)).toNat ((rd ((B.set (w64 (D - 1)).toNat ((rd B (w64 (D - 1)) Z18).1,G)).set D.toNat ((rd (B.set (w64 (D - 1)).toNat ((rd B (w64 (D - 1)) Z18).1,G)) D Z18).1,N)) (w64 (D+1)) Z18).1,Z)) D) else (bnd (0:Int) (w64 (D+1)) (((B.set (w64 (D - 1)).toNat ((rd B (w64 (D - 1)) Z18).1,G)).set D.toNat ((rd (B.set (w64 (D - 1)).toNat ((rd B (w64 (D - 1)) Z18).1,G)) D Z18).1,N)).length:Int)<|bnd (w64 (D+2)) (((B.set (w64 (D - 1)).toNat ((rd B (w64 (D - 1)) Z18).1,G)).set D.toNat ((rd (B.set (w64 (D - 1)).toNat ((rd B (w64 (D - 1)) Z18).1,G)) D Z18).1,N)).length:Int) (((B.set (w64 (D - 1)).toNat ((rd B (w64 (D - 1)) Z18).1,G)).set D.toNat ((rd (B.set (w64 (D - 1)).toNat ((rd B (w64 (D - 1)) Z18).1,G)) D Z18).1,N)).length:Int)<|cJ ((cut ((B.set (w64 (D - 1)).toNat ((rd B (w64 (D - 1)) Z18).1,G)).set D.toNat ((rd (B.set (w64 (D - 1)).toNat ((rd B (w64 (D - 1)) Z18).1,G)) D Z18).1,N)) (0:Int) ((0:Int)+((w64 (D+1)) - (0:Int)))).length+(cut ((B.set (w64 (D - 1)).toNat ((rd B (w64 (D - 1)) Z18).1,G)).set D.toNat ((rd (B.set (w64 (D - 1)).toNat ((rd B (w64 (D - 1)) Z18).1,G)) D Z18).1,N)) (w64 (D+2)) ((w64 (D+2))+((((B.set (w64 (D - 1)).toNat ((rd B (w64 (D - 1)) Z18).1,G)).set D.toNat ((rd (B.set (w64 (D - 1)).toNat ((rd B (w64 (D - 1)) Z18).1,G)) D Z18).1,N)).length:Int) - (w64 (D+2))))).length)<|kn C ((cut ((B.set (w64 (D - 1)).toNat ((rd B (w64 (D - 1)) Z18).1,G)).set D.toNat ((rd (B.set (w64 (D - 1)).toNat ((rd B (w64 (D - 1)) Z18).1,G)) D Z18).1,N)) (0:Int) ((0:Int)+((w64 (D+1)) - (0:Int))))++(cut ((B.set (w64 (D - 1)).toNat ((rd B (w64 (D - 1)) Z18).1,G)).set D.toNat ((rd (B.set (w64 (D - 1)).toNat ((rd B (w64 (D - 1)) Z18).1,G)) D Z18).1,N)) (w64 (D+2)) ((w64 (D+2))+((((B.set (w64 (D - 1)).toNat ((rd B (w64 (D - 1)) Z18).1,G)).set D.toNat ((rd (B.set (w64 (D - 1)).toNat ((rd B (w64 (D - 1)) Z18).1,G)) D Z18).1,N)).length:Int) - (w64 (D+2)))))) (w64 (D - 1)))) else ((g71 n B (w64 (D - 1)) (1:Int) []).bind fun V=>idx (w64 (D - 1)) (V.1.length:Int)<|bif ((Z.size:Int)!=(0:Int)) then (idx (w64 ((w64 (D - 1))+(1:Int))) ((V.1.set (w64 (D - 1)).toNat ((rd V.1 (w64 (D - 1)) Z18).1,N)).length:Int)<|kn C ((V.1.set (w64 (D - 1)).toNat ((rd V.1 (w64 (D - 1)) Z18).1,N)).set (w64 ((w64 (D - 1))+(1:Int))).toNat ((rd (V.1.set (w64 (D - 1)).toNat ((rd V.1 (w64 (D - 1)) Z18).1,N)) (w64 ((w64 (D - 1))+(1:Int))) Z18).1,Z)) (w64 (D - 1))) else (bnd (0:Int) (w64 ((w64 (D - 1))+(1:Int))) ((V.1.set (w64 (D - 1)).toNat ((rd V.1 (w64 (D - 1)) Z18).1,N)).length:Int)<|bnd (w64 ((w64 (D - 1))+(2:Int))) ((V.1.set (w64 (D - 1)).toNat ((rd V.1 (w64 (D - 1)) Z18).1,N)).length:Int) ((V.1.set (w64 (D - 1)).toNat ((rd V.1 (w64 (D - 1)) Z18).1,N)).length:Int)<|cJ ((cut (V.1.set (w64 (D - 1)).toNat ((rd V.1 (w64 (D - 1)) Z18).1,N)) (0:Int) ((0:Int)+((w64 ((w64 (D - 1))+(1:Int))) - (0:Int)))).length+(cut (V.1.set (w64 (D - 1)).toNat ((rd V.1 (w64 (D - 1)) Z18).1,N)) (w64 ((w64 (D - 1))+(2:Int))) ((w64 ((w64 (D - 1))+(2:Int)))+(((V.1.set (w64 (D - 1)).toNat ((rd V.1 (w64 (D - 1)) Z18).1,N)).length:Int) - (w64 ((w64 (D - 1))+(2:Int)))))).length)<|kn C ((cut (V.1.set (w64 (D - 1)).toNat ((rd V.1 (w64 (D - 1)) Z18).1,N)) (0:Int) ((0:Int)+((w64 ((w64 (D - 1))+(1:Int))) - (0:Int))))++(cut (V.1.set (w64 (D - 1)).toNat ((rd V.1 (w64 (D - 1)) Z18).1,N)) (w64 ((w64 (D - 1))+(2:Int))) ((w64 ((w64 (D - 1))+(2:Int)))+(((V.1.set (w64 (D - 1)).toNat ((rd V.1 (w64 (D - 1)) Z18).1,N)).length:Int) - (w64 ((w64 (D - 1))+(2:Int))))))) (w64 ((w64 (D - 1)) - (1:Int)))))) else (kn C B D)
def cP5:FS1 β:=FXs (qL n) n oY (some lA) none [] [3708926,3708927]
theorem bJ3 (C:Z11) (B:List Z28) (D:Int) (G N Z:BA):cP5 n (IM C B D G N Z) cx=VK n (fun C B D=>cx.nrm (gO C B D)) C B D G N Z:=by kernel_rfl
def JZ (kn:Z11→List Z28→Int→Option β) (C:Z11) (B:List Z28) (D:Int) (bg:Bool):Option β:=cV5 n (fun C B D T F I=>aE8 n (fun C B D T F I G N Z ac=>aL9 n (fun C B D G N Z=>VK n kn C B D G N Z) C B D T F I G N Z ac) C B D T F I) C B D bg
def SB (s:FState) (cx:Cx β):Option β:=cU3 n s {cx with nrm:=fun s=>cJ2 n s {cx with nrm:=fun s=>bW3 n s {cx with nrm:=fun s=>cP5 n s cx}}}
theorem bG0 (C:Z11) (B:List Z28) (D:Int) (bg:Bool):SB n (KI C B D bg) cx=JZ n (fun C B D=>cx.nrm (gO C B D)) C B D bg:=by simp only [SB,JZ,bL0,cL1,cM1,bJ3]
def d3 (n:Nat) (kn:Z11→List Z28→Int→Option β) (C:Z11) (B:List Z28) (D:Int) (bg:Bool):Option β:=kn C B D
def aI0:FS1 β:=FXs (qL n) n oY (some lA) none [] [1811]
theorem bB7 (C:Z11) (B:List Z28) (D:Int) (bg:Bool):aI0 n (KI C B D bg) cx=d3 n (fun C B D=>cx.nrm (gO C B D)) C B D bg:=by kernel_rfl
def zZ (kn:Z11→List Z28→Int→Option β) (C:Z11) (B:List Z28) (D:Int) (bg:Bool):Option β:=bif bg then JZ n kn C B D bg else d3 n kn C B D bg
def UP (s:FState) (cx:Cx β):Option β:=asBool (ev s (kO (nav oY [1,1,0,0,0,1,0,0,1]))) fun t=>cond t (SB n s cx) (aI0 n s cx)
theorem bA3 (C:Z11) (B:List Z28) (D:Int) (bg:Bool):UP n (KI C B D bg) cx=zZ n (fun C B D=>cx.nrm (gO C B D)) C B D bg:=by
  simp only [UP,zZ,bG0,bB7]
  kernel_rfl
def JA (n:Nat) (kn:Z11→List Z28→Int→Option β) (C:Z11) (B:List Z28) (D:Int):Option β:=kn C B (w64 (D+1))
def aQ1:FS1 β:=FXs (qL n) n oY (some lA) none [] [453]
theorem aV8 (C:Z11) (B:List Z28) (D:Int):aQ1 n (gO C B D) cx=JA n (fun C B D=>cx.nrm (gO C B D)) C B D:=by kernel_rfl
def QG (kn:Z11→List Z28→Int→Option β) (C:Z11) (B:List Z28) (D:Int):Option β:=cC4 n (fun C B D bg=>zZ n (fun C B D=>JA n kn C B D) C B D bg) C B D
def RN (s:FState) (cx:Cx β):Option β:=bS6 n s {cx with nrm:=fun s=>UP n s {cx with nrm:=fun s=>aQ1 n s cx}}
theorem bC4 (C:Z11) (B:List Z28) (D:Int):RN n (gO C B D) cx=QG n (fun C B D=>cx.nrm (gO C B D)) C B D:=by simp only [RN,QG,bL6,bA3,aV8]
def j9 (kn:Z11→List Z28→Int→Option β) (C:Z11) (B:List Z28) (D:Int):Option β:=QG n kn C B D
def aE3 (s:FState) (cx:Cx β):Option β:=RN n s {cx with ex:=fun j s=>bif Nat.beq j 1 then cx.nrm s else cx.ex j s}
theorem bE8 (C:Z11) (B:List Z28) (D:Int):aE3 n (gO C B D) cx=j9 n (fun C B D=>cx.nrm (gO C B D)) C B D:=bC4 n _ C B D
def TH (kn:Z11→List Z28→Int→Option β) (ae:List Z28→Option β) (C:Z11) (B:List Z28) (D:Int):Option β:=bR6 n (fun C B D=>j9 n kn C B D) ae C B D
def EK (s:FState) (cx:Cx β):Option β:=cO3 n s {cx with nrm:=fun s=>aE3 n s cx}
theorem aW3 (C:Z11) (B:List Z28) (D:Int):EK n (gO C B D) cx=TH n (fun C B D=>cx.nrm (gO C B D)) (fun B=>cx.ex 0 (zQ B)) C B D:=by simp only [EK,TH,dE3,bE8]
def g56_17L (n:Nat) (ae:List Z28→Option β):Nat→Z11→List Z28→Int→Option β
  | 0,_,_,_=>none
  | m+1,C,B,D=>TH n (g56_17L n ae m) ae C B D
def cV0 (ae:List Z28→Option β) (C:Z11) (B:List Z28) (D:Int):Option β:=g56_17L n ae n C B D
def aC0 (s:FState) (cx:Cx β):Option β:=bK (fun again s=>EK n s {cx with nrm:=again}) n s
theorem Y1 (n:Nat) (cx:Cx β):∀(m:Nat) (C:Z11) (B:List Z28) (D:Int),bK (fun again s=>EK n s {cx with nrm:=again}) m (gO C B D)=g56_17L n (fun B=>cx.ex 0 (zQ B)) m C B D:=by
  intro m
  induction m with
  | zero=>intros;rfl
  | succ m ih=>intros;simp only [bK,g56_17L,aW3,ih]
theorem aS5 (C:Z11) (B:List Z28) (D:Int):aC0 n (gO C B D) cx=cV0 n (fun B=>cx.ex 0 (zQ B)) C B D:=Y1 n cx n C B D
def dE4 (kn:List Z28→Option β) (C:Z11) (B:List Z28) (D:Int):Option β:=cV0 n kn C B D
def aM7 (s:FState) (cx:Cx β):Option β:=aC0 n s {cx with ex:=fun j s=>bif Nat.beq j 0 then cx.nrm s else cx.ex j s}
theorem bE2 (C:Z11) (B:List Z28) (D:Int):aM7 n (gO C B D) cx=dE4 n (fun B=>cx.nrm (zQ B)) C B D:=aS5 n _ C B D
def cH3 (n:Nat) (kr:List Z28→Option β) (B:List Z28):Option β:=kr B
def aC9:FS1 β:=FXs (qL n) n oY none (some UD) [] [30,31]
theorem aV3 (B:List Z28):aC9 n (zQ B) cx=cH3 n (fun x4=>cx.ret (cT9 x4)) B:=by kernel_rfl
def PD (kr:List Z28→Option β) (C:Z11) (B:List Z28):Option β:=bT3 n (fun C B D=>dE4 n (fun B=>cH3 n kr B) C B D) C B
def ES (s:FState) (cx:Cx β):Option β:=cM4 n s {cx with nrm:=fun s=>aM7 n s {cx with nrm:=fun s=>aC9 n s cx}}
theorem bF1 (C:Z11) (B:List Z28):ES n (F5 C B) cx=PD n (fun x4=>cx.ret (cT9 x4)) C B:=by simp only [ES,PD,dA2,bE2,aV3]
def g56 (C:Z11) (B:List Z28):Option (DenR [.rw Z25 81]):=PD n (fun x4=>some (x4,())) C B
def eH9:List AK:=[.pro Z1 74,.rw Z25 81]
def dA9:List RK:=[.rw Z25 81]
def fA9 (d:DenA eH9):Option (DenR dA9):=g56 n d.1 d.2.1
def eF1:Spec:=aM eH9 dA9 (fA9 n)
def eJ7:Sk:=(.nd (.fin none none none [] .leaf) (.nd (.fin none (some lA) none [] .leaf) (.nd (.nd (.nd (.nd (.nd (.fin none none none [(0,QD)] .leaf) (.fin none (some lA) none [(0,QD)] .leaf)) (.nd (.nd (.nd (.fin none (some aC4) none [] .leaf) (.nd (.nd (.fin none none none [] .leaf) (.nd (.fin none none none [] .leaf) (.nd (.fin none none none [] .leaf) (.nd (.fin none none none [] .leaf) (.nd (.nd (.fin none none none [] .leaf) (.fin none (some aL7) none [] .leaf)) (.nd (.fin none none none [] .leaf) (.nd (.fin none none none [] .leaf) (.nd (.fin none none none [] .leaf) (.nd (.fin none (some EW) none [] .leaf) (.nd (.nd (.nd (.nd (.nd (.fin none none none [(2,DU)] .leaf) (.fin none none none [(2,DU)] .leaf)) (.fin none (some EW) none [(2,DU)] .leaf)) .leaf) .leaf) (.nd (.fin none none none [] .leaf) (.fin none (some lA) none [] .leaf)))))))))))) (.fin none (some lA) none [] .leaf))) (.fin none (some lA) none [] .leaf)) .leaf)) .leaf) .leaf) (.nd (.fin none none (some UD) [] .leaf) (.fin none none (some UD) [] .leaf)))))
theorem dS7 (s:FState) (cx:Cx β):FX (qL n) n oY eJ7 s cx=ES n s cx:=by kernel_rfl
theorem dQ1:Fit Tryd.prog 56 (eF1 n):=
  cD (Γ:=Γ0) (l:=eK8 n) (n:=n) (sk:=eJ7) (ts:=[(4,none)]) (fn:=Tryd.f56) (c:=oY) (by kernel_rfl) (by kernel_rfl) (by unfold aO;kernel_rfl) cB ⟨dV8 n,dP9 n,aK4 n,DS n,trivial⟩ aH (by kernel_rfl) (by kernel_rfl) (Nat.le_of_ble_eq_true (by kernel_rfl)) (Nat.le_of_ble_eq_true (by kernel_rfl)) (by kernel_rfl) (by kernel_rfl)
    (fun d=>(dS7 n _ _).trans (Eq.trans (b:=ES n (F5 d.1 d.2.1) (cG (qL n) dA9 [(4,none)])) (by kernel_rfl) ((bF1 n _ d.1 d.2.1).trans (by kernel_rfl))))
theorem eU9 (a b:Nat) (w:World):(callFunc 113 #[.float .f64 a,.float .f64 b]).run Tryd.prog w= .ok (.value (.float .f64 (XN a b))) w:=by
  rw [run_callFunc_extern (fn:=Tryd.f113) (e:=Extern.MathDim.pick "math.archMin" true .lt) (by rfl) (by rfl) (by rfl) (by kernel_rfl) (by kernel_rfl)]
  rfl
attribute [local go_sem] eU9
theorem aU7 (a0 a1:Nat) (w:World):Calls Tryd.prog 93 #[.float .f64 a0,.float .f64 a1] w fun e w'=>e= .returned (.float .f64 (XN a0 a1))∧w'=w:=by
  go_enter Tryd.func93,Tryd.ntmps93
  go_wp2
  go_ret
  exact ⟨rfl,rfl⟩
def eE3:List AK:=[.dat (.flt .f64),.dat (.flt .f64)]
def eR3:List RK:=[.dat (.flt .f64)]
def g93 (n Y J:Nat):Option (DenR [.dat (.flt .f64)]):=some (XN Y J,())
def fB5 (d:DenA eE3):Option (DenR eR3):=g93 n d.1 d.2.1
def eS6:Spec:=aM eE3 eR3 (fB5 n)
theorem dY8:Fit Tryd.prog 93 (eS6 n):=vV (by unfold aO;kernel_rfl) rfl fun d x w vs hG ha hx=>by
  obtain ⟨v,vs1,o1,o2,rfl,_,⟨_,cs,h1,h2⟩,v',vs2,o3,o4,rfl,_,⟨_,cs',h3,h4⟩,h5,_⟩:=ha
  obtain ⟨a,b,u⟩:=d
  subst h5
  have h1:cs=[Value.float .f64 a]:=h1
  have h3:cs'=[Value.float .f64 b]:=h3
  subst h1
  subst h3
  simp [K.isPair] at h2 h4
  subst h2
  subst h4
  cases hx
  exact (aU7 a b w).mono fun e w' ⟨he,hw⟩=>⟨[.float .f64 (XN a b)],he,⟨_,_,[],[],rfl,rfl,⟨rfl,_,rfl,rfl⟩,rfl,rfl⟩,by rw [hw];exact ⟨rfl,rfl,rfl,Nat.le_refl _,fun _ _=>rfl⟩⟩
def J3 (C:Z11) (J R:BA):FState:=⟨aG [(0,.ptr 0 0 0),(1,.dat .str J),(2,.dat .str R)],aD [(0,.row Z1 74 false [C])]⟩
def RF (T:Int):FState:=⟨aG [(6,.dat (.int .i64) T)],aD []⟩
def fU:List NE:=[.keep 6]
def cO6 (J R:BA) (F I:Int):FState:=⟨aG [(1,.dat .str J),(2,.dat .str R),(7,.dat (.int .i64) F),(8,.dat (.int .i64) I)],aD []⟩
def aE1:List NE:=[.keep 1,.keep 2,.keep 7,.keep 8]
def AC (J R:BA) (E H G:Int):FState:=⟨aG [(1,.dat .str J),(2,.dat .str R),(9,.dat (.int .i64) E),(10,.dat (.int .i64) H),(11,.dat (.int .i64) G)],aD []⟩
def EZ:List NE:=[.keep 1,.keep 2,.keep 9,.keep 10,.keep 11]
def KD (H:Int):FState:=⟨aG [(10,.dat (.int .i64) H)],aD []⟩
def aM4:List NE:=[.keep 10]
def eM5:List (Nat×Spec):=[(93,eS6 n),(94,cR6 n)]
def ML:Ctx:={Γ0 with calls:=lkS (eM5 n)}
def MB:Code:=fb Tryd.f74
def cG3 (n:Nat) (kn:BA→BA→Int→Int→Option β) (kr:Int→Option β) (C:Z11) (J R:BA):Option β:=bif ((J.size:Int)==(0:Int)) then (kr (0:Int)) else (bif ((R.size:Int)==(0:Int)) then (kr (0:Int)) else (bif (decide ((J.size:Int)>(R.size:Int))) then (bnd (w64 ((J.size:Int) - (R.size:Int))) (J.size:Int) (J.size:Int)<|kn (bA J (w64 ((J.size:Int) - (R.size:Int))) (J.size:Int)) R (J.size:Int) (R.size:Int)) else (bif (decide ((J.size:Int) < (R.size:Int))) then (bnd (0:Int) (J.size:Int) (R.size:Int)<|kn J (bA R (0:Int) (J.size:Int)) (J.size:Int) (R.size:Int)) else (kn J R (J.size:Int) (R.size:Int)))))
def cY5:FS1 β:=FXs (ML n) n MB (some aE1) (some fU) [] [2,6,14,60,61,124,125]
theorem bY0 (C:Z11) (J R:BA):cY5 n (J3 C J R) cx=cG3 n (fun J R F I=>cx.nrm (cO6 J R F I)) (fun T=>cx.ret (RF T)) C J R:=by kernel_rfl
def aI2 (kn:BA→BA→Int→Int→Int→Option β) (kr:Int→Option β) (J R:BA) (F I:Int):Option β:=(g93 n (floatOfInt .f64 F) (floatOfInt .f64 I)).bind fun V=>onS (floatToIntVal .f64 V.1 .i64) fun r2=>bif (dY J R) then (kr r2) else (kn J R r2 (0:Int) (1:Int))
def cD5:FS1 β:=FXs (ML n) n MB (some EZ) (some fU) [] [126,508,509,510,1022]
theorem cU7 (J R:BA) (F I:Int):cD5 n (cO6 J R F I) cx=aI2 n (fun J R E H G=>cx.nrm (AC J R E H G)) (fun T=>cx.ret (RF T)) J R F I:=by kernel_rfl
def dI8 (kn:BA→BA→Int→Int→Int→Option β) (ae:Int→Option β) (J R:BA) (E H G:Int):Option β:=bnd (w64 (E - G)) (J.size:Int) (J.size:Int)<|(g94 n R (bA J (w64 (E - G)) (J.size:Int))).bind fun V=>bif (V.1==(-1:Int)) then (ae H) else (bif (V.1==(0:Int)) then (kn J R E (w64 (G+V.1)) (w64 ((w64 (G+V.1))+(1:Int)))) else (bnd (w64 (E - (w64 (G+V.1)))) (J.size:Int) (J.size:Int)<|bnd (0:Int) (w64 (G+V.1)) (R.size:Int)<|bif (dY (bA J (w64 (E - (w64 (G+V.1)))) (J.size:Int)) (bA R (0:Int) (w64 (G+V.1)))) then (kn J R E (w64 (G+V.1)) (w64 ((w64 (G+V.1))+(1:Int)))) else (kn J R E H (w64 (G+V.1)))))
def Q5:FS1 β:=FXs (ML n) n MB (some EZ) none [(0,aM4)] [8184]
theorem dE5 (J R:BA) (E H G:Int):Q5 n (AC J R E H G) cx=dI8 n (fun J R E H G=>cx.nrm (AC J R E H G)) (fun H=>cx.ex 0 (KD H)) J R E H G:=by kernel_rfl
def g74_4L (n:Nat) (ae:Int→Option β):Nat→BA→BA→Int→Int→Int→Option β
  | 0,_,_,_,_,_=>none
  | m+1,J,R,E,H,G=>dI8 n (g74_4L n ae m) ae J R E H G
def eB9 (ae:Int→Option β) (J R:BA) (E H G:Int):Option β:=g74_4L n ae n J R E H G
def dI4 (s:FState) (cx:Cx β):Option β:=bK (fun again s=>Q5 n s {cx with nrm:=again}) n s
theorem bF0 (n:Nat) (cx:Cx β):∀(m:Nat) (J R:BA) (E H G:Int),bK (fun again s=>Q5 n s {cx with nrm:=again}) m (AC J R E H G)=g74_4L n (fun H=>cx.ex 0 (KD H)) m J R E H G:=by
  intro m
  induction m with
  | zero=>intros;rfl
  | succ m ih=>intros;simp only [bK,g74_4L,dE5,ih]
theorem cI2 (J R:BA) (E H G:Int):dI4 n (AC J R E H G) cx=eB9 n (fun H=>cx.ex 0 (KD H)) J R E H G:=bF0 n cx n J R E H G
def cI9 (kn:Int→Option β) (J R:BA) (E H G:Int):Option β:=eB9 n kn J R E H G
def dF8 (s:FState) (cx:Cx β):Option β:=dI4 n s {cx with ex:=fun j s=>bif Nat.beq j 0 then cx.nrm s else cx.ex j s}
theorem cK5 (J R:BA) (E H G:Int):dF8 n (AC J R E H G) cx=cI9 n (fun H=>cx.nrm (KD H)) J R E H G:=cI2 n _ J R E H G
def y7 (n:Nat) (kr:Int→Option β) (H:Int):Option β:=kr H
def cM6:FS1 β:=FXs (ML n) n MB none (some fU) [] [4094,4095]
theorem bN6 (H:Int):cM6 n (KD H) cx=y7 n (fun T=>cx.ret (RF T)) H:=by kernel_rfl
def aP7 (kr:Int→Option β) (C:Z11) (J R:BA):Option β:=cG3 n (fun J R F I=>aI2 n (fun J R E H G=>cI9 n (fun H=>y7 n kr H) J R E H G) kr J R F I) kr C J R
def OA (s:FState) (cx:Cx β):Option β:=cY5 n s {cx with nrm:=fun s=>cD5 n s {cx with nrm:=fun s=>dF8 n s {cx with nrm:=fun s=>cM6 n s cx}}}
theorem dJ1 (C:Z11) (J R:BA):OA n (J3 C J R) cx=aP7 n (fun T=>cx.ret (RF T)) C J R:=by simp only [OA,aP7,bY0,cU7,cK5,bN6]
def g74 (C:Z11) (J R:BA):Option (DenR [.dat (.int .i64)]):=aP7 n (fun T=>some (T,())) C J R
def eA1:List AK:=[.pro Z1 74,.dat .str,.dat .str]
def dH5:List RK:=[.dat (.int .i64)]
def fA6 (d:DenA eA1):Option (DenR dH5):=g74 n d.1 d.2.1 d.2.2.1
def eQ2:Spec:=aM eA1 dH5 (fA6 n)
def eE4:Sk:=(.nd (.fin none none (some fU) [] .leaf) (.nd (.fin none none (some fU) [] .leaf) (.nd (.fin none none (some fU) [] .leaf) (.nd (.nd (.fin none none (some fU) [] .leaf) (.fin none none (some fU) [] .leaf)) (.nd (.nd (.fin none none (some fU) [] .leaf) (.fin none (some aE1) (some fU) [] .leaf)) (.nd (.fin none none (some fU) [] .leaf) (.nd (.nd (.fin none none (some fU) [] .leaf) (.fin none none (some fU) [] .leaf)) (.nd (.fin none none (some fU) [] .leaf) (.nd (.fin none (some EZ) (some fU) [] .leaf) (.nd (.nd (.nd (.fin none (some EZ) none [(0,aM4)] .leaf) .leaf) .leaf) (.nd (.fin none none (some fU) [] .leaf) (.fin none none (some fU) [] .leaf))))))))))))
theorem dX4 (s:FState) (cx:Cx β):FX (ML n) n MB eE4 s cx=OA n s cx:=by kernel_rfl
theorem dN6:Fit Tryd.prog 74 (eQ2 n):=
  cD (Γ:=Γ0) (l:=eM5 n) (n:=n) (sk:=eE4) (ts:=[(6,none)]) (fn:=Tryd.f74) (c:=MB) (by kernel_rfl) (by kernel_rfl) (by unfold aO;kernel_rfl) cB ⟨dY8 n,aD8 n,trivial⟩ aH (by kernel_rfl) (by kernel_rfl) (Nat.le_of_ble_eq_true (by kernel_rfl)) (Nat.le_of_ble_eq_true (by kernel_rfl)) (by kernel_rfl) (by kernel_rfl)
    (fun d=>(dX4 n _ _).trans (Eq.trans (b:=OA n (J3 d.1 d.2.1 d.2.2.1) (cG (ML n) dH5 [(6,none)])) (by kernel_rfl) ((dJ1 n _ d.1 d.2.1 d.2.2.1).trans (by kernel_rfl))))
def X1 (C:Z11) (B:List Z28):FState:=⟨aG [(0,.ptr 0 0 0),(1,.sl 1 none false)],aD [(0,.row Z1 74 false [C]),(1,.row Z25 81 true B)]⟩
def dB0 (x4:List Z28):FState:=⟨aG [(4,.sl 4 none false)],aD [(4,.row Z25 81 true x4)]⟩
def QK:List NE:=[.row 4 Z25 81 true]
def fW (C:Z11) (B:List Z28) (D:Bool) (z:List Int) (F:BA) (I E H G N:Int):FState:=⟨aG [(0,.ptr 0 0 0),(1,.sl 1 none false),(5,.dat .bool D),(6,.sl 6 none false),(7,.dat .str F),(8,.dat (.int .i64) I),(9,.dat (.int .i64) E),(10,.dat (.int .i64) H),(11,.dat (.int .i64) G),(12,.dat (.int .i64) N)],aD [(0,.row Z1 74 false [C]),(1,.row Z25 81 true B),(6,.row (.int .i64) 3 true z)]⟩
def jG:List NE:=[.ptr 0 Z1 74 false,.row 1 Z25 81 true,.keep 5,.row 6 (.int .i64) 3 true,.keep 7,.keep 8,.keep 9,.keep 10,.keep 11,.keep 12]
def zS (C:Z11) (B:List Z28) (D:Bool):FState:=⟨aG [(0,.ptr 0 0 0),(1,.sl 1 none false),(5,.dat .bool D)],aD [(0,.row Z1 74 false [C]),(1,.row Z25 81 true B)]⟩
def TC:List NE:=[.ptr 0 Z1 74 false,.row 1 Z25 81 true,.keep 5]
def KW (C:Z11) (B:List Z28) (D:Bool) (z:List Int) (F:BA) (I E H G N:Int) (bh:Bool):FState:=⟨aG [(0,.ptr 0 0 0),(1,.sl 1 none false),(5,.dat .bool D),(6,.sl 6 none false),(7,.dat .str F),(8,.dat (.int .i64) I),(9,.dat (.int .i64) E),(10,.dat (.int .i64) H),(11,.dat (.int .i64) G),(12,.dat (.int .i64) N),(33,.dat .bool bh)],aD [(0,.row Z1 74 false [C]),(1,.row Z25 81 true B),(6,.row (.int .i64) 3 true z)]⟩
def aB5:List NE:=[.ptr 0 Z1 74 false,.row 1 Z25 81 true,.keep 5,.row 6 (.int .i64) 3 true,.keep 7,.keep 8,.keep 9,.keep 10,.keep 11,.keep 12,.keep 33]
def cX0 (C:Z11) (B:List Z28):FState:=⟨aG [(0,.ptr 0 0 0),(1,.sl 1 none false)],aD [(0,.row Z1 74 false [C]),(1,.row Z25 81 true B)]⟩
def aD3:List NE:=[.ptr 0 Z1 74 false,.row 1 Z25 81 true]
def BD (C:Z11) (B:List Z28) (I:Int):FState:=⟨aG [(0,.ptr 0 0 0),(1,.sl 1 none false),(8,.dat (.int .i64) I)],aD [(0,.row Z1 74 false [C]),(1,.row Z25 81 true B)]⟩
def FJ:List NE:=[.ptr 0 Z1 74 false,.row 1 Z25 81 true,.keep 8]
def xN (B:List Z28):FState:=⟨aG [(1,.sl 1 none false)],aD [(1,.row Z25 81 true B)]⟩
def zD:List NE:=[.row 1 Z25 81 true]
def eA4:List (Nat×Spec):=[(56,eF1 n),(62,eC3 n),(71,XA n),(72,eC6 n),(73,dI3 n),(74,eQ2 n)]
def pB:Ctx:={Γ0 with calls:=lkS (eA4 n)}
def nH:Code:=fb Tryd.f58
def cN4 (n:Nat) (kn:Z11→List Z28→Bool→List Int→BA→Int→Int→Int→Int→Int→Option β) (C:Z11) (B:List Z28):Option β:=bnd 0 (0:Int) (B.length:Int)<|tQ (B.length:Int)<|kn C B false (List.replicate (0:Int).toNat (0:Int)) (⟨#[]⟩:BA) (0:Int) (0:Int) (0:Int) (0:Int) (0:Int)
def cL8:FS1 β:=FXs (pB n) n nH (some jG) none [] [2,6,14,30,62,126,254]
theorem dI5 (C:Z11) (B:List Z28):cL8 n (X1 C B) cx=cN4 n (fun C B D z F I E H G N=>cx.nrm (fW C B D z F I E H G N)) C B:=by kernel_rfl
def dJ6 (n:Nat) (kn:Z11→List Z28→Bool→List Int→BA→Int→Int→Int→Int→Int→Option β) (ae:Z11→List Z28→Bool→Option β) (C:Z11) (B:List Z28) (D:Bool) (z:List Int) (F:BA) (I E H G N:Int):Option β:=bif (decide (I < (B.length:Int))) then (kn C B D z F I E H G N) else (ae C B D)
def bO5:FS1 β:=FXs (pB n) n nH (some jG) none [(0,TC)] [8160,8161]
theorem bK1 (C:Z11) (B:List Z28) (D:Bool) (z:List Int) (F:BA) (I E H G N:Int):bO5 n (fW C B D z F I E H G N) cx=dJ6 n (fun C B D z F I E H G N=>cx.nrm (fW C B D z F I E H G N)) (fun C B D=>cx.ex 0 (zS C B D)) C B D z F I E H G N:=by kernel_rfl
def cL9 (n:Nat) (kn:Z11→List Z28→Bool→List Int→BA→Int→Int→Int→Int→Int→Bool→Option β) (C:Z11) (B:List Z28) (D:Bool) (z:List Int) (F:BA) (I E H G N:Int):Option β:=idx I (B.length:Int)<|kn C B D z F I E H G N ((rd B I Z18).1==(0:Int))
def cA3:FS1 β:=FXs (pB n) n nH (some aB5) none [] [32648]
theorem dF6 (C:Z11) (B:List Z28) (D:Bool) (z:List Int) (F:BA) (I E H G N:Int):cA3 n (fW C B D z F I E H G N) cx=cL9 n (fun C B D z F I E H G N bh=>cx.nrm (KW C B D z F I E H G N bh)) C B D z F I E H G N:=by kernel_rfl
def dH7 (n:Nat) (kn:Z11→List Z28→Bool→List Int→BA→Int→Int→Int→Int→Int→Option β) (C:Z11) (B:List Z28) (D:Bool) (z:List Int) (F:BA) (I E H G N:Int) (bh:Bool):Option β:=cJ (z.length+[I].length)<|idx I (B.length:Int)<|kn C B D (z++[I]) ((rd B I Z18).2) I G N (0:Int) (0:Int)
def bI5:FS1 β:=FXs (pB n) n nH (some jG) none [] [130596,261194,522390,1044782,2089566,2089567]
theorem dE0 (C:Z11) (B:List Z28) (D:Bool) (z:List Int) (F:BA) (I E H G N:Int) (bh:Bool):bI5 n (KW C B D z F I E H G N bh) cx=dH7 n (fun C B D z F I E H G N=>cx.nrm (fW C B D z F I E H G N)) C B D z F I E H G N bh:=by kernel_rfl
def dK3 (kn:Z11→List Z28→Bool→List Int→BA→Int→Int→Int→Int→Int→Option β) (C:Z11) (B:List Z28) (D:Bool) (z:List Int) (F:BA) (I E H G N:Int) (bh:Bool):Option β:=idx I (B.length:Int)<|bif ((rd B I Z18).1==(1:Int)) then (idx I (B.length:Int)<|(g62 n ((rd B I Z18).2)).bind fun V=>kn C B D z F I E H (w64 (G+V.1)) N) else (idx I (B.length:Int)<|(g62 n ((rd B I Z18).2)).bind fun r2=>kn C B D z F I E H G (w64 (N+r2.1)))
def dF5:FS1 β:=FXs (pB n) n nH (some jG) none [] [261196,261197]
theorem cR4 (C:Z11) (B:List Z28) (D:Bool) (z:List Int) (F:BA) (I E H G N:Int) (bh:Bool):dF5 n (KW C B D z F I E H G N bh) cx=dK3 n (fun C B D z F I E H G N=>cx.nrm (fW C B D z F I E H G N)) C B D z F I E H G N bh:=by kernel_rfl
def aQ0 (kn:Z11→List Z28→Bool→List Int→BA→Int→Int→Int→Int→Int→Option β) (C:Z11) (B:List Z28) (D:Bool) (z:List Int) (F:BA) (I E H G N:Int):Option β:=(g72 n (floatOfInt .f64 E) (floatOfInt .f64 H)).bind fun V=>onS (floatToIntVal .f64 V.1 .i64) fun r2=>(g72 n (floatOfInt .f64 G) (floatOfInt .f64 N)).bind fun r3=>onS (floatToIntVal .f64 r3.1 .i64) fun r4=>(g62 n F).bind fun r5=>bif (decide (r5.1>(0:Int))) then ((g62 n F).bind fun r6=>bif (decide (r6.1≤r2)) then ((g62 n F).bind fun r7=>bif (decide (r7.1≤r4)) then (idx (w64 ((z.length:Int) - 1)) (z.length:Int)<|(g71 n B (rd z (w64 ((z.length:Int) - 1)) (0:Int)) (0:Int) [((-1:Int),F)]).bind fun r8=>idx (w64 ((rd z (w64 ((z.length:Int) - 1)) (0:Int))+(1:Int))) (r8.1.length:Int)<|bnd (0:Int) (w64 ((z.length:Int) - 1)) (z.length:Int)<|bif (decide (((w64 ((z.length:Int) - 1)) - (0:Int))>(0:Int))) then (bnd (0:Int) (w64 (((w64 ((z.length:Int) - 1)) - (0:Int)) - (1:Int))) ((w64 ((z.length:Int) - 1)) - (0:Int))<|bif (decide (((w64 (((w64 ((z.length:Int) - 1)) - (0:Int)) - (1:Int))) - (0:Int))>(0:Int))) then (idx (w64 (((w64 (((w64 ((z.length:Int) - 1)) - (0:Int)) - (1:Int))) - (0:Int)) - (1:Int))) ((w64 (((w64 ((z.length:Int) - 1)) - (0:Int)) - (1:Int))) - (0:Int))<|kn C (r8.1.set (w64 ((rd z (w64 ((z.length:Int) - 1)) (0:Int))+(1:Int))).toNat ((1:Int),(rd r8.1 (w64 ((rd z (w64 ((z.length:Int) - 1)) (0:Int))+(1:Int))) Z18).2)) true (cut z ((0:Int)+(0:Int)) (((0:Int)+(0:Int))+((w64 (((w64 ((z.length:Int) - 1)) - (0:Int)) - (1:Int))) - (0:Int)))) (⟨#[]⟩:BA) (rd z (((0:Int)+(0:Int))+(w64 (((w64 (((w64 ((z.length:Int) - 1)) - (0:Int)) - (1:Int))) - (0:Int)) - (1:Int)))) (0:Int)) (0:Int) (0:Int) (0:Int) (0:Int)) else (kn C (r8.1.set (w64 ((rd z (w64 ((z.length:Int) - 1)) (0:Int))+(1:Int))).toNat ((1:Int),(rd r8.1 (w64 ((rd z (w64 ((z.length:Int) - 1)) (0:Int))+(1:Int))) Z18).2)) true (cut z ((0:Int)+(0:Int)) (((0:Int)+(0:Int))+((w64 (((w64 ((z.length:Int) - 1)) - (0:Int)) - (1:Int))) - (0:Int)))) (⟨#[]⟩:BA) (-1:Int) (0:Int) (0:Int) (0:Int) (0:Int))) else (bif (decide (((w64 ((z.length:Int) - 1)) - (0:Int))>(0:Int))) then (idx (w64 (((w64 ((z.length:Int) - 1)) - (0:Int)) - (1:Int))) ((w64 ((z.length:Int) - 1)) - (0:Int))<|kn C (r8.1.set (w64 ((rd z (w64 ((z.length:Int) - 1)) (0:Int))+(1:Int))).toNat ((1:Int),(rd r8.1 (w64 ((rd z (w64 ((z.length:Int) - 1)) (0:Int))+(1:Int))) Z18).2)) true (cut z (0:Int) ((0:Int)+((w64 ((z.length:Int) - 1)) - (0:Int)))) (⟨#[]⟩:BA) (rd z ((0:Int)+(w64 (((w64 ((z.length:Int) - 1)) - (0:Int)) - (1:Int)))) (0:Int)) (0:Int) (0:Int) (0:Int) (0:Int)) else (kn C (r8.1.set (w64 ((rd z (w64 ((z.length:Int) - 1)) (0:Int))+(1:Int))).toNat ((1:Int),(rd r8.1 (w64 ((rd z (w64 ((z.length:Int) - 1)) (0:Int))+(1:Int))) Z18).2)) true (cut z (0:Int) ((0:Int)+((w64 ((z.length:Int) - 1)) - (0:Int)))) (⟨#[]⟩:BA) (-1:Int) (0:Int) (0:Int) (0:Int) (0:Int)))) else (kn C B D z F I E H G N)) else (kn C B D z F I E H G N)) else (kn C B D z F I E H G N)
def cD0:FS1 β:=FXs (pB n) n nH (some jG) none [] [261198,522398,1044798,1044799]
theorem dF9 (C:Z11) (B:List Z28) (D:Bool) (z:List Int) (F:BA) (I E H G N:Int):cD0 n (fW C B D z F I E H G N) cx=aQ0 n (fun C B D z F I E H G N=>cx.nrm (fW C B D z F I E H G N)) C B D z F I E H G N:=by kernel_rfl
def aD7 (kn:Z11→List Z28→Bool→List Int→BA→Int→Int→Int→Int→Int→Option β) (C:Z11) (B:List Z28) (D:Bool) (z:List Int) (F:BA) (I E H G N:Int) (bh:Bool):Option β:=dK3 n (fun C B D z F I E H G N=>aQ0 n kn C B D z F I E H G N) C B D z F I E H G N bh
def l7 (s:FState) (cx:Cx β):Option β:=dF5 n s {cx with nrm:=fun s=>cD0 n s cx}
theorem dF4 (C:Z11) (B:List Z28) (D:Bool) (z:List Int) (F:BA) (I E H G N:Int) (bh:Bool):l7 n (KW C B D z F I E H G N bh) cx=aD7 n (fun C B D z F I E H G N=>cx.nrm (fW C B D z F I E H G N)) C B D z F I E H G N bh:=by simp only [l7,aD7,cR4,dF9]
def y6 (kn:Z11→List Z28→Bool→List Int→BA→Int→Int→Int→Int→Int→Option β) (C:Z11) (B:List Z28) (D:Bool) (z:List Int) (F:BA) (I E H G N:Int) (bh:Bool):Option β:=bif bh then dH7 n kn C B D z F I E H G N bh else aD7 n kn C B D z F I E H G N bh
def U9 (s:FState) (cx:Cx β):Option β:=asBool (ev s (kO (nav nH [1,1,1,1,1,1,1,0,0,0,1,0,0,1]))) fun t=>cond t (bI5 n s cx) (l7 n s cx)
theorem cO0 (C:Z11) (B:List Z28) (D:Bool) (z:List Int) (F:BA) (I E H G N:Int) (bh:Bool):U9 n (KW C B D z F I E H G N bh) cx=y6 n (fun C B D z F I E H G N=>cx.nrm (fW C B D z F I E H G N)) C B D z F I E H G N bh:=by
  simp only [U9,y6,dE0,dF4]
  kernel_rfl
def ZC (n:Nat) (kn:Z11→List Z28→Bool→List Int→BA→Int→Int→Int→Int→Int→Option β) (C:Z11) (B:List Z28) (D:Bool) (z:List Int) (F:BA) (I E H G N:Int):Option β:=kn C B D z F (w64 (I+1)) E H G N
def cB0:FS1 β:=FXs (pB n) n nH (some jG) none [] [16325]
theorem cP2 (C:Z11) (B:List Z28) (D:Bool) (z:List Int) (F:BA) (I E H G N:Int):cB0 n (fW C B D z F I E H G N) cx=ZC n (fun C B D z F I E H G N=>cx.nrm (fW C B D z F I E H G N)) C B D z F I E H G N:=by kernel_rfl
def SW (kn:Z11→List Z28→Bool→List Int→BA→Int→Int→Int→Int→Int→Option β) (C:Z11) (B:List Z28) (D:Bool) (z:List Int) (F:BA) (I E H G N:Int):Option β:=cL9 n (fun C B D z F I E H G N bh=>y6 n (fun C B D z F I E H G N=>ZC n kn C B D z F I E H G N) C B D z F I E H G N bh) C B D z F I E H G N
def PA (s:FState) (cx:Cx β):Option β:=cA3 n s {cx with nrm:=fun s=>U9 n s {cx with nrm:=fun s=>cB0 n s cx}}
theorem aZ6 (C:Z11) (B:List Z28) (D:Bool) (z:List Int) (F:BA) (I E H G N:Int):PA n (fW C B D z F I E H G N) cx=SW n (fun C B D z F I E H G N=>cx.nrm (fW C B D z F I E H G N)) C B D z F I E H G N:=by simp only [PA,SW,dF6,cO0,cP2]
def I7 (kn:Z11→List Z28→Bool→List Int→BA→Int→Int→Int→Int→Int→Option β) (C:Z11) (B:List Z28) (D:Bool) (z:List Int) (F:BA) (I E H G N:Int):Option β:=SW n kn C B D z F I E H G N
def aD5 (s:FState) (cx:Cx β):Option β:=PA n s {cx with ex:=fun j s=>bif Nat.beq j 1 then cx.nrm s else cx.ex j s}
theorem bB1 (C:Z11) (B:List Z28) (D:Bool) (z:List Int) (F:BA) (I E H G N:Int):aD5 n (fW C B D z F I E H G N) cx=I7 n (fun C B D z F I E H G N=>cx.nrm (fW C B D z F I E H G N)) C B D z F I E H G N:=aZ6 n _ C B D z F I E H G N
def UB (kn:Z11→List Z28→Bool→List Int→BA→Int→Int→Int→Int→Int→Option β) (ae:Z11→List Z28→Bool→Option β) (C:Z11) (B:List Z28) (D:Bool) (z:List Int) (F:BA) (I E H G N:Int):Option β:=dJ6 n (fun C B D z F I E H G N=>I7 n kn C B D z F I E H G N) ae C B D z F I E H G N
def FE (s:FState) (cx:Cx β):Option β:=bO5 n s {cx with nrm:=fun s=>aD5 n s cx}
theorem aQ9 (C:Z11) (B:List Z28) (D:Bool) (z:List Int) (F:BA) (I E H G N:Int):FE n (fW C B D z F I E H G N) cx=UB n (fun C B D z F I E H G N=>cx.nrm (fW C B D z F I E H G N)) (fun C B D=>cx.ex 0 (zS C B D)) C B D z F I E H G N:=by simp only [FE,UB,bK1,bB1]
def g58_13L (n:Nat) (ae:Z11→List Z28→Bool→Option β):Nat→Z11→List Z28→Bool→List Int→BA→Int→Int→Int→Int→Int→Option β
  | 0,_,_,_,_,_,_,_,_,_,_=>none
  | m+1,C,B,D,z,F,I,E,H,G,N=>UB n (g58_13L n ae m) ae C B D z F I E H G N
def q7 (ae:Z11→List Z28→Bool→Option β) (C:Z11) (B:List Z28) (D:Bool) (z:List Int) (F:BA) (I E H G N:Int):Option β:=g58_13L n ae n C B D z F I E H G N
def aQ4 (s:FState) (cx:Cx β):Option β:=bK (fun again s=>FE n s {cx with nrm:=again}) n s
theorem V0 (n:Nat) (cx:Cx β):∀(m:Nat) (C:Z11) (B:List Z28) (D:Bool) (z:List Int) (F:BA) (I E H G N:Int),bK (fun again s=>FE n s {cx with nrm:=again}) m (fW C B D z F I E H G N)=g58_13L n (fun C B D=>cx.ex 0 (zS C B D)) m C B D z F I E H G N:=by
  intro m
  induction m with
  | zero=>intros;rfl
  | succ m ih=>intros;simp only [bK,g58_13L,aQ9,ih]
theorem aV6 (C:Z11) (B:List Z28) (D:Bool) (z:List Int) (F:BA) (I E H G N:Int):aQ4 n (fW C B D z F I E H G N) cx=q7 n (fun C B D=>cx.ex 0 (zS C B D)) C B D z F I E H G N:=V0 n cx n C B D z F I E H G N
def F8 (kn:Z11→List Z28→Bool→Option β) (C:Z11) (B:List Z28) (D:Bool) (z:List Int) (F:BA) (I E H G N:Int):Option β:=q7 n kn C B D z F I E H G N
def aM1 (s:FState) (cx:Cx β):Option β:=aQ4 n s {cx with ex:=fun j s=>bif Nat.beq j 0 then cx.nrm s else cx.ex j s}
theorem bE0 (C:Z11) (B:List Z28) (D:Bool) (z:List Int) (F:BA) (I E H G N:Int):aM1 n (fW C B D z F I E H G N) cx=F8 n (fun C B D=>cx.nrm (zS C B D)) C B D z F I E H G N:=aV6 n _ C B D z F I E H G N
def uW (kn:Z11→List Z28→Option β) (C:Z11) (B:List Z28) (D:Bool):Option β:=bif D then ((g73 n C B).bind fun V=>kn C V.1) else (kn C B)
def aE4:FS1 β:=FXs (pB n) n nH (some aD3) none [] [2044,2045]
theorem aS7 (C:Z11) (B:List Z28) (D:Bool):aE4 n (zS C B D) cx=uW n (fun C B=>cx.nrm (cX0 C B)) C B D:=by kernel_rfl
def uT (kn:Z11→List Z28→Int→Option β) (C:Z11) (B:List Z28):Option β:=(g56 n C B).bind fun V=>kn C V.1 (1:Int)
def aC1:FS1 β:=FXs (pB n) n nH (some FJ) none [] [2046,4094]
theorem aR0 (C:Z11) (B:List Z28):aC1 n (cX0 C B) cx=uT n (fun C B I=>cx.nrm (BD C B I)) C B:=by kernel_rfl
def J1 (kn:Z11→List Z28→Int→Option β) (ap:List Z28→Option β) (C:Z11) (B:List Z28) (I:Int):Option β:=bif (decide (I < (B.length:Int))) then (idx (w64 (I - 1)) (B.length:Int)<|bif ((rd B (w64 (I - 1)) Z18).1==(-1:Int)) then (idx I (B.length:Int)<|bif ((rd B I Z18).1==(1:Int)) then (idx (w64 (I - 1)) (B.length:Int)<|idx I (B.length:Int)<|(g74 n C ((rd B (w64 (I - 1)) Z18).2) ((rd B I Z18).2)).bind fun V=>(g74 n C ((rd B I Z18).2) ((rd B (w64 (I - 1)) Z18).2)).bind fun r2=>bif (decide (V.1≥r2.1)) then ((g62 n ((rd B (w64 (I - 1)) Z18).2)).bind fun r3=>onS (floatBits .quo .f64 (floatOfInt .f64 r3.1) (4611686018427387904:Nat)) fun r4=>bif ((fGt .f64 (floatOfInt .f64 V.1) r4)||(fEq .f64 (floatOfInt .f64 V.1) r4)) then (bnd (0:Int) V.1 (((rd B I Z18).2).size:Int)<|(g71 n B I (0:Int) [((0:Int),(bA ((rd B I Z18).2) (0:Int) V.1))]).bind fun r5=>bnd (0:Int) (w64 ((((rd B (w64 (I - 1)) Z18).2).size:Int) - V.1)) (((rd B (w64 (I - 1)) Z18).2).size:Int)<|idx (w64 (I - 1)) (r5.1.length:Int)<|bnd V.1 (((rd B I Z18).2).size:Int) (((rd B I Z18).2).size:Int)<|idx (w64 (I+1)) ((r5.1.set (w64 (I - 1)).toNat ((rd r5.1 (w64 (I - 1)) Z18).1,(bA ((rd B (w64 (I - 1)) Z18).2) (0:Int) (w64 ((((rd B (w64 (I - 1)) Z18).2).size:Int) - V.1))))).length:Int)<|kn C ((r5.1.set (w64 (I - 1)).toNat ((rd r5.1 (w64 (I - 1)) Z18).1,(bA ((rd B (w64 (I - 1)) Z18).2) (0:Int) (w64 ((((rd B (w64 (I - 1)) Z18).2).size:Int) - V.1))))).set (w64 (I+1)).toNat ((rd (r5.1.set (w64 (I - 1)).toNat ((rd r5.1 (w64 (I - 1)) Z18).1,(bA ((rd B (w64 (I - 1)) Z18).2) (0:Int) (w64 ((((rd B (w64 (I - 1)) Z18).2).size:Int) - V.1))))) (w64 (I+1)) Z18).1,(bA ((rd B I Z18).2) V.1 (((rd B I Z18).2).size:Int)))) (w64 ((w64 ((w64 (I+1))+(1:Int)))+(1:Int)))) else ((g62 n ((rd B I Z18).2)).bind fun r6=>onS (floatBits .quo .f64 (floatOfInt .f64 r6.1) (4611686018427387904:Nat)) fun r7=>bif ((fGt .f64 (floatOfInt .f64 V.1) r7)||(fEq .f64 (floatOfInt .f64 V.1) r7)) then (bnd (0:Int) V.1 (((rd B I Z18).2).size:Int)<|(g71 n B I (0:Int) [((0:Int),(bA ((rd B I Z18).2) (0:Int) V.1))]).bind fun r8=>bnd (0:Int) (w64 ((((rd B (w64 (I - 1)) Z18).2).size:Int) - V.1)) (((rd B (w64 (I - 1)) Z18).2).size:Int)<|idx (w64 (I - 1)) (r8.1.length:Int)<|bnd V.1 (((rd B I Z18).2).size:Int) (((rd B I Z18).2).size:Int)<|idx (w64 (I+1)) ((r8.1.set (w64 (I - 1)).toNat ((rd r8.1 (w64 (I - 1)) Z18).1,(bA ((rd B (w64 (I - 1)) Z18).2) (0:Int) (w64 ((((rd B (w64 (I - 1)) Z18).2).size:Int) - V.1))))).length:Int)<|kn C ((r8.1.set (w64 (I - 1)).toNat ((rd r8.1 (w64 (I - 1)) Z18).1,(bA ((rd B (w64 (I - 1)) Z18).2) (0:Int) (w64 ((((rd B (w64 (I - 1)) Z18).2).size:Int) - V.1))))).set (w64 (I+1)).toNat ((rd (r8.1.set (w64 (I - 1)).toNat ((rd r8.1 (w64 (I - 1)) Z18).1,(bA ((rd B (w64 (I - 1)) Z18).2) (0:Int) (w64 ((((rd B (w64 (I - 1)) Z18).2).size:Int) - V.1))))) (w64 (I+1)) Z18).1,(bA ((rd B I Z18).2) V.1 (((rd B I Z18).2).size:Int)))) (w64 ((w64 ((w64 (I+1))+(1:Int)))+(1:Int)))) else (kn C B (w64 ((w64 (I+1))+(1:Int)))))) else ((g62 n ((rd B (w64 (I - 1)) Z18).2)).bind fun r9=>onS (floatBits .quo .f64 (floatOfInt .f64 r9.1) (4611686018427387904:Nat)) fun bq=>bif ((fGt .f64 (floatOfInt .f64 r2.1) bq)||(fEq .f64 (floatOfInt .f64 r2.1) bq)) then (bnd (0:Int) r2.1 (((rd B (w64 (I - 1)) Z18).2).size:Int)<|(g71 n B I (0:Int) [(rd [((0:Int),(bA ((rd B (w64 (I - 1)) Z18).2) (0:Int) r2.1))] (0:Int) Z18)]).bind fun aw=>idx (w64 (I - 1)) (aw.1.length:Int)<|bnd (0:Int) (w64 ((((rd B I Z18).2).size:Int) - r2.1)) (((rd B I Z18).2).size:Int)<|idx (w64 (I - 1)) ((aw.1.set (w64 (I - 1)).toNat ((1:Int),(rd aw.1 (w64 (I - 1)) Z18).2)).length:Int)<|idx (w64 (I+1)) (((aw.1.set (w64 (I - 1)).toNat ((1:Int),(rd aw.1 (w64 (I - 1)) Z18).2)).set (w64 (I - 1)).toNat ((rd (aw.1.set (w64 (I - 1)).toNat ((1:Int),(rd aw.1 (w64 (I - 1)) Z18).2)) (w64 (I - 1)) Z18).1,(bA ((rd B I Z18).2) (0:Int) (w64 ((((rd B I Z18).2).size:Int) - r2.1))))).length:Int)<|bnd r2.1 (((rd B (w64 (I - 1)) Z18).2).size:Int) (((rd B (w64 (I - 1)) Z18).2).size:Int)<|idx (w64 (I+1)) ((((aw.1.set (w64 (I - 1)).toNat ((1:Int),(rd aw.1 (w64 (I - 1)) Z18).2)).set (w64 (I - 1)).toNat ((rd (aw.1.set (w64 (I - 1)).toNat ((1:Int),(rd aw.1 (w64 (I - 1)) Z18).2)) (w64 (I - 1)) Z18).1,(bA ((rd B I Z18).2) (0:Int) (w64 ((((rd B I Z18).2).size:Int) - r2.1))))).set (w64 (I+1)).toNat ((-1:Int),(rd ((aw.1.set (w64 (I - 1)).toNat ((1:Int),(rd aw.1 (w64 (I - 1)) Z18).2)).set (w64 (I - 1)).toNat ((rd (aw.1.set (w64 (I - 1)).toNat ((1:Int),(rd aw.1 (w64 (I - 1)) Z18).2)) (w64 (I - 1)) Z18).1,(bA ((rd B I Z18).2) (0:Int) (w64 ((((rd B I Z18).2).size:Int) - r2.1))))) (w64 (I+1)) Z18).2)).length:Int)<|kn C ((((aw.1.set (w64 (I - 1)).toNat ((1:Int),(rd aw.1 (w64 (I - 1)) Z18).2)).set (w64 (I - 1)).toNat ((rd (aw.1.set (w64 (I - 1)).toNat ((1:Int),(rd aw.1 (w64 (I - 1)) Z18).2)) (w64 (I - 1)) Z18).1,(bA ((rd B I Z18).2) (0:Int) (w64 ((((rd B I Z18).2).size:Int) - r2.1))))).set (w64 (I+1)).toNat ((-1:Int),(rd ((aw.1.set (w64 (I - 1)).toNat ((1:Int),(rd aw.1 (w64 (I - 1)) Z18).2)).set (w64 (I - 1)).toNat ((rd (aw.1.set (w64 (I - 1)).toNat ((1:Int),(rd aw.1 (w64 (I - 1)) Z18).2)) (w64 (I - 1)) Z18).1,(bA ((rd B I Z18).2) (0:Int) (w64 ((((rd B I Z18).2).size:Int) - r2.1))))) (w64 (I+1)) Z18).2)).set (w64 (I+1)).toNat ((rd (((aw.1.set (w64 (I - 1)).toNat ((1:Int),(rd aw.1 (w64 (I - 1)) Z18).2)).set (w64 (I - 1)).toNat ((rd (aw.1.set (w64 (I - 1)).toNat ((1:Int),(rd aw.1 (w64 (I - 1)) Z18).2)) (w64 (I - 1)) Z18).1,(bA ((rd B I Z18).2) (0:Int) (w64 ((((rd B I Z18).2).size:Int) - r2.1))))).set (w64 (I+1)).toNat ((-1:Int),(rd ((aw.1.set (w64 (I - 1)).toNat ((1:Int),(rd aw.1 (w64 (I - 1)) Z18).2)).set (w64 (I - 1)).toNat ((rd (aw.1.set (w64 (I - 1)).toNat ((1:Int),(rd aw.1 (w64 (I - 1)) Z18).2)) (w64 (I - 1)) Z18).1,(bA ((rd B I Z18).2) (0:Int) (w64 ((((rd B I Z18).2).size:Int) - r2.1))))) (w64 (I+1)) Z18).2)) (w64 (I+1)) Z18).1,(bA ((rd B (w64 (I - 1)) Z18).2) r2.1 (((rd B (w64 (I - 1)) Z18).2).size:Int)))) (w64 ((w64 ((w64 (I+1))+(1:Int)))+(1:Int)))) else ((g62 n ((rd B I Z18).2)).bind fun bt=>onS (floatBits .quo .f64 (floatOfInt .f64 bt.1) (4611686018427387904:Nat)) fun bs=>bif ((fGt .f64 (floatOfInt .f64 r2.1) bs)||(fEq .f64 (floatOfInt .f64 r2.1) bs)) then (bnd (0:Int) r2.1 (((rd B (w64 (I - 1)) Z18).2).size:Int)<|(g71 n B I (0:Int) [(rd [((0:Int),(bA ((rd B (w64 (I - 1)) Z18).2) (0:Int) r2.1))] (0:Int) Z18)]).bind fun ay=>idx (w64 (I - 1)) (ay.1.length:Int)<|bnd (0:Int) (w64 ((((rd B I Z18).2).size:Int) - r2.1)) (((rd B I Z18).2).size:Int)<|idx (w64 (I - 1)) ((ay.1.set (w64 (I - 1)).toNat ((1:Int),(rd ay.1 (w64 (I - 1)) Z18).2)).length:Int)<|idx (w64 (I+1)) (((ay.1.set (w64 (I - 1)).toNat ((1:Int),(rd ay.1 (w64 (I - 1)) Z18).2)).set (w64 (I - 1)).toNat ((rd (ay.1.set (w64 (I - 1)).toNat ((1:Int),(rd ay.1 (w64 (I - 1)) Z18).2)) (w64 (I - 1)) Z18).1,(bA ((rd B I Z18).2) (0:Int) (w64 ((((rd B I Z18).2).size:Int) - r2.1))))).length:Int)<|bnd r2.1 (((rd B (w64 (I - 1)) Z18).2).size:Int) (((rd B (w64 (I - 1)) Z18).2).size:Int)<|idx (w64 (I+1)) ((((ay.1.set (w64 (I - 1)).toNat ((1:Int),(rd ay.1 (w64 (I - 1)) Z18).2)).set (w64 (I - 1)).toNat ((rd (ay.1.set (w64 (I - 1)).toNat ((1:Int),(rd ay.1 (w64 (I - 1)) Z18).2)) (w64 (I - 1)) Z18).1,(bA ((rd B I Z18).2) (0:Int) (w64 ((((rd B I Z18).2).size:Int) - r2.1))))).set (w64 (I+1)).toNat ((-1:Int),(rd ((ay.1.set (w64 (I - 1)).toNat ((1:Int),(rd ay.1 (w64 (I - 1)) Z18).2)).set (w64 (I - 1)).toNat ((rd (ay.1.set (w64 (I - 1)).toNat ((1:Int),(rd ay.1 (w64 (I - 1)) Z18).2)) (w64 (I - 1)) Z18).1,(bA ((rd B I Z18).2) (0:Int) (w64 ((((rd B I Z18).2).size:Int) - r2.1))))) (w64 (I+1)) Z18).2)).length:Int)<|kn C ((((ay.1.set (w64 (I - 1)).toNat ((1:Int),(rd ay.1 (w64 (I - 1)) Z18).2)).set (w64 (I - 1)).toNat ((rd (ay.1.set (w64 (I - 1)).toNat ((1:Int),(rd ay.1 (w64 (I - 1)) Z18).2)) (w64 (I - 1)) Z18).1,(bA ((rd B I Z18).2) (0:Int) (w64 ((((rd B I Z18).2).size:Int) - r2.1))))).set (w64 (I+1)).toNat ((-1:Int),(rd ((ay.1.set (w64 (I - 1)).toNat ((1:Int),(rd ay.1 (w64 (I - 1)) Z18).2)).set (w64 (I - 1)).toNat ((rd (ay.1.set (w64 (I - 1)).toNat ((1:Int),(rd ay.1 (w64 (I - 1)) Z18).2)) (w64 (I - 1)) Z18).1,(bA ((rd B I Z18).2) (0:Int) (w64 ((((rd B I Z18).2).size:Int) - r2.1))))) (w64 (I+1)) Z18).2)).set (w64 (I+1)).toNat ((rd (((ay.1.set (w64 (I - 1)).toNat ((1:Int),(rd ay.1 (w64 (I - 1)) Z18).2)).set (w64 (I - 1)).toNat ((rd (ay.1.set (w64 (I - 1)).toNat ((1:Int),(rd ay.1 (w64 (I - 1)) Z18).2)) (w64 (I - 1)) Z18).1,(bA ((rd B I Z18).2) (0:Int) (w64 ((((rd B I Z18).2).size:Int) - r2.1))))).set (w64 (I+1)).toNat ((-1:Int),(rd ((ay.1.set (w64 (I - 1)).toNat ((1:Int),(rd ay.1 (w64 (I - 1)) Z18).2)).set (w64 (I - 1)).toNat ((rd (ay.1.set (w64 (I - 1)).toNat ((1:Int),(rd ay.1 (w64 (I - 1)) Z18).2)) (w64 (I - 1)) Z18).1,(bA ((rd B I Z18).2) (0:Int) (w64 ((((rd B I Z18).2).size:Int) - r2.1))))) (w64 (I+1)) Z18).2)) (w64 (I+1)) Z18).1,(bA ((rd B (w64 (I - 1)) Z18).2) r2.1 (((rd B (w64 (I - 1)) Z18).2).size:Int)))) (w64 ((w64 ((w64 (I+1))+(1:Int)))+(1:Int)))) else (kn C B (w64 ((w64 (I+1))+(1:Int))))))) else (kn C B (w64 (I+1)))) else (kn C B (w64 (I+1)))) else (ap B)
def SH:FS1 β:=FXs (pB n) n nH (some FJ) none [(2,zD)] [131040,131041,65521]
theorem aX9 (C:Z11) (B:List Z28) (I:Int):SH n (BD C B I) cx=J1 n (fun C B I=>cx.nrm (BD C B I)) (fun B=>cx.ex 2 (xN B)) C B I:=by kernel_rfl
def g58_18L (n:Nat) (ap:List Z28→Option β):Nat→Z11→List Z28→Int→Option β
  | 0,_,_,_=>none
  | m+1,C,B,I=>J1 n (g58_18L n ap m) ap C B I
def L4 (ap:List Z28→Option β) (C:Z11) (B:List Z28) (I:Int):Option β:=g58_18L n ap n C B I
def aH3 (s:FState) (cx:Cx β):Option β:=bK (fun again s=>SH n s {cx with nrm:=again}) n s
theorem X7 (n:Nat) (cx:Cx β):∀(m:Nat) (C:Z11) (B:List Z28) (I:Int),bK (fun again s=>SH n s {cx with nrm:=again}) m (BD C B I)=g58_18L n (fun B=>cx.ex 2 (xN B)) m C B I:=by
  intro m
  induction m with
  | zero=>intros;rfl
  | succ m ih=>intros;simp only [bK,g58_18L,aX9,ih]
theorem bE7 (C:Z11) (B:List Z28) (I:Int):aH3 n (BD C B I) cx=L4 n (fun B=>cx.ex 2 (xN B)) C B I:=X7 n cx n C B I
def uP (kn:List Z28→Option β) (C:Z11) (B:List Z28) (I:Int):Option β:=L4 n kn C B I
def aD2 (s:FState) (cx:Cx β):Option β:=aH3 n s {cx with ex:=fun j s=>bif Nat.beq j 2 then cx.nrm s else cx.ex j s}
theorem bC0 (C:Z11) (B:List Z28) (I:Int):aD2 n (BD C B I) cx=uP n (fun B=>cx.nrm (xN B)) C B I:=bE7 n _ C B I
def uX (n:Nat) (kr:List Z28→Option β) (B:List Z28):Option β:=kr B
def aN4:FS1 β:=FXs (pB n) n nH none (some QK) [] [16382,16383]
theorem bB3 (B:List Z28):aN4 n (xN B) cx=uX n (fun x4=>cx.ret (dB0 x4)) B:=by kernel_rfl
def SO (kr:List Z28→Option β) (C:Z11) (B:List Z28):Option β:=cN4 n (fun C B D z F I E H G N=>F8 n (fun C B D=>uW n (fun C B=>uT n (fun C B I=>uP n (fun B=>uX n kr B) C B I) C B) C B D) C B D z F I E H G N) C B
def EC (s:FState) (cx:Cx β):Option β:=cL8 n s {cx with nrm:=fun s=>aM1 n s {cx with nrm:=fun s=>aE4 n s {cx with nrm:=fun s=>aC1 n s {cx with nrm:=fun s=>aD2 n s {cx with nrm:=fun s=>aN4 n s cx}}}}}
theorem bF2 (C:Z11) (B:List Z28):EC n (X1 C B) cx=SO n (fun x4=>cx.ret (dB0 x4)) C B:=by simp only [EC,SO,dI5,bE0,aS7,aR0,bC0,bB3]
def g58 (C:Z11) (B:List Z28):Option (DenR [.rw Z25 81]):=SO n (fun x4=>some (x4,())) C B
def eG6:List AK:=[.pro Z1 74,.rw Z25 81]
def MZ:List RK:=[.rw Z25 81]
def fE1 (d:DenA eG6):Option (DenR MZ):=g58 n d.1 d.2.1
def eP4:Spec:=aM eG6 MZ (fE1 n)
def eO5:Sk:=(.nd (.fin none none none [] .leaf) (.nd (.fin none none none [] .leaf) (.nd (.fin none none none [] .leaf) (.nd (.fin none none none [] .leaf) (.nd (.fin none none none [] .leaf) (.nd (.fin none none none [] .leaf) (.nd (.fin none (some jG) none [] .leaf) (.nd (.nd (.nd (.nd (.nd (.fin none none none [(0,TC)] .leaf) (.fin none (some jG) none [(0,TC)] .leaf)) (.nd (.nd (.nd (.fin none (some aB5) none [] .leaf) (.nd (.nd (.fin none none none [] .leaf) (.nd (.fin none none none [] .leaf) (.nd (.fin none none none [] .leaf) (.nd (.fin none none none [] .leaf) (.nd (.fin none none none [] .leaf) (.fin none (some jG) none [] .leaf)))))) (.nd (.nd (.fin none none none [] .leaf) (.fin none (some jG) none [] .leaf)) (.nd (.fin none none none [] .leaf) (.nd (.fin none none none [] .leaf) (.nd (.fin none none none [] .leaf) (.fin none (some jG) none [] .leaf))))))) (.fin none (some jG) none [] .leaf)) .leaf)) .leaf) .leaf) (.nd (.nd (.fin none none none [] .leaf) (.fin none (some aD3) none [] .leaf)) (.nd (.fin none none none [] .leaf) (.nd (.fin none (some FJ) none [] .leaf) (.nd (.nd (.nd (.nd (.nd (.fin none none none [(2,zD)] .leaf) (.fin none none none [(2,zD)] .leaf)) (.fin none (some FJ) none [(2,zD)] .leaf)) .leaf) .leaf) (.nd (.fin none none (some QK) [] .leaf) (.fin none none (some QK) [] .leaf))))))))))))))
theorem dY1 (s:FState) (cx:Cx β):FX (pB n) n nH eO5 s cx=EC n s cx:=by kernel_rfl
theorem dS1:Fit Tryd.prog 58 (eP4 n):=
  cD (Γ:=Γ0) (l:=eA4 n) (n:=n) (sk:=eO5) (ts:=[(4,none)]) (fn:=Tryd.f58) (c:=nH) (by kernel_rfl) (by kernel_rfl) (by unfold aO;kernel_rfl) cB ⟨dQ1 n,dQ8 n,DS n,dW2 n,aP5 n,dN6 n,trivial⟩ aH (by kernel_rfl) (by kernel_rfl) (Nat.le_of_ble_eq_true (by kernel_rfl)) (Nat.le_of_ble_eq_true (by kernel_rfl)) (by kernel_rfl) (by kernel_rfl)
    (fun d=>(dY1 n _ _).trans (Eq.trans (b:=EC n (X1 d.1 d.2.1) (cG (pB n) MZ [(4,none)])) (by kernel_rfl) ((bF2 n _ d.1 d.2.1).trans (by kernel_rfl))))
def gV:List AK:=[.pro Z1 74,.ro (.int .i32) 21,.ro (.int .i32) 21,.dat .bool]
def dZ:List RK:=[.rw Z25 81]
def gX:List AK:=[.pro Z1 74,.ro (.int .i32) 21,.ro (.int .i32) 21,.dat .bool]
def eX:List RK:=[.rw Z25 81]
def eH:List AK:=[.pro Z1 74,.ro (.int .i32) 21,.ro (.int .i32) 21]
def dC:List RK:=[.rw Z25 81]
def eL:List AK:=[.pro Z1 74,.ro (.int .i32) 21,.ro (.int .i32) 21]
def dE:List RK:=[.rw Z25 81]
def eD:List AK:=[.pro Z1 74,.ro (.int .i32) 21,.ro (.int .i32) 21,.dat (.int .i64),.dat (.int .i64)]
def dQ:List RK:=[.rw Z25 81]
abbrev Q67:=DenA gV→Option (DenR dZ)
abbrev Q82:=DenA gX→Option (DenR eX)
abbrev aI:=DenA eH→Option (DenR dC)
abbrev aK:=DenA eL→Option (DenR dE)
abbrev aJ:=DenA eD→Option (DenR dQ)
def f7 (C:Z11) (B L:List Int) (v3:Bool):FState:=⟨aG [(0,.ptr 0 0 0),(1,.sl 1 none false),(2,.sl 2 none false),(3,.dat .bool v3)],aD [(0,.row Z1 74 false [C]),(1,.row (.int .i32) 21 false B),(2,.row (.int .i32) 21 false L)]⟩
def K0 (X:List Z28):FState:=⟨aG [(8,.sl 8 none false)],aD [(8,.row Z25 81 true X)]⟩
def eG:List NE:=[.row 8 Z25 81 true]
def cU4 (C:Z11) (Q:List Int) (S:List Z28):FState:=⟨aG [(0,.ptr 0 0 0),(12,.sl 12 none false),(13,.sl 13 none false)],aD [(0,.row Z1 74 false [C]),(12,.row (.int .i32) 21 false Q),(13,.row Z25 81 true S)]⟩
def aG3:List NE:=[.ptr 0 Z1 74 false,.row 12 (.int .i32) 21 false,.row 13 Z25 81 true]
end
section
variable (n:Nat) (q67:Q67) (q82:Q82) (aC:aI) (aB:aK) (aA:aJ) (cx:Cx β)
def eH5:List (Nat×Spec):=[(73,dI3 n),(79,cX3 n),(80,cO5 n),(81,aC3 n),(67,aM gV dZ q67),(82,aM gX eX q82),(103,aM eH dC aC),(104,aM eL dE aB),(121,aM eD dQ aA)]
def aH1:Ctx:={Γ0 with calls:=lkS (eH5 n q67 q82 aC aB aA)}
def aM0:Code:=fb Tryd.f67
def bW4 (n:Nat) (q67:Q67) (q82:Q82) (aC:aI) (aB:aK) (aA:aJ) (kn:Z11→List Int→List Z28→Option β) (kr:List Z28→Option β) (C:Z11) (B L:List Int) (v3:Bool):Option β:=(g79 n B L).bind fun V=>bif V.1 then (bif (decide ((B.length:Int)>(0:Int))) then (cJ [((0:Int),(runesBytes B))].length<|kr [((0:Int),(runesBytes B))]) else (kr [])) else ((g80 n B L).bind fun r2=>bnd (0:Int) r2.1 (B.length:Int)<|bnd r2.1 (B.length:Int) (B.length:Int)<|bnd r2.1 (L.length:Int) (L.length:Int)<|(g81 n (cut B r2.1 (B.length:Int)) (cut L r2.1 (L.length:Int))).bind fun r3=>bnd (w64 (((cut B r2.1 (B.length:Int)).length:Int) - r3.1)) ((cut B r2.1 (B.length:Int)).length:Int) ((cut B r2.1 (B.length:Int)).length:Int)<|bnd (0:Int) (w64 (((cut B r2.1 (B.length:Int)).length:Int) - r3.1)) ((cut B r2.1 (B.length:Int)).length:Int)<|bnd (0:Int) (w64 (((cut L r2.1 (L.length:Int)).length:Int) - r3.1)) ((cut L r2.1 (L.length:Int)).length:Int)<|(q82 (C,((cut (cut B r2.1 (B.length:Int)) (0:Int) (w64 (((cut B r2.1 (B.length:Int)).length:Int) - r3.1))),((cut (cut L r2.1 (L.length:Int)) (0:Int) (w64 (((cut L r2.1 (L.length:Int)).length:Int) - r3.1))),(v3,()))))).bind fun r4=>bif (((cut B (0:Int) r2.1).length:Int)!=(0:Int)) then (cJ ([((0:Int),(runesBytes (cut B (0:Int) r2.1)))].length+r4.1.length)<|kn C (cut (cut B r2.1 (B.length:Int)) (w64 (((cut B r2.1 (B.length:Int)).length:Int) - r3.1)) ((cut B r2.1 (B.length:Int)).length:Int)) ([((0:Int),(runesBytes (cut B (0:Int) r2.1)))]++r4.1)) else (kn C (cut (cut B r2.1 (B.length:Int)) (w64 (((cut B r2.1 (B.length:Int)).length:Int) - r3.1)) ((cut B r2.1 (B.length:Int)).length:Int)) r4.1))
def bH9:FS1 β:=FXs (aH1 n q67 q82 aC aB aA) n aM0 (some aG3) (some eG) [] [2,12,13,14,30,62,126,254,510,1022,2046,4094,16380,16381]
theorem dF2 (C:Z11) (B L:List Int) (v3:Bool):bH9 n q67 q82 aC aB aA (f7 C B L v3) cx=bW4 n q67 q82 aC aB aA (fun C Q S=>cx.nrm (cU4 C Q S)) (fun X=>cx.ret (K0 X)) C B L v3:=by kernel_rfl
def aG0 (n:Nat) (q67:Q67) (q82:Q82) (aC:aI) (aB:aK) (aA:aJ) (kr:List Z28→Option β) (C:Z11) (Q:List Int) (S:List Z28):Option β:=bif ((Q.length:Int)!=(0:Int)) then (cJ (S.length+[((0:Int),(runesBytes Q))].length)<|(g73 n C (S++[((0:Int),(runesBytes Q))])).bind fun V=>kr V.1) else ((g73 n C S).bind fun r2=>kr r2.1)
def cY4:FS1 β:=FXs (aH1 n q67 q82 aC aB aA) n aM0 none (some eG) [] [32764,32765,32766,32767]
theorem dK2 (C:Z11) (Q:List Int) (S:List Z28):cY4 n q67 q82 aC aB aA (cU4 C Q S) cx=aG0 n q67 q82 aC aB aA (fun X=>cx.ret (K0 X)) C Q S:=by kernel_rfl
def aK1 (kr:List Z28→Option β) (C:Z11) (B L:List Int) (v3:Bool):Option β:=bW4 n q67 q82 aC aB aA (fun C Q S=>aG0 n q67 q82 aC aB aA kr C Q S) kr C B L v3
def OS (s:FState) (cx:Cx β):Option β:=bH9 n q67 q82 aC aB aA s {cx with nrm:=fun s=>cY4 n q67 q82 aC aB aA s cx}
theorem dM0 (C:Z11) (B L:List Int) (v3:Bool):OS n q67 q82 aC aB aA (f7 C B L v3) cx=aK1 n q67 q82 aC aB aA (fun X=>cx.ret (K0 X)) C B L v3:=by simp only [OS,aK1,dF2,dK2]
def WX (C:Z11) (B L:List Int) (v3:Bool):Option (DenR [.rw Z25 81]):=aK1 n q67 q82 aC aB aA (fun X=>some (X,())) C B L v3
def cH6 (d:DenA gV):Option (DenR dZ):=WX n q67 q82 aC aB aA d.1 d.2.1 d.2.2.1 d.2.2.2.1
def dZ9:Sk:=(.nd (.fin none none (some eG) [] .leaf) (.nd (.nd (.fin none none (some eG) [] .leaf) (.fin none none (some eG) [] .leaf)) (.nd (.fin none none (some eG) [] .leaf) (.nd (.fin none none (some eG) [] .leaf) (.nd (.fin none none (some eG) [] .leaf) (.nd (.fin none none (some eG) [] .leaf) (.nd (.fin none none (some eG) [] .leaf) (.nd (.fin none none (some eG) [] .leaf) (.nd (.fin none none (some eG) [] .leaf) (.nd (.fin none none (some eG) [] .leaf) (.nd (.fin none none (some eG) [] .leaf) (.nd (.nd (.fin none none (some eG) [] .leaf) (.fin none (some aG3) (some eG) [] .leaf)) (.nd (.nd (.fin none none (some eG) [] .leaf) (.fin none none (some eG) [] .leaf)) (.nd (.fin none none (some eG) [] .leaf) (.fin none none (some eG) [] .leaf)))))))))))))))
theorem dY3 (s:FState) (cx:Cx β):FX (aH1 n q67 q82 aC aB aA) n aM0 dZ9 s cx=OS n q67 q82 aC aB aA s cx:=by kernel_rfl
theorem bI0 (h67:Fit Tryd.prog 67 (aM gV dZ q67)) (h82:Fit Tryd.prog 82 (aM gX eX q82)) (h103:Fit Tryd.prog 103 (aM eH dC aC)) (h104:Fit Tryd.prog 104 (aM eL dE aB)) (h121:Fit Tryd.prog 121 (aM eD dQ aA)):Fit Tryd.prog 67 (aM gV dZ (cH6 n q67 q82 aC aB aA)):=
  cD (Γ:=Γ0) (l:=eH5 n q67 q82 aC aB aA) (n:=n) (sk:=dZ9) (ts:=[(8,none)]) (fn:=Tryd.f67) (c:=aM0) (by kernel_rfl) (by kernel_rfl) (by unfold aO;kernel_rfl) cB ⟨aP5 n,aM6 n,aJ1 n,QM n,h67,h82,h103,h104,h121,trivial⟩ aH (by kernel_rfl) (by kernel_rfl) (Nat.le_of_ble_eq_true (by kernel_rfl)) (Nat.le_of_ble_eq_true (by kernel_rfl)) (by kernel_rfl) (by kernel_rfl)
    (fun d=>(dY3 n q67 q82 aC aB aA _ _).trans (Eq.trans (b:=OS n q67 q82 aC aB aA (f7 d.1 d.2.1 d.2.2.1 d.2.2.2.1) (cG (aH1 n q67 q82 aC aB aA) dZ [(8,none)])) (by kernel_rfl) ((dM0 n q67 q82 aC aB aA _ d.1 d.2.1 d.2.2.1 d.2.2.2.1).trans (by kernel_rfl))))
def j5 (C:Z11) (B L:List Int) (v3:Bool):FState:=⟨aG [(0,.ptr 0 0 0),(1,.sl 1 none false),(2,.sl 2 none false),(3,.dat .bool v3)],aD [(0,.row Z1 74 false [C]),(1,.row (.int .i32) 21 false B),(2,.row (.int .i32) 21 false L)]⟩
def H5 (X:List Z28):FState:=⟨aG [(8,.sl 8 none false)],aD [(8,.row Z25 81 true X)]⟩
def iA:List NE:=[.row 8 Z25 81 true]
def dL8 (C:Z11) (B L:List Int) (v3:Bool) (W ag:List Int):FState:=⟨aG [(0,.ptr 0 0 0),(1,.sl 1 none false),(2,.sl 2 none false),(3,.dat .bool v3),(10,.sl 10 none false),(11,.sl 11 none false)],aD [(0,.row Z1 74 false [C]),(1,.row (.int .i32) 21 false B),(2,.row (.int .i32) 21 false L),(10,.row (.int .i32) 21 false W),(11,.row (.int .i32) 21 false ag)]⟩
def aG8:List NE:=[.ptr 0 Z1 74 false,.row 1 (.int .i32) 21 false,.row 2 (.int .i32) 21 false,.keep 3,.row 10 (.int .i32) 21 false,.row 11 (.int .i32) 21 false]
def eO9:List (Nat×Spec):=[(101,cN1 n),(102,cP3 n),(67,aM gV dZ q67),(82,aM gX eX q82),(103,aM eH dC aC),(104,aM eL dE aB),(121,aM eD dQ aA)]
def aJ0:Ctx:={Γ0 with calls:=lkS (eO9 n q67 q82 aC aB aA)}
def aB6:Code:=fb Tryd.f82
def aG4 (n:Nat) (q67:Q67) (q82:Q82) (aC:aI) (aB:aK) (aA:aJ) (kn:Z11→List Int→List Int→Bool→List Int→List Int→Option β) (kr:List Z28→Option β) (C:Z11) (B L:List Int) (v3:Bool):Option β:=bif ((B.length:Int)==(0:Int)) then (cJ (([]:List Z28).length+[((1:Int),(runesBytes L))].length)<|kr (([]:List Z28)++[((1:Int),(runesBytes L))])) else (bif ((L.length:Int)==(0:Int)) then (cJ (([]:List Z28).length+[((-1:Int),(runesBytes B))].length)<|kr (([]:List Z28)++[((-1:Int),(runesBytes B))])) else (bif (decide ((B.length:Int)>(L.length:Int))) then (kn C B L v3 B L) else (kn C B L v3 L B)))
def bV0:FS1 β:=FXs (aJ0 n q67 q82 aC aB aA) n aB6 (some aG8) (some iA) [] [2,6,28,29,30,124,125]
theorem cV1 (C:Z11) (B L:List Int) (v3:Bool):bV0 n q67 q82 aC aB aA (j5 C B L v3) cx=aG4 n q67 q82 aC aB aA (fun C B L v3 W ag=>cx.nrm (dL8 C B L v3 W ag)) (fun X=>cx.ret (H5 X)) C B L v3:=by kernel_rfl
def qM (n:Nat) (q67:Q67) (q82:Q82) (aC:aI) (aB:aK) (aA:aJ) (kr:List Z28→Option β) (C:Z11) (B L:List Int) (v3:Bool) (W ag:List Int):Option β:=(bY9 n W ag).bind fun V=>bif (V.1 !=(-1:Int)) then (bif (decide ((B.length:Int)>(L.length:Int))) then (bnd (0:Int) V.1 (W.length:Int)<|bnd (w64 (V.1+(ag.length:Int))) (W.length:Int) (W.length:Int)<|kr [((-1:Int),(runesBytes (cut W (0:Int) V.1))),((0:Int),(runesBytes ag)),((-1:Int),(runesBytes (cut W (w64 (V.1+(ag.length:Int))) (W.length:Int))))]) else (bnd (0:Int) V.1 (W.length:Int)<|bnd (w64 (V.1+(ag.length:Int))) (W.length:Int) (W.length:Int)<|kr [((1:Int),(runesBytes (cut W (0:Int) V.1))),((0:Int),(runesBytes ag)),((1:Int),(runesBytes (cut W (w64 (V.1+(ag.length:Int))) (W.length:Int))))])) else (bif ((ag.length:Int)==(1:Int)) then (kr [((-1:Int),(runesBytes B)),((1:Int),(runesBytes L))]) else ((dO1 n C B L).bind fun r2=>bif v3 then (bif (decide ((B.length:Int)>(100:Int))) then (bif (decide ((L.length:Int)>(100:Int))) then ((aC (C,(B,(L,())))).bind fun r3=>kr r3.1) else ((aB (C,(B,(L,())))).bind fun r4=>kr r4.1)) else ((aB (C,(B,(L,())))).bind fun r5=>kr r5.1)) else ((aB (C,(B,(L,())))).bind fun r6=>kr r6.1)))
def dH2:FS1 β:=FXs (aJ0 n q67 q82 aC aB aA) n aB6 none (some iA) [] [252,506,507,254,255]
theorem bQ0 (C:Z11) (B L:List Int) (v3:Bool) (W ag:List Int):dH2 n q67 q82 aC aB aA (dL8 C B L v3 W ag) cx=qM n q67 q82 aC aB aA (fun X=>cx.ret (H5 X)) C B L v3 W ag:=by kernel_rfl
def YR (kr:List Z28→Option β) (C:Z11) (B L:List Int) (v3:Bool):Option β:=aG4 n q67 q82 aC aB aA (fun C B L v3 W ag=>qM n q67 q82 aC aB aA kr C B L v3 W ag) kr C B L v3
def PY (s:FState) (cx:Cx β):Option β:=bV0 n q67 q82 aC aB aA s {cx with nrm:=fun s=>dH2 n q67 q82 aC aB aA s cx}
theorem bY6 (C:Z11) (B L:List Int) (v3:Bool):PY n q67 q82 aC aB aA (j5 C B L v3) cx=YR n q67 q82 aC aB aA (fun X=>cx.ret (H5 X)) C B L v3:=by simp only [PY,YR,cV1,bQ0]
def BZ (C:Z11) (B L:List Int) (v3:Bool):Option (DenR [.rw Z25 81]):=YR n q67 q82 aC aB aA (fun X=>some (X,())) C B L v3
def cM3 (d:DenA gX):Option (DenR eX):=BZ n q67 q82 aC aB aA d.1 d.2.1 d.2.2.1 d.2.2.2.1
def eM0:Sk:=(.nd (.fin none none (some iA) [] .leaf) (.nd (.fin none none (some iA) [] .leaf) (.nd (.nd (.fin none none (some iA) [] .leaf) (.fin none none (some iA) [] .leaf)) (.nd (.fin none none (some iA) [] .leaf) (.nd (.nd (.fin none none (some iA) [] .leaf) (.fin none (some aG8) (some iA) [] .leaf)) (.nd (.nd (.fin none none (some iA) [] .leaf) (.nd (.fin none none (some iA) [] .leaf) (.fin none none (some iA) [] .leaf))) (.nd (.fin none none (some iA) [] .leaf) (.fin none none (some iA) [] .leaf))))))))
theorem dP0 (s:FState) (cx:Cx β):FX (aJ0 n q67 q82 aC aB aA) n aB6 eM0 s cx=PY n q67 q82 aC aB aA s cx:=by kernel_rfl
theorem bR5 (h67:Fit Tryd.prog 67 (aM gV dZ q67)) (h82:Fit Tryd.prog 82 (aM gX eX q82)) (h103:Fit Tryd.prog 103 (aM eH dC aC)) (h104:Fit Tryd.prog 104 (aM eL dE aB)) (h121:Fit Tryd.prog 121 (aM eD dQ aA)):Fit Tryd.prog 82 (aM gX eX (cM3 n q67 q82 aC aB aA)):=
  cD (Γ:=Γ0) (l:=eO9 n q67 q82 aC aB aA) (n:=n) (sk:=eM0) (ts:=[(8,none)]) (fn:=Tryd.f82) (c:=aB6) (by kernel_rfl) (by kernel_rfl) (by unfold aO;kernel_rfl) cB ⟨dC7 n,bT2 n,h67,h82,h103,h104,h121,trivial⟩ aH (by kernel_rfl) (by kernel_rfl) (Nat.le_of_ble_eq_true (by kernel_rfl)) (Nat.le_of_ble_eq_true (by kernel_rfl)) (by kernel_rfl) (by kernel_rfl)
    (fun d=>(dP0 n q67 q82 aC aB aA _ _).trans (Eq.trans (b:=PY n q67 q82 aC aB aA (j5 d.1 d.2.1 d.2.2.1 d.2.2.2.1) (cG (aJ0 n q67 q82 aC aB aA) eX [(8,none)])) (by kernel_rfl) ((bY6 n q67 q82 aC aB aA _ d.1 d.2.1 d.2.2.1 d.2.2.2.1).trans (by kernel_rfl))))
def OP (C:Z11) (B L:List Int):FState:=⟨aG [(0,.ptr 0 0 0),(1,.sl 1 none false),(2,.sl 2 none false)],aD [(0,.row Z1 74 false [C]),(1,.row (.int .i32) 21 false B),(2,.row (.int .i32) 21 false L)]⟩
def aL3 (z:List Z28):FState:=⟨aG [(6,.sl 6 none false)],aD [(6,.row Z25 81 true z)]⟩
def JN:List NE:=[.row 6 Z25 81 true]
def cU (C:Z11) (X:List Z28) (E H G:Int) (N Z:BA):FState:=⟨aG [(0,.ptr 0 0 0),(8,.sl 8 none false),(9,.dat (.int .i64) E),(10,.dat (.int .i64) H),(11,.dat (.int .i64) G),(12,.dat .str N),(13,.dat .str Z)],aD [(0,.row Z1 74 false [C]),(8,.row Z25 81 true X)]⟩
def fS:List NE:=[.ptr 0 Z1 74 false,.row 8 Z25 81 true,.keep 9,.keep 10,.keep 11,.keep 12,.keep 13]
def sV (X:List Z28):FState:=⟨aG [(8,.sl 8 none false)],aD [(8,.row Z25 81 true X)]⟩
def HP:List NE:=[.row 8 Z25 81 true]
def ED (C:Z11) (X:List Z28) (E H G:Int) (N Z:BA) (al:Int):FState:=⟨aG [(0,.ptr 0 0 0),(8,.sl 8 none false),(9,.dat (.int .i64) E),(10,.dat (.int .i64) H),(11,.dat (.int .i64) G),(12,.dat .str N),(13,.dat .str Z),(49,.dat (.int .i8) al)],aD [(0,.row Z1 74 false [C]),(8,.row Z25 81 true X)]⟩
def XQ:List NE:=[.ptr 0 Z1 74 false,.row 8 Z25 81 true,.keep 9,.keep 10,.keep 11,.keep 12,.keep 13,.keep 49]
def yT (C:Z11) (X:List Z28) (E H G:Int) (N Z:BA) (al:Int) (bi:Bool):FState:=⟨aG [(0,.ptr 0 0 0),(8,.sl 8 none false),(9,.dat (.int .i64) E),(10,.dat (.int .i64) H),(11,.dat (.int .i64) G),(12,.dat .str N),(13,.dat .str Z),(49,.dat (.int .i8) al),(50,.dat .bool bi)],aD [(0,.row Z1 74 false [C]),(8,.row Z25 81 true X)]⟩
def A4:List NE:=[.ptr 0 Z1 74 false,.row 8 Z25 81 true,.keep 9,.keep 10,.keep 11,.keep 12,.keep 13,.keep 49,.keep 50]
def xH (C:Z11) (X:List Z28) (E H G:Int) (N Z:BA) (al:Int) (ar:Bool):FState:=⟨aG [(0,.ptr 0 0 0),(8,.sl 8 none false),(9,.dat (.int .i64) E),(10,.dat (.int .i64) H),(11,.dat (.int .i64) G),(12,.dat .str N),(13,.dat .str Z),(49,.dat (.int .i8) al),(61,.dat .bool ar)],aD [(0,.row Z1 74 false [C]),(8,.row Z25 81 true X)]⟩
def ZT:List NE:=[.ptr 0 Z1 74 false,.row 8 Z25 81 true,.keep 9,.keep 10,.keep 11,.keep 12,.keep 13,.keep 49,.keep 61]
def xU (C:Z11) (X:List Z28) (E H G:Int) (N Z:BA) (bj:Bool):FState:=⟨aG [(0,.ptr 0 0 0),(8,.sl 8 none false),(9,.dat (.int .i64) E),(10,.dat (.int .i64) H),(11,.dat (.int .i64) G),(12,.dat .str N),(13,.dat .str Z),(72,.dat .bool bj)],aD [(0,.row Z1 74 false [C]),(8,.row Z25 81 true X)]⟩
def WI:List NE:=[.ptr 0 Z1 74 false,.row 8 Z25 81 true,.keep 9,.keep 10,.keep 11,.keep 12,.keep 13,.keep 72]
def rT (C:Z11) (X:List Z28) (E H G:Int) (N Z:BA) (bk:Bool):FState:=⟨aG [(0,.ptr 0 0 0),(8,.sl 8 none false),(9,.dat (.int .i64) E),(10,.dat (.int .i64) H),(11,.dat (.int .i64) G),(12,.dat .str N),(13,.dat .str Z),(79,.dat .bool bk)],aD [(0,.row Z1 74 false [C]),(8,.row Z25 81 true X)]⟩
def LV:List NE:=[.ptr 0 Z1 74 false,.row 8 Z25 81 true,.keep 9,.keep 10,.keep 11,.keep 12,.keep 13,.keep 79]
def rH (C:Z11) (X:List Z28) (E:Int):FState:=⟨aG [(0,.ptr 0 0 0),(8,.sl 8 none false),(9,.dat (.int .i64) E)],aD [(0,.row Z1 74 false [C]),(8,.row Z25 81 true X)]⟩
def sE:List NE:=[.ptr 0 Z1 74 false,.row 8 Z25 81 true,.keep 9]
def oK (C:Z11) (X:List Z28) (E:Int) (av:List Z28) (U:Int):FState:=⟨aG [(0,.ptr 0 0 0),(8,.sl 8 none false),(9,.dat (.int .i64) E),(14,.sl 14 none false),(15,.dat (.int .i64) U)],aD [(0,.row Z1 74 false [C]),(8,.row Z25 81 true X),(14,.row Z25 81 true av)]⟩
def sB:List NE:=[.ptr 0 Z1 74 false,.row 8 Z25 81 true,.keep 9,.row 14 Z25 81 true,.keep 15]
def qZ (C:Z11) (X:List Z28) (E:Int) (av:List Z28):FState:=⟨aG [(0,.ptr 0 0 0),(8,.sl 8 none false),(9,.dat (.int .i64) E),(14,.sl 14 none false)],aD [(0,.row Z1 74 false [C]),(8,.row Z25 81 true X),(14,.row Z25 81 true av)]⟩
def oJ:List NE:=[.ptr 0 Z1 74 false,.row 8 Z25 81 true,.keep 9,.row 14 Z25 81 true]
def cV8:List (Nat×Spec):=[(43,eI9 n),(58,eP4 n),(61,eP6 n),(71,XA n),(67,aM gV dZ q67),(82,aM gX eX q82),(103,aM eH dC aC),(104,aM eL dE aB),(121,aM eD dQ aA)]
def gN:Ctx:={Γ0 with calls:=lkS (cV8 n q67 q82 aC aB aA)}
def eY:Code:=fb Tryd.f103
def X5 (n:Nat) (q67:Q67) (q82:Q82) (aC:aI) (aB:aK) (aA:aJ) (kn:Z11→List Z28→Int→Int→Int→BA→BA→Option β) (C:Z11) (B L:List Int):Option β:=(g43 n C (runesBytes B) (runesBytes L)).bind fun V=>(q67 (C,(V.1,(V.2.1,(false,()))))).bind fun r2=>(g61 n C r2.1 V.2.2.1).bind fun r3=>(g58 n C r3.1).bind fun r4=>cJ (r4.1.length+[Z18].length)<|kn C (r4.1++[Z18]) (0:Int) (0:Int) (0:Int) (⟨#[]⟩:BA) (⟨#[]⟩:BA)
def aF7:FS1 β:=FXs (gN n q67 q82 aC aB aA) n eY (some fS) none [] [2,6,14,30,62,126,254,510,1022,2046,4094]
theorem aX7 (C:Z11) (B L:List Int):aF7 n q67 q82 aC aB aA (OP C B L) cx=X5 n q67 q82 aC aB aA (fun C X E H G N Z=>cx.nrm (cU C X E H G N Z)) C B L:=by kernel_rfl
def FW (n:Nat) (q67:Q67) (q82:Q82) (aC:aI) (aB:aK) (aA:aJ) (kn:Z11→List Z28→Int→Int→Int→BA→BA→Option β) (ae:List Z28→Option β) (C:Z11) (X:List Z28) (E H G:Int) (N Z:BA):Option β:=bif (decide (E < (X.length:Int))) then (kn C X E H G N Z) else (ae X)
def aH0:FS1 β:=FXs (gN n q67 q82 aC aB aA) n eY (some fS) none [(0,HP)] [131040,131041]
theorem aW9 (C:Z11) (X:List Z28) (E H G:Int) (N Z:BA):aH0 n q67 q82 aC aB aA (cU C X E H G N Z) cx=FW n q67 q82 aC aB aA (fun C X E H G N Z=>cx.nrm (cU C X E H G N Z)) (fun X=>cx.ex 0 (sV X)) C X E H G N Z:=by kernel_rfl
def TQ (n:Nat) (q67:Q67) (q82:Q82) (aC:aI) (aB:aK) (aA:aJ) (kn:Z11→List Z28→Int→Int→Int→BA→BA→Int→Option β) (C:Z11) (X:List Z28) (E H G:Int) (N Z:BA):Option β:=idx E (X.length:Int)<|kn C X E H G N Z ((rd X E Z18).1)
def aD1:FS1 β:=FXs (gN n q67 q82 aC aB aA) n eY (some XQ) none [] [524168]
theorem aZ0 (C:Z11) (X:List Z28) (E H G:Int) (N Z:BA):aD1 n q67 q82 aC aB aA (cU C X E H G N Z) cx=TQ n q67 q82 aC aB aA (fun C X E H G N Z al=>cx.nrm (ED C X E H G N Z al)) C X E H G N Z:=by kernel_rfl
def PG (n:Nat) (q67:Q67) (q82:Q82) (aC:aI) (aB:aK) (aA:aJ) (kn:Z11→List Z28→Int→Int→Int→BA→BA→Int→Bool→Option β) (C:Z11) (X:List Z28) (E H G:Int) (N Z:BA) (al:Int):Option β:=kn C X E H G N Z al (al==(1:Int))
def aK7:FS1 β:=FXs (gN n q67 q82 aC aB aA) n eY (some A4) none [] [2096676]
theorem aS9 (C:Z11) (X:List Z28) (E H G:Int) (N Z:BA) (al:Int):aK7 n q67 q82 aC aB aA (ED C X E H G N Z al) cx=PG n q67 q82 aC aB aA (fun C X E H G N Z al bi=>cx.nrm (yT C X E H G N Z al bi)) C X E H G N Z al:=by kernel_rfl
def RI (n:Nat) (q67:Q67) (q82:Q82) (aC:aI) (aB:aK) (aA:aJ) (kn:Z11→List Z28→Int→Int→Int→BA→BA→Option β) (C:Z11) (X:List Z28) (E H G:Int) (N Z:BA) (al:Int) (bi:Bool):Option β:=idx E (X.length:Int)<|cJ (Z.size+((rd X E Z18).2).size)<|kn C X E H (w64 (G+1)) N (Z++(rd X E Z18).2)
def s9:FS1 β:=FXs (gN n q67 q82 aC aB aA) n eY (some fS) none [] [8386708,8386709]
theorem bC1 (C:Z11) (X:List Z28) (E H G:Int) (N Z:BA) (al:Int) (bi:Bool):s9 n q67 q82 aC aB aA (yT C X E H G N Z al bi) cx=RI n q67 q82 aC aB aA (fun C X E H G N Z=>cx.nrm (cU C X E H G N Z)) C X E H G N Z al bi:=by kernel_rfl
def RW (n:Nat) (q67:Q67) (q82:Q82) (aC:aI) (aB:aK) (aA:aJ) (kn:Z11→List Z28→Int→Int→Int→BA→BA→Int→Bool→Option β) (C:Z11) (X:List Z28) (E H G:Int) (N Z:BA) (al:Int) (bi:Bool):Option β:=kn C X E H G N Z al (al==(-1:Int))
def aJ4:FS1 β:=FXs (gN n q67 q82 aC aB aA) n eY (some ZT) none [] [8386710]
theorem aR2 (C:Z11) (X:List Z28) (E H G:Int) (N Z:BA) (al:Int) (bi:Bool):aJ4 n q67 q82 aC aB aA (yT C X E H G N Z al bi) cx=RW n q67 q82 aC aB aA (fun C X E H G N Z al ar=>cx.nrm (xH C X E H G N Z al ar)) C X E H G N Z al bi:=by kernel_rfl
def RH (n:Nat) (q67:Q67) (q82:Q82) (aC:aI) (aB:aK) (aA:aJ) (kn:Z11→List Z28→Int→Int→Int→BA→BA→Option β) (C:Z11) (X:List Z28) (E H G:Int) (N Z:BA) (al:Int) (ar:Bool):Option β:=idx E (X.length:Int)<|cJ (N.size+((rd X E Z18).2).size)<|kn C X E (w64 (H+1)) G (N++(rd X E Z18).2) Z
def aP8:FS1 β:=FXs (gN n q67 q82 aC aB aA) n eY (some fS) none [] [33546844,33546845]
theorem bD1 (C:Z11) (X:List Z28) (E H G:Int) (N Z:BA) (al:Int) (ar:Bool):aP8 n q67 q82 aC aB aA (xH C X E H G N Z al ar) cx=RH n q67 q82 aC aB aA (fun C X E H G N Z=>cx.nrm (cU C X E H G N Z)) C X E H G N Z al ar:=by kernel_rfl
def l9 (n:Nat) (q67:Q67) (q82:Q82) (aC:aI) (aB:aK) (aA:aJ) (kn:Z11→List Z28→Int→Int→Int→BA→BA→Bool→Option β) (C:Z11) (X:List Z28) (E H G:Int) (N Z:BA) (al:Int) (ar:Bool):Option β:=kn C X E H G N Z (al==(0:Int))
def aJ2:FS1 β:=FXs (gN n q67 q82 aC aB aA) n eY (some WI) none [] [33546846]
theorem bF5 (C:Z11) (X:List Z28) (E H G:Int) (N Z:BA) (al:Int) (ar:Bool):aJ2 n q67 q82 aC aB aA (xH C X E H G N Z al ar) cx=l9 n q67 q82 aC aB aA (fun C X E H G N Z bj=>cx.nrm (xU C X E H G N Z bj)) C X E H G N Z al ar:=by kernel_rfl
def U0 (n:Nat) (q67:Q67) (q82:Q82) (aC:aI) (aB:aK) (aA:aJ) (kn:Z11→List Z28→Int→Int→Int→BA→BA→Bool→Option β) (C:Z11) (X:List Z28) (E H G:Int) (N Z:BA) (bj:Bool):Option β:=bif (decide (H≥(1:Int))) then (kn C X E H G N Z (decide (G≥(1:Int)))) else (kn C X E H G N Z false)
def aI9:FS1 β:=FXs (gN n q67 q82 aC aB aA) n eY (some LV) none [] [268374776]
theorem aZ8 (C:Z11) (X:List Z28) (E H G:Int) (N Z:BA) (bj:Bool):aI9 n q67 q82 aC aB aA (xU C X E H G N Z bj) cx=U0 n q67 q82 aC aB aA (fun C X E H G N Z bk=>cx.nrm (rT C X E H G N Z bk)) C X E H G N Z bj:=by kernel_rfl
def PW (n:Nat) (q67:Q67) (q82:Q82) (aC:aI) (aB:aK) (aA:aJ) (kn:Z11→List Z28→Int→List Z28→Int→Option β) (C:Z11) (X:List Z28) (E H G:Int) (N Z:BA) (bk:Bool):Option β:=(g71 n X (w64 ((w64 (E - H)) - G)) (w64 (H+G)) []).bind fun V=>kD N<|kD Z<|(q67 (C,((bP N),((bP Z),(false,()))))).bind fun r2=>kn C V.1 (w64 ((w64 (E - H)) - G)) r2.1 (w64 ((r2.1.length:Int) - 1))
def ZS:FS1 β:=FXs (gN n q67 q82 aC aB aA) n eY (some sB) none [] [1073499108,2146998218,4293996438,17175985756]
theorem T5 (C:Z11) (X:List Z28) (E H G:Int) (N Z:BA) (bk:Bool):ZS n q67 q82 aC aB aA (rT C X E H G N Z bk) cx=PW n q67 q82 aC aB aA (fun C X E av U=>cx.nrm (oK C X E av U)) C X E H G N Z bk:=by kernel_rfl
def CY (n:Nat) (q67:Q67) (q82:Q82) (aC:aI) (aB:aK) (aA:aJ) (kn:Z11→List Z28→Int→List Z28→Int→Option β) (bl:Z11→List Z28→Int→List Z28→Option β) (C:Z11) (X:List Z28) (E:Int) (av:List Z28) (U:Int):Option β:=bif (decide (U≥(0:Int))) then (idx U (av.length:Int)<|(g71 n X E (0:Int) [(rd av U Z18)]).bind fun V=>kn C V.1 E av (w64 (U - 1))) else (bl C X E av)
def FY:FS1 β:=FXs (gN n q67 q82 aC aB aA) n eY (some sB) none [(3,oJ)] [274815772112,274815772113,274815772114,274815772115]
theorem F4 (C:Z11) (X:List Z28) (E:Int) (av:List Z28) (U:Int):FY n q67 q82 aC aB aA (oK C X E av U) cx=CY n q67 q82 aC aB aA (fun C X E av U=>cx.nrm (oK C X E av U)) (fun C X E av=>cx.ex 3 (qZ C X E av)) C X E av U:=by kernel_rfl
def g103_12L (n:Nat) (q67:Q67) (q82:Q82) (aC:aI) (aB:aK) (aA:aJ) (bl:Z11→List Z28→Int→List Z28→Option β):Nat→Z11→List Z28→Int→List Z28→Int→Option β
  | 0,_,_,_,_,_=>none
  | m+1,C,X,E,av,U=>CY n q67 q82 aC aB aA (g103_12L n q67 q82 aC aB aA bl m) bl C X E av U
def SR (bl:Z11→List Z28→Int→List Z28→Option β) (C:Z11) (X:List Z28) (E:Int) (av:List Z28) (U:Int):Option β:=g103_12L n q67 q82 aC aB aA bl n C X E av U
def C7 (s:FState) (cx:Cx β):Option β:=bK (fun again s=>FY n q67 q82 aC aB aA s {cx with nrm:=again}) n s
theorem XX (n:Nat) (q67:Q67) (q82:Q82) (aC:aI) (aB:aK) (aA:aJ) (cx:Cx β):∀(m:Nat) (C:Z11) (X:List Z28) (E:Int) (av:List Z28) (U:Int),bK (fun again s=>FY n q67 q82 aC aB aA s {cx with nrm:=again}) m (oK C X E av U)=g103_12L n q67 q82 aC aB aA (fun C X E av=>cx.ex 3 (qZ C X E av)) m C X E av U:=by
  intro m
  induction m with
  | zero=>intros;rfl
  | succ m ih=>intros;simp only [bK,g103_12L,F4,ih]
theorem K7 (C:Z11) (X:List Z28) (E:Int) (av:List Z28) (U:Int):C7 n q67 q82 aC aB aA (oK C X E av U) cx=SR n q67 q82 aC aB aA (fun C X E av=>cx.ex 3 (qZ C X E av)) C X E av U:=XX n q67 q82 aC aB aA cx n C X E av U
def UM (kn:Z11→List Z28→Int→List Z28→Option β) (C:Z11) (X:List Z28) (E:Int) (av:List Z28) (U:Int):Option β:=SR n q67 q82 aC aB aA kn C X E av U
def YP (s:FState) (cx:Cx β):Option β:=C7 n q67 q82 aC aB aA s {cx with ex:=fun j s=>bif Nat.beq j 3 then cx.nrm s else cx.ex j s}
theorem O6 (C:Z11) (X:List Z28) (E:Int) (av:List Z28) (U:Int):YP n q67 q82 aC aB aA (oK C X E av U) cx=UM n q67 q82 aC aB aA (fun C X E av=>cx.nrm (qZ C X E av)) C X E av U:=K7 n q67 q82 aC aB aA _ C X E av U
def DD (n:Nat) (q67:Q67) (q82:Q82) (aC:aI) (aB:aK) (aA:aJ) (kn:Z11→List Z28→Int→Option β) (C:Z11) (X:List Z28) (E:Int) (av:List Z28):Option β:=kn C X (w64 (E+(av.length:Int)))
def XS:FS1 β:=FXs (gN n q67 q82 aC aB aA) n eY (some sE) none [] [8587992879]
theorem O8 (C:Z11) (X:List Z28) (E:Int) (av:List Z28):XS n q67 q82 aC aB aA (qZ C X E av) cx=DD n q67 q82 aC aB aA (fun C X E=>cx.nrm (rH C X E)) C X E av:=by kernel_rfl
def DM (kn:Z11→List Z28→Int→Option β) (C:Z11) (X:List Z28) (E H G:Int) (N Z:BA) (bk:Bool):Option β:=PW n q67 q82 aC aB aA (fun C X E av U=>UM n q67 q82 aC aB aA (fun C X E av=>DD n q67 q82 aC aB aA kn C X E av) C X E av U) C X E H G N Z bk
def GR (s:FState) (cx:Cx β):Option β:=ZS n q67 q82 aC aB aA s {cx with nrm:=fun s=>YP n q67 q82 aC aB aA s {cx with nrm:=fun s=>XS n q67 q82 aC aB aA s cx}}
theorem K9 (C:Z11) (X:List Z28) (E H G:Int) (N Z:BA) (bk:Bool):GR n q67 q82 aC aB aA (rT C X E H G N Z bk) cx=DM n q67 q82 aC aB aA (fun C X E=>cx.nrm (rH C X E)) C X E H G N Z bk:=by simp only [GR,DM,T5,O6,O8]
def aL1 (n:Nat) (q67:Q67) (q82:Q82) (aC:aI) (aB:aK) (aA:aJ) (kn:Z11→List Z28→Int→Option β) (C:Z11) (X:List Z28) (E H G:Int) (N Z:BA) (bk:Bool):Option β:=kn C X E
def VX:FS1 β:=FXs (gN n q67 q82 aC aB aA) n eY (some sE) none [] [536749555]
theorem n8 (C:Z11) (X:List Z28) (E H G:Int) (N Z:BA) (bk:Bool):VX n q67 q82 aC aB aA (rT C X E H G N Z bk) cx=aL1 n q67 q82 aC aB aA (fun C X E=>cx.nrm (rH C X E)) C X E H G N Z bk:=by kernel_rfl
def tG (kn:Z11→List Z28→Int→Option β) (C:Z11) (X:List Z28) (E H G:Int) (N Z:BA) (bk:Bool):Option β:=bif bk then DM n q67 q82 aC aB aA kn C X E H G N Z bk else aL1 n q67 q82 aC aB aA kn C X E H G N Z bk
def HA (s:FState) (cx:Cx β):Option β:=asBool (ev s (kO (nav eY [1,1,1,1,1,1,1,1,1,1,1,0,0,0,1,0,0,1,0,1,1,1,1,1,0,0,1]))) fun t=>cond t (GR n q67 q82 aC aB aA s cx) (VX n q67 q82 aC aB aA s cx)
theorem j0 (C:Z11) (X:List Z28) (E H G:Int) (N Z:BA) (bk:Bool):HA n q67 q82 aC aB aA (rT C X E H G N Z bk) cx=tG n q67 q82 aC aB aA (fun C X E=>cx.nrm (rH C X E)) C X E H G N Z bk:=by
  simp only [HA,tG,K9,n8]
  kernel_rfl
def tC (n:Nat) (q67:Q67) (q82:Q82) (aC:aI) (aB:aK) (aA:aJ) (kn:Z11→List Z28→Int→Int→Int→BA→BA→Option β) (C:Z11) (X:List Z28) (E:Int):Option β:=kn C X E (0:Int) (0:Int) (⟨#[]⟩:BA) (⟨#[]⟩:BA)
def YX:FS1 β:=FXs (gN n q67 q82 aC aB aA) n eY (some fS) none [] [268374778,536749558,1073499118,1073499119]
theorem F9 (C:Z11) (X:List Z28) (E:Int):YX n q67 q82 aC aB aA (rH C X E) cx=tC n q67 q82 aC aB aA (fun C X E H G N Z=>cx.nrm (cU C X E H G N Z)) C X E:=by kernel_rfl
def yA (kn:Z11→List Z28→Int→Int→Int→BA→BA→Option β) (C:Z11) (X:List Z28) (E H G:Int) (N Z:BA) (bj:Bool):Option β:=U0 n q67 q82 aC aB aA (fun C X E H G N Z bk=>tG n q67 q82 aC aB aA (fun C X E=>tC n q67 q82 aC aB aA kn C X E) C X E H G N Z bk) C X E H G N Z bj
def JB (s:FState) (cx:Cx β):Option β:=aI9 n q67 q82 aC aB aA s {cx with nrm:=fun s=>HA n q67 q82 aC aB aA s {cx with nrm:=fun s=>YX n q67 q82 aC aB aA s cx}}
theorem T4 (C:Z11) (X:List Z28) (E H G:Int) (N Z:BA) (bj:Bool):JB n q67 q82 aC aB aA (xU C X E H G N Z bj) cx=yA n q67 q82 aC aB aA (fun C X E H G N Z=>cx.nrm (cU C X E H G N Z)) C X E H G N Z bj:=by simp only [JB,yA,aZ8,j0,F9]
def aL5 (n:Nat) (q67:Q67) (q82:Q82) (aC:aI) (aB:aK) (aA:aJ) (kn:Z11→List Z28→Int→Int→Int→BA→BA→Option β) (C:Z11) (X:List Z28) (E H G:Int) (N Z:BA) (bj:Bool):Option β:=kn C X E H G N Z
def YI:FS1 β:=FXs (gN n q67 q82 aC aB aA) n eY (some fS) none [] [67093695]
theorem j4 (C:Z11) (X:List Z28) (E H G:Int) (N Z:BA) (bj:Bool):YI n q67 q82 aC aB aA (xU C X E H G N Z bj) cx=aL5 n q67 q82 aC aB aA (fun C X E H G N Z=>cx.nrm (cU C X E H G N Z)) C X E H G N Z bj:=by kernel_rfl
def FN (kn:Z11→List Z28→Int→Int→Int→BA→BA→Option β) (C:Z11) (X:List Z28) (E H G:Int) (N Z:BA) (bj:Bool):Option β:=bif bj then yA n q67 q82 aC aB aA kn C X E H G N Z bj else aL5 n q67 q82 aC aB aA kn C X E H G N Z bj
def JJ (s:FState) (cx:Cx β):Option β:=asBool (ev s (kO (nav eY [1,1,1,1,1,1,1,1,1,1,1,0,0,0,1,0,0,1,0,1,1,1,1,1]))) fun t=>cond t (JB n q67 q82 aC aB aA s cx) (YI n q67 q82 aC aB aA s cx)
theorem k9 (C:Z11) (X:List Z28) (E H G:Int) (N Z:BA) (bj:Bool):JJ n q67 q82 aC aB aA (xU C X E H G N Z bj) cx=FN n q67 q82 aC aB aA (fun C X E H G N Z=>cx.nrm (cU C X E H G N Z)) C X E H G N Z bj:=by
  simp only [JJ,FN,T4,j4]
  kernel_rfl
def FI (kn:Z11→List Z28→Int→Int→Int→BA→BA→Option β) (C:Z11) (X:List Z28) (E H G:Int) (N Z:BA) (al:Int) (ar:Bool):Option β:=l9 n q67 q82 aC aB aA (fun C X E H G N Z bj=>FN n q67 q82 aC aB aA kn C X E H G N Z bj) C X E H G N Z al ar
def JL (s:FState) (cx:Cx β):Option β:=aJ2 n q67 q82 aC aB aA s {cx with nrm:=fun s=>JJ n q67 q82 aC aB aA s cx}
theorem I2 (C:Z11) (X:List Z28) (E H G:Int) (N Z:BA) (al:Int) (ar:Bool):JL n q67 q82 aC aB aA (xH C X E H G N Z al ar) cx=FI n q67 q82 aC aB aA (fun C X E H G N Z=>cx.nrm (cU C X E H G N Z)) C X E H G N Z al ar:=by simp only [JL,FI,bF5,k9]
def vX (kn:Z11→List Z28→Int→Int→Int→BA→BA→Option β) (C:Z11) (X:List Z28) (E H G:Int) (N Z:BA) (al:Int) (ar:Bool):Option β:=bif ar then RH n q67 q82 aC aB aA kn C X E H G N Z al ar else FI n q67 q82 aC aB aA kn C X E H G N Z al ar
def KA (s:FState) (cx:Cx β):Option β:=asBool (ev s (kO (nav eY [1,1,1,1,1,1,1,1,1,1,1,0,0,0,1,0,0,1,0,1,1,1]))) fun t=>cond t (aP8 n q67 q82 aC aB aA s cx) (JL n q67 q82 aC aB aA s cx)
theorem M0 (C:Z11) (X:List Z28) (E H G:Int) (N Z:BA) (al:Int) (ar:Bool):KA n q67 q82 aC aB aA (xH C X E H G N Z al ar) cx=vX n q67 q82 aC aB aA (fun C X E H G N Z=>cx.nrm (cU C X E H G N Z)) C X E H G N Z al ar:=by
  simp only [KA,vX,bD1,I2]
  kernel_rfl
def sJ (kn:Z11→List Z28→Int→Int→Int→BA→BA→Option β) (C:Z11) (X:List Z28) (E H G:Int) (N Z:BA) (al:Int) (bi:Bool):Option β:=RW n q67 q82 aC aB aA (fun C X E H G N Z al ar=>vX n q67 q82 aC aB aA kn C X E H G N Z al ar) C X E H G N Z al bi
def HD (s:FState) (cx:Cx β):Option β:=aJ4 n q67 q82 aC aB aA s {cx with nrm:=fun s=>KA n q67 q82 aC aB aA s cx}
theorem F7 (C:Z11) (X:List Z28) (E H G:Int) (N Z:BA) (al:Int) (bi:Bool):HD n q67 q82 aC aB aA (yT C X E H G N Z al bi) cx=sJ n q67 q82 aC aB aA (fun C X E H G N Z=>cx.nrm (cU C X E H G N Z)) C X E H G N Z al bi:=by simp only [HD,sJ,aR2,M0]
def vO (kn:Z11→List Z28→Int→Int→Int→BA→BA→Option β) (C:Z11) (X:List Z28) (E H G:Int) (N Z:BA) (al:Int) (bi:Bool):Option β:=bif bi then RI n q67 q82 aC aB aA kn C X E H G N Z al bi else sJ n q67 q82 aC aB aA kn C X E H G N Z al bi
def KF (s:FState) (cx:Cx β):Option β:=asBool (ev s (kO (nav eY [1,1,1,1,1,1,1,1,1,1,1,0,0,0,1,0,0,1,0,1]))) fun t=>cond t (s9 n q67 q82 aC aB aA s cx) (HD n q67 q82 aC aB aA s cx)
theorem T0 (C:Z11) (X:List Z28) (E H G:Int) (N Z:BA) (al:Int) (bi:Bool):KF n q67 q82 aC aB aA (yT C X E H G N Z al bi) cx=vO n q67 q82 aC aB aA (fun C X E H G N Z=>cx.nrm (cU C X E H G N Z)) C X E H G N Z al bi:=by
  simp only [KF,vO,bC1,F7]
  kernel_rfl
def yX (kn:Z11→List Z28→Int→Int→Int→BA→BA→Option β) (C:Z11) (X:List Z28) (E H G:Int) (N Z:BA) (al:Int):Option β:=PG n q67 q82 aC aB aA (fun C X E H G N Z al bi=>vO n q67 q82 aC aB aA kn C X E H G N Z al bi) C X E H G N Z al
def HH (s:FState) (cx:Cx β):Option β:=aK7 n q67 q82 aC aB aA s {cx with nrm:=fun s=>KF n q67 q82 aC aB aA s cx}
theorem S9 (C:Z11) (X:List Z28) (E H G:Int) (N Z:BA) (al:Int):HH n q67 q82 aC aB aA (ED C X E H G N Z al) cx=yX n q67 q82 aC aB aA (fun C X E H G N Z=>cx.nrm (cU C X E H G N Z)) C X E H G N Z al:=by simp only [HH,yX,aS9,T0]
def DH (kn:Z11→List Z28→Int→Int→Int→BA→BA→Option β) (C:Z11) (X:List Z28) (E H G:Int) (N Z:BA) (al:Int):Option β:=yX n q67 q82 aC aB aA kn C X E H G N Z al
def WA (s:FState) (cx:Cx β):Option β:=HH n q67 q82 aC aB aA s {cx with ex:=fun j s=>bif Nat.beq j 2 then cx.nrm s else cx.ex j s}
theorem G7 (C:Z11) (X:List Z28) (E H G:Int) (N Z:BA) (al:Int):WA n q67 q82 aC aB aA (ED C X E H G N Z al) cx=DH n q67 q82 aC aB aA (fun C X E H G N Z=>cx.nrm (cU C X E H G N Z)) C X E H G N Z al:=S9 n q67 q82 aC aB aA _ C X E H G N Z al
def sP (n:Nat) (q67:Q67) (q82:Q82) (aC:aI) (aB:aK) (aA:aJ) (kn:Z11→List Z28→Int→Int→Int→BA→BA→Option β) (C:Z11) (X:List Z28) (E H G:Int) (N Z:BA):Option β:=kn C X (w64 (E+1)) H G N Z
def ZE:FS1 β:=FXs (gN n q67 q82 aC aB aA) n eY (some fS) none [] [262085]
theorem P6 (C:Z11) (X:List Z28) (E H G:Int) (N Z:BA):ZE n q67 q82 aC aB aA (cU C X E H G N Z) cx=sP n q67 q82 aC aB aA (fun C X E H G N Z=>cx.nrm (cU C X E H G N Z)) C X E H G N Z:=by kernel_rfl
def vY (kn:Z11→List Z28→Int→Int→Int→BA→BA→Option β) (C:Z11) (X:List Z28) (E H G:Int) (N Z:BA):Option β:=TQ n q67 q82 aC aB aA (fun C X E H G N Z al=>DH n q67 q82 aC aB aA (fun C X E H G N Z=>sP n q67 q82 aC aB aA kn C X E H G N Z) C X E H G N Z al) C X E H G N Z
def HS (s:FState) (cx:Cx β):Option β:=aD1 n q67 q82 aC aB aA s {cx with nrm:=fun s=>WA n q67 q82 aC aB aA s {cx with nrm:=fun s=>ZE n q67 q82 aC aB aA s cx}}
theorem n4 (C:Z11) (X:List Z28) (E H G:Int) (N Z:BA):HS n q67 q82 aC aB aA (cU C X E H G N Z) cx=vY n q67 q82 aC aB aA (fun C X E H G N Z=>cx.nrm (cU C X E H G N Z)) C X E H G N Z:=by simp only [HS,vY,aZ0,G7,P6]
def DJ (kn:Z11→List Z28→Int→Int→Int→BA→BA→Option β) (C:Z11) (X:List Z28) (E H G:Int) (N Z:BA):Option β:=vY n q67 q82 aC aB aA kn C X E H G N Z
def YN (s:FState) (cx:Cx β):Option β:=HS n q67 q82 aC aB aA s {cx with ex:=fun j s=>bif Nat.beq j 1 then cx.nrm s else cx.ex j s}
theorem M6 (C:Z11) (X:List Z28) (E H G:Int) (N Z:BA):YN n q67 q82 aC aB aA (cU C X E H G N Z) cx=DJ n q67 q82 aC aB aA (fun C X E H G N Z=>cx.nrm (cU C X E H G N Z)) C X E H G N Z:=n4 n q67 q82 aC aB aA _ C X E H G N Z
def sS (kn:Z11→List Z28→Int→Int→Int→BA→BA→Option β) (ae:List Z28→Option β) (C:Z11) (X:List Z28) (E H G:Int) (N Z:BA):Option β:=FW n q67 q82 aC aB aA (fun C X E H G N Z=>DJ n q67 q82 aC aB aA kn C X E H G N Z) ae C X E H G N Z
def yF (s:FState) (cx:Cx β):Option β:=aH0 n q67 q82 aC aB aA s {cx with nrm:=fun s=>YN n q67 q82 aC aB aA s cx}
theorem H3 (C:Z11) (X:List Z28) (E H G:Int) (N Z:BA):yF n q67 q82 aC aB aA (cU C X E H G N Z) cx=sS n q67 q82 aC aB aA (fun C X E H G N Z=>cx.nrm (cU C X E H G N Z)) (fun X=>cx.ex 0 (sV X)) C X E H G N Z:=by simp only [yF,sS,aW9,M6]
def g103_32L (n:Nat) (q67:Q67) (q82:Q82) (aC:aI) (aB:aK) (aA:aJ) (ae:List Z28→Option β):Nat→Z11→List Z28→Int→Int→Int→BA→BA→Option β
  | 0,_,_,_,_,_,_,_=>none
  | m+1,C,X,E,H,G,N,Z=>sS n q67 q82 aC aB aA (g103_32L n q67 q82 aC aB aA ae m) ae C X E H G N Z
def SC (ae:List Z28→Option β) (C:Z11) (X:List Z28) (E H G:Int) (N Z:BA):Option β:=g103_32L n q67 q82 aC aB aA ae n C X E H G N Z
def ZN (s:FState) (cx:Cx β):Option β:=bK (fun again s=>yF n q67 q82 aC aB aA s {cx with nrm:=again}) n s
theorem YF (n:Nat) (q67:Q67) (q82:Q82) (aC:aI) (aB:aK) (aA:aJ) (cx:Cx β):∀(m:Nat) (C:Z11) (X:List Z28) (E H G:Int) (N Z:BA),bK (fun again s=>yF n q67 q82 aC aB aA s {cx with nrm:=again}) m (cU C X E H G N Z)=g103_32L n q67 q82 aC aB aA (fun X=>cx.ex 0 (sV X)) m C X E H G N Z:=by
  intro m
  induction m with
  | zero=>intros;rfl
  | succ m ih=>intros;simp only [bK,g103_32L,H3,ih]
theorem n9 (C:Z11) (X:List Z28) (E H G:Int) (N Z:BA):ZN n q67 q82 aC aB aA (cU C X E H G N Z) cx=SC n q67 q82 aC aB aA (fun X=>cx.ex 0 (sV X)) C X E H G N Z:=YF n q67 q82 aC aB aA cx n C X E H G N Z
def TG (kn:List Z28→Option β) (C:Z11) (X:List Z28) (E H G:Int) (N Z:BA):Option β:=SC n q67 q82 aC aB aA kn C X E H G N Z
def US (s:FState) (cx:Cx β):Option β:=ZN n q67 q82 aC aB aA s {cx with ex:=fun j s=>bif Nat.beq j 0 then cx.nrm s else cx.ex j s}
theorem D9 (C:Z11) (X:List Z28) (E H G:Int) (N Z:BA):US n q67 q82 aC aB aA (cU C X E H G N Z) cx=TG n q67 q82 aC aB aA (fun X=>cx.nrm (sV X)) C X E H G N Z:=n9 n q67 q82 aC aB aA _ C X E H G N Z
def tD (n:Nat) (q67:Q67) (q82:Q82) (aC:aI) (aB:aK) (aA:aJ) (kr:List Z28→Option β) (X:List Z28):Option β:=bnd (0:Int) (w64 ((X.length:Int) - 1)) (X.length:Int)<|kr (cut X (0:Int) ((0:Int)+((w64 ((X.length:Int) - 1)) - (0:Int))))
def YM:FS1 β:=FXs (gN n q67 q82 aC aB aA) n eY none (some JN) [] [16382,16383]
theorem H4 (X:List Z28):YM n q67 q82 aC aB aA (sV X) cx=tD n q67 q82 aC aB aA (fun z=>cx.ret (aL3 z)) X:=by kernel_rfl
def EV (kr:List Z28→Option β) (C:Z11) (B L:List Int):Option β:=X5 n q67 q82 aC aB aA (fun C X E H G N Z=>TG n q67 q82 aC aB aA (fun X=>tD n q67 q82 aC aB aA kr X) C X E H G N Z) C B L
def yO (s:FState) (cx:Cx β):Option β:=aF7 n q67 q82 aC aB aA s {cx with nrm:=fun s=>US n q67 q82 aC aB aA s {cx with nrm:=fun s=>YM n q67 q82 aC aB aA s cx}}
theorem L3 (C:Z11) (B L:List Int):yO n q67 q82 aC aB aA (OP C B L) cx=EV n q67 q82 aC aB aA (fun z=>cx.ret (aL3 z)) C B L:=by simp only [yO,EV,aX7,D9,H4]
def N3 (C:Z11) (B L:List Int):Option (DenR [.rw Z25 81]):=EV n q67 q82 aC aB aA (fun z=>some (z,())) C B L
def aL4 (d:DenA eH):Option (DenR dC):=N3 n q67 q82 aC aB aA d.1 d.2.1 d.2.2.1
def bU7:Sk:=(.nd (.fin none none none [] .leaf) (.nd (.fin none none none [] .leaf) (.nd (.fin none none none [] .leaf) (.nd (.fin none none none [] .leaf) (.nd (.fin none none none [] .leaf) (.nd (.fin none none none [] .leaf) (.nd (.fin none none none [] .leaf) (.nd (.fin none none none [] .leaf) (.nd (.fin none none none [] .leaf) (.nd (.fin none none none [] .leaf) (.nd (.fin none (some fS) none [] .leaf) (.nd (.nd (.nd (.nd (.nd (.fin none none none [(0,HP)] .leaf) (.fin none (some fS) none [(0,HP)] .leaf)) (.nd (.nd (.nd (.fin none (some XQ) none [] .leaf) (.nd (.nd (.fin none (some A4) none [] .leaf) (.nd (.nd (.fin none none none [] .leaf) (.fin none (some fS) none [] .leaf)) (.nd (.fin none (some ZT) none [] .leaf) (.nd (.nd (.fin none none none [] .leaf) (.fin none (some fS) none [] .leaf)) (.nd (.fin none (some WI) none [] .leaf) (.nd (.nd (.nd (.fin none (some LV) none [] .leaf) (.nd (.nd (.fin none none none [] .leaf) (.nd (.fin none none none [] .leaf) (.nd (.fin none none none [] .leaf) (.nd (.nd (.fin none (some sB) none [] .leaf) (.nd (.nd (.nd (.nd (.fin none none none [(3,oJ)] .leaf) (.fin none none none [(3,oJ)] .leaf)) (.nd (.fin none none none [(3,oJ)] .leaf) (.fin none (some sB) none [(3,oJ)] .leaf))) .leaf) .leaf)) (.fin none (some sE) none [] .leaf))))) (.fin none (some sE) none [] .leaf))) (.nd (.fin none none none [] .leaf) (.nd (.fin none none none [] .leaf) (.nd (.fin none none none [] .leaf) (.fin none (some fS) none [] .leaf))))) (.fin none (some fS) none [] .leaf))))))) .leaf)) (.fin none (some fS) none [] .leaf)) .leaf)) .leaf) .leaf) (.nd (.fin none none (some JN) [] .leaf) (.fin none none (some JN) [] .leaf))))))))))))))
theorem bX3 (s:FState) (cx:Cx β):FX (gN n q67 q82 aC aB aA) n eY bU7 s cx=yO n q67 q82 aC aB aA s cx:=by kernel_rfl
theorem bA6 (h67:Fit Tryd.prog 67 (aM gV dZ q67)) (h82:Fit Tryd.prog 82 (aM gX eX q82)) (h103:Fit Tryd.prog 103 (aM eH dC aC)) (h104:Fit Tryd.prog 104 (aM eL dE aB)) (h121:Fit Tryd.prog 121 (aM eD dQ aA)):Fit Tryd.prog 103 (aM eH dC (aL4 n q67 q82 aC aB aA)):=
  cD (Γ:=Γ0) (l:=cV8 n q67 q82 aC aB aA) (n:=n) (sk:=bU7) (ts:=[(6,none)]) (fn:=Tryd.f103) (c:=eY) (by kernel_rfl) (by kernel_rfl) (by unfold aO;kernel_rfl) cB ⟨dW4 n,dS1 n,dP5 n,DS n,h67,h82,h103,h104,h121,trivial⟩ aH (by kernel_rfl) (by kernel_rfl) (Nat.le_of_ble_eq_true (by kernel_rfl)) (Nat.le_of_ble_eq_true (by kernel_rfl)) (by kernel_rfl) (by kernel_rfl)
    (fun d=>(bX3 n q67 q82 aC aB aA _ _).trans (Eq.trans (b:=yO n q67 q82 aC aB aA (OP d.1 d.2.1 d.2.2.1) (cG (gN n q67 q82 aC aB aA) dC [(6,none)])) (by kernel_rfl) ((L3 n q67 q82 aC aB aA _ d.1 d.2.1 d.2.2.1).trans (by kernel_rfl))))
def PL (C:Z11) (B L:List Int):FState:=⟨aG [(0,.ptr 0 0 0),(1,.sl 1 none false),(2,.sl 2 none false)],aD [(0,.row Z1 74 false [C]),(1,.row (.int .i32) 21 false B),(2,.row (.int .i32) 21 false L)]⟩
def dU (z:List Z28):FState:=⟨aG [(6,.sl 6 none false)],aD [(6,.row Z25 81 true z)]⟩
def iN:List NE:=[.row 6 Z25 81 true]
def sZ (C:Z11) (B L:List Int) (F I E H G:Int) (Q S:List Int) (bd ax:Int):FState:=⟨aG [(0,.ptr 0 0 0),(1,.sl 1 none false),(2,.sl 2 none false),(7,.dat (.int .i64) F),(8,.dat (.int .i64) I),(9,.dat (.int .i64) E),(10,.dat (.int .i64) H),(11,.dat (.int .i64) G),(12,.sl 12 none false),(13,.sl 13 none false),(52,.dat (.int .i64) bd),(53,.dat (.int .i64) ax)],aD [(0,.row Z1 74 false [C]),(1,.row (.int .i32) 21 false B),(2,.row (.int .i32) 21 false L),(12,.row (.int .i64) 3 true Q),(13,.row (.int .i64) 3 true S)]⟩
def yM:List NE:=[.ptr 0 Z1 74 false,.row 1 (.int .i32) 21 false,.row 2 (.int .i32) 21 false,.keep 7,.keep 8,.keep 9,.keep 10,.keep 11,.row 12 (.int .i64) 3 true,.row 13 (.int .i64) 3 true,.keep 52,.keep 53]
def yW (C:Z11) (B L:List Int) (F I E H G:Int) (Q S:List Int):FState:=⟨aG [(0,.ptr 0 0 0),(1,.sl 1 none false),(2,.sl 2 none false),(7,.dat (.int .i64) F),(8,.dat (.int .i64) I),(9,.dat (.int .i64) E),(10,.dat (.int .i64) H),(11,.dat (.int .i64) G),(12,.sl 12 none false),(13,.sl 13 none false)],aD [(0,.row Z1 74 false [C]),(1,.row (.int .i32) 21 false B),(2,.row (.int .i32) 21 false L),(12,.row (.int .i64) 3 true Q),(13,.row (.int .i64) 3 true S)]⟩
def rA:List NE:=[.ptr 0 Z1 74 false,.row 1 (.int .i32) 21 false,.row 2 (.int .i32) 21 false,.keep 7,.keep 8,.keep 9,.keep 10,.keep 11,.row 12 (.int .i64) 3 true,.row 13 (.int .i64) 3 true]
def cZ (C:Z11) (B L:List Int) (F I E H G:Int) (Q S:List Int) (U:Int) (h:Bool) (p P O q o:Int):FState:=⟨aG [(0,.ptr 0 0 0),(1,.sl 1 none false),(2,.sl 2 none false),(7,.dat (.int .i64) F),(8,.dat (.int .i64) I),(9,.dat (.int .i64) E),(10,.dat (.int .i64) H),(11,.dat (.int .i64) G),(12,.sl 12 none false),(13,.sl 13 none false),(15,.dat (.int .i64) U),(16,.dat .bool h),(17,.dat (.int .i64) p),(18,.dat (.int .i64) P),(19,.dat (.int .i64) O),(20,.dat (.int .i64) q),(21,.dat (.int .i64) o)],aD [(0,.row Z1 74 false [C]),(1,.row (.int .i32) 21 false B),(2,.row (.int .i32) 21 false L),(12,.row (.int .i64) 3 true Q),(13,.row (.int .i64) 3 true S)]⟩
def gU:List NE:=[.ptr 0 Z1 74 false,.row 1 (.int .i32) 21 false,.row 2 (.int .i32) 21 false,.keep 7,.keep 8,.keep 9,.keep 10,.keep 11,.row 12 (.int .i64) 3 true,.row 13 (.int .i64) 3 true,.keep 15,.keep 16,.keep 17,.keep 18,.keep 19,.keep 20,.keep 21]
def tB (B L:List Int):FState:=⟨aG [(1,.sl 1 none false),(2,.sl 2 none false)],aD [(1,.row (.int .i32) 21 false B),(2,.row (.int .i32) 21 false L)]⟩
def FZ:List NE:=[.row 1 (.int .i32) 21 false,.row 2 (.int .i32) 21 false]
def gC (C:Z11) (B L:List Int) (F I E H G:Int) (Q S:List Int) (U:Int) (h:Bool) (p P O q o ab:Int):FState:=⟨aG [(0,.ptr 0 0 0),(1,.sl 1 none false),(2,.sl 2 none false),(7,.dat (.int .i64) F),(8,.dat (.int .i64) I),(9,.dat (.int .i64) E),(10,.dat (.int .i64) H),(11,.dat (.int .i64) G),(12,.sl 12 none false),(13,.sl 13 none false),(15,.dat (.int .i64) U),(16,.dat .bool h),(17,.dat (.int .i64) p),(18,.dat (.int .i64) P),(19,.dat (.int .i64) O),(20,.dat (.int .i64) q),(21,.dat (.int .i64) o),(22,.dat (.int .i64) ab)],aD [(0,.row Z1 74 false [C]),(1,.row (.int .i32) 21 false B),(2,.row (.int .i32) 21 false L),(12,.row (.int .i64) 3 true Q),(13,.row (.int .i64) 3 true S)]⟩
def lH:List NE:=[.ptr 0 Z1 74 false,.row 1 (.int .i32) 21 false,.row 2 (.int .i32) 21 false,.keep 7,.keep 8,.keep 9,.keep 10,.keep 11,.row 12 (.int .i64) 3 true,.row 13 (.int .i64) 3 true,.keep 15,.keep 16,.keep 17,.keep 18,.keep 19,.keep 20,.keep 21,.keep 22]
def VD (C:Z11) (B L:List Int) (F I E H G:Int) (Q S:List Int) (U:Int) (h:Bool) (p P O q o ab an am:Int):FState:=⟨aG [(0,.ptr 0 0 0),(1,.sl 1 none false),(2,.sl 2 none false),(7,.dat (.int .i64) F),(8,.dat (.int .i64) I),(9,.dat (.int .i64) E),(10,.dat (.int .i64) H),(11,.dat (.int .i64) G),(12,.sl 12 none false),(13,.sl 13 none false),(15,.dat (.int .i64) U),(16,.dat .bool h),(17,.dat (.int .i64) p),(18,.dat (.int .i64) P),(19,.dat (.int .i64) O),(20,.dat (.int .i64) q),(21,.dat (.int .i64) o),(22,.dat (.int .i64) ab),(23,.dat (.int .i64) an),(24,.dat (.int .i64) am)],aD [(0,.row Z1 74 false [C]),(1,.row (.int .i32) 21 false B),(2,.row (.int .i32) 21 false L),(12,.row (.int .i64) 3 true Q),(13,.row (.int .i64) 3 true S)]⟩
def MI:List NE:=[.ptr 0 Z1 74 false,.row 1 (.int .i32) 21 false,.row 2 (.int .i32) 21 false,.keep 7,.keep 8,.keep 9,.keep 10,.keep 11,.row 12 (.int .i64) 3 true,.row 13 (.int .i64) 3 true,.keep 15,.keep 16,.keep 17,.keep 18,.keep 19,.keep 20,.keep 21,.keep 22,.keep 23,.keep 24]
def iE (C:Z11) (B L:List Int) (F I E H G:Int) (Q S:List Int) (U:Int) (h:Bool) (p P O q o ab an am au:Int):FState:=⟨aG [(0,.ptr 0 0 0),(1,.sl 1 none false),(2,.sl 2 none false),(7,.dat (.int .i64) F),(8,.dat (.int .i64) I),(9,.dat (.int .i64) E),(10,.dat (.int .i64) H),(11,.dat (.int .i64) G),(12,.sl 12 none false),(13,.sl 13 none false),(15,.dat (.int .i64) U),(16,.dat .bool h),(17,.dat (.int .i64) p),(18,.dat (.int .i64) P),(19,.dat (.int .i64) O),(20,.dat (.int .i64) q),(21,.dat (.int .i64) o),(22,.dat (.int .i64) ab),(23,.dat (.int .i64) an),(24,.dat (.int .i64) am),(25,.dat (.int .i64) au)],aD [(0,.row Z1 74 false [C]),(1,.row (.int .i32) 21 false B),(2,.row (.int .i32) 21 false L),(12,.row (.int .i64) 3 true Q),(13,.row (.int .i64) 3 true S)]⟩
def jQ:List NE:=[.ptr 0 Z1 74 false,.row 1 (.int .i32) 21 false,.row 2 (.int .i32) 21 false,.keep 7,.keep 8,.keep 9,.keep 10,.keep 11,.row 12 (.int .i64) 3 true,.row 13 (.int .i64) 3 true,.keep 15,.keep 16,.keep 17,.keep 18,.keep 19,.keep 20,.keep 21,.keep 22,.keep 23,.keep 24,.keep 25]
def eM (C:Z11) (B L:List Int) (F I E H G:Int) (Q S:List Int) (U:Int) (h:Bool) (p P O q o aa:Int):FState:=⟨aG [(0,.ptr 0 0 0),(1,.sl 1 none false),(2,.sl 2 none false),(7,.dat (.int .i64) F),(8,.dat (.int .i64) I),(9,.dat (.int .i64) E),(10,.dat (.int .i64) H),(11,.dat (.int .i64) G),(12,.sl 12 none false),(13,.sl 13 none false),(15,.dat (.int .i64) U),(16,.dat .bool h),(17,.dat (.int .i64) p),(18,.dat (.int .i64) P),(19,.dat (.int .i64) O),(20,.dat (.int .i64) q),(21,.dat (.int .i64) o),(28,.dat (.int .i64) aa)],aD [(0,.row Z1 74 false [C]),(1,.row (.int .i32) 21 false B),(2,.row (.int .i32) 21 false L),(12,.row (.int .i64) 3 true Q),(13,.row (.int .i64) 3 true S)]⟩
def jS:List NE:=[.ptr 0 Z1 74 false,.row 1 (.int .i32) 21 false,.row 2 (.int .i32) 21 false,.keep 7,.keep 8,.keep 9,.keep 10,.keep 11,.row 12 (.int .i64) 3 true,.row 13 (.int .i64) 3 true,.keep 15,.keep 16,.keep 17,.keep 18,.keep 19,.keep 20,.keep 21,.keep 28]
def YE (C:Z11) (B L:List Int) (F I E H G:Int) (Q S:List Int) (U:Int) (h:Bool) (p P O q o aa ao ah:Int):FState:=⟨aG [(0,.ptr 0 0 0),(1,.sl 1 none false),(2,.sl 2 none false),(7,.dat (.int .i64) F),(8,.dat (.int .i64) I),(9,.dat (.int .i64) E),(10,.dat (.int .i64) H),(11,.dat (.int .i64) G),(12,.sl 12 none false),(13,.sl 13 none false),(15,.dat (.int .i64) U),(16,.dat .bool h),(17,.dat (.int .i64) p),(18,.dat (.int .i64) P),(19,.dat (.int .i64) O),(20,.dat (.int .i64) q),(21,.dat (.int .i64) o),(28,.dat (.int .i64) aa),(29,.dat (.int .i64) ao),(30,.dat (.int .i64) ah)],aD [(0,.row Z1 74 false [C]),(1,.row (.int .i32) 21 false B),(2,.row (.int .i32) 21 false L),(12,.row (.int .i64) 3 true Q),(13,.row (.int .i64) 3 true S)]⟩
def NI:List NE:=[.ptr 0 Z1 74 false,.row 1 (.int .i32) 21 false,.row 2 (.int .i32) 21 false,.keep 7,.keep 8,.keep 9,.keep 10,.keep 11,.row 12 (.int .i64) 3 true,.row 13 (.int .i64) 3 true,.keep 15,.keep 16,.keep 17,.keep 18,.keep 19,.keep 20,.keep 21,.keep 28,.keep 29,.keep 30]
def iO (C:Z11) (B L:List Int) (F I E H G:Int) (Q S:List Int) (U:Int) (h:Bool) (p P O q o aa ao ah ai:Int):FState:=⟨aG [(0,.ptr 0 0 0),(1,.sl 1 none false),(2,.sl 2 none false),(7,.dat (.int .i64) F),(8,.dat (.int .i64) I),(9,.dat (.int .i64) E),(10,.dat (.int .i64) H),(11,.dat (.int .i64) G),(12,.sl 12 none false),(13,.sl 13 none false),(15,.dat (.int .i64) U),(16,.dat .bool h),(17,.dat (.int .i64) p),(18,.dat (.int .i64) P),(19,.dat (.int .i64) O),(20,.dat (.int .i64) q),(21,.dat (.int .i64) o),(28,.dat (.int .i64) aa),(29,.dat (.int .i64) ao),(30,.dat (.int .i64) ah),(31,.dat (.int .i64) ai)],aD [(0,.row Z1 74 false [C]),(1,.row (.int .i32) 21 false B),(2,.row (.int .i32) 21 false L),(12,.row (.int .i64) 3 true Q),(13,.row (.int .i64) 3 true S)]⟩
def jX:List NE:=[.ptr 0 Z1 74 false,.row 1 (.int .i32) 21 false,.row 2 (.int .i32) 21 false,.keep 7,.keep 8,.keep 9,.keep 10,.keep 11,.row 12 (.int .i64) 3 true,.row 13 (.int .i64) 3 true,.keep 15,.keep 16,.keep 17,.keep 18,.keep 19,.keep 20,.keep 21,.keep 28,.keep 29,.keep 30,.keep 31]
def cO4 (n:Nat) (q67:Q67) (q82:Q82) (aC:aI) (aB:aK) (aA:aJ):List (Nat×Spec):=[(67,aM gV dZ q67),(82,aM gX eX q82),(103,aM eH dC aC),(104,aM eL dE aB),(121,aM eD dQ aA)]
def fI:Ctx:={Γ0 with calls:=lkS (cO4 n q67 q82 aC aB aA)}
def fK:Code:=fb Tryd.f104
def K1 (n:Nat) (q67:Q67) (q82:Q82) (aC:aI) (aB:aK) (aA:aJ) (kn:Z11→List Int→List Int→Int→Int→Int→Int→Int→List Int→List Int→Int→Int→Option β) (C:Z11) (B L:List Int):Option β:=bnd 0 (w64 ((2:Int) * (w64 ((w64 ((w64 ((B.length:Int)+(L.length:Int)))+(1:Int))).tdiv (2:Int))))) (w64 ((2:Int) * (w64 ((w64 ((w64 ((B.length:Int)+(L.length:Int)))+(1:Int))).tdiv (2:Int)))))<|tQ (w64 ((2:Int) * (w64 ((w64 ((w64 ((B.length:Int)+(L.length:Int)))+(1:Int))).tdiv (2:Int)))))<|bnd 0 (w64 ((2:Int) * (w64 ((w64 ((w64 ((B.length:Int)+(L.length:Int)))+(1:Int))).tdiv (2:Int))))) (w64 ((2:Int) * (w64 ((w64 ((w64 ((B.length:Int)+(L.length:Int)))+(1:Int))).tdiv (2:Int)))))<|tQ (w64 ((2:Int) * (w64 ((w64 ((w64 ((B.length:Int)+(L.length:Int)))+(1:Int))).tdiv (2:Int)))))<|kn C B L (B.length:Int) (L.length:Int) (w64 ((w64 ((w64 ((B.length:Int)+(L.length:Int)))+(1:Int))).tdiv (2:Int))) (w64 ((w64 ((w64 ((B.length:Int)+(L.length:Int)))+(1:Int))).tdiv (2:Int))) (w64 ((2:Int) * (w64 ((w64 ((w64 ((B.length:Int)+(L.length:Int)))+(1:Int))).tdiv (2:Int))))) (List.replicate (w64 ((2:Int) * (w64 ((w64 ((w64 ((B.length:Int)+(L.length:Int)))+(1:Int))).tdiv (2:Int))))).toNat (0:Int)) (List.replicate (w64 ((2:Int) * (w64 ((w64 ((w64 ((B.length:Int)+(L.length:Int)))+(1:Int))).tdiv (2:Int))))).toNat (0:Int)) ((List.replicate (w64 ((2:Int) * (w64 ((w64 ((w64 ((B.length:Int)+(L.length:Int)))+(1:Int))).tdiv (2:Int))))).toNat (0:Int)).length:Int) (0:Int)
def aN8:FS1 β:=FXs (fI n q67 q82 aC aB aA) n fK (some yM) none [] [2,6,14,30,62,126,254,1020]
theorem bA0 (C:Z11) (B L:List Int):aN8 n q67 q82 aC aB aA (PL C B L) cx=K1 n q67 q82 aC aB aA (fun C B L F I E H G Q S bd ax=>cx.nrm (sZ C B L F I E H G Q S bd ax)) C B L:=by kernel_rfl
def OG (n:Nat) (q67:Q67) (q82:Q82) (aC:aI) (aB:aK) (aA:aJ) (kn:Z11→List Int→List Int→Int→Int→Int→Int→Int→List Int→List Int→Int→Int→Option β) (ae:Z11→List Int→List Int→Int→Int→Int→Int→Int→List Int→List Int→Option β) (C:Z11) (B L:List Int) (F I E H G:Int) (Q S:List Int) (bd ax:Int):Option β:=bif (decide (ax < bd)) then (idx ax (Q.length:Int)<|idx ax (S.length:Int)<|kn C B L F I E H G (Q.set ax.toNat (-1:Int)) (S.set ax.toNat (-1:Int)) bd (w64 (ax+1))) else (ae C B L F I E H G Q S)
def OD:FS1 β:=FXs (fI n q67 q82 aC aB aA) n fK (some yM) none [(0,rA)] [8168,16338,32678,32679]
theorem aT7 (C:Z11) (B L:List Int) (F I E H G:Int) (Q S:List Int) (bd ax:Int):OD n q67 q82 aC aB aA (sZ C B L F I E H G Q S bd ax) cx=OG n q67 q82 aC aB aA (fun C B L F I E H G Q S bd ax=>cx.nrm (sZ C B L F I E H G Q S bd ax)) (fun C B L F I E H G Q S=>cx.ex 0 (yW C B L F I E H G Q S)) C B L F I E H G Q S bd ax:=by kernel_rfl
def g104_3L (n:Nat) (q67:Q67) (q82:Q82) (aC:aI) (aB:aK) (aA:aJ) (ae:Z11→List Int→List Int→Int→Int→Int→Int→Int→List Int→List Int→Option β):Nat→Z11→List Int→List Int→Int→Int→Int→Int→Int→List Int→List Int→Int→Int→Option β
  | 0,_,_,_,_,_,_,_,_,_,_,_,_=>none
  | m+1,C,B,L,F,I,E,H,G,Q,S,bd,ax=>OG n q67 q82 aC aB aA (g104_3L n q67 q82 aC aB aA ae m) ae C B L F I E H G Q S bd ax
def J2 (ae:Z11→List Int→List Int→Int→Int→Int→Int→Int→List Int→List Int→Option β) (C:Z11) (B L:List Int) (F I E H G:Int) (Q S:List Int) (bd ax:Int):Option β:=g104_3L n q67 q82 aC aB aA ae n C B L F I E H G Q S bd ax
def aQ2 (s:FState) (cx:Cx β):Option β:=bK (fun again s=>OD n q67 q82 aC aB aA s {cx with nrm:=again}) n s
theorem G9 (n:Nat) (q67:Q67) (q82:Q82) (aC:aI) (aB:aK) (aA:aJ) (cx:Cx β):∀(m:Nat) (C:Z11) (B L:List Int) (F I E H G:Int) (Q S:List Int) (bd ax:Int),bK (fun again s=>OD n q67 q82 aC aB aA s {cx with nrm:=again}) m (sZ C B L F I E H G Q S bd ax)=g104_3L n q67 q82 aC aB aA (fun C B L F I E H G Q S=>cx.ex 0 (yW C B L F I E H G Q S)) m C B L F I E H G Q S bd ax:=by
  intro m
  induction m with
  | zero=>intros;rfl
  | succ m ih=>intros;simp only [bK,g104_3L,aT7,ih]
theorem bF7 (C:Z11) (B L:List Int) (F I E H G:Int) (Q S:List Int) (bd ax:Int):aQ2 n q67 q82 aC aB aA (sZ C B L F I E H G Q S bd ax) cx=J2 n q67 q82 aC aB aA (fun C B L F I E H G Q S=>cx.ex 0 (yW C B L F I E H G Q S)) C B L F I E H G Q S bd ax:=G9 n q67 q82 aC aB aA cx n C B L F I E H G Q S bd ax
def m9 (kn:Z11→List Int→List Int→Int→Int→Int→Int→Int→List Int→List Int→Option β) (C:Z11) (B L:List Int) (F I E H G:Int) (Q S:List Int) (bd ax:Int):Option β:=J2 n q67 q82 aC aB aA kn C B L F I E H G Q S bd ax
def aH2 (s:FState) (cx:Cx β):Option β:=aQ2 n q67 q82 aC aB aA s {cx with ex:=fun j s=>bif Nat.beq j 0 then cx.nrm s else cx.ex j s}
theorem aS3 (C:Z11) (B L:List Int) (F I E H G:Int) (Q S:List Int) (bd ax:Int):aH2 n q67 q82 aC aB aA (sZ C B L F I E H G Q S bd ax) cx=m9 n q67 q82 aC aB aA (fun C B L F I E H G Q S=>cx.nrm (yW C B L F I E H G Q S)) C B L F I E H G Q S bd ax:=bF7 n q67 q82 aC aB aA _ C B L F I E H G Q S bd ax
def RM (n:Nat) (q67:Q67) (q82:Q82) (aC:aI) (aB:aK) (aA:aJ) (kn:Z11→List Int→List Int→Int→Int→Int→Int→Int→List Int→List Int→Int→Bool→Int→Int→Int→Int→Int→Option β) (C:Z11) (B L:List Int) (F I E H G:Int) (Q S:List Int):Option β:=idx (w64 (H+1)) (Q.length:Int)<|idx (w64 (H+1)) (S.length:Int)<|kn C B L F I E H G (Q.set (w64 (H+1)).toNat (0:Int)) (S.set (w64 (H+1)).toNat (0:Int)) (w64 (F - I)) (((w64 (F - I)).tmod (2:Int))!=(0:Int)) (0:Int) (0:Int) (0:Int) (0:Int) (0:Int)
def aB0:FS1 β:=FXs (fI n q67 q82 aC aB aA) n fK (some gU) none [] [1022,2046,4094,8190,16382,32766,65534,131070,524284]
theorem bF9 (C:Z11) (B L:List Int) (F I E H G:Int) (Q S:List Int):aB0 n q67 q82 aC aB aA (yW C B L F I E H G Q S) cx=RM n q67 q82 aC aB aA (fun C B L F I E H G Q S U h p P O q o=>cx.nrm (cZ C B L F I E H G Q S U h p P O q o)) C B L F I E H G Q S:=by kernel_rfl
def K4 (n:Nat) (q67:Q67) (q82:Q82) (aC:aI) (aB:aK) (aA:aJ) (kn:Z11→List Int→List Int→Int→Int→Int→Int→Int→List Int→List Int→Int→Bool→Int→Int→Int→Int→Int→Option β) (ap:List Int→List Int→Option β) (C:Z11) (B L:List Int) (F I E H G:Int) (Q S:List Int) (U:Int) (h:Bool) (p P O q o:Int):Option β:=bif (decide (o < E)) then (kn C B L F I E H G Q S U h p P O q o) else (ap B L)
def aA6:FS1 β:=FXs (fI n q67 q82 aC aB aA) n fK (some gU) none [(2,FZ)] [8388560,8388561]
theorem aT0 (C:Z11) (B L:List Int) (F I E H G:Int) (Q S:List Int) (U:Int) (h:Bool) (p P O q o:Int):aA6 n q67 q82 aC aB aA (cZ C B L F I E H G Q S U h p P O q o) cx=K4 n q67 q82 aC aB aA (fun C B L F I E H G Q S U h p P O q o=>cx.nrm (cZ C B L F I E H G Q S U h p P O q o)) (fun B L=>cx.ex 2 (tB B L)) C B L F I E H G Q S U h p P O q o:=by kernel_rfl
def E9 (n:Nat) (q67:Q67) (q82:Q82) (aC:aI) (aB:aK) (aA:aJ) (kn:Z11→List Int→List Int→Int→Int→Int→Int→Int→List Int→List Int→Int→Bool→Int→Int→Int→Int→Int→Int→Option β) (C:Z11) (B L:List Int) (F I E H G:Int) (Q S:List Int) (U:Int) (h:Bool) (p P O q o:Int):Option β:=kn C B L F I E H G Q S U h p P O q o (w64 ((w64 (0 - o))+p))
def aN3:FS1 β:=FXs (fI n q67 q82 aC aB aA) n fK (some lH) none [] [67108496]
theorem bD8 (C:Z11) (B L:List Int) (F I E H G:Int) (Q S:List Int) (U:Int) (h:Bool) (p P O q o:Int):aN3 n q67 q82 aC aB aA (cZ C B L F I E H G Q S U h p P O q o) cx=E9 n q67 q82 aC aB aA (fun C B L F I E H G Q S U h p P O q o ab=>cx.nrm (gC C B L F I E H G Q S U h p P O q o ab)) C B L F I E H G Q S U h p P O q o:=by kernel_rfl
def P8 (n:Nat) (q67:Q67) (q82:Q82) (aC:aI) (aB:aK) (aA:aJ) (kn:Z11→List Int→List Int→Int→Int→Int→Int→Int→List Int→List Int→Int→Bool→Int→Int→Int→Int→Int→Int→Option β) (bm:Z11→List Int→List Int→Int→Int→Int→Int→Int→List Int→List Int→Int→Bool→Int→Int→Int→Int→Int→Option β) (C:Z11) (B L:List Int) (F I E H G:Int) (Q S:List Int) (U:Int) (h:Bool) (p P O q o ab:Int):Option β:=bif (decide (ab≤(w64 (o - P)))) then (kn C B L F I E H G Q S U h p P O q o ab) else (bm C B L F I E H G Q S U h p P O q o)
def aO3:FS1 β:=FXs (fI n q67 q82 aC aB aA) n fK (some lH) none [(4,gU)] [1073735952,1073735953]
theorem aR8 (C:Z11) (B L:List Int) (F I E H G:Int) (Q S:List Int) (U:Int) (h:Bool) (p P O q o ab:Int):aO3 n q67 q82 aC aB aA (gC C B L F I E H G Q S U h p P O q o ab) cx=P8 n q67 q82 aC aB aA (fun C B L F I E H G Q S U h p P O q o ab=>cx.nrm (gC C B L F I E H G Q S U h p P O q o ab)) (fun C B L F I E H G Q S U h p P O q o=>cx.ex 4 (cZ C B L F I E H G Q S U h p P O q o)) C B L F I E H G Q S U h p P O q o ab:=by kernel_rfl
def OR (n:Nat) (q67:Q67) (q82:Q82) (aC:aI) (aB:aK) (aA:aJ) (kn:Z11→List Int→List Int→Int→Int→Int→Int→Int→List Int→List Int→Int→Bool→Int→Int→Int→Int→Int→Int→Int→Int→Option β) (C:Z11) (B L:List Int) (F I E H G:Int) (Q S:List Int) (U:Int) (h:Bool) (p P O q o ab:Int):Option β:=bif (ab==(w64 (0 - o))) then (idx (w64 ((w64 (H+ab))+(1:Int))) (Q.length:Int)<|kn C B L F I E H G Q S U h p P O q o ab (w64 (H+ab)) (rd Q (w64 ((w64 (H+ab))+(1:Int))) (0:Int))) else (bif (ab !=o) then (idx (w64 ((w64 (H+ab)) - (1:Int))) (Q.length:Int)<|idx (w64 ((w64 (H+ab))+(1:Int))) (Q.length:Int)<|bif (decide ((rd Q (w64 ((w64 (H+ab)) - (1:Int))) (0:Int)) < (rd Q (w64 ((w64 (H+ab))+(1:Int))) (0:Int)))) then (idx (w64 ((w64 (H+ab))+(1:Int))) (Q.length:Int)<|kn C B L F I E H G Q S U h p P O q o ab (w64 (H+ab)) (rd Q (w64 ((w64 (H+ab))+(1:Int))) (0:Int))) else (idx (w64 ((w64 (H+ab)) - (1:Int))) (Q.length:Int)<|kn C B L F I E H G Q S U h p P O q o ab (w64 (H+ab)) (w64 ((rd Q (w64 ((w64 (H+ab)) - (1:Int))) (0:Int))+(1:Int))))) else (idx (w64 ((w64 (H+ab)) - (1:Int))) (Q.length:Int)<|kn C B L F I E H G Q S U h p P O q o ab (w64 (H+ab)) (w64 ((rd Q (w64 ((w64 (H+ab)) - (1:Int))) (0:Int))+(1:Int)))))
def w8:FS1 β:=FXs (fI n q67 q82 aC aB aA) n fK (some MI) none [] [4294943816,8589887634,34359550540,34359550541]
theorem bC8 (C:Z11) (B L:List Int) (F I E H G:Int) (Q S:List Int) (U:Int) (h:Bool) (p P O q o ab:Int):w8 n q67 q82 aC aB aA (gC C B L F I E H G Q S U h p P O q o ab) cx=OR n q67 q82 aC aB aA (fun C B L F I E H G Q S U h p P O q o ab an am=>cx.nrm (VD C B L F I E H G Q S U h p P O q o ab an am)) C B L F I E H G Q S U h p P O q o ab:=by kernel_rfl
def QJ (n:Nat) (q67:Q67) (q82:Q82) (aC:aI) (aB:aK) (aA:aJ) (kn:Z11→List Int→List Int→Int→Int→Int→Int→Int→List Int→List Int→Int→Bool→Int→Int→Int→Int→Int→Int→Int→Int→Int→Option β) (C:Z11) (B L:List Int) (F I E H G:Int) (Q S:List Int) (U:Int) (h:Bool) (p P O q o ab an am:Int):Option β:=kn C B L F I E H G Q S U h p P O q o ab an am (w64 (am - ab))
def UX:FS1 β:=FXs (fI n q67 q82 aC aB aA) n fK (some jQ) none [] [34359550542]
theorem N4 (C:Z11) (B L:List Int) (F I E H G:Int) (Q S:List Int) (U:Int) (h:Bool) (p P O q o ab an am:Int):UX n q67 q82 aC aB aA (VD C B L F I E H G Q S U h p P O q o ab an am) cx=QJ n q67 q82 aC aB aA (fun C B L F I E H G Q S U h p P O q o ab an am au=>cx.nrm (iE C B L F I E H G Q S U h p P O q o ab an am au)) C B L F I E H G Q S U h p P O q o ab an am:=by kernel_rfl
def DC (n:Nat) (q67:Q67) (q82:Q82) (aC:aI) (aB:aK) (aA:aJ) (kn bn:Z11→List Int→List Int→Int→Int→Int→Int→Int→List Int→List Int→Int→Bool→Int→Int→Int→Int→Int→Int→Int→Int→Int→Option β) (C:Z11) (B L:List Int) (F I E H G:Int) (Q S:List Int) (U:Int) (h:Bool) (p P O q o ab an am au:Int):Option β:=bif (decide (am < F)) then (bif (decide (au < I)) then (idx am (B.length:Int)<|idx au (L.length:Int)<|bif ((rd B am (0:Int))!=(rd L au (0:Int))) then (bn C B L F I E H G Q S U h p P O q o ab an am au) else (kn C B L F I E H G Q S U h p P O q o ab an (w64 (am+1)) (w64 (au+1)))) else (bn C B L F I E H G Q S U h p P O q o ab an am au)) else (bn C B L F I E H G Q S U h p P O q o ab an am au)
def GZ:FS1 β:=FXs (fI n q67 q82 aC aB aA) n fK (some jQ) none [(6,jQ)] [1099505617376,1099505617377,549752808689]
theorem H7 (C:Z11) (B L:List Int) (F I E H G:Int) (Q S:List Int) (U:Int) (h:Bool) (p P O q o ab an am au:Int):GZ n q67 q82 aC aB aA (iE C B L F I E H G Q S U h p P O q o ab an am au) cx=DC n q67 q82 aC aB aA (fun C B L F I E H G Q S U h p P O q o ab an am au=>cx.nrm (iE C B L F I E H G Q S U h p P O q o ab an am au)) (fun C B L F I E H G Q S U h p P O q o ab an am au=>cx.ex 6 (iE C B L F I E H G Q S U h p P O q o ab an am au)) C B L F I E H G Q S U h p P O q o ab an am au:=by kernel_rfl
def g104_12L (n:Nat) (q67:Q67) (q82:Q82) (aC:aI) (aB:aK) (aA:aJ) (bn:Z11→List Int→List Int→Int→Int→Int→Int→Int→List Int→List Int→Int→Bool→Int→Int→Int→Int→Int→Int→Int→Int→Int→Option β):Nat→Z11→List Int→List Int→Int→Int→Int→Int→Int→List Int→List Int→Int→Bool→Int→Int→Int→Int→Int→Int→Int→Int→Int→Option β
  | 0,_,_,_,_,_,_,_,_,_,_,_,_,_,_,_,_,_,_,_,_,_=>none
  | m+1,C,B,L,F,I,E,H,G,Q,S,U,h,p,P,O,q,o,ab,an,am,au=>DC n q67 q82 aC aB aA (g104_12L n q67 q82 aC aB aA bn m) bn C B L F I E H G Q S U h p P O q o ab an am au
def QI (bn:Z11→List Int→List Int→Int→Int→Int→Int→Int→List Int→List Int→Int→Bool→Int→Int→Int→Int→Int→Int→Int→Int→Int→Option β) (C:Z11) (B L:List Int) (F I E H G:Int) (Q S:List Int) (U:Int) (h:Bool) (p P O q o ab an am au:Int):Option β:=g104_12L n q67 q82 aC aB aA bn n C B L F I E H G Q S U h p P O q o ab an am au
def A8 (s:FState) (cx:Cx β):Option β:=bK (fun again s=>GZ n q67 q82 aC aB aA s {cx with nrm:=again}) n s
theorem ZF (n:Nat) (q67:Q67) (q82:Q82) (aC:aI) (aB:aK) (aA:aJ) (cx:Cx β):∀(m:Nat) (C:Z11) (B L:List Int) (F I E H G:Int) (Q S:List Int) (U:Int) (h:Bool) (p P O q o ab an am au:Int),bK (fun again s=>GZ n q67 q82 aC aB aA s {cx with nrm:=again}) m (iE C B L F I E H G Q S U h p P O q o ab an am au)=g104_12L n q67 q82 aC aB aA (fun C B L F I E H G Q S U h p P O q o ab an am au=>cx.ex 6 (iE C B L F I E H G Q S U h p P O q o ab an am au)) m C B L F I E H G Q S U h p P O q o ab an am au:=by
  intro m
  induction m with
  | zero=>intros;rfl
  | succ m ih=>intros;simp only [bK,g104_12L,H7,ih]
theorem N0 (C:Z11) (B L:List Int) (F I E H G:Int) (Q S:List Int) (U:Int) (h:Bool) (p P O q o ab an am au:Int):A8 n q67 q82 aC aB aA (iE C B L F I E H G Q S U h p P O q o ab an am au) cx=QI n q67 q82 aC aB aA (fun C B L F I E H G Q S U h p P O q o ab an am au=>cx.ex 6 (iE C B L F I E H G Q S U h p P O q o ab an am au)) C B L F I E H G Q S U h p P O q o ab an am au:=ZF n q67 q82 aC aB aA cx n C B L F I E H G Q S U h p P O q o ab an am au
def OO (kn:Z11→List Int→List Int→Int→Int→Int→Int→Int→List Int→List Int→Int→Bool→Int→Int→Int→Int→Int→Int→Int→Int→Int→Option β) (C:Z11) (B L:List Int) (F I E H G:Int) (Q S:List Int) (U:Int) (h:Bool) (p P O q o ab an am au:Int):Option β:=QI n q67 q82 aC aB aA kn C B L F I E H G Q S U h p P O q o ab an am au
def ZY (s:FState) (cx:Cx β):Option β:=A8 n q67 q82 aC aB aA s {cx with ex:=fun j s=>bif Nat.beq j 6 then cx.nrm s else cx.ex j s}
theorem X4 (C:Z11) (B L:List Int) (F I E H G:Int) (Q S:List Int) (U:Int) (h:Bool) (p P O q o ab an am au:Int):ZY n q67 q82 aC aB aA (iE C B L F I E H G Q S U h p P O q o ab an am au) cx=OO n q67 q82 aC aB aA (fun C B L F I E H G Q S U h p P O q o ab an am au=>cx.nrm (iE C B L F I E H G Q S U h p P O q o ab an am au)) C B L F I E H G Q S U h p P O q o ab an am au:=N0 n q67 q82 aC aB aA _ C B L F I E H G Q S U h p P O q o ab an am au
def wM (n:Nat) (q67:Q67) (q82:Q82) (aC:aI) (aB:aK) (aA:aJ) (kn:Z11→List Int→List Int→Int→Int→Int→Int→Int→List Int→List Int→Int→Bool→Int→Int→Int→Int→Int→Int→Option β) (kr:List Z28→Option β) (C:Z11) (B L:List Int) (F I E H G:Int) (Q S:List Int) (U:Int) (h:Bool) (p P O q o ab an am au:Int):Option β:=idx an (Q.length:Int)<|bif (decide (am>F)) then (kn C B L F I E H G (Q.set an.toNat am) S U h p (w64 (P+2)) O q o ab) else (bif (decide (au>I)) then (kn C B L F I E H G (Q.set an.toNat am) S U h (w64 (p+2)) P O q o ab) else (bif h then (bif (decide ((w64 ((w64 (H+U)) - ab))≥(0:Int))) then (bif (decide ((w64 ((w64 (H+U)) - ab)) < G)) then (idx (w64 ((w64 (H+U)) - ab)) (S.length:Int)<|bif ((rd S (w64 ((w64 (H+U)) - ab)) (0:Int))!=(-1:Int)) then (idx (w64 ((w64 (H+U)) - ab)) (S.length:Int)<|bif (decide (am≥(w64 (F - (rd S (w64 ((w64 (H+U)) - ab)) (0:Int)))))) then ((aA (C,(B,(L,(am,(au,())))))).bind fun V=>kr V.1) else (kn C B L F I E H G (Q.set an.toNat am) S U h p P O q o ab)) else (kn C B L F I E H G (Q.set an.toNat am) S U h p P O q o ab)) else (kn C B L F I E H G (Q.set an.toNat am) S U h p P O q o ab)) else (kn C B L F I E H G (Q.set an.toNat am) S U h p P O q o ab)) else (kn C B L F I E H G (Q.set an.toNat am) S U h p P O q o ab)))
def UU:FS1 β:=FXs (fI n q67 q82 aC aB aA) n fK (some lH) (some iN) [] [137438202174,274876404350,274876404351]
theorem q8 (C:Z11) (B L:List Int) (F I E H G:Int) (Q S:List Int) (U:Int) (h:Bool) (p P O q o ab an am au:Int):UU n q67 q82 aC aB aA (iE C B L F I E H G Q S U h p P O q o ab an am au) cx=wM n q67 q82 aC aB aA (fun C B L F I E H G Q S U h p P O q o ab=>cx.nrm (gC C B L F I E H G Q S U h p P O q o ab)) (fun z=>cx.ret (dU z)) C B L F I E H G Q S U h p P O q o ab an am au:=by kernel_rfl
def pY (kn:Z11→List Int→List Int→Int→Int→Int→Int→Int→List Int→List Int→Int→Bool→Int→Int→Int→Int→Int→Int→Option β) (kr:List Z28→Option β) (C:Z11) (B L:List Int) (F I E H G:Int) (Q S:List Int) (U:Int) (h:Bool) (p P O q o ab:Int):Option β:=OR n q67 q82 aC aB aA (fun C B L F I E H G Q S U h p P O q o ab an am=>QJ n q67 q82 aC aB aA (fun C B L F I E H G Q S U h p P O q o ab an am au=>OO n q67 q82 aC aB aA (fun C B L F I E H G Q S U h p P O q o ab an am au=>wM n q67 q82 aC aB aA kn kr C B L F I E H G Q S U h p P O q o ab an am au) C B L F I E H G Q S U h p P O q o ab an am au) C B L F I E H G Q S U h p P O q o ab an am) C B L F I E H G Q S U h p P O q o ab
def GI (s:FState) (cx:Cx β):Option β:=w8 n q67 q82 aC aB aA s {cx with nrm:=fun s=>UX n q67 q82 aC aB aA s {cx with nrm:=fun s=>ZY n q67 q82 aC aB aA s {cx with nrm:=fun s=>UU n q67 q82 aC aB aA s cx}}}
theorem P7 (C:Z11) (B L:List Int) (F I E H G:Int) (Q S:List Int) (U:Int) (h:Bool) (p P O q o ab:Int):GI n q67 q82 aC aB aA (gC C B L F I E H G Q S U h p P O q o ab) cx=pY n q67 q82 aC aB aA (fun C B L F I E H G Q S U h p P O q o ab=>cx.nrm (gC C B L F I E H G Q S U h p P O q o ab)) (fun z=>cx.ret (dU z)) C B L F I E H G Q S U h p P O q o ab:=by simp only [GI,pY,bC8,N4,X4,q8]
def OX (kn:Z11→List Int→List Int→Int→Int→Int→Int→Int→List Int→List Int→Int→Bool→Int→Int→Int→Int→Int→Int→Option β) (kr:List Z28→Option β) (C:Z11) (B L:List Int) (F I E H G:Int) (Q S:List Int) (U:Int) (h:Bool) (p P O q o ab:Int):Option β:=pY n q67 q82 aC aB aA kn kr C B L F I E H G Q S U h p P O q o ab
def WO (s:FState) (cx:Cx β):Option β:=GI n q67 q82 aC aB aA s {cx with ex:=fun j s=>bif Nat.beq j 5 then cx.nrm s else cx.ex j s}
theorem n6 (C:Z11) (B L:List Int) (F I E H G:Int) (Q S:List Int) (U:Int) (h:Bool) (p P O q o ab:Int):WO n q67 q82 aC aB aA (gC C B L F I E H G Q S U h p P O q o ab) cx=OX n q67 q82 aC aB aA (fun C B L F I E H G Q S U h p P O q o ab=>cx.nrm (gC C B L F I E H G Q S U h p P O q o ab)) (fun z=>cx.ret (dU z)) C B L F I E H G Q S U h p P O q o ab:=P7 n q67 q82 aC aB aA _ C B L F I E H G Q S U h p P O q o ab
def EJ (n:Nat) (q67:Q67) (q82:Q82) (aC:aI) (aB:aK) (aA:aJ) (kn:Z11→List Int→List Int→Int→Int→Int→Int→Int→List Int→List Int→Int→Bool→Int→Int→Int→Int→Int→Int→Option β) (C:Z11) (B L:List Int) (F I E H G:Int) (Q S:List Int) (U:Int) (h:Bool) (p P O q o ab:Int):Option β:=kn C B L F I E H G Q S U h p P O q o (w64 (ab+2))
def ZW:FS1 β:=FXs (fI n q67 q82 aC aB aA) n fK (some lH) none [] [1073735955]
theorem P3 (C:Z11) (B L:List Int) (F I E H G:Int) (Q S:List Int) (U:Int) (h:Bool) (p P O q o ab:Int):ZW n q67 q82 aC aB aA (gC C B L F I E H G Q S U h p P O q o ab) cx=EJ n q67 q82 aC aB aA (fun C B L F I E H G Q S U h p P O q o ab=>cx.nrm (gC C B L F I E H G Q S U h p P O q o ab)) C B L F I E H G Q S U h p P O q o ab:=by kernel_rfl
def DX (kn:Z11→List Int→List Int→Int→Int→Int→Int→Int→List Int→List Int→Int→Bool→Int→Int→Int→Int→Int→Int→Option β) (kr:List Z28→Option β) (bm:Z11→List Int→List Int→Int→Int→Int→Int→Int→List Int→List Int→Int→Bool→Int→Int→Int→Int→Int→Option β) (C:Z11) (B L:List Int) (F I E H G:Int) (Q S:List Int) (U:Int) (h:Bool) (p P O q o ab:Int):Option β:=P8 n q67 q82 aC aB aA (fun C B L F I E H G Q S U h p P O q o ab=>OX n q67 q82 aC aB aA (fun C B L F I E H G Q S U h p P O q o ab=>EJ n q67 q82 aC aB aA kn C B L F I E H G Q S U h p P O q o ab) kr C B L F I E H G Q S U h p P O q o ab) bm C B L F I E H G Q S U h p P O q o ab
def xD (s:FState) (cx:Cx β):Option β:=aO3 n q67 q82 aC aB aA s {cx with nrm:=fun s=>WO n q67 q82 aC aB aA s {cx with nrm:=fun s=>ZW n q67 q82 aC aB aA s cx}}
theorem R9 (C:Z11) (B L:List Int) (F I E H G:Int) (Q S:List Int) (U:Int) (h:Bool) (p P O q o ab:Int):xD n q67 q82 aC aB aA (gC C B L F I E H G Q S U h p P O q o ab) cx=DX n q67 q82 aC aB aA (fun C B L F I E H G Q S U h p P O q o ab=>cx.nrm (gC C B L F I E H G Q S U h p P O q o ab)) (fun z=>cx.ret (dU z)) (fun C B L F I E H G Q S U h p P O q o=>cx.ex 4 (cZ C B L F I E H G Q S U h p P O q o)) C B L F I E H G Q S U h p P O q o ab:=by simp only [xD,DX,aR8,n6,P3]
def g104_19L (n:Nat) (q67:Q67) (q82:Q82) (aC:aI) (aB:aK) (aA:aJ) (kr:List Z28→Option β) (bm:Z11→List Int→List Int→Int→Int→Int→Int→Int→List Int→List Int→Int→Bool→Int→Int→Int→Int→Int→Option β):Nat→Z11→List Int→List Int→Int→Int→Int→Int→Int→List Int→List Int→Int→Bool→Int→Int→Int→Int→Int→Int→Option β
  | 0,_,_,_,_,_,_,_,_,_,_,_,_,_,_,_,_,_,_=>none
  | m+1,C,B,L,F,I,E,H,G,Q,S,U,h,p,P,O,q,o,ab=>DX n q67 q82 aC aB aA (g104_19L n q67 q82 aC aB aA kr bm m) kr bm C B L F I E H G Q S U h p P O q o ab
def QU (kr:List Z28→Option β) (bm:Z11→List Int→List Int→Int→Int→Int→Int→Int→List Int→List Int→Int→Bool→Int→Int→Int→Int→Int→Option β) (C:Z11) (B L:List Int) (F I E H G:Int) (Q S:List Int) (U:Int) (h:Bool) (p P O q o ab:Int):Option β:=g104_19L n q67 q82 aC aB aA kr bm n C B L F I E H G Q S U h p P O q o ab
def XD (s:FState) (cx:Cx β):Option β:=bK (fun again s=>xD n q67 q82 aC aB aA s {cx with nrm:=again}) n s
theorem XP (n:Nat) (q67:Q67) (q82:Q82) (aC:aI) (aB:aK) (aA:aJ) (cx:Cx β):∀(m:Nat) (C:Z11) (B L:List Int) (F I E H G:Int) (Q S:List Int) (U:Int) (h:Bool) (p P O q o ab:Int),bK (fun again s=>xD n q67 q82 aC aB aA s {cx with nrm:=again}) m (gC C B L F I E H G Q S U h p P O q o ab)=g104_19L n q67 q82 aC aB aA (fun z=>cx.ret (dU z)) (fun C B L F I E H G Q S U h p P O q o=>cx.ex 4 (cZ C B L F I E H G Q S U h p P O q o)) m C B L F I E H G Q S U h p P O q o ab:=by
  intro m
  induction m with
  | zero=>intros;rfl
  | succ m ih=>intros;simp only [bK,g104_19L,R9,ih]
theorem c8 (C:Z11) (B L:List Int) (F I E H G:Int) (Q S:List Int) (U:Int) (h:Bool) (p P O q o ab:Int):XD n q67 q82 aC aB aA (gC C B L F I E H G Q S U h p P O q o ab) cx=QU n q67 q82 aC aB aA (fun z=>cx.ret (dU z)) (fun C B L F I E H G Q S U h p P O q o=>cx.ex 4 (cZ C B L F I E H G Q S U h p P O q o)) C B L F I E H G Q S U h p P O q o ab:=XP n q67 q82 aC aB aA cx n C B L F I E H G Q S U h p P O q o ab
def OI (kn:Z11→List Int→List Int→Int→Int→Int→Int→Int→List Int→List Int→Int→Bool→Int→Int→Int→Int→Int→Option β) (kr:List Z28→Option β) (C:Z11) (B L:List Int) (F I E H G:Int) (Q S:List Int) (U:Int) (h:Bool) (p P O q o ab:Int):Option β:=QU n q67 q82 aC aB aA kr kn C B L F I E H G Q S U h p P O q o ab
def ZV (s:FState) (cx:Cx β):Option β:=XD n q67 q82 aC aB aA s {cx with ex:=fun j s=>bif Nat.beq j 4 then cx.nrm s else cx.ex j s}
theorem N8 (C:Z11) (B L:List Int) (F I E H G:Int) (Q S:List Int) (U:Int) (h:Bool) (p P O q o ab:Int):ZV n q67 q82 aC aB aA (gC C B L F I E H G Q S U h p P O q o ab) cx=OI n q67 q82 aC aB aA (fun C B L F I E H G Q S U h p P O q o=>cx.nrm (cZ C B L F I E H G Q S U h p P O q o)) (fun z=>cx.ret (dU z)) C B L F I E H G Q S U h p P O q o ab:=c8 n q67 q82 aC aB aA _ C B L F I E H G Q S U h p P O q o ab
def FC (n:Nat) (q67:Q67) (q82:Q82) (aC:aI) (aB:aK) (aA:aJ) (kn:Z11→List Int→List Int→Int→Int→Int→Int→Int→List Int→List Int→Int→Bool→Int→Int→Int→Int→Int→Int→Option β) (C:Z11) (B L:List Int) (F I E H G:Int) (Q S:List Int) (U:Int) (h:Bool) (p P O q o:Int):Option β:=kn C B L F I E H G Q S U h p P O q o (w64 ((w64 (0 - o))+O))
def YJ:FS1 β:=FXs (fI n q67 q82 aC aB aA) n fK (some jS) none [] [67108498]
theorem Z0 (C:Z11) (B L:List Int) (F I E H G:Int) (Q S:List Int) (U:Int) (h:Bool) (p P O q o:Int):YJ n q67 q82 aC aB aA (cZ C B L F I E H G Q S U h p P O q o) cx=FC n q67 q82 aC aB aA (fun C B L F I E H G Q S U h p P O q o aa=>cx.nrm (eM C B L F I E H G Q S U h p P O q o aa)) C B L F I E H G Q S U h p P O q o:=by kernel_rfl
def PZ (n:Nat) (q67:Q67) (q82:Q82) (aC:aI) (aB:aK) (aA:aJ) (kn:Z11→List Int→List Int→Int→Int→Int→Int→Int→List Int→List Int→Int→Bool→Int→Int→Int→Int→Int→Int→Option β) (bo:Z11→List Int→List Int→Int→Int→Int→Int→Int→List Int→List Int→Int→Bool→Int→Int→Int→Int→Int→Option β) (C:Z11) (B L:List Int) (F I E H G:Int) (Q S:List Int) (U:Int) (h:Bool) (p P O q o aa:Int):Option β:=bif (decide (aa≤(w64 (o - q)))) then (kn C B L F I E H G Q S U h p P O q o aa) else (bo C B L F I E H G Q S U h p P O q o)
def C3:FS1 β:=FXs (fI n q67 q82 aC aB aA) n fK (some jS) none [(8,gU)] [1073735984,1073735985]
theorem W2 (C:Z11) (B L:List Int) (F I E H G:Int) (Q S:List Int) (U:Int) (h:Bool) (p P O q o aa:Int):C3 n q67 q82 aC aB aA (eM C B L F I E H G Q S U h p P O q o aa) cx=PZ n q67 q82 aC aB aA (fun C B L F I E H G Q S U h p P O q o aa=>cx.nrm (eM C B L F I E H G Q S U h p P O q o aa)) (fun C B L F I E H G Q S U h p P O q o=>cx.ex 8 (cZ C B L F I E H G Q S U h p P O q o)) C B L F I E H G Q S U h p P O q o aa:=by kernel_rfl
def DW (n:Nat) (q67:Q67) (q82:Q82) (aC:aI) (aB:aK) (aA:aJ) (kn:Z11→List Int→List Int→Int→Int→Int→Int→Int→List Int→List Int→Int→Bool→Int→Int→Int→Int→Int→Int→Int→Int→Option β) (C:Z11) (B L:List Int) (F I E H G:Int) (Q S:List Int) (U:Int) (h:Bool) (p P O q o aa:Int):Option β:=bif (aa==(w64 (0 - o))) then (idx (w64 ((w64 (H+aa))+(1:Int))) (S.length:Int)<|kn C B L F I E H G Q S U h p P O q o aa (w64 (H+aa)) (rd S (w64 ((w64 (H+aa))+(1:Int))) (0:Int))) else (bif (aa !=o) then (idx (w64 ((w64 (H+aa)) - (1:Int))) (S.length:Int)<|idx (w64 ((w64 (H+aa))+(1:Int))) (S.length:Int)<|bif (decide ((rd S (w64 ((w64 (H+aa)) - (1:Int))) (0:Int)) < (rd S (w64 ((w64 (H+aa))+(1:Int))) (0:Int)))) then (idx (w64 ((w64 (H+aa))+(1:Int))) (S.length:Int)<|kn C B L F I E H G Q S U h p P O q o aa (w64 (H+aa)) (rd S (w64 ((w64 (H+aa))+(1:Int))) (0:Int))) else (idx (w64 ((w64 (H+aa)) - (1:Int))) (S.length:Int)<|kn C B L F I E H G Q S U h p P O q o aa (w64 (H+aa)) (w64 ((rd S (w64 ((w64 (H+aa)) - (1:Int))) (0:Int))+(1:Int))))) else (idx (w64 ((w64 (H+aa)) - (1:Int))) (S.length:Int)<|kn C B L F I E H G Q S U h p P O q o aa (w64 (H+aa)) (w64 ((rd S (w64 ((w64 (H+aa)) - (1:Int))) (0:Int))+(1:Int)))))
def C1:FS1 β:=FXs (fI n q67 q82 aC aB aA) n fK (some NI) none [] [4294943944,8589887890,34359551564,34359551565]
theorem L6 (C:Z11) (B L:List Int) (F I E H G:Int) (Q S:List Int) (U:Int) (h:Bool) (p P O q o aa:Int):C1 n q67 q82 aC aB aA (eM C B L F I E H G Q S U h p P O q o aa) cx=DW n q67 q82 aC aB aA (fun C B L F I E H G Q S U h p P O q o aa ao ah=>cx.nrm (YE C B L F I E H G Q S U h p P O q o aa ao ah)) C B L F I E H G Q S U h p P O q o aa:=by kernel_rfl
def TS (n:Nat) (q67:Q67) (q82:Q82) (aC:aI) (aB:aK) (aA:aJ) (kn:Z11→List Int→List Int→Int→Int→Int→Int→Int→List Int→List Int→Int→Bool→Int→Int→Int→Int→Int→Int→Int→Int→Int→Option β) (C:Z11) (B L:List Int) (F I E H G:Int) (Q S:List Int) (U:Int) (h:Bool) (p P O q o aa ao ah:Int):Option β:=kn C B L F I E H G Q S U h p P O q o aa ao ah (w64 (ah - aa))
def XE:FS1 β:=FXs (fI n q67 q82 aC aB aA) n fK (some jX) none [] [34359551566]
theorem W4 (C:Z11) (B L:List Int) (F I E H G:Int) (Q S:List Int) (U:Int) (h:Bool) (p P O q o aa ao ah:Int):XE n q67 q82 aC aB aA (YE C B L F I E H G Q S U h p P O q o aa ao ah) cx=TS n q67 q82 aC aB aA (fun C B L F I E H G Q S U h p P O q o aa ao ah ai=>cx.nrm (iO C B L F I E H G Q S U h p P O q o aa ao ah ai)) C B L F I E H G Q S U h p P O q o aa ao ah:=by kernel_rfl
def DP (n:Nat) (q67:Q67) (q82:Q82) (aC:aI) (aB:aK) (aA:aJ) (kn bp:Z11→List Int→List Int→Int→Int→Int→Int→Int→List Int→List Int→Int→Bool→Int→Int→Int→Int→Int→Int→Int→Int→Int→Option β) (C:Z11) (B L:List Int) (F I E H G:Int) (Q S:List Int) (U:Int) (h:Bool) (p P O q o aa ao ah ai:Int):Option β:=bif (decide (ah < F)) then (bif (decide (ai < I)) then (idx (w64 ((w64 (F - ah)) - (1:Int))) (B.length:Int)<|idx (w64 ((w64 (I - ai)) - (1:Int))) (L.length:Int)<|bif ((rd B (w64 ((w64 (F - ah)) - (1:Int))) (0:Int))!=(rd L (w64 ((w64 (I - ai)) - (1:Int))) (0:Int))) then (bp C B L F I E H G Q S U h p P O q o aa ao ah ai) else (kn C B L F I E H G Q S U h p P O q o aa ao (w64 (ah+1)) (w64 (ai+1)))) else (bp C B L F I E H G Q S U h p P O q o aa ao ah ai)) else (bp C B L F I E H G Q S U h p P O q o aa ao ah ai)
def GK:FS1 β:=FXs (fI n q67 q82 aC aB aA) n fK (some jX) none [(10,jX)] [1099505650144,1099505650145,549752825073]
theorem l8 (C:Z11) (B L:List Int) (F I E H G:Int) (Q S:List Int) (U:Int) (h:Bool) (p P O q o aa ao ah ai:Int):GK n q67 q82 aC aB aA (iO C B L F I E H G Q S U h p P O q o aa ao ah ai) cx=DP n q67 q82 aC aB aA (fun C B L F I E H G Q S U h p P O q o aa ao ah ai=>cx.nrm (iO C B L F I E H G Q S U h p P O q o aa ao ah ai)) (fun C B L F I E H G Q S U h p P O q o aa ao ah ai=>cx.ex 10 (iO C B L F I E H G Q S U h p P O q o aa ao ah ai)) C B L F I E H G Q S U h p P O q o aa ao ah ai:=by kernel_rfl
def g104_26L (n:Nat) (q67:Q67) (q82:Q82) (aC:aI) (aB:aK) (aA:aJ) (bp:Z11→List Int→List Int→Int→Int→Int→Int→Int→List Int→List Int→Int→Bool→Int→Int→Int→Int→Int→Int→Int→Int→Int→Option β):Nat→Z11→List Int→List Int→Int→Int→Int→Int→Int→List Int→List Int→Int→Bool→Int→Int→Int→Int→Int→Int→Int→Int→Int→Option β
  | 0,_,_,_,_,_,_,_,_,_,_,_,_,_,_,_,_,_,_,_,_,_=>none
  | m+1,C,B,L,F,I,E,H,G,Q,S,U,h,p,P,O,q,o,aa,ao,ah,ai=>DP n q67 q82 aC aB aA (g104_26L n q67 q82 aC aB aA bp m) bp C B L F I E H G Q S U h p P O q o aa ao ah ai
def RD (bp:Z11→List Int→List Int→Int→Int→Int→Int→Int→List Int→List Int→Int→Bool→Int→Int→Int→Int→Int→Int→Int→Int→Int→Option β) (C:Z11) (B L:List Int) (F I E H G:Int) (Q S:List Int) (U:Int) (h:Bool) (p P O q o aa ao ah ai:Int):Option β:=g104_26L n q67 q82 aC aB aA bp n C B L F I E H G Q S U h p P O q o aa ao ah ai
def UV (s:FState) (cx:Cx β):Option β:=bK (fun again s=>GK n q67 q82 aC aB aA s {cx with nrm:=again}) n s
theorem WV (n:Nat) (q67:Q67) (q82:Q82) (aC:aI) (aB:aK) (aA:aJ) (cx:Cx β):∀(m:Nat) (C:Z11) (B L:List Int) (F I E H G:Int) (Q S:List Int) (U:Int) (h:Bool) (p P O q o aa ao ah ai:Int),bK (fun again s=>GK n q67 q82 aC aB aA s {cx with nrm:=again}) m (iO C B L F I E H G Q S U h p P O q o aa ao ah ai)=g104_26L n q67 q82 aC aB aA (fun C B L F I E H G Q S U h p P O q o aa ao ah ai=>cx.ex 10 (iO C B L F I E H G Q S U h p P O q o aa ao ah ai)) m C B L F I E H G Q S U h p P O q o aa ao ah ai:=by
  intro m
  induction m with
  | zero=>intros;rfl
  | succ m ih=>intros;simp only [bK,g104_26L,l8,ih]
theorem b6 (C:Z11) (B L:List Int) (F I E H G:Int) (Q S:List Int) (U:Int) (h:Bool) (p P O q o aa ao ah ai:Int):UV n q67 q82 aC aB aA (iO C B L F I E H G Q S U h p P O q o aa ao ah ai) cx=RD n q67 q82 aC aB aA (fun C B L F I E H G Q S U h p P O q o aa ao ah ai=>cx.ex 10 (iO C B L F I E H G Q S U h p P O q o aa ao ah ai)) C B L F I E H G Q S U h p P O q o aa ao ah ai:=WV n q67 q82 aC aB aA cx n C B L F I E H G Q S U h p P O q o aa ao ah ai
def PO (kn:Z11→List Int→List Int→Int→Int→Int→Int→Int→List Int→List Int→Int→Bool→Int→Int→Int→Int→Int→Int→Int→Int→Int→Option β) (C:Z11) (B L:List Int) (F I E H G:Int) (Q S:List Int) (U:Int) (h:Bool) (p P O q o aa ao ah ai:Int):Option β:=RD n q67 q82 aC aB aA kn C B L F I E H G Q S U h p P O q o aa ao ah ai
def WT (s:FState) (cx:Cx β):Option β:=UV n q67 q82 aC aB aA s {cx with ex:=fun j s=>bif Nat.beq j 10 then cx.nrm s else cx.ex j s}
theorem k8 (C:Z11) (B L:List Int) (F I E H G:Int) (Q S:List Int) (U:Int) (h:Bool) (p P O q o aa ao ah ai:Int):WT n q67 q82 aC aB aA (iO C B L F I E H G Q S U h p P O q o aa ao ah ai) cx=PO n q67 q82 aC aB aA (fun C B L F I E H G Q S U h p P O q o aa ao ah ai=>cx.nrm (iO C B L F I E H G Q S U h p P O q o aa ao ah ai)) C B L F I E H G Q S U h p P O q o aa ao ah ai:=b6 n q67 q82 aC aB aA _ C B L F I E H G Q S U h p P O q o aa ao ah ai
def xS (n:Nat) (q67:Q67) (q82:Q82) (aC:aI) (aB:aK) (aA:aJ) (kn:Z11→List Int→List Int→Int→Int→Int→Int→Int→List Int→List Int→Int→Bool→Int→Int→Int→Int→Int→Int→Option β) (kr:List Z28→Option β) (C:Z11) (B L:List Int) (F I E H G:Int) (Q S:List Int) (U:Int) (h:Bool) (p P O q o aa ao ah ai:Int):Option β:=idx ao (S.length:Int)<|bif (decide (ah>F)) then (kn C B L F I E H G Q (S.set ao.toNat ah) U h p P O (w64 (q+2)) o aa) else (bif (decide (ai>I)) then (kn C B L F I E H G Q (S.set ao.toNat ah) U h p P (w64 (O+2)) q o aa) else (bif (!h) then (bif (decide ((w64 ((w64 (H+U)) - aa))≥(0:Int))) then (bif (decide ((w64 ((w64 (H+U)) - aa)) < G)) then (idx (w64 ((w64 (H+U)) - aa)) (Q.length:Int)<|bif ((rd Q (w64 ((w64 (H+U)) - aa)) (0:Int))!=(-1:Int)) then (idx (w64 ((w64 (H+U)) - aa)) (Q.length:Int)<|bif (decide ((rd Q (w64 ((w64 (H+U)) - aa)) (0:Int))≥(w64 (F - ah)))) then ((aA (C,(B,(L,((rd Q (w64 ((w64 (H+U)) - aa)) (0:Int)),((w64 ((w64 (H+(rd Q (w64 ((w64 (H+U)) - aa)) (0:Int)))) - (w64 ((w64 (H+U)) - aa)))),())))))).bind fun V=>kr V.1) else (kn C B L F I E H G Q (S.set ao.toNat ah) U h p P O q o aa)) else (kn C B L F I E H G Q (S.set ao.toNat ah) U h p P O q o aa)) else (kn C B L F I E H G Q (S.set ao.toNat ah) U h p P O q o aa)) else (kn C B L F I E H G Q (S.set ao.toNat ah) U h p P O q o aa)) else (kn C B L F I E H G Q (S.set ao.toNat ah) U h p P O q o aa)))
def YZ:FS1 β:=FXs (fI n q67 q82 aC aB aA) n fK (some jS) (some iN) [] [137438206270,274876412542,274876412543]
theorem I6 (C:Z11) (B L:List Int) (F I E H G:Int) (Q S:List Int) (U:Int) (h:Bool) (p P O q o aa ao ah ai:Int):YZ n q67 q82 aC aB aA (iO C B L F I E H G Q S U h p P O q o aa ao ah ai) cx=xS n q67 q82 aC aB aA (fun C B L F I E H G Q S U h p P O q o aa=>cx.nrm (eM C B L F I E H G Q S U h p P O q o aa)) (fun z=>cx.ret (dU z)) C B L F I E H G Q S U h p P O q o aa ao ah ai:=by kernel_rfl
def pR (kn:Z11→List Int→List Int→Int→Int→Int→Int→Int→List Int→List Int→Int→Bool→Int→Int→Int→Int→Int→Int→Option β) (kr:List Z28→Option β) (C:Z11) (B L:List Int) (F I E H G:Int) (Q S:List Int) (U:Int) (h:Bool) (p P O q o aa:Int):Option β:=DW n q67 q82 aC aB aA (fun C B L F I E H G Q S U h p P O q o aa ao ah=>TS n q67 q82 aC aB aA (fun C B L F I E H G Q S U h p P O q o aa ao ah ai=>PO n q67 q82 aC aB aA (fun C B L F I E H G Q S U h p P O q o aa ao ah ai=>xS n q67 q82 aC aB aA kn kr C B L F I E H G Q S U h p P O q o aa ao ah ai) C B L F I E H G Q S U h p P O q o aa ao ah ai) C B L F I E H G Q S U h p P O q o aa ao ah) C B L F I E H G Q S U h p P O q o aa
def GS (s:FState) (cx:Cx β):Option β:=C1 n q67 q82 aC aB aA s {cx with nrm:=fun s=>XE n q67 q82 aC aB aA s {cx with nrm:=fun s=>WT n q67 q82 aC aB aA s {cx with nrm:=fun s=>YZ n q67 q82 aC aB aA s cx}}}
theorem W9 (C:Z11) (B L:List Int) (F I E H G:Int) (Q S:List Int) (U:Int) (h:Bool) (p P O q o aa:Int):GS n q67 q82 aC aB aA (eM C B L F I E H G Q S U h p P O q o aa) cx=pR n q67 q82 aC aB aA (fun C B L F I E H G Q S U h p P O q o aa=>cx.nrm (eM C B L F I E H G Q S U h p P O q o aa)) (fun z=>cx.ret (dU z)) C B L F I E H G Q S U h p P O q o aa:=by simp only [GS,pR,L6,W4,k8,I6]
def SY (kn:Z11→List Int→List Int→Int→Int→Int→Int→Int→List Int→List Int→Int→Bool→Int→Int→Int→Int→Int→Int→Option β) (kr:List Z28→Option β) (C:Z11) (B L:List Int) (F I E H G:Int) (Q S:List Int) (U:Int) (h:Bool) (p P O q o aa:Int):Option β:=pR n q67 q82 aC aB aA kn kr C B L F I E H G Q S U h p P O q o aa
def WB (s:FState) (cx:Cx β):Option β:=GS n q67 q82 aC aB aA s {cx with ex:=fun j s=>bif Nat.beq j 9 then cx.nrm s else cx.ex j s}
theorem I5 (C:Z11) (B L:List Int) (F I E H G:Int) (Q S:List Int) (U:Int) (h:Bool) (p P O q o aa:Int):WB n q67 q82 aC aB aA (eM C B L F I E H G Q S U h p P O q o aa) cx=SY n q67 q82 aC aB aA (fun C B L F I E H G Q S U h p P O q o aa=>cx.nrm (eM C B L F I E H G Q S U h p P O q o aa)) (fun z=>cx.ret (dU z)) C B L F I E H G Q S U h p P O q o aa:=W9 n q67 q82 aC aB aA _ C B L F I E H G Q S U h p P O q o aa
def EL (n:Nat) (q67:Q67) (q82:Q82) (aC:aI) (aB:aK) (aA:aJ) (kn:Z11→List Int→List Int→Int→Int→Int→Int→Int→List Int→List Int→Int→Bool→Int→Int→Int→Int→Int→Int→Option β) (C:Z11) (B L:List Int) (F I E H G:Int) (Q S:List Int) (U:Int) (h:Bool) (p P O q o aa:Int):Option β:=kn C B L F I E H G Q S U h p P O q o (w64 (aa+2))
def A3:FS1 β:=FXs (fI n q67 q82 aC aB aA) n fK (some jS) none [] [1073735987]
theorem R5 (C:Z11) (B L:List Int) (F I E H G:Int) (Q S:List Int) (U:Int) (h:Bool) (p P O q o aa:Int):A3 n q67 q82 aC aB aA (eM C B L F I E H G Q S U h p P O q o aa) cx=EL n q67 q82 aC aB aA (fun C B L F I E H G Q S U h p P O q o aa=>cx.nrm (eM C B L F I E H G Q S U h p P O q o aa)) C B L F I E H G Q S U h p P O q o aa:=by kernel_rfl
def FB (kn:Z11→List Int→List Int→Int→Int→Int→Int→Int→List Int→List Int→Int→Bool→Int→Int→Int→Int→Int→Int→Option β) (kr:List Z28→Option β) (bo:Z11→List Int→List Int→Int→Int→Int→Int→Int→List Int→List Int→Int→Bool→Int→Int→Int→Int→Int→Option β) (C:Z11) (B L:List Int) (F I E H G:Int) (Q S:List Int) (U:Int) (h:Bool) (p P O q o aa:Int):Option β:=PZ n q67 q82 aC aB aA (fun C B L F I E H G Q S U h p P O q o aa=>SY n q67 q82 aC aB aA (fun C B L F I E H G Q S U h p P O q o aa=>EL n q67 q82 aC aB aA kn C B L F I E H G Q S U h p P O q o aa) kr C B L F I E H G Q S U h p P O q o aa) bo C B L F I E H G Q S U h p P O q o aa
def xA (s:FState) (cx:Cx β):Option β:=C3 n q67 q82 aC aB aA s {cx with nrm:=fun s=>WB n q67 q82 aC aB aA s {cx with nrm:=fun s=>A3 n q67 q82 aC aB aA s cx}}
theorem P9 (C:Z11) (B L:List Int) (F I E H G:Int) (Q S:List Int) (U:Int) (h:Bool) (p P O q o aa:Int):xA n q67 q82 aC aB aA (eM C B L F I E H G Q S U h p P O q o aa) cx=FB n q67 q82 aC aB aA (fun C B L F I E H G Q S U h p P O q o aa=>cx.nrm (eM C B L F I E H G Q S U h p P O q o aa)) (fun z=>cx.ret (dU z)) (fun C B L F I E H G Q S U h p P O q o=>cx.ex 8 (cZ C B L F I E H G Q S U h p P O q o)) C B L F I E H G Q S U h p P O q o aa:=by simp only [xA,FB,W2,I5,R5]
def g104_33L (n:Nat) (q67:Q67) (q82:Q82) (aC:aI) (aB:aK) (aA:aJ) (kr:List Z28→Option β) (bo:Z11→List Int→List Int→Int→Int→Int→Int→Int→List Int→List Int→Int→Bool→Int→Int→Int→Int→Int→Option β):Nat→Z11→List Int→List Int→Int→Int→Int→Int→Int→List Int→List Int→Int→Bool→Int→Int→Int→Int→Int→Int→Option β
  | 0,_,_,_,_,_,_,_,_,_,_,_,_,_,_,_,_,_,_=>none
  | m+1,C,B,L,F,I,E,H,G,Q,S,U,h,p,P,O,q,o,aa=>FB n q67 q82 aC aB aA (g104_33L n q67 q82 aC aB aA kr bo m) kr bo C B L F I E H G Q S U h p P O q o aa
def UA (kr:List Z28→Option β) (bo:Z11→List Int→List Int→Int→Int→Int→Int→Int→List Int→List Int→Int→Bool→Int→Int→Int→Int→Int→Option β) (C:Z11) (B L:List Int) (F I E H G:Int) (Q S:List Int) (U:Int) (h:Bool) (p P O q o aa:Int):Option β:=g104_33L n q67 q82 aC aB aA kr bo n C B L F I E H G Q S U h p P O q o aa
def UY (s:FState) (cx:Cx β):Option β:=bK (fun again s=>xA n q67 q82 aC aB aA s {cx with nrm:=again}) n s
theorem ZD (n:Nat) (q67:Q67) (q82:Q82) (aC:aI) (aB:aK) (aA:aJ) (cx:Cx β):∀(m:Nat) (C:Z11) (B L:List Int) (F I E H G:Int) (Q S:List Int) (U:Int) (h:Bool) (p P O q o aa:Int),bK (fun again s=>xA n q67 q82 aC aB aA s {cx with nrm:=again}) m (eM C B L F I E H G Q S U h p P O q o aa)=g104_33L n q67 q82 aC aB aA (fun z=>cx.ret (dU z)) (fun C B L F I E H G Q S U h p P O q o=>cx.ex 8 (cZ C B L F I E H G Q S U h p P O q o)) m C B L F I E H G Q S U h p P O q o aa:=by
  intro m
  induction m with
  | zero=>intros;rfl
  | succ m ih=>intros;simp only [bK,g104_33L,P9,ih]
theorem M7 (C:Z11) (B L:List Int) (F I E H G:Int) (Q S:List Int) (U:Int) (h:Bool) (p P O q o aa:Int):UY n q67 q82 aC aB aA (eM C B L F I E H G Q S U h p P O q o aa) cx=UA n q67 q82 aC aB aA (fun z=>cx.ret (dU z)) (fun C B L F I E H G Q S U h p P O q o=>cx.ex 8 (cZ C B L F I E H G Q S U h p P O q o)) C B L F I E H G Q S U h p P O q o aa:=ZD n q67 q82 aC aB aA cx n C B L F I E H G Q S U h p P O q o aa
def EI (kn:Z11→List Int→List Int→Int→Int→Int→Int→Int→List Int→List Int→Int→Bool→Int→Int→Int→Int→Int→Option β) (kr:List Z28→Option β) (C:Z11) (B L:List Int) (F I E H G:Int) (Q S:List Int) (U:Int) (h:Bool) (p P O q o aa:Int):Option β:=UA n q67 q82 aC aB aA kr kn C B L F I E H G Q S U h p P O q o aa
def VS (s:FState) (cx:Cx β):Option β:=UY n q67 q82 aC aB aA s {cx with ex:=fun j s=>bif Nat.beq j 8 then cx.nrm s else cx.ex j s}
theorem L9 (C:Z11) (B L:List Int) (F I E H G:Int) (Q S:List Int) (U:Int) (h:Bool) (p P O q o aa:Int):VS n q67 q82 aC aB aA (eM C B L F I E H G Q S U h p P O q o aa) cx=EI n q67 q82 aC aB aA (fun C B L F I E H G Q S U h p P O q o=>cx.nrm (cZ C B L F I E H G Q S U h p P O q o)) (fun z=>cx.ret (dU z)) C B L F I E H G Q S U h p P O q o aa:=M7 n q67 q82 aC aB aA _ C B L F I E H G Q S U h p P O q o aa
def EU (kn:Z11→List Int→List Int→Int→Int→Int→Int→Int→List Int→List Int→Int→Bool→Int→Int→Int→Int→Int→Option β) (kr:List Z28→Option β) (C:Z11) (B L:List Int) (F I E H G:Int) (Q S:List Int) (U:Int) (h:Bool) (p P O q o:Int):Option β:=E9 n q67 q82 aC aB aA (fun C B L F I E H G Q S U h p P O q o ab=>OI n q67 q82 aC aB aA (fun C B L F I E H G Q S U h p P O q o=>FC n q67 q82 aC aB aA (fun C B L F I E H G Q S U h p P O q o aa=>EI n q67 q82 aC aB aA kn kr C B L F I E H G Q S U h p P O q o aa) C B L F I E H G Q S U h p P O q o) kr C B L F I E H G Q S U h p P O q o ab) C B L F I E H G Q S U h p P O q o
def HY (s:FState) (cx:Cx β):Option β:=aN3 n q67 q82 aC aB aA s {cx with nrm:=fun s=>ZV n q67 q82 aC aB aA s {cx with nrm:=fun s=>YJ n q67 q82 aC aB aA s {cx with nrm:=fun s=>VS n q67 q82 aC aB aA s cx}}}
theorem o6 (C:Z11) (B L:List Int) (F I E H G:Int) (Q S:List Int) (U:Int) (h:Bool) (p P O q o:Int):HY n q67 q82 aC aB aA (cZ C B L F I E H G Q S U h p P O q o) cx=EU n q67 q82 aC aB aA (fun C B L F I E H G Q S U h p P O q o=>cx.nrm (cZ C B L F I E H G Q S U h p P O q o)) (fun z=>cx.ret (dU z)) C B L F I E H G Q S U h p P O q o:=by simp only [HY,EU,bD8,N8,Z0,L9]
def RP (kn:Z11→List Int→List Int→Int→Int→Int→Int→Int→List Int→List Int→Int→Bool→Int→Int→Int→Int→Int→Option β) (kr:List Z28→Option β) (C:Z11) (B L:List Int) (F I E H G:Int) (Q S:List Int) (U:Int) (h:Bool) (p P O q o:Int):Option β:=EU n q67 q82 aC aB aA kn kr C B L F I E H G Q S U h p P O q o
def YA (s:FState) (cx:Cx β):Option β:=HY n q67 q82 aC aB aA s {cx with ex:=fun j s=>bif Nat.beq j 3 then cx.nrm s else cx.ex j s}
theorem I4 (C:Z11) (B L:List Int) (F I E H G:Int) (Q S:List Int) (U:Int) (h:Bool) (p P O q o:Int):YA n q67 q82 aC aB aA (cZ C B L F I E H G Q S U h p P O q o) cx=RP n q67 q82 aC aB aA (fun C B L F I E H G Q S U h p P O q o=>cx.nrm (cZ C B L F I E H G Q S U h p P O q o)) (fun z=>cx.ret (dU z)) C B L F I E H G Q S U h p P O q o:=o6 n q67 q82 aC aB aA _ C B L F I E H G Q S U h p P O q o
def wV (n:Nat) (q67:Q67) (q82:Q82) (aC:aI) (aB:aK) (aA:aJ) (kn:Z11→List Int→List Int→Int→Int→Int→Int→Int→List Int→List Int→Int→Bool→Int→Int→Int→Int→Int→Option β) (C:Z11) (B L:List Int) (F I E H G:Int) (Q S:List Int) (U:Int) (h:Bool) (p P O q o:Int):Option β:=kn C B L F I E H G Q S U h p P O q (w64 (o+1))
def D4:FS1 β:=FXs (fI n q67 q82 aC aB aA) n fK (some gU) none [] [8388563]
theorem l6 (C:Z11) (B L:List Int) (F I E H G:Int) (Q S:List Int) (U:Int) (h:Bool) (p P O q o:Int):D4 n q67 q82 aC aB aA (cZ C B L F I E H G Q S U h p P O q o) cx=wV n q67 q82 aC aB aA (fun C B L F I E H G Q S U h p P O q o=>cx.nrm (cZ C B L F I E H G Q S U h p P O q o)) C B L F I E H G Q S U h p P O q o:=by kernel_rfl
def FS (kn:Z11→List Int→List Int→Int→Int→Int→Int→Int→List Int→List Int→Int→Bool→Int→Int→Int→Int→Int→Option β) (kr:List Z28→Option β) (ap:List Int→List Int→Option β) (C:Z11) (B L:List Int) (F I E H G:Int) (Q S:List Int) (U:Int) (h:Bool) (p P O q o:Int):Option β:=K4 n q67 q82 aC aB aA (fun C B L F I E H G Q S U h p P O q o=>RP n q67 q82 aC aB aA (fun C B L F I E H G Q S U h p P O q o=>wV n q67 q82 aC aB aA kn C B L F I E H G Q S U h p P O q o) kr C B L F I E H G Q S U h p P O q o) ap C B L F I E H G Q S U h p P O q o
def wJ (s:FState) (cx:Cx β):Option β:=aA6 n q67 q82 aC aB aA s {cx with nrm:=fun s=>YA n q67 q82 aC aB aA s {cx with nrm:=fun s=>D4 n q67 q82 aC aB aA s cx}}
theorem K6 (C:Z11) (B L:List Int) (F I E H G:Int) (Q S:List Int) (U:Int) (h:Bool) (p P O q o:Int):wJ n q67 q82 aC aB aA (cZ C B L F I E H G Q S U h p P O q o) cx=FS n q67 q82 aC aB aA (fun C B L F I E H G Q S U h p P O q o=>cx.nrm (cZ C B L F I E H G Q S U h p P O q o)) (fun z=>cx.ret (dU z)) (fun B L=>cx.ex 2 (tB B L)) C B L F I E H G Q S U h p P O q o:=by simp only [wJ,FS,aT0,I4,l6]
def g104_39L (n:Nat) (q67:Q67) (q82:Q82) (aC:aI) (aB:aK) (aA:aJ) (kr:List Z28→Option β) (ap:List Int→List Int→Option β):Nat→Z11→List Int→List Int→Int→Int→Int→Int→Int→List Int→List Int→Int→Bool→Int→Int→Int→Int→Int→Option β
  | 0,_,_,_,_,_,_,_,_,_,_,_,_,_,_,_,_,_=>none
  | m+1,C,B,L,F,I,E,H,G,Q,S,U,h,p,P,O,q,o=>FS n q67 q82 aC aB aA (g104_39L n q67 q82 aC aB aA kr ap m) kr ap C B L F I E H G Q S U h p P O q o
def TV (kr:List Z28→Option β) (ap:List Int→List Int→Option β) (C:Z11) (B L:List Int) (F I E H G:Int) (Q S:List Int) (U:Int) (h:Bool) (p P O q o:Int):Option β:=g104_39L n q67 q82 aC aB aA kr ap n C B L F I E H G Q S U h p P O q o
def D5 (s:FState) (cx:Cx β):Option β:=bK (fun again s=>wJ n q67 q82 aC aB aA s {cx with nrm:=again}) n s
theorem ZL (n:Nat) (q67:Q67) (q82:Q82) (aC:aI) (aB:aK) (aA:aJ) (cx:Cx β):∀(m:Nat) (C:Z11) (B L:List Int) (F I E H G:Int) (Q S:List Int) (U:Int) (h:Bool) (p P O q o:Int),bK (fun again s=>wJ n q67 q82 aC aB aA s {cx with nrm:=again}) m (cZ C B L F I E H G Q S U h p P O q o)=g104_39L n q67 q82 aC aB aA (fun z=>cx.ret (dU z)) (fun B L=>cx.ex 2 (tB B L)) m C B L F I E H G Q S U h p P O q o:=by
  intro m
  induction m with
  | zero=>intros;rfl
  | succ m ih=>intros;simp only [bK,g104_39L,K6,ih]
theorem W5 (C:Z11) (B L:List Int) (F I E H G:Int) (Q S:List Int) (U:Int) (h:Bool) (p P O q o:Int):D5 n q67 q82 aC aB aA (cZ C B L F I E H G Q S U h p P O q o) cx=TV n q67 q82 aC aB aA (fun z=>cx.ret (dU z)) (fun B L=>cx.ex 2 (tB B L)) C B L F I E H G Q S U h p P O q o:=ZL n q67 q82 aC aB aA cx n C B L F I E H G Q S U h p P O q o
def DV (kn:List Int→List Int→Option β) (kr:List Z28→Option β) (C:Z11) (B L:List Int) (F I E H G:Int) (Q S:List Int) (U:Int) (h:Bool) (p P O q o:Int):Option β:=TV n q67 q82 aC aB aA kr kn C B L F I E H G Q S U h p P O q o
def WY (s:FState) (cx:Cx β):Option β:=D5 n q67 q82 aC aB aA s {cx with ex:=fun j s=>bif Nat.beq j 2 then cx.nrm s else cx.ex j s}
theorem U5 (C:Z11) (B L:List Int) (F I E H G:Int) (Q S:List Int) (U:Int) (h:Bool) (p P O q o:Int):WY n q67 q82 aC aB aA (cZ C B L F I E H G Q S U h p P O q o) cx=DV n q67 q82 aC aB aA (fun B L=>cx.nrm (tB B L)) (fun z=>cx.ret (dU z)) C B L F I E H G Q S U h p P O q o:=W5 n q67 q82 aC aB aA _ C B L F I E H G Q S U h p P O q o
def EN (n:Nat) (q67:Q67) (q82:Q82) (aC:aI) (aB:aK) (aA:aJ) (kr:List Z28→Option β) (B L:List Int):Option β:=kr [((-1:Int),(runesBytes B)),((1:Int),(runesBytes L))]
def B3:FS1 β:=FXs (fI n q67 q82 aC aB aA) n fK none (some iN) [] [524286,524287]
theorem H9 (B L:List Int):B3 n q67 q82 aC aB aA (tB B L) cx=EN n q67 q82 aC aB aA (fun z=>cx.ret (dU z)) B L:=by kernel_rfl
def sO (kr:List Z28→Option β) (C:Z11) (B L:List Int):Option β:=K1 n q67 q82 aC aB aA (fun C B L F I E H G Q S bd ax=>m9 n q67 q82 aC aB aA (fun C B L F I E H G Q S=>RM n q67 q82 aC aB aA (fun C B L F I E H G Q S U h p P O q o=>DV n q67 q82 aC aB aA (fun B L=>EN n q67 q82 aC aB aA kr B L) kr C B L F I E H G Q S U h p P O q o) C B L F I E H G Q S) C B L F I E H G Q S bd ax) C B L
def yU (s:FState) (cx:Cx β):Option β:=aN8 n q67 q82 aC aB aA s {cx with nrm:=fun s=>aH2 n q67 q82 aC aB aA s {cx with nrm:=fun s=>aB0 n q67 q82 aC aB aA s {cx with nrm:=fun s=>WY n q67 q82 aC aB aA s {cx with nrm:=fun s=>B3 n q67 q82 aC aB aA s cx}}}}
theorem K2 (C:Z11) (B L:List Int):yU n q67 q82 aC aB aA (PL C B L) cx=sO n q67 q82 aC aB aA (fun z=>cx.ret (dU z)) C B L:=by simp only [yU,sO,bA0,aS3,bF9,U5,H9]
def eT3 (C:Z11) (B L:List Int):Option (DenR [.rw Z25 81]):=sO n q67 q82 aC aB aA (fun z=>some (z,())) C B L
def aQ3 (d:DenA eL):Option (DenR dE):=eT3 n q67 q82 aC aB aA d.1 d.2.1 d.2.2.1
def cP9:Sk:=(.nd (.fin none none none [] .leaf) (.nd (.fin none none none [] .leaf) (.nd (.fin none none none [] .leaf) (.nd (.fin none none none [] .leaf) (.nd (.fin none none none [] .leaf) (.nd (.fin none none none [] .leaf) (.nd (.fin none none none [] .leaf) (.nd (.nd (.fin none (some yM) none [] .leaf) (.nd (.nd (.nd (.fin none none none [(0,rA)] .leaf) (.nd (.fin none none none [(0,rA)] .leaf) (.nd (.fin none none none [(0,rA)] .leaf) (.fin none (some yM) none [(0,rA)] .leaf)))) .leaf) .leaf)) (.nd (.fin none none none [] .leaf) (.nd (.fin none none none [] .leaf) (.nd (.fin none none none [] .leaf) (.nd (.fin none none none [] .leaf) (.nd (.fin none none none [] .leaf) (.nd (.fin none none none [] .leaf) (.nd (.fin none none none [] .leaf) (.nd (.fin none none none [] .leaf) (.nd (.nd (.fin none (some gU) none [] .leaf) (.nd (.nd (.nd (.nd (.fin none none none [(2,FZ)] .leaf) (.fin none (some gU) none [(2,FZ)] .leaf)) (.nd (.nd (.nd (.nd (.fin none (some lH) none [] .leaf) (.nd (.nd (.nd (.nd (.fin none none none [(4,gU)] .leaf) (.fin none (some lH) none [(4,gU)] .leaf)) (.nd (.nd (.nd (.fin none none none [] .leaf) (.nd (.fin none none none [] .leaf) (.nd (.nd (.fin none none none [] .leaf) (.fin none (some MI) none [] .leaf)) (.nd (.fin none (some jQ) none [] .leaf) (.nd (.nd (.nd (.nd (.nd (.fin none none none [(6,jQ)] .leaf) (.fin none none none [(6,jQ)] .leaf)) (.fin none (some jQ) none [(6,jQ)] .leaf)) .leaf) .leaf) (.nd (.fin none none (some iN) [] .leaf) (.nd (.fin none none (some iN) [] .leaf) (.fin none (some lH) (some iN) [] .leaf)))))))) .leaf) (.fin none (some lH) none [] .leaf))) .leaf) .leaf)) (.nd (.fin none (some jS) none [] .leaf) (.nd (.nd (.nd (.nd (.fin none none none [(8,gU)] .leaf) (.fin none (some jS) none [(8,gU)] .leaf)) (.nd (.nd (.nd (.fin none none none [] .leaf) (.nd (.fin none none none [] .leaf) (.nd (.nd (.fin none none none [] .leaf) (.fin none (some NI) none [] .leaf)) (.nd (.fin none (some jX) none [] .leaf) (.nd (.nd (.nd (.nd (.nd (.fin none none none [(10,jX)] .leaf) (.fin none none none [(10,jX)] .leaf)) (.fin none (some jX) none [(10,jX)] .leaf)) .leaf) .leaf) (.nd (.fin none none (some iN) [] .leaf) (.nd (.fin none none (some iN) [] .leaf) (.fin none (some jS) (some iN) [] .leaf)))))))) .leaf) (.fin none (some jS) none [] .leaf))) .leaf) .leaf))) .leaf) (.fin none (some gU) none [] .leaf))) .leaf) .leaf)) (.nd (.fin none none (some iN) [] .leaf) (.fin none none (some iN) [] .leaf)))))))))))))))))))
theorem dK4 (s:FState) (cx:Cx β):FX (fI n q67 q82 aC aB aA) n fK cP9 s cx=yU n q67 q82 aC aB aA s cx:=by kernel_rfl
theorem aY3 (h67:Fit Tryd.prog 67 (aM gV dZ q67)) (h82:Fit Tryd.prog 82 (aM gX eX q82)) (h103:Fit Tryd.prog 103 (aM eH dC aC)) (h104:Fit Tryd.prog 104 (aM eL dE aB)) (h121:Fit Tryd.prog 121 (aM eD dQ aA)):Fit Tryd.prog 104 (aM eL dE (aQ3 n q67 q82 aC aB aA)):=
  cD (Γ:=Γ0) (l:=cO4 n q67 q82 aC aB aA) (n:=n) (sk:=cP9) (ts:=[(6,none)]) (fn:=Tryd.f104) (c:=fK) (by kernel_rfl) (by kernel_rfl) (by unfold aO;kernel_rfl) cB ⟨h67,h82,h103,h104,h121,trivial⟩ aH (by kernel_rfl) (by kernel_rfl) (Nat.le_of_ble_eq_true (by kernel_rfl)) (Nat.le_of_ble_eq_true (by kernel_rfl)) (by kernel_rfl) (by kernel_rfl)
    (fun d=>(dK4 n q67 q82 aC aB aA _ _).trans (Eq.trans (b:=yU n q67 q82 aC aB aA (PL d.1 d.2.1 d.2.2.1) (cG (fI n q67 q82 aC aB aA) dE [(6,none)])) (by kernel_rfl) ((K2 n q67 q82 aC aB aA _ d.1 d.2.1 d.2.2.1).trans (by kernel_rfl))))
def aP1 (C:Z11) (B L:List Int) (v3 v4:Int):FState:=⟨aG [(0,.ptr 0 0 0),(1,.sl 1 none false),(2,.sl 2 none false),(3,.dat (.int .i64) v3),(4,.dat (.int .i64) v4)],aD [(0,.row Z1 74 false [C]),(1,.row (.int .i32) 21 false B),(2,.row (.int .i32) 21 false L)]⟩
def dR1 (W:List Z28):FState:=⟨aG [(10,.sl 10 none false)],aD [(10,.row Z25 81 true W)]⟩
def jD:List NE:=[.row 10 Z25 81 true]
def cU9 (n:Nat) (q67:Q67) (q82:Q82) (aC:aI) (aB:aK) (aA:aJ):List (Nat×Spec):=[(67,aM gV dZ q67),(82,aM gX eX q82),(103,aM eH dC aC),(104,aM eL dE aB),(121,aM eD dQ aA)]
def J6:Ctx:={Γ0 with calls:=lkS (cU9 n q67 q82 aC aB aA)}
def M5:Code:=fb Tryd.f121
def O4 (n:Nat) (q67:Q67) (q82:Q82) (aC:aI) (aB:aK) (aA:aJ) (kr:List Z28→Option β) (C:Z11) (B L:List Int) (v3 v4:Int):Option β:=bnd (0:Int) v3 (B.length:Int)<|bnd (0:Int) v4 (L.length:Int)<|bnd v3 (B.length:Int) (B.length:Int)<|bnd v4 (L.length:Int) (L.length:Int)<|(q67 (C,((cut B (0:Int) v3),((cut L (0:Int) v4),(false,()))))).bind fun V=>(q67 (C,((cut B v3 (B.length:Int)),((cut L v4 (L.length:Int)),(false,()))))).bind fun r2=>cJ (V.1.length+r2.1.length)<|kr (V.1++r2.1)
def UG:FS1 β:=FXs (J6 n q67 q82 aC aB aA) n M5 none (some jD) [] [2,6,14,30,62,126,254,510,511]
theorem bA7 (C:Z11) (B L:List Int) (v3 v4:Int):UG n q67 q82 aC aB aA (aP1 C B L v3 v4) cx=O4 n q67 q82 aC aB aA (fun W=>cx.ret (dR1 W)) C B L v3 v4:=by kernel_rfl
def R8 (C:Z11) (B L:List Int) (v3 v4:Int):Option (DenR [.rw Z25 81]):=O4 n q67 q82 aC aB aA (fun W=>some (W,())) C B L v3 v4
def aP4 (d:DenA eD):Option (DenR dQ):=R8 n q67 q82 aC aB aA d.1 d.2.1 d.2.2.1 d.2.2.2.1 d.2.2.2.2.1
def cB9:Sk:=(.nd (.fin none none (some jD) [] .leaf) (.nd (.fin none none (some jD) [] .leaf) (.nd (.fin none none (some jD) [] .leaf) (.nd (.fin none none (some jD) [] .leaf) (.nd (.fin none none (some jD) [] .leaf) (.nd (.fin none none (some jD) [] .leaf) (.nd (.fin none none (some jD) [] .leaf) (.nd (.fin none none (some jD) [] .leaf) (.fin none none (some jD) [] .leaf)))))))))
theorem cG2 (s:FState) (cx:Cx β):FX (J6 n q67 q82 aC aB aA) n M5 cB9 s cx=UG n q67 q82 aC aB aA s cx:=by kernel_rfl
theorem aS1 (h67:Fit Tryd.prog 67 (aM gV dZ q67)) (h82:Fit Tryd.prog 82 (aM gX eX q82)) (h103:Fit Tryd.prog 103 (aM eH dC aC)) (h104:Fit Tryd.prog 104 (aM eL dE aB)) (h121:Fit Tryd.prog 121 (aM eD dQ aA)):Fit Tryd.prog 121 (aM eD dQ (aP4 n q67 q82 aC aB aA)):=
  cD (Γ:=Γ0) (l:=cU9 n q67 q82 aC aB aA) (n:=n) (sk:=cB9) (ts:=[(10,none)]) (fn:=Tryd.f121) (c:=M5) (by kernel_rfl) (by kernel_rfl) (by unfold aO;kernel_rfl) cB ⟨h67,h82,h103,h104,h121,trivial⟩ aH (by kernel_rfl) (by kernel_rfl) (Nat.le_of_ble_eq_true (by kernel_rfl)) (Nat.le_of_ble_eq_true (by kernel_rfl)) (by kernel_rfl) (by kernel_rfl)
    (fun d=>(cG2 n q67 q82 aC aB aA _ _).trans (Eq.trans (b:=UG n q67 q82 aC aB aA (aP1 d.1 d.2.1 d.2.2.1 d.2.2.2.1 d.2.2.2.2.1) (cG (J6 n q67 q82 aC aB aA) dQ [(10,none)])) (by kernel_rfl) ((bA7 n q67 q82 aC aB aA _ d.1 d.2.1 d.2.2.1 d.2.2.2.1 d.2.2.2.2.1).trans (by kernel_rfl))))
def aQ (n:Nat):Nat→(DenA gV→Option (DenR dZ))×(DenA gX→Option (DenR eX))×(DenA eH→Option (DenR dC))×(DenA eL→Option (DenR dE))×(DenA eD→Option (DenR dQ))
  | 0=>(fun _=>none,fun _=>none,fun _=>none,fun _=>none,fun _=>none)
  | m+1=>(cH6 n (aQ n m).1 (aQ n m).2.1 (aQ n m).2.2.1 (aQ n m).2.2.2.1 (aQ n m).2.2.2.2,cM3 n (aQ n m).1 (aQ n m).2.1 (aQ n m).2.2.1 (aQ n m).2.2.2.1 (aQ n m).2.2.2.2,aL4 n (aQ n m).1 (aQ n m).2.1 (aQ n m).2.2.1 (aQ n m).2.2.2.1 (aQ n m).2.2.2.2,aQ3 n (aQ n m).1 (aQ n m).2.1 (aQ n m).2.2.1 (aQ n m).2.2.2.1 (aQ n m).2.2.2.2,aP4 n (aQ n m).1 (aQ n m).2.1 (aQ n m).2.2.1 (aQ n m).2.2.2.1 (aQ n m).2.2.2.2)
theorem bL (n:Nat):∀m:Nat,Fit Tryd.prog 67 (aM gV dZ (aQ n m).1)∧Fit Tryd.prog 82 (aM gX eX (aQ n m).2.1)∧Fit Tryd.prog 103 (aM eH dC (aQ n m).2.2.1)∧Fit Tryd.prog 104 (aM eL dE (aQ n m).2.2.2.1)∧Fit Tryd.prog 121 (aM eD dQ (aQ n m).2.2.2.2)
  | 0=>⟨mY (by unfold aO;kernel_rfl),mY (by unfold aO;kernel_rfl),mY (by unfold aO;kernel_rfl),mY (by unfold aO;kernel_rfl),mY (by unfold aO;kernel_rfl)⟩
  | m+1=>⟨bI0 n (aQ n m).1 (aQ n m).2.1 (aQ n m).2.2.1 (aQ n m).2.2.2.1 (aQ n m).2.2.2.2 (bL n m).1 (bL n m).2.1 (bL n m).2.2.1 (bL n m).2.2.2.1 (bL n m).2.2.2.2,bR5 n (aQ n m).1 (aQ n m).2.1 (aQ n m).2.2.1 (aQ n m).2.2.2.1 (aQ n m).2.2.2.2 (bL n m).1 (bL n m).2.1 (bL n m).2.2.1 (bL n m).2.2.2.1 (bL n m).2.2.2.2,bA6 n (aQ n m).1 (aQ n m).2.1 (aQ n m).2.2.1 (aQ n m).2.2.2.1 (aQ n m).2.2.2.2 (bL n m).1 (bL n m).2.1 (bL n m).2.2.1 (bL n m).2.2.2.1 (bL n m).2.2.2.2,aY3 n (aQ n m).1 (aQ n m).2.1 (aQ n m).2.2.1 (aQ n m).2.2.2.1 (aQ n m).2.2.2.2 (bL n m).1 (bL n m).2.1 (bL n m).2.2.1 (bL n m).2.2.2.1 (bL n m).2.2.2.2,aS1 n (aQ n m).1 (aQ n m).2.1 (aQ n m).2.2.1 (aQ n m).2.2.2.1 (aQ n m).2.2.2.2 (bL n m).1 (bL n m).2.1 (bL n m).2.2.1 (bL n m).2.2.2.1 (bL n m).2.2.2.2⟩
end
section
variable (n:Nat) (cx:Cx β)
def eK2 (d:DenA gV):Option (DenR dZ):=(aQ n n).1 d
def g67 (a0:AK.den (.pro Z1 74)) (a1 a2:AK.den (.ro (.int .i32) 21)) (a3:AK.den (.dat .bool)):Option (DenR dZ):=eK2 n (a0,(a1,(a2,(a3,()))))
def eD8:Spec:=aM gV dZ (eK2 n)
theorem dT5:Fit Tryd.prog 67 (eD8 n):=(bL n n).1
def eM7 (d:DenA gX):Option (DenR eX):=(aQ n n).2.1 d
def g82 (a0:AK.den (.pro Z1 74)) (a1 a2:AK.den (.ro (.int .i32) 21)) (a3:AK.den (.dat .bool)):Option (DenR eX):=eM7 n (a0,(a1,(a2,(a3,()))))
def fD0:Spec:=aM gX eX (eM7 n)
theorem fH8:Fit Tryd.prog 82 (fD0 n):=(bL n n).2.1
def bK5 (d:DenA eH):Option (DenR dC):=(aQ n n).2.2.1 d
def fJ0 (a0:AK.den (.pro Z1 74)) (a1 a2:AK.den (.ro (.int .i32) 21)):Option (DenR dC):=bK5 n (a0,(a1,(a2,())))
def eX3:Spec:=aM eH dC (bK5 n)
theorem fC0:Fit Tryd.prog 103 (eX3 n):=(bL n n).2.2.1
def dD8 (d:DenA eL):Option (DenR dE):=(aQ n n).2.2.2.1 d
def fJ1 (a0:AK.den (.pro Z1 74)) (a1 a2:AK.den (.ro (.int .i32) 21)):Option (DenR dE):=dD8 n (a0,(a1,(a2,())))
def eT6:Spec:=aM eL dE (dD8 n)
theorem fA0:Fit Tryd.prog 104 (eT6 n):=(bL n n).2.2.2.1
def cK0 (d:DenA eD):Option (DenR dQ):=(aQ n n).2.2.2.2 d
def fI9 (a0:AK.den (.pro Z1 74)) (a1 a2:AK.den (.ro (.int .i32) 21)) (a3 a4:AK.den (.dat (.int .i64))):Option (DenR dQ):=cK0 n (a0,(a1,(a2,(a3,(a4,())))))
def eY9:Spec:=aM eD dQ (cK0 n)
theorem fE4:Fit Tryd.prog 121 (eY9 n):=(bL n n).2.2.2.2
def bH0 (C:Z11) (B L:List Int) (v3:Bool):FState:=⟨aG [(0,.ptr 0 0 0),(1,.sl 1 none false),(2,.sl 2 none false),(3,.dat .bool v3)],aD [(0,.row Z1 74 false [C]),(1,.row (.int .i32) 21 false B),(2,.row (.int .i32) 21 false L)]⟩
def eY0 (X:List Z28):FState:=⟨aG [(8,.sl 8 none false)],aD [(8,.row Z25 81 true X)]⟩
def EY:List NE:=[.row 8 Z25 81 true]
def eJ8:List (Nat×Spec):=[(67,eD8 n)]
def bT4:Ctx:={Γ0 with calls:=lkS (eJ8 n)}
def cT4:Code:=fb Tryd.f53
def w7 (kr:List Z28→Option β) (C:Z11) (B L:List Int) (v3:Bool):Option β:=(g67 n C B L v3).bind fun V=>kr V.1
def G1:FS1 β:=FXs (bT4 n) n cT4 none (some EY) [] [2,6,7]
theorem cF9 (C:Z11) (B L:List Int) (v3:Bool):G1 n (bH0 C B L v3) cx=w7 n (fun X=>cx.ret (eY0 X)) C B L v3:=by kernel_rfl
def g53 (C:Z11) (B L:List Int) (v3:Bool):Option (DenR [.rw Z25 81]):=w7 n (fun X=>some (X,())) C B L v3
def eL8:List AK:=[.pro Z1 74,.ro (.int .i32) 21,.ro (.int .i32) 21,.dat .bool]
def cC1:List RK:=[.rw Z25 81]
def fG2 (d:DenA eL8):Option (DenR cC1):=g53 n d.1 d.2.1 d.2.2.1 d.2.2.2.1
def cC2:Spec:=aM eL8 cC1 (fG2 n)
def eC1:Sk:=(.nd (.fin none none (some EY) [] .leaf) (.nd (.fin none none (some EY) [] .leaf) (.fin none none (some EY) [] .leaf)))
theorem dN5 (s:FState) (cx:Cx β):FX (bT4 n) n cT4 eC1 s cx=G1 n s cx:=by kernel_rfl
theorem aK5:Fit Tryd.prog 53 (cC2 n):=
  cD (Γ:=Γ0) (l:=eJ8 n) (n:=n) (sk:=eC1) (ts:=[(8,none)]) (fn:=Tryd.f53) (c:=cT4) (by kernel_rfl) (by kernel_rfl) (by unfold aO;kernel_rfl) cB ⟨dT5 n,trivial⟩ aH (by kernel_rfl) (by kernel_rfl) (Nat.le_of_ble_eq_true (by kernel_rfl)) (Nat.le_of_ble_eq_true (by kernel_rfl)) (by kernel_rfl) (by kernel_rfl)
    (fun d=>(dN5 n _ _).trans (Eq.trans (b:=G1 n (bH0 d.1 d.2.1 d.2.2.1 d.2.2.2.1) (cG (bT4 n) cC1 [(8,none)])) (by kernel_rfl) ((cF9 n _ d.1 d.2.1 d.2.2.1 d.2.2.2.1).trans (by kernel_rfl))))
end
end
end Go.Proofs.YticibdjilmclgaaDoorZF
