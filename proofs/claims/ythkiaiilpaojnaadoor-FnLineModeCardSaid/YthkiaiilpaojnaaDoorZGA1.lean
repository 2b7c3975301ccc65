import Derived.Test.YthkiaiilpaojnaaDoorZFT
import Derived.Test.YthkiaiilpaojnaaDoorZFE
import Derived.Test.YthkiaiilpaojnaaDoorZGA0
namespace Go.Proofs.YthkiaiilpaojnaaDoorZF
noncomputable section
open Go Go.Proofs
set_option linter.unusedVariables false
set_option maxRecDepth 100000
variable {β:Type}
def WR (C:Z11) (B:List Z26):FState:=⟨aM [(0,.ptr 0 0 0),(1,.sl 1 none false)],aE [(0,.row Z1 106 false [C]),(1,.row Z22 115 true B)]⟩
def aZ8 (x4:List Z26):FState:=⟨aM [(4,.sl 4 none false)],aE [(4,.row Z22 115 true x4)]⟩
def KY:List NE:=[.row 4 Z22 115 true]
def eX (C:Z11) (B:List Z26) (D:Int):FState:=⟨aM [(0,.ptr 0 0 0),(1,.sl 1 none false),(5,.dat (.int .i64) D)],aE [(0,.row Z1 106 false [C]),(1,.row Z22 115 true B)]⟩
def jG:List NE:=[.ptr 0 Z1 106 false,.row 1 Z22 115 true,.keep 5]
def uD (B:List Z26):FState:=⟨aM [(1,.sl 1 none false)],aE [(1,.row Z22 115 true B)]⟩
def JU:List NE:=[.row 1 Z22 115 true]
def zY (C:Z11) (B:List Z26) (D:Int) (bg:Bool):FState:=⟨aM [(0,.ptr 0 0 0),(1,.sl 1 none false),(5,.dat (.int .i64) D),(38,.dat .bool bg)],aE [(0,.row Z1 106 false [C]),(1,.row Z22 115 true B)]⟩
def ZT:List NE:=[.ptr 0 Z1 106 false,.row 1 Z22 115 true,.keep 5,.keep 38]
def bH6 (C:Z11) (B:List Z26) (D:Int) (T E G:BA):FState:=⟨aM [(0,.ptr 0 0 0),(1,.sl 1 none false),(5,.dat (.int .i64) D),(6,.dat .str T),(7,.dat .str E),(8,.dat .str G)],aE [(0,.row Z1 106 false [C]),(1,.row Z22 115 true B)]⟩
def B4:List NE:=[.ptr 0 Z1 106 false,.row 1 Z22 115 true,.keep 5,.keep 6,.keep 7,.keep 8]
def uS (C:Z11) (B:List Z26) (D:Int) (T E G H N q:BA) (ac:Int):FState:=⟨aM [(0,.ptr 0 0 0),(1,.sl 1 none false),(5,.dat (.int .i64) D),(6,.dat .str T),(7,.dat .str E),(8,.dat .str G),(11,.dat .str H),(12,.dat .str N),(13,.dat .str q),(14,.dat (.int .i64) ac)],aE [(0,.row Z1 106 false [C]),(1,.row Z22 115 true B)]⟩
def BG:List NE:=[.ptr 0 Z1 106 false,.row 1 Z22 115 true,.keep 5,.keep 6,.keep 7,.keep 8,.keep 11,.keep 12,.keep 13,.keep 14]
def wU (C:Z11) (B:List Z26) (D:Int) (H N q:BA):FState:=⟨aM [(0,.ptr 0 0 0),(1,.sl 1 none false),(5,.dat (.int .i64) D),(11,.dat .str H),(12,.dat .str N),(13,.dat .str q)],aE [(0,.row Z1 106 false [C]),(1,.row Z22 115 true B)]⟩
def xU:List NE:=[.ptr 0 Z1 106 false,.row 1 Z22 115 true,.keep 5,.keep 11,.keep 12,.keep 13]
section
variable (n:Nat) (cx:Cx β)
def dR2:List (Nat×Spec):=[(113,JL n),(163,dG9 n),(164,cY0 n),(165,aC5 n)]
def mG:Ctx:={Γ0 with calls:=lkS (dR2 n)}
def kZ:Code:=fb Tryd.f141
def d3 (n:Nat) (kn:Z11→List Z26→Int→Option β) (C:Z11) (B:List Z26):Option β:=kn C B (1:Int)
def bC7:FS1 β:=FXs (mG n) n kZ (some jG) none [] [2,6]
theorem cB7 (C:Z11) (B:List Z26):bC7 n (WR C B) cx=d3 n (fun C B D=>cx.nrm (eX C B D)) C B:=by kernel_rfl
def u7 (n:Nat) (kn:Z11→List Z26→Int→Option β) (ae:List Z26→Option β) (C:Z11) (B:List Z26) (D:Int):Option β:=bif (decide (D < (w64 ((B.length:Int) - 1)))) then (kn C B D) else (ae B)
def bB5:FS1 β:=FXs (mG n) n kZ (some jG) none [(0,JU)] [224,225]
theorem cE7 (C:Z11) (B:List Z26) (D:Int):bB5 n (eX C B D) cx=u7 n (fun C B D=>cx.nrm (eX C B D)) (fun B=>cx.ex 0 (uD B)) C B D:=by kernel_rfl
def u6 (n:Nat) (kn:Z11→List Z26→Int→Bool→Option β) (C:Z11) (B:List Z26) (D:Int):Option β:=idx (w64 (D - 1)) (B.length:Int)<|bif ((rd B (w64 (D - 1)) Z17).1==(0:Int)) then (idx (w64 (D+1)) (B.length:Int)<|kn C B D ((rd B (w64 (D+1)) Z17).1==(0:Int))) else (kn C B D false)
def bI6:FS1 β:=FXs (mG n) n kZ (some ZT) none [] [904]
theorem bS7 (C:Z11) (B:List Z26) (D:Int):bI6 n (eX C B D) cx=u6 n (fun C B D bg=>cx.nrm (zY C B D bg)) C B D:=by kernel_rfl
def aR9 (kn:Z11→List Z26→Int→BA→BA→BA→Option β) (C:Z11) (B:List Z26) (D:Int) (bg:Bool):Option β:=idx (w64 (D - 1)) (B.length:Int)<|idx D (B.length:Int)<|idx (w64 (D+1)) (B.length:Int)<|(eJ4 n C ((rd B (w64 (D - 1)) Z17).2) ((rd B D Z17).2)).bind fun W=>bif (decide (W.1>(0:Int))) then (bnd (w64 ((((rd B D Z17).2).size:Int) - W.1)) (((rd B D Z17).2).size:Int) (((rd B D Z17).2).size:Int)<|bnd (0:Int) (w64 ((((rd B (w64 (D - 1)) Z17).2).size:Int) - W.1)) (((rd B (w64 (D - 1)) Z17).2).size:Int)<|bnd (0:Int) (w64 ((((rd B D Z17).2).size:Int) - W.1)) (((rd B D Z17).2).size:Int)<|cM ((bD ((rd B D Z17).2) (w64 ((((rd B D Z17).2).size:Int) - W.1)) (((rd B D Z17).2).size:Int)).size+(bD ((rd B D Z17).2) (0:Int) (w64 ((((rd B D Z17).2).size:Int) - W.1))).size)<|cM ((bD ((rd B D Z17).2) (w64 ((((rd B D Z17).2).size:Int) - W.1)) (((rd B D Z17).2).size:Int)).size+((rd B (w64 (D+1)) Z17).2).size)<|kn C B D (bD ((rd B (w64 (D - 1)) Z17).2) (0:Int) (w64 ((((rd B (w64 (D - 1)) Z17).2).size:Int) - W.1))) ((bD ((rd B D Z17).2) (w64 ((((rd B D Z17).2).size:Int) - W.1)) (((rd B D Z17).2).size:Int))++(bD ((rd B D Z17).2) (0:Int) (w64 ((((rd B D Z17).2).size:Int) - W.1)))) ((bD ((rd B D Z17).2) (w64 ((((rd B D Z17).2).size:Int) - W.1)) (((rd B D Z17).2).size:Int))++(rd B (w64 (D+1)) Z17).2)) else (kn C B D ((rd B (w64 (D - 1)) Z17).2) ((rd B D Z17).2) ((rd B (w64 (D+1)) Z17).2))
def aU6:FS1 β:=FXs (mG n) n kZ (some B4) none [] [3620,7242,14486,28974,115900,115901]
theorem cB4 (C:Z11) (B:List Z26) (D:Int) (bg:Bool):aU6 n (zY C B D bg) cx=aR9 n (fun C B D T E G=>cx.nrm (bH6 C B D T E G)) C B D bg:=by kernel_rfl
def QU (kn:Z11→List Z26→Int→BA→BA→BA→BA→BA→BA→Int→Option β) (C:Z11) (B:List Z26) (D:Int) (T E G:BA):Option β:=(n7 n T E).bind fun W=>(n7 n E G).bind fun r2=>kn C B D T E G T E G (w64 (W.1+r2.1))
def aY5:FS1 β:=FXs (mG n) n kZ (some BG) none [] [115902,231806,463614,927230]
theorem bY3 (C:Z11) (B:List Z26) (D:Int) (T E G:BA):aY5 n (bH6 C B D T E G) cx=QU n (fun C B D T E G H N q ac=>cx.nrm (uS C B D T E G H N q ac)) C B D T E G:=by kernel_rfl
def PI (kn:Z11→List Z26→Int→BA→BA→BA→BA→BA→BA→Int→Option β) (ap:Z11→List Z26→Int→BA→BA→BA→Option β) (C:Z11) (B:List Z26) (D:Int) (T E G H N q:BA) (ac:Int):Option β:=bif ((E.size:Int)!=(0:Int)) then (bif ((G.size:Int)!=(0:Int)) then ((bY5 n E).bind fun W=>bif (decide ((G.size:Int) < W.2.1)) then (ap C B D H N q) else (bnd (0:Int) W.2.1 (E.size:Int)<|bnd (0:Int) W.2.1 (G.size:Int)<|bif (!eL (bD E (0:Int) W.2.1) (bD G (0:Int) W.2.1)) then (ap C B D H N q) else (bnd (0:Int) W.2.1 (E.size:Int)<|cM (T.size+(bD E (0:Int) W.2.1).size)<|bnd W.2.1 (E.size:Int) (E.size:Int)<|bnd (0:Int) W.2.1 (G.size:Int)<|cM ((bD E W.2.1 (E.size:Int)).size+(bD G (0:Int) W.2.1).size)<|bnd W.2.1 (G.size:Int) (G.size:Int)<|(n7 n (T++(bD E (0:Int) W.2.1)) ((bD E W.2.1 (E.size:Int))++(bD G (0:Int) W.2.1))).bind fun r2=>(n7 n ((bD E W.2.1 (E.size:Int))++(bD G (0:Int) W.2.1)) (bD G W.2.1 (G.size:Int))).bind fun r3=>bif (decide ((w64 (r2.1+r3.1))≥ac)) then (kn C B D (T++(bD E (0:Int) W.2.1)) ((bD E W.2.1 (E.size:Int))++(bD G (0:Int) W.2.1)) (bD G W.2.1 (G.size:Int)) (T++(bD E (0:Int) W.2.1)) ((bD E W.2.1 (E.size:Int))++(bD G (0:Int) W.2.1)) (bD G W.2.1 (G.size:Int)) (w64 (r2.1+r3.1))) else (kn C B D (T++(bD E (0:Int) W.2.1)) ((bD E W.2.1 (E.size:Int))++(bD G (0:Int) W.2.1)) (bD G W.2.1 (G.size:Int)) H N q ac)))) else (ap C B D H N q)) else (ap C B D H N q)
def SM:FS1 β:=FXs (mG n) n kZ (some BG) none [(2,xU)] [29671392,29671393,14835697]
theorem cB0 (C:Z11) (B:List Z26) (D:Int) (T E G H N q:BA) (ac:Int):SM n (uS C B D T E G H N q ac) cx=PI n (fun C B D T E G H N q ac=>cx.nrm (uS C B D T E G H N q ac)) (fun C B D H N q=>cx.ex 2 (wU C B D H N q)) C B D T E G H N q ac:=by kernel_rfl
def g141_7L (n:Nat) (ap:Z11→List Z26→Int→BA→BA→BA→Option β):Nat→Z11→List Z26→Int→BA→BA→BA→BA→BA→BA→Int→Option β
  | 0,_,_,_,_,_,_,_,_,_,_=>none
  | m+1,C,B,D,T,E,G,H,N,q,ac=>PI n (g141_7L n ap m) ap C B D T E G H N q ac
def Y3 (ap:Z11→List Z26→Int→BA→BA→BA→Option β) (C:Z11) (B:List Z26) (D:Int) (T E G H N q:BA) (ac:Int):Option β:=g141_7L n ap n C B D T E G H N q ac
def bM3 (s:FState) (cx:Cx β):Option β:=bO (fun again s=>SM n s {cx with nrm:=again}) n s
theorem Y1 (n:Nat) (cx:Cx β):∀(m:Nat) (C:Z11) (B:List Z26) (D:Int) (T E G H N q:BA) (ac:Int),bO (fun again s=>SM n s {cx with nrm:=again}) m (uS C B D T E G H N q ac)=g141_7L n (fun C B D H N q=>cx.ex 2 (wU C B D H N q)) m C B D T E G H N q ac:=by
  intro m
  induction m with
  | zero=>intros;rfl
  | succ m ih=>intros;simp only [bO,g141_7L,cB0,ih]
theorem cG8 (C:Z11) (B:List Z26) (D:Int) (T E G H N q:BA) (ac:Int):bM3 n (uS C B D T E G H N q ac) cx=Y3 n (fun C B D H N q=>cx.ex 2 (wU C B D H N q)) C B D T E G H N q ac:=Y1 n cx n C B D T E G H N q ac
def QJ (kn:Z11→List Z26→Int→BA→BA→BA→Option β) (C:Z11) (B:List Z26) (D:Int) (T E G H N q:BA) (ac:Int):Option β:=Y3 n kn C B D T E G H N q ac
def bF5 (s:FState) (cx:Cx β):Option β:=bM3 n s {cx with ex:=fun j s=>bif Nat.beq j 2 then cx.nrm s else cx.ex j s}
theorem cB6 (C:Z11) (B:List Z26) (D:Int) (T E G H N q:BA) (ac:Int):bF5 n (uS C B D T E G H N q ac) cx=QJ n (fun C B D H N q=>cx.nrm (wU C B D H N q)) C B D T E G H N q ac:=cG8 n _ C B D T E G H N q ac
def IC (kn:Z11→List Z26→Int→Option β) (C:Z11) (B:List Z26) (D:Int) (H N q:BA):Option β:=idx (w64 (D - 1)) (B.length:Int)<|bif (!eL ((rd B (w64 (D - 1)) Z17).2) H) then (bif ((H.size:Int)!=(0:Int)) then (idx (w64 (D - 1)) (B.length:Int)<|idx D ((B.set (w64 (D - 1)).toNat ((rd B (w64 (D - 1)) Z17).1,H)).length:Int)<|bif ((q.size:Int)!=(0:Int)) then (idx (w64 (D+1)) (((B.set (w64 (D - 1)).toNat ((rd B (w64 (D - 1)) Z17).1,H)).set D.toNat ((rd (B.set (w64 (D - 1)).toNat ((rd B (w64 (D - 1)) Z17).1,H)) D Z17).1,N)).length:Int)<|kn C (((B.set (w64 (D - 1)).toNat ((rd B (w64 (D - 1)) Z17).1,H)).set D.toNat ((rd (B.set (w64 (D - 1)).toNat ((rd B (w64 (D - 1)) Z17).1,H)) D Z17).1,N)).set (w64 (D+1)).toNat ((rd ((B.set (w64 (D - 1)).toNat ((rd B (w64 (D - 1)) Z17).1,H)).set D.toNat ((rd (B.set (w64 (D - 1)).toNat ((rd B (w64 (D - 1)) Z17).1,H)) D Z17).1,N)) (w64 (D+1)) Z17).1,q)) D) else (bnd (0:Int) (w64 (D+1)) (((B.set (w64 (D - 1)).toNat ((rd B (w64 (D - 1)) Z17).1,H)).set D.toNat ((rd (B.set (w64 (D - 1)).toNat ((rd B (w64 (D - 1)) Z17).1,H)) D Z17).1,N)).length:Int)<|bnd (w64 (D+2)) (((B.set (w64 (D - 1)).toNat ((rd B (w64 (D - 1)) Z17).1,H)).set D.toNat ((rd (B.set (w64 (D - 1)).toNat ((rd B (w64 (D - 1)) Z17).1,H)) D Z17).1,N)).length:Int) (((B.set (w64 (D - 1)).toNat ((rd B (w64 (D - 1)) Z17).1,H)).set D.toNat ((rd (B.set (w64 (D - 1)).toNat ((rd B (w64 (D - 1)) Z17).1,H)) D Z17).1,N)).length:Int)<|cM ((cut ((B.set (w64 (D - 1)).toNat ((rd B (w64 (D - 1)) Z17).1,H)).set D.toNat ((rd (B.set (w64 (D - 1)).toNat ((rd B (w64 (D - 1)) Z17).1,H)) D Z17).1,N)) (0:Int) ((0:Int)+((w64 (D+1)) - (0:Int)))).length+(cut ((B.set (w64 (D - 1)).toNat ((rd B (w64 (D - 1)) Z17).1,H)).set D.toNat ((rd (B.set (w64 (D - 1)).toNat ((rd B (w64 (D - 1)) Z17).1,H)) D Z17).1,N)) (w64 (D+2)) ((w64 (D+2))+((((B.set (w64 (D - 1)).toNat ((rd B (w64 (D - 1)) Z17).1,H)).set D.toNat ((rd (B.set (w64 (D - 1)).toNat ((rd B (w64 (D - 1)) Z17).1,H)) D Z17).1,N)).length:Int) - (w64 (D+2))))).length)<|kn C ((cut ((B.set (w64 (D - 1)).toNat ((rd B (w64 (D - 1)) Z17).1,H)).set D.toNat ((rd (B.set (w64 (D - 1)).toNat ((rd B (w64 (D - 1)) Z17).1,H)) D Z17).1,N)) (0:Int) ((0:Int)+((w64 (D+1)) - (0:Int))))++(cut ((B.set (w64 (D - 1)).toNat ((rd B (w64 (D - 1)) Z17).1,H)).set D.toNat ((rd (B.set (w64 (D - 1)).toNat ((rd B (w64 (D - 1)) Z17).1,H)) D Z17).1,N)) (w64 (D+2)) ((w64 (D+2))+((((B.set (w64 (D - 1)).toNat ((rd B (w64 (D - 1)) Z17).1,H)).set D.toNat ((rd (B.set (w64 (D - 1)).toNat ((rd B (w64 (D - 1)) Z17).1,H)) D Z17).1,N)).length:Int) - (w64 (D+2)))))) (w64 (D - 1)))) else ((qV n B (w64 (D - 1)) (1:Int) []).bind fun W=>idx (w64 (D - 1)) (W.1.length:Int)<|bif ((q.size:Int)!=(0:Int)) then (idx (w64 ((w64 (D - 1))+(1:Int))) ((W.1.set (w64 (D - 1)).toNat ((rd W.1 (w64 (D - 1)) Z17).1,N)).length:Int)<|kn C ((W.1.set (w64 (D - 1)).toNat ((rd W.1 (w64 (D - 1)) Z17).1,N)).set (w64 ((w64 (D - 1))+(1:Int))).toNat ((rd (W.1.set (w64 (D - 1)).toNat ((rd W.1 (w64 (D - 1)) Z17).1,N)) (w64 ((w64 (D - 1))+(1:Int))) Z17).1,q)) (w64 (D - 1))) else (bnd (0:Int) (w64 ((w64 (D - 1))+(1:Int))) ((W.1.set (w64 (D - 1)).toNat ((rd W.1 (w64 (D - 1)) Z17).1,N)).length:Int)<|bnd (w64 ((w64 (D - 1))+(2:Int))) ((W.1.set (w64 (D - 1)).toNat ((rd W.1 (w64 (D - 1)) Z17).1,N)).length:Int) ((W.1.set (w64 (D - 1)).toNat ((rd W.1 (w64 (D - 1)) Z17).1,N)).length:Int)<|cM ((cut (W.1.set (w64 (D - 1)).toNat ((rd W.1 (w64 (D - 1)) Z17).1,N)) (0:Int) ((0:Int)+((w64 ((w64 (D - 1))+(1:Int))) - (0:Int)))).length+(cut (W.1.set (w64 (D - 1)).toNat ((rd W.1 (w64 (D - 1)) Z17).1,N)) (w64 ((w64 (D - 1))+(2:Int))) ((w64 ((w64 (D - 1))+(2:Int)))+(((W.1.set (w64 (D - 1)).toNat ((rd W.1 (w64 (D - 1)) Z17).1,N)).length:Int) - (w64 ((w64 (D - 1))+(2:Int)))))).length)<|kn C ((cut (W.1.set (w64 (D - 1)).toNat ((rd W.1 (w64 (D - 1)) Z17).1,N)) (0:Int) ((0:Int)+((w64 ((w64 (D - 1))+(1:Int))) - (0:Int))))++(cut (W.1.set (w64 (D - 1)).toNat ((rd W.1 (w64 (D - 1)) Z17).1,N)) (w64 ((w64 (D - 1))+(2:Int))) ((w64 ((w64 (D - 1))+(2:Int)))+(((W.1.set (w64 (D - 1)).toNat ((rd W.1 (w64 (D - 1)) Z17).1,N)).length:Int) - (w64 ((w64 (D - 1))+(2:Int))))))) (w64 ((w64 (D - 1)) - (1:Int)))))) else (kn C B D)
def bB3:FS1 β:=FXs (mG n) n kZ (some jG) none [] [3708926,3708927]
theorem cI9 (C:Z11) (B:List Z26) (D:Int) (H N q:BA):bB3 n (wU C B D H N q) cx=IC n (fun C B D=>cx.nrm (eX C B D)) C B D H N q:=by kernel_rfl
def zZ (kn:Z11→List Z26→Int→Option β) (C:Z11) (B:List Z26) (D:Int) (bg:Bool):Option β:=aR9 n (fun C B D T E G=>QU n (fun C B D T E G H N q ac=>QJ n (fun C B D H N q=>IC n kn C B D H N q) C B D T E G H N q ac) C B D T E G) C B D bg
def IL (s:FState) (cx:Cx β):Option β:=aU6 n s {cx with nrm:=fun s=>aY5 n s {cx with nrm:=fun s=>bF5 n s {cx with nrm:=fun s=>bB3 n s cx}}}
theorem aI7 (C:Z11) (B:List Z26) (D:Int) (bg:Bool):IL n (zY C B D bg) cx=zZ n (fun C B D=>cx.nrm (eX C B D)) C B D bg:=by simp only [IL,zZ,cB4,bY3,cB6,cI9]
def ST (n:Nat) (kn:Z11→List Z26→Int→Option β) (C:Z11) (B:List Z26) (D:Int) (bg:Bool):Option β:=kn C B D
def E0:FS1 β:=FXs (mG n) n kZ (some jG) none [] [1811]
theorem aQ4 (C:Z11) (B:List Z26) (D:Int) (bg:Bool):E0 n (zY C B D bg) cx=ST n (fun C B D=>cx.nrm (eX C B D)) C B D bg:=by kernel_rfl
def tH (kn:Z11→List Z26→Int→Option β) (C:Z11) (B:List Z26) (D:Int) (bg:Bool):Option β:=bif bg then zZ n kn C B D bg else ST n kn C B D bg
def IT (s:FState) (cx:Cx β):Option β:=asBool (ev s (kU (nav kZ [1,1,0,0,0,1,0,0,1]))) fun t=>cond t (IL n s cx) (E0 n s cx)
theorem l7 (C:Z11) (B:List Z26) (D:Int) (bg:Bool):IT n (zY C B D bg) cx=tH n (fun C B D=>cx.nrm (eX C B D)) C B D bg:=by
  simp only [IT,tH,aI7,aQ4]
  kernel_rfl
def yQ (n:Nat) (kn:Z11→List Z26→Int→Option β) (C:Z11) (B:List Z26) (D:Int):Option β:=kn C B (w64 (D+1))
def ZF:FS1 β:=FXs (mG n) n kZ (some jG) none [] [453]
theorem f8 (C:Z11) (B:List Z26) (D:Int):ZF n (eX C B D) cx=yQ n (fun C B D=>cx.nrm (eX C B D)) C B D:=by kernel_rfl
def HC (kn:Z11→List Z26→Int→Option β) (C:Z11) (B:List Z26) (D:Int):Option β:=u6 n (fun C B D bg=>tH n (fun C B D=>yQ n kn C B D) C B D bg) C B D
def LI (s:FState) (cx:Cx β):Option β:=bI6 n s {cx with nrm:=fun s=>IT n s {cx with nrm:=fun s=>ZF n s cx}}
theorem g9 (C:Z11) (B:List Z26) (D:Int):LI n (eX C B D) cx=HC n (fun C B D=>cx.nrm (eX C B D)) C B D:=by simp only [LI,HC,bS7,l7,f8]
def RB (kn:Z11→List Z26→Int→Option β) (C:Z11) (B:List Z26) (D:Int):Option β:=HC n kn C B D
def C6 (s:FState) (cx:Cx β):Option β:=LI n s {cx with ex:=fun j s=>bif Nat.beq j 1 then cx.nrm s else cx.ex j s}
theorem aJ0 (C:Z11) (B:List Z26) (D:Int):C6 n (eX C B D) cx=RB n (fun C B D=>cx.nrm (eX C B D)) C B D:=g9 n _ C B D
def HG (kn:Z11→List Z26→Int→Option β) (ae:List Z26→Option β) (C:Z11) (B:List Z26) (D:Int):Option β:=u7 n (fun C B D=>RB n kn C B D) ae C B D
def wO (s:FState) (cx:Cx β):Option β:=bB5 n s {cx with nrm:=fun s=>C6 n s cx}
theorem aS2 (C:Z11) (B:List Z26) (D:Int):wO n (eX C B D) cx=HG n (fun C B D=>cx.nrm (eX C B D)) (fun B=>cx.ex 0 (uD B)) C B D:=by simp only [wO,HG,cE7,aJ0]
def g141_17L (n:Nat) (ae:List Z26→Option β):Nat→Z11→List Z26→Int→Option β
  | 0,_,_,_=>none
  | m+1,C,B,D=>HG n (g141_17L n ae m) ae C B D
def bO1 (ae:List Z26→Option β) (C:Z11) (B:List Z26) (D:Int):Option β:=g141_17L n ae n C B D
def B2 (s:FState) (cx:Cx β):Option β:=bO (fun again s=>wO n s {cx with nrm:=again}) n s
theorem A1 (n:Nat) (cx:Cx β):∀(m:Nat) (C:Z11) (B:List Z26) (D:Int),bO (fun again s=>wO n s {cx with nrm:=again}) m (eX C B D)=g141_17L n (fun B=>cx.ex 0 (uD B)) m C B D:=by
  intro m
  induction m with
  | zero=>intros;rfl
  | succ m ih=>intros;simp only [bO,g141_17L,aS2,ih]
theorem S8 (C:Z11) (B:List Z26) (D:Int):B2 n (eX C B D) cx=bO1 n (fun B=>cx.ex 0 (uD B)) C B D:=A1 n cx n C B D
def bK8 (kn:List Z26→Option β) (C:Z11) (B:List Z26) (D:Int):Option β:=bO1 n kn C B D
def H3 (s:FState) (cx:Cx β):Option β:=B2 n s {cx with ex:=fun j s=>bif Nat.beq j 0 then cx.nrm s else cx.ex j s}
theorem U7 (C:Z11) (B:List Z26) (D:Int):H3 n (eX C B D) cx=bK8 n (fun B=>cx.nrm (uD B)) C B D:=S8 n _ C B D
def bF1 (n:Nat) (kr:List Z26→Option β) (B:List Z26):Option β:=kr B
def I4:FS1 β:=FXs (mG n) n kZ none (some KY) [] [30,31]
theorem aC2 (B:List Z26):I4 n (uD B) cx=bF1 n (fun x4=>cx.ret (aZ8 x4)) B:=by kernel_rfl
def EY (kr:List Z26→Option β) (C:Z11) (B:List Z26):Option β:=d3 n (fun C B D=>bK8 n (fun B=>bF1 n kr B) C B D) C B
def wZ (s:FState) (cx:Cx β):Option β:=bC7 n s {cx with nrm:=fun s=>H3 n s {cx with nrm:=fun s=>I4 n s cx}}
theorem d6 (C:Z11) (B:List Z26):wZ n (WR C B) cx=EY n (fun x4=>cx.ret (aZ8 x4)) C B:=by simp only [wZ,EY,cB7,U7,aC2]
def eG0 (C:Z11) (B:List Z26):Option (DenR [.rw Z22 115]):=EY n (fun x4=>some (x4,())) C B
def cL5:List AK:=[.pro Z1 106,.rw Z22 115]
def aS5:List RK:=[.rw Z22 115]
def eX8 (d:DenA cL5):Option (DenR aS5):=eG0 n d.1 d.2.1
def cZ7:Spec:=aQ cL5 aS5 (eX8 n)
def dU7:Sk:=(.nd (.fin none none none [] .leaf) (.nd (.fin none (some jG) none [] .leaf) (.nd (.nd (.nd (.nd (.nd (.fin none none none [(0,JU)] .leaf) (.fin none (some jG) none [(0,JU)] .leaf)) (.nd (.nd (.nd (.fin none (some ZT) none [] .leaf) (.nd (.nd (.fin none none none [] .leaf) (.nd (.fin none none none [] .leaf) (.nd (.fin none none none [] .leaf) (.nd (.fin none none none [] .leaf) (.nd (.nd (.fin none none none [] .leaf) (.fin none (some B4) none [] .leaf)) (.nd (.fin none none none [] .leaf) (.nd (.fin none none none [] .leaf) (.nd (.fin none none none [] .leaf) (.nd (.fin none (some BG) none [] .leaf) (.nd (.nd (.nd (.nd (.nd (.fin none none none [(2,xU)] .leaf) (.fin none none none [(2,xU)] .leaf)) (.fin none (some BG) none [(2,xU)] .leaf)) .leaf) .leaf) (.nd (.fin none none none [] .leaf) (.fin none (some jG) none [] .leaf)))))))))))) (.fin none (some jG) none [] .leaf))) (.fin none (some jG) none [] .leaf)) .leaf)) .leaf) .leaf) (.nd (.fin none none (some KY) [] .leaf) (.fin none none (some KY) [] .leaf)))))
theorem dO0 (s:FState) (cx:Cx β):FX (mG n) n kZ dU7 s cx=wZ n s cx:=by kernel_rfl
theorem cK3:Fit Tryd.prog 141 (cZ7 n):=
  cJ (Γ:=Γ0) (l:=dR2 n) (n:=n) (sk:=dU7) (ts:=[(4,none)]) (fn:=Tryd.f141) (c:=kZ) (by kernel_rfl) (by kernel_rfl) (by unfold aS;kernel_rfl) cF ⟨yP n,dM8 n,dS0 n,P8 n,trivial⟩ aO (by kernel_rfl) (by kernel_rfl) (Nat.le_of_ble_eq_true (by kernel_rfl)) (Nat.le_of_ble_eq_true (by kernel_rfl)) (by kernel_rfl) (by kernel_rfl)
    (fun d=>(dO0 n _ _).trans (Eq.trans (b:=wZ n (WR d.1 d.2.1) (cS (mG n) aS5 [(4,none)])) (by kernel_rfl) ((d6 n _ d.1 d.2.1).trans (by kernel_rfl))))
theorem eF5 (a b:Nat) (w:World):(callFunc 190 #[.float .f64 a,.float .f64 b]).run Tryd.prog w= .ok (.value (.float .f64 (B8 a b))) w:=by
  rw [run_callFunc_extern (fn:=Tryd.f190) (e:=Extern.MathDim.pick "math.archMin" true .lt) (by rfl) (by rfl) (by rfl) (by kernel_rfl) (by kernel_rfl)]
  rfl
attribute [local go_sem] eF5
theorem U4 (a0 a1:Nat) (w:World):Calls Tryd.prog 166 #[.float .f64 a0,.float .f64 a1] w fun e w'=>e= .returned (.float .f64 (B8 a0 a1))∧w'=w:=by
  go_enter Tryd.func166,Tryd.ntmps166
  go_wp2
  go_ret
  exact ⟨rfl,rfl⟩
def cV2:List AK:=[.dat (.flt .f64),.dat (.flt .f64)]
def cX6:List RK:=[.dat (.flt .f64)]
def eW7 (n Z J:Nat):Option (DenR [.dat (.flt .f64)]):=some (B8 Z J,())
def eX0 (d:DenA cV2):Option (DenR cX6):=eW7 n d.1 d.2.1
def dB4:Spec:=aQ cV2 cX6 (eX0 n)
theorem dB7:Fit Tryd.prog 166 (dB4 n):=BC (by unfold aS;kernel_rfl) rfl fun d x w vs hG ha hx=>by
  obtain ⟨v,vs1,o1,o2,rfl,_,⟨_,cs,h1,h2⟩,v',vs2,o3,o4,rfl,_,⟨_,cs',h3,h4⟩,h5,_⟩:=ha
  obtain ⟨a,b,u⟩:=d
  subst h5
  have h1:cs=[Value.float .f64 a]:=h1
  have h3:cs'=[Value.float .f64 b]:=h3
  subst h1
  subst h3
  simp [K.isPair] at h2 h4
  subst h2
  subst h4
  cases hx
  exact (U4 a b w).mono fun e w' ⟨he,hw⟩=>⟨[.float .f64 (B8 a b)],he,⟨_,_,[],[],rfl,rfl,⟨rfl,_,rfl,rfl⟩,rfl,rfl⟩,by rw [hw];exact ⟨rfl,rfl,rfl,Nat.le_refl _,fun _ _=>rfl⟩⟩
def QF (C:Z11) (J S:BA):FState:=⟨aM [(0,.ptr 0 0 0),(1,.dat .str J),(2,.dat .str S)],aE [(0,.row Z1 106 false [C])]⟩
def GZ (T:Int):FState:=⟨aM [(6,.dat (.int .i64) T)],aE []⟩
def eI:List NE:=[.keep 6]
def aY7 (J S:BA) (E G:Int):FState:=⟨aM [(1,.dat .str J),(2,.dat .str S),(7,.dat (.int .i64) E),(8,.dat (.int .i64) G)],aE []⟩
def C2:List NE:=[.keep 1,.keep 2,.keep 7,.keep 8]
def tU (J S:BA) (F I H:Int):FState:=⟨aM [(1,.dat .str J),(2,.dat .str S),(9,.dat (.int .i64) F),(10,.dat (.int .i64) I),(11,.dat (.int .i64) H)],aE []⟩
def zU:List NE:=[.keep 1,.keep 2,.keep 9,.keep 10,.keep 11]
def xJ (I:Int):FState:=⟨aM [(10,.dat (.int .i64) I)],aE []⟩
def ZB:List NE:=[.keep 10]
def dL1:List (Nat×Spec):=[(95,cK6 n),(166,dB4 n)]
def BX:Ctx:={Γ0 with calls:=lkS (dL1 n)}
def CW:Code:=fb Tryd.f142
def V7 (n:Nat) (kn:BA→BA→Int→Int→Option β) (kr:Int→Option β) (C:Z11) (J S:BA):Option β:=bif ((J.size:Int)==(0:Int)) then (kr (0:Int)) else (bif ((S.size:Int)==(0:Int)) then (kr (0:Int)) else (bif (decide ((J.size:Int)>(S.size:Int))) then (bnd (w64 ((J.size:Int) - (S.size:Int))) (J.size:Int) (J.size:Int)<|kn (bD J (w64 ((J.size:Int) - (S.size:Int))) (J.size:Int)) S (J.size:Int) (S.size:Int)) else (bif (decide ((J.size:Int) < (S.size:Int))) then (bnd (0:Int) (J.size:Int) (S.size:Int)<|kn J (bD S (0:Int) (J.size:Int)) (J.size:Int) (S.size:Int)) else (kn J S (J.size:Int) (S.size:Int)))))
def aX6:FS1 β:=FXs (BX n) n CW (some C2) (some eI) [] [2,6,14,60,61,124,125]
theorem cG6 (C:Z11) (J S:BA):aX6 n (QF C J S) cx=V7 n (fun J S E G=>cx.nrm (aY7 J S E G)) (fun T=>cx.ret (GZ T)) C J S:=by kernel_rfl
def PS (kn:BA→BA→Int→Int→Int→Option β) (kr:Int→Option β) (J S:BA) (E G:Int):Option β:=(eW7 n (floatOfInt .f64 E) (floatOfInt .f64 G)).bind fun W=>onS (floatToIntVal .f64 W.1 .i64) fun r2=>bif (eL J S) then (kr r2) else (kn J S r2 (0:Int) (1:Int))
def aV9:FS1 β:=FXs (BX n) n CW (some zU) (some eI) [] [126,508,509,510,1022]
theorem cF2 (J S:BA) (E G:Int):aV9 n (aY7 J S E G) cx=PS n (fun J S F I H=>cx.nrm (tU J S F I H)) (fun T=>cx.ret (GZ T)) J S E G:=by kernel_rfl
def aK8 (kn:BA→BA→Int→Int→Int→Option β) (ae:Int→Option β) (J S:BA) (F I H:Int):Option β:=bnd (w64 (F - H)) (J.size:Int) (J.size:Int)<|(g95 n S (bD J (w64 (F - H)) (J.size:Int))).bind fun W=>bif (W.1==(-1:Int)) then (ae I) else (bif (W.1==(0:Int)) then (kn J S F (w64 (H+W.1)) (w64 ((w64 (H+W.1))+(1:Int)))) else (bnd (w64 (F - (w64 (H+W.1)))) (J.size:Int) (J.size:Int)<|bnd (0:Int) (w64 (H+W.1)) (S.size:Int)<|bif (eL (bD J (w64 (F - (w64 (H+W.1)))) (J.size:Int)) (bD S (0:Int) (w64 (H+W.1)))) then (kn J S F (w64 (H+W.1)) (w64 ((w64 (H+W.1))+(1:Int)))) else (kn J S F I (w64 (H+W.1)))))
def SS:FS1 β:=FXs (BX n) n CW (some zU) none [(0,ZB)] [8184]
theorem cG5 (J S:BA) (F I H:Int):SS n (tU J S F I H) cx=aK8 n (fun J S F I H=>cx.nrm (tU J S F I H)) (fun I=>cx.ex 0 (xJ I)) J S F I H:=by kernel_rfl
def g142_4L (n:Nat) (ae:Int→Option β):Nat→BA→BA→Int→Int→Int→Option β
  | 0,_,_,_,_,_=>none
  | m+1,J,S,F,I,H=>aK8 n (g142_4L n ae m) ae J S F I H
def dF9 (ae:Int→Option β) (J S:BA) (F I H:Int):Option β:=g142_4L n ae n J S F I H
def bH5 (s:FState) (cx:Cx β):Option β:=bO (fun again s=>SS n s {cx with nrm:=again}) n s
theorem T6 (n:Nat) (cx:Cx β):∀(m:Nat) (J S:BA) (F I H:Int),bO (fun again s=>SS n s {cx with nrm:=again}) m (tU J S F I H)=g142_4L n (fun I=>cx.ex 0 (xJ I)) m J S F I H:=by
  intro m
  induction m with
  | zero=>intros;rfl
  | succ m ih=>intros;simp only [bO,g142_4L,cG5,ih]
theorem bQ9 (J S:BA) (F I H:Int):bH5 n (tU J S F I H) cx=dF9 n (fun I=>cx.ex 0 (xJ I)) J S F I H:=T6 n cx n J S F I H
def aJ8 (kn:Int→Option β) (J S:BA) (F I H:Int):Option β:=dF9 n kn J S F I H
def bJ0 (s:FState) (cx:Cx β):Option β:=bH5 n s {cx with ex:=fun j s=>bif Nat.beq j 0 then cx.nrm s else cx.ex j s}
theorem bZ2 (J S:BA) (F I H:Int):bJ0 n (tU J S F I H) cx=aJ8 n (fun I=>cx.nrm (xJ I)) J S F I H:=bQ9 n _ J S F I H
def QA (n:Nat) (kr:Int→Option β) (I:Int):Option β:=kr I
def bB1:FS1 β:=FXs (BX n) n CW none (some eI) [] [4094,4095]
theorem cD6 (I:Int):bB1 n (xJ I) cx=QA n (fun T=>cx.ret (GZ T)) I:=by kernel_rfl
def WY (kr:Int→Option β) (C:Z11) (J S:BA):Option β:=V7 n (fun J S E G=>PS n (fun J S F I H=>aJ8 n (fun I=>QA n kr I) J S F I H) kr J S E G) kr C J S
def FS (s:FState) (cx:Cx β):Option β:=aX6 n s {cx with nrm:=fun s=>aV9 n s {cx with nrm:=fun s=>bJ0 n s {cx with nrm:=fun s=>bB1 n s cx}}}
theorem cD4 (C:Z11) (J S:BA):FS n (QF C J S) cx=WY n (fun T=>cx.ret (GZ T)) C J S:=by simp only [FS,WY,cG6,cF2,bZ2,cD6]
def bY1 (C:Z11) (J S:BA):Option (DenR [.dat (.int .i64)]):=WY n (fun T=>some (T,())) C J S
def dK9:List AK:=[.pro Z1 106,.dat .str,.dat .str]
def V4:List RK:=[.dat (.int .i64)]
def eR0 (d:DenA dK9):Option (DenR V4):=bY1 n d.1 d.2.1 d.2.2.1
def cR0:Spec:=aQ dK9 V4 (eR0 n)
def dL3:Sk:=(.nd (.fin none none (some eI) [] .leaf) (.nd (.fin none none (some eI) [] .leaf) (.nd (.fin none none (some eI) [] .leaf) (.nd (.nd (.fin none none (some eI) [] .leaf) (.fin none none (some eI) [] .leaf)) (.nd (.nd (.fin none none (some eI) [] .leaf) (.fin none (some C2) (some eI) [] .leaf)) (.nd (.fin none none (some eI) [] .leaf) (.nd (.nd (.fin none none (some eI) [] .leaf) (.fin none none (some eI) [] .leaf)) (.nd (.fin none none (some eI) [] .leaf) (.nd (.fin none (some zU) (some eI) [] .leaf) (.nd (.nd (.nd (.fin none (some zU) none [(0,ZB)] .leaf) .leaf) .leaf) (.nd (.fin none none (some eI) [] .leaf) (.fin none none (some eI) [] .leaf))))))))))))
theorem cY3 (s:FState) (cx:Cx β):FX (BX n) n CW dL3 s cx=FS n s cx:=by kernel_rfl
theorem cY8:Fit Tryd.prog 142 (cR0 n):=
  cJ (Γ:=Γ0) (l:=dL1 n) (n:=n) (sk:=dL3) (ts:=[(6,none)]) (fn:=Tryd.f142) (c:=CW) (by kernel_rfl) (by kernel_rfl) (by unfold aS;kernel_rfl) cF ⟨bN2 n,dB7 n,trivial⟩ aO (by kernel_rfl) (by kernel_rfl) (Nat.le_of_ble_eq_true (by kernel_rfl)) (Nat.le_of_ble_eq_true (by kernel_rfl)) (by kernel_rfl) (by kernel_rfl)
    (fun d=>(cY3 n _ _).trans (Eq.trans (b:=FS n (QF d.1 d.2.1 d.2.2.1) (cS (BX n) V4 [(6,none)])) (by kernel_rfl) ((cD4 n _ d.1 d.2.1 d.2.2.1).trans (by kernel_rfl))))
def PG (C:Z11) (B:List Z26):FState:=⟨aM [(0,.ptr 0 0 0),(1,.sl 1 none false)],aE [(0,.row Z1 106 false [C]),(1,.row Z22 115 true B)]⟩
def bH1 (x4:List Z26):FState:=⟨aM [(4,.sl 4 none false)],aE [(4,.row Z22 115 true x4)]⟩
def HO:List NE:=[.row 4 Z22 115 true]
def eE (C:Z11) (B:List Z26) (D:Bool) (y:List Int) (E:BA) (G F I H N:Int):FState:=⟨aM [(0,.ptr 0 0 0),(1,.sl 1 none false),(5,.dat .bool D),(6,.sl 6 none false),(7,.dat .str E),(8,.dat (.int .i64) G),(9,.dat (.int .i64) F),(10,.dat (.int .i64) I),(11,.dat (.int .i64) H),(12,.dat (.int .i64) N)],aE [(0,.row Z1 106 false [C]),(1,.row Z22 115 true B),(6,.row (.int .i64) 3 true y)]⟩
def iA:List NE:=[.ptr 0 Z1 106 false,.row 1 Z22 115 true,.keep 5,.row 6 (.int .i64) 3 true,.keep 7,.keep 8,.keep 9,.keep 10,.keep 11,.keep 12]
def tA (C:Z11) (B:List Z26) (D:Bool):FState:=⟨aM [(0,.ptr 0 0 0),(1,.sl 1 none false),(5,.dat .bool D)],aE [(0,.row Z1 106 false [C]),(1,.row Z22 115 true B)]⟩
def ML:List NE:=[.ptr 0 Z1 106 false,.row 1 Z22 115 true,.keep 5]
def zQ (C:Z11) (B:List Z26) (D:Bool) (y:List Int) (E:BA) (G F I H N:Int) (bh:Bool):FState:=⟨aM [(0,.ptr 0 0 0),(1,.sl 1 none false),(5,.dat .bool D),(6,.sl 6 none false),(7,.dat .str E),(8,.dat (.int .i64) G),(9,.dat (.int .i64) F),(10,.dat (.int .i64) I),(11,.dat (.int .i64) H),(12,.dat (.int .i64) N),(33,.dat .bool bh)],aE [(0,.row Z1 106 false [C]),(1,.row Z22 115 true B),(6,.row (.int .i64) 3 true y)]⟩
def YQ:List NE:=[.ptr 0 Z1 106 false,.row 1 Z22 115 true,.keep 5,.row 6 (.int .i64) 3 true,.keep 7,.keep 8,.keep 9,.keep 10,.keep 11,.keep 12,.keep 33]
def bK9 (C:Z11) (B:List Z26):FState:=⟨aM [(0,.ptr 0 0 0),(1,.sl 1 none false)],aE [(0,.row Z1 106 false [C]),(1,.row Z22 115 true B)]⟩
def E3:List NE:=[.ptr 0 Z1 106 false,.row 1 Z22 115 true]
def tX (C:Z11) (B:List Z26) (G:Int):FState:=⟨aM [(0,.ptr 0 0 0),(1,.sl 1 none false),(8,.dat (.int .i64) G)],aE [(0,.row Z1 106 false [C]),(1,.row Z22 115 true B)]⟩
def zR:List NE:=[.ptr 0 Z1 106 false,.row 1 Z22 115 true,.keep 8]
def sF (B:List Z26):FState:=⟨aM [(1,.sl 1 none false)],aE [(1,.row Z22 115 true B)]⟩
def tB:List NE:=[.row 1 Z22 115 true]
def dN5:List (Nat×Spec):=[(85,eO9 n),(113,JL n),(137,aQ9 n),(140,dC0 n),(141,cZ7 n),(142,cR0 n)]
def lE:Ctx:={Γ0 with calls:=lkS (dN5 n)}
def kV:Code:=fb Tryd.f112
def aD4 (n:Nat) (kn:Z11→List Z26→Bool→List Int→BA→Int→Int→Int→Int→Int→Option β) (C:Z11) (B:List Z26):Option β:=bnd 0 (0:Int) (B.length:Int)<|vN (B.length:Int)<|kn C B false (List.replicate (0:Int).toNat (0:Int)) (⟨#[]⟩:BA) (0:Int) (0:Int) (0:Int) (0:Int) (0:Int)
def bH4:FS1 β:=FXs (lE n) n kV (some iA) none [] [2,6,14,30,62,126,254]
theorem cG9 (C:Z11) (B:List Z26):bH4 n (PG C B) cx=aD4 n (fun C B D y E G F I H N=>cx.nrm (eE C B D y E G F I H N)) C B:=by kernel_rfl
def aD1 (n:Nat) (kn:Z11→List Z26→Bool→List Int→BA→Int→Int→Int→Int→Int→Option β) (ae:Z11→List Z26→Bool→Option β) (C:Z11) (B:List Z26) (D:Bool) (y:List Int) (E:BA) (G F I H N:Int):Option β:=bif (decide (G < (B.length:Int))) then (kn C B D y E G F I H N) else (ae C B D)
def aW9:FS1 β:=FXs (lE n) n kV (some iA) none [(0,ML)] [8160,8161]
theorem bT5 (C:Z11) (B:List Z26) (D:Bool) (y:List Int) (E:BA) (G F I H N:Int):aW9 n (eE C B D y E G F I H N) cx=aD1 n (fun C B D y E G F I H N=>cx.nrm (eE C B D y E G F I H N)) (fun C B D=>cx.ex 0 (tA C B D)) C B D y E G F I H N:=by kernel_rfl
def t7 (n:Nat) (kn:Z11→List Z26→Bool→List Int→BA→Int→Int→Int→Int→Int→Bool→Option β) (C:Z11) (B:List Z26) (D:Bool) (y:List Int) (E:BA) (G F I H N:Int):Option β:=idx G (B.length:Int)<|kn C B D y E G F I H N ((rd B G Z17).1==(0:Int))
def bB0:FS1 β:=FXs (lE n) n kV (some YQ) none [] [32648]
theorem cF3 (C:Z11) (B:List Z26) (D:Bool) (y:List Int) (E:BA) (G F I H N:Int):bB0 n (eE C B D y E G F I H N) cx=t7 n (fun C B D y E G F I H N bh=>cx.nrm (zQ C B D y E G F I H N bh)) C B D y E G F I H N:=by kernel_rfl
def aQ8 (n:Nat) (kn:Z11→List Z26→Bool→List Int→BA→Int→Int→Int→Int→Int→Option β) (C:Z11) (B:List Z26) (D:Bool) (y:List Int) (E:BA) (G F I H N:Int) (bh:Bool):Option β:=cM (y.length+[G].length)<|idx G (B.length:Int)<|kn C B D (y++[G]) ((rd B G Z17).2) G H N (0:Int) (0:Int)
def bN6:FS1 β:=FXs (lE n) n kV (some iA) none [] [130596,261194,522390,1044782,2089566,2089567]
theorem cA5 (C:Z11) (B:List Z26) (D:Bool) (y:List Int) (E:BA) (G F I H N:Int) (bh:Bool):bN6 n (zQ C B D y E G F I H N bh) cx=aQ8 n (fun C B D y E G F I H N=>cx.nrm (eE C B D y E G F I H N)) C B D y E G F I H N bh:=by kernel_rfl
def u5 (kn:Z11→List Z26→Bool→List Int→BA→Int→Int→Int→Int→Int→Option β) (C:Z11) (B:List Z26) (D:Bool) (y:List Int) (E:BA) (G F I H N:Int) (bh:Bool):Option β:=idx G (B.length:Int)<|bif ((rd B G Z17).1==(1:Int)) then (idx G (B.length:Int)<|(g85 n ((rd B G Z17).2)).bind fun W=>kn C B D y E G F I (w64 (H+W.1)) N) else (idx G (B.length:Int)<|(g85 n ((rd B G Z17).2)).bind fun r2=>kn C B D y E G F I H (w64 (N+r2.1)))
def aV1:FS1 β:=FXs (lE n) n kV (some iA) none [] [261196,261197]
theorem bV1 (C:Z11) (B:List Z26) (D:Bool) (y:List Int) (E:BA) (G F I H N:Int) (bh:Bool):aV1 n (zQ C B D y E G F I H N bh) cx=u5 n (fun C B D y E G F I H N=>cx.nrm (eE C B D y E G F I H N)) C B D y E G F I H N bh:=by kernel_rfl
def TR (kn:Z11→List Z26→Bool→List Int→BA→Int→Int→Int→Int→Int→Option β) (C:Z11) (B:List Z26) (D:Bool) (y:List Int) (E:BA) (G F I H N:Int):Option β:=(eG7 n (floatOfInt .f64 F) (floatOfInt .f64 I)).bind fun W=>onS (floatToIntVal .f64 W.1 .i64) fun r2=>(eG7 n (floatOfInt .f64 H) (floatOfInt .f64 N)).bind fun r3=>onS (floatToIntVal .f64 r3.1 .i64) fun r4=>(g85 n E).bind fun r5=>bif (decide (r5.1>(0:Int))) then ((g85 n E).bind fun r6=>bif (decide (r6.1≤r2)) then ((g85 n E).bind fun r7=>bif (decide (r7.1≤r4)) then (idx (w64 ((y.length:Int) - 1)) (y.length:Int)<|(qV n B (rd y (w64 ((y.length:Int) - 1)) (0:Int)) (0:Int) [((-1:Int),E)]).bind fun r8=>idx (w64 ((rd y (w64 ((y.length:Int) - 1)) (0:Int))+(1:Int))) (r8.1.length:Int)<|bnd (0:Int) (w64 ((y.length:Int) - 1)) (y.length:Int)<|bif (decide (((w64 ((y.length:Int) - 1)) - (0:Int))>(0:Int))) then (bnd (0:Int) (w64 (((w64 ((y.length:Int) - 1)) - (0:Int)) - (1:Int))) ((w64 ((y.length:Int) - 1)) - (0:Int))<|bif (decide (((w64 (((w64 ((y.length:Int) - 1)) - (0:Int)) - (1:Int))) - (0:Int))>(0:Int))) then (idx (w64 (((w64 (((w64 ((y.length:Int) - 1)) - (0:Int)) - (1:Int))) - (0:Int)) - (1:Int))) ((w64 (((w64 ((y.length:Int) - 1)) - (0:Int)) - (1:Int))) - (0:Int))<|kn C (r8.1.set (w64 ((rd y (w64 ((y.length:Int) - 1)) (0:Int))+(1:Int))).toNat ((1:Int),(rd r8.1 (w64 ((rd y (w64 ((y.length:Int) - 1)) (0:Int))+(1:Int))) Z17).2)) true (cut y ((0:Int)+(0:Int)) (((0:Int)+(0:Int))+((w64 (((w64 ((y.length:Int) - 1)) - (0:Int)) - (1:Int))) - (0:Int)))) (⟨#[]⟩:BA) (rd y (((0:Int)+(0:Int))+(w64 (((w64 (((w64 ((y.length:Int) - 1)) - (0:Int)) - (1:Int))) - (0:Int)) - (1:Int)))) (0:Int)) (0:Int) (0:Int) (0:Int) (0:Int)) else (kn C (r8.1.set (w64 ((rd y (w64 ((y.length:Int) - 1)) (0:Int))+(1:Int))).toNat ((1:Int),(rd r8.1 (w64 ((rd y (w64 ((y.length:Int) - 1)) (0:Int))+(1:Int))) Z17).2)) true (cut y ((0:Int)+(0:Int)) (((0:Int)+(0:Int))+((w64 (((w64 ((y.length:Int) - 1)) - (0:Int)) - (1:Int))) - (0:Int)))) (⟨#[]⟩:BA) (-1:Int) (0:Int) (0:Int) (0:Int) (0:Int))) else (bif (decide (((w64 ((y.length:Int) - 1)) - (0:Int))>(0:Int))) then (idx (w64 (((w64 ((y.length:Int) - 1)) - (0:Int)) - (1:Int))) ((w64 ((y.length:Int) - 1)) - (0:Int))<|kn C (r8.1.set (w64 ((rd y (w64 ((y.length:Int) - 1)) (0:Int))+(1:Int))).toNat ((1:Int),(rd r8.1 (w64 ((rd y (w64 ((y.length:Int) - 1)) (0:Int))+(1:Int))) Z17).2)) true (cut y (0:Int) ((0:Int)+((w64 ((y.length:Int) - 1)) - (0:Int)))) (⟨#[]⟩:BA) (rd y ((0:Int)+(w64 (((w64 ((y.length:Int) - 1)) - (0:Int)) - (1:Int)))) (0:Int)) (0:Int) (0:Int) (0:Int) (0:Int)) else (kn C (r8.1.set (w64 ((rd y (w64 ((y.length:Int) - 1)) (0:Int))+(1:Int))).toNat ((1:Int),(rd r8.1 (w64 ((rd y (w64 ((y.length:Int) - 1)) (0:Int))+(1:Int))) Z17).2)) true (cut y (0:Int) ((0:Int)+((w64 ((y.length:Int) - 1)) - (0:Int)))) (⟨#[]⟩:BA) (-1:Int) (0:Int) (0:Int) (0:Int) (0:Int)))) else (kn C B D y E G F I H N)) else (kn C B D y E G F I H N)) else (kn C B D y E G F I H N)
def bF9:FS1 β:=FXs (lE n) n kV (some iA) none [] [261198,522398,1044798,1044799]
theorem cA0 (C:Z11) (B:List Z26) (D:Bool) (y:List Int) (E:BA) (G F I H N:Int):bF9 n (eE C B D y E G F I H N) cx=TR n (fun C B D y E G F I H N=>cx.nrm (eE C B D y E G F I H N)) C B D y E G F I H N:=by kernel_rfl
def WW (kn:Z11→List Z26→Bool→List Int→BA→Int→Int→Int→Int→Int→Option β) (C:Z11) (B:List Z26) (D:Bool) (y:List Int) (E:BA) (G F I H N:Int) (bh:Bool):Option β:=u5 n (fun C B D y E G F I H N=>TR n kn C B D y E G F I H N) C B D y E G F I H N bh
def QE (s:FState) (cx:Cx β):Option β:=aV1 n s {cx with nrm:=fun s=>bF9 n s cx}
theorem cH8 (C:Z11) (B:List Z26) (D:Bool) (y:List Int) (E:BA) (G F I H N:Int) (bh:Bool):QE n (zQ C B D y E G F I H N bh) cx=WW n (fun C B D y E G F I H N=>cx.nrm (eE C B D y E G F I H N)) C B D y E G F I H N bh:=by simp only [QE,WW,bV1,cA0]
def XI (kn:Z11→List Z26→Bool→List Int→BA→Int→Int→Int→Int→Int→Option β) (C:Z11) (B:List Z26) (D:Bool) (y:List Int) (E:BA) (G F I H N:Int) (bh:Bool):Option β:=bif bh then aQ8 n kn C B D y E G F I H N bh else WW n kn C B D y E G F I H N bh
def XY (s:FState) (cx:Cx β):Option β:=asBool (ev s (kU (nav kV [1,1,1,1,1,1,1,0,0,0,1,0,0,1]))) fun t=>cond t (bN6 n s cx) (QE n s cx)
theorem bT2 (C:Z11) (B:List Z26) (D:Bool) (y:List Int) (E:BA) (G F I H N:Int) (bh:Bool):XY n (zQ C B D y E G F I H N bh) cx=XI n (fun C B D y E G F I H N=>cx.nrm (eE C B D y E G F I H N)) C B D y E G F I H N bh:=by
  simp only [XY,XI,cA5,cH8]
  kernel_rfl
def JZ (n:Nat) (kn:Z11→List Z26→Bool→List Int→BA→Int→Int→Int→Int→Int→Option β) (C:Z11) (B:List Z26) (D:Bool) (y:List Int) (E:BA) (G F I H N:Int):Option β:=kn C B D y E (w64 (G+1)) F I H N
def bK1:FS1 β:=FXs (lE n) n kV (some iA) none [] [16325]
theorem bW5 (C:Z11) (B:List Z26) (D:Bool) (y:List Int) (E:BA) (G F I H N:Int):bK1 n (eE C B D y E G F I H N) cx=JZ n (fun C B D y E G F I H N=>cx.nrm (eE C B D y E G F I H N)) C B D y E G F I H N:=by kernel_rfl
def FJ (kn:Z11→List Z26→Bool→List Int→BA→Int→Int→Int→Int→Int→Option β) (C:Z11) (B:List Z26) (D:Bool) (y:List Int) (E:BA) (G F I H N:Int):Option β:=t7 n (fun C B D y E G F I H N bh=>XI n (fun C B D y E G F I H N=>JZ n kn C B D y E G F I H N) C B D y E G F I H N bh) C B D y E G F I H N
def JI (s:FState) (cx:Cx β):Option β:=bB0 n s {cx with nrm:=fun s=>XY n s {cx with nrm:=fun s=>bK1 n s cx}}
theorem V3 (C:Z11) (B:List Z26) (D:Bool) (y:List Int) (E:BA) (G F I H N:Int):JI n (eE C B D y E G F I H N) cx=FJ n (fun C B D y E G F I H N=>cx.nrm (eE C B D y E G F I H N)) C B D y E G F I H N:=by simp only [JI,FJ,cF3,bT2,bW5]
def WT (kn:Z11→List Z26→Bool→List Int→BA→Int→Int→Int→Int→Int→Option β) (C:Z11) (B:List Z26) (D:Bool) (y:List Int) (E:BA) (G F I H N:Int):Option β:=FJ n kn C B D y E G F I H N
def K9 (s:FState) (cx:Cx β):Option β:=JI n s {cx with ex:=fun j s=>bif Nat.beq j 1 then cx.nrm s else cx.ex j s}
theorem aA5 (C:Z11) (B:List Z26) (D:Bool) (y:List Int) (E:BA) (G F I H N:Int):K9 n (eE C B D y E G F I H N) cx=WT n (fun C B D y E G F I H N=>cx.nrm (eE C B D y E G F I H N)) C B D y E G F I H N:=V3 n _ C B D y E G F I H N
def HB (kn:Z11→List Z26→Bool→List Int→BA→Int→Int→Int→Int→Int→Option β) (ae:Z11→List Z26→Bool→Option β) (C:Z11) (B:List Z26) (D:Bool) (y:List Int) (E:BA) (G F I H N:Int):Option β:=aD1 n (fun C B D y E G F I H N=>WT n kn C B D y E G F I H N) ae C B D y E G F I H N
def wW (s:FState) (cx:Cx β):Option β:=aW9 n s {cx with nrm:=fun s=>K9 n s cx}
theorem aQ0 (C:Z11) (B:List Z26) (D:Bool) (y:List Int) (E:BA) (G F I H N:Int):wW n (eE C B D y E G F I H N) cx=HB n (fun C B D y E G F I H N=>cx.nrm (eE C B D y E G F I H N)) (fun C B D=>cx.ex 0 (tA C B D)) C B D y E G F I H N:=by simp only [wW,HB,bT5,aA5]
def g112_13L (n:Nat) (ae:Z11→List Z26→Bool→Option β):Nat→Z11→List Z26→Bool→List Int→BA→Int→Int→Int→Int→Int→Option β
  | 0,_,_,_,_,_,_,_,_,_,_=>none
  | m+1,C,B,D,y,E,G,F,I,H,N=>HB n (g112_13L n ae m) ae C B D y E G F I H N
def QC (ae:Z11→List Z26→Bool→Option β) (C:Z11) (B:List Z26) (D:Bool) (y:List Int) (E:BA) (G F I H N:Int):Option β:=g112_13L n ae n C B D y E G F I H N
def A9 (s:FState) (cx:Cx β):Option β:=bO (fun again s=>wW n s {cx with nrm:=again}) n s
theorem D0 (n:Nat) (cx:Cx β):∀(m:Nat) (C:Z11) (B:List Z26) (D:Bool) (y:List Int) (E:BA) (G F I H N:Int),bO (fun again s=>wW n s {cx with nrm:=again}) m (eE C B D y E G F I H N)=g112_13L n (fun C B D=>cx.ex 0 (tA C B D)) m C B D y E G F I H N:=by
  intro m
  induction m with
  | zero=>intros;rfl
  | succ m ih=>intros;simp only [bO,g112_13L,aQ0,ih]
theorem l5 (C:Z11) (B:List Z26) (D:Bool) (y:List Int) (E:BA) (G F I H N:Int):A9 n (eE C B D y E G F I H N) cx=QC n (fun C B D=>cx.ex 0 (tA C B D)) C B D y E G F I H N:=D0 n cx n C B D y E G F I H N
def SP (kn:Z11→List Z26→Bool→Option β) (C:Z11) (B:List Z26) (D:Bool) (y:List Int) (E:BA) (G F I H N:Int):Option β:=QC n kn C B D y E G F I H N
def Q9 (s:FState) (cx:Cx β):Option β:=A9 n s {cx with ex:=fun j s=>bif Nat.beq j 0 then cx.nrm s else cx.ex j s}
theorem aH0 (C:Z11) (B:List Z26) (D:Bool) (y:List Int) (E:BA) (G F I H N:Int):Q9 n (eE C B D y E G F I H N) cx=SP n (fun C B D=>cx.nrm (tA C B D)) C B D y E G F I H N:=l5 n _ C B D y E G F I H N
def qH (kn:Z11→List Z26→Option β) (C:Z11) (B:List Z26) (D:Bool):Option β:=bif D then ((cE1 n C B).bind fun W=>kn C W.1) else (kn C B)
def A3:FS1 β:=FXs (lE n) n kV (some E3) none [] [2044,2045]
theorem X8 (C:Z11) (B:List Z26) (D:Bool):A3 n (tA C B D) cx=qH n (fun C B=>cx.nrm (bK9 C B)) C B D:=by kernel_rfl
def qN (kn:Z11→List Z26→Int→Option β) (C:Z11) (B:List Z26):Option β:=(eG0 n C B).bind fun W=>kn C W.1 (1:Int)
def ZG:FS1 β:=FXs (lE n) n kV (some zR) none [] [2046,4094]
theorem aI4 (C:Z11) (B:List Z26):ZG n (bK9 C B) cx=qN n (fun C B G=>cx.nrm (tX C B G)) C B:=by kernel_rfl
def SG (kn:Z11→List Z26→Int→Option β) (ap:List Z26→Option β) (C:Z11) (B:List Z26) (G:Int):Option β:=bif (decide (G < (B.length:Int))) then (idx (w64 (G - 1)) (B.length:Int)<|bif ((rd B (w64 (G - 1)) Z17).1==(-1:Int)) then (idx G (B.length:Int)<|bif ((rd B G Z17).1==(1:Int)) then (idx (w64 (G - 1)) (B.length:Int)<|idx G (B.length:Int)<|(bY1 n C ((rd B (w64 (G - 1)) Z17).2) ((rd B G Z17).2)).bind fun W=>(bY1 n C ((rd B G Z17).2) ((rd B (w64 (G - 1)) Z17).2)).bind fun r2=>bif (decide (W.1≥r2.1)) then ((g85 n ((rd B (w64 (G - 1)) Z17).2)).bind fun r3=>onS (floatBits .quo .f64 (floatOfInt .f64 r3.1) (4611686018427387904:Nat)) fun r4=>bif ((fGt .f64 (floatOfInt .f64 W.1) r4)||(fEq .f64 (floatOfInt .f64 W.1) r4)) then (bnd (0:Int) W.1 (((rd B G Z17).2).size:Int)<|(qV n B G (0:Int) [((0:Int),(bD ((rd B G Z17).2) (0:Int) W.1))]).bind fun r5=>bnd (0:Int) (w64 ((((rd B (w64 (G - 1)) Z17).2).size:Int) - W.1)) (((rd B (w64 (G - 1)) Z17).2).size:Int)<|idx (w64 (G - 1)) (r5.1.length:Int)<|bnd W.1 (((rd B G Z17).2).size:Int) (((rd B G Z17).2).size:Int)<|idx (w64 (G+1)) ((r5.1.set (w64 (G - 1)).toNat ((rd r5.1 (w64 (G - 1)) Z17).1,(bD ((rd B (w64 (G - 1)) Z17).2) (0:Int) (w64 ((((rd B (w64 (G - 1)) Z17).2).size:Int) - W.1))))).length:Int)<|kn C ((r5.1.set (w64 (G - 1)).toNat ((rd r5.1 (w64 (G - 1)) Z17).1,(bD ((rd B (w64 (G - 1)) Z17).2) (0:Int) (w64 ((((rd B (w64 (G - 1)) Z17).2).size:Int) - W.1))))).set (w64 (G+1)).toNat ((rd (r5.1.set (w64 (G - 1)).toNat ((rd r5.1 (w64 (G - 1)) Z17).1,(bD ((rd B (w64 (G - 1)) Z17).2) (0:Int) (w64 ((((rd B (w64 (G - 1)) Z17).2).size:Int) - W.1))))) (w64 (G+1)) Z17).1,(bD ((rd B G Z17).2) W.1 (((rd B G Z17).2).size:Int)))) (w64 ((w64 ((w64 (G+1))+(1:Int)))+(1:Int)))) else ((g85 n ((rd B G Z17).2)).bind fun r6=>onS (floatBits .quo .f64 (floatOfInt .f64 r6.1) (4611686018427387904:Nat)) fun r7=>bif ((fGt .f64 (floatOfInt .f64 W.1) r7)||(fEq .f64 (floatOfInt .f64 W.1) r7)) then (bnd (0:Int) W.1 (((rd B G Z17).2).size:Int)<|(qV n B G (0:Int) [((0:Int),(bD ((rd B G Z17).2) (0:Int) W.1))]).bind fun r8=>bnd (0:Int) (w64 ((((rd B (w64 (G - 1)) Z17).2).size:Int) - W.1)) (((rd B (w64 (G - 1)) Z17).2).size:Int)<|idx (w64 (G - 1)) (r8.1.length:Int)<|bnd W.1 (((rd B G Z17).2).size:Int) (((rd B G Z17).2).size:Int)<|idx (w64 (G+1)) ((r8.1.set (w64 (G - 1)).toNat ((rd r8.1 (w64 (G - 1)) Z17).1,(bD ((rd B (w64 (G - 1)) Z17).2) (0:Int) (w64 ((((rd B (w64 (G - 1)) Z17).2).size:Int) - W.1))))).length:Int)<|kn C ((r8.1.set (w64 (G - 1)).toNat ((rd r8.1 (w64 (G - 1)) Z17).1,(bD ((rd B (w64 (G - 1)) Z17).2) (0:Int) (w64 ((((rd B (w64 (G - 1)) Z17).2).size:Int) - W.1))))).set (w64 (G+1)).toNat ((rd (r8.1.set (w64 (G - 1)).toNat ((rd r8.1 (w64 (G - 1)) Z17).1,(bD ((rd B (w64 (G - 1)) Z17).2) (0:Int) (w64 ((((rd B (w64 (G - 1)) Z17).2).size:Int) - W.1))))) (w64 (G+1)) Z17).1,(bD ((rd B G Z17).2) W.1 (((rd B G Z17).2).size:Int)))) (w64 ((w64 ((w64 (G+1))+(1:Int)))+(1:Int)))) else (kn C B (w64 ((w64 (G+1))+(1:Int)))))) else ((g85 n ((rd B (w64 (G - 1)) Z17).2)).bind fun r9=>onS (floatBits .quo .f64 (floatOfInt .f64 r9.1) (4611686018427387904:Nat)) fun bq=>bif ((fGt .f64 (floatOfInt .f64 r2.1) bq)||(fEq .f64 (floatOfInt .f64 r2.1) bq)) then (bnd (0:Int) r2.1 (((rd B (w64 (G - 1)) Z17).2).size:Int)<|(qV n B G (0:Int) [(rd [((0:Int),(bD ((rd B (w64 (G - 1)) Z17).2) (0:Int) r2.1))] (0:Int) Z17)]).bind fun aw=>idx (w64 (G - 1)) (aw.1.length:Int)<|bnd (0:Int) (w64 ((((rd B G Z17).2).size:Int) - r2.1)) (((rd B G Z17).2).size:Int)<|idx (w64 (G - 1)) ((aw.1.set (w64 (G - 1)).toNat ((1:Int),(rd aw.1 (w64 (G - 1)) Z17).2)).length:Int)<|idx (w64 (G+1)) (((aw.1.set (w64 (G - 1)).toNat ((1:Int),(rd aw.1 (w64 (G - 1)) Z17).2)).set (w64 (G - 1)).toNat ((rd (aw.1.set (w64 (G - 1)).toNat ((1:Int),(rd aw.1 (w64 (G - 1)) Z17).2)) (w64 (G - 1)) Z17).1,(bD ((rd B G Z17).2) (0:Int) (w64 ((((rd B G Z17).2).size:Int) - r2.1))))).length:Int)<|bnd r2.1 (((rd B (w64 (G - 1)) Z17).2).size:Int) (((rd B (w64 (G - 1)) Z17).2).size:Int)<|idx (w64 (G+1)) ((((aw.1.set (w64 (G - 1)).toNat ((1:Int),(rd aw.1 (w64 (G - 1)) Z17).2)).set (w64 (G - 1)).toNat ((rd (aw.1.set (w64 (G - 1)).toNat ((1:Int),(rd aw.1 (w64 (G - 1)) Z17).2)) (w64 (G - 1)) Z17).1,(bD ((rd B G Z17).2) (0:Int) (w64 ((((rd B G Z17).2).size:Int) - r2.1))))).set (w64 (G+1)).toNat ((-1:Int),(rd ((aw.1.set (w64 (G - 1)).toNat ((1:Int),(rd aw.1 (w64 (G - 1)) Z17).2)).set (w64 (G - 1)).toNat ((rd (aw.1.set (w64 (G - 1)).toNat ((1:Int),(rd aw.1 (w64 (G - 1)) Z17).2)) (w64 (G - 1)) Z17).1,(bD ((rd B G Z17).2) (0:Int) (w64 ((((rd B G Z17).2).size:Int) - r2.1))))) (w64 (G+1)) Z17).2)).length:Int)<|kn C ((((aw.1.set (w64 (G - 1)).toNat ((1:Int),(rd aw.1 (w64 (G - 1)) Z17).2)).set (w64 (G - 1)).toNat ((rd (aw.1.set (w64 (G - 1)).toNat ((1:Int),(rd aw.1 (w64 (G - 1)) Z17).2)) (w64 (G - 1)) Z17).1,(bD ((rd B G Z17).2) (0:Int) (w64 ((((rd B G Z17).2).size:Int) - r2.1))))).set (w64 (G+1)).toNat ((-1:Int),(rd ((aw.1.set (w64 (G - 1)).toNat ((1:Int),(rd aw.1 (w64 (G - 1)) Z17).2)).set (w64 (G - 1)).toNat ((rd (aw.1.set (w64 (G - 1)).toNat ((1:Int),(rd aw.1 (w64 (G - 1)) Z17).2)) (w64 (G - 1)) Z17).1,(bD ((rd B G Z17).2) (0:Int) (w64 ((((rd B G Z17).2).size:Int) - r2.1))))) (w64 (G+1)) Z17).2)).set (w64 (G+1)).toNat ((rd (((aw.1.set (w64 (G - 1)).toNat ((1:Int),(rd aw.1 (w64 (G - 1)) Z17).2)).set (w64 (G - 1)).toNat ((rd (aw.1.set (w64 (G - 1)).toNat ((1:Int),(rd aw.1 (w64 (G - 1)) Z17).2)) (w64 (G - 1)) Z17).1,(bD ((rd B G Z17).2) (0:Int) (w64 ((((rd B G Z17).2).size:Int) - r2.1))))).set (w64 (G+1)).toNat ((-1:Int),(rd ((aw.1.set (w64 (G - 1)).toNat ((1:Int),(rd aw.1 (w64 (G - 1)) Z17).2)).set (w64 (G - 1)).toNat ((rd (aw.1.set (w64 (G - 1)).toNat ((1:Int),(rd aw.1 (w64 (G - 1)) Z17).2)) (w64 (G - 1)) Z17).1,(bD ((rd B G Z17).2) (0:Int) (w64 ((((rd B G Z17).2).size:Int) - r2.1))))) (w64 (G+1)) Z17).2)) (w64 (G+1)) Z17).1,(bD ((rd B (w64 (G - 1)) Z17).2) r2.1 (((rd B (w64 (G - 1)) Z17).2).size:Int)))) (w64 ((w64 ((w64 (G+1))+(1:Int)))+(1:Int)))) else ((g85 n ((rd B G Z17).2)).bind fun bt=>onS (floatBits .quo .f64 (floatOfInt .f64 bt.1) (4611686018427387904:Nat)) fun bs=>bif ((fGt .f64 (floatOfInt .f64 r2.1) bs)||(fEq .f64 (floatOfInt .f64 r2.1) bs)) then (bnd (0:Int) r2.1 (((rd B (w64 (G - 1)) Z17).2).size:Int)<|(qV n B G (0:Int) [(rd [((0:Int),(bD ((rd B (w64 (G - 1)) Z17).2) (0:Int) r2.1))] (0:Int) Z17)]).bind fun ay=>idx (w64 (G - 1)) (ay.1.length:Int)<|bnd (0:Int) (w64 ((((rd B G Z17).2).size:Int) - r2.1)) (((rd B G Z17).2).size:Int)<|idx (w64 (G - 1)) ((ay.1.set (w64 (G - 1)).toNat ((1:Int),(rd ay.1 (w64 (G - 1)) Z17).2)).length:Int)<|idx (w64 (G+1)) (((ay.1.set (w64 (G - 1)).toNat ((1:Int),(rd ay.1 (w64 (G - 1)) Z17).2)).set (w64 (G - 1)).toNat ((rd (ay.1.set (w64 (G - 1)).toNat ((1:Int),(rd ay.1 (w64 (G - 1)) Z17).2)) (w64 (G - 1)) Z17).1,(bD ((rd B G Z17).2) (0:Int) (w64 ((((rd B G Z17).2).size:Int) - r2.1))))).length:Int)<|bnd r2.1 (((rd B (w64 (G - 1)) Z17).2).size:Int) (((rd B (w64 (G - 1)) Z17).2).size:Int)<|idx (w64 (G+1)) ((((ay.1.set (w64 (G - 1)).toNat ((1:Int),(rd ay.1 (w64 (G - 1)) Z17).2)).set (w64 (G - 1)).toNat ((rd (ay.1.set (w64 (G - 1)).toNat ((1:Int),(rd ay.1 (w64 (G - 1)) Z17).2)) (w64 (G - 1)) Z17).1,(bD ((rd B G Z17).2) (0:Int) (w64 ((((rd B G Z17).2).size:Int) - r2.1))))).set (w64 (G+1)).toNat ((-1:Int),(rd ((ay.1.set (w64 (G - 1)).toNat ((1:Int),(rd ay.1 (w64 (G - 1)) Z17).2)).set (w64 (G - 1)).toNat ((rd (ay.1.set (w64 (G - 1)).toNat ((1:Int),(rd ay.1 (w64 (G - 1)) Z17).2)) (w64 (G - 1)) Z17).1,(bD ((rd B G Z17).2) (0:Int) (w64 ((((rd B G Z17).2).size:Int) - r2.1))))) (w64 (G+1)) Z17).2)).length:Int)<|kn C ((((ay.1.set (w64 (G - 1)).toNat ((1:Int),(rd ay.1 (w64 (G - 1)) Z17).2)).set (w64 (G - 1)).toNat ((rd (ay.1.set (w64 (G - 1)).toNat ((1:Int),(rd ay.1 (w64 (G - 1)) Z17).2)) (w64 (G - 1)) Z17).1,(bD ((rd B G Z17).2) (0:Int) (w64 ((((rd B G Z17).2).size:Int) - r2.1))))).set (w64 (G+1)).toNat ((-1:Int),(rd ((ay.1.set (w64 (G - 1)).toNat ((1:Int),(rd ay.1 (w64 (G - 1)) Z17).2)).set (w64 (G - 1)).toNat ((rd (ay.1.set (w64 (G - 1)).toNat ((1:Int),(rd ay.1 (w64 (G - 1)) Z17).2)) (w64 (G - 1)) Z17).1,(bD ((rd B G Z17).2) (0:Int) (w64 ((((rd B G Z17).2).size:Int) - r2.1))))) (w64 (G+1)) Z17).2)).set (w64 (G+1)).toNat ((rd (((ay.1.set (w64 (G - 1)).toNat ((1:Int),(rd ay.1 (w64 (G - 1)) Z17).2)).set (w64 (G - 1)).toNat ((rd (ay.1.set (w64 (G - 1)).toNat ((1:Int),(rd ay.1 (w64 (G - 1)) Z17).2)) (w64 (G - 1)) Z17).1,(bD ((rd B G Z17).2) (0:Int) (w64 ((((rd B G Z17).2).size:Int) - r2.1))))).set (w64 (G+1)).toNat ((-1:Int),(rd ((ay.1.set (w64 (G - 1)).toNat ((1:Int),(rd ay.1 (w64 (G - 1)) Z17).2)).set (w64 (G - 1)).toNat ((rd (ay.1.set (w64 (G - 1)).toNat ((1:Int),(rd ay.1 (w64 (G - 1)) Z17).2)) (w64 (G - 1)) Z17).1,(bD ((rd B G Z17).2) (0:Int) (w64 ((((rd B G Z17).2).size:Int) - r2.1))))) (w64 (G+1)) Z17).2)) (w64 (G+1)) Z17).1,(bD ((rd B (w64 (G - 1)) Z17).2) r2.1 (((rd B (w64 (G - 1)) Z17).2).size:Int)))) (w64 ((w64 ((w64 (G+1))+(1:Int)))+(1:Int)))) else (kn C B (w64 ((w64 (G+1))+(1:Int))))))) else (kn C B (w64 (G+1)))) else (kn C B (w64 (G+1)))) else (ap B)
def JX:FS1 β:=FXs (lE n) n kV (some zR) none [(2,tB)] [131040,131041,65521]
theorem aS3 (C:Z11) (B:List Z26) (G:Int):JX n (tX C B G) cx=SG n (fun C B G=>cx.nrm (tX C B G)) (fun B=>cx.ex 2 (sF B)) C B G:=by kernel_rfl
def g112_18L (n:Nat) (ap:List Z26→Option β):Nat→Z11→List Z26→Int→Option β
  | 0,_,_,_=>none
  | m+1,C,B,G=>SG n (g112_18L n ap m) ap C B G
def UH (ap:List Z26→Option β) (C:Z11) (B:List Z26) (G:Int):Option β:=g112_18L n ap n C B G
def YJ (s:FState) (cx:Cx β):Option β:=bO (fun again s=>JX n s {cx with nrm:=again}) n s
theorem O8 (n:Nat) (cx:Cx β):∀(m:Nat) (C:Z11) (B:List Z26) (G:Int),bO (fun again s=>JX n s {cx with nrm:=again}) m (tX C B G)=g112_18L n (fun B=>cx.ex 2 (sF B)) m C B G:=by
  intro m
  induction m with
  | zero=>intros;rfl
  | succ m ih=>intros;simp only [bO,g112_18L,aS3,ih]
theorem j9 (C:Z11) (B:List Z26) (G:Int):YJ n (tX C B G) cx=UH n (fun B=>cx.ex 2 (sF B)) C B G:=O8 n cx n C B G
def pS (kn:List Z26→Option β) (C:Z11) (B:List Z26) (G:Int):Option β:=UH n kn C B G
def YH (s:FState) (cx:Cx β):Option β:=YJ n s {cx with ex:=fun j s=>bif Nat.beq j 2 then cx.nrm s else cx.ex j s}
theorem aH5 (C:Z11) (B:List Z26) (G:Int):YH n (tX C B G) cx=pS n (fun B=>cx.nrm (sF B)) C B G:=j9 n _ C B G
def pR (n:Nat) (kr:List Z26→Option β) (B:List Z26):Option β:=kr B
def O1:FS1 β:=FXs (lE n) n kV none (some HO) [] [16382,16383]
theorem aN4 (B:List Z26):O1 n (sF B) cx=pR n (fun x4=>cx.ret (bH1 x4)) B:=by kernel_rfl
def FW (kr:List Z26→Option β) (C:Z11) (B:List Z26):Option β:=aD4 n (fun C B D y E G F I H N=>SP n (fun C B D=>qH n (fun C B=>qN n (fun C B G=>pS n (fun B=>pR n kr B) C B G) C B) C B D) C B D y E G F I H N) C B
def BQ (s:FState) (cx:Cx β):Option β:=bH4 n s {cx with nrm:=fun s=>Q9 n s {cx with nrm:=fun s=>A3 n s {cx with nrm:=fun s=>ZG n s {cx with nrm:=fun s=>YH n s {cx with nrm:=fun s=>O1 n s cx}}}}}
theorem aS1 (C:Z11) (B:List Z26):BQ n (PG C B) cx=FW n (fun x4=>cx.ret (bH1 x4)) C B:=by simp only [BQ,FW,cG9,aH0,X8,aI4,aH5,aN4]
def eF8 (C:Z11) (B:List Z26):Option (DenR [.rw Z22 115]):=FW n (fun x4=>some (x4,())) C B
def dC1:List AK:=[.pro Z1 106,.rw Z22 115]
def BV:List RK:=[.rw Z22 115]
def eS1 (d:DenA dC1):Option (DenR BV):=eF8 n d.1 d.2.1
def cM8:Spec:=aQ dC1 BV (eS1 n)
def dO5:Sk:=(.nd (.fin none none none [] .leaf) (.nd (.fin none none none [] .leaf) (.nd (.fin none none none [] .leaf) (.nd (.fin none none none [] .leaf) (.nd (.fin none none none [] .leaf) (.nd (.fin none none none [] .leaf) (.nd (.fin none (some iA) none [] .leaf) (.nd (.nd (.nd (.nd (.nd (.fin none none none [(0,ML)] .leaf) (.fin none (some iA) none [(0,ML)] .leaf)) (.nd (.nd (.nd (.fin none (some YQ) none [] .leaf) (.nd (.nd (.fin none none none [] .leaf) (.nd (.fin none none none [] .leaf) (.nd (.fin none none none [] .leaf) (.nd (.fin none none none [] .leaf) (.nd (.fin none none none [] .leaf) (.fin none (some iA) none [] .leaf)))))) (.nd (.nd (.fin none none none [] .leaf) (.fin none (some iA) none [] .leaf)) (.nd (.fin none none none [] .leaf) (.nd (.fin none none none [] .leaf) (.nd (.fin none none none [] .leaf) (.fin none (some iA) none [] .leaf))))))) (.fin none (some iA) none [] .leaf)) .leaf)) .leaf) .leaf) (.nd (.nd (.fin none none none [] .leaf) (.fin none (some E3) none [] .leaf)) (.nd (.fin none none none [] .leaf) (.nd (.fin none (some zR) none [] .leaf) (.nd (.nd (.nd (.nd (.nd (.fin none none none [(2,tB)] .leaf) (.fin none none none [(2,tB)] .leaf)) (.fin none (some zR) none [(2,tB)] .leaf)) .leaf) .leaf) (.nd (.fin none none (some HO) [] .leaf) (.fin none none (some HO) [] .leaf))))))))))))))
theorem dD9 (s:FState) (cx:Cx β):FX (lE n) n kV dO5 s cx=BQ n s cx:=by kernel_rfl
theorem dB6:Fit Tryd.prog 112 (cM8 n):=
  cJ (Γ:=Γ0) (l:=dN5 n) (n:=n) (sk:=dO5) (ts:=[(4,none)]) (fn:=Tryd.f112) (c:=kV) (by kernel_rfl) (by kernel_rfl) (by unfold aS;kernel_rfl) cF ⟨eH8 n,yP n,K0 n,dE6 n,cK3 n,cY8 n,trivial⟩ aO (by kernel_rfl) (by kernel_rfl) (Nat.le_of_ble_eq_true (by kernel_rfl)) (Nat.le_of_ble_eq_true (by kernel_rfl)) (by kernel_rfl) (by kernel_rfl)
    (fun d=>(dD9 n _ _).trans (Eq.trans (b:=BQ n (PG d.1 d.2.1) (cS (lE n) BV [(4,none)])) (by kernel_rfl) ((aS1 n _ d.1 d.2.1).trans (by kernel_rfl))))
def RV (M B:List Int):FState:=⟨aM [(0,.sl 0 none false),(1,.sl 1 none false)],aE [(0,.row (.int .i32) 21 false M),(1,.row (.int .i32) 21 false B)]⟩
def pV (v4:Bool):FState:=⟨aM [(4,.dat .bool v4)],aE []⟩
def gP:List NE:=[.keep 4]
def tT (B Q:List Int) (q ac:Int):FState:=⟨aM [(1,.sl 1 none false),(12,.sl 12 none false),(13,.dat (.int .i64) q),(14,.dat (.int .i64) ac)],aE [(1,.row (.int .i32) 21 false B),(12,.row (.int .i32) 21 false Q)]⟩
def BL:List NE:=[.row 1 (.int .i32) 21 false,.row 12 (.int .i32) 21 false,.keep 13,.keep 14]
def AT:FState:=⟨aM [],aE []⟩
def rG:List NE:=[]
def dH1 (n:Nat):List (Nat×Spec):=[]
def KJ:Ctx:={Γ0 with calls:=lkS (dH1 n)}
def KW:Code:=fb Tryd.f133
def aE3 (n:Nat) (kn:List Int→List Int→Int→Int→Option β) (kr:Bool→Option β) (M B:List Int):Option β:=bif ((M.length:Int)!=(B.length:Int)) then (kr false) else (kn B M (M.length:Int) (0:Int))
def aX5:FS1 β:=FXs (KJ n) n KW (some BL) (some gP) [] [2,12,13,28]
theorem bQ3 (M B:List Int):aX5 n (RV M B) cx=aE3 n (fun B Q q ac=>cx.nrm (tT B Q q ac)) (fun v4=>cx.ret (pV v4)) M B:=by kernel_rfl
def PX (n:Nat) (kn:List Int→List Int→Int→Int→Option β) (kr:Bool→Option β) (ae:Option β) (B Q:List Int) (q ac:Int):Option β:=bif (decide (ac < q)) then (idx ac (Q.length:Int)<|idx ac (B.length:Int)<|bif ((rd Q ac (0:Int))!=(rd B ac (0:Int))) then (kr false) else (kn B Q q (w64 (ac+1)))) else ae
def WL:FS1 β:=FXs (KJ n) n KW (some BL) (some gP) [(0,rG)] [232,466,934,935]
theorem bW4 (B Q:List Int) (q ac:Int):WL n (tT B Q q ac) cx=PX n (fun B Q q ac=>cx.nrm (tT B Q q ac)) (fun v4=>cx.ret (pV v4)) (cx.ex 0 AT) B Q q ac:=by kernel_rfl
def g133_3L (n:Nat) (kr:Bool→Option β) (ae:Option β):Nat→List Int→List Int→Int→Int→Option β
  | 0,_,_,_,_=>none
  | m+1,B,Q,q,ac=>PX n (g133_3L n kr ae m) kr ae B Q q ac
def aK6 (kr:Bool→Option β) (ae:Option β) (B Q:List Int) (q ac:Int):Option β:=g133_3L n kr ae n B Q q ac
def aV8 (s:FState) (cx:Cx β):Option β:=bO (fun again s=>WL n s {cx with nrm:=again}) n s
theorem f9 (n:Nat) (cx:Cx β):∀(m:Nat) (B Q:List Int) (q ac:Int),bO (fun again s=>WL n s {cx with nrm:=again}) m (tT B Q q ac)=g133_3L n (fun v4=>cx.ret (pV v4)) (cx.ex 0 AT) m B Q q ac:=by
  intro m
  induction m with
  | zero=>intros;rfl
  | succ m ih=>intros;simp only [bO,g133_3L,bW4,ih]
theorem cG7 (B Q:List Int) (q ac:Int):aV8 n (tT B Q q ac) cx=aK6 n (fun v4=>cx.ret (pV v4)) (cx.ex 0 AT) B Q q ac:=f9 n cx n B Q q ac
def aB9 (kn:Option β) (kr:Bool→Option β) (B Q:List Int) (q ac:Int):Option β:=aK6 n kr kn B Q q ac
def bN5 (s:FState) (cx:Cx β):Option β:=aV8 n s {cx with ex:=fun j s=>bif Nat.beq j 0 then cx.nrm s else cx.ex j s}
theorem bX6 (B Q:List Int) (q ac:Int):bN5 n (tT B Q q ac) cx=aB9 n (cx.nrm AT) (fun v4=>cx.ret (pV v4)) B Q q ac:=cG7 n _ B Q q ac
def aC9 (n:Nat) (kr:Bool→Option β):Option β:=kr true
def aZ9:FS1 β:=FXs (KJ n) n KW none (some gP) [] [30,31]
theorem bW7:aZ9 n AT cx=aC9 n (fun v4=>cx.ret (pV v4)):=by kernel_rfl
def TG (kr:Bool→Option β) (M B:List Int):Option β:=aE3 n (fun B Q q ac=>aB9 n (aC9 n kr) kr B Q q ac) kr M B
def GJ (s:FState) (cx:Cx β):Option β:=aX5 n s {cx with nrm:=fun s=>bN5 n s {cx with nrm:=fun s=>aZ9 n s cx}}
theorem cE0 (M B:List Int):GJ n (RV M B) cx=TG n (fun v4=>cx.ret (pV v4)) M B:=by simp only [GJ,TG,bQ3,bX6,bW7]
def cW1 (M B:List Int):Option (DenR [.dat .bool]):=TG n (fun v4=>some (v4,())) M B
def dI7:List AK:=[.ro (.int .i32) 21,.ro (.int .i32) 21]
def aT5:List RK:=[.dat .bool]
def eV4 (d:DenA dI7):Option (DenR aT5):=cW1 n d.1 d.2.1
def aB0:Spec:=aQ dI7 aT5 (eV4 n)
def cM4:Sk:=(.nd (.fin none none (some gP) [] .leaf) (.nd (.nd (.fin none none (some gP) [] .leaf) (.fin none none (some gP) [] .leaf)) (.nd (.nd (.fin none (some BL) (some gP) [] .leaf) (.nd (.nd (.nd (.fin none none (some gP) [(0,rG)] .leaf) (.nd (.fin none none (some gP) [(0,rG)] .leaf) (.nd (.fin none none (some gP) [(0,rG)] .leaf) (.fin none (some BL) (some gP) [(0,rG)] .leaf)))) .leaf) .leaf)) (.nd (.fin none none (some gP) [] .leaf) (.fin none none (some gP) [] .leaf)))))
theorem dY2 (s:FState) (cx:Cx β):FX (KJ n) n KW cM4 s cx=GJ n s cx:=by kernel_rfl
theorem J4:Fit Tryd.prog 133 (aB0 n):=
  cJ (Γ:=Γ0) (l:=dH1 n) (n:=n) (sk:=cM4) (ts:=[(4,none)]) (fn:=Tryd.f133) (c:=KW) (by kernel_rfl) (by kernel_rfl) (by unfold aS;kernel_rfl) cF trivial aO (by kernel_rfl) (by kernel_rfl) (Nat.le_of_ble_eq_true (by kernel_rfl)) (Nat.le_of_ble_eq_true (by kernel_rfl)) (by kernel_rfl) (by kernel_rfl)
    (fun d=>(dY2 n _ _).trans (Eq.trans (b:=GJ n (RV d.1 d.2.1) (cS (KJ n) aT5 [(4,none)])) (by kernel_rfl) ((cE0 n _ d.1 d.2.1).trans (by kernel_rfl))))
def TO (M B:List Int):FState:=⟨aM [(0,.sl 0 none false),(1,.sl 1 none false)],aE [(0,.row (.int .i32) 21 false M),(1,.row (.int .i32) 21 false B)]⟩
def sY (v4:Int):FState:=⟨aM [(4,.dat (.int .i64) v4)],aE []⟩
def lV:List NE:=[.keep 4]
def uB (M B:List Int) (D T:Int):FState:=⟨aM [(0,.sl 0 none false),(1,.sl 1 none false),(5,.dat (.int .i64) D),(6,.dat (.int .i64) T)],aE [(0,.row (.int .i32) 21 false M),(1,.row (.int .i32) 21 false B)]⟩
def BP:List NE:=[.row 0 (.int .i32) 21 false,.row 1 (.int .i32) 21 false,.keep 5,.keep 6]
def AE:FState:=⟨aM [],aE []⟩
def sC:List NE:=[]
def dK5:List (Nat×Spec):=[(133,aB0 n)]
def JF:Ctx:={Γ0 with calls:=lkS (dK5 n)}
def IA:Code:=fb Tryd.f156
def u4 (n:Nat) (kn:List Int→List Int→Int→Int→Option β) (M B:List Int):Option β:=kn M B (w64 ((M.length:Int) - (B.length:Int))) (0:Int)
def bB9:FS1 β:=FXs (JF n) n IA (some BP) none [] [2,6,28]
theorem bX7 (M B:List Int):bB9 n (TO M B) cx=u4 n (fun M B D T=>cx.nrm (uB M B D T)) M B:=by kernel_rfl
def S9 (kn:List Int→List Int→Int→Int→Option β) (kr:Int→Option β) (ae:Option β) (M B:List Int) (D T:Int):Option β:=bif (decide (T≤D)) then (bnd T (w64 (T+(B.length:Int))) (M.length:Int)<|(cW1 n (cut M T (w64 (T+(B.length:Int)))) B).bind fun W=>bif W.1 then (kr T) else (kn M B D (w64 (T+1)))) else ae
def VT:FS1 β:=FXs (JF n) n IA (some BP) (some lV) [(0,sC)] [464,465,466,467]
theorem bZ4 (M B:List Int) (D T:Int):VT n (uB M B D T) cx=S9 n (fun M B D T=>cx.nrm (uB M B D T)) (fun v4=>cx.ret (sY v4)) (cx.ex 0 AE) M B D T:=by kernel_rfl
def g156_3L (n:Nat) (kr:Int→Option β) (ae:Option β):Nat→List Int→List Int→Int→Int→Option β
  | 0,_,_,_,_=>none
  | m+1,M,B,D,T=>S9 n (g156_3L n kr ae m) kr ae M B D T
def h9 (kr:Int→Option β) (ae:Option β) (M B:List Int) (D T:Int):Option β:=g156_3L n kr ae n M B D T
def bB4 (s:FState) (cx:Cx β):Option β:=bO (fun again s=>VT n s {cx with nrm:=again}) n s
theorem aH9 (n:Nat) (cx:Cx β):∀(m:Nat) (M B:List Int) (D T:Int),bO (fun again s=>VT n s {cx with nrm:=again}) m (uB M B D T)=g156_3L n (fun v4=>cx.ret (sY v4)) (cx.ex 0 AE) m M B D T:=by
  intro m
  induction m with
  | zero=>intros;rfl
  | succ m ih=>intros;simp only [bO,g156_3L,bZ4,ih]
theorem cD5 (M B:List Int) (D T:Int):bB4 n (uB M B D T) cx=h9 n (fun v4=>cx.ret (sY v4)) (cx.ex 0 AE) M B D T:=aH9 n cx n M B D T
def aJ1 (kn:Option β) (kr:Int→Option β) (M B:List Int) (D T:Int):Option β:=h9 n kr kn M B D T
def aY6 (s:FState) (cx:Cx β):Option β:=bB4 n s {cx with ex:=fun j s=>bif Nat.beq j 0 then cx.nrm s else cx.ex j s}
theorem bV3 (M B:List Int) (D T:Int):aY6 n (uB M B D T) cx=aJ1 n (cx.nrm AE) (fun v4=>cx.ret (sY v4)) M B D T:=cD5 n _ M B D T
def aG6 (n:Nat) (kr:Int→Option β):Option β:=kr (-1:Int)
def aU8:FS1 β:=FXs (JF n) n IA none (some lV) [] [30,31]
theorem bZ3:aU8 n AE cx=aG6 n (fun v4=>cx.ret (sY v4)):=by kernel_rfl
def QM (kr:Int→Option β) (M B:List Int):Option β:=u4 n (fun M B D T=>aJ1 n (aG6 n kr) kr M B D T) M B
def GR (s:FState) (cx:Cx β):Option β:=bB9 n s {cx with nrm:=fun s=>aY6 n s {cx with nrm:=fun s=>aU8 n s cx}}
theorem cD8 (M B:List Int):GR n (TO M B) cx=QM n (fun v4=>cx.ret (sY v4)) M B:=by simp only [GR,QM,bX7,bV3,bZ3]
def eA1 (M B:List Int):Option (DenR [.dat (.int .i64)]):=QM n (fun v4=>some (v4,())) M B
def cL6:List AK:=[.ro (.int .i32) 21,.ro (.int .i32) 21]
def y5:List RK:=[.dat (.int .i64)]
def eS8 (d:DenA cL6):Option (DenR y5):=eA1 n d.1 d.2.1
def dU0:Spec:=aQ cL6 y5 (eS8 n)
def cY5:Sk:=(.nd (.fin none none none [] .leaf) (.nd (.fin none none none [] .leaf) (.nd (.nd (.fin none (some BP) none [] .leaf) (.nd (.nd (.nd (.nd (.fin none none (some lV) [(0,sC)] .leaf) (.fin none none (some lV) [(0,sC)] .leaf)) (.nd (.fin none none (some lV) [(0,sC)] .leaf) (.fin none (some BP) (some lV) [(0,sC)] .leaf))) .leaf) .leaf)) (.nd (.fin none none (some lV) [] .leaf) (.fin none none (some lV) [] .leaf)))))
theorem cL7 (s:FState) (cx:Cx β):FX (JF n) n IA cY5 s cx=GR n s cx:=by kernel_rfl
theorem cT1:Fit Tryd.prog 156 (dU0 n):=
  cJ (Γ:=Γ0) (l:=dK5 n) (n:=n) (sk:=cY5) (ts:=[(4,none)]) (fn:=Tryd.f156) (c:=IA) (by kernel_rfl) (by kernel_rfl) (by unfold aS;kernel_rfl) cF ⟨J4 n,trivial⟩ aO (by kernel_rfl) (by kernel_rfl) (Nat.le_of_ble_eq_true (by kernel_rfl)) (Nat.le_of_ble_eq_true (by kernel_rfl)) (by kernel_rfl) (by kernel_rfl)
    (fun d=>(cL7 n _ _).trans (Eq.trans (b:=GR n (TO d.1 d.2.1) (cS (JF n) y5 [(4,none)])) (by kernel_rfl) ((cD8 n _ d.1 d.2.1).trans (by kernel_rfl))))
def cM1:List AK:=[.pro Z1 106,.ro (.int .i32) 21,.ro (.int .i32) 21,.dat (.int .i64)]
def dW0:List RK:=[.rw (.sl 21 (.int .i32)) 22]
def eZ2 (n:Nat) (Z:Z11) (J S:List Int) (v3:Int):Option (DenR [.rw (.sl 21 (.int .i32)) 22]):=none
def eS5 (n:Nat) (d:DenA cM1):Option (DenR dW0):=none
def cZ3:Spec:=aQ cM1 dW0 (eS5 n)
theorem cT7:Fit Tryd.prog 176 (cZ3 n):=mV (by unfold aS;kernel_rfl)
def XL (C:Z11) (B L:List Int):FState:=⟨aM [(0,.ptr 0 0 0),(1,.sl 1 none false),(2,.sl 2 none false)],aE [(0,.row Z1 106 false [C]),(1,.row (.int .i32) 21 false B),(2,.row (.int .i32) 21 false L)]⟩
def UZ:FState:=⟨aM [(6,.nsl)],aE []⟩
def dN:List NE:=[.keep 6]
def bD9 (C:Z11) (B L x7 X:List Int):FState:=⟨aM [(0,.ptr 0 0 0),(1,.sl 1 none false),(2,.sl 2 none false),(7,.sl 7 none false),(8,.sl 8 none false)],aE [(0,.row Z1 106 false [C]),(1,.row (.int .i32) 21 false B),(2,.row (.int .i32) 21 false L),(7,.row (.int .i32) 21 false x7),(8,.row (.int .i32) 21 false X)]⟩
def A6:List NE:=[.ptr 0 Z1 106 false,.row 1 (.int .i32) 21 false,.row 2 (.int .i32) 21 false,.row 7 (.int .i32) 21 false,.row 8 (.int .i32) 21 false]
def cR8:List (Nat×Spec):=[(176,cZ3 n)]
def WV:Ctx:={Γ0 with calls:=lkS (cR8 n)}
def WO:Code:=fb Tryd.f157
def aK4 (n:Nat) (kn:Z11→List Int→List Int→List Int→List Int→Option β) (kr:Option β) (C:Z11) (B L:List Int):Option β:=bif (decide (C.1≤(0:Int))) then kr else (bif (decide ((B.length:Int)>(L.length:Int))) then (kn C B L B L) else (kn C B L L B))
def bL4:FS1 β:=FXs (WV n) n WO (some A6) (some dN) [] [2,12,13,14,60,61]
theorem cC4 (C:Z11) (B L:List Int):bL4 n (XL C B L) cx=aK4 n (fun C B L x7 X=>cx.nrm (bD9 C B L x7 X)) (cx.ret UZ) C B L:=by kernel_rfl
def dZ1 (kr:Option β) (C:Z11) (B L x7 X:List Int):Option β:=bif (decide ((x7.length:Int) < (4:Int))) then kr else (bif (decide ((w64 ((X.length:Int) * 2)) < (x7.length:Int))) then kr else (onS (floatBits .quo .f64 (floatOfInt .f64 (w64 ((x7.length:Int)+3))) (4616189618054758400:Nat)) fun W=>onS (floatToIntVal .f64 W .i64) fun r2=>(eZ2 n C x7 X r2).bind fun r3=>onS (floatBits .quo .f64 (floatOfInt .f64 (w64 ((x7.length:Int)+1))) (4611686018427387904:Nat)) fun r4=>onS (floatToIntVal .f64 r4 .i64) fun r5=>(eZ2 n C x7 X r5).bind fun r6=>none))
def bI8:FS1 β:=FXs (WV n) n WO none (some dN) [] [124,125,126,254,510,2044,2045,4092,4093,4094,4095]
theorem cF0 (C:Z11) (B L x7 X:List Int):bI8 n (bD9 C B L x7 X) cx=dZ1 n (cx.ret UZ) C B L x7 X:=by kernel_rfl
def VL (kr:Option β) (C:Z11) (B L:List Int):Option β:=aK4 n (fun C B L x7 X=>dZ1 n kr C B L x7 X) kr C B L
def GC (s:FState) (cx:Cx β):Option β:=bL4 n s {cx with nrm:=fun s=>bI8 n s cx}
theorem bX9 (C:Z11) (B L:List Int):GC n (XL C B L) cx=VL n (cx.ret UZ) C B L:=by simp only [GC,VL,cC4,cF0]
def eF9 (C:Z11) (B L:List Int):Option (DenR [.nsl]):=VL n (some ((),())) C B L
def dE1:List AK:=[.pro Z1 106,.ro (.int .i32) 21,.ro (.int .i32) 21]
def aD6:List RK:=[.nsl]
def eV3 (d:DenA dE1):Option (DenR aD6):=eF9 n d.1 d.2.1 d.2.2.1
def cX7:Spec:=aQ dE1 aD6 (eV3 n)
def dS2:Sk:=(.nd (.fin none none (some dN) [] .leaf) (.nd (.nd (.fin none none (some dN) [] .leaf) (.fin none none (some dN) [] .leaf)) (.nd (.fin none none (some dN) [] .leaf) (.nd (.nd (.fin none none (some dN) [] .leaf) (.fin none (some A6) (some dN) [] .leaf)) (.nd (.nd (.fin none none (some dN) [] .leaf) (.fin none none (some dN) [] .leaf)) (.nd (.fin none none (some dN) [] .leaf) (.nd (.fin none none (some dN) [] .leaf) (.nd (.fin none none (some dN) [] .leaf) (.nd (.nd (.fin none none (some dN) [] .leaf) (.fin none none (some dN) [] .leaf)) (.nd (.nd (.fin none none (some dN) [] .leaf) (.fin none none (some dN) [] .leaf)) (.nd (.fin none none (some dN) [] .leaf) (.fin none none (some dN) [] .leaf))))))))))))
theorem dR1 (s:FState) (cx:Cx β):FX (WV n) n WO dS2 s cx=GC n s cx:=by kernel_rfl
theorem dX0:Fit Tryd.prog 157 (cX7 n):=
  cJ (Γ:=Γ0) (l:=cR8 n) (n:=n) (sk:=dS2) (ts:=[(6,none)]) (fn:=Tryd.f157) (c:=WO) (by kernel_rfl) (by kernel_rfl) (by unfold aS;kernel_rfl) cF ⟨cT7 n,trivial⟩ aO (by kernel_rfl) (by kernel_rfl) (Nat.le_of_ble_eq_true (by kernel_rfl)) (Nat.le_of_ble_eq_true (by kernel_rfl)) (by kernel_rfl) (by kernel_rfl)
    (fun d=>(dR1 n _ _).trans (Eq.trans (b:=GC n (XL d.1 d.2.1 d.2.2.1) (cS (WV n) aD6 [(6,none)])) (by kernel_rfl) ((bX9 n _ d.1 d.2.1 d.2.2.1).trans (by kernel_rfl))))
end
end
end Go.Proofs.YthkiaiilpaojnaaDoorZF
