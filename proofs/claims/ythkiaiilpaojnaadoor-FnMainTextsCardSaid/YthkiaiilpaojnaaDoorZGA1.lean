import Derived.Test.YthkiaiilpaojnaaDoorZFT
import Derived.Test.YthkiaiilpaojnaaDoorZFE
import Derived.Test.YthkiaiilpaojnaaDoorZGA0
namespace Go.Proofs.YthkiaiilpaojnaaDoorZF
noncomputable section
open Go Go.Proofs
set_option linter.unusedVariables false
set_option maxRecDepth 100000
variable {β:Type}
def SX (C:Z11) (B:List Z26):FState:=⟨aI [(0,.ptr 0 0 0),(1,.sl 1 none false)],aE [(0,.row Z1 106 false [C]),(1,.row Z22 115 true B)]⟩
def bI4 (x4:List Z26):FState:=⟨aI [(4,.sl 4 none false)],aE [(4,.row Z22 115 true x4)]⟩
def MU:List NE:=[.row 4 Z22 115 true]
def eX (C:Z11) (B:List Z26) (D:Int):FState:=⟨aI [(0,.ptr 0 0 0),(1,.sl 1 none false),(5,.dat (.int .i64) D)],aE [(0,.row Z1 106 false [C]),(1,.row Z22 115 true B)]⟩
def jJ:List NE:=[.ptr 0 Z1 106 false,.row 1 Z22 115 true,.keep 5]
def uB (B:List Z26):FState:=⟨aI [(1,.sl 1 none false)],aE [(1,.row Z22 115 true B)]⟩
def IL:List NE:=[.row 1 Z22 115 true]
def wW (C:Z11) (B:List Z26) (D:Int) (bg:Bool):FState:=⟨aI [(0,.ptr 0 0 0),(1,.sl 1 none false),(5,.dat (.int .i64) D),(38,.dat .bool bg)],aE [(0,.row Z1 106 false [C]),(1,.row Z22 115 true B)]⟩
def O3:List NE:=[.ptr 0 Z1 106 false,.row 1 Z22 115 true,.keep 5,.keep 38]
def bG2 (C:Z11) (B:List Z26) (D:Int) (T E G:BA):FState:=⟨aI [(0,.ptr 0 0 0),(1,.sl 1 none false),(5,.dat (.int .i64) D),(6,.dat .str T),(7,.dat .str E),(8,.dat .str G)],aE [(0,.row Z1 106 false [C]),(1,.row Z22 115 true B)]⟩
def ZM:List NE:=[.ptr 0 Z1 106 false,.row 1 Z22 115 true,.keep 5,.keep 6,.keep 7,.keep 8]
def tG (C:Z11) (B:List Z26) (D:Int) (T E G H N q:BA) (ac:Int):FState:=⟨aI [(0,.ptr 0 0 0),(1,.sl 1 none false),(5,.dat (.int .i64) D),(6,.dat .str T),(7,.dat .str E),(8,.dat .str G),(11,.dat .str H),(12,.dat .str N),(13,.dat .str q),(14,.dat (.int .i64) ac)],aE [(0,.row Z1 106 false [C]),(1,.row Z22 115 true B)]⟩
def yG:List NE:=[.ptr 0 Z1 106 false,.row 1 Z22 115 true,.keep 5,.keep 6,.keep 7,.keep 8,.keep 11,.keep 12,.keep 13,.keep 14]
def yY (C:Z11) (B:List Z26) (D:Int) (H N q:BA):FState:=⟨aI [(0,.ptr 0 0 0),(1,.sl 1 none false),(5,.dat (.int .i64) D),(11,.dat .str H),(12,.dat .str N),(13,.dat .str q)],aE [(0,.row Z1 106 false [C]),(1,.row Z22 115 true B)]⟩
def zO:List NE:=[.ptr 0 Z1 106 false,.row 1 Z22 115 true,.keep 5,.keep 11,.keep 12,.keep 13]
section
variable (n:Nat) (cx:Cx β)
def dU5:List (Nat×Spec):=[(113,KJ n),(163,cO4 n),(164,dG8 n),(165,aL8 n)]
def mE:Ctx:={Γ0 with calls:=lkS (dU5 n)}
def lJ:Code:=fb Tryd.f141
def aS9 (n:Nat) (kn:Z11→List Z26→Int→Option β) (C:Z11) (B:List Z26):Option β:=kn C B (1:Int)
def bA3:FS1 β:=FXs (mE n) n lJ (some jJ) none [] [2,6]
theorem cG2 (C:Z11) (B:List Z26):bA3 n (SX C B) cx=aS9 n (fun C B D=>cx.nrm (eX C B D)) C B:=by kernel_rfl
def aU4 (n:Nat) (kn:Z11→List Z26→Int→Option β) (ae:List Z26→Option β) (C:Z11) (B:List Z26) (D:Int):Option β:=bif (decide (D < (w64 ((B.length:Int) - 1)))) then (kn C B D) else (ae B)
def aY0:FS1 β:=FXs (mE n) n lJ (some jJ) none [(0,IL)] [224,225]
theorem cK3 (C:Z11) (B:List Z26) (D:Int):aY0 n (eX C B D) cx=aU4 n (fun C B D=>cx.nrm (eX C B D)) (fun B=>cx.ex 0 (uB B)) C B D:=by kernel_rfl
def aK0 (n:Nat) (kn:Z11→List Z26→Int→Bool→Option β) (C:Z11) (B:List Z26) (D:Int):Option β:=idx (w64 (D - 1)) (B.length:Int)<|bif ((rd B (w64 (D - 1)) Z17).1==(0:Int)) then (idx (w64 (D+1)) (B.length:Int)<|kn C B D ((rd B (w64 (D+1)) Z17).1==(0:Int))) else (kn C B D false)
def bM3:FS1 β:=FXs (mE n) n lJ (some O3) none [] [904]
theorem cJ0 (C:Z11) (B:List Z26) (D:Int):bM3 n (eX C B D) cx=aK0 n (fun C B D bg=>cx.nrm (wW C B D bg)) C B D:=by kernel_rfl
def aR6 (kn:Z11→List Z26→Int→BA→BA→BA→Option β) (C:Z11) (B:List Z26) (D:Int) (bg:Bool):Option β:=idx (w64 (D - 1)) (B.length:Int)<|idx D (B.length:Int)<|idx (w64 (D+1)) (B.length:Int)<|(eH6 n C ((rd B (w64 (D - 1)) Z17).2) ((rd B D Z17).2)).bind fun V=>bif (decide (V.1>(0:Int))) then (bnd (w64 ((((rd B D Z17).2).size:Int) - V.1)) (((rd B D Z17).2).size:Int) (((rd B D Z17).2).size:Int)<|bnd (0:Int) (w64 ((((rd B (w64 (D - 1)) Z17).2).size:Int) - V.1)) (((rd B (w64 (D - 1)) Z17).2).size:Int)<|bnd (0:Int) (w64 ((((rd B D Z17).2).size:Int) - V.1)) (((rd B D Z17).2).size:Int)<|cM ((bE ((rd B D Z17).2) (w64 ((((rd B D Z17).2).size:Int) - V.1)) (((rd B D Z17).2).size:Int)).size+(bE ((rd B D Z17).2) (0:Int) (w64 ((((rd B D Z17).2).size:Int) - V.1))).size)<|cM ((bE ((rd B D Z17).2) (w64 ((((rd B D Z17).2).size:Int) - V.1)) (((rd B D Z17).2).size:Int)).size+((rd B (w64 (D+1)) Z17).2).size)<|kn C B D (bE ((rd B (w64 (D - 1)) Z17).2) (0:Int) (w64 ((((rd B (w64 (D - 1)) Z17).2).size:Int) - V.1))) ((bE ((rd B D Z17).2) (w64 ((((rd B D Z17).2).size:Int) - V.1)) (((rd B D Z17).2).size:Int))++(bE ((rd B D Z17).2) (0:Int) (w64 ((((rd B D Z17).2).size:Int) - V.1)))) ((bE ((rd B D Z17).2) (w64 ((((rd B D Z17).2).size:Int) - V.1)) (((rd B D Z17).2).size:Int))++(rd B (w64 (D+1)) Z17).2)) else (kn C B D ((rd B (w64 (D - 1)) Z17).2) ((rd B D Z17).2) ((rd B (w64 (D+1)) Z17).2))
def bC8:FS1 β:=FXs (mE n) n lJ (some ZM) none [] [3620,7242,14486,28974,115900,115901]
theorem bS2 (C:Z11) (B:List Z26) (D:Int) (bg:Bool):bC8 n (wW C B D bg) cx=aR6 n (fun C B D T E G=>cx.nrm (bG2 C B D T E G)) C B D bg:=by kernel_rfl
def XK (kn:Z11→List Z26→Int→BA→BA→BA→BA→BA→BA→Int→Option β) (C:Z11) (B:List Z26) (D:Int) (T E G:BA):Option β:=(u4 n T E).bind fun V=>(u4 n E G).bind fun r2=>kn C B D T E G T E G (w64 (V.1+r2.1))
def bH6:FS1 β:=FXs (mE n) n lJ (some yG) none [] [115902,231806,463614,927230]
theorem bV8 (C:Z11) (B:List Z26) (D:Int) (T E G:BA):bH6 n (bG2 C B D T E G) cx=XK n (fun C B D T E G H N q ac=>cx.nrm (tG C B D T E G H N q ac)) C B D T E G:=by kernel_rfl
def RU (kn:Z11→List Z26→Int→BA→BA→BA→BA→BA→BA→Int→Option β) (ap:Z11→List Z26→Int→BA→BA→BA→Option β) (C:Z11) (B:List Z26) (D:Int) (T E G H N q:BA) (ac:Int):Option β:=bif ((E.size:Int)!=(0:Int)) then (bif ((G.size:Int)!=(0:Int)) then ((cI5 n E).bind fun V=>bif (decide ((G.size:Int) < V.2.1)) then (ap C B D H N q) else (bnd (0:Int) V.2.1 (E.size:Int)<|bnd (0:Int) V.2.1 (G.size:Int)<|bif (!eK (bE E (0:Int) V.2.1) (bE G (0:Int) V.2.1)) then (ap C B D H N q) else (bnd (0:Int) V.2.1 (E.size:Int)<|cM (T.size+(bE E (0:Int) V.2.1).size)<|bnd V.2.1 (E.size:Int) (E.size:Int)<|bnd (0:Int) V.2.1 (G.size:Int)<|cM ((bE E V.2.1 (E.size:Int)).size+(bE G (0:Int) V.2.1).size)<|bnd V.2.1 (G.size:Int) (G.size:Int)<|(u4 n (T++(bE E (0:Int) V.2.1)) ((bE E V.2.1 (E.size:Int))++(bE G (0:Int) V.2.1))).bind fun r2=>(u4 n ((bE E V.2.1 (E.size:Int))++(bE G (0:Int) V.2.1)) (bE G V.2.1 (G.size:Int))).bind fun r3=>bif (decide ((w64 (r2.1+r3.1))≥ac)) then (kn C B D (T++(bE E (0:Int) V.2.1)) ((bE E V.2.1 (E.size:Int))++(bE G (0:Int) V.2.1)) (bE G V.2.1 (G.size:Int)) (T++(bE E (0:Int) V.2.1)) ((bE E V.2.1 (E.size:Int))++(bE G (0:Int) V.2.1)) (bE G V.2.1 (G.size:Int)) (w64 (r2.1+r3.1))) else (kn C B D (T++(bE E (0:Int) V.2.1)) ((bE E V.2.1 (E.size:Int))++(bE G (0:Int) V.2.1)) (bE G V.2.1 (G.size:Int)) H N q ac)))) else (ap C B D H N q)) else (ap C B D H N q)
def XS:FS1 β:=FXs (mE n) n lJ (some yG) none [(2,zO)] [29671392,29671393,14835697]
theorem bS0 (C:Z11) (B:List Z26) (D:Int) (T E G H N q:BA) (ac:Int):XS n (tG C B D T E G H N q ac) cx=RU n (fun C B D T E G H N q ac=>cx.nrm (tG C B D T E G H N q ac)) (fun C B D H N q=>cx.ex 2 (yY C B D H N q)) C B D T E G H N q ac:=by kernel_rfl
def g141_7L (n:Nat) (ap:Z11→List Z26→Int→BA→BA→BA→Option β):Nat→Z11→List Z26→Int→BA→BA→BA→BA→BA→BA→Int→Option β
  | 0,_,_,_,_,_,_,_,_,_,_=>none
  | m+1,C,B,D,T,E,G,H,N,q,ac=>RU n (g141_7L n ap m) ap C B D T E G H N q ac
def j8 (ap:Z11→List Z26→Int→BA→BA→BA→Option β) (C:Z11) (B:List Z26) (D:Int) (T E G H N q:BA) (ac:Int):Option β:=g141_7L n ap n C B D T E G H N q ac
def bO0 (s:FState) (cx:Cx β):Option β:=bQ (fun again s=>XS n s {cx with nrm:=again}) n s
theorem g8 (n:Nat) (cx:Cx β):∀(m:Nat) (C:Z11) (B:List Z26) (D:Int) (T E G H N q:BA) (ac:Int),bQ (fun again s=>XS n s {cx with nrm:=again}) m (tG C B D T E G H N q ac)=g141_7L n (fun C B D H N q=>cx.ex 2 (yY C B D H N q)) m C B D T E G H N q ac:=by
  intro m
  induction m with
  | zero=>intros;rfl
  | succ m ih=>intros;simp only [bQ,g141_7L,bS0,ih]
theorem cC2 (C:Z11) (B:List Z26) (D:Int) (T E G H N q:BA) (ac:Int):bO0 n (tG C B D T E G H N q ac) cx=j8 n (fun C B D H N q=>cx.ex 2 (yY C B D H N q)) C B D T E G H N q ac:=g8 n cx n C B D T E G H N q ac
def RL (kn:Z11→List Z26→Int→BA→BA→BA→Option β) (C:Z11) (B:List Z26) (D:Int) (T E G H N q:BA) (ac:Int):Option β:=j8 n kn C B D T E G H N q ac
def bI9 (s:FState) (cx:Cx β):Option β:=bO0 n s {cx with ex:=fun j s=>bif Nat.beq j 2 then cx.nrm s else cx.ex j s}
theorem bT2 (C:Z11) (B:List Z26) (D:Int) (T E G H N q:BA) (ac:Int):bI9 n (tG C B D T E G H N q ac) cx=RL n (fun C B D H N q=>cx.nrm (yY C B D H N q)) C B D T E G H N q ac:=cC2 n _ C B D T E G H N q ac
def II (kn:Z11→List Z26→Int→Option β) (C:Z11) (B:List Z26) (D:Int) (H N q:BA):Option β:=idx (w64 (D - 1)) (B.length:Int)<|bif (!eK ((rd B (w64 (D - 1)) Z17).2) H) then (bif ((H.size:Int)!=(0:Int)) then (idx (w64 (D - 1)) (B.length:Int)<|idx D ((B.set (w64 (D - 1)).toNat ((rd B (w64 (D - 1)) Z17).1,H)).length:Int)<|bif ((q.size:Int)!=(0:Int)) then (idx (w64 (D+1)) (((B.set (w64 (D - 1)).toNat ((rd B (w64 (D - 1)) Z17).1,H)).set D.toNat ((rd (B.set (w64 (D - 1)).toNat ((rd B (w64 (D - 1)) Z17).1,H)) D Z17).1,N)).length:Int)<|kn C (((B.set (w64 (D - 1)).toNat ((rd B (w64 (D - 1)) Z17).1,H)).set D.toNat ((rd (B.set (w64 (D - 1)).toNat ((rd B (w64 (D - 1)) Z17).1,H)) D Z17).1,N)).set (w64 (D+1)).toNat ((rd ((B.set (w64 (D - 1)).toNat ((rd B (w64 (D - 1)) Z17).1,H)).set D.toNat ((rd (B.set (w64 (D - 1)).toNat ((rd B (w64 (D - 1)) Z17).1,H)) D Z17).1,N)) (w64 (D+1)) Z17).1,q)) D) else (bnd (0:Int) (w64 (D+1)) (((B.set (w64 (D - 1)).toNat ((rd B (w64 (D - 1)) Z17).1,H)).set D.toNat ((rd (B.set (w64 (D - 1)).toNat ((rd B (w64 (D - 1)) Z17).1,H)) D Z17).1,N)).length:Int)<|bnd (w64 (D+2)) (((B.set (w64 (D - 1)).toNat ((rd B (w64 (D - 1)) Z17).1,H)).set D.toNat ((rd (B.set (w64 (D - 1)).toNat ((rd B (w64 (D - 1)) Z17).1,H)) D Z17).1,N)).length:Int) (((B.set (w64 (D - 1)).toNat ((rd B (w64 (D - 1)) Z17).1,H)).set D.toNat ((rd (B.set (w64 (D - 1)).toNat ((rd B (w64 (D - 1)) Z17).1,H)) D Z17).1,N)).length:Int)<|cM ((cut ((B.set (w64 (D - 1)).toNat ((rd B (w64 (D - 1)) Z17).1,H)).set D.toNat ((rd (B.set (w64 (D - 1)).toNat ((rd B (w64 (D - 1)) Z17).1,H)) D Z17).1,N)) (0:Int) ((0:Int)+((w64 (D+1)) - (0:Int)))).length+(cut ((B.set (w64 (D - 1)).toNat ((rd B (w64 (D - 1)) Z17).1,H)).set D.toNat ((rd (B.set (w64 (D - 1)).toNat ((rd B (w64 (D - 1)) Z17).1,H)) D Z17).1,N)) (w64 (D+2)) ((w64 (D+2))+((((B.set (w64 (D - 1)).toNat ((rd B (w64 (D - 1)) Z17).1,H)).set D.toNat ((rd (B.set (w64 (D - 1)).toNat ((rd B (w64 (D - 1)) Z17).1,H)) D Z17).1,N)).length:Int) - (w64 (D+2))))).length)<|kn C ((cut ((B.set (w64 (D - 1)).toNat ((rd B (w64 (D - 1)) Z17).1,H)).set D.toNat ((rd (B.set (w64 (D - 1)).toNat ((rd B (w64 (D - 1)) Z17).1,H)) D Z17).1,N)) (0:Int) ((0:Int)+((w64 (D+1)) - (0:Int))))++(cut ((B.set (w64 (D - 1)).toNat ((rd B (w64 (D - 1)) Z17).1,H)).set D.toNat ((rd (B.set (w64 (D - 1)).toNat ((rd B (w64 (D - 1)) Z17).1,H)) D Z17).1,N)) (w64 (D+2)) ((w64 (D+2))+((((B.set (w64 (D - 1)).toNat ((rd B (w64 (D - 1)) Z17).1,H)).set D.toNat ((rd (B.set (w64 (D - 1)).toNat ((rd B (w64 (D - 1)) Z17).1,H)) D Z17).1,N)).length:Int) - (w64 (D+2)))))) (w64 (D - 1)))) else ((qN n B (w64 (D - 1)) (1:Int) []).bind fun V=>idx (w64 (D - 1)) (V.1.length:Int)<|bif ((q.size:Int)!=(0:Int)) then (idx (w64 ((w64 (D - 1))+(1:Int))) ((V.1.set (w64 (D - 1)).toNat ((rd V.1 (w64 (D - 1)) Z17).1,N)).length:Int)<|kn C ((V.1.set (w64 (D - 1)).toNat ((rd V.1 (w64 (D - 1)) Z17).1,N)).set (w64 ((w64 (D - 1))+(1:Int))).toNat ((rd (V.1.set (w64 (D - 1)).toNat ((rd V.1 (w64 (D - 1)) Z17).1,N)) (w64 ((w64 (D - 1))+(1:Int))) Z17).1,q)) (w64 (D - 1))) else (bnd (0:Int) (w64 ((w64 (D - 1))+(1:Int))) ((V.1.set (w64 (D - 1)).toNat ((rd V.1 (w64 (D - 1)) Z17).1,N)).length:Int)<|bnd (w64 ((w64 (D - 1))+(2:Int))) ((V.1.set (w64 (D - 1)).toNat ((rd V.1 (w64 (D - 1)) Z17).1,N)).length:Int) ((V.1.set (w64 (D - 1)).toNat ((rd V.1 (w64 (D - 1)) Z17).1,N)).length:Int)<|cM ((cut (V.1.set (w64 (D - 1)).toNat ((rd V.1 (w64 (D - 1)) Z17).1,N)) (0:Int) ((0:Int)+((w64 ((w64 (D - 1))+(1:Int))) - (0:Int)))).length+(cut (V.1.set (w64 (D - 1)).toNat ((rd V.1 (w64 (D - 1)) Z17).1,N)) (w64 ((w64 (D - 1))+(2:Int))) ((w64 ((w64 (D - 1))+(2:Int)))+(((V.1.set (w64 (D - 1)).toNat ((rd V.1 (w64 (D - 1)) Z17).1,N)).length:Int) - (w64 ((w64 (D - 1))+(2:Int)))))).length)<|kn C ((cut (V.1.set (w64 (D - 1)).toNat ((rd V.1 (w64 (D - 1)) Z17).1,N)) (0:Int) ((0:Int)+((w64 ((w64 (D - 1))+(1:Int))) - (0:Int))))++(cut (V.1.set (w64 (D - 1)).toNat ((rd V.1 (w64 (D - 1)) Z17).1,N)) (w64 ((w64 (D - 1))+(2:Int))) ((w64 ((w64 (D - 1))+(2:Int)))+(((V.1.set (w64 (D - 1)).toNat ((rd V.1 (w64 (D - 1)) Z17).1,N)).length:Int) - (w64 ((w64 (D - 1))+(2:Int))))))) (w64 ((w64 (D - 1)) - (1:Int)))))) else (kn C B D)
def bF9:FS1 β:=FXs (mE n) n lJ (some jJ) none [] [3708926,3708927]
theorem bX1 (C:Z11) (B:List Z26) (D:Int) (H N q:BA):bF9 n (yY C B D H N q) cx=II n (fun C B D=>cx.nrm (eX C B D)) C B D H N q:=by kernel_rfl
def xS (kn:Z11→List Z26→Int→Option β) (C:Z11) (B:List Z26) (D:Int) (bg:Bool):Option β:=aR6 n (fun C B D T E G=>XK n (fun C B D T E G H N q ac=>RL n (fun C B D H N q=>II n kn C B D H N q) C B D T E G H N q ac) C B D T E G) C B D bg
def JS (s:FState) (cx:Cx β):Option β:=bC8 n s {cx with nrm:=fun s=>bH6 n s {cx with nrm:=fun s=>bI9 n s {cx with nrm:=fun s=>bF9 n s cx}}}
theorem X5 (C:Z11) (B:List Z26) (D:Int) (bg:Bool):JS n (wW C B D bg) cx=xS n (fun C B D=>cx.nrm (eX C B D)) C B D bg:=by simp only [JS,xS,bS2,bV8,bT2,bX1]
def XU (n:Nat) (kn:Z11→List Z26→Int→Option β) (C:Z11) (B:List Z26) (D:Int) (bg:Bool):Option β:=kn C B D
def ZN:FS1 β:=FXs (mE n) n lJ (some jJ) none [] [1811]
theorem aQ7 (C:Z11) (B:List Z26) (D:Int) (bg:Bool):ZN n (wW C B D bg) cx=XU n (fun C B D=>cx.nrm (eX C B D)) C B D bg:=by kernel_rfl
def tI (kn:Z11→List Z26→Int→Option β) (C:Z11) (B:List Z26) (D:Int) (bg:Bool):Option β:=bif bg then xS n kn C B D bg else XU n kn C B D bg
def KA (s:FState) (cx:Cx β):Option β:=asBool (ev s (kT (nav lJ [1,1,0,0,0,1,0,0,1]))) fun t=>cond t (JS n s cx) (ZN n s cx)
theorem aV2 (C:Z11) (B:List Z26) (D:Int) (bg:Bool):KA n (wW C B D bg) cx=tI n (fun C B D=>cx.nrm (eX C B D)) C B D bg:=by
  simp only [KA,tI,X5,aQ7]
  kernel_rfl
def xG (n:Nat) (kn:Z11→List Z26→Int→Option β) (C:Z11) (B:List Z26) (D:Int):Option β:=kn C B (w64 (D+1))
def YP:FS1 β:=FXs (mE n) n lJ (some jJ) none [] [453]
theorem aS3 (C:Z11) (B:List Z26) (D:Int):YP n (eX C B D) cx=xG n (fun C B D=>cx.nrm (eX C B D)) C B D:=by kernel_rfl
def GL (kn:Z11→List Z26→Int→Option β) (C:Z11) (B:List Z26) (D:Int):Option β:=aK0 n (fun C B D bg=>tI n (fun C B D=>xG n kn C B D) C B D bg) C B D
def IW (s:FState) (cx:Cx β):Option β:=bM3 n s {cx with nrm:=fun s=>KA n s {cx with nrm:=fun s=>YP n s cx}}
theorem aC1 (C:Z11) (B:List Z26) (D:Int):IW n (eX C B D) cx=GL n (fun C B D=>cx.nrm (eX C B D)) C B D:=by simp only [IW,GL,cJ0,aV2,aS3]
def RA (kn:Z11→List Z26→Int→Option β) (C:Z11) (B:List Z26) (D:Int):Option β:=GL n kn C B D
def ZU (s:FState) (cx:Cx β):Option β:=IW n s {cx with ex:=fun j s=>bif Nat.beq j 1 then cx.nrm s else cx.ex j s}
theorem aH5 (C:Z11) (B:List Z26) (D:Int):ZU n (eX C B D) cx=RA n (fun C B D=>cx.nrm (eX C B D)) C B D:=aC1 n _ C B D
def GG (kn:Z11→List Z26→Int→Option β) (ae:List Z26→Option β) (C:Z11) (B:List Z26) (D:Int):Option β:=aU4 n (fun C B D=>RA n kn C B D) ae C B D
def yA (s:FState) (cx:Cx β):Option β:=aY0 n s {cx with nrm:=fun s=>ZU n s cx}
theorem aK7 (C:Z11) (B:List Z26) (D:Int):yA n (eX C B D) cx=GG n (fun C B D=>cx.nrm (eX C B D)) (fun B=>cx.ex 0 (uB B)) C B D:=by simp only [yA,GG,cK3,aH5]
def g141_17L (n:Nat) (ae:List Z26→Option β):Nat→Z11→List Z26→Int→Option β
  | 0,_,_,_=>none
  | m+1,C,B,D=>GG n (g141_17L n ae m) ae C B D
def bC9 (ae:List Z26→Option β) (C:Z11) (B:List Z26) (D:Int):Option β:=g141_17L n ae n C B D
def R5 (s:FState) (cx:Cx β):Option β:=bQ (fun again s=>yA n s {cx with nrm:=again}) n s
theorem ZB (n:Nat) (cx:Cx β):∀(m:Nat) (C:Z11) (B:List Z26) (D:Int),bQ (fun again s=>yA n s {cx with nrm:=again}) m (eX C B D)=g141_17L n (fun B=>cx.ex 0 (uB B)) m C B D:=by
  intro m
  induction m with
  | zero=>intros;rfl
  | succ m ih=>intros;simp only [bQ,g141_17L,aK7,ih]
theorem aI4 (C:Z11) (B:List Z26) (D:Int):R5 n (eX C B D) cx=bC9 n (fun B=>cx.ex 0 (uB B)) C B D:=ZB n cx n C B D
def bC4 (kn:List Z26→Option β) (C:Z11) (B:List Z26) (D:Int):Option β:=bC9 n kn C B D
def ZD (s:FState) (cx:Cx β):Option β:=R5 n s {cx with ex:=fun j s=>bif Nat.beq j 0 then cx.nrm s else cx.ex j s}
theorem b5 (C:Z11) (B:List Z26) (D:Int):ZD n (eX C B D) cx=bC4 n (fun B=>cx.nrm (uB B)) C B D:=aI4 n _ C B D
def bK0 (n:Nat) (kr:List Z26→Option β) (B:List Z26):Option β:=kr B
def J2:FS1 β:=FXs (mE n) n lJ none (some MU) [] [30,31]
theorem W6 (B:List Z26):J2 n (uB B) cx=bK0 n (fun x4=>cx.ret (bI4 x4)) B:=by kernel_rfl
def GI (kr:List Z26→Option β) (C:Z11) (B:List Z26):Option β:=aS9 n (fun C B D=>bC4 n (fun B=>bK0 n kr B) C B D) C B
def wT (s:FState) (cx:Cx β):Option β:=bA3 n s {cx with nrm:=fun s=>ZD n s {cx with nrm:=fun s=>J2 n s cx}}
theorem aI2 (C:Z11) (B:List Z26):wT n (SX C B) cx=GI n (fun x4=>cx.ret (bI4 x4)) C B:=by simp only [wT,GI,cG2,b5,W6]
def eH8 (C:Z11) (B:List Z26):Option (DenR [.rw Z22 115]):=GI n (fun x4=>some (x4,())) C B
def dR6:List AK:=[.pro Z1 106,.rw Z22 115]
def aM7:List RK:=[.rw Z22 115]
def eZ4 (d:DenA dR6):Option (DenR aM7):=eH8 n d.1 d.2.1
def cW1:Spec:=aP dR6 aM7 (eZ4 n)
def dF3:Sk:=(.nd (.fin none none none [] .leaf) (.nd (.fin none (some jJ) none [] .leaf) (.nd (.nd (.nd (.nd (.nd (.fin none none none [(0,IL)] .leaf) (.fin none (some jJ) none [(0,IL)] .leaf)) (.nd (.nd (.nd (.fin none (some O3) none [] .leaf) (.nd (.nd (.fin none none none [] .leaf) (.nd (.fin none none none [] .leaf) (.nd (.fin none none none [] .leaf) (.nd (.fin none none none [] .leaf) (.nd (.nd (.fin none none none [] .leaf) (.fin none (some ZM) none [] .leaf)) (.nd (.fin none none none [] .leaf) (.nd (.fin none none none [] .leaf) (.nd (.fin none none none [] .leaf) (.nd (.fin none (some yG) none [] .leaf) (.nd (.nd (.nd (.nd (.nd (.fin none none none [(2,zO)] .leaf) (.fin none none none [(2,zO)] .leaf)) (.fin none (some yG) none [(2,zO)] .leaf)) .leaf) .leaf) (.nd (.fin none none none [] .leaf) (.fin none (some jJ) none [] .leaf)))))))))))) (.fin none (some jJ) none [] .leaf))) (.fin none (some jJ) none [] .leaf)) .leaf)) .leaf) .leaf) (.nd (.fin none none (some MU) [] .leaf) (.fin none none (some MU) [] .leaf)))))
theorem dD9 (s:FState) (cx:Cx β):FX (mE n) n lJ dF3 s cx=wT n s cx:=by kernel_rfl
theorem eA1:Fit Tryd.prog 141 (cW1 n):=
  cH (Γ:=Γ0) (l:=dU5 n) (n:=n) (sk:=dF3) (ts:=[(4,none)]) (fn:=Tryd.f141) (c:=lJ) (by kernel_rfl) (by kernel_rfl) (by unfold aS;kernel_rfl) cF ⟨zC n,dN4 n,dX3 n,P7 n,trivial⟩ aN (by kernel_rfl) (by kernel_rfl) (Nat.le_of_ble_eq_true (by kernel_rfl)) (Nat.le_of_ble_eq_true (by kernel_rfl)) (by kernel_rfl) (by kernel_rfl)
    (fun d=>(dD9 n _ _).trans (Eq.trans (b:=wT n (SX d.1 d.2.1) (cN (mE n) aM7 [(4,none)])) (by kernel_rfl) ((aI2 n _ d.1 d.2.1).trans (by kernel_rfl))))
theorem eG9 (a b:Nat) (w:World):(callFunc 190 #[.float .f64 a,.float .f64 b]).run Tryd.prog w= .ok (.value (.float .f64 (ZQ a b))) w:=by
  rw [run_callFunc_extern (fn:=Tryd.f190) (e:=Extern.MathDim.pick "math.archMin" true .lt) (by rfl) (by rfl) (by rfl) (by kernel_rfl) (by kernel_rfl)]
  rfl
attribute [local go_sem] eG9
theorem aP0 (a0 a1:Nat) (w:World):Calls Tryd.prog 166 #[.float .f64 a0,.float .f64 a1] w fun e w'=>e= .returned (.float .f64 (ZQ a0 a1))∧w'=w:=by
  go_enter Tryd.func166,Tryd.ntmps166
  go_wp2
  go_ret
  exact ⟨rfl,rfl⟩
def dI0:List AK:=[.dat (.flt .f64),.dat (.flt .f64)]
def dG0:List RK:=[.dat (.flt .f64)]
def fC2 (n Y J:Nat):Option (DenR [.dat (.flt .f64)]):=some (ZQ Y J,())
def fC4 (d:DenA dI0):Option (DenR dG0):=fC2 n d.1 d.2.1
def cM8:Spec:=aP dI0 dG0 (fC4 n)
theorem dR2:Fit Tryd.prog 166 (cM8 n):=zJ (by unfold aS;kernel_rfl) rfl fun d x w vs hG ha hx=>by
  obtain ⟨v,vs1,o1,o2,rfl,_,⟨_,cs,h1,h2⟩,v',vs2,o3,o4,rfl,_,⟨_,cs',h3,h4⟩,h5,_⟩:=ha
  obtain ⟨a,b,u⟩:=d
  subst h5
  have h1:cs=[Value.float .f64 a]:=h1
  have h3:cs'=[Value.float .f64 b]:=h3
  subst h1
  subst h3
  simp [K.isPair] at h2 h4
  subst h2
  subst h4
  cases hx
  exact (aP0 a b w).mono fun e w' ⟨he,hw⟩=>⟨[.float .f64 (ZQ a b)],he,⟨_,_,[],[],rfl,rfl,⟨rfl,_,rfl,rfl⟩,rfl,rfl⟩,by rw [hw];exact ⟨rfl,rfl,rfl,Nat.le_refl _,fun _ _=>rfl⟩⟩
def VD (C:Z11) (J R:BA):FState:=⟨aI [(0,.ptr 0 0 0),(1,.dat .str J),(2,.dat .str R)],aE [(0,.row Z1 106 false [C])]⟩
def HO (T:Int):FState:=⟨aI [(6,.dat (.int .i64) T)],aE []⟩
def eM:List NE:=[.keep 6]
def bB0 (J R:BA) (E G:Int):FState:=⟨aI [(1,.dat .str J),(2,.dat .str R),(7,.dat (.int .i64) E),(8,.dat (.int .i64) G)],aE []⟩
def ZY:List NE:=[.keep 1,.keep 2,.keep 7,.keep 8]
def uK (J R:BA) (F I H:Int):FState:=⟨aI [(1,.dat .str J),(2,.dat .str R),(9,.dat (.int .i64) F),(10,.dat (.int .i64) I),(11,.dat (.int .i64) H)],aE []⟩
def yR:List NE:=[.keep 1,.keep 2,.keep 9,.keep 10,.keep 11]
def BY (I:Int):FState:=⟨aI [(10,.dat (.int .i64) I)],aE []⟩
def P9:List NE:=[.keep 10]
def dP6:List (Nat×Spec):=[(95,dF1 n),(166,cM8 n)]
def CF:Ctx:={Γ0 with calls:=lkS (dP6 n)}
def CC:Code:=fb Tryd.f142
def aF6 (n:Nat) (kn:BA→BA→Int→Int→Option β) (kr:Int→Option β) (C:Z11) (J R:BA):Option β:=bif ((J.size:Int)==(0:Int)) then (kr (0:Int)) else (bif ((R.size:Int)==(0:Int)) then (kr (0:Int)) else (bif (decide ((J.size:Int)>(R.size:Int))) then (bnd (w64 ((J.size:Int) - (R.size:Int))) (J.size:Int) (J.size:Int)<|kn (bE J (w64 ((J.size:Int) - (R.size:Int))) (J.size:Int)) R (J.size:Int) (R.size:Int)) else (bif (decide ((J.size:Int) < (R.size:Int))) then (bnd (0:Int) (J.size:Int) (R.size:Int)<|kn J (bE R (0:Int) (J.size:Int)) (J.size:Int) (R.size:Int)) else (kn J R (J.size:Int) (R.size:Int)))))
def bA7:FS1 β:=FXs (CF n) n CC (some ZY) (some eM) [] [2,6,14,60,61,124,125]
theorem cG1 (C:Z11) (J R:BA):bA7 n (VD C J R) cx=aF6 n (fun J R E G=>cx.nrm (bB0 J R E G)) (fun T=>cx.ret (HO T)) C J R:=by kernel_rfl
def WD (kn:BA→BA→Int→Int→Int→Option β) (kr:Int→Option β) (J R:BA) (E G:Int):Option β:=(fC2 n (floatOfInt .f64 E) (floatOfInt .f64 G)).bind fun V=>onS (floatToIntVal .f64 V.1 .i64) fun r2=>bif (eK J R) then (kr r2) else (kn J R r2 (0:Int) (1:Int))
def bK6:FS1 β:=FXs (CF n) n CC (some yR) (some eM) [] [126,508,509,510,1022]
theorem bY6 (J R:BA) (E G:Int):bK6 n (bB0 J R E G) cx=WD n (fun J R F I H=>cx.nrm (uK J R F I H)) (fun T=>cx.ret (HO T)) J R E G:=by kernel_rfl
def n6 (kn:BA→BA→Int→Int→Int→Option β) (ae:Int→Option β) (J R:BA) (F I H:Int):Option β:=bnd (w64 (F - H)) (J.size:Int) (J.size:Int)<|(g95 n R (bE J (w64 (F - H)) (J.size:Int))).bind fun V=>bif (V.1==(-1:Int)) then (ae I) else (bif (V.1==(0:Int)) then (kn J R F (w64 (H+V.1)) (w64 ((w64 (H+V.1))+(1:Int)))) else (bnd (w64 (F - (w64 (H+V.1)))) (J.size:Int) (J.size:Int)<|bnd (0:Int) (w64 (H+V.1)) (R.size:Int)<|bif (eK (bE J (w64 (F - (w64 (H+V.1)))) (J.size:Int)) (bE R (0:Int) (w64 (H+V.1)))) then (kn J R F (w64 (H+V.1)) (w64 ((w64 (H+V.1))+(1:Int)))) else (kn J R F I (w64 (H+V.1)))))
def QF:FS1 β:=FXs (CF n) n CC (some yR) none [(0,P9)] [8184]
theorem bZ5 (J R:BA) (F I H:Int):QF n (uK J R F I H) cx=n6 n (fun J R F I H=>cx.nrm (uK J R F I H)) (fun I=>cx.ex 0 (BY I)) J R F I H:=by kernel_rfl
def g142_4L (n:Nat) (ae:Int→Option β):Nat→BA→BA→Int→Int→Int→Option β
  | 0,_,_,_,_,_=>none
  | m+1,J,R,F,I,H=>n6 n (g142_4L n ae m) ae J R F I H
def dY5 (ae:Int→Option β) (J R:BA) (F I H:Int):Option β:=g142_4L n ae n J R F I H
def bB4 (s:FState) (cx:Cx β):Option β:=bQ (fun again s=>QF n s {cx with nrm:=again}) n s
theorem m8 (n:Nat) (cx:Cx β):∀(m:Nat) (J R:BA) (F I H:Int),bQ (fun again s=>QF n s {cx with nrm:=again}) m (uK J R F I H)=g142_4L n (fun I=>cx.ex 0 (BY I)) m J R F I H:=by
  intro m
  induction m with
  | zero=>intros;rfl
  | succ m ih=>intros;simp only [bQ,g142_4L,bZ5,ih]
theorem cA2 (J R:BA) (F I H:Int):bB4 n (uK J R F I H) cx=dY5 n (fun I=>cx.ex 0 (BY I)) J R F I H:=m8 n cx n J R F I H
def l5 (kn:Int→Option β) (J R:BA) (F I H:Int):Option β:=dY5 n kn J R F I H
def bI7 (s:FState) (cx:Cx β):Option β:=bB4 n s {cx with ex:=fun j s=>bif Nat.beq j 0 then cx.nrm s else cx.ex j s}
theorem cH5 (J R:BA) (F I H:Int):bI7 n (uK J R F I H) cx=l5 n (fun I=>cx.nrm (BY I)) J R F I H:=cA2 n _ J R F I H
def TS (n:Nat) (kr:Int→Option β) (I:Int):Option β:=kr I
def bF8:FS1 β:=FXs (CF n) n CC none (some eM) [] [4094,4095]
theorem cG3 (I:Int):bF8 n (BY I) cx=TS n (fun T=>cx.ret (HO T)) I:=by kernel_rfl
def XE (kr:Int→Option β) (C:Z11) (J R:BA):Option β:=aF6 n (fun J R E G=>WD n (fun J R F I H=>l5 n (fun I=>TS n kr I) J R F I H) kr J R E G) kr C J R
def FQ (s:FState) (cx:Cx β):Option β:=bA7 n s {cx with nrm:=fun s=>bK6 n s {cx with nrm:=fun s=>bI7 n s {cx with nrm:=fun s=>bF8 n s cx}}}
theorem cB2 (C:Z11) (J R:BA):FQ n (VD C J R) cx=XE n (fun T=>cx.ret (HO T)) C J R:=by simp only [FQ,XE,cG1,bY6,cH5,cG3]
def bX9 (C:Z11) (J R:BA):Option (DenR [.dat (.int .i64)]):=XE n (fun T=>some (T,())) C J R
def dO8:List AK:=[.pro Z1 106,.dat .str,.dat .str]
def aB5:List RK:=[.dat (.int .i64)]
def fD5 (d:DenA dO8):Option (DenR aB5):=bX9 n d.1 d.2.1 d.2.2.1
def dV9:Spec:=aP dO8 aB5 (fD5 n)
def dO9:Sk:=(.nd (.fin none none (some eM) [] .leaf) (.nd (.fin none none (some eM) [] .leaf) (.nd (.fin none none (some eM) [] .leaf) (.nd (.nd (.fin none none (some eM) [] .leaf) (.fin none none (some eM) [] .leaf)) (.nd (.nd (.fin none none (some eM) [] .leaf) (.fin none (some ZY) (some eM) [] .leaf)) (.nd (.fin none none (some eM) [] .leaf) (.nd (.nd (.fin none none (some eM) [] .leaf) (.fin none none (some eM) [] .leaf)) (.nd (.fin none none (some eM) [] .leaf) (.nd (.fin none (some yR) (some eM) [] .leaf) (.nd (.nd (.nd (.fin none (some yR) none [(0,P9)] .leaf) .leaf) .leaf) (.nd (.fin none none (some eM) [] .leaf) (.fin none none (some eM) [] .leaf))))))))))))
theorem dM5 (s:FState) (cx:Cx β):FX (CF n) n CC dO9 s cx=FQ n s cx:=by kernel_rfl
theorem eC0:Fit Tryd.prog 142 (dV9 n):=
  cH (Γ:=Γ0) (l:=dP6 n) (n:=n) (sk:=dO9) (ts:=[(6,none)]) (fn:=Tryd.f142) (c:=CC) (by kernel_rfl) (by kernel_rfl) (by unfold aS;kernel_rfl) cF ⟨bN3 n,dR2 n,trivial⟩ aN (by kernel_rfl) (by kernel_rfl) (Nat.le_of_ble_eq_true (by kernel_rfl)) (Nat.le_of_ble_eq_true (by kernel_rfl)) (by kernel_rfl) (by kernel_rfl)
    (fun d=>(dM5 n _ _).trans (Eq.trans (b:=FQ n (VD d.1 d.2.1 d.2.2.1) (cN (CF n) aB5 [(6,none)])) (by kernel_rfl) ((cB2 n _ d.1 d.2.1 d.2.2.1).trans (by kernel_rfl))))
def QV (C:Z11) (B:List Z26):FState:=⟨aI [(0,.ptr 0 0 0),(1,.sl 1 none false)],aE [(0,.row Z1 106 false [C]),(1,.row Z22 115 true B)]⟩
def aX5 (x4:List Z26):FState:=⟨aI [(4,.sl 4 none false)],aE [(4,.row Z22 115 true x4)]⟩
def KS:List NE:=[.row 4 Z22 115 true]
def eH (C:Z11) (B:List Z26) (D:Bool) (y:List Int) (E:BA) (G F I H N:Int):FState:=⟨aI [(0,.ptr 0 0 0),(1,.sl 1 none false),(5,.dat .bool D),(6,.sl 6 none false),(7,.dat .str E),(8,.dat (.int .i64) G),(9,.dat (.int .i64) F),(10,.dat (.int .i64) I),(11,.dat (.int .i64) H),(12,.dat (.int .i64) N)],aE [(0,.row Z1 106 false [C]),(1,.row Z22 115 true B),(6,.row (.int .i64) 3 true y)]⟩
def iB:List NE:=[.ptr 0 Z1 106 false,.row 1 Z22 115 true,.keep 5,.row 6 (.int .i64) 3 true,.keep 7,.keep 8,.keep 9,.keep 10,.keep 11,.keep 12]
def tX (C:Z11) (B:List Z26) (D:Bool):FState:=⟨aI [(0,.ptr 0 0 0),(1,.sl 1 none false),(5,.dat .bool D)],aE [(0,.row Z1 106 false [C]),(1,.row Z22 115 true B)]⟩
def JW:List NE:=[.ptr 0 Z1 106 false,.row 1 Z22 115 true,.keep 5]
def BI (C:Z11) (B:List Z26) (D:Bool) (y:List Int) (E:BA) (G F I H N:Int) (bh:Bool):FState:=⟨aI [(0,.ptr 0 0 0),(1,.sl 1 none false),(5,.dat .bool D),(6,.sl 6 none false),(7,.dat .str E),(8,.dat (.int .i64) G),(9,.dat (.int .i64) F),(10,.dat (.int .i64) I),(11,.dat (.int .i64) H),(12,.dat (.int .i64) N),(33,.dat .bool bh)],aE [(0,.row Z1 106 false [C]),(1,.row Z22 115 true B),(6,.row (.int .i64) 3 true y)]⟩
def I9:List NE:=[.ptr 0 Z1 106 false,.row 1 Z22 115 true,.keep 5,.row 6 (.int .i64) 3 true,.keep 7,.keep 8,.keep 9,.keep 10,.keep 11,.keep 12,.keep 33]
def bH7 (C:Z11) (B:List Z26):FState:=⟨aI [(0,.ptr 0 0 0),(1,.sl 1 none false)],aE [(0,.row Z1 106 false [C]),(1,.row Z22 115 true B)]⟩
def I3:List NE:=[.ptr 0 Z1 106 false,.row 1 Z22 115 true]
def uD (C:Z11) (B:List Z26) (G:Int):FState:=⟨aI [(0,.ptr 0 0 0),(1,.sl 1 none false),(8,.dat (.int .i64) G)],aE [(0,.row Z1 106 false [C]),(1,.row Z22 115 true B)]⟩
def BL:List NE:=[.ptr 0 Z1 106 false,.row 1 Z22 115 true,.keep 8]
def rM (B:List Z26):FState:=⟨aI [(1,.sl 1 none false)],aE [(1,.row Z22 115 true B)]⟩
def tD:List NE:=[.row 1 Z22 115 true]
def cU7:List (Nat×Spec):=[(85,eO8 n),(113,KJ n),(137,aD6 n),(140,dS5 n),(141,cW1 n),(142,dV9 n)]
def lH:Ctx:={Γ0 with calls:=lkS (cU7 n)}
def kM:Code:=fb Tryd.f112
def aB3 (n:Nat) (kn:Z11→List Z26→Bool→List Int→BA→Int→Int→Int→Int→Int→Option β) (C:Z11) (B:List Z26):Option β:=bnd 0 (0:Int) (B.length:Int)<|vK (B.length:Int)<|kn C B false (List.replicate (0:Int).toNat (0:Int)) (⟨#[]⟩:BA) (0:Int) (0:Int) (0:Int) (0:Int) (0:Int)
def bC7:FS1 β:=FXs (lH n) n kM (some iB) none [] [2,6,14,30,62,126,254]
theorem cH4 (C:Z11) (B:List Z26):bC7 n (QV C B) cx=aB3 n (fun C B D y E G F I H N=>cx.nrm (eH C B D y E G F I H N)) C B:=by kernel_rfl
def aD2 (n:Nat) (kn:Z11→List Z26→Bool→List Int→BA→Int→Int→Int→Int→Int→Option β) (ae:Z11→List Z26→Bool→Option β) (C:Z11) (B:List Z26) (D:Bool) (y:List Int) (E:BA) (G F I H N:Int):Option β:=bif (decide (G < (B.length:Int))) then (kn C B D y E G F I H N) else (ae C B D)
def bG4:FS1 β:=FXs (lH n) n kM (some iB) none [(0,JW)] [8160,8161]
theorem cD3 (C:Z11) (B:List Z26) (D:Bool) (y:List Int) (E:BA) (G F I H N:Int):bG4 n (eH C B D y E G F I H N) cx=aD2 n (fun C B D y E G F I H N=>cx.nrm (eH C B D y E G F I H N)) (fun C B D=>cx.ex 0 (tX C B D)) C B D y E G F I H N:=by kernel_rfl
def f9 (n:Nat) (kn:Z11→List Z26→Bool→List Int→BA→Int→Int→Int→Int→Int→Bool→Option β) (C:Z11) (B:List Z26) (D:Bool) (y:List Int) (E:BA) (G F I H N:Int):Option β:=idx G (B.length:Int)<|kn C B D y E G F I H N ((rd B G Z17).1==(0:Int))
def aZ4:FS1 β:=FXs (lH n) n kM (some I9) none [] [32648]
theorem cJ5 (C:Z11) (B:List Z26) (D:Bool) (y:List Int) (E:BA) (G F I H N:Int):aZ4 n (eH C B D y E G F I H N) cx=f9 n (fun C B D y E G F I H N bh=>cx.nrm (BI C B D y E G F I H N bh)) C B D y E G F I H N:=by kernel_rfl
def aT1 (n:Nat) (kn:Z11→List Z26→Bool→List Int→BA→Int→Int→Int→Int→Int→Option β) (C:Z11) (B:List Z26) (D:Bool) (y:List Int) (E:BA) (G F I H N:Int) (bh:Bool):Option β:=cM (y.length+[G].length)<|idx G (B.length:Int)<|kn C B D (y++[G]) ((rd B G Z17).2) G H N (0:Int) (0:Int)
def bH0:FS1 β:=FXs (lH n) n kM (some iB) none [] [130596,261194,522390,1044782,2089566,2089567]
theorem bY1 (C:Z11) (B:List Z26) (D:Bool) (y:List Int) (E:BA) (G F I H N:Int) (bh:Bool):bH0 n (BI C B D y E G F I H N bh) cx=aT1 n (fun C B D y E G F I H N=>cx.nrm (eH C B D y E G F I H N)) C B D y E G F I H N bh:=by kernel_rfl
def aB7 (kn:Z11→List Z26→Bool→List Int→BA→Int→Int→Int→Int→Int→Option β) (C:Z11) (B:List Z26) (D:Bool) (y:List Int) (E:BA) (G F I H N:Int) (bh:Bool):Option β:=idx G (B.length:Int)<|bif ((rd B G Z17).1==(1:Int)) then (idx G (B.length:Int)<|(g85 n ((rd B G Z17).2)).bind fun V=>kn C B D y E G F I (w64 (H+V.1)) N) else (idx G (B.length:Int)<|(g85 n ((rd B G Z17).2)).bind fun r2=>kn C B D y E G F I H (w64 (N+r2.1)))
def bP7:FS1 β:=FXs (lH n) n kM (some iB) none [] [261196,261197]
theorem cH1 (C:Z11) (B:List Z26) (D:Bool) (y:List Int) (E:BA) (G F I H N:Int) (bh:Bool):bP7 n (BI C B D y E G F I H N bh) cx=aB7 n (fun C B D y E G F I H N=>cx.nrm (eH C B D y E G F I H N)) C B D y E G F I H N bh:=by kernel_rfl
def YO (kn:Z11→List Z26→Bool→List Int→BA→Int→Int→Int→Int→Int→Option β) (C:Z11) (B:List Z26) (D:Bool) (y:List Int) (E:BA) (G F I H N:Int):Option β:=(eJ4 n (floatOfInt .f64 F) (floatOfInt .f64 I)).bind fun V=>onS (floatToIntVal .f64 V.1 .i64) fun r2=>(eJ4 n (floatOfInt .f64 H) (floatOfInt .f64 N)).bind fun r3=>onS (floatToIntVal .f64 r3.1 .i64) fun r4=>(g85 n E).bind fun r5=>bif (decide (r5.1>(0:Int))) then ((g85 n E).bind fun r6=>bif (decide (r6.1≤r2)) then ((g85 n E).bind fun r7=>bif (decide (r7.1≤r4)) then (idx (w64 ((y.length:Int) - 1)) (y.length:Int)<|(qN n B (rd y (w64 ((y.length:Int) - 1)) (0:Int)) (0:Int) [((-1:Int),E)]).bind fun r8=>idx (w64 ((rd y (w64 ((y.length:Int) - 1)) (0:Int))+(1:Int))) (r8.1.length:Int)<|bnd (0:Int) (w64 ((y.length:Int) - 1)) (y.length:Int)<|bif (decide (((w64 ((y.length:Int) - 1)) - (0:Int))>(0:Int))) then (bnd (0:Int) (w64 (((w64 ((y.length:Int) - 1)) - (0:Int)) - (1:Int))) ((w64 ((y.length:Int) - 1)) - (0:Int))<|bif (decide (((w64 (((w64 ((y.length:Int) - 1)) - (0:Int)) - (1:Int))) - (0:Int))>(0:Int))) then (idx (w64 (((w64 (((w64 ((y.length:Int) - 1)) - (0:Int)) - (1:Int))) - (0:Int)) - (1:Int))) ((w64 (((w64 ((y.length:Int) - 1)) - (0:Int)) - (1:Int))) - (0:Int))<|kn C (r8.1.set (w64 ((rd y (w64 ((y.length:Int) - 1)) (0:Int))+(1:Int))).toNat ((1:Int),(rd r8.1 (w64 ((rd y (w64 ((y.length:Int) - 1)) (0:Int))+(1:Int))) Z17).2)) true (cut y ((0:Int)+(0:Int)) (((0:Int)+(0:Int))+((w64 (((w64 ((y.length:Int) - 1)) - (0:Int)) - (1:Int))) - (0:Int)))) (⟨#[]⟩:BA) (rd y (((0:Int)+(0:Int))+(w64 (((w64 (((w64 ((y.length:Int) - 1)) - (0:Int)) - (1:Int))) - (0:Int)) - (1:Int)))) (0:Int)) (0:Int) (0:Int) (0:Int) (0:Int)) else (kn C (r8.1.set (w64 ((rd y (w64 ((y.length:Int) - 1)) (0:Int))+(1:Int))).toNat ((1:Int),(rd r8.1 (w64 ((rd y (w64 ((y.length:Int) - 1)) (0:Int))+(1:Int))) Z17).2)) true (cut y ((0:Int)+(0:Int)) (((0:Int)+(0:Int))+((w64 (((w64 ((y.length:Int) - 1)) - (0:Int)) - (1:Int))) - (0:Int)))) (⟨#[]⟩:BA) (-1:Int) (0:Int) (0:Int) (0:Int) (0:Int))) else (bif (decide (((w64 ((y.length:Int) - 1)) - (0:Int))>(0:Int))) then (idx (w64 (((w64 ((y.length:Int) - 1)) - (0:Int)) - (1:Int))) ((w64 ((y.length:Int) - 1)) - (0:Int))<|kn C (r8.1.set (w64 ((rd y (w64 ((y.length:Int) - 1)) (0:Int))+(1:Int))).toNat ((1:Int),(rd r8.1 (w64 ((rd y (w64 ((y.length:Int) - 1)) (0:Int))+(1:Int))) Z17).2)) true (cut y (0:Int) ((0:Int)+((w64 ((y.length:Int) - 1)) - (0:Int)))) (⟨#[]⟩:BA) (rd y ((0:Int)+(w64 (((w64 ((y.length:Int) - 1)) - (0:Int)) - (1:Int)))) (0:Int)) (0:Int) (0:Int) (0:Int) (0:Int)) else (kn C (r8.1.set (w64 ((rd y (w64 ((y.length:Int) - 1)) (0:Int))+(1:Int))).toNat ((1:Int),(rd r8.1 (w64 ((rd y (w64 ((y.length:Int) - 1)) (0:Int))+(1:Int))) Z17).2)) true (cut y (0:Int) ((0:Int)+((w64 ((y.length:Int) - 1)) - (0:Int)))) (⟨#[]⟩:BA) (-1:Int) (0:Int) (0:Int) (0:Int) (0:Int)))) else (kn C B D y E G F I H N)) else (kn C B D y E G F I H N)) else (kn C B D y E G F I H N)
def bO4:FS1 β:=FXs (lH n) n kM (some iB) none [] [261198,522398,1044798,1044799]
theorem cE2 (C:Z11) (B:List Z26) (D:Bool) (y:List Int) (E:BA) (G F I H N:Int):bO4 n (eH C B D y E G F I H N) cx=YO n (fun C B D y E G F I H N=>cx.nrm (eH C B D y E G F I H N)) C B D y E G F I H N:=by kernel_rfl
def PV (kn:Z11→List Z26→Bool→List Int→BA→Int→Int→Int→Int→Int→Option β) (C:Z11) (B:List Z26) (D:Bool) (y:List Int) (E:BA) (G F I H N:Int) (bh:Bool):Option β:=aB7 n (fun C B D y E G F I H N=>YO n kn C B D y E G F I H N) C B D y E G F I H N bh
def WV (s:FState) (cx:Cx β):Option β:=bP7 n s {cx with nrm:=fun s=>bO4 n s cx}
theorem bU8 (C:Z11) (B:List Z26) (D:Bool) (y:List Int) (E:BA) (G F I H N:Int) (bh:Bool):WV n (BI C B D y E G F I H N bh) cx=PV n (fun C B D y E G F I H N=>cx.nrm (eH C B D y E G F I H N)) C B D y E G F I H N bh:=by simp only [WV,PV,cH1,cE2]
def XF (kn:Z11→List Z26→Bool→List Int→BA→Int→Int→Int→Int→Int→Option β) (C:Z11) (B:List Z26) (D:Bool) (y:List Int) (E:BA) (G F I H N:Int) (bh:Bool):Option β:=bif bh then aT1 n kn C B D y E G F I H N bh else PV n kn C B D y E G F I H N bh
def VY (s:FState) (cx:Cx β):Option β:=asBool (ev s (kT (nav kM [1,1,1,1,1,1,1,0,0,0,1,0,0,1]))) fun t=>cond t (bH0 n s cx) (WV n s cx)
theorem bQ8 (C:Z11) (B:List Z26) (D:Bool) (y:List Int) (E:BA) (G F I H N:Int) (bh:Bool):VY n (BI C B D y E G F I H N bh) cx=XF n (fun C B D y E G F I H N=>cx.nrm (eH C B D y E G F I H N)) C B D y E G F I H N bh:=by
  simp only [VY,XF,bY1,bU8]
  kernel_rfl
def KH (n:Nat) (kn:Z11→List Z26→Bool→List Int→BA→Int→Int→Int→Int→Int→Option β) (C:Z11) (B:List Z26) (D:Bool) (y:List Int) (E:BA) (G F I H N:Int):Option β:=kn C B D y E (w64 (G+1)) F I H N
def bA2:FS1 β:=FXs (lH n) n kM (some iB) none [] [16325]
theorem cC0 (C:Z11) (B:List Z26) (D:Bool) (y:List Int) (E:BA) (G F I H N:Int):bA2 n (eH C B D y E G F I H N) cx=KH n (fun C B D y E G F I H N=>cx.nrm (eH C B D y E G F I H N)) C B D y E G F I H N:=by kernel_rfl
def GM (kn:Z11→List Z26→Bool→List Int→BA→Int→Int→Int→Int→Int→Option β) (C:Z11) (B:List Z26) (D:Bool) (y:List Int) (E:BA) (G F I H N:Int):Option β:=f9 n (fun C B D y E G F I H N bh=>XF n (fun C B D y E G F I H N=>KH n kn C B D y E G F I H N) C B D y E G F I H N bh) C B D y E G F I H N
def IK (s:FState) (cx:Cx β):Option β:=aZ4 n s {cx with nrm:=fun s=>VY n s {cx with nrm:=fun s=>bA2 n s cx}}
theorem i9 (C:Z11) (B:List Z26) (D:Bool) (y:List Int) (E:BA) (G F I H N:Int):IK n (eH C B D y E G F I H N) cx=GM n (fun C B D y E G F I H N=>cx.nrm (eH C B D y E G F I H N)) C B D y E G F I H N:=by simp only [IK,GM,cJ5,bQ8,cC0]
def YA (kn:Z11→List Z26→Bool→List Int→BA→Int→Int→Int→Int→Int→Option β) (C:Z11) (B:List Z26) (D:Bool) (y:List Int) (E:BA) (G F I H N:Int):Option β:=GM n kn C B D y E G F I H N
def ZX (s:FState) (cx:Cx β):Option β:=IK n s {cx with ex:=fun j s=>bif Nat.beq j 1 then cx.nrm s else cx.ex j s}
theorem t8 (C:Z11) (B:List Z26) (D:Bool) (y:List Int) (E:BA) (G F I H N:Int):ZX n (eH C B D y E G F I H N) cx=YA n (fun C B D y E G F I H N=>cx.nrm (eH C B D y E G F I H N)) C B D y E G F I H N:=i9 n _ C B D y E G F I H N
def GS (kn:Z11→List Z26→Bool→List Int→BA→Int→Int→Int→Int→Int→Option β) (ae:Z11→List Z26→Bool→Option β) (C:Z11) (B:List Z26) (D:Bool) (y:List Int) (E:BA) (G F I H N:Int):Option β:=aD2 n (fun C B D y E G F I H N=>YA n kn C B D y E G F I H N) ae C B D y E G F I H N
def zP (s:FState) (cx:Cx β):Option β:=bG4 n s {cx with nrm:=fun s=>ZX n s cx}
theorem aH3 (C:Z11) (B:List Z26) (D:Bool) (y:List Int) (E:BA) (G F I H N:Int):zP n (eH C B D y E G F I H N) cx=GS n (fun C B D y E G F I H N=>cx.nrm (eH C B D y E G F I H N)) (fun C B D=>cx.ex 0 (tX C B D)) C B D y E G F I H N:=by simp only [zP,GS,cD3,t8]
def g112_13L (n:Nat) (ae:Z11→List Z26→Bool→Option β):Nat→Z11→List Z26→Bool→List Int→BA→Int→Int→Int→Int→Int→Option β
  | 0,_,_,_,_,_,_,_,_,_,_=>none
  | m+1,C,B,D,y,E,G,F,I,H,N=>GS n (g112_13L n ae m) ae C B D y E G F I H N
def QB (ae:Z11→List Z26→Bool→Option β) (C:Z11) (B:List Z26) (D:Bool) (y:List Int) (E:BA) (G F I H N:Int):Option β:=g112_13L n ae n C B D y E G F I H N
def Q2 (s:FState) (cx:Cx β):Option β:=bQ (fun again s=>zP n s {cx with nrm:=again}) n s
theorem Q8 (n:Nat) (cx:Cx β):∀(m:Nat) (C:Z11) (B:List Z26) (D:Bool) (y:List Int) (E:BA) (G F I H N:Int),bQ (fun again s=>zP n s {cx with nrm:=again}) m (eH C B D y E G F I H N)=g112_13L n (fun C B D=>cx.ex 0 (tX C B D)) m C B D y E G F I H N:=by
  intro m
  induction m with
  | zero=>intros;rfl
  | succ m ih=>intros;simp only [bQ,g112_13L,aH3,ih]
theorem X8 (C:Z11) (B:List Z26) (D:Bool) (y:List Int) (E:BA) (G F I H N:Int):Q2 n (eH C B D y E G F I H N) cx=QB n (fun C B D=>cx.ex 0 (tX C B D)) C B D y E G F I H N:=Q8 n cx n C B D y E G F I H N
def UB (kn:Z11→List Z26→Bool→Option β) (C:Z11) (B:List Z26) (D:Bool) (y:List Int) (E:BA) (G F I H N:Int):Option β:=QB n kn C B D y E G F I H N
def C2 (s:FState) (cx:Cx β):Option β:=Q2 n s {cx with ex:=fun j s=>bif Nat.beq j 0 then cx.nrm s else cx.ex j s}
theorem aO1 (C:Z11) (B:List Z26) (D:Bool) (y:List Int) (E:BA) (G F I H N:Int):C2 n (eH C B D y E G F I H N) cx=UB n (fun C B D=>cx.nrm (tX C B D)) C B D y E G F I H N:=X8 n _ C B D y E G F I H N
def pW (kn:Z11→List Z26→Option β) (C:Z11) (B:List Z26) (D:Bool):Option β:=bif D then ((bQ3 n C B).bind fun V=>kn C V.1) else (kn C B)
def B8:FS1 β:=FXs (lH n) n kM (some I3) none [] [2044,2045]
theorem aC0 (C:Z11) (B:List Z26) (D:Bool):B8 n (tX C B D) cx=pW n (fun C B=>cx.nrm (bH7 C B)) C B D:=by kernel_rfl
def pV (kn:Z11→List Z26→Int→Option β) (C:Z11) (B:List Z26):Option β:=(eH8 n C B).bind fun V=>kn C V.1 (1:Int)
def K7:FS1 β:=FXs (lH n) n kM (some BL) none [] [2046,4094]
theorem aT6 (C:Z11) (B:List Z26):K7 n (bH7 C B) cx=pV n (fun C B G=>cx.nrm (uD C B G)) C B:=by kernel_rfl
def QS (kn:Z11→List Z26→Int→Option β) (ap:List Z26→Option β) (C:Z11) (B:List Z26) (G:Int):Option β:=bif (decide (G < (B.length:Int))) then (idx (w64 (G - 1)) (B.length:Int)<|bif ((rd B (w64 (G - 1)) Z17).1==(-1:Int)) then (idx G (B.length:Int)<|bif ((rd B G Z17).1==(1:Int)) then (idx (w64 (G - 1)) (B.length:Int)<|idx G (B.length:Int)<|(bX9 n C ((rd B (w64 (G - 1)) Z17).2) ((rd B G Z17).2)).bind fun V=>(bX9 n C ((rd B G Z17).2) ((rd B (w64 (G - 1)) Z17).2)).bind fun r2=>bif (decide (V.1≥r2.1)) then ((g85 n ((rd B (w64 (G - 1)) Z17).2)).bind fun r3=>onS (floatBits .quo .f64 (floatOfInt .f64 r3.1) (4611686018427387904:Nat)) fun r4=>bif ((fGt .f64 (floatOfInt .f64 V.1) r4)||(fEq .f64 (floatOfInt .f64 V.1) r4)) then (bnd (0:Int) V.1 (((rd B G Z17).2).size:Int)<|(qN n B G (0:Int) [((0:Int),(bE ((rd B G Z17).2) (0:Int) V.1))]).bind fun r5=>bnd (0:Int) (w64 ((((rd B (w64 (G - 1)) Z17).2).size:Int) - V.1)) (((rd B (w64 (G - 1)) Z17).2).size:Int)<|idx (w64 (G - 1)) (r5.1.length:Int)<|bnd V.1 (((rd B G Z17).2).size:Int) (((rd B G Z17).2).size:Int)<|idx (w64 (G+1)) ((r5.1.set (w64 (G - 1)).toNat ((rd r5.1 (w64 (G - 1)) Z17).1,(bE ((rd B (w64 (G - 1)) Z17).2) (0:Int) (w64 ((((rd B (w64 (G - 1)) Z17).2).size:Int) - V.1))))).length:Int)<|kn C ((r5.1.set (w64 (G - 1)).toNat ((rd r5.1 (w64 (G - 1)) Z17).1,(bE ((rd B (w64 (G - 1)) Z17).2) (0:Int) (w64 ((((rd B (w64 (G - 1)) Z17).2).size:Int) - V.1))))).set (w64 (G+1)).toNat ((rd (r5.1.set (w64 (G - 1)).toNat ((rd r5.1 (w64 (G - 1)) Z17).1,(bE ((rd B (w64 (G - 1)) Z17).2) (0:Int) (w64 ((((rd B (w64 (G - 1)) Z17).2).size:Int) - V.1))))) (w64 (G+1)) Z17).1,(bE ((rd B G Z17).2) V.1 (((rd B G Z17).2).size:Int)))) (w64 ((w64 ((w64 (G+1))+(1:Int)))+(1:Int)))) else ((g85 n ((rd B G Z17).2)).bind fun r6=>onS (floatBits .quo .f64 (floatOfInt .f64 r6.1) (4611686018427387904:Nat)) fun r7=>bif ((fGt .f64 (floatOfInt .f64 V.1) r7)||(fEq .f64 (floatOfInt .f64 V.1) r7)) then (bnd (0:Int) V.1 (((rd B G Z17).2).size:Int)<|(qN n B G (0:Int) [((0:Int),(bE ((rd B G Z17).2) (0:Int) V.1))]).bind fun r8=>bnd (0:Int) (w64 ((((rd B (w64 (G - 1)) Z17).2).size:Int) - V.1)) (((rd B (w64 (G - 1)) Z17).2).size:Int)<|idx (w64 (G - 1)) (r8.1.length:Int)<|bnd V.1 (((rd B G Z17).2).size:Int) (((rd B G Z17).2).size:Int)<|idx (w64 (G+1)) ((r8.1.set (w64 (G - 1)).toNat ((rd r8.1 (w64 (G - 1)) Z17).1,(bE ((rd B (w64 (G - 1)) Z17).2) (0:Int) (w64 ((((rd B (w64 (G - 1)) Z17).2).size:Int) - V.1))))).length:Int)<|kn C ((r8.1.set (w64 (G - 1)).toNat ((rd r8.1 (w64 (G - 1)) Z17).1,(bE ((rd B (w64 (G - 1)) Z17).2) (0:Int) (w64 ((((rd B (w64 (G - 1)) Z17).2).size:Int) - V.1))))).set (w64 (G+1)).toNat ((rd (r8.1.set (w64 (G - 1)).toNat ((rd r8.1 (w64 (G - 1)) Z17).1,(bE ((rd B (w64 (G - 1)) Z17).2) (0:Int) (w64 ((((rd B (w64 (G - 1)) Z17).2).size:Int) - V.1))))) (w64 (G+1)) Z17).1,(bE ((rd B G Z17).2) V.1 (((rd B G Z17).2).size:Int)))) (w64 ((w64 ((w64 (G+1))+(1:Int)))+(1:Int)))) else (kn C B (w64 ((w64 (G+1))+(1:Int)))))) else ((g85 n ((rd B (w64 (G - 1)) Z17).2)).bind fun r9=>onS (floatBits .quo .f64 (floatOfInt .f64 r9.1) (4611686018427387904:Nat)) fun bq=>bif ((fGt .f64 (floatOfInt .f64 r2.1) bq)||(fEq .f64 (floatOfInt .f64 r2.1) bq)) then (bnd (0:Int) r2.1 (((rd B (w64 (G - 1)) Z17).2).size:Int)<|(qN n B G (0:Int) [(rd [((0:Int),(bE ((rd B (w64 (G - 1)) Z17).2) (0:Int) r2.1))] (0:Int) Z17)]).bind fun aw=>idx (w64 (G - 1)) (aw.1.length:Int)<|bnd (0:Int) (w64 ((((rd B G Z17).2).size:Int) - r2.1)) (((rd B G Z17).2).size:Int)<|idx (w64 (G - 1)) ((aw.1.set (w64 (G - 1)).toNat ((1:Int),(rd aw.1 (w64 (G - 1)) Z17).2)).length:Int)<|idx (w64 (G+1)) (((aw.1.set (w64 (G - 1)).toNat ((1:Int),(rd aw.1 (w64 (G - 1)) Z17).2)).set (w64 (G - 1)).toNat ((rd (aw.1.set (w64 (G - 1)).toNat ((1:Int),(rd aw.1 (w64 (G - 1)) Z17).2)) (w64 (G - 1)) Z17).1,(bE ((rd B G Z17).2) (0:Int) (w64 ((((rd B G Z17).2).size:Int) - r2.1))))).length:Int)<|bnd r2.1 (((rd B (w64 (G - 1)) Z17).2).size:Int) (((rd B (w64 (G - 1)) Z17).2).size:Int)<|idx (w64 (G+1)) ((((aw.1.set (w64 (G - 1)).toNat ((1:Int),(rd aw.1 (w64 (G - 1)) Z17).2)).set (w64 (G - 1)).toNat ((rd (aw.1.set (w64 (G - 1)).toNat ((1:Int),(rd aw.1 (w64 (G - 1)) Z17).2)) (w64 (G - 1)) Z17).1,(bE ((rd B G Z17).2) (0:Int) (w64 ((((rd B G Z17).2).size:Int) - r2.1))))).set (w64 (G+1)).toNat ((-1:Int),(rd ((aw.1.set (w64 (G - 1)).toNat ((1:Int),(rd aw.1 (w64 (G - 1)) Z17).2)).set (w64 (G - 1)).toNat ((rd (aw.1.set (w64 (G - 1)).toNat ((1:Int),(rd aw.1 (w64 (G - 1)) Z17).2)) (w64 (G - 1)) Z17).1,(bE ((rd B G Z17).2) (0:Int) (w64 ((((rd B G Z17).2).size:Int) - r2.1))))) (w64 (G+1)) Z17).2)).length:Int)<|kn C ((((aw.1.set (w64 (G - 1)).toNat ((1:Int),(rd aw.1 (w64 (G - 1)) Z17).2)).set (w64 (G - 1)).toNat ((rd (aw.1.set (w64 (G - 1)).toNat ((1:Int),(rd aw.1 (w64 (G - 1)) Z17).2)) (w64 (G - 1)) Z17).1,(bE ((rd B G Z17).2) (0:Int) (w64 ((((rd B G Z17).2).size:Int) - r2.1))))).set (w64 (G+1)).toNat ((-1:Int),(rd ((aw.1.set (w64 (G - 1)).toNat ((1:Int),(rd aw.1 (w64 (G - 1)) Z17).2)).set (w64 (G - 1)).toNat ((rd (aw.1.set (w64 (G - 1)).toNat ((1:Int),(rd aw.1 (w64 (G - 1)) Z17).2)) (w64 (G - 1)) Z17).1,(bE ((rd B G Z17).2) (0:Int) (w64 ((((rd B G Z17).2).size:Int) - r2.1))))) (w64 (G+1)) Z17).2)).set (w64 (G+1)).toNat ((rd (((aw.1.set (w64 (G - 1)).toNat ((1:Int),(rd aw.1 (w64 (G - 1)) Z17).2)).set (w64 (G - 1)).toNat ((rd (aw.1.set (w64 (G - 1)).toNat ((1:Int),(rd aw.1 (w64 (G - 1)) Z17).2)) (w64 (G - 1)) Z17).1,(bE ((rd B G Z17).2) (0:Int) (w64 ((((rd B G Z17).2).size:Int) - r2.1))))).set (w64 (G+1)).toNat ((-1:Int),(rd ((aw.1.set (w64 (G - 1)).toNat ((1:Int),(rd aw.1 (w64 (G - 1)) Z17).2)).set (w64 (G - 1)).toNat ((rd (aw.1.set (w64 (G - 1)).toNat ((1:Int),(rd aw.1 (w64 (G - 1)) Z17).2)) (w64 (G - 1)) Z17).1,(bE ((rd B G Z17).2) (0:Int) (w64 ((((rd B G Z17).2).size:Int) - r2.1))))) (w64 (G+1)) Z17).2)) (w64 (G+1)) Z17).1,(bE ((rd B (w64 (G - 1)) Z17).2) r2.1 (((rd B (w64 (G - 1)) Z17).2).size:Int)))) (w64 ((w64 ((w64 (G+1))+(1:Int)))+(1:Int)))) else ((g85 n ((rd B G Z17).2)).bind fun bt=>onS (floatBits .quo .f64 (floatOfInt .f64 bt.1) (4611686018427387904:Nat)) fun bs=>bif ((fGt .f64 (floatOfInt .f64 r2.1) bs)||(fEq .f64 (floatOfInt .f64 r2.1) bs)) then (bnd (0:Int) r2.1 (((rd B (w64 (G - 1)) Z17).2).size:Int)<|(qN n B G (0:Int) [(rd [((0:Int),(bE ((rd B (w64 (G - 1)) Z17).2) (0:Int) r2.1))] (0:Int) Z17)]).bind fun ay=>idx (w64 (G - 1)) (ay.1.length:Int)<|bnd (0:Int) (w64 ((((rd B G Z17).2).size:Int) - r2.1)) (((rd B G Z17).2).size:Int)<|idx (w64 (G - 1)) ((ay.1.set (w64 (G - 1)).toNat ((1:Int),(rd ay.1 (w64 (G - 1)) Z17).2)).length:Int)<|idx (w64 (G+1)) (((ay.1.set (w64 (G - 1)).toNat ((1:Int),(rd ay.1 (w64 (G - 1)) Z17).2)).set (w64 (G - 1)).toNat ((rd (ay.1.set (w64 (G - 1)).toNat ((1:Int),(rd ay.1 (w64 (G - 1)) Z17).2)) (w64 (G - 1)) Z17).1,(bE ((rd B G Z17).2) (0:Int) (w64 ((((rd B G Z17).2).size:Int) - r2.1))))).length:Int)<|bnd r2.1 (((rd B (w64 (G - 1)) Z17).2).size:Int) (((rd B (w64 (G - 1)) Z17).2).size:Int)<|idx (w64 (G+1)) ((((ay.1.set (w64 (G - 1)).toNat ((1:Int),(rd ay.1 (w64 (G - 1)) Z17).2)).set (w64 (G - 1)).toNat ((rd (ay.1.set (w64 (G - 1)).toNat ((1:Int),(rd ay.1 (w64 (G - 1)) Z17).2)) (w64 (G - 1)) Z17).1,(bE ((rd B G Z17).2) (0:Int) (w64 ((((rd B G Z17).2).size:Int) - r2.1))))).set (w64 (G+1)).toNat ((-1:Int),(rd ((ay.1.set (w64 (G - 1)).toNat ((1:Int),(rd ay.1 (w64 (G - 1)) Z17).2)).set (w64 (G - 1)).toNat ((rd (ay.1.set (w64 (G - 1)).toNat ((1:Int),(rd ay.1 (w64 (G - 1)) Z17).2)) (w64 (G - 1)) Z17).1,(bE ((rd B G Z17).2) (0:Int) (w64 ((((rd B G Z17).2).size:Int) - r2.1))))) (w64 (G+1)) Z17).2)).length:Int)<|kn C ((((ay.1.set (w64 (G - 1)).toNat ((1:Int),(rd ay.1 (w64 (G - 1)) Z17).2)).set (w64 (G - 1)).toNat ((rd (ay.1.set (w64 (G - 1)).toNat ((1:Int),(rd ay.1 (w64 (G - 1)) Z17).2)) (w64 (G - 1)) Z17).1,(bE ((rd B G Z17).2) (0:Int) (w64 ((((rd B G Z17).2).size:Int) - r2.1))))).set (w64 (G+1)).toNat ((-1:Int),(rd ((ay.1.set (w64 (G - 1)).toNat ((1:Int),(rd ay.1 (w64 (G - 1)) Z17).2)).set (w64 (G - 1)).toNat ((rd (ay.1.set (w64 (G - 1)).toNat ((1:Int),(rd ay.1 (w64 (G - 1)) Z17).2)) (w64 (G - 1)) Z17).1,(bE ((rd B G Z17).2) (0:Int) (w64 ((((rd B G Z17).2).size:Int) - r2.1))))) (w64 (G+1)) Z17).2)).set (w64 (G+1)).toNat ((rd (((ay.1.set (w64 (G - 1)).toNat ((1:Int),(rd ay.1 (w64 (G - 1)) Z17).2)).set (w64 (G - 1)).toNat ((rd (ay.1.set (w64 (G - 1)).toNat ((1:Int),(rd ay.1 (w64 (G - 1)) Z17).2)) (w64 (G - 1)) Z17).1,(bE ((rd B G Z17).2) (0:Int) (w64 ((((rd B G Z17).2).size:Int) - r2.1))))).set (w64 (G+1)).toNat ((-1:Int),(rd ((ay.1.set (w64 (G - 1)).toNat ((1:Int),(rd ay.1 (w64 (G - 1)) Z17).2)).set (w64 (G - 1)).toNat ((rd (ay.1.set (w64 (G - 1)).toNat ((1:Int),(rd ay.1 (w64 (G - 1)) Z17).2)) (w64 (G - 1)) Z17).1,(bE ((rd B G Z17).2) (0:Int) (w64 ((((rd B G Z17).2).size:Int) - r2.1))))) (w64 (G+1)) Z17).2)) (w64 (G+1)) Z17).1,(bE ((rd B (w64 (G - 1)) Z17).2) r2.1 (((rd B (w64 (G - 1)) Z17).2).size:Int)))) (w64 ((w64 ((w64 (G+1))+(1:Int)))+(1:Int)))) else (kn C B (w64 ((w64 (G+1))+(1:Int))))))) else (kn C B (w64 (G+1)))) else (kn C B (w64 (G+1)))) else (ap B)
def IE:FS1 β:=FXs (lH n) n kM (some BL) none [(2,tD)] [131040,131041,65521]
theorem u6 (C:Z11) (B:List Z26) (G:Int):IE n (uD C B G) cx=QS n (fun C B G=>cx.nrm (uD C B G)) (fun B=>cx.ex 2 (rM B)) C B G:=by kernel_rfl
def g112_18L (n:Nat) (ap:List Z26→Option β):Nat→Z11→List Z26→Int→Option β
  | 0,_,_,_=>none
  | m+1,C,B,G=>QS n (g112_18L n ap m) ap C B G
def YH (ap:List Z26→Option β) (C:Z11) (B:List Z26) (G:Int):Option β:=g112_18L n ap n C B G
def O4 (s:FState) (cx:Cx β):Option β:=bQ (fun again s=>IE n s {cx with nrm:=again}) n s
theorem H9 (n:Nat) (cx:Cx β):∀(m:Nat) (C:Z11) (B:List Z26) (G:Int),bQ (fun again s=>IE n s {cx with nrm:=again}) m (uD C B G)=g112_18L n (fun B=>cx.ex 2 (rM B)) m C B G:=by
  intro m
  induction m with
  | zero=>intros;rfl
  | succ m ih=>intros;simp only [bQ,g112_18L,u6,ih]
theorem w7 (C:Z11) (B:List Z26) (G:Int):O4 n (uD C B G) cx=YH n (fun B=>cx.ex 2 (rM B)) C B G:=H9 n cx n C B G
def pZ (kn:List Z26→Option β) (C:Z11) (B:List Z26) (G:Int):Option β:=YH n kn C B G
def C4 (s:FState) (cx:Cx β):Option β:=O4 n s {cx with ex:=fun j s=>bif Nat.beq j 2 then cx.nrm s else cx.ex j s}
theorem W1 (C:Z11) (B:List Z26) (G:Int):C4 n (uD C B G) cx=pZ n (fun B=>cx.nrm (rM B)) C B G:=w7 n _ C B G
def qY (n:Nat) (kr:List Z26→Option β) (B:List Z26):Option β:=kr B
def YW:FS1 β:=FXs (lH n) n kM none (some KS) [] [16382,16383]
theorem U5 (B:List Z26):YW n (rM B) cx=qY n (fun x4=>cx.ret (aX5 x4)) B:=by kernel_rfl
def HL (kr:List Z26→Option β) (C:Z11) (B:List Z26):Option β:=aB3 n (fun C B D y E G F I H N=>UB n (fun C B D=>pW n (fun C B=>pV n (fun C B G=>pZ n (fun B=>qY n kr B) C B G) C B) C B D) C B D y E G F I H N) C B
def xK (s:FState) (cx:Cx β):Option β:=bC7 n s {cx with nrm:=fun s=>C2 n s {cx with nrm:=fun s=>B8 n s {cx with nrm:=fun s=>K7 n s {cx with nrm:=fun s=>C4 n s {cx with nrm:=fun s=>YW n s cx}}}}}
theorem aB1 (C:Z11) (B:List Z26):xK n (QV C B) cx=HL n (fun x4=>cx.ret (aX5 x4)) C B:=by simp only [xK,HL,cH4,aO1,aC0,aT6,W1,U5]
def eI3 (C:Z11) (B:List Z26):Option (DenR [.rw Z22 115]):=HL n (fun x4=>some (x4,())) C B
def eC8:List AK:=[.pro Z1 106,.rw Z22 115]
def DM:List RK:=[.rw Z22 115]
def eX9 (d:DenA eC8):Option (DenR DM):=eI3 n d.1 d.2.1
def cT4:Spec:=aP eC8 DM (eX9 n)
def cR8:Sk:=(.nd (.fin none none none [] .leaf) (.nd (.fin none none none [] .leaf) (.nd (.fin none none none [] .leaf) (.nd (.fin none none none [] .leaf) (.nd (.fin none none none [] .leaf) (.nd (.fin none none none [] .leaf) (.nd (.fin none (some iB) none [] .leaf) (.nd (.nd (.nd (.nd (.nd (.fin none none none [(0,JW)] .leaf) (.fin none (some iB) none [(0,JW)] .leaf)) (.nd (.nd (.nd (.fin none (some I9) none [] .leaf) (.nd (.nd (.fin none none none [] .leaf) (.nd (.fin none none none [] .leaf) (.nd (.fin none none none [] .leaf) (.nd (.fin none none none [] .leaf) (.nd (.fin none none none [] .leaf) (.fin none (some iB) none [] .leaf)))))) (.nd (.nd (.fin none none none [] .leaf) (.fin none (some iB) none [] .leaf)) (.nd (.fin none none none [] .leaf) (.nd (.fin none none none [] .leaf) (.nd (.fin none none none [] .leaf) (.fin none (some iB) none [] .leaf))))))) (.fin none (some iB) none [] .leaf)) .leaf)) .leaf) .leaf) (.nd (.nd (.fin none none none [] .leaf) (.fin none (some I3) none [] .leaf)) (.nd (.fin none none none [] .leaf) (.nd (.fin none (some BL) none [] .leaf) (.nd (.nd (.nd (.nd (.nd (.fin none none none [(2,tD)] .leaf) (.fin none none none [(2,tD)] .leaf)) (.fin none (some BL) none [(2,tD)] .leaf)) .leaf) .leaf) (.nd (.fin none none (some KS) [] .leaf) (.fin none none (some KS) [] .leaf))))))))))))))
theorem dJ4 (s:FState) (cx:Cx β):FX (lH n) n kM cR8 s cx=xK n s cx:=by kernel_rfl
theorem dH8:Fit Tryd.prog 112 (cT4 n):=
  cH (Γ:=Γ0) (l:=cU7 n) (n:=n) (sk:=cR8) (ts:=[(4,none)]) (fn:=Tryd.f112) (c:=kM) (by kernel_rfl) (by kernel_rfl) (by unfold aS;kernel_rfl) cF ⟨eJ3 n,zC n,ZA n,cU2 n,eA1 n,eC0 n,trivial⟩ aN (by kernel_rfl) (by kernel_rfl) (Nat.le_of_ble_eq_true (by kernel_rfl)) (Nat.le_of_ble_eq_true (by kernel_rfl)) (by kernel_rfl) (by kernel_rfl)
    (fun d=>(dJ4 n _ _).trans (Eq.trans (b:=xK n (QV d.1 d.2.1) (cN (lH n) DM [(4,none)])) (by kernel_rfl) ((aB1 n _ d.1 d.2.1).trans (by kernel_rfl))))
def VT (M B:List Int):FState:=⟨aI [(0,.sl 0 none false),(1,.sl 1 none false)],aE [(0,.row (.int .i32) 21 false M),(1,.row (.int .i32) 21 false B)]⟩
def pU (v4:Bool):FState:=⟨aI [(4,.dat .bool v4)],aE []⟩
def gT:List NE:=[.keep 4]
def tJ (B Q:List Int) (q ac:Int):FState:=⟨aI [(1,.sl 1 none false),(12,.sl 12 none false),(13,.dat (.int .i64) q),(14,.dat (.int .i64) ac)],aE [(1,.row (.int .i32) 21 false B),(12,.row (.int .i32) 21 false Q)]⟩
def yZ:List NE:=[.row 1 (.int .i32) 21 false,.row 12 (.int .i32) 21 false,.keep 13,.keep 14]
def xR:FState:=⟨aI [],aE []⟩
def rR:List NE:=[]
def eB7 (n:Nat):List (Nat×Spec):=[]
def JE:Ctx:={Γ0 with calls:=lkS (eB7 n)}
def KR:Code:=fb Tryd.f133
def aN9 (n:Nat) (kn:List Int→List Int→Int→Int→Option β) (kr:Bool→Option β) (M B:List Int):Option β:=bif ((M.length:Int)!=(B.length:Int)) then (kr false) else (kn B M (M.length:Int) (0:Int))
def bD0:FS1 β:=FXs (JE n) n KR (some yZ) (some gT) [] [2,12,13,28]
theorem cE4 (M B:List Int):bD0 n (VT M B) cx=aN9 n (fun B Q q ac=>cx.nrm (tJ B Q q ac)) (fun v4=>cx.ret (pU v4)) M B:=by kernel_rfl
def TO (n:Nat) (kn:List Int→List Int→Int→Int→Option β) (kr:Bool→Option β) (ae:Option β) (B Q:List Int) (q ac:Int):Option β:=bif (decide (ac < q)) then (idx ac (Q.length:Int)<|idx ac (B.length:Int)<|bif ((rd Q ac (0:Int))!=(rd B ac (0:Int))) then (kr false) else (kn B Q q (w64 (ac+1)))) else ae
def QM:FS1 β:=FXs (JE n) n KR (some yZ) (some gT) [(0,rR)] [232,466,934,935]
theorem bT1 (B Q:List Int) (q ac:Int):QM n (tJ B Q q ac) cx=TO n (fun B Q q ac=>cx.nrm (tJ B Q q ac)) (fun v4=>cx.ret (pU v4)) (cx.ex 0 xR) B Q q ac:=by kernel_rfl
def g133_3L (n:Nat) (kr:Bool→Option β) (ae:Option β):Nat→List Int→List Int→Int→Int→Option β
  | 0,_,_,_,_=>none
  | m+1,B,Q,q,ac=>TO n (g133_3L n kr ae m) kr ae B Q q ac
def aF1 (kr:Bool→Option β) (ae:Option β) (B Q:List Int) (q ac:Int):Option β:=g133_3L n kr ae n B Q q ac
def bB5 (s:FState) (cx:Cx β):Option β:=bQ (fun again s=>QM n s {cx with nrm:=again}) n s
theorem aN0 (n:Nat) (cx:Cx β):∀(m:Nat) (B Q:List Int) (q ac:Int),bQ (fun again s=>QM n s {cx with nrm:=again}) m (tJ B Q q ac)=g133_3L n (fun v4=>cx.ret (pU v4)) (cx.ex 0 xR) m B Q q ac:=by
  intro m
  induction m with
  | zero=>intros;rfl
  | succ m ih=>intros;simp only [bQ,g133_3L,bT1,ih]
theorem cK5 (B Q:List Int) (q ac:Int):bB5 n (tJ B Q q ac) cx=aF1 n (fun v4=>cx.ret (pU v4)) (cx.ex 0 xR) B Q q ac:=aN0 n cx n B Q q ac
def aF7 (kn:Option β) (kr:Bool→Option β) (B Q:List Int) (q ac:Int):Option β:=aF1 n kr kn B Q q ac
def bC3 (s:FState) (cx:Cx β):Option β:=bB5 n s {cx with ex:=fun j s=>bif Nat.beq j 0 then cx.nrm s else cx.ex j s}
theorem bY0 (B Q:List Int) (q ac:Int):bC3 n (tJ B Q q ac) cx=aF7 n (cx.nrm xR) (fun v4=>cx.ret (pU v4)) B Q q ac:=cK5 n _ B Q q ac
def W3 (n:Nat) (kr:Bool→Option β):Option β:=kr true
def aY4:FS1 β:=FXs (JE n) n KR none (some gT) [] [30,31]
theorem bU3:aY4 n xR cx=W3 n (fun v4=>cx.ret (pU v4)):=by kernel_rfl
def WR (kr:Bool→Option β) (M B:List Int):Option β:=aN9 n (fun B Q q ac=>aF7 n (W3 n kr) kr B Q q ac) kr M B
def HP (s:FState) (cx:Cx β):Option β:=bD0 n s {cx with nrm:=fun s=>bC3 n s {cx with nrm:=fun s=>aY4 n s cx}}
theorem cC8 (M B:List Int):HP n (VT M B) cx=WR n (fun v4=>cx.ret (pU v4)) M B:=by simp only [HP,WR,cE4,bY0,bU3]
def dK1 (M B:List Int):Option (DenR [.dat .bool]):=WR n (fun v4=>some (v4,())) M B
def dD5:List AK:=[.ro (.int .i32) 21,.ro (.int .i32) 21]
def aV4:List RK:=[.dat .bool]
def eW9 (d:DenA dD5):Option (DenR aV4):=dK1 n d.1 d.2.1
def aG3:Spec:=aP dD5 aV4 (eW9 n)
def dV0:Sk:=(.nd (.fin none none (some gT) [] .leaf) (.nd (.nd (.fin none none (some gT) [] .leaf) (.fin none none (some gT) [] .leaf)) (.nd (.nd (.fin none (some yZ) (some gT) [] .leaf) (.nd (.nd (.nd (.fin none none (some gT) [(0,rR)] .leaf) (.nd (.fin none none (some gT) [(0,rR)] .leaf) (.nd (.fin none none (some gT) [(0,rR)] .leaf) (.fin none (some yZ) (some gT) [(0,rR)] .leaf)))) .leaf) .leaf)) (.nd (.fin none none (some gT) [] .leaf) (.fin none none (some gT) [] .leaf)))))
theorem dA6 (s:FState) (cx:Cx β):FX (JE n) n KR dV0 s cx=HP n s cx:=by kernel_rfl
theorem J8:Fit Tryd.prog 133 (aG3 n):=
  cH (Γ:=Γ0) (l:=eB7 n) (n:=n) (sk:=dV0) (ts:=[(4,none)]) (fn:=Tryd.f133) (c:=KR) (by kernel_rfl) (by kernel_rfl) (by unfold aS;kernel_rfl) cF trivial aN (by kernel_rfl) (by kernel_rfl) (Nat.le_of_ble_eq_true (by kernel_rfl)) (Nat.le_of_ble_eq_true (by kernel_rfl)) (by kernel_rfl) (by kernel_rfl)
    (fun d=>(dA6 n _ _).trans (Eq.trans (b:=HP n (VT d.1 d.2.1) (cN (JE n) aV4 [(4,none)])) (by kernel_rfl) ((cC8 n _ d.1 d.2.1).trans (by kernel_rfl))))
def XP (M B:List Int):FState:=⟨aI [(0,.sl 0 none false),(1,.sl 1 none false)],aE [(0,.row (.int .i32) 21 false M),(1,.row (.int .i32) 21 false B)]⟩
def tU (v4:Int):FState:=⟨aI [(4,.dat (.int .i64) v4)],aE []⟩
def lV:List NE:=[.keep 4]
def tR (M B:List Int) (D T:Int):FState:=⟨aI [(0,.sl 0 none false),(1,.sl 1 none false),(5,.dat (.int .i64) D),(6,.dat (.int .i64) T)],aE [(0,.row (.int .i32) 21 false M),(1,.row (.int .i32) 21 false B)]⟩
def zZ:List NE:=[.row 0 (.int .i32) 21 false,.row 1 (.int .i32) 21 false,.keep 5,.keep 6]
def AG:FState:=⟨aI [],aE []⟩
def rW:List NE:=[]
def dS0:List (Nat×Spec):=[(133,aG3 n)]
def MR:Ctx:={Γ0 with calls:=lkS (dS0 n)}
def IF:Code:=fb Tryd.f156
def b6 (n:Nat) (kn:List Int→List Int→Int→Int→Option β) (M B:List Int):Option β:=kn M B (w64 ((M.length:Int) - (B.length:Int))) (0:Int)
def bL4:FS1 β:=FXs (MR n) n IF (some zZ) none [] [2,6,28]
theorem bS5 (M B:List Int):bL4 n (XP M B) cx=b6 n (fun M B D T=>cx.nrm (tR M B D T)) M B:=by kernel_rfl
def m5 (kn:List Int→List Int→Int→Int→Option β) (kr:Int→Option β) (ae:Option β) (M B:List Int) (D T:Int):Option β:=bif (decide (T≤D)) then (bnd T (w64 (T+(B.length:Int))) (M.length:Int)<|(dK1 n (cut M T (w64 (T+(B.length:Int)))) B).bind fun V=>bif V.1 then (kr T) else (kn M B D (w64 (T+1)))) else ae
def QA:FS1 β:=FXs (MR n) n IF (some zZ) (some lV) [(0,rW)] [464,465,466,467]
theorem cD5 (M B:List Int) (D T:Int):QA n (tR M B D T) cx=m5 n (fun M B D T=>cx.nrm (tR M B D T)) (fun v4=>cx.ret (tU v4)) (cx.ex 0 AG) M B D T:=by kernel_rfl
def g156_3L (n:Nat) (kr:Int→Option β) (ae:Option β):Nat→List Int→List Int→Int→Int→Option β
  | 0,_,_,_,_=>none
  | m+1,M,B,D,T=>m5 n (g156_3L n kr ae m) kr ae M B D T
def aG0 (kr:Int→Option β) (ae:Option β) (M B:List Int) (D T:Int):Option β:=g156_3L n kr ae n M B D T
def bF6 (s:FState) (cx:Cx β):Option β:=bQ (fun again s=>QA n s {cx with nrm:=again}) n s
theorem aS4 (n:Nat) (cx:Cx β):∀(m:Nat) (M B:List Int) (D T:Int),bQ (fun again s=>QA n s {cx with nrm:=again}) m (tR M B D T)=g156_3L n (fun v4=>cx.ret (tU v4)) (cx.ex 0 AG) m M B D T:=by
  intro m
  induction m with
  | zero=>intros;rfl
  | succ m ih=>intros;simp only [bQ,g156_3L,cD5,ih]
theorem cG8 (M B:List Int) (D T:Int):bF6 n (tR M B D T) cx=aG0 n (fun v4=>cx.ret (tU v4)) (cx.ex 0 AG) M B D T:=aS4 n cx n M B D T
def aL1 (kn:Option β) (kr:Int→Option β) (M B:List Int) (D T:Int):Option β:=aG0 n kr kn M B D T
def bJ1 (s:FState) (cx:Cx β):Option β:=bF6 n s {cx with ex:=fun j s=>bif Nat.beq j 0 then cx.nrm s else cx.ex j s}
theorem cE3 (M B:List Int) (D T:Int):bJ1 n (tR M B D T) cx=aL1 n (cx.nrm AG) (fun v4=>cx.ret (tU v4)) M B D T:=cG8 n _ M B D T
def d7 (n:Nat) (kr:Int→Option β):Option β:=kr (-1:Int)
def aZ3:FS1 β:=FXs (MR n) n IF none (some lV) [] [30,31]
theorem bT8:aZ3 n AG cx=d7 n (fun v4=>cx.ret (tU v4)):=by kernel_rfl
def TQ (kr:Int→Option β) (M B:List Int):Option β:=b6 n (fun M B D T=>aL1 n (d7 n kr) kr M B D T) M B
def GE (s:FState) (cx:Cx β):Option β:=bL4 n s {cx with nrm:=fun s=>bJ1 n s {cx with nrm:=fun s=>aZ3 n s cx}}
theorem cD8 (M B:List Int):GE n (XP M B) cx=TQ n (fun v4=>cx.ret (tU v4)) M B:=by simp only [GE,TQ,bS5,cE3,bT8]
def dV5 (M B:List Int):Option (DenR [.dat (.int .i64)]):=TQ n (fun v4=>some (v4,())) M B
def cY1:List AK:=[.ro (.int .i32) 21,.ro (.int .i32) 21]
def aO9:List RK:=[.dat (.int .i64)]
def fB8 (d:DenA cY1):Option (DenR aO9):=dV5 n d.1 d.2.1
def dE4:Spec:=aP cY1 aO9 (fB8 n)
def cQ7:Sk:=(.nd (.fin none none none [] .leaf) (.nd (.fin none none none [] .leaf) (.nd (.nd (.fin none (some zZ) none [] .leaf) (.nd (.nd (.nd (.nd (.fin none none (some lV) [(0,rW)] .leaf) (.fin none none (some lV) [(0,rW)] .leaf)) (.nd (.fin none none (some lV) [(0,rW)] .leaf) (.fin none (some zZ) (some lV) [(0,rW)] .leaf))) .leaf) .leaf)) (.nd (.fin none none (some lV) [] .leaf) (.fin none none (some lV) [] .leaf)))))
theorem cR2 (s:FState) (cx:Cx β):FX (MR n) n IF cQ7 s cx=GE n s cx:=by kernel_rfl
theorem dN0:Fit Tryd.prog 156 (dE4 n):=
  cH (Γ:=Γ0) (l:=dS0 n) (n:=n) (sk:=cQ7) (ts:=[(4,none)]) (fn:=Tryd.f156) (c:=IF) (by kernel_rfl) (by kernel_rfl) (by unfold aS;kernel_rfl) cF ⟨J8 n,trivial⟩ aN (by kernel_rfl) (by kernel_rfl) (Nat.le_of_ble_eq_true (by kernel_rfl)) (Nat.le_of_ble_eq_true (by kernel_rfl)) (by kernel_rfl) (by kernel_rfl)
    (fun d=>(cR2 n _ _).trans (Eq.trans (b:=GE n (XP d.1 d.2.1) (cN (MR n) aO9 [(4,none)])) (by kernel_rfl) ((cD8 n _ d.1 d.2.1).trans (by kernel_rfl))))
def cQ5:List AK:=[.pro Z1 106,.ro (.int .i32) 21,.ro (.int .i32) 21,.dat (.int .i64)]
def cL6:List RK:=[.rw (.sl 21 (.int .i32)) 22]
def fG2 (n:Nat) (Y:Z11) (J R:List Int) (v3:Int):Option (DenR [.rw (.sl 21 (.int .i32)) 22]):=none
def fC7 (n:Nat) (d:DenA cQ5):Option (DenR cL6):=none
def cZ7:Spec:=aP cQ5 cL6 (fC7 n)
theorem cP2:Fit Tryd.prog 176 (cZ7 n):=nI (by unfold aS;kernel_rfl)
def UA (C:Z11) (B L:List Int):FState:=⟨aI [(0,.ptr 0 0 0),(1,.sl 1 none false),(2,.sl 2 none false)],aE [(0,.row Z1 106 false [C]),(1,.row (.int .i32) 21 false B),(2,.row (.int .i32) 21 false L)]⟩
def TH:FState:=⟨aI [(6,.nsl)],aE []⟩
def dS:List NE:=[.keep 6]
def bO3 (C:Z11) (B L x7 X:List Int):FState:=⟨aI [(0,.ptr 0 0 0),(1,.sl 1 none false),(2,.sl 2 none false),(7,.sl 7 none false),(8,.sl 8 none false)],aE [(0,.row Z1 106 false [C]),(1,.row (.int .i32) 21 false B),(2,.row (.int .i32) 21 false L),(7,.row (.int .i32) 21 false x7),(8,.row (.int .i32) 21 false X)]⟩
def A4:List NE:=[.ptr 0 Z1 106 false,.row 1 (.int .i32) 21 false,.row 2 (.int .i32) 21 false,.row 7 (.int .i32) 21 false,.row 8 (.int .i32) 21 false]
def cS3:List (Nat×Spec):=[(176,cZ7 n)]
def QR:Ctx:={Γ0 with calls:=lkS (cS3 n)}
def SM:Code:=fb Tryd.f157
def X4 (n:Nat) (kn:Z11→List Int→List Int→List Int→List Int→Option β) (kr:Option β) (C:Z11) (B L:List Int):Option β:=bif (decide (C.1≤(0:Int))) then kr else (bif (decide ((B.length:Int)>(L.length:Int))) then (kn C B L B L) else (kn C B L L B))
def aY6:FS1 β:=FXs (QR n) n SM (some A4) (some dS) [] [2,12,13,14,60,61]
theorem bV9 (C:Z11) (B L:List Int):aY6 n (UA C B L) cx=X4 n (fun C B L x7 X=>cx.nrm (bO3 C B L x7 X)) (cx.ret TH) C B L:=by kernel_rfl
def dP2 (kr:Option β) (C:Z11) (B L x7 X:List Int):Option β:=bif (decide ((x7.length:Int) < (4:Int))) then kr else (bif (decide ((w64 ((X.length:Int) * 2)) < (x7.length:Int))) then kr else (onS (floatBits .quo .f64 (floatOfInt .f64 (w64 ((x7.length:Int)+3))) (4616189618054758400:Nat)) fun V=>onS (floatToIntVal .f64 V .i64) fun r2=>(fG2 n C x7 X r2).bind fun r3=>onS (floatBits .quo .f64 (floatOfInt .f64 (w64 ((x7.length:Int)+1))) (4611686018427387904:Nat)) fun r4=>onS (floatToIntVal .f64 r4 .i64) fun r5=>(fG2 n C x7 X r5).bind fun r6=>none))
def bE3:FS1 β:=FXs (QR n) n SM none (some dS) [] [124,125,126,254,510,2044,2045,4092,4093,4094,4095]
theorem bS9 (C:Z11) (B L x7 X:List Int):bE3 n (bO3 C B L x7 X) cx=dP2 n (cx.ret TH) C B L x7 X:=by kernel_rfl
def YK (kr:Option β) (C:Z11) (B L:List Int):Option β:=X4 n (fun C B L x7 X=>dP2 n kr C B L x7 X) kr C B L
def HC (s:FState) (cx:Cx β):Option β:=aY6 n s {cx with nrm:=fun s=>bE3 n s cx}
theorem cA6 (C:Z11) (B L:List Int):HC n (UA C B L) cx=YK n (cx.ret TH) C B L:=by simp only [HC,YK,bV9,bS9]
def eF1 (C:Z11) (B L:List Int):Option (DenR [.nsl]):=YK n (some ((),())) C B L
def dZ2:List AK:=[.pro Z1 106,.ro (.int .i32) 21,.ro (.int .i32) 21]
def aC3:List RK:=[.nsl]
def eZ7 (d:DenA dZ2):Option (DenR aC3):=eF1 n d.1 d.2.1 d.2.2.1
def dI4:Spec:=aP dZ2 aC3 (eZ7 n)
def cO5:Sk:=(.nd (.fin none none (some dS) [] .leaf) (.nd (.nd (.fin none none (some dS) [] .leaf) (.fin none none (some dS) [] .leaf)) (.nd (.fin none none (some dS) [] .leaf) (.nd (.nd (.fin none none (some dS) [] .leaf) (.fin none (some A4) (some dS) [] .leaf)) (.nd (.nd (.fin none none (some dS) [] .leaf) (.fin none none (some dS) [] .leaf)) (.nd (.fin none none (some dS) [] .leaf) (.nd (.fin none none (some dS) [] .leaf) (.nd (.fin none none (some dS) [] .leaf) (.nd (.nd (.fin none none (some dS) [] .leaf) (.fin none none (some dS) [] .leaf)) (.nd (.nd (.fin none none (some dS) [] .leaf) (.fin none none (some dS) [] .leaf)) (.nd (.fin none none (some dS) [] .leaf) (.fin none none (some dS) [] .leaf))))))))))))
theorem cS6 (s:FState) (cx:Cx β):FX (QR n) n SM cO5 s cx=HC n s cx:=by kernel_rfl
theorem cQ6:Fit Tryd.prog 157 (dI4 n):=
  cH (Γ:=Γ0) (l:=cS3 n) (n:=n) (sk:=cO5) (ts:=[(6,none)]) (fn:=Tryd.f157) (c:=SM) (by kernel_rfl) (by kernel_rfl) (by unfold aS;kernel_rfl) cF ⟨cP2 n,trivial⟩ aN (by kernel_rfl) (by kernel_rfl) (Nat.le_of_ble_eq_true (by kernel_rfl)) (Nat.le_of_ble_eq_true (by kernel_rfl)) (by kernel_rfl) (by kernel_rfl)
    (fun d=>(cS6 n _ _).trans (Eq.trans (b:=HC n (UA d.1 d.2.1 d.2.2.1) (cN (QR n) aC3 [(6,none)])) (by kernel_rfl) ((cA6 n _ d.1 d.2.1 d.2.2.1).trans (by kernel_rfl))))
end
end
end Go.Proofs.YthkiaiilpaojnaaDoorZF
