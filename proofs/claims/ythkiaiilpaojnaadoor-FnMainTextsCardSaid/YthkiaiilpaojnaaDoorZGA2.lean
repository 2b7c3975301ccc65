import Derived.Test.YthkiaiilpaojnaaDoorZFT
import Derived.Test.YthkiaiilpaojnaaDoorZGA0
import Derived.Test.YthkiaiilpaojnaaDoorZGA1
namespace Go.Proofs.YthkiaiilpaojnaaDoorZF
noncomputable section
open Go Go.Proofs
set_option linter.unusedVariables false
set_option maxRecDepth 100000
variable {β:Type}
def iC:List AK:=[.pro Z1 106,.ro (.int .i32) 21,.ro (.int .i32) 21]
def fI:List RK:=[.rw Z22 115]
def eR:List AK:=[.pro Z1 106,.ro (.int .i32) 21,.ro (.int .i32) 21,.dat .bool]
def cY:List RK:=[.rw Z22 115]
def eT:List AK:=[.pro Z1 106,.ro (.int .i32) 21,.ro (.int .i32) 21]
def dK:List RK:=[.rw Z22 115]
def eS:List AK:=[.pro Z1 106,.ro (.int .i32) 21,.ro (.int .i32) 21,.dat .bool]
def dI:List RK:=[.rw Z22 115]
def eJ:List AK:=[.pro Z1 106,.ro (.int .i32) 21,.ro (.int .i32) 21,.dat (.int .i64),.dat (.int .i64)]
def dX:List RK:=[.rw Z22 115]
abbrev Q91:=DenA iC→Option (DenR fI)
abbrev aL:=DenA eR→Option (DenR cY)
abbrev aK:=DenA eT→Option (DenR dK)
abbrev aJ:=DenA eS→Option (DenR dI)
abbrev aM:=DenA eJ→Option (DenR dX)
def o9 (C:Z11) (B L:List Int):FState:=⟨aI [(0,.ptr 0 0 0),(1,.sl 1 none false),(2,.sl 2 none false)],aE [(0,.row Z1 106 false [C]),(1,.row (.int .i32) 21 false B),(2,.row (.int .i32) 21 false L)]⟩
def dC3 (y:List Z26):FState:=⟨aI [(6,.sl 6 none false)],aE [(6,.row Z22 115 true y)]⟩
def VN:List NE:=[.row 6 Z22 115 true]
def eA (C:Z11) (X:List Z26) (F I H:Int) (N q:BA):FState:=⟨aI [(0,.ptr 0 0 0),(8,.sl 8 none false),(9,.dat (.int .i64) F),(10,.dat (.int .i64) I),(11,.dat (.int .i64) H),(12,.dat .str N),(13,.dat .str q)],aE [(0,.row Z1 106 false [C]),(8,.row Z22 115 true X)]⟩
def iK:List NE:=[.ptr 0 Z1 106 false,.row 8 Z22 115 true,.keep 9,.keep 10,.keep 11,.keep 12,.keep 13]
def CG (X:List Z26):FState:=⟨aI [(8,.sl 8 none false)],aE [(8,.row Z22 115 true X)]⟩
def VL:List NE:=[.row 8 Z22 115 true]
def VW (C:Z11) (X:List Z26) (F I H:Int) (N q:BA) (al:Int):FState:=⟨aI [(0,.ptr 0 0 0),(8,.sl 8 none false),(9,.dat (.int .i64) F),(10,.dat (.int .i64) I),(11,.dat (.int .i64) H),(12,.dat .str N),(13,.dat .str q),(49,.dat (.int .i8) al)],aE [(0,.row Z1 106 false [C]),(8,.row Z22 115 true X)]⟩
def bH9:List NE:=[.ptr 0 Z1 106 false,.row 8 Z22 115 true,.keep 9,.keep 10,.keep 11,.keep 12,.keep 13,.keep 49]
def MN (C:Z11) (X:List Z26) (F I H:Int) (N q:BA) (al:Int) (bi:Bool):FState:=⟨aI [(0,.ptr 0 0 0),(8,.sl 8 none false),(9,.dat (.int .i64) F),(10,.dat (.int .i64) I),(11,.dat (.int .i64) H),(12,.dat .str N),(13,.dat .str q),(49,.dat (.int .i8) al),(50,.dat .bool bi)],aE [(0,.row Z1 106 false [C]),(8,.row Z22 115 true X)]⟩
def aY2:List NE:=[.ptr 0 Z1 106 false,.row 8 Z22 115 true,.keep 9,.keep 10,.keep 11,.keep 12,.keep 13,.keep 49,.keep 50]
def KN (C:Z11) (X:List Z26) (F I H:Int) (N q:BA) (al:Int) (ar:Bool):FState:=⟨aI [(0,.ptr 0 0 0),(8,.sl 8 none false),(9,.dat (.int .i64) F),(10,.dat (.int .i64) I),(11,.dat (.int .i64) H),(12,.dat .str N),(13,.dat .str q),(49,.dat (.int .i8) al),(61,.dat .bool ar)],aE [(0,.row Z1 106 false [C]),(8,.row Z22 115 true X)]⟩
def bG8:List NE:=[.ptr 0 Z1 106 false,.row 8 Z22 115 true,.keep 9,.keep 10,.keep 11,.keep 12,.keep 13,.keep 49,.keep 61]
def LF (C:Z11) (X:List Z26) (F I H:Int) (N q:BA) (bj:Bool):FState:=⟨aI [(0,.ptr 0 0 0),(8,.sl 8 none false),(9,.dat (.int .i64) F),(10,.dat (.int .i64) I),(11,.dat (.int .i64) H),(12,.dat .str N),(13,.dat .str q),(72,.dat .bool bj)],aE [(0,.row Z1 106 false [C]),(8,.row Z22 115 true X)]⟩
def bA1:List NE:=[.ptr 0 Z1 106 false,.row 8 Z22 115 true,.keep 9,.keep 10,.keep 11,.keep 12,.keep 13,.keep 72]
def AI (C:Z11) (X:List Z26) (F I H:Int) (N q:BA) (bk:Bool):FState:=⟨aI [(0,.ptr 0 0 0),(8,.sl 8 none false),(9,.dat (.int .i64) F),(10,.dat (.int .i64) I),(11,.dat (.int .i64) H),(12,.dat .str N),(13,.dat .str q),(79,.dat .bool bk)],aE [(0,.row Z1 106 false [C]),(8,.row Z22 115 true X)]⟩
def N3:List NE:=[.ptr 0 Z1 106 false,.row 8 Z22 115 true,.keep 9,.keep 10,.keep 11,.keep 12,.keep 13,.keep 79]
def AN (C:Z11) (X:List Z26) (F:Int):FState:=⟨aI [(0,.ptr 0 0 0),(8,.sl 8 none false),(9,.dat (.int .i64) F)],aE [(0,.row Z1 106 false [C]),(8,.row Z22 115 true X)]⟩
def AS:List NE:=[.ptr 0 Z1 106 false,.row 8 Z22 115 true,.keep 9]
def tL (C:Z11) (X:List Z26) (F:Int) (av:List Z26) (U:Int):FState:=⟨aI [(0,.ptr 0 0 0),(8,.sl 8 none false),(9,.dat (.int .i64) F),(14,.sl 14 none false),(15,.dat (.int .i64) U)],aE [(0,.row Z1 106 false [C]),(8,.row Z22 115 true X),(14,.row Z22 115 true av)]⟩
def BC:List NE:=[.ptr 0 Z1 106 false,.row 8 Z22 115 true,.keep 9,.row 14 Z22 115 true,.keep 15]
def yT (C:Z11) (X:List Z26) (F:Int) (av:List Z26):FState:=⟨aI [(0,.ptr 0 0 0),(8,.sl 8 none false),(9,.dat (.int .i64) F),(14,.sl 14 none false)],aE [(0,.row Z1 106 false [C]),(8,.row Z22 115 true X),(14,.row Z22 115 true av)]⟩
def sO:List NE:=[.ptr 0 Z1 106 false,.row 8 Z22 115 true,.keep 9,.row 14 Z22 115 true]
section
variable (n:Nat) (q91:Q91) (aB:aL) (aC:aK) (aD:aJ) (aA:aM) (cx:Cx β)
def eR0:List (Nat×Spec):=[(109,dG1 n),(111,dB6 n),(112,cT4 n),(113,KJ n),(91,aP iC fI q91),(110,aP eR cY aB),(114,aP eT dK aC),(136,aP eS dI aD),(143,aP eJ dX aA)]
def kI:Ctx:={Γ0 with calls:=lkS (eR0 n q91 aB aC aD aA)}
def iZ:Code:=fb Tryd.f91
def cW8 (n:Nat) (q91:Q91) (aB:aL) (aC:aK) (aD:aJ) (aA:aM) (kn:Z11→List Z26→Int→Int→Int→BA→BA→Option β) (C:Z11) (B L:List Int):Option β:=(cN9 n C (runesBytes B) (runesBytes L)).bind fun V=>(aB (C,(V.1,(V.2.1,(false,()))))).bind fun r2=>(dK2 n C r2.1 V.2.2.1).bind fun r3=>(eI3 n C r3.1).bind fun r4=>cM (r4.1.length+[Z17].length)<|kn C (r4.1++[Z17]) (0:Int) (0:Int) (0:Int) (⟨#[]⟩:BA) (⟨#[]⟩:BA)
def dR4:FS1 β:=FXs (kI n q91 aB aC aD aA) n iZ (some iK) none [] [2,6,14,30,62,126,254,510,1022,2046,4094]
theorem dA8 (C:Z11) (B L:List Int):dR4 n q91 aB aC aD aA (o9 C B L) cx=cW8 n q91 aB aC aD aA (fun C X F I H N q=>cx.nrm (eA C X F I H N q)) C B L:=by kernel_rfl
def F0 (n:Nat) (q91:Q91) (aB:aL) (aC:aK) (aD:aJ) (aA:aM) (kn:Z11→List Z26→Int→Int→Int→BA→BA→Option β) (ae:List Z26→Option β) (C:Z11) (X:List Z26) (F I H:Int) (N q:BA):Option β:=bif (decide (F < (X.length:Int))) then (kn C X F I H N q) else (ae X)
def cL8:FS1 β:=FXs (kI n q91 aB aC aD aA) n iZ (some iK) none [(0,VL)] [131040,131041]
theorem cT7 (C:Z11) (X:List Z26) (F I H:Int) (N q:BA):cL8 n q91 aB aC aD aA (eA C X F I H N q) cx=F0 n q91 aB aC aD aA (fun C X F I H N q=>cx.nrm (eA C X F I H N q)) (fun X=>cx.ex 0 (CG X)) C X F I H N q:=by kernel_rfl
def bF0 (n:Nat) (q91:Q91) (aB:aL) (aC:aK) (aD:aJ) (aA:aM) (kn:Z11→List Z26→Int→Int→Int→BA→BA→Int→Option β) (C:Z11) (X:List Z26) (F I H:Int) (N q:BA):Option β:=idx F (X.length:Int)<|kn C X F I H N q ((rd X F Z17).1)
def dS4:FS1 β:=FXs (kI n q91 aB aC aD aA) n iZ (some bH9) none [] [524168]
theorem cV7 (C:Z11) (X:List Z26) (F I H:Int) (N q:BA):dS4 n q91 aB aC aD aA (eA C X F I H N q) cx=bF0 n q91 aB aC aD aA (fun C X F I H N q al=>cx.nrm (VW C X F I H N q al)) C X F I H N q:=by kernel_rfl
def bJ8 (n:Nat) (q91:Q91) (aB:aL) (aC:aK) (aD:aJ) (aA:aM) (kn:Z11→List Z26→Int→Int→Int→BA→BA→Int→Bool→Option β) (C:Z11) (X:List Z26) (F I H:Int) (N q:BA) (al:Int):Option β:=kn C X F I H N q al (al==(1:Int))
def dL1:FS1 β:=FXs (kI n q91 aB aC aD aA) n iZ (some aY2) none [] [2096676]
theorem cV3 (C:Z11) (X:List Z26) (F I H:Int) (N q:BA) (al:Int):dL1 n q91 aB aC aD aA (VW C X F I H N q al) cx=bJ8 n q91 aB aC aD aA (fun C X F I H N q al bi=>cx.nrm (MN C X F I H N q al bi)) C X F I H N q al:=by kernel_rfl
def bE6 (n:Nat) (q91:Q91) (aB:aL) (aC:aK) (aD:aJ) (aA:aM) (kn:Z11→List Z26→Int→Int→Int→BA→BA→Option β) (C:Z11) (X:List Z26) (F I H:Int) (N q:BA) (al:Int) (bi:Bool):Option β:=idx F (X.length:Int)<|cM (q.size+((rd X F Z17).2).size)<|kn C X F I (w64 (H+1)) N (q++(rd X F Z17).2)
def dX8:FS1 β:=FXs (kI n q91 aB aC aD aA) n iZ (some iK) none [] [8386708,8386709]
theorem eE5 (C:Z11) (X:List Z26) (F I H:Int) (N q:BA) (al:Int) (bi:Bool):dX8 n q91 aB aC aD aA (MN C X F I H N q al bi) cx=bE6 n q91 aB aC aD aA (fun C X F I H N q=>cx.nrm (eA C X F I H N q)) C X F I H N q al bi:=by kernel_rfl
def bL8 (n:Nat) (q91:Q91) (aB:aL) (aC:aK) (aD:aJ) (aA:aM) (kn:Z11→List Z26→Int→Int→Int→BA→BA→Int→Bool→Option β) (C:Z11) (X:List Z26) (F I H:Int) (N q:BA) (al:Int) (bi:Bool):Option β:=kn C X F I H N q al (al==(-1:Int))
def dR7:FS1 β:=FXs (kI n q91 aB aC aD aA) n iZ (some bG8) none [] [8386710]
theorem dK3 (C:Z11) (X:List Z26) (F I H:Int) (N q:BA) (al:Int) (bi:Bool):dR7 n q91 aB aC aD aA (MN C X F I H N q al bi) cx=bL8 n q91 aB aC aD aA (fun C X F I H N q al ar=>cx.nrm (KN C X F I H N q al ar)) C X F I H N q al bi:=by kernel_rfl
def bD6 (n:Nat) (q91:Q91) (aB:aL) (aC:aK) (aD:aJ) (aA:aM) (kn:Z11→List Z26→Int→Int→Int→BA→BA→Option β) (C:Z11) (X:List Z26) (F I H:Int) (N q:BA) (al:Int) (ar:Bool):Option β:=idx F (X.length:Int)<|cM (N.size+((rd X F Z17).2).size)<|kn C X F (w64 (I+1)) H (N++(rd X F Z17).2) q
def dZ4:FS1 β:=FXs (kI n q91 aB aC aD aA) n iZ (some iK) none [] [33546844,33546845]
theorem dH5 (C:Z11) (X:List Z26) (F I H:Int) (N q:BA) (al:Int) (ar:Bool):dZ4 n q91 aB aC aD aA (KN C X F I H N q al ar) cx=bD6 n q91 aB aC aD aA (fun C X F I H N q=>cx.nrm (eA C X F I H N q)) C X F I H N q al ar:=by kernel_rfl
def dG6 (n:Nat) (q91:Q91) (aB:aL) (aC:aK) (aD:aJ) (aA:aM) (kn:Z11→List Z26→Int→Int→Int→BA→BA→Bool→Option β) (C:Z11) (X:List Z26) (F I H:Int) (N q:BA) (al:Int) (ar:Bool):Option β:=kn C X F I H N q (al==(0:Int))
def dA1:FS1 β:=FXs (kI n q91 aB aC aD aA) n iZ (some bA1) none [] [33546846]
theorem dL5 (C:Z11) (X:List Z26) (F I H:Int) (N q:BA) (al:Int) (ar:Bool):dA1 n q91 aB aC aD aA (KN C X F I H N q al ar) cx=dG6 n q91 aB aC aD aA (fun C X F I H N q bj=>cx.nrm (LF C X F I H N q bj)) C X F I H N q al ar:=by kernel_rfl
def dY6 (n:Nat) (q91:Q91) (aB:aL) (aC:aK) (aD:aJ) (aA:aM) (kn:Z11→List Z26→Int→Int→Int→BA→BA→Bool→Option β) (C:Z11) (X:List Z26) (F I H:Int) (N q:BA) (bj:Bool):Option β:=bif (decide (I≥(1:Int))) then (kn C X F I H N q (decide (H≥(1:Int)))) else (kn C X F I H N q false)
def cU9:FS1 β:=FXs (kI n q91 aB aC aD aA) n iZ (some N3) none [] [268374776]
theorem cM4 (C:Z11) (X:List Z26) (F I H:Int) (N q:BA) (bj:Bool):cU9 n q91 aB aC aD aA (LF C X F I H N q bj) cx=dY6 n q91 aB aC aD aA (fun C X F I H N q bk=>cx.nrm (AI C X F I H N q bk)) C X F I H N q bj:=by kernel_rfl
def aS5 (n:Nat) (q91:Q91) (aB:aL) (aC:aK) (aD:aJ) (aA:aM) (kn:Z11→List Z26→Int→List Z26→Int→Option β) (C:Z11) (X:List Z26) (F I H:Int) (N q:BA) (bk:Bool):Option β:=(qN n X (w64 ((w64 (F - I)) - H)) (w64 (I+H)) []).bind fun V=>kK N<|kK q<|(aB (C,((bS N),((bS q),(false,()))))).bind fun r2=>kn C V.1 (w64 ((w64 (F - I)) - H)) r2.1 (w64 ((r2.1.length:Int) - 1))
def bM4:FS1 β:=FXs (kI n q91 aB aC aD aA) n iZ (some BC) none [] [1073499108,2146998218,4293996438,17175985756]
theorem cI3 (C:Z11) (X:List Z26) (F I H:Int) (N q:BA) (bk:Bool):bM4 n q91 aB aC aD aA (AI C X F I H N q bk) cx=aS5 n q91 aB aC aD aA (fun C X F av U=>cx.nrm (tL C X F av U)) C X F I H N q bk:=by kernel_rfl
def XY (n:Nat) (q91:Q91) (aB:aL) (aC:aK) (aD:aJ) (aA:aM) (kn:Z11→List Z26→Int→List Z26→Int→Option β) (bl:Z11→List Z26→Int→List Z26→Option β) (C:Z11) (X:List Z26) (F:Int) (av:List Z26) (U:Int):Option β:=bif (decide (U≥(0:Int))) then (idx U (av.length:Int)<|(qN n X F (0:Int) [(rd av U Z17)]).bind fun V=>kn C V.1 F av (w64 (U - 1))) else (bl C X F av)
def UW:FS1 β:=FXs (kI n q91 aB aC aD aA) n iZ (some BC) none [(3,sO)] [274815772112,274815772113,274815772114,274815772115]
theorem cL1 (C:Z11) (X:List Z26) (F:Int) (av:List Z26) (U:Int):UW n q91 aB aC aD aA (tL C X F av U) cx=XY n q91 aB aC aD aA (fun C X F av U=>cx.nrm (tL C X F av U)) (fun C X F av=>cx.ex 3 (yT C X F av)) C X F av U:=by kernel_rfl
def g91_12L (n:Nat) (q91:Q91) (aB:aL) (aC:aK) (aD:aJ) (aA:aM) (bl:Z11→List Z26→Int→List Z26→Option β):Nat→Z11→List Z26→Int→List Z26→Int→Option β
  | 0,_,_,_,_,_=>none
  | m+1,C,X,F,av,U=>XY n q91 aB aC aD aA (g91_12L n q91 aB aC aD aA bl m) bl C X F av U
def aO5 (bl:Z11→List Z26→Int→List Z26→Option β) (C:Z11) (X:List Z26) (F:Int) (av:List Z26) (U:Int):Option β:=g91_12L n q91 aB aC aD aA bl n C X F av U
def aW7 (s:FState) (cx:Cx β):Option β:=bQ (fun again s=>UW n q91 aB aC aD aA s {cx with nrm:=again}) n s
theorem j0 (n:Nat) (q91:Q91) (aB:aL) (aC:aK) (aD:aJ) (aA:aM) (cx:Cx β):∀(m:Nat) (C:Z11) (X:List Z26) (F:Int) (av:List Z26) (U:Int),bQ (fun again s=>UW n q91 aB aC aD aA s {cx with nrm:=again}) m (tL C X F av U)=g91_12L n q91 aB aC aD aA (fun C X F av=>cx.ex 3 (yT C X F av)) m C X F av U:=by
  intro m
  induction m with
  | zero=>intros;rfl
  | succ m ih=>intros;simp only [bQ,g91_12L,cL1,ih]
theorem cE0 (C:Z11) (X:List Z26) (F:Int) (av:List Z26) (U:Int):aW7 n q91 aB aC aD aA (tL C X F av U) cx=aO5 n q91 aB aC aD aA (fun C X F av=>cx.ex 3 (yT C X F av)) C X F av U:=j0 n q91 aB aC aD aA cx n C X F av U
def aV9 (kn:Z11→List Z26→Int→List Z26→Option β) (C:Z11) (X:List Z26) (F:Int) (av:List Z26) (U:Int):Option β:=aO5 n q91 aB aC aD aA kn C X F av U
def aX2 (s:FState) (cx:Cx β):Option β:=aW7 n q91 aB aC aD aA s {cx with ex:=fun j s=>bif Nat.beq j 3 then cx.nrm s else cx.ex j s}
theorem bV1 (C:Z11) (X:List Z26) (F:Int) (av:List Z26) (U:Int):aX2 n q91 aB aC aD aA (tL C X F av U) cx=aV9 n q91 aB aC aD aA (fun C X F av=>cx.nrm (yT C X F av)) C X F av U:=cE0 n q91 aB aC aD aA _ C X F av U
def RJ (n:Nat) (q91:Q91) (aB:aL) (aC:aK) (aD:aJ) (aA:aM) (kn:Z11→List Z26→Int→Option β) (C:Z11) (X:List Z26) (F:Int) (av:List Z26):Option β:=kn C X (w64 (F+(av.length:Int)))
def bJ3:FS1 β:=FXs (kI n q91 aB aC aD aA) n iZ (some AS) none [] [8587992879]
theorem cK4 (C:Z11) (X:List Z26) (F:Int) (av:List Z26):bJ3 n q91 aB aC aD aA (yT C X F av) cx=RJ n q91 aB aC aD aA (fun C X F=>cx.nrm (AN C X F)) C X F av:=by kernel_rfl
def QJ (kn:Z11→List Z26→Int→Option β) (C:Z11) (X:List Z26) (F I H:Int) (N q:BA) (bk:Bool):Option β:=aS5 n q91 aB aC aD aA (fun C X F av U=>aV9 n q91 aB aC aD aA (fun C X F av=>RJ n q91 aB aC aD aA kn C X F av) C X F av U) C X F I H N q bk
def WM (s:FState) (cx:Cx β):Option β:=bM4 n q91 aB aC aD aA s {cx with nrm:=fun s=>aX2 n q91 aB aC aD aA s {cx with nrm:=fun s=>bJ3 n q91 aB aC aD aA s cx}}
theorem cA5 (C:Z11) (X:List Z26) (F I H:Int) (N q:BA) (bk:Bool):WM n q91 aB aC aD aA (AI C X F I H N q bk) cx=QJ n q91 aB aC aD aA (fun C X F=>cx.nrm (AN C X F)) C X F I H N q bk:=by simp only [WM,QJ,cI3,bV1,cK4]
def eD6 (n:Nat) (q91:Q91) (aB:aL) (aC:aK) (aD:aJ) (aA:aM) (kn:Z11→List Z26→Int→Option β) (C:Z11) (X:List Z26) (F I H:Int) (N q:BA) (bk:Bool):Option β:=kn C X F
def bO6:FS1 β:=FXs (kI n q91 aB aC aD aA) n iZ (some AS) none [] [536749555]
theorem cB8 (C:Z11) (X:List Z26) (F I H:Int) (N q:BA) (bk:Bool):bO6 n q91 aB aC aD aA (AI C X F I H N q bk) cx=eD6 n q91 aB aC aD aA (fun C X F=>cx.nrm (AN C X F)) C X F I H N q bk:=by kernel_rfl
def CK (kn:Z11→List Z26→Int→Option β) (C:Z11) (X:List Z26) (F I H:Int) (N q:BA) (bk:Bool):Option β:=bif bk then QJ n q91 aB aC aD aA kn C X F I H N q bk else eD6 n q91 aB aC aD aA kn C X F I H N q bk
def UN (s:FState) (cx:Cx β):Option β:=asBool (ev s (kT (nav iZ [1,1,1,1,1,1,1,1,1,1,1,0,0,0,1,0,0,1,0,1,1,1,1,1,0,0,1]))) fun t=>cond t (WM n q91 aB aC aD aA s cx) (bO6 n q91 aB aC aD aA s cx)
theorem bY5 (C:Z11) (X:List Z26) (F I H:Int) (N q:BA) (bk:Bool):UN n q91 aB aC aD aA (AI C X F I H N q bk) cx=CK n q91 aB aC aD aA (fun C X F=>cx.nrm (AN C X F)) C X F I H N q bk:=by
  simp only [UN,CK,cA5,cB8]
  kernel_rfl
def CP (n:Nat) (q91:Q91) (aB:aL) (aC:aK) (aD:aJ) (aA:aM) (kn:Z11→List Z26→Int→Int→Int→BA→BA→Option β) (C:Z11) (X:List Z26) (F:Int):Option β:=kn C X F (0:Int) (0:Int) (⟨#[]⟩:BA) (⟨#[]⟩:BA)
def aW8:FS1 β:=FXs (kI n q91 aB aC aD aA) n iZ (some iK) none [] [268374778,536749558,1073499118,1073499119]
theorem cE1 (C:Z11) (X:List Z26) (F:Int):aW8 n q91 aB aC aD aA (AN C X F) cx=CP n q91 aB aC aD aA (fun C X F I H N q=>cx.nrm (eA C X F I H N q)) C X F:=by kernel_rfl
def KP (kn:Z11→List Z26→Int→Int→Int→BA→BA→Option β) (C:Z11) (X:List Z26) (F I H:Int) (N q:BA) (bj:Bool):Option β:=dY6 n q91 aB aC aD aA (fun C X F I H N q bk=>CK n q91 aB aC aD aA (fun C X F=>CP n q91 aB aC aD aA kn C X F) C X F I H N q bk) C X F I H N q bj
def QO (s:FState) (cx:Cx β):Option β:=cU9 n q91 aB aC aD aA s {cx with nrm:=fun s=>UN n q91 aB aC aD aA s {cx with nrm:=fun s=>aW8 n q91 aB aC aD aA s cx}}
theorem bZ4 (C:Z11) (X:List Z26) (F I H:Int) (N q:BA) (bj:Bool):QO n q91 aB aC aD aA (LF C X F I H N q bj) cx=KP n q91 aB aC aD aA (fun C X F I H N q=>cx.nrm (eA C X F I H N q)) C X F I H N q bj:=by simp only [QO,KP,cM4,bY5,cE1]
def dP4 (n:Nat) (q91:Q91) (aB:aL) (aC:aK) (aD:aJ) (aA:aM) (kn:Z11→List Z26→Int→Int→Int→BA→BA→Option β) (C:Z11) (X:List Z26) (F I H:Int) (N q:BA) (bj:Bool):Option β:=kn C X F I H N q
def bD3:FS1 β:=FXs (kI n q91 aB aC aD aA) n iZ (some iK) none [] [67093695]
theorem cB9 (C:Z11) (X:List Z26) (F I H:Int) (N q:BA) (bj:Bool):bD3 n q91 aB aC aD aA (LF C X F I H N q bj) cx=dP4 n q91 aB aC aD aA (fun C X F I H N q=>cx.nrm (eA C X F I H N q)) C X F I H N q bj:=by kernel_rfl
def XR (kn:Z11→List Z26→Int→Int→Int→BA→BA→Option β) (C:Z11) (X:List Z26) (F I H:Int) (N q:BA) (bj:Bool):Option β:=bif bj then KP n q91 aB aC aD aA kn C X F I H N q bj else dP4 n q91 aB aC aD aA kn C X F I H N q bj
def UV (s:FState) (cx:Cx β):Option β:=asBool (ev s (kT (nav iZ [1,1,1,1,1,1,1,1,1,1,1,0,0,0,1,0,0,1,0,1,1,1,1,1]))) fun t=>cond t (QO n q91 aB aC aD aA s cx) (bD3 n q91 aB aC aD aA s cx)
theorem bR7 (C:Z11) (X:List Z26) (F I H:Int) (N q:BA) (bj:Bool):UV n q91 aB aC aD aA (LF C X F I H N q bj) cx=XR n q91 aB aC aD aA (fun C X F I H N q=>cx.nrm (eA C X F I H N q)) C X F I H N q bj:=by
  simp only [UV,XR,bZ4,cB9]
  kernel_rfl
def YG (kn:Z11→List Z26→Int→Int→Int→BA→BA→Option β) (C:Z11) (X:List Z26) (F I H:Int) (N q:BA) (al:Int) (ar:Bool):Option β:=dG6 n q91 aB aC aD aA (fun C X F I H N q bj=>XR n q91 aB aC aD aA kn C X F I H N q bj) C X F I H N q al ar
def UY (s:FState) (cx:Cx β):Option β:=dA1 n q91 aB aC aD aA s {cx with nrm:=fun s=>UV n q91 aB aC aD aA s cx}
theorem cF9 (C:Z11) (X:List Z26) (F I H:Int) (N q:BA) (al:Int) (ar:Bool):UY n q91 aB aC aD aA (KN C X F I H N q al ar) cx=YG n q91 aB aC aD aA (fun C X F I H N q=>cx.nrm (eA C X F I H N q)) C X F I H N q al ar:=by simp only [UY,YG,dL5,bR7]
def JR (kn:Z11→List Z26→Int→Int→Int→BA→BA→Option β) (C:Z11) (X:List Z26) (F I H:Int) (N q:BA) (al:Int) (ar:Bool):Option β:=bif ar then bD6 n q91 aB aC aD aA kn C X F I H N q al ar else YG n q91 aB aC aD aA kn C X F I H N q al ar
def VF (s:FState) (cx:Cx β):Option β:=asBool (ev s (kT (nav iZ [1,1,1,1,1,1,1,1,1,1,1,0,0,0,1,0,0,1,0,1,1,1]))) fun t=>cond t (dZ4 n q91 aB aC aD aA s cx) (UY n q91 aB aC aD aA s cx)
theorem bW2 (C:Z11) (X:List Z26) (F I H:Int) (N q:BA) (al:Int) (ar:Bool):VF n q91 aB aC aD aA (KN C X F I H N q al ar) cx=JR n q91 aB aC aD aA (fun C X F I H N q=>cx.nrm (eA C X F I H N q)) C X F I H N q al ar:=by
  simp only [VF,JR,dH5,cF9]
  kernel_rfl
def CD (kn:Z11→List Z26→Int→Int→Int→BA→BA→Option β) (C:Z11) (X:List Z26) (F I H:Int) (N q:BA) (al:Int) (bi:Bool):Option β:=bL8 n q91 aB aC aD aA (fun C X F I H N q al ar=>JR n q91 aB aC aD aA kn C X F I H N q al ar) C X F I H N q al bi
def XL (s:FState) (cx:Cx β):Option β:=dR7 n q91 aB aC aD aA s {cx with nrm:=fun s=>VF n q91 aB aC aD aA s cx}
theorem cH7 (C:Z11) (X:List Z26) (F I H:Int) (N q:BA) (al:Int) (bi:Bool):XL n q91 aB aC aD aA (MN C X F I H N q al bi) cx=CD n q91 aB aC aD aA (fun C X F I H N q=>cx.nrm (eA C X F I H N q)) C X F I H N q al bi:=by simp only [XL,CD,dK3,bW2]
def LP (kn:Z11→List Z26→Int→Int→Int→BA→BA→Option β) (C:Z11) (X:List Z26) (F I H:Int) (N q:BA) (al:Int) (bi:Bool):Option β:=bif bi then bE6 n q91 aB aC aD aA kn C X F I H N q al bi else CD n q91 aB aC aD aA kn C X F I H N q al bi
def SY (s:FState) (cx:Cx β):Option β:=asBool (ev s (kT (nav iZ [1,1,1,1,1,1,1,1,1,1,1,0,0,0,1,0,0,1,0,1]))) fun t=>cond t (dX8 n q91 aB aC aD aA s cx) (XL n q91 aB aC aD aA s cx)
theorem bR0 (C:Z11) (X:List Z26) (F I H:Int) (N q:BA) (al:Int) (bi:Bool):SY n q91 aB aC aD aA (MN C X F I H N q al bi) cx=LP n q91 aB aC aD aA (fun C X F I H N q=>cx.nrm (eA C X F I H N q)) C X F I H N q al bi:=by
  simp only [SY,LP,eE5,cH7]
  kernel_rfl
def IR (kn:Z11→List Z26→Int→Int→Int→BA→BA→Option β) (C:Z11) (X:List Z26) (F I H:Int) (N q:BA) (al:Int):Option β:=bJ8 n q91 aB aC aD aA (fun C X F I H N q al bi=>LP n q91 aB aC aD aA kn C X F I H N q al bi) C X F I H N q al
def TY (s:FState) (cx:Cx β):Option β:=dL1 n q91 aB aC aD aA s {cx with nrm:=fun s=>SY n q91 aB aC aD aA s cx}
theorem cJ8 (C:Z11) (X:List Z26) (F I H:Int) (N q:BA) (al:Int):TY n q91 aB aC aD aA (VW C X F I H N q al) cx=IR n q91 aB aC aD aA (fun C X F I H N q=>cx.nrm (eA C X F I H N q)) C X F I H N q al:=by simp only [TY,IR,cV3,bR0]
def WI (kn:Z11→List Z26→Int→Int→Int→BA→BA→Option β) (C:Z11) (X:List Z26) (F I H:Int) (N q:BA) (al:Int):Option β:=IR n q91 aB aC aD aA kn C X F I H N q al
def bP0 (s:FState) (cx:Cx β):Option β:=TY n q91 aB aC aD aA s {cx with ex:=fun j s=>bif Nat.beq j 2 then cx.nrm s else cx.ex j s}
theorem bR8 (C:Z11) (X:List Z26) (F I H:Int) (N q:BA) (al:Int):bP0 n q91 aB aC aD aA (VW C X F I H N q al) cx=WI n q91 aB aC aD aA (fun C X F I H N q=>cx.nrm (eA C X F I H N q)) C X F I H N q al:=cJ8 n q91 aB aC aD aA _ C X F I H N q al
def CV (n:Nat) (q91:Q91) (aB:aL) (aC:aK) (aD:aJ) (aA:aM) (kn:Z11→List Z26→Int→Int→Int→BA→BA→Option β) (C:Z11) (X:List Z26) (F I H:Int) (N q:BA):Option β:=kn C X (w64 (F+1)) I H N q
def aZ7:FS1 β:=FXs (kI n q91 aB aC aD aA) n iZ (some iK) none [] [262085]
theorem cE8 (C:Z11) (X:List Z26) (F I H:Int) (N q:BA):aZ7 n q91 aB aC aD aA (eA C X F I H N q) cx=CV n q91 aB aC aD aA (fun C X F I H N q=>cx.nrm (eA C X F I H N q)) C X F I H N q:=by kernel_rfl
def LT (kn:Z11→List Z26→Int→Int→Int→BA→BA→Option β) (C:Z11) (X:List Z26) (F I H:Int) (N q:BA):Option β:=bF0 n q91 aB aC aD aA (fun C X F I H N q al=>WI n q91 aB aC aD aA (fun C X F I H N q=>CV n q91 aB aC aD aA kn C X F I H N q) C X F I H N q al) C X F I H N q
def QC (s:FState) (cx:Cx β):Option β:=dS4 n q91 aB aC aD aA s {cx with nrm:=fun s=>bP0 n q91 aB aC aD aA s {cx with nrm:=fun s=>aZ7 n q91 aB aC aD aA s cx}}
theorem cC4 (C:Z11) (X:List Z26) (F I H:Int) (N q:BA):QC n q91 aB aC aD aA (eA C X F I H N q) cx=LT n q91 aB aC aD aA (fun C X F I H N q=>cx.nrm (eA C X F I H N q)) C X F I H N q:=by simp only [QC,LT,cV7,bR8,cE8]
def SD (kn:Z11→List Z26→Int→Int→Int→BA→BA→Option β) (C:Z11) (X:List Z26) (F I H:Int) (N q:BA):Option β:=LT n q91 aB aC aD aA kn C X F I H N q
def aX1 (s:FState) (cx:Cx β):Option β:=QC n q91 aB aC aD aA s {cx with ex:=fun j s=>bif Nat.beq j 1 then cx.nrm s else cx.ex j s}
theorem bZ3 (C:Z11) (X:List Z26) (F I H:Int) (N q:BA):aX1 n q91 aB aC aD aA (eA C X F I H N q) cx=SD n q91 aB aC aD aA (fun C X F I H N q=>cx.nrm (eA C X F I H N q)) C X F I H N q:=cC4 n q91 aB aC aD aA _ C X F I H N q
def DH (kn:Z11→List Z26→Int→Int→Int→BA→BA→Option β) (ae:List Z26→Option β) (C:Z11) (X:List Z26) (F I H:Int) (N q:BA):Option β:=F0 n q91 aB aC aD aA (fun C X F I H N q=>SD n q91 aB aC aD aA kn C X F I H N q) ae C X F I H N q
def FS (s:FState) (cx:Cx β):Option β:=cL8 n q91 aB aC aD aA s {cx with nrm:=fun s=>aX1 n q91 aB aC aD aA s cx}
theorem bT7 (C:Z11) (X:List Z26) (F I H:Int) (N q:BA):FS n q91 aB aC aD aA (eA C X F I H N q) cx=DH n q91 aB aC aD aA (fun C X F I H N q=>cx.nrm (eA C X F I H N q)) (fun X=>cx.ex 0 (CG X)) C X F I H N q:=by simp only [FS,DH,cT7,bZ3]
def g91_32L (n:Nat) (q91:Q91) (aB:aL) (aC:aK) (aD:aJ) (aA:aM) (ae:List Z26→Option β):Nat→Z11→List Z26→Int→Int→Int→BA→BA→Option β
  | 0,_,_,_,_,_,_,_=>none
  | m+1,C,X,F,I,H,N,q=>DH n q91 aB aC aD aA (g91_32L n q91 aB aC aD aA ae m) ae C X F I H N q
def aT9 (ae:List Z26→Option β) (C:Z11) (X:List Z26) (F I H:Int) (N q:BA):Option β:=g91_32L n q91 aB aC aD aA ae n C X F I H N q
def bI3 (s:FState) (cx:Cx β):Option β:=bQ (fun again s=>FS n q91 aB aC aD aA s {cx with nrm:=again}) n s
theorem aR8 (n:Nat) (q91:Q91) (aB:aL) (aC:aK) (aD:aJ) (aA:aM) (cx:Cx β):∀(m:Nat) (C:Z11) (X:List Z26) (F I H:Int) (N q:BA),bQ (fun again s=>FS n q91 aB aC aD aA s {cx with nrm:=again}) m (eA C X F I H N q)=g91_32L n q91 aB aC aD aA (fun X=>cx.ex 0 (CG X)) m C X F I H N q:=by
  intro m
  induction m with
  | zero=>intros;rfl
  | succ m ih=>intros;simp only [bQ,g91_32L,bT7,ih]
theorem cJ1 (C:Z11) (X:List Z26) (F I H:Int) (N q:BA):bI3 n q91 aB aC aD aA (eA C X F I H N q) cx=aT9 n q91 aB aC aD aA (fun X=>cx.ex 0 (CG X)) C X F I H N q:=aR8 n q91 aB aC aD aA cx n C X F I H N q
def aL9 (kn:List Z26→Option β) (C:Z11) (X:List Z26) (F I H:Int) (N q:BA):Option β:=aT9 n q91 aB aC aD aA kn C X F I H N q
def bC0 (s:FState) (cx:Cx β):Option β:=bI3 n q91 aB aC aD aA s {cx with ex:=fun j s=>bif Nat.beq j 0 then cx.nrm s else cx.ex j s}
theorem bQ0 (C:Z11) (X:List Z26) (F I H:Int) (N q:BA):bC0 n q91 aB aC aD aA (eA C X F I H N q) cx=aL9 n q91 aB aC aD aA (fun X=>cx.nrm (CG X)) C X F I H N q:=cJ1 n q91 aB aC aD aA _ C X F I H N q
def CQ (n:Nat) (q91:Q91) (aB:aL) (aC:aK) (aD:aJ) (aA:aM) (kr:List Z26→Option β) (X:List Z26):Option β:=bnd (0:Int) (w64 ((X.length:Int) - 1)) (X.length:Int)<|kr (cut X (0:Int) ((0:Int)+((w64 ((X.length:Int) - 1)) - (0:Int))))
def bB3:FS1 β:=FXs (kI n q91 aB aC aD aA) n iZ none (some VN) [] [16382,16383]
theorem bS1 (X:List Z26):bB3 n q91 aB aC aD aA (CG X) cx=CQ n q91 aB aC aD aA (fun y=>cx.ret (dC3 y)) X:=by kernel_rfl
def XI (kr:List Z26→Option β) (C:Z11) (B L:List Int):Option β:=cW8 n q91 aB aC aD aA (fun C X F I H N q=>aL9 n q91 aB aC aD aA (fun X=>CQ n q91 aB aC aD aA kr X) C X F I H N q) C B L
def EZ (s:FState) (cx:Cx β):Option β:=dR4 n q91 aB aC aD aA s {cx with nrm:=fun s=>bC0 n q91 aB aC aD aA s {cx with nrm:=fun s=>bB3 n q91 aB aC aD aA s cx}}
theorem bW0 (C:Z11) (B L:List Int):EZ n q91 aB aC aD aA (o9 C B L) cx=XI n q91 aB aC aD aA (fun y=>cx.ret (dC3 y)) C B L:=by simp only [EZ,XI,dA8,bQ0,bS1]
def dN5 (C:Z11) (B L:List Int):Option (DenR [.rw Z22 115]):=XI n q91 aB aC aD aA (fun y=>some (y,())) C B L
def cR7 (d:DenA iC):Option (DenR fI):=dN5 n q91 aB aC aD aA d.1 d.2.1 d.2.2.1
def eQ1:Sk:=(.nd (.fin none none none [] .leaf) (.nd (.fin none none none [] .leaf) (.nd (.fin none none none [] .leaf) (.nd (.fin none none none [] .leaf) (.nd (.fin none none none [] .leaf) (.nd (.fin none none none [] .leaf) (.nd (.fin none none none [] .leaf) (.nd (.fin none none none [] .leaf) (.nd (.fin none none none [] .leaf) (.nd (.fin none none none [] .leaf) (.nd (.fin none (some iK) none [] .leaf) (.nd (.nd (.nd (.nd (.nd (.fin none none none [(0,VL)] .leaf) (.fin none (some iK) none [(0,VL)] .leaf)) (.nd (.nd (.nd (.fin none (some bH9) none [] .leaf) (.nd (.nd (.fin none (some aY2) none [] .leaf) (.nd (.nd (.fin none none none [] .leaf) (.fin none (some iK) none [] .leaf)) (.nd (.fin none (some bG8) none [] .leaf) (.nd (.nd (.fin none none none [] .leaf) (.fin none (some iK) none [] .leaf)) (.nd (.fin none (some bA1) none [] .leaf) (.nd (.nd (.nd (.fin none (some N3) none [] .leaf) (.nd (.nd (.fin none none none [] .leaf) (.nd (.fin none none none [] .leaf) (.nd (.fin none none none [] .leaf) (.nd (.nd (.fin none (some BC) none [] .leaf) (.nd (.nd (.nd (.nd (.fin none none none [(3,sO)] .leaf) (.fin none none none [(3,sO)] .leaf)) (.nd (.fin none none none [(3,sO)] .leaf) (.fin none (some BC) none [(3,sO)] .leaf))) .leaf) .leaf)) (.fin none (some AS) none [] .leaf))))) (.fin none (some AS) none [] .leaf))) (.nd (.fin none none none [] .leaf) (.nd (.fin none none none [] .leaf) (.nd (.fin none none none [] .leaf) (.fin none (some iK) none [] .leaf))))) (.fin none (some iK) none [] .leaf))))))) .leaf)) (.fin none (some iK) none [] .leaf)) .leaf)) .leaf) .leaf) (.nd (.fin none none (some VN) [] .leaf) (.fin none none (some VN) [] .leaf))))))))))))))
theorem eN1 (s:FState) (cx:Cx β):FX (kI n q91 aB aC aD aA) n iZ eQ1 s cx=EZ n q91 aB aC aD aA s cx:=by kernel_rfl
theorem dU2 (h91:Fit Tryd.prog 91 (aP iC fI q91)) (h110:Fit Tryd.prog 110 (aP eR cY aB)) (h114:Fit Tryd.prog 114 (aP eT dK aC)) (h136:Fit Tryd.prog 136 (aP eS dI aD)) (h143:Fit Tryd.prog 143 (aP eJ dX aA)):Fit Tryd.prog 91 (aP iC fI (cR7 n q91 aB aC aD aA)):=
  cH (Γ:=Γ0) (l:=eR0 n q91 aB aC aD aA) (n:=n) (sk:=eQ1) (ts:=[(6,none)]) (fn:=Tryd.f91) (c:=iZ) (by kernel_rfl) (by kernel_rfl) (by unfold aS;kernel_rfl) cF ⟨cN6 n,dD2 n,dH8 n,zC n,h91,h110,h114,h136,h143,trivial⟩ aN (by kernel_rfl) (by kernel_rfl) (Nat.le_of_ble_eq_true (by kernel_rfl)) (Nat.le_of_ble_eq_true (by kernel_rfl)) (by kernel_rfl) (by kernel_rfl)
    (fun d=>(eN1 n q91 aB aC aD aA _ _).trans (Eq.trans (b:=EZ n q91 aB aC aD aA (o9 d.1 d.2.1 d.2.2.1) (cN (kI n q91 aB aC aD aA) fI [(6,none)])) (by kernel_rfl) ((bW0 n q91 aB aC aD aA _ d.1 d.2.1 d.2.2.1).trans (by kernel_rfl))))
def WY (C:Z11) (B L:List Int) (v3:Bool):FState:=⟨aI [(0,.ptr 0 0 0),(1,.sl 1 none false),(2,.sl 2 none false),(3,.dat .bool v3)],aE [(0,.row Z1 106 false [C]),(1,.row (.int .i32) 21 false B),(2,.row (.int .i32) 21 false L)]⟩
def SU (X:List Z26):FState:=⟨aI [(8,.sl 8 none false)],aE [(8,.row Z22 115 true X)]⟩
def dJ:List NE:=[.row 8 Z22 115 true]
def bL7 (C:Z11) (Q:List Int) (S:List Z26):FState:=⟨aI [(0,.ptr 0 0 0),(12,.sl 12 none false),(13,.sl 13 none false)],aE [(0,.row Z1 106 false [C]),(12,.row (.int .i32) 21 false Q),(13,.row Z22 115 true S)]⟩
def D0:List NE:=[.ptr 0 Z1 106 false,.row 12 (.int .i32) 21 false,.row 13 Z22 115 true]
def dV3:List (Nat×Spec):=[(133,aG3 n),(134,aD9 n),(135,PU n),(137,aD6 n),(91,aP iC fI q91),(110,aP eR cY aB),(114,aP eT dK aC),(136,aP eS dI aD),(143,aP eJ dX aA)]
def UK:Ctx:={Γ0 with calls:=lkS (dV3 n q91 aB aC aD aA)}
def VA:Code:=fb Tryd.f110
def o7 (n:Nat) (q91:Q91) (aB:aL) (aC:aK) (aD:aJ) (aA:aM) (kn:Z11→List Int→List Z26→Option β) (kr:List Z26→Option β) (C:Z11) (B L:List Int) (v3:Bool):Option β:=(dK1 n B L).bind fun V=>bif V.1 then (bif (decide ((B.length:Int)>(0:Int))) then (cM [((0:Int),(runesBytes B))].length<|kr [((0:Int),(runesBytes B))]) else (kr [])) else ((eJ2 n B L).bind fun r2=>bnd (0:Int) r2.1 (B.length:Int)<|bnd r2.1 (B.length:Int) (B.length:Int)<|bnd r2.1 (L.length:Int) (L.length:Int)<|(F9 n (cut B r2.1 (B.length:Int)) (cut L r2.1 (L.length:Int))).bind fun r3=>bnd (w64 (((cut B r2.1 (B.length:Int)).length:Int) - r3.1)) ((cut B r2.1 (B.length:Int)).length:Int) ((cut B r2.1 (B.length:Int)).length:Int)<|bnd (0:Int) (w64 (((cut B r2.1 (B.length:Int)).length:Int) - r3.1)) ((cut B r2.1 (B.length:Int)).length:Int)<|bnd (0:Int) (w64 (((cut L r2.1 (L.length:Int)).length:Int) - r3.1)) ((cut L r2.1 (L.length:Int)).length:Int)<|(aD (C,((cut (cut B r2.1 (B.length:Int)) (0:Int) (w64 (((cut B r2.1 (B.length:Int)).length:Int) - r3.1))),((cut (cut L r2.1 (L.length:Int)) (0:Int) (w64 (((cut L r2.1 (L.length:Int)).length:Int) - r3.1))),(v3,()))))).bind fun r4=>bif (((cut B (0:Int) r2.1).length:Int)!=(0:Int)) then (cM ([((0:Int),(runesBytes (cut B (0:Int) r2.1)))].length+r4.1.length)<|kn C (cut (cut B r2.1 (B.length:Int)) (w64 (((cut B r2.1 (B.length:Int)).length:Int) - r3.1)) ((cut B r2.1 (B.length:Int)).length:Int)) ([((0:Int),(runesBytes (cut B (0:Int) r2.1)))]++r4.1)) else (kn C (cut (cut B r2.1 (B.length:Int)) (w64 (((cut B r2.1 (B.length:Int)).length:Int) - r3.1)) ((cut B r2.1 (B.length:Int)).length:Int)) r4.1))
def bI0:FS1 β:=FXs (UK n q91 aB aC aD aA) n VA (some D0) (some dJ) [] [2,12,13,14,30,62,126,254,510,1022,2046,4094,16380,16381]
theorem cJ7 (C:Z11) (B L:List Int) (v3:Bool):bI0 n q91 aB aC aD aA (WY C B L v3) cx=o7 n q91 aB aC aD aA (fun C Q S=>cx.nrm (bL7 C Q S)) (fun X=>cx.ret (SU X)) C B L v3:=by kernel_rfl
def ST (n:Nat) (q91:Q91) (aB:aL) (aC:aK) (aD:aJ) (aA:aM) (kr:List Z26→Option β) (C:Z11) (Q:List Int) (S:List Z26):Option β:=bif ((Q.length:Int)!=(0:Int)) then (cM (S.length+[((0:Int),(runesBytes Q))].length)<|(bQ3 n C (S++[((0:Int),(runesBytes Q))])).bind fun V=>kr V.1) else ((bQ3 n C S).bind fun r2=>kr r2.1)
def bA5:FS1 β:=FXs (UK n q91 aB aC aD aA) n VA none (some dJ) [] [32764,32765,32766,32767]
theorem bR5 (C:Z11) (Q:List Int) (S:List Z26):bA5 n q91 aB aC aD aA (bL7 C Q S) cx=ST n q91 aB aC aD aA (fun X=>cx.ret (SU X)) C Q S:=by kernel_rfl
def TT (kr:List Z26→Option β) (C:Z11) (B L:List Int) (v3:Bool):Option β:=o7 n q91 aB aC aD aA (fun C Q S=>ST n q91 aB aC aD aA kr C Q S) kr C B L v3
def GZ (s:FState) (cx:Cx β):Option β:=bI0 n q91 aB aC aD aA s {cx with nrm:=fun s=>bA5 n q91 aB aC aD aA s cx}
theorem bU2 (C:Z11) (B L:List Int) (v3:Bool):GZ n q91 aB aC aD aA (WY C B L v3) cx=TT n q91 aB aC aD aA (fun X=>cx.ret (SU X)) C B L v3:=by simp only [GZ,TT,cJ7,bR5]
def LN (C:Z11) (B L:List Int) (v3:Bool):Option (DenR [.rw Z22 115]):=TT n q91 aB aC aD aA (fun X=>some (X,())) C B L v3
def aX8 (d:DenA eR):Option (DenR cY):=LN n q91 aB aC aD aA d.1 d.2.1 d.2.2.1 d.2.2.2.1
def cN8:Sk:=(.nd (.fin none none (some dJ) [] .leaf) (.nd (.nd (.fin none none (some dJ) [] .leaf) (.fin none none (some dJ) [] .leaf)) (.nd (.fin none none (some dJ) [] .leaf) (.nd (.fin none none (some dJ) [] .leaf) (.nd (.fin none none (some dJ) [] .leaf) (.nd (.fin none none (some dJ) [] .leaf) (.nd (.fin none none (some dJ) [] .leaf) (.nd (.fin none none (some dJ) [] .leaf) (.nd (.fin none none (some dJ) [] .leaf) (.nd (.fin none none (some dJ) [] .leaf) (.nd (.fin none none (some dJ) [] .leaf) (.nd (.nd (.fin none none (some dJ) [] .leaf) (.fin none (some D0) (some dJ) [] .leaf)) (.nd (.nd (.fin none none (some dJ) [] .leaf) (.fin none none (some dJ) [] .leaf)) (.nd (.fin none none (some dJ) [] .leaf) (.fin none none (some dJ) [] .leaf)))))))))))))))
theorem cN1 (s:FState) (cx:Cx β):FX (UK n q91 aB aC aD aA) n VA cN8 s cx=GZ n q91 aB aC aD aA s cx:=by kernel_rfl
theorem bS6 (h91:Fit Tryd.prog 91 (aP iC fI q91)) (h110:Fit Tryd.prog 110 (aP eR cY aB)) (h114:Fit Tryd.prog 114 (aP eT dK aC)) (h136:Fit Tryd.prog 136 (aP eS dI aD)) (h143:Fit Tryd.prog 143 (aP eJ dX aA)):Fit Tryd.prog 110 (aP eR cY (aX8 n q91 aB aC aD aA)):=
  cH (Γ:=Γ0) (l:=dV3 n q91 aB aC aD aA) (n:=n) (sk:=cN8) (ts:=[(8,none)]) (fn:=Tryd.f110) (c:=VA) (by kernel_rfl) (by kernel_rfl) (by unfold aS;kernel_rfl) cF ⟨J8 n,F2 n,LB n,ZA n,h91,h110,h114,h136,h143,trivial⟩ aN (by kernel_rfl) (by kernel_rfl) (Nat.le_of_ble_eq_true (by kernel_rfl)) (Nat.le_of_ble_eq_true (by kernel_rfl)) (by kernel_rfl) (by kernel_rfl)
    (fun d=>(cN1 n q91 aB aC aD aA _ _).trans (Eq.trans (b:=GZ n q91 aB aC aD aA (WY d.1 d.2.1 d.2.2.1 d.2.2.2.1) (cN (UK n q91 aB aC aD aA) cY [(8,none)])) (by kernel_rfl) ((bU2 n q91 aB aC aD aA _ d.1 d.2.1 d.2.2.1 d.2.2.2.1).trans (by kernel_rfl))))
def SG (C:Z11) (B L:List Int):FState:=⟨aI [(0,.ptr 0 0 0),(1,.sl 1 none false),(2,.sl 2 none false)],aE [(0,.row Z1 106 false [C]),(1,.row (.int .i32) 21 false B),(2,.row (.int .i32) 21 false L)]⟩
def dZ (y:List Z26):FState:=⟨aI [(6,.sl 6 none false)],aE [(6,.row Z22 115 true y)]⟩
def iR:List NE:=[.row 6 Z22 115 true]
def tN (C:Z11) (B L:List Int) (E G F I H:Int) (Q S:List Int) (bd ax:Int):FState:=⟨aI [(0,.ptr 0 0 0),(1,.sl 1 none false),(2,.sl 2 none false),(7,.dat (.int .i64) E),(8,.dat (.int .i64) G),(9,.dat (.int .i64) F),(10,.dat (.int .i64) I),(11,.dat (.int .i64) H),(12,.sl 12 none false),(13,.sl 13 none false),(52,.dat (.int .i64) bd),(53,.dat (.int .i64) ax)],aE [(0,.row Z1 106 false [C]),(1,.row (.int .i32) 21 false B),(2,.row (.int .i32) 21 false L),(12,.row (.int .i64) 3 true Q),(13,.row (.int .i64) 3 true S)]⟩
def AP:List NE:=[.ptr 0 Z1 106 false,.row 1 (.int .i32) 21 false,.row 2 (.int .i32) 21 false,.keep 7,.keep 8,.keep 9,.keep 10,.keep 11,.row 12 (.int .i64) 3 true,.row 13 (.int .i64) 3 true,.keep 52,.keep 53]
def zA (C:Z11) (B L:List Int) (E G F I H:Int) (Q S:List Int):FState:=⟨aI [(0,.ptr 0 0 0),(1,.sl 1 none false),(2,.sl 2 none false),(7,.dat (.int .i64) E),(8,.dat (.int .i64) G),(9,.dat (.int .i64) F),(10,.dat (.int .i64) I),(11,.dat (.int .i64) H),(12,.sl 12 none false),(13,.sl 13 none false)],aE [(0,.row Z1 106 false [C]),(1,.row (.int .i32) 21 false B),(2,.row (.int .i32) 21 false L),(12,.row (.int .i64) 3 true Q),(13,.row (.int .i64) 3 true S)]⟩
def sF:List NE:=[.ptr 0 Z1 106 false,.row 1 (.int .i32) 21 false,.row 2 (.int .i32) 21 false,.keep 7,.keep 8,.keep 9,.keep 10,.keep 11,.row 12 (.int .i64) 3 true,.row 13 (.int .i64) 3 true]
def dE (C:Z11) (B L:List Int) (E G F I H:Int) (Q S:List Int) (U:Int) (Z:Bool) (o P O p h:Int):FState:=⟨aI [(0,.ptr 0 0 0),(1,.sl 1 none false),(2,.sl 2 none false),(7,.dat (.int .i64) E),(8,.dat (.int .i64) G),(9,.dat (.int .i64) F),(10,.dat (.int .i64) I),(11,.dat (.int .i64) H),(12,.sl 12 none false),(13,.sl 13 none false),(15,.dat (.int .i64) U),(16,.dat .bool Z),(17,.dat (.int .i64) o),(18,.dat (.int .i64) P),(19,.dat (.int .i64) O),(20,.dat (.int .i64) p),(21,.dat (.int .i64) h)],aE [(0,.row Z1 106 false [C]),(1,.row (.int .i32) 21 false B),(2,.row (.int .i32) 21 false L),(12,.row (.int .i64) 3 true Q),(13,.row (.int .i64) 3 true S)]⟩
def iD:List NE:=[.ptr 0 Z1 106 false,.row 1 (.int .i32) 21 false,.row 2 (.int .i32) 21 false,.keep 7,.keep 8,.keep 9,.keep 10,.keep 11,.row 12 (.int .i64) 3 true,.row 13 (.int .i64) 3 true,.keep 15,.keep 16,.keep 17,.keep 18,.keep 19,.keep 20,.keep 21]
def tT (B L:List Int):FState:=⟨aI [(1,.sl 1 none false),(2,.sl 2 none false)],aE [(1,.row (.int .i32) 21 false B),(2,.row (.int .i32) 21 false L)]⟩
def KI:List NE:=[.row 1 (.int .i32) 21 false,.row 2 (.int .i32) 21 false]
def gL (C:Z11) (B L:List Int) (E G F I H:Int) (Q S:List Int) (U:Int) (Z:Bool) (o P O p h ab:Int):FState:=⟨aI [(0,.ptr 0 0 0),(1,.sl 1 none false),(2,.sl 2 none false),(7,.dat (.int .i64) E),(8,.dat (.int .i64) G),(9,.dat (.int .i64) F),(10,.dat (.int .i64) I),(11,.dat (.int .i64) H),(12,.sl 12 none false),(13,.sl 13 none false),(15,.dat (.int .i64) U),(16,.dat .bool Z),(17,.dat (.int .i64) o),(18,.dat (.int .i64) P),(19,.dat (.int .i64) O),(20,.dat (.int .i64) p),(21,.dat (.int .i64) h),(22,.dat (.int .i64) ab)],aE [(0,.row Z1 106 false [C]),(1,.row (.int .i32) 21 false B),(2,.row (.int .i32) 21 false L),(12,.row (.int .i64) 3 true Q),(13,.row (.int .i64) 3 true S)]⟩
def lS:List NE:=[.ptr 0 Z1 106 false,.row 1 (.int .i32) 21 false,.row 2 (.int .i32) 21 false,.keep 7,.keep 8,.keep 9,.keep 10,.keep 11,.row 12 (.int .i64) 3 true,.row 13 (.int .i64) 3 true,.keep 15,.keep 16,.keep 17,.keep 18,.keep 19,.keep 20,.keep 21,.keep 22]
def P6 (C:Z11) (B L:List Int) (E G F I H:Int) (Q S:List Int) (U:Int) (Z:Bool) (o P O p h ab an am:Int):FState:=⟨aI [(0,.ptr 0 0 0),(1,.sl 1 none false),(2,.sl 2 none false),(7,.dat (.int .i64) E),(8,.dat (.int .i64) G),(9,.dat (.int .i64) F),(10,.dat (.int .i64) I),(11,.dat (.int .i64) H),(12,.sl 12 none false),(13,.sl 13 none false),(15,.dat (.int .i64) U),(16,.dat .bool Z),(17,.dat (.int .i64) o),(18,.dat (.int .i64) P),(19,.dat (.int .i64) O),(20,.dat (.int .i64) p),(21,.dat (.int .i64) h),(22,.dat (.int .i64) ab),(23,.dat (.int .i64) an),(24,.dat (.int .i64) am)],aE [(0,.row Z1 106 false [C]),(1,.row (.int .i32) 21 false B),(2,.row (.int .i32) 21 false L),(12,.row (.int .i64) 3 true Q),(13,.row (.int .i64) 3 true S)]⟩
def OY:List NE:=[.ptr 0 Z1 106 false,.row 1 (.int .i32) 21 false,.row 2 (.int .i32) 21 false,.keep 7,.keep 8,.keep 9,.keep 10,.keep 11,.row 12 (.int .i64) 3 true,.row 13 (.int .i64) 3 true,.keep 15,.keep 16,.keep 17,.keep 18,.keep 19,.keep 20,.keep 21,.keep 22,.keep 23,.keep 24]
def iT (C:Z11) (B L:List Int) (E G F I H:Int) (Q S:List Int) (U:Int) (Z:Bool) (o P O p h ab an am au:Int):FState:=⟨aI [(0,.ptr 0 0 0),(1,.sl 1 none false),(2,.sl 2 none false),(7,.dat (.int .i64) E),(8,.dat (.int .i64) G),(9,.dat (.int .i64) F),(10,.dat (.int .i64) I),(11,.dat (.int .i64) H),(12,.sl 12 none false),(13,.sl 13 none false),(15,.dat (.int .i64) U),(16,.dat .bool Z),(17,.dat (.int .i64) o),(18,.dat (.int .i64) P),(19,.dat (.int .i64) O),(20,.dat (.int .i64) p),(21,.dat (.int .i64) h),(22,.dat (.int .i64) ab),(23,.dat (.int .i64) an),(24,.dat (.int .i64) am),(25,.dat (.int .i64) au)],aE [(0,.row Z1 106 false [C]),(1,.row (.int .i32) 21 false B),(2,.row (.int .i32) 21 false L),(12,.row (.int .i64) 3 true Q),(13,.row (.int .i64) 3 true S)]⟩
def jX:List NE:=[.ptr 0 Z1 106 false,.row 1 (.int .i32) 21 false,.row 2 (.int .i32) 21 false,.keep 7,.keep 8,.keep 9,.keep 10,.keep 11,.row 12 (.int .i64) 3 true,.row 13 (.int .i64) 3 true,.keep 15,.keep 16,.keep 17,.keep 18,.keep 19,.keep 20,.keep 21,.keep 22,.keep 23,.keep 24,.keep 25]
def eV (C:Z11) (B L:List Int) (E G F I H:Int) (Q S:List Int) (U:Int) (Z:Bool) (o P O p h aa:Int):FState:=⟨aI [(0,.ptr 0 0 0),(1,.sl 1 none false),(2,.sl 2 none false),(7,.dat (.int .i64) E),(8,.dat (.int .i64) G),(9,.dat (.int .i64) F),(10,.dat (.int .i64) I),(11,.dat (.int .i64) H),(12,.sl 12 none false),(13,.sl 13 none false),(15,.dat (.int .i64) U),(16,.dat .bool Z),(17,.dat (.int .i64) o),(18,.dat (.int .i64) P),(19,.dat (.int .i64) O),(20,.dat (.int .i64) p),(21,.dat (.int .i64) h),(28,.dat (.int .i64) aa)],aE [(0,.row Z1 106 false [C]),(1,.row (.int .i32) 21 false B),(2,.row (.int .i32) 21 false L),(12,.row (.int .i64) 3 true Q),(13,.row (.int .i64) 3 true S)]⟩
def jQ:List NE:=[.ptr 0 Z1 106 false,.row 1 (.int .i32) 21 false,.row 2 (.int .i32) 21 false,.keep 7,.keep 8,.keep 9,.keep 10,.keep 11,.row 12 (.int .i64) 3 true,.row 13 (.int .i64) 3 true,.keep 15,.keep 16,.keep 17,.keep 18,.keep 19,.keep 20,.keep 21,.keep 28]
def M0 (C:Z11) (B L:List Int) (E G F I H:Int) (Q S:List Int) (U:Int) (Z:Bool) (o P O p h aa ao ah:Int):FState:=⟨aI [(0,.ptr 0 0 0),(1,.sl 1 none false),(2,.sl 2 none false),(7,.dat (.int .i64) E),(8,.dat (.int .i64) G),(9,.dat (.int .i64) F),(10,.dat (.int .i64) I),(11,.dat (.int .i64) H),(12,.sl 12 none false),(13,.sl 13 none false),(15,.dat (.int .i64) U),(16,.dat .bool Z),(17,.dat (.int .i64) o),(18,.dat (.int .i64) P),(19,.dat (.int .i64) O),(20,.dat (.int .i64) p),(21,.dat (.int .i64) h),(28,.dat (.int .i64) aa),(29,.dat (.int .i64) ao),(30,.dat (.int .i64) ah)],aE [(0,.row Z1 106 false [C]),(1,.row (.int .i32) 21 false B),(2,.row (.int .i32) 21 false L),(12,.row (.int .i64) 3 true Q),(13,.row (.int .i64) 3 true S)]⟩
def PO:List NE:=[.ptr 0 Z1 106 false,.row 1 (.int .i32) 21 false,.row 2 (.int .i32) 21 false,.keep 7,.keep 8,.keep 9,.keep 10,.keep 11,.row 12 (.int .i64) 3 true,.row 13 (.int .i64) 3 true,.keep 15,.keep 16,.keep 17,.keep 18,.keep 19,.keep 20,.keep 21,.keep 28,.keep 29,.keep 30]
def iW (C:Z11) (B L:List Int) (E G F I H:Int) (Q S:List Int) (U:Int) (Z:Bool) (o P O p h aa ao ah ai:Int):FState:=⟨aI [(0,.ptr 0 0 0),(1,.sl 1 none false),(2,.sl 2 none false),(7,.dat (.int .i64) E),(8,.dat (.int .i64) G),(9,.dat (.int .i64) F),(10,.dat (.int .i64) I),(11,.dat (.int .i64) H),(12,.sl 12 none false),(13,.sl 13 none false),(15,.dat (.int .i64) U),(16,.dat .bool Z),(17,.dat (.int .i64) o),(18,.dat (.int .i64) P),(19,.dat (.int .i64) O),(20,.dat (.int .i64) p),(21,.dat (.int .i64) h),(28,.dat (.int .i64) aa),(29,.dat (.int .i64) ao),(30,.dat (.int .i64) ah),(31,.dat (.int .i64) ai)],aE [(0,.row Z1 106 false [C]),(1,.row (.int .i32) 21 false B),(2,.row (.int .i32) 21 false L),(12,.row (.int .i64) 3 true Q),(13,.row (.int .i64) 3 true S)]⟩
def jT:List NE:=[.ptr 0 Z1 106 false,.row 1 (.int .i32) 21 false,.row 2 (.int .i32) 21 false,.keep 7,.keep 8,.keep 9,.keep 10,.keep 11,.row 12 (.int .i64) 3 true,.row 13 (.int .i64) 3 true,.keep 15,.keep 16,.keep 17,.keep 18,.keep 19,.keep 20,.keep 21,.keep 28,.keep 29,.keep 30,.keep 31]
def cR4 (n:Nat) (q91:Q91) (aB:aL) (aC:aK) (aD:aJ) (aA:aM):List (Nat×Spec):=[(91,aP iC fI q91),(110,aP eR cY aB),(114,aP eT dK aC),(136,aP eS dI aD),(143,aP eJ dX aA)]
def fS:Ctx:={Γ0 with calls:=lkS (cR4 n q91 aB aC aD aA)}
def fQ:Code:=fb Tryd.f114
def aR5 (n:Nat) (q91:Q91) (aB:aL) (aC:aK) (aD:aJ) (aA:aM) (kn:Z11→List Int→List Int→Int→Int→Int→Int→Int→List Int→List Int→Int→Int→Option β) (C:Z11) (B L:List Int):Option β:=bnd 0 (w64 ((2:Int) * (w64 ((w64 ((w64 ((B.length:Int)+(L.length:Int)))+(1:Int))).tdiv (2:Int))))) (w64 ((2:Int) * (w64 ((w64 ((w64 ((B.length:Int)+(L.length:Int)))+(1:Int))).tdiv (2:Int)))))<|vK (w64 ((2:Int) * (w64 ((w64 ((w64 ((B.length:Int)+(L.length:Int)))+(1:Int))).tdiv (2:Int)))))<|bnd 0 (w64 ((2:Int) * (w64 ((w64 ((w64 ((B.length:Int)+(L.length:Int)))+(1:Int))).tdiv (2:Int))))) (w64 ((2:Int) * (w64 ((w64 ((w64 ((B.length:Int)+(L.length:Int)))+(1:Int))).tdiv (2:Int)))))<|vK (w64 ((2:Int) * (w64 ((w64 ((w64 ((B.length:Int)+(L.length:Int)))+(1:Int))).tdiv (2:Int)))))<|kn C B L (B.length:Int) (L.length:Int) (w64 ((w64 ((w64 ((B.length:Int)+(L.length:Int)))+(1:Int))).tdiv (2:Int))) (w64 ((w64 ((w64 ((B.length:Int)+(L.length:Int)))+(1:Int))).tdiv (2:Int))) (w64 ((2:Int) * (w64 ((w64 ((w64 ((B.length:Int)+(L.length:Int)))+(1:Int))).tdiv (2:Int))))) (List.replicate (w64 ((2:Int) * (w64 ((w64 ((w64 ((B.length:Int)+(L.length:Int)))+(1:Int))).tdiv (2:Int))))).toNat (0:Int)) (List.replicate (w64 ((2:Int) * (w64 ((w64 ((w64 ((B.length:Int)+(L.length:Int)))+(1:Int))).tdiv (2:Int))))).toNat (0:Int)) ((List.replicate (w64 ((2:Int) * (w64 ((w64 ((w64 ((B.length:Int)+(L.length:Int)))+(1:Int))).tdiv (2:Int))))).toNat (0:Int)).length:Int) (0:Int)
def bE2:FS1 β:=FXs (fS n q91 aB aC aD aA) n fQ (some AP) none [] [2,6,14,30,62,126,254,1020]
theorem cG6 (C:Z11) (B L:List Int):bE2 n q91 aB aC aD aA (SG C B L) cx=aR5 n q91 aB aC aD aA (fun C B L E G F I H Q S bd ax=>cx.nrm (tN C B L E G F I H Q S bd ax)) C B L:=by kernel_rfl
def WS (n:Nat) (q91:Q91) (aB:aL) (aC:aK) (aD:aJ) (aA:aM) (kn:Z11→List Int→List Int→Int→Int→Int→Int→Int→List Int→List Int→Int→Int→Option β) (ae:Z11→List Int→List Int→Int→Int→Int→Int→Int→List Int→List Int→Option β) (C:Z11) (B L:List Int) (E G F I H:Int) (Q S:List Int) (bd ax:Int):Option β:=bif (decide (ax < bd)) then (idx ax (Q.length:Int)<|idx ax (S.length:Int)<|kn C B L E G F I H (Q.set ax.toNat (-1:Int)) (S.set ax.toNat (-1:Int)) bd (w64 (ax+1))) else (ae C B L E G F I H Q S)
def RR:FS1 β:=FXs (fS n q91 aB aC aD aA) n fQ (some AP) none [(0,sF)] [8168,16338,32678,32679]
theorem bX6 (C:Z11) (B L:List Int) (E G F I H:Int) (Q S:List Int) (bd ax:Int):RR n q91 aB aC aD aA (tN C B L E G F I H Q S bd ax) cx=WS n q91 aB aC aD aA (fun C B L E G F I H Q S bd ax=>cx.nrm (tN C B L E G F I H Q S bd ax)) (fun C B L E G F I H Q S=>cx.ex 0 (zA C B L E G F I H Q S)) C B L E G F I H Q S bd ax:=by kernel_rfl
def g114_3L (n:Nat) (q91:Q91) (aB:aL) (aC:aK) (aD:aJ) (aA:aM) (ae:Z11→List Int→List Int→Int→Int→Int→Int→Int→List Int→List Int→Option β):Nat→Z11→List Int→List Int→Int→Int→Int→Int→Int→List Int→List Int→Int→Int→Option β
  | 0,_,_,_,_,_,_,_,_,_,_,_,_=>none
  | m+1,C,B,L,E,G,F,I,H,Q,S,bd,ax=>WS n q91 aB aC aD aA (g114_3L n q91 aB aC aD aA ae m) ae C B L E G F I H Q S bd ax
def aL5 (ae:Z11→List Int→List Int→Int→Int→Int→Int→Int→List Int→List Int→Option β) (C:Z11) (B L:List Int) (E G F I H:Int) (Q S:List Int) (bd ax:Int):Option β:=g114_3L n q91 aB aC aD aA ae n C B L E G F I H Q S bd ax
def aZ9 (s:FState) (cx:Cx β):Option β:=bQ (fun again s=>RR n q91 aB aC aD aA s {cx with nrm:=again}) n s
theorem aR7 (n:Nat) (q91:Q91) (aB:aL) (aC:aK) (aD:aJ) (aA:aM) (cx:Cx β):∀(m:Nat) (C:Z11) (B L:List Int) (E G F I H:Int) (Q S:List Int) (bd ax:Int),bQ (fun again s=>RR n q91 aB aC aD aA s {cx with nrm:=again}) m (tN C B L E G F I H Q S bd ax)=g114_3L n q91 aB aC aD aA (fun C B L E G F I H Q S=>cx.ex 0 (zA C B L E G F I H Q S)) m C B L E G F I H Q S bd ax:=by
  intro m
  induction m with
  | zero=>intros;rfl
  | succ m ih=>intros;simp only [bQ,g114_3L,bX6,ih]
theorem cF2 (C:Z11) (B L:List Int) (E G F I H:Int) (Q S:List Int) (bd ax:Int):aZ9 n q91 aB aC aD aA (tN C B L E G F I H Q S bd ax) cx=aL5 n q91 aB aC aD aA (fun C B L E G F I H Q S=>cx.ex 0 (zA C B L E G F I H Q S)) C B L E G F I H Q S bd ax:=aR7 n q91 aB aC aD aA cx n C B L E G F I H Q S bd ax
def X3 (kn:Z11→List Int→List Int→Int→Int→Int→Int→Int→List Int→List Int→Option β) (C:Z11) (B L:List Int) (E G F I H:Int) (Q S:List Int) (bd ax:Int):Option β:=aL5 n q91 aB aC aD aA kn C B L E G F I H Q S bd ax
def bP1 (s:FState) (cx:Cx β):Option β:=aZ9 n q91 aB aC aD aA s {cx with ex:=fun j s=>bif Nat.beq j 0 then cx.nrm s else cx.ex j s}
theorem cI4 (C:Z11) (B L:List Int) (E G F I H:Int) (Q S:List Int) (bd ax:Int):bP1 n q91 aB aC aD aA (tN C B L E G F I H Q S bd ax) cx=X3 n q91 aB aC aD aA (fun C B L E G F I H Q S=>cx.nrm (zA C B L E G F I H Q S)) C B L E G F I H Q S bd ax:=cF2 n q91 aB aC aD aA _ C B L E G F I H Q S bd ax
def TJ (n:Nat) (q91:Q91) (aB:aL) (aC:aK) (aD:aJ) (aA:aM) (kn:Z11→List Int→List Int→Int→Int→Int→Int→Int→List Int→List Int→Int→Bool→Int→Int→Int→Int→Int→Option β) (C:Z11) (B L:List Int) (E G F I H:Int) (Q S:List Int):Option β:=idx (w64 (I+1)) (Q.length:Int)<|idx (w64 (I+1)) (S.length:Int)<|kn C B L E G F I H (Q.set (w64 (I+1)).toNat (0:Int)) (S.set (w64 (I+1)).toNat (0:Int)) (w64 (E - G)) (((w64 (E - G)).tmod (2:Int))!=(0:Int)) (0:Int) (0:Int) (0:Int) (0:Int) (0:Int)
def aY9:FS1 β:=FXs (fS n q91 aB aC aD aA) n fQ (some iD) none [] [1022,2046,4094,8190,16382,32766,65534,131070,524284]
theorem bW6 (C:Z11) (B L:List Int) (E G F I H:Int) (Q S:List Int):aY9 n q91 aB aC aD aA (zA C B L E G F I H Q S) cx=TJ n q91 aB aC aD aA (fun C B L E G F I H Q S U Z o P O p h=>cx.nrm (dE C B L E G F I H Q S U Z o P O p h)) C B L E G F I H Q S:=by kernel_rfl
def V4 (n:Nat) (q91:Q91) (aB:aL) (aC:aK) (aD:aJ) (aA:aM) (kn:Z11→List Int→List Int→Int→Int→Int→Int→Int→List Int→List Int→Int→Bool→Int→Int→Int→Int→Int→Option β) (ap:List Int→List Int→Option β) (C:Z11) (B L:List Int) (E G F I H:Int) (Q S:List Int) (U:Int) (Z:Bool) (o P O p h:Int):Option β:=bif (decide (h < F)) then (kn C B L E G F I H Q S U Z o P O p h) else (ap B L)
def aX7:FS1 β:=FXs (fS n q91 aB aC aD aA) n fQ (some iD) none [(2,KI)] [8388560,8388561]
theorem cJ9 (C:Z11) (B L:List Int) (E G F I H:Int) (Q S:List Int) (U:Int) (Z:Bool) (o P O p h:Int):aX7 n q91 aB aC aD aA (dE C B L E G F I H Q S U Z o P O p h) cx=V4 n q91 aB aC aD aA (fun C B L E G F I H Q S U Z o P O p h=>cx.nrm (dE C B L E G F I H Q S U Z o P O p h)) (fun B L=>cx.ex 2 (tT B L)) C B L E G F I H Q S U Z o P O p h:=by kernel_rfl
def p6 (n:Nat) (q91:Q91) (aB:aL) (aC:aK) (aD:aJ) (aA:aM) (kn:Z11→List Int→List Int→Int→Int→Int→Int→Int→List Int→List Int→Int→Bool→Int→Int→Int→Int→Int→Int→Option β) (C:Z11) (B L:List Int) (E G F I H:Int) (Q S:List Int) (U:Int) (Z:Bool) (o P O p h:Int):Option β:=kn C B L E G F I H Q S U Z o P O p h (w64 ((w64 (0 - h))+o))
def bK1:FS1 β:=FXs (fS n q91 aB aC aD aA) n fQ (some lS) none [] [67108496]
theorem bT3 (C:Z11) (B L:List Int) (E G F I H:Int) (Q S:List Int) (U:Int) (Z:Bool) (o P O p h:Int):bK1 n q91 aB aC aD aA (dE C B L E G F I H Q S U Z o P O p h) cx=p6 n q91 aB aC aD aA (fun C B L E G F I H Q S U Z o P O p h ab=>cx.nrm (gL C B L E G F I H Q S U Z o P O p h ab)) C B L E G F I H Q S U Z o P O p h:=by kernel_rfl
def aI0 (n:Nat) (q91:Q91) (aB:aL) (aC:aK) (aD:aJ) (aA:aM) (kn:Z11→List Int→List Int→Int→Int→Int→Int→Int→List Int→List Int→Int→Bool→Int→Int→Int→Int→Int→Int→Option β) (bm:Z11→List Int→List Int→Int→Int→Int→Int→Int→List Int→List Int→Int→Bool→Int→Int→Int→Int→Int→Option β) (C:Z11) (B L:List Int) (E G F I H:Int) (Q S:List Int) (U:Int) (Z:Bool) (o P O p h ab:Int):Option β:=bif (decide (ab≤(w64 (h - P)))) then (kn C B L E G F I H Q S U Z o P O p h ab) else (bm C B L E G F I H Q S U Z o P O p h)
def bB9:FS1 β:=FXs (fS n q91 aB aC aD aA) n fQ (some lS) none [(4,iD)] [1073735952,1073735953]
theorem cF7 (C:Z11) (B L:List Int) (E G F I H:Int) (Q S:List Int) (U:Int) (Z:Bool) (o P O p h ab:Int):bB9 n q91 aB aC aD aA (gL C B L E G F I H Q S U Z o P O p h ab) cx=aI0 n q91 aB aC aD aA (fun C B L E G F I H Q S U Z o P O p h ab=>cx.nrm (gL C B L E G F I H Q S U Z o P O p h ab)) (fun C B L E G F I H Q S U Z o P O p h=>cx.ex 4 (dE C B L E G F I H Q S U Z o P O p h)) C B L E G F I H Q S U Z o P O p h ab:=by kernel_rfl
def XM (n:Nat) (q91:Q91) (aB:aL) (aC:aK) (aD:aJ) (aA:aM) (kn:Z11→List Int→List Int→Int→Int→Int→Int→Int→List Int→List Int→Int→Bool→Int→Int→Int→Int→Int→Int→Int→Int→Option β) (C:Z11) (B L:List Int) (E G F I H:Int) (Q S:List Int) (U:Int) (Z:Bool) (o P O p h ab:Int):Option β:=bif (ab==(w64 (0 - h))) then (idx (w64 ((w64 (I+ab))+(1:Int))) (Q.length:Int)<|kn C B L E G F I H Q S U Z o P O p h ab (w64 (I+ab)) (rd Q (w64 ((w64 (I+ab))+(1:Int))) (0:Int))) else (bif (ab !=h) then (idx (w64 ((w64 (I+ab)) - (1:Int))) (Q.length:Int)<|idx (w64 ((w64 (I+ab))+(1:Int))) (Q.length:Int)<|bif (decide ((rd Q (w64 ((w64 (I+ab)) - (1:Int))) (0:Int)) < (rd Q (w64 ((w64 (I+ab))+(1:Int))) (0:Int)))) then (idx (w64 ((w64 (I+ab))+(1:Int))) (Q.length:Int)<|kn C B L E G F I H Q S U Z o P O p h ab (w64 (I+ab)) (rd Q (w64 ((w64 (I+ab))+(1:Int))) (0:Int))) else (idx (w64 ((w64 (I+ab)) - (1:Int))) (Q.length:Int)<|kn C B L E G F I H Q S U Z o P O p h ab (w64 (I+ab)) (w64 ((rd Q (w64 ((w64 (I+ab)) - (1:Int))) (0:Int))+(1:Int))))) else (idx (w64 ((w64 (I+ab)) - (1:Int))) (Q.length:Int)<|kn C B L E G F I H Q S U Z o P O p h ab (w64 (I+ab)) (w64 ((rd Q (w64 ((w64 (I+ab)) - (1:Int))) (0:Int))+(1:Int)))))
def bD9:FS1 β:=FXs (fS n q91 aB aC aD aA) n fQ (some OY) none [] [4294943816,8589887634,34359550540,34359550541]
theorem bW3 (C:Z11) (B L:List Int) (E G F I H:Int) (Q S:List Int) (U:Int) (Z:Bool) (o P O p h ab:Int):bD9 n q91 aB aC aD aA (gL C B L E G F I H Q S U Z o P O p h ab) cx=XM n q91 aB aC aD aA (fun C B L E G F I H Q S U Z o P O p h ab an am=>cx.nrm (P6 C B L E G F I H Q S U Z o P O p h ab an am)) C B L E G F I H Q S U Z o P O p h ab:=by kernel_rfl
def TE (n:Nat) (q91:Q91) (aB:aL) (aC:aK) (aD:aJ) (aA:aM) (kn:Z11→List Int→List Int→Int→Int→Int→Int→Int→List Int→List Int→Int→Bool→Int→Int→Int→Int→Int→Int→Int→Int→Int→Option β) (C:Z11) (B L:List Int) (E G F I H:Int) (Q S:List Int) (U:Int) (Z:Bool) (o P O p h ab an am:Int):Option β:=kn C B L E G F I H Q S U Z o P O p h ab an am (w64 (am - ab))
def K6:FS1 β:=FXs (fS n q91 aB aC aD aA) n fQ (some jX) none [] [34359550542]
theorem aF3 (C:Z11) (B L:List Int) (E G F I H:Int) (Q S:List Int) (U:Int) (Z:Bool) (o P O p h ab an am:Int):K6 n q91 aB aC aD aA (P6 C B L E G F I H Q S U Z o P O p h ab an am) cx=TE n q91 aB aC aD aA (fun C B L E G F I H Q S U Z o P O p h ab an am au=>cx.nrm (iT C B L E G F I H Q S U Z o P O p h ab an am au)) C B L E G F I H Q S U Z o P O p h ab an am:=by kernel_rfl
def GX (n:Nat) (q91:Q91) (aB:aL) (aC:aK) (aD:aJ) (aA:aM) (kn bn:Z11→List Int→List Int→Int→Int→Int→Int→Int→List Int→List Int→Int→Bool→Int→Int→Int→Int→Int→Int→Int→Int→Int→Option β) (C:Z11) (B L:List Int) (E G F I H:Int) (Q S:List Int) (U:Int) (Z:Bool) (o P O p h ab an am au:Int):Option β:=bif (decide (am < E)) then (bif (decide (au < G)) then (idx am (B.length:Int)<|idx au (L.length:Int)<|bif ((rd B am (0:Int))!=(rd L au (0:Int))) then (bn C B L E G F I H Q S U Z o P O p h ab an am au) else (kn C B L E G F I H Q S U Z o P O p h ab an (w64 (am+1)) (w64 (au+1)))) else (bn C B L E G F I H Q S U Z o P O p h ab an am au)) else (bn C B L E G F I H Q S U Z o P O p h ab an am au)
def MC:FS1 β:=FXs (fS n q91 aB aC aD aA) n fQ (some jX) none [(6,jX)] [1099505617376,1099505617377,549752808689]
theorem W5 (C:Z11) (B L:List Int) (E G F I H:Int) (Q S:List Int) (U:Int) (Z:Bool) (o P O p h ab an am au:Int):MC n q91 aB aC aD aA (iT C B L E G F I H Q S U Z o P O p h ab an am au) cx=GX n q91 aB aC aD aA (fun C B L E G F I H Q S U Z o P O p h ab an am au=>cx.nrm (iT C B L E G F I H Q S U Z o P O p h ab an am au)) (fun C B L E G F I H Q S U Z o P O p h ab an am au=>cx.ex 6 (iT C B L E G F I H Q S U Z o P O p h ab an am au)) C B L E G F I H Q S U Z o P O p h ab an am au:=by kernel_rfl
def g114_12L (n:Nat) (q91:Q91) (aB:aL) (aC:aK) (aD:aJ) (aA:aM) (bn:Z11→List Int→List Int→Int→Int→Int→Int→Int→List Int→List Int→Int→Bool→Int→Int→Int→Int→Int→Int→Int→Int→Int→Option β):Nat→Z11→List Int→List Int→Int→Int→Int→Int→Int→List Int→List Int→Int→Bool→Int→Int→Int→Int→Int→Int→Int→Int→Int→Option β
  | 0,_,_,_,_,_,_,_,_,_,_,_,_,_,_,_,_,_,_,_,_,_=>none
  | m+1,C,B,L,E,G,F,I,H,Q,S,U,Z,o,P,O,p,h,ab,an,am,au=>GX n q91 aB aC aD aA (g114_12L n q91 aB aC aD aA bn m) bn C B L E G F I H Q S U Z o P O p h ab an am au
def SZ (bn:Z11→List Int→List Int→Int→Int→Int→Int→Int→List Int→List Int→Int→Bool→Int→Int→Int→Int→Int→Int→Int→Int→Int→Option β) (C:Z11) (B L:List Int) (E G F I H:Int) (Q S:List Int) (U:Int) (Z:Bool) (o P O p h ab an am au:Int):Option β:=g114_12L n q91 aB aC aD aA bn n C B L E G F I H Q S U Z o P O p h ab an am au
def B9 (s:FState) (cx:Cx β):Option β:=bQ (fun again s=>MC n q91 aB aC aD aA s {cx with nrm:=again}) n s
theorem Q1 (n:Nat) (q91:Q91) (aB:aL) (aC:aK) (aD:aJ) (aA:aM) (cx:Cx β):∀(m:Nat) (C:Z11) (B L:List Int) (E G F I H:Int) (Q S:List Int) (U:Int) (Z:Bool) (o P O p h ab an am au:Int),bQ (fun again s=>MC n q91 aB aC aD aA s {cx with nrm:=again}) m (iT C B L E G F I H Q S U Z o P O p h ab an am au)=g114_12L n q91 aB aC aD aA (fun C B L E G F I H Q S U Z o P O p h ab an am au=>cx.ex 6 (iT C B L E G F I H Q S U Z o P O p h ab an am au)) m C B L E G F I H Q S U Z o P O p h ab an am au:=by
  intro m
  induction m with
  | zero=>intros;rfl
  | succ m ih=>intros;simp only [bQ,g114_12L,W5,ih]
theorem U3 (C:Z11) (B L:List Int) (E G F I H:Int) (Q S:List Int) (U:Int) (Z:Bool) (o P O p h ab an am au:Int):B9 n q91 aB aC aD aA (iT C B L E G F I H Q S U Z o P O p h ab an am au) cx=SZ n q91 aB aC aD aA (fun C B L E G F I H Q S U Z o P O p h ab an am au=>cx.ex 6 (iT C B L E G F I H Q S U Z o P O p h ab an am au)) C B L E G F I H Q S U Z o P O p h ab an am au:=Q1 n q91 aB aC aD aA cx n C B L E G F I H Q S U Z o P O p h ab an am au
def SW (kn:Z11→List Int→List Int→Int→Int→Int→Int→Int→List Int→List Int→Int→Bool→Int→Int→Int→Int→Int→Int→Int→Int→Int→Option β) (C:Z11) (B L:List Int) (E G F I H:Int) (Q S:List Int) (U:Int) (Z:Bool) (o P O p h ab an am au:Int):Option β:=SZ n q91 aB aC aD aA kn C B L E G F I H Q S U Z o P O p h ab an am au
def ZL (s:FState) (cx:Cx β):Option β:=B9 n q91 aB aC aD aA s {cx with ex:=fun j s=>bif Nat.beq j 6 then cx.nrm s else cx.ex j s}
theorem aO0 (C:Z11) (B L:List Int) (E G F I H:Int) (Q S:List Int) (U:Int) (Z:Bool) (o P O p h ab an am au:Int):ZL n q91 aB aC aD aA (iT C B L E G F I H Q S U Z o P O p h ab an am au) cx=SW n q91 aB aC aD aA (fun C B L E G F I H Q S U Z o P O p h ab an am au=>cx.nrm (iT C B L E G F I H Q S U Z o P O p h ab an am au)) C B L E G F I H Q S U Z o P O p h ab an am au:=U3 n q91 aB aC aD aA _ C B L E G F I H Q S U Z o P O p h ab an am au
def zK (n:Nat) (q91:Q91) (aB:aL) (aC:aK) (aD:aJ) (aA:aM) (kn:Z11→List Int→List Int→Int→Int→Int→Int→Int→List Int→List Int→Int→Bool→Int→Int→Int→Int→Int→Int→Option β) (kr:List Z26→Option β) (C:Z11) (B L:List Int) (E G F I H:Int) (Q S:List Int) (U:Int) (Z:Bool) (o P O p h ab an am au:Int):Option β:=idx an (Q.length:Int)<|bif (decide (am>E)) then (kn C B L E G F I H (Q.set an.toNat am) S U Z o (w64 (P+2)) O p h ab) else (bif (decide (au>G)) then (kn C B L E G F I H (Q.set an.toNat am) S U Z (w64 (o+2)) P O p h ab) else (bif Z then (bif (decide ((w64 ((w64 (I+U)) - ab))≥(0:Int))) then (bif (decide ((w64 ((w64 (I+U)) - ab)) < H)) then (idx (w64 ((w64 (I+U)) - ab)) (S.length:Int)<|bif ((rd S (w64 ((w64 (I+U)) - ab)) (0:Int))!=(-1:Int)) then (idx (w64 ((w64 (I+U)) - ab)) (S.length:Int)<|bif (decide (am≥(w64 (E - (rd S (w64 ((w64 (I+U)) - ab)) (0:Int)))))) then ((aA (C,(B,(L,(am,(au,())))))).bind fun V=>kr V.1) else (kn C B L E G F I H (Q.set an.toNat am) S U Z o P O p h ab)) else (kn C B L E G F I H (Q.set an.toNat am) S U Z o P O p h ab)) else (kn C B L E G F I H (Q.set an.toNat am) S U Z o P O p h ab)) else (kn C B L E G F I H (Q.set an.toNat am) S U Z o P O p h ab)) else (kn C B L E G F I H (Q.set an.toNat am) S U Z o P O p h ab)))
def E9:FS1 β:=FXs (fS n q91 aB aC aD aA) n fQ (some lS) (some iR) [] [137438202174,274876404350,274876404351]
theorem o8 (C:Z11) (B L:List Int) (E G F I H:Int) (Q S:List Int) (U:Int) (Z:Bool) (o P O p h ab an am au:Int):E9 n q91 aB aC aD aA (iT C B L E G F I H Q S U Z o P O p h ab an am au) cx=zK n q91 aB aC aD aA (fun C B L E G F I H Q S U Z o P O p h ab=>cx.nrm (gL C B L E G F I H Q S U Z o P O p h ab)) (fun y=>cx.ret (dZ y)) C B L E G F I H Q S U Z o P O p h ab an am au:=by kernel_rfl
def qJ (kn:Z11→List Int→List Int→Int→Int→Int→Int→Int→List Int→List Int→Int→Bool→Int→Int→Int→Int→Int→Int→Option β) (kr:List Z26→Option β) (C:Z11) (B L:List Int) (E G F I H:Int) (Q S:List Int) (U:Int) (Z:Bool) (o P O p h ab:Int):Option β:=XM n q91 aB aC aD aA (fun C B L E G F I H Q S U Z o P O p h ab an am=>TE n q91 aB aC aD aA (fun C B L E G F I H Q S U Z o P O p h ab an am au=>SW n q91 aB aC aD aA (fun C B L E G F I H Q S U Z o P O p h ab an am au=>zK n q91 aB aC aD aA kn kr C B L E G F I H Q S U Z o P O p h ab an am au) C B L E G F I H Q S U Z o P O p h ab an am au) C B L E G F I H Q S U Z o P O p h ab an am) C B L E G F I H Q S U Z o P O p h ab
def JC (s:FState) (cx:Cx β):Option β:=bD9 n q91 aB aC aD aA s {cx with nrm:=fun s=>K6 n q91 aB aC aD aA s {cx with nrm:=fun s=>ZL n q91 aB aC aD aA s {cx with nrm:=fun s=>E9 n q91 aB aC aD aA s cx}}}
theorem aK2 (C:Z11) (B L:List Int) (E G F I H:Int) (Q S:List Int) (U:Int) (Z:Bool) (o P O p h ab:Int):JC n q91 aB aC aD aA (gL C B L E G F I H Q S U Z o P O p h ab) cx=qJ n q91 aB aC aD aA (fun C B L E G F I H Q S U Z o P O p h ab=>cx.nrm (gL C B L E G F I H Q S U Z o P O p h ab)) (fun y=>cx.ret (dZ y)) C B L E G F I H Q S U Z o P O p h ab:=by simp only [JC,qJ,bW3,aF3,aO0,o8]
def YD (kn:Z11→List Int→List Int→Int→Int→Int→Int→Int→List Int→List Int→Int→Bool→Int→Int→Int→Int→Int→Int→Option β) (kr:List Z26→Option β) (C:Z11) (B L:List Int) (E G F I H:Int) (Q S:List Int) (U:Int) (Z:Bool) (o P O p h ab:Int):Option β:=qJ n q91 aB aC aD aA kn kr C B L E G F I H Q S U Z o P O p h ab
def E8 (s:FState) (cx:Cx β):Option β:=JC n q91 aB aC aD aA s {cx with ex:=fun j s=>bif Nat.beq j 5 then cx.nrm s else cx.ex j s}
theorem aU1 (C:Z11) (B L:List Int) (E G F I H:Int) (Q S:List Int) (U:Int) (Z:Bool) (o P O p h ab:Int):E8 n q91 aB aC aD aA (gL C B L E G F I H Q S U Z o P O p h ab) cx=YD n q91 aB aC aD aA (fun C B L E G F I H Q S U Z o P O p h ab=>cx.nrm (gL C B L E G F I H Q S U Z o P O p h ab)) (fun y=>cx.ret (dZ y)) C B L E G F I H Q S U Z o P O p h ab:=aK2 n q91 aB aC aD aA _ C B L E G F I H Q S U Z o P O p h ab
def FK (n:Nat) (q91:Q91) (aB:aL) (aC:aK) (aD:aJ) (aA:aM) (kn:Z11→List Int→List Int→Int→Int→Int→Int→Int→List Int→List Int→Int→Bool→Int→Int→Int→Int→Int→Int→Option β) (C:Z11) (B L:List Int) (E G F I H:Int) (Q S:List Int) (U:Int) (Z:Bool) (o P O p h ab:Int):Option β:=kn C B L E G F I H Q S U Z o P O p h (w64 (ab+2))
def J4:FS1 β:=FXs (fS n q91 aB aC aD aA) n fQ (some lS) none [] [1073735955]
theorem aL0 (C:Z11) (B L:List Int) (E G F I H:Int) (Q S:List Int) (U:Int) (Z:Bool) (o P O p h ab:Int):J4 n q91 aB aC aD aA (gL C B L E G F I H Q S U Z o P O p h ab) cx=FK n q91 aB aC aD aA (fun C B L E G F I H Q S U Z o P O p h ab=>cx.nrm (gL C B L E G F I H Q S U Z o P O p h ab)) C B L E G F I H Q S U Z o P O p h ab:=by kernel_rfl
def HA (kn:Z11→List Int→List Int→Int→Int→Int→Int→Int→List Int→List Int→Int→Bool→Int→Int→Int→Int→Int→Int→Option β) (kr:List Z26→Option β) (bm:Z11→List Int→List Int→Int→Int→Int→Int→Int→List Int→List Int→Int→Bool→Int→Int→Int→Int→Int→Option β) (C:Z11) (B L:List Int) (E G F I H:Int) (Q S:List Int) (U:Int) (Z:Bool) (o P O p h ab:Int):Option β:=aI0 n q91 aB aC aD aA (fun C B L E G F I H Q S U Z o P O p h ab=>YD n q91 aB aC aD aA (fun C B L E G F I H Q S U Z o P O p h ab=>FK n q91 aB aC aD aA kn C B L E G F I H Q S U Z o P O p h ab) kr C B L E G F I H Q S U Z o P O p h ab) bm C B L E G F I H Q S U Z o P O p h ab
def xW (s:FState) (cx:Cx β):Option β:=bB9 n q91 aB aC aD aA s {cx with nrm:=fun s=>E8 n q91 aB aC aD aA s {cx with nrm:=fun s=>J4 n q91 aB aC aD aA s cx}}
theorem aP5 (C:Z11) (B L:List Int) (E G F I H:Int) (Q S:List Int) (U:Int) (Z:Bool) (o P O p h ab:Int):xW n q91 aB aC aD aA (gL C B L E G F I H Q S U Z o P O p h ab) cx=HA n q91 aB aC aD aA (fun C B L E G F I H Q S U Z o P O p h ab=>cx.nrm (gL C B L E G F I H Q S U Z o P O p h ab)) (fun y=>cx.ret (dZ y)) (fun C B L E G F I H Q S U Z o P O p h=>cx.ex 4 (dE C B L E G F I H Q S U Z o P O p h)) C B L E G F I H Q S U Z o P O p h ab:=by simp only [xW,HA,cF7,aU1,aL0]
def g114_19L (n:Nat) (q91:Q91) (aB:aL) (aC:aK) (aD:aJ) (aA:aM) (kr:List Z26→Option β) (bm:Z11→List Int→List Int→Int→Int→Int→Int→Int→List Int→List Int→Int→Bool→Int→Int→Int→Int→Int→Option β):Nat→Z11→List Int→List Int→Int→Int→Int→Int→Int→List Int→List Int→Int→Bool→Int→Int→Int→Int→Int→Int→Option β
  | 0,_,_,_,_,_,_,_,_,_,_,_,_,_,_,_,_,_,_=>none
  | m+1,C,B,L,E,G,F,I,H,Q,S,U,Z,o,P,O,p,h,ab=>HA n q91 aB aC aD aA (g114_19L n q91 aB aC aD aA kr bm m) kr bm C B L E G F I H Q S U Z o P O p h ab
def TG (kr:List Z26→Option β) (bm:Z11→List Int→List Int→Int→Int→Int→Int→Int→List Int→List Int→Int→Bool→Int→Int→Int→Int→Int→Option β) (C:Z11) (B L:List Int) (E G F I H:Int) (Q S:List Int) (U:Int) (Z:Bool) (o P O p h ab:Int):Option β:=g114_19L n q91 aB aC aD aA kr bm n C B L E G F I H Q S U Z o P O p h ab
def ZP (s:FState) (cx:Cx β):Option β:=bQ (fun again s=>xW n q91 aB aC aD aA s {cx with nrm:=again}) n s
theorem K1 (n:Nat) (q91:Q91) (aB:aL) (aC:aK) (aD:aJ) (aA:aM) (cx:Cx β):∀(m:Nat) (C:Z11) (B L:List Int) (E G F I H:Int) (Q S:List Int) (U:Int) (Z:Bool) (o P O p h ab:Int),bQ (fun again s=>xW n q91 aB aC aD aA s {cx with nrm:=again}) m (gL C B L E G F I H Q S U Z o P O p h ab)=g114_19L n q91 aB aC aD aA (fun y=>cx.ret (dZ y)) (fun C B L E G F I H Q S U Z o P O p h=>cx.ex 4 (dE C B L E G F I H Q S U Z o P O p h)) m C B L E G F I H Q S U Z o P O p h ab:=by
  intro m
  induction m with
  | zero=>intros;rfl
  | succ m ih=>intros;simp only [bQ,g114_19L,aP5,ih]
theorem aT2 (C:Z11) (B L:List Int) (E G F I H:Int) (Q S:List Int) (U:Int) (Z:Bool) (o P O p h ab:Int):ZP n q91 aB aC aD aA (gL C B L E G F I H Q S U Z o P O p h ab) cx=TG n q91 aB aC aD aA (fun y=>cx.ret (dZ y)) (fun C B L E G F I H Q S U Z o P O p h=>cx.ex 4 (dE C B L E G F I H Q S U Z o P O p h)) C B L E G F I H Q S U Z o P O p h ab:=K1 n q91 aB aC aD aA cx n C B L E G F I H Q S U Z o P O p h ab
def WB (kn:Z11→List Int→List Int→Int→Int→Int→Int→Int→List Int→List Int→Int→Bool→Int→Int→Int→Int→Int→Option β) (kr:List Z26→Option β) (C:Z11) (B L:List Int) (E G F I H:Int) (Q S:List Int) (U:Int) (Z:Bool) (o P O p h ab:Int):Option β:=TG n q91 aB aC aD aA kr kn C B L E G F I H Q S U Z o P O p h ab
def D2 (s:FState) (cx:Cx β):Option β:=ZP n q91 aB aC aD aA s {cx with ex:=fun j s=>bif Nat.beq j 4 then cx.nrm s else cx.ex j s}
theorem U4 (C:Z11) (B L:List Int) (E G F I H:Int) (Q S:List Int) (U:Int) (Z:Bool) (o P O p h ab:Int):D2 n q91 aB aC aD aA (gL C B L E G F I H Q S U Z o P O p h ab) cx=WB n q91 aB aC aD aA (fun C B L E G F I H Q S U Z o P O p h=>cx.nrm (dE C B L E G F I H Q S U Z o P O p h)) (fun y=>cx.ret (dZ y)) C B L E G F I H Q S U Z o P O p h ab:=aT2 n q91 aB aC aD aA _ C B L E G F I H Q S U Z o P O p h ab
def FM (n:Nat) (q91:Q91) (aB:aL) (aC:aK) (aD:aJ) (aA:aM) (kn:Z11→List Int→List Int→Int→Int→Int→Int→Int→List Int→List Int→Int→Bool→Int→Int→Int→Int→Int→Int→Option β) (C:Z11) (B L:List Int) (E G F I H:Int) (Q S:List Int) (U:Int) (Z:Bool) (o P O p h:Int):Option β:=kn C B L E G F I H Q S U Z o P O p h (w64 ((w64 (0 - h))+O))
def P8:FS1 β:=FXs (fS n q91 aB aC aD aA) n fQ (some jQ) none [] [67108498]
theorem l6 (C:Z11) (B L:List Int) (E G F I H:Int) (Q S:List Int) (U:Int) (Z:Bool) (o P O p h:Int):P8 n q91 aB aC aD aA (dE C B L E G F I H Q S U Z o P O p h) cx=FM n q91 aB aC aD aA (fun C B L E G F I H Q S U Z o P O p h aa=>cx.nrm (eV C B L E G F I H Q S U Z o P O p h aa)) C B L E G F I H Q S U Z o P O p h:=by kernel_rfl
def RC (n:Nat) (q91:Q91) (aB:aL) (aC:aK) (aD:aJ) (aA:aM) (kn:Z11→List Int→List Int→Int→Int→Int→Int→Int→List Int→List Int→Int→Bool→Int→Int→Int→Int→Int→Int→Option β) (bo:Z11→List Int→List Int→Int→Int→Int→Int→Int→List Int→List Int→Int→Bool→Int→Int→Int→Int→Int→Option β) (C:Z11) (B L:List Int) (E G F I H:Int) (Q S:List Int) (U:Int) (Z:Bool) (o P O p h aa:Int):Option β:=bif (decide (aa≤(w64 (h - p)))) then (kn C B L E G F I H Q S U Z o P O p h aa) else (bo C B L E G F I H Q S U Z o P O p h)
def ZJ:FS1 β:=FXs (fS n q91 aB aC aD aA) n fQ (some jQ) none [(8,iD)] [1073735984,1073735985]
theorem W4 (C:Z11) (B L:List Int) (E G F I H:Int) (Q S:List Int) (U:Int) (Z:Bool) (o P O p h aa:Int):ZJ n q91 aB aC aD aA (eV C B L E G F I H Q S U Z o P O p h aa) cx=RC n q91 aB aC aD aA (fun C B L E G F I H Q S U Z o P O p h aa=>cx.nrm (eV C B L E G F I H Q S U Z o P O p h aa)) (fun C B L E G F I H Q S U Z o P O p h=>cx.ex 8 (dE C B L E G F I H Q S U Z o P O p h)) C B L E G F I H Q S U Z o P O p h aa:=by kernel_rfl
def FC (n:Nat) (q91:Q91) (aB:aL) (aC:aK) (aD:aJ) (aA:aM) (kn:Z11→List Int→List Int→Int→Int→Int→Int→Int→List Int→List Int→Int→Bool→Int→Int→Int→Int→Int→Int→Int→Int→Option β) (C:Z11) (B L:List Int) (E G F I H:Int) (Q S:List Int) (U:Int) (Z:Bool) (o P O p h aa:Int):Option β:=bif (aa==(w64 (0 - h))) then (idx (w64 ((w64 (I+aa))+(1:Int))) (S.length:Int)<|kn C B L E G F I H Q S U Z o P O p h aa (w64 (I+aa)) (rd S (w64 ((w64 (I+aa))+(1:Int))) (0:Int))) else (bif (aa !=h) then (idx (w64 ((w64 (I+aa)) - (1:Int))) (S.length:Int)<|idx (w64 ((w64 (I+aa))+(1:Int))) (S.length:Int)<|bif (decide ((rd S (w64 ((w64 (I+aa)) - (1:Int))) (0:Int)) < (rd S (w64 ((w64 (I+aa))+(1:Int))) (0:Int)))) then (idx (w64 ((w64 (I+aa))+(1:Int))) (S.length:Int)<|kn C B L E G F I H Q S U Z o P O p h aa (w64 (I+aa)) (rd S (w64 ((w64 (I+aa))+(1:Int))) (0:Int))) else (idx (w64 ((w64 (I+aa)) - (1:Int))) (S.length:Int)<|kn C B L E G F I H Q S U Z o P O p h aa (w64 (I+aa)) (w64 ((rd S (w64 ((w64 (I+aa)) - (1:Int))) (0:Int))+(1:Int))))) else (idx (w64 ((w64 (I+aa)) - (1:Int))) (S.length:Int)<|kn C B L E G F I H Q S U Z o P O p h aa (w64 (I+aa)) (w64 ((rd S (w64 ((w64 (I+aa)) - (1:Int))) (0:Int))+(1:Int)))))
def O8:FS1 β:=FXs (fS n q91 aB aC aD aA) n fQ (some PO) none [] [4294943944,8589887890,34359551564,34359551565]
theorem aH1 (C:Z11) (B L:List Int) (E G F I H:Int) (Q S:List Int) (U:Int) (Z:Bool) (o P O p h aa:Int):O8 n q91 aB aC aD aA (eV C B L E G F I H Q S U Z o P O p h aa) cx=FC n q91 aB aC aD aA (fun C B L E G F I H Q S U Z o P O p h aa ao ah=>cx.nrm (M0 C B L E G F I H Q S U Z o P O p h aa ao ah)) C B L E G F I H Q S U Z o P O p h aa:=by kernel_rfl
def WX (n:Nat) (q91:Q91) (aB:aL) (aC:aK) (aD:aJ) (aA:aM) (kn:Z11→List Int→List Int→Int→Int→Int→Int→Int→List Int→List Int→Int→Bool→Int→Int→Int→Int→Int→Int→Int→Int→Int→Option β) (C:Z11) (B L:List Int) (E G F I H:Int) (Q S:List Int) (U:Int) (Z:Bool) (o P O p h aa ao ah:Int):Option β:=kn C B L E G F I H Q S U Z o P O p h aa ao ah (w64 (ah - aa))
def C6:FS1 β:=FXs (fS n q91 aB aC aD aA) n fQ (some jT) none [] [34359551566]
theorem d6 (C:Z11) (B L:List Int) (E G F I H:Int) (Q S:List Int) (U:Int) (Z:Bool) (o P O p h aa ao ah:Int):C6 n q91 aB aC aD aA (M0 C B L E G F I H Q S U Z o P O p h aa ao ah) cx=WX n q91 aB aC aD aA (fun C B L E G F I H Q S U Z o P O p h aa ao ah ai=>cx.nrm (iW C B L E G F I H Q S U Z o P O p h aa ao ah ai)) C B L E G F I H Q S U Z o P O p h aa ao ah:=by kernel_rfl
def FB (n:Nat) (q91:Q91) (aB:aL) (aC:aK) (aD:aJ) (aA:aM) (kn bp:Z11→List Int→List Int→Int→Int→Int→Int→Int→List Int→List Int→Int→Bool→Int→Int→Int→Int→Int→Int→Int→Int→Int→Option β) (C:Z11) (B L:List Int) (E G F I H:Int) (Q S:List Int) (U:Int) (Z:Bool) (o P O p h aa ao ah ai:Int):Option β:=bif (decide (ah < E)) then (bif (decide (ai < G)) then (idx (w64 ((w64 (E - ah)) - (1:Int))) (B.length:Int)<|idx (w64 ((w64 (G - ai)) - (1:Int))) (L.length:Int)<|bif ((rd B (w64 ((w64 (E - ah)) - (1:Int))) (0:Int))!=(rd L (w64 ((w64 (G - ai)) - (1:Int))) (0:Int))) then (bp C B L E G F I H Q S U Z o P O p h aa ao ah ai) else (kn C B L E G F I H Q S U Z o P O p h aa ao (w64 (ah+1)) (w64 (ai+1)))) else (bp C B L E G F I H Q S U Z o P O p h aa ao ah ai)) else (bp C B L E G F I H Q S U Z o P O p h aa ao ah ai)
def JZ:FS1 β:=FXs (fS n q91 aB aC aD aA) n fQ (some jT) none [(10,jT)] [1099505650144,1099505650145,549752825073]
theorem aL7 (C:Z11) (B L:List Int) (E G F I H:Int) (Q S:List Int) (U:Int) (Z:Bool) (o P O p h aa ao ah ai:Int):JZ n q91 aB aC aD aA (iW C B L E G F I H Q S U Z o P O p h aa ao ah ai) cx=FB n q91 aB aC aD aA (fun C B L E G F I H Q S U Z o P O p h aa ao ah ai=>cx.nrm (iW C B L E G F I H Q S U Z o P O p h aa ao ah ai)) (fun C B L E G F I H Q S U Z o P O p h aa ao ah ai=>cx.ex 10 (iW C B L E G F I H Q S U Z o P O p h aa ao ah ai)) C B L E G F I H Q S U Z o P O p h aa ao ah ai:=by kernel_rfl
def g114_26L (n:Nat) (q91:Q91) (aB:aL) (aC:aK) (aD:aJ) (aA:aM) (bp:Z11→List Int→List Int→Int→Int→Int→Int→Int→List Int→List Int→Int→Bool→Int→Int→Int→Int→Int→Int→Int→Int→Int→Option β):Nat→Z11→List Int→List Int→Int→Int→Int→Int→Int→List Int→List Int→Int→Bool→Int→Int→Int→Int→Int→Int→Int→Int→Int→Option β
  | 0,_,_,_,_,_,_,_,_,_,_,_,_,_,_,_,_,_,_,_,_,_=>none
  | m+1,C,B,L,E,G,F,I,H,Q,S,U,Z,o,P,O,p,h,aa,ao,ah,ai=>FB n q91 aB aC aD aA (g114_26L n q91 aB aC aD aA bp m) bp C B L E G F I H Q S U Z o P O p h aa ao ah ai
def RF (bp:Z11→List Int→List Int→Int→Int→Int→Int→Int→List Int→List Int→Int→Bool→Int→Int→Int→Int→Int→Int→Int→Int→Int→Option β) (C:Z11) (B L:List Int) (E G F I H:Int) (Q S:List Int) (U:Int) (Z:Bool) (o P O p h aa ao ah ai:Int):Option β:=g114_26L n q91 aB aC aD aA bp n C B L E G F I H Q S U Z o P O p h aa ao ah ai
def ZF (s:FState) (cx:Cx β):Option β:=bQ (fun again s=>JZ n q91 aB aC aD aA s {cx with nrm:=again}) n s
theorem R8 (n:Nat) (q91:Q91) (aB:aL) (aC:aK) (aD:aJ) (aA:aM) (cx:Cx β):∀(m:Nat) (C:Z11) (B L:List Int) (E G F I H:Int) (Q S:List Int) (U:Int) (Z:Bool) (o P O p h aa ao ah ai:Int),bQ (fun again s=>JZ n q91 aB aC aD aA s {cx with nrm:=again}) m (iW C B L E G F I H Q S U Z o P O p h aa ao ah ai)=g114_26L n q91 aB aC aD aA (fun C B L E G F I H Q S U Z o P O p h aa ao ah ai=>cx.ex 10 (iW C B L E G F I H Q S U Z o P O p h aa ao ah ai)) m C B L E G F I H Q S U Z o P O p h aa ao ah ai:=by
  intro m
  induction m with
  | zero=>intros;rfl
  | succ m ih=>intros;simp only [bQ,g114_26L,aL7,ih]
theorem t7 (C:Z11) (B L:List Int) (E G F I H:Int) (Q S:List Int) (U:Int) (Z:Bool) (o P O p h aa ao ah ai:Int):ZF n q91 aB aC aD aA (iW C B L E G F I H Q S U Z o P O p h aa ao ah ai) cx=RF n q91 aB aC aD aA (fun C B L E G F I H Q S U Z o P O p h aa ao ah ai=>cx.ex 10 (iW C B L E G F I H Q S U Z o P O p h aa ao ah ai)) C B L E G F I H Q S U Z o P O p h aa ao ah ai:=R8 n q91 aB aC aD aA cx n C B L E G F I H Q S U Z o P O p h aa ao ah ai
def RM (kn:Z11→List Int→List Int→Int→Int→Int→Int→Int→List Int→List Int→Int→Bool→Int→Int→Int→Int→Int→Int→Int→Int→Int→Option β) (C:Z11) (B L:List Int) (E G F I H:Int) (Q S:List Int) (U:Int) (Z:Bool) (o P O p h aa ao ah ai:Int):Option β:=RF n q91 aB aC aD aA kn C B L E G F I H Q S U Z o P O p h aa ao ah ai
def D4 (s:FState) (cx:Cx β):Option β:=ZF n q91 aB aC aD aA s {cx with ex:=fun j s=>bif Nat.beq j 10 then cx.nrm s else cx.ex j s}
theorem aJ3 (C:Z11) (B L:List Int) (E G F I H:Int) (Q S:List Int) (U:Int) (Z:Bool) (o P O p h aa ao ah ai:Int):D4 n q91 aB aC aD aA (iW C B L E G F I H Q S U Z o P O p h aa ao ah ai) cx=RM n q91 aB aC aD aA (fun C B L E G F I H Q S U Z o P O p h aa ao ah ai=>cx.nrm (iW C B L E G F I H Q S U Z o P O p h aa ao ah ai)) C B L E G F I H Q S U Z o P O p h aa ao ah ai:=t7 n q91 aB aC aD aA _ C B L E G F I H Q S U Z o P O p h aa ao ah ai
def xP (n:Nat) (q91:Q91) (aB:aL) (aC:aK) (aD:aJ) (aA:aM) (kn:Z11→List Int→List Int→Int→Int→Int→Int→Int→List Int→List Int→Int→Bool→Int→Int→Int→Int→Int→Int→Option β) (kr:List Z26→Option β) (C:Z11) (B L:List Int) (E G F I H:Int) (Q S:List Int) (U:Int) (Z:Bool) (o P O p h aa ao ah ai:Int):Option β:=idx ao (S.length:Int)<|bif (decide (ah>E)) then (kn C B L E G F I H Q (S.set ao.toNat ah) U Z o P O (w64 (p+2)) h aa) else (bif (decide (ai>G)) then (kn C B L E G F I H Q (S.set ao.toNat ah) U Z o P (w64 (O+2)) p h aa) else (bif (!Z) then (bif (decide ((w64 ((w64 (I+U)) - aa))≥(0:Int))) then (bif (decide ((w64 ((w64 (I+U)) - aa)) < H)) then (idx (w64 ((w64 (I+U)) - aa)) (Q.length:Int)<|bif ((rd Q (w64 ((w64 (I+U)) - aa)) (0:Int))!=(-1:Int)) then (idx (w64 ((w64 (I+U)) - aa)) (Q.length:Int)<|bif (decide ((rd Q (w64 ((w64 (I+U)) - aa)) (0:Int))≥(w64 (E - ah)))) then ((aA (C,(B,(L,((rd Q (w64 ((w64 (I+U)) - aa)) (0:Int)),((w64 ((w64 (I+(rd Q (w64 ((w64 (I+U)) - aa)) (0:Int)))) - (w64 ((w64 (I+U)) - aa)))),())))))).bind fun V=>kr V.1) else (kn C B L E G F I H Q (S.set ao.toNat ah) U Z o P O p h aa)) else (kn C B L E G F I H Q (S.set ao.toNat ah) U Z o P O p h aa)) else (kn C B L E G F I H Q (S.set ao.toNat ah) U Z o P O p h aa)) else (kn C B L E G F I H Q (S.set ao.toNat ah) U Z o P O p h aa)) else (kn C B L E G F I H Q (S.set ao.toNat ah) U Z o P O p h aa)))
def J1:FS1 β:=FXs (fS n q91 aB aC aD aA) n fQ (some jQ) (some iR) [] [137438206270,274876412542,274876412543]
theorem aE3 (C:Z11) (B L:List Int) (E G F I H:Int) (Q S:List Int) (U:Int) (Z:Bool) (o P O p h aa ao ah ai:Int):J1 n q91 aB aC aD aA (iW C B L E G F I H Q S U Z o P O p h aa ao ah ai) cx=xP n q91 aB aC aD aA (fun C B L E G F I H Q S U Z o P O p h aa=>cx.nrm (eV C B L E G F I H Q S U Z o P O p h aa)) (fun y=>cx.ret (dZ y)) C B L E G F I H Q S U Z o P O p h aa ao ah ai:=by kernel_rfl
def qB (kn:Z11→List Int→List Int→Int→Int→Int→Int→Int→List Int→List Int→Int→Bool→Int→Int→Int→Int→Int→Int→Option β) (kr:List Z26→Option β) (C:Z11) (B L:List Int) (E G F I H:Int) (Q S:List Int) (U:Int) (Z:Bool) (o P O p h aa:Int):Option β:=FC n q91 aB aC aD aA (fun C B L E G F I H Q S U Z o P O p h aa ao ah=>WX n q91 aB aC aD aA (fun C B L E G F I H Q S U Z o P O p h aa ao ah ai=>RM n q91 aB aC aD aA (fun C B L E G F I H Q S U Z o P O p h aa ao ah ai=>xP n q91 aB aC aD aA kn kr C B L E G F I H Q S U Z o P O p h aa ao ah ai) C B L E G F I H Q S U Z o P O p h aa ao ah ai) C B L E G F I H Q S U Z o P O p h aa ao ah) C B L E G F I H Q S U Z o P O p h aa
def LJ (s:FState) (cx:Cx β):Option β:=O8 n q91 aB aC aD aA s {cx with nrm:=fun s=>C6 n q91 aB aC aD aA s {cx with nrm:=fun s=>D4 n q91 aB aC aD aA s {cx with nrm:=fun s=>J1 n q91 aB aC aD aA s cx}}}
theorem k8 (C:Z11) (B L:List Int) (E G F I H:Int) (Q S:List Int) (U:Int) (Z:Bool) (o P O p h aa:Int):LJ n q91 aB aC aD aA (eV C B L E G F I H Q S U Z o P O p h aa) cx=qB n q91 aB aC aD aA (fun C B L E G F I H Q S U Z o P O p h aa=>cx.nrm (eV C B L E G F I H Q S U Z o P O p h aa)) (fun y=>cx.ret (dZ y)) C B L E G F I H Q S U Z o P O p h aa:=by simp only [LJ,qB,aH1,d6,aJ3,aE3]
def WN (kn:Z11→List Int→List Int→Int→Int→Int→Int→Int→List Int→List Int→Int→Bool→Int→Int→Int→Int→Int→Int→Option β) (kr:List Z26→Option β) (C:Z11) (B L:List Int) (E G F I H:Int) (Q S:List Int) (U:Int) (Z:Bool) (o P O p h aa:Int):Option β:=qB n q91 aB aC aD aA kn kr C B L E G F I H Q S U Z o P O p h aa
def Q7 (s:FState) (cx:Cx β):Option β:=LJ n q91 aB aC aD aA s {cx with ex:=fun j s=>bif Nat.beq j 9 then cx.nrm s else cx.ex j s}
theorem aD5 (C:Z11) (B L:List Int) (E G F I H:Int) (Q S:List Int) (U:Int) (Z:Bool) (o P O p h aa:Int):Q7 n q91 aB aC aD aA (eV C B L E G F I H Q S U Z o P O p h aa) cx=WN n q91 aB aC aD aA (fun C B L E G F I H Q S U Z o P O p h aa=>cx.nrm (eV C B L E G F I H Q S U Z o P O p h aa)) (fun y=>cx.ret (dZ y)) C B L E G F I H Q S U Z o P O p h aa:=k8 n q91 aB aC aD aA _ C B L E G F I H Q S U Z o P O p h aa
def GT (n:Nat) (q91:Q91) (aB:aL) (aC:aK) (aD:aJ) (aA:aM) (kn:Z11→List Int→List Int→Int→Int→Int→Int→Int→List Int→List Int→Int→Bool→Int→Int→Int→Int→Int→Int→Option β) (C:Z11) (B L:List Int) (E G F I H:Int) (Q S:List Int) (U:Int) (Z:Bool) (o P O p h aa:Int):Option β:=kn C B L E G F I H Q S U Z o P O p h (w64 (aa+2))
def B3:FS1 β:=FXs (fS n q91 aB aC aD aA) n fQ (some jQ) none [] [1073735987]
theorem aT3 (C:Z11) (B L:List Int) (E G F I H:Int) (Q S:List Int) (U:Int) (Z:Bool) (o P O p h aa:Int):B3 n q91 aB aC aD aA (eV C B L E G F I H Q S U Z o P O p h aa) cx=GT n q91 aB aC aD aA (fun C B L E G F I H Q S U Z o P O p h aa=>cx.nrm (eV C B L E G F I H Q S U Z o P O p h aa)) C B L E G F I H Q S U Z o P O p h aa:=by kernel_rfl
def GB (kn:Z11→List Int→List Int→Int→Int→Int→Int→Int→List Int→List Int→Int→Bool→Int→Int→Int→Int→Int→Int→Option β) (kr:List Z26→Option β) (bo:Z11→List Int→List Int→Int→Int→Int→Int→Int→List Int→List Int→Int→Bool→Int→Int→Int→Int→Int→Option β) (C:Z11) (B L:List Int) (E G F I H:Int) (Q S:List Int) (U:Int) (Z:Bool) (o P O p h aa:Int):Option β:=RC n q91 aB aC aD aA (fun C B L E G F I H Q S U Z o P O p h aa=>WN n q91 aB aC aD aA (fun C B L E G F I H Q S U Z o P O p h aa=>GT n q91 aB aC aD aA kn C B L E G F I H Q S U Z o P O p h aa) kr C B L E G F I H Q S U Z o P O p h aa) bo C B L E G F I H Q S U Z o P O p h aa
def yD (s:FState) (cx:Cx β):Option β:=ZJ n q91 aB aC aD aA s {cx with nrm:=fun s=>Q7 n q91 aB aC aD aA s {cx with nrm:=fun s=>B3 n q91 aB aC aD aA s cx}}
theorem aR0 (C:Z11) (B L:List Int) (E G F I H:Int) (Q S:List Int) (U:Int) (Z:Bool) (o P O p h aa:Int):yD n q91 aB aC aD aA (eV C B L E G F I H Q S U Z o P O p h aa) cx=GB n q91 aB aC aD aA (fun C B L E G F I H Q S U Z o P O p h aa=>cx.nrm (eV C B L E G F I H Q S U Z o P O p h aa)) (fun y=>cx.ret (dZ y)) (fun C B L E G F I H Q S U Z o P O p h=>cx.ex 8 (dE C B L E G F I H Q S U Z o P O p h)) C B L E G F I H Q S U Z o P O p h aa:=by simp only [yD,GB,W4,aD5,aT3]
def g114_33L (n:Nat) (q91:Q91) (aB:aL) (aC:aK) (aD:aJ) (aA:aM) (kr:List Z26→Option β) (bo:Z11→List Int→List Int→Int→Int→Int→Int→Int→List Int→List Int→Int→Bool→Int→Int→Int→Int→Int→Option β):Nat→Z11→List Int→List Int→Int→Int→Int→Int→Int→List Int→List Int→Int→Bool→Int→Int→Int→Int→Int→Int→Option β
  | 0,_,_,_,_,_,_,_,_,_,_,_,_,_,_,_,_,_,_=>none
  | m+1,C,B,L,E,G,F,I,H,Q,S,U,Z,o,P,O,p,h,aa=>GB n q91 aB aC aD aA (g114_33L n q91 aB aC aD aA kr bo m) kr bo C B L E G F I H Q S U Z o P O p h aa
def TU (kr:List Z26→Option β) (bo:Z11→List Int→List Int→Int→Int→Int→Int→Int→List Int→List Int→Int→Bool→Int→Int→Int→Int→Int→Option β) (C:Z11) (B L:List Int) (E G F I H:Int) (Q S:List Int) (U:Int) (Z:Bool) (o P O p h aa:Int):Option β:=g114_33L n q91 aB aC aD aA kr bo n C B L E G F I H Q S U Z o P O p h aa
def YS (s:FState) (cx:Cx β):Option β:=bQ (fun again s=>yD n q91 aB aC aD aA s {cx with nrm:=again}) n s
theorem N0 (n:Nat) (q91:Q91) (aB:aL) (aC:aK) (aD:aJ) (aA:aM) (cx:Cx β):∀(m:Nat) (C:Z11) (B L:List Int) (E G F I H:Int) (Q S:List Int) (U:Int) (Z:Bool) (o P O p h aa:Int),bQ (fun again s=>yD n q91 aB aC aD aA s {cx with nrm:=again}) m (eV C B L E G F I H Q S U Z o P O p h aa)=g114_33L n q91 aB aC aD aA (fun y=>cx.ret (dZ y)) (fun C B L E G F I H Q S U Z o P O p h=>cx.ex 8 (dE C B L E G F I H Q S U Z o P O p h)) m C B L E G F I H Q S U Z o P O p h aa:=by
  intro m
  induction m with
  | zero=>intros;rfl
  | succ m ih=>intros;simp only [bQ,g114_33L,aR0,ih]
theorem Y1 (C:Z11) (B L:List Int) (E G F I H:Int) (Q S:List Int) (U:Int) (Z:Bool) (o P O p h aa:Int):YS n q91 aB aC aD aA (eV C B L E G F I H Q S U Z o P O p h aa) cx=TU n q91 aB aC aD aA (fun y=>cx.ret (dZ y)) (fun C B L E G F I H Q S U Z o P O p h=>cx.ex 8 (dE C B L E G F I H Q S U Z o P O p h)) C B L E G F I H Q S U Z o P O p h aa:=N0 n q91 aB aC aD aA cx n C B L E G F I H Q S U Z o P O p h aa
def HB (kn:Z11→List Int→List Int→Int→Int→Int→Int→Int→List Int→List Int→Int→Bool→Int→Int→Int→Int→Int→Option β) (kr:List Z26→Option β) (C:Z11) (B L:List Int) (E G F I H:Int) (Q S:List Int) (U:Int) (Z:Bool) (o P O p h aa:Int):Option β:=TU n q91 aB aC aD aA kr kn C B L E G F I H Q S U Z o P O p h aa
def T2 (s:FState) (cx:Cx β):Option β:=YS n q91 aB aC aD aA s {cx with ex:=fun j s=>bif Nat.beq j 8 then cx.nrm s else cx.ex j s}
theorem aA0 (C:Z11) (B L:List Int) (E G F I H:Int) (Q S:List Int) (U:Int) (Z:Bool) (o P O p h aa:Int):T2 n q91 aB aC aD aA (eV C B L E G F I H Q S U Z o P O p h aa) cx=HB n q91 aB aC aD aA (fun C B L E G F I H Q S U Z o P O p h=>cx.nrm (dE C B L E G F I H Q S U Z o P O p h)) (fun y=>cx.ret (dZ y)) C B L E G F I H Q S U Z o P O p h aa:=Y1 n q91 aB aC aD aA _ C B L E G F I H Q S U Z o P O p h aa
def GD (kn:Z11→List Int→List Int→Int→Int→Int→Int→Int→List Int→List Int→Int→Bool→Int→Int→Int→Int→Int→Option β) (kr:List Z26→Option β) (C:Z11) (B L:List Int) (E G F I H:Int) (Q S:List Int) (U:Int) (Z:Bool) (o P O p h:Int):Option β:=p6 n q91 aB aC aD aA (fun C B L E G F I H Q S U Z o P O p h ab=>WB n q91 aB aC aD aA (fun C B L E G F I H Q S U Z o P O p h=>FM n q91 aB aC aD aA (fun C B L E G F I H Q S U Z o P O p h aa=>HB n q91 aB aC aD aA kn kr C B L E G F I H Q S U Z o P O p h aa) C B L E G F I H Q S U Z o P O p h) kr C B L E G F I H Q S U Z o P O p h ab) C B L E G F I H Q S U Z o P O p h
def JL (s:FState) (cx:Cx β):Option β:=bK1 n q91 aB aC aD aA s {cx with nrm:=fun s=>D2 n q91 aB aC aD aA s {cx with nrm:=fun s=>P8 n q91 aB aC aD aA s {cx with nrm:=fun s=>T2 n q91 aB aC aD aA s cx}}}
theorem aQ1 (C:Z11) (B L:List Int) (E G F I H:Int) (Q S:List Int) (U:Int) (Z:Bool) (o P O p h:Int):JL n q91 aB aC aD aA (dE C B L E G F I H Q S U Z o P O p h) cx=GD n q91 aB aC aD aA (fun C B L E G F I H Q S U Z o P O p h=>cx.nrm (dE C B L E G F I H Q S U Z o P O p h)) (fun y=>cx.ret (dZ y)) C B L E G F I H Q S U Z o P O p h:=by simp only [JL,GD,bT3,U4,l6,aA0]
def UU (kn:Z11→List Int→List Int→Int→Int→Int→Int→Int→List Int→List Int→Int→Bool→Int→Int→Int→Int→Int→Option β) (kr:List Z26→Option β) (C:Z11) (B L:List Int) (E G F I H:Int) (Q S:List Int) (U:Int) (Z:Bool) (o P O p h:Int):Option β:=GD n q91 aB aC aD aA kn kr C B L E G F I H Q S U Z o P O p h
def O1 (s:FState) (cx:Cx β):Option β:=JL n q91 aB aC aD aA s {cx with ex:=fun j s=>bif Nat.beq j 3 then cx.nrm s else cx.ex j s}
theorem aS7 (C:Z11) (B L:List Int) (E G F I H:Int) (Q S:List Int) (U:Int) (Z:Bool) (o P O p h:Int):O1 n q91 aB aC aD aA (dE C B L E G F I H Q S U Z o P O p h) cx=UU n q91 aB aC aD aA (fun C B L E G F I H Q S U Z o P O p h=>cx.nrm (dE C B L E G F I H Q S U Z o P O p h)) (fun y=>cx.ret (dZ y)) C B L E G F I H Q S U Z o P O p h:=aQ1 n q91 aB aC aD aA _ C B L E G F I H Q S U Z o P O p h
def BR (n:Nat) (q91:Q91) (aB:aL) (aC:aK) (aD:aJ) (aA:aM) (kn:Z11→List Int→List Int→Int→Int→Int→Int→Int→List Int→List Int→Int→Bool→Int→Int→Int→Int→Int→Option β) (C:Z11) (B L:List Int) (E G F I H:Int) (Q S:List Int) (U:Int) (Z:Bool) (o P O p h:Int):Option β:=kn C B L E G F I H Q S U Z o P O p (w64 (h+1))
def T0:FS1 β:=FXs (fS n q91 aB aC aD aA) n fQ (some iD) none [] [8388563]
theorem q9 (C:Z11) (B L:List Int) (E G F I H:Int) (Q S:List Int) (U:Int) (Z:Bool) (o P O p h:Int):T0 n q91 aB aC aD aA (dE C B L E G F I H Q S U Z o P O p h) cx=BR n q91 aB aC aD aA (fun C B L E G F I H Q S U Z o P O p h=>cx.nrm (dE C B L E G F I H Q S U Z o P O p h)) C B L E G F I H Q S U Z o P O p h:=by kernel_rfl
def HD (kn:Z11→List Int→List Int→Int→Int→Int→Int→Int→List Int→List Int→Int→Bool→Int→Int→Int→Int→Int→Option β) (kr:List Z26→Option β) (ap:List Int→List Int→Option β) (C:Z11) (B L:List Int) (E G F I H:Int) (Q S:List Int) (U:Int) (Z:Bool) (o P O p h:Int):Option β:=V4 n q91 aB aC aD aA (fun C B L E G F I H Q S U Z o P O p h=>UU n q91 aB aC aD aA (fun C B L E G F I H Q S U Z o P O p h=>BR n q91 aB aC aD aA kn C B L E G F I H Q S U Z o P O p h) kr C B L E G F I H Q S U Z o P O p h) ap C B L E G F I H Q S U Z o P O p h
def yN (s:FState) (cx:Cx β):Option β:=aX7 n q91 aB aC aD aA s {cx with nrm:=fun s=>O1 n q91 aB aC aD aA s {cx with nrm:=fun s=>T0 n q91 aB aC aD aA s cx}}
theorem aH9 (C:Z11) (B L:List Int) (E G F I H:Int) (Q S:List Int) (U:Int) (Z:Bool) (o P O p h:Int):yN n q91 aB aC aD aA (dE C B L E G F I H Q S U Z o P O p h) cx=HD n q91 aB aC aD aA (fun C B L E G F I H Q S U Z o P O p h=>cx.nrm (dE C B L E G F I H Q S U Z o P O p h)) (fun y=>cx.ret (dZ y)) (fun B L=>cx.ex 2 (tT B L)) C B L E G F I H Q S U Z o P O p h:=by simp only [yN,HD,cJ9,aS7,q9]
def g114_39L (n:Nat) (q91:Q91) (aB:aL) (aC:aK) (aD:aJ) (aA:aM) (kr:List Z26→Option β) (ap:List Int→List Int→Option β):Nat→Z11→List Int→List Int→Int→Int→Int→Int→Int→List Int→List Int→Int→Bool→Int→Int→Int→Int→Int→Option β
  | 0,_,_,_,_,_,_,_,_,_,_,_,_,_,_,_,_,_=>none
  | m+1,C,B,L,E,G,F,I,H,Q,S,U,Z,o,P,O,p,h=>HD n q91 aB aC aD aA (g114_39L n q91 aB aC aD aA kr ap m) kr ap C B L E G F I H Q S U Z o P O p h
def VX (kr:List Z26→Option β) (ap:List Int→List Int→Option β) (C:Z11) (B L:List Int) (E G F I H:Int) (Q S:List Int) (U:Int) (Z:Bool) (o P O p h:Int):Option β:=g114_39L n q91 aB aC aD aA kr ap n C B L E G F I H Q S U Z o P O p h
def I4 (s:FState) (cx:Cx β):Option β:=bQ (fun again s=>yN n q91 aB aC aD aA s {cx with nrm:=again}) n s
theorem H3 (n:Nat) (q91:Q91) (aB:aL) (aC:aK) (aD:aJ) (aA:aM) (cx:Cx β):∀(m:Nat) (C:Z11) (B L:List Int) (E G F I H:Int) (Q S:List Int) (U:Int) (Z:Bool) (o P O p h:Int),bQ (fun again s=>yN n q91 aB aC aD aA s {cx with nrm:=again}) m (dE C B L E G F I H Q S U Z o P O p h)=g114_39L n q91 aB aC aD aA (fun y=>cx.ret (dZ y)) (fun B L=>cx.ex 2 (tT B L)) m C B L E G F I H Q S U Z o P O p h:=by
  intro m
  induction m with
  | zero=>intros;rfl
  | succ m ih=>intros;simp only [bQ,g114_39L,aH9,ih]
theorem aG9 (C:Z11) (B L:List Int) (E G F I H:Int) (Q S:List Int) (U:Int) (Z:Bool) (o P O p h:Int):I4 n q91 aB aC aD aA (dE C B L E G F I H Q S U Z o P O p h) cx=VX n q91 aB aC aD aA (fun y=>cx.ret (dZ y)) (fun B L=>cx.ex 2 (tT B L)) C B L E G F I H Q S U Z o P O p h:=H3 n q91 aB aC aD aA cx n C B L E G F I H Q S U Z o P O p h
def HJ (kn:List Int→List Int→Option β) (kr:List Z26→Option β) (C:Z11) (B L:List Int) (E G F I H:Int) (Q S:List Int) (U:Int) (Z:Bool) (o P O p h:Int):Option β:=VX n q91 aB aC aD aA kr kn C B L E G F I H Q S U Z o P O p h
def C7 (s:FState) (cx:Cx β):Option β:=I4 n q91 aB aC aD aA s {cx with ex:=fun j s=>bif Nat.beq j 2 then cx.nrm s else cx.ex j s}
theorem aN5 (C:Z11) (B L:List Int) (E G F I H:Int) (Q S:List Int) (U:Int) (Z:Bool) (o P O p h:Int):C7 n q91 aB aC aD aA (dE C B L E G F I H Q S U Z o P O p h) cx=HJ n q91 aB aC aD aA (fun B L=>cx.nrm (tT B L)) (fun y=>cx.ret (dZ y)) C B L E G F I H Q S U Z o P O p h:=aG9 n q91 aB aC aD aA _ C B L E G F I H Q S U Z o P O p h
def HH (n:Nat) (q91:Q91) (aB:aL) (aC:aK) (aD:aJ) (aA:aM) (kr:List Z26→Option β) (B L:List Int):Option β:=kr [((-1:Int),(runesBytes B)),((1:Int),(runesBytes L))]
def N9:FS1 β:=FXs (fS n q91 aB aC aD aA) n fQ none (some iR) [] [524286,524287]
theorem aG8 (B L:List Int):N9 n q91 aB aC aD aA (tT B L) cx=HH n q91 aB aC aD aA (fun y=>cx.ret (dZ y)) B L:=by kernel_rfl
def tF (kr:List Z26→Option β) (C:Z11) (B L:List Int):Option β:=aR5 n q91 aB aC aD aA (fun C B L E G F I H Q S bd ax=>X3 n q91 aB aC aD aA (fun C B L E G F I H Q S=>TJ n q91 aB aC aD aA (fun C B L E G F I H Q S U Z o P O p h=>HJ n q91 aB aC aD aA (fun B L=>HH n q91 aB aC aD aA kr B L) kr C B L E G F I H Q S U Z o P O p h) C B L E G F I H Q S) C B L E G F I H Q S bd ax) C B L
def xN (s:FState) (cx:Cx β):Option β:=bE2 n q91 aB aC aD aA s {cx with nrm:=fun s=>bP1 n q91 aB aC aD aA s {cx with nrm:=fun s=>aY9 n q91 aB aC aD aA s {cx with nrm:=fun s=>C7 n q91 aB aC aD aA s {cx with nrm:=fun s=>N9 n q91 aB aC aD aA s cx}}}}
theorem aP2 (C:Z11) (B L:List Int):xN n q91 aB aC aD aA (SG C B L) cx=tF n q91 aB aC aD aA (fun y=>cx.ret (dZ y)) C B L:=by simp only [xN,tF,cG6,cI4,bW6,aN5,aG8]
def eY7 (C:Z11) (B L:List Int):Option (DenR [.rw Z22 115]):=tF n q91 aB aC aD aA (fun y=>some (y,())) C B L
def bP5 (d:DenA eT):Option (DenR dK):=eY7 n q91 aB aC aD aA d.1 d.2.1 d.2.2.1
def eD9:Sk:=(.nd (.fin none none none [] .leaf) (.nd (.fin none none none [] .leaf) (.nd (.fin none none none [] .leaf) (.nd (.fin none none none [] .leaf) (.nd (.fin none none none [] .leaf) (.nd (.fin none none none [] .leaf) (.nd (.fin none none none [] .leaf) (.nd (.nd (.fin none (some AP) none [] .leaf) (.nd (.nd (.nd (.fin none none none [(0,sF)] .leaf) (.nd (.fin none none none [(0,sF)] .leaf) (.nd (.fin none none none [(0,sF)] .leaf) (.fin none (some AP) none [(0,sF)] .leaf)))) .leaf) .leaf)) (.nd (.fin none none none [] .leaf) (.nd (.fin none none none [] .leaf) (.nd (.fin none none none [] .leaf) (.nd (.fin none none none [] .leaf) (.nd (.fin none none none [] .leaf) (.nd (.fin none none none [] .leaf) (.nd (.fin none none none [] .leaf) (.nd (.fin none none none [] .leaf) (.nd (.nd (.fin none (some iD) none [] .leaf) (.nd (.nd (.nd (.nd (.fin none none none [(2,KI)] .leaf) (.fin none (some iD) none [(2,KI)] .leaf)) (.nd (.nd (.nd (.nd (.fin none (some lS) none [] .leaf) (.nd (.nd (.nd (.nd (.fin none none none [(4,iD)] .leaf) (.fin none (some lS) none [(4,iD)] .leaf)) (.nd (.nd (.nd (.fin none none none [] .leaf) (.nd (.fin none none none [] .leaf) (.nd (.nd (.fin none none none [] .leaf) (.fin none (some OY) none [] .leaf)) (.nd (.fin none (some jX) none [] .leaf) (.nd (.nd (.nd (.nd (.nd (.fin none none none [(6,jX)] .leaf) (.fin none none none [(6,jX)] .leaf)) (.fin none (some jX) none [(6,jX)] .leaf)) .leaf) .leaf) (.nd (.fin none none (some iR) [] .leaf) (.nd (.fin none none (some iR) [] .leaf) (.fin none (some lS) (some iR) [] .leaf)))))))) .leaf) (.fin none (some lS) none [] .leaf))) .leaf) .leaf)) (.nd (.fin none (some jQ) none [] .leaf) (.nd (.nd (.nd (.nd (.fin none none none [(8,iD)] .leaf) (.fin none (some jQ) none [(8,iD)] .leaf)) (.nd (.nd (.nd (.fin none none none [] .leaf) (.nd (.fin none none none [] .leaf) (.nd (.nd (.fin none none none [] .leaf) (.fin none (some PO) none [] .leaf)) (.nd (.fin none (some jT) none [] .leaf) (.nd (.nd (.nd (.nd (.nd (.fin none none none [(10,jT)] .leaf) (.fin none none none [(10,jT)] .leaf)) (.fin none (some jT) none [(10,jT)] .leaf)) .leaf) .leaf) (.nd (.fin none none (some iR) [] .leaf) (.nd (.fin none none (some iR) [] .leaf) (.fin none (some jQ) (some iR) [] .leaf)))))))) .leaf) (.fin none (some jQ) none [] .leaf))) .leaf) .leaf))) .leaf) (.fin none (some iD) none [] .leaf))) .leaf) .leaf)) (.nd (.fin none none (some iR) [] .leaf) (.fin none none (some iR) [] .leaf)))))))))))))))))))
theorem dJ1 (s:FState) (cx:Cx β):FX (fS n q91 aB aC aD aA) n fQ eD9 s cx=xN n q91 aB aC aD aA s cx:=by kernel_rfl
theorem cF3 (h91:Fit Tryd.prog 91 (aP iC fI q91)) (h110:Fit Tryd.prog 110 (aP eR cY aB)) (h114:Fit Tryd.prog 114 (aP eT dK aC)) (h136:Fit Tryd.prog 136 (aP eS dI aD)) (h143:Fit Tryd.prog 143 (aP eJ dX aA)):Fit Tryd.prog 114 (aP eT dK (bP5 n q91 aB aC aD aA)):=
  cH (Γ:=Γ0) (l:=cR4 n q91 aB aC aD aA) (n:=n) (sk:=eD9) (ts:=[(6,none)]) (fn:=Tryd.f114) (c:=fQ) (by kernel_rfl) (by kernel_rfl) (by unfold aS;kernel_rfl) cF ⟨h91,h110,h114,h136,h143,trivial⟩ aN (by kernel_rfl) (by kernel_rfl) (Nat.le_of_ble_eq_true (by kernel_rfl)) (Nat.le_of_ble_eq_true (by kernel_rfl)) (by kernel_rfl) (by kernel_rfl)
    (fun d=>(dJ1 n q91 aB aC aD aA _ _).trans (Eq.trans (b:=xN n q91 aB aC aD aA (SG d.1 d.2.1 d.2.2.1) (cN (fS n q91 aB aC aD aA) dK [(6,none)])) (by kernel_rfl) ((aP2 n q91 aB aC aD aA _ d.1 d.2.1 d.2.2.1).trans (by kernel_rfl))))
def XV (C:Z11) (B L:List Int) (v3:Bool):FState:=⟨aI [(0,.ptr 0 0 0),(1,.sl 1 none false),(2,.sl 2 none false),(3,.dat .bool v3)],aE [(0,.row Z1 106 false [C]),(1,.row (.int .i32) 21 false B),(2,.row (.int .i32) 21 false L)]⟩
def XB (X:List Z26):FState:=⟨aI [(8,.sl 8 none false)],aE [(8,.row Z22 115 true X)]⟩
def gC:List NE:=[.row 8 Z22 115 true]
def bG7 (C:Z11) (B L:List Int) (v3:Bool) (W ag:List Int):FState:=⟨aI [(0,.ptr 0 0 0),(1,.sl 1 none false),(2,.sl 2 none false),(3,.dat .bool v3),(10,.sl 10 none false),(11,.sl 11 none false)],aE [(0,.row Z1 106 false [C]),(1,.row (.int .i32) 21 false B),(2,.row (.int .i32) 21 false L),(10,.row (.int .i32) 21 false W),(11,.row (.int .i32) 21 false ag)]⟩
def S4:List NE:=[.ptr 0 Z1 106 false,.row 1 (.int .i32) 21 false,.row 2 (.int .i32) 21 false,.keep 3,.row 10 (.int .i32) 21 false,.row 11 (.int .i32) 21 false]
def dE1:List (Nat×Spec):=[(156,dE4 n),(157,dI4 n),(91,aP iC fI q91),(110,aP eR cY aB),(114,aP eT dK aC),(136,aP eS dI aD),(143,aP eJ dX aA)]
def TN:Ctx:={Γ0 with calls:=lkS (dE1 n q91 aB aC aD aA)}
def VE:Code:=fb Tryd.f136
def QL (n:Nat) (q91:Q91) (aB:aL) (aC:aK) (aD:aJ) (aA:aM) (kn:Z11→List Int→List Int→Bool→List Int→List Int→Option β) (kr:List Z26→Option β) (C:Z11) (B L:List Int) (v3:Bool):Option β:=bif ((B.length:Int)==(0:Int)) then (cM (([]:List Z26).length+[((1:Int),(runesBytes L))].length)<|kr (([]:List Z26)++[((1:Int),(runesBytes L))])) else (bif ((L.length:Int)==(0:Int)) then (cM (([]:List Z26).length+[((-1:Int),(runesBytes B))].length)<|kr (([]:List Z26)++[((-1:Int),(runesBytes B))])) else (bif (decide ((B.length:Int)>(L.length:Int))) then (kn C B L v3 B L) else (kn C B L v3 L B)))
def bP3:FS1 β:=FXs (TN n q91 aB aC aD aA) n VE (some S4) (some gC) [] [2,6,28,29,30,124,125]
theorem cA0 (C:Z11) (B L:List Int) (v3:Bool):bP3 n q91 aB aC aD aA (XV C B L v3) cx=QL n q91 aB aC aD aA (fun C B L v3 W ag=>cx.nrm (bG7 C B L v3 W ag)) (fun X=>cx.ret (XB X)) C B L v3:=by kernel_rfl
def lY (n:Nat) (q91:Q91) (aB:aL) (aC:aK) (aD:aJ) (aA:aM) (kr:List Z26→Option β) (C:Z11) (B L:List Int) (v3:Bool) (W ag:List Int):Option β:=(dV5 n W ag).bind fun V=>bif (V.1 !=(-1:Int)) then (bif (decide ((B.length:Int)>(L.length:Int))) then (bnd (0:Int) V.1 (W.length:Int)<|bnd (w64 (V.1+(ag.length:Int))) (W.length:Int) (W.length:Int)<|kr [((-1:Int),(runesBytes (cut W (0:Int) V.1))),((0:Int),(runesBytes ag)),((-1:Int),(runesBytes (cut W (w64 (V.1+(ag.length:Int))) (W.length:Int))))]) else (bnd (0:Int) V.1 (W.length:Int)<|bnd (w64 (V.1+(ag.length:Int))) (W.length:Int) (W.length:Int)<|kr [((1:Int),(runesBytes (cut W (0:Int) V.1))),((0:Int),(runesBytes ag)),((1:Int),(runesBytes (cut W (w64 (V.1+(ag.length:Int))) (W.length:Int))))])) else (bif ((ag.length:Int)==(1:Int)) then (kr [((-1:Int),(runesBytes B)),((1:Int),(runesBytes L))]) else ((eF1 n C B L).bind fun r2=>bif v3 then (bif (decide ((B.length:Int)>(100:Int))) then (bif (decide ((L.length:Int)>(100:Int))) then ((q91 (C,(B,(L,())))).bind fun r3=>kr r3.1) else ((aC (C,(B,(L,())))).bind fun r4=>kr r4.1)) else ((aC (C,(B,(L,())))).bind fun r5=>kr r5.1)) else ((aC (C,(B,(L,())))).bind fun r6=>kr r6.1)))
def bA4:FS1 β:=FXs (TN n q91 aB aC aD aA) n VE none (some gC) [] [252,506,507,254,255]
theorem cA3 (C:Z11) (B L:List Int) (v3:Bool) (W ag:List Int):bA4 n q91 aB aC aD aA (bG7 C B L v3 W ag) cx=lY n q91 aB aC aD aA (fun X=>cx.ret (XB X)) C B L v3 W ag:=by kernel_rfl
def LO (kr:List Z26→Option β) (C:Z11) (B L:List Int) (v3:Bool):Option β:=QL n q91 aB aC aD aA (fun C B L v3 W ag=>lY n q91 aB aC aD aA kr C B L v3 W ag) kr C B L v3
def FN (s:FState) (cx:Cx β):Option β:=bP3 n q91 aB aC aD aA s {cx with nrm:=fun s=>bA4 n q91 aB aC aD aA s cx}
theorem bX4 (C:Z11) (B L:List Int) (v3:Bool):FN n q91 aB aC aD aA (XV C B L v3) cx=LO n q91 aB aC aD aA (fun X=>cx.ret (XB X)) C B L v3:=by simp only [FN,LO,cA0,cA3]
def sQ (C:Z11) (B L:List Int) (v3:Bool):Option (DenR [.rw Z22 115]):=LO n q91 aB aC aD aA (fun X=>some (X,())) C B L v3
def bD7 (d:DenA eS):Option (DenR dI):=sQ n q91 aB aC aD aA d.1 d.2.1 d.2.2.1 d.2.2.2.1
def eC5:Sk:=(.nd (.fin none none (some gC) [] .leaf) (.nd (.fin none none (some gC) [] .leaf) (.nd (.nd (.fin none none (some gC) [] .leaf) (.fin none none (some gC) [] .leaf)) (.nd (.fin none none (some gC) [] .leaf) (.nd (.nd (.fin none none (some gC) [] .leaf) (.fin none (some S4) (some gC) [] .leaf)) (.nd (.nd (.fin none none (some gC) [] .leaf) (.nd (.fin none none (some gC) [] .leaf) (.fin none none (some gC) [] .leaf))) (.nd (.fin none none (some gC) [] .leaf) (.fin none none (some gC) [] .leaf))))))))
theorem cS4 (s:FState) (cx:Cx β):FX (TN n q91 aB aC aD aA) n VE eC5 s cx=FN n q91 aB aC aD aA s cx:=by kernel_rfl
theorem cD1 (h91:Fit Tryd.prog 91 (aP iC fI q91)) (h110:Fit Tryd.prog 110 (aP eR cY aB)) (h114:Fit Tryd.prog 114 (aP eT dK aC)) (h136:Fit Tryd.prog 136 (aP eS dI aD)) (h143:Fit Tryd.prog 143 (aP eJ dX aA)):Fit Tryd.prog 136 (aP eS dI (bD7 n q91 aB aC aD aA)):=
  cH (Γ:=Γ0) (l:=dE1 n q91 aB aC aD aA) (n:=n) (sk:=eC5) (ts:=[(8,none)]) (fn:=Tryd.f136) (c:=VE) (by kernel_rfl) (by kernel_rfl) (by unfold aS;kernel_rfl) cF ⟨dN0 n,cQ6 n,h91,h110,h114,h136,h143,trivial⟩ aN (by kernel_rfl) (by kernel_rfl) (Nat.le_of_ble_eq_true (by kernel_rfl)) (Nat.le_of_ble_eq_true (by kernel_rfl)) (by kernel_rfl) (by kernel_rfl)
    (fun d=>(cS4 n q91 aB aC aD aA _ _).trans (Eq.trans (b:=FN n q91 aB aC aD aA (XV d.1 d.2.1 d.2.2.1 d.2.2.2.1) (cN (TN n q91 aB aC aD aA) dI [(8,none)])) (by kernel_rfl) ((bX4 n q91 aB aC aD aA _ d.1 d.2.1 d.2.2.1 d.2.2.2.1).trans (by kernel_rfl))))
def bG6 (C:Z11) (B L:List Int) (v3 v4:Int):FState:=⟨aI [(0,.ptr 0 0 0),(1,.sl 1 none false),(2,.sl 2 none false),(3,.dat (.int .i64) v3),(4,.dat (.int .i64) v4)],aE [(0,.row Z1 106 false [C]),(1,.row (.int .i32) 21 false B),(2,.row (.int .i32) 21 false L)]⟩
def eO2 (W:List Z26):FState:=⟨aI [(10,.sl 10 none false)],aE [(10,.row Z22 115 true W)]⟩
def jK:List NE:=[.row 10 Z22 115 true]
def cW6 (n:Nat) (q91:Q91) (aB:aL) (aC:aK) (aD:aJ) (aA:aM):List (Nat×Spec):=[(91,aP iC fI q91),(110,aP eR cY aB),(114,aP eT dK aC),(136,aP eS dI aD),(143,aP eJ dX aA)]
def aC6:Ctx:={Γ0 with calls:=lkS (cW6 n q91 aB aC aD aA)}
def aB9:Code:=fb Tryd.f143
def y8 (n:Nat) (q91:Q91) (aB:aL) (aC:aK) (aD:aJ) (aA:aM) (kr:List Z26→Option β) (C:Z11) (B L:List Int) (v3 v4:Int):Option β:=bnd (0:Int) v3 (B.length:Int)<|bnd (0:Int) v4 (L.length:Int)<|bnd v3 (B.length:Int) (B.length:Int)<|bnd v4 (L.length:Int) (L.length:Int)<|(aB (C,((cut B (0:Int) v3),((cut L (0:Int) v4),(false,()))))).bind fun V=>(aB (C,((cut B v3 (B.length:Int)),((cut L v4 (L.length:Int)),(false,()))))).bind fun r2=>cM (V.1.length+r2.1.length)<|kr (V.1++r2.1)
def TL:FS1 β:=FXs (aC6 n q91 aB aC aD aA) n aB9 none (some jK) [] [2,6,14,30,62,126,254,510,511]
theorem bU9 (C:Z11) (B L:List Int) (v3 v4:Int):TL n q91 aB aC aD aA (bG6 C B L v3 v4) cx=y8 n q91 aB aC aD aA (fun W=>cx.ret (eO2 W)) C B L v3 v4:=by kernel_rfl
def V3 (C:Z11) (B L:List Int) (v3 v4:Int):Option (DenR [.rw Z22 115]):=y8 n q91 aB aC aD aA (fun W=>some (W,())) C B L v3 v4
def bF3 (d:DenA eJ):Option (DenR dX):=V3 n q91 aB aC aD aA d.1 d.2.1 d.2.2.1 d.2.2.2.1 d.2.2.2.2.1
def cM3:Sk:=(.nd (.fin none none (some jK) [] .leaf) (.nd (.fin none none (some jK) [] .leaf) (.nd (.fin none none (some jK) [] .leaf) (.nd (.fin none none (some jK) [] .leaf) (.nd (.fin none none (some jK) [] .leaf) (.nd (.fin none none (some jK) [] .leaf) (.nd (.fin none none (some jK) [] .leaf) (.nd (.fin none none (some jK) [] .leaf) (.fin none none (some jK) [] .leaf)))))))))
theorem cS8 (s:FState) (cx:Cx β):FX (aC6 n q91 aB aC aD aA) n aB9 cM3 s cx=TL n q91 aB aC aD aA s cx:=by kernel_rfl
theorem bW9 (h91:Fit Tryd.prog 91 (aP iC fI q91)) (h110:Fit Tryd.prog 110 (aP eR cY aB)) (h114:Fit Tryd.prog 114 (aP eT dK aC)) (h136:Fit Tryd.prog 136 (aP eS dI aD)) (h143:Fit Tryd.prog 143 (aP eJ dX aA)):Fit Tryd.prog 143 (aP eJ dX (bF3 n q91 aB aC aD aA)):=
  cH (Γ:=Γ0) (l:=cW6 n q91 aB aC aD aA) (n:=n) (sk:=cM3) (ts:=[(10,none)]) (fn:=Tryd.f143) (c:=aB9) (by kernel_rfl) (by kernel_rfl) (by unfold aS;kernel_rfl) cF ⟨h91,h110,h114,h136,h143,trivial⟩ aN (by kernel_rfl) (by kernel_rfl) (Nat.le_of_ble_eq_true (by kernel_rfl)) (Nat.le_of_ble_eq_true (by kernel_rfl)) (by kernel_rfl) (by kernel_rfl)
    (fun d=>(cS8 n q91 aB aC aD aA _ _).trans (Eq.trans (b:=TL n q91 aB aC aD aA (bG6 d.1 d.2.1 d.2.2.1 d.2.2.2.1 d.2.2.2.2.1) (cN (aC6 n q91 aB aC aD aA) dX [(10,none)])) (by kernel_rfl) ((bU9 n q91 aB aC aD aA _ d.1 d.2.1 d.2.2.1 d.2.2.2.1 d.2.2.2.2.1).trans (by kernel_rfl))))
def aT (n:Nat):Nat→(DenA iC→Option (DenR fI))×(DenA eR→Option (DenR cY))×(DenA eT→Option (DenR dK))×(DenA eS→Option (DenR dI))×(DenA eJ→Option (DenR dX))
  | 0=>(fun _=>none,fun _=>none,fun _=>none,fun _=>none,fun _=>none)
  | m+1=>(cR7 n (aT n m).1 (aT n m).2.1 (aT n m).2.2.1 (aT n m).2.2.2.1 (aT n m).2.2.2.2,aX8 n (aT n m).1 (aT n m).2.1 (aT n m).2.2.1 (aT n m).2.2.2.1 (aT n m).2.2.2.2,bP5 n (aT n m).1 (aT n m).2.1 (aT n m).2.2.1 (aT n m).2.2.2.1 (aT n m).2.2.2.2,bD7 n (aT n m).1 (aT n m).2.1 (aT n m).2.2.1 (aT n m).2.2.2.1 (aT n m).2.2.2.2,bF3 n (aT n m).1 (aT n m).2.1 (aT n m).2.2.1 (aT n m).2.2.2.1 (aT n m).2.2.2.2)
theorem bR (n:Nat):∀m:Nat,Fit Tryd.prog 91 (aP iC fI (aT n m).1)∧Fit Tryd.prog 110 (aP eR cY (aT n m).2.1)∧Fit Tryd.prog 114 (aP eT dK (aT n m).2.2.1)∧Fit Tryd.prog 136 (aP eS dI (aT n m).2.2.2.1)∧Fit Tryd.prog 143 (aP eJ dX (aT n m).2.2.2.2)
  | 0=>⟨nI (by unfold aS;kernel_rfl),nI (by unfold aS;kernel_rfl),nI (by unfold aS;kernel_rfl),nI (by unfold aS;kernel_rfl),nI (by unfold aS;kernel_rfl)⟩
  | m+1=>⟨dU2 n (aT n m).1 (aT n m).2.1 (aT n m).2.2.1 (aT n m).2.2.2.1 (aT n m).2.2.2.2 (bR n m).1 (bR n m).2.1 (bR n m).2.2.1 (bR n m).2.2.2.1 (bR n m).2.2.2.2,bS6 n (aT n m).1 (aT n m).2.1 (aT n m).2.2.1 (aT n m).2.2.2.1 (aT n m).2.2.2.2 (bR n m).1 (bR n m).2.1 (bR n m).2.2.1 (bR n m).2.2.2.1 (bR n m).2.2.2.2,cF3 n (aT n m).1 (aT n m).2.1 (aT n m).2.2.1 (aT n m).2.2.2.1 (aT n m).2.2.2.2 (bR n m).1 (bR n m).2.1 (bR n m).2.2.1 (bR n m).2.2.2.1 (bR n m).2.2.2.2,cD1 n (aT n m).1 (aT n m).2.1 (aT n m).2.2.1 (aT n m).2.2.2.1 (aT n m).2.2.2.2 (bR n m).1 (bR n m).2.1 (bR n m).2.2.1 (bR n m).2.2.2.1 (bR n m).2.2.2.2,bW9 n (aT n m).1 (aT n m).2.1 (aT n m).2.2.1 (aT n m).2.2.2.1 (aT n m).2.2.2.2 (bR n m).1 (bR n m).2.1 (bR n m).2.2.1 (bR n m).2.2.2.1 (bR n m).2.2.2.2⟩
end
section
variable (n:Nat) (cx:Cx β)
def eS6 (d:DenA iC):Option (DenR fI):=(aT n n).1 d
def g91 (a0:AK.den (.pro Z1 106)) (a1 a2:AK.den (.ro (.int .i32) 21)):Option (DenR fI):=eS6 n (a0,(a1,(a2,())))
def fE6:Spec:=aP iC fI (eS6 n)
theorem fI8:Fit Tryd.prog 91 (fE6 n):=(bR n n).1
def dW0 (d:DenA eR):Option (DenR cY):=(aT n n).2.1 d
def fC6 (a0:AK.den (.pro Z1 106)) (a1 a2:AK.den (.ro (.int .i32) 21)) (a3:AK.den (.dat .bool)):Option (DenR cY):=dW0 n (a0,(a1,(a2,(a3,()))))
def dB1:Spec:=aP eR cY (dW0 n)
theorem dY1:Fit Tryd.prog 110 (dB1 n):=(bR n n).2.1
def dB2 (d:DenA eT):Option (DenR dK):=(aT n n).2.2.1 d
def fK3 (a0:AK.den (.pro Z1 106)) (a1 a2:AK.den (.ro (.int .i32) 21)):Option (DenR dK):=dB2 n (a0,(a1,(a2,())))
def eY1:Spec:=aP eT dK (dB2 n)
theorem fI2:Fit Tryd.prog 114 (eY1 n):=(bR n n).2.2.1
def dG4 (d:DenA eS):Option (DenR dI):=(aT n n).2.2.2.1 d
def fK2 (a0:AK.den (.pro Z1 106)) (a1 a2:AK.den (.ro (.int .i32) 21)) (a3:AK.den (.dat .bool)):Option (DenR dI):=dG4 n (a0,(a1,(a2,(a3,()))))
def eZ0:Spec:=aP eS dI (dG4 n)
theorem fE9:Fit Tryd.prog 136 (eZ0 n):=(bR n n).2.2.2.1
def dJ5 (d:DenA eJ):Option (DenR dX):=(aT n n).2.2.2.2 d
def fK0 (a0:AK.den (.pro Z1 106)) (a1 a2:AK.den (.ro (.int .i32) 21)) (a3 a4:AK.den (.dat (.int .i64))):Option (DenR dX):=dJ5 n (a0,(a1,(a2,(a3,(a4,())))))
def fB9:Spec:=aP eJ dX (dJ5 n)
theorem fH8:Fit Tryd.prog 143 (fB9 n):=(bR n n).2.2.2.2
def eE2 (C:Z11) (B L:List Int) (v3:Bool):FState:=⟨aI [(0,.ptr 0 0 0),(1,.sl 1 none false),(2,.sl 2 none false),(3,.dat .bool v3)],aE [(0,.row Z1 106 false [C]),(1,.row (.int .i32) 21 false B),(2,.row (.int .i32) 21 false L)]⟩
def fA6 (X:List Z26):FState:=⟨aI [(8,.sl 8 none false)],aE [(8,.row Z22 115 true X)]⟩
def GQ:List NE:=[.row 8 Z22 115 true]
def eV2:List (Nat×Spec):=[(110,dB1 n)]
def dD3:Ctx:={Γ0 with calls:=lkS (eV2 n)}
def eC1:Code:=fb Tryd.f94
def dI8 (kr:List Z26→Option β) (C:Z11) (B L:List Int) (v3:Bool):Option β:=(fC6 n C B L v3).bind fun V=>kr V.1
def aK6:FS1 β:=FXs (dD3 n) n eC1 none (some GQ) [] [2,6,7]
theorem cP0 (C:Z11) (B L:List Int) (v3:Bool):aK6 n (eE2 C B L v3) cx=dI8 n (fun X=>cx.ret (fA6 X)) C B L v3:=by kernel_rfl
def g94 (C:Z11) (B L:List Int) (v3:Bool):Option (DenR [.rw Z22 115]):=dI8 n (fun X=>some (X,())) C B L v3
def eU5:List AK:=[.pro Z1 106,.ro (.int .i32) 21,.ro (.int .i32) 21,.dat .bool]
def eD7:List RK:=[.rw Z22 115]
def fG9 (d:DenA eU5):Option (DenR eD7):=g94 n d.1 d.2.1 d.2.2.1 d.2.2.2.1
def eT0:Spec:=aP eU5 eD7 (fG9 n)
def eR4:Sk:=(.nd (.fin none none (some GQ) [] .leaf) (.nd (.fin none none (some GQ) [] .leaf) (.fin none none (some GQ) [] .leaf)))
theorem eL5 (s:FState) (cx:Cx β):FX (dD3 n) n eC1 eR4 s cx=aK6 n s cx:=by kernel_rfl
theorem eJ7:Fit Tryd.prog 94 (eT0 n):=
  cH (Γ:=Γ0) (l:=eV2 n) (n:=n) (sk:=eR4) (ts:=[(8,none)]) (fn:=Tryd.f94) (c:=eC1) (by kernel_rfl) (by kernel_rfl) (by unfold aS;kernel_rfl) cF ⟨dY1 n,trivial⟩ aN (by kernel_rfl) (by kernel_rfl) (Nat.le_of_ble_eq_true (by kernel_rfl)) (Nat.le_of_ble_eq_true (by kernel_rfl)) (by kernel_rfl) (by kernel_rfl)
    (fun d=>(eL5 n _ _).trans (Eq.trans (b:=aK6 n (eE2 d.1 d.2.1 d.2.2.1 d.2.2.2.1) (cN (dD3 n) eD7 [(8,none)])) (by kernel_rfl) ((cP0 n _ d.1 d.2.1 d.2.2.1 d.2.2.2.1).trans (by kernel_rfl))))
def dC7 (C:Z11) (J R:BA) (v3:Bool):FState:=⟨aI [(0,.ptr 0 0 0),(1,.dat .str J),(2,.dat .str R),(3,.dat .bool v3)],aE [(0,.row Z1 106 false [C])]⟩
def fB1 (X:List Z26):FState:=⟨aI [(8,.sl 8 none false)],aE [(8,.row Z22 115 true X)]⟩
def GP:List NE:=[.row 8 Z22 115 true]
def eV1:List (Nat×Spec):=[(94,eT0 n)]
def dY8:Ctx:={Γ0 with calls:=lkS (eV1 n)}
def dL6:Code:=fb Tryd.f68
def dM9 (kr:List Z26→Option β) (C:Z11) (J R:BA) (v3:Bool):Option β:=kK J<|kK R<|(g94 n C (bS J) (bS R) v3).bind fun V=>kr V.1
def y5:FS1 β:=FXs (dY8 n) n dL6 none (some GP) [] [2,6,7]
theorem cT0 (C:Z11) (J R:BA) (v3:Bool):y5 n (dC7 C J R v3) cx=dM9 n (fun X=>cx.ret (fB1 X)) C J R v3:=by kernel_rfl
def g68 (C:Z11) (J R:BA) (v3:Bool):Option (DenR [.rw Z22 115]):=dM9 n (fun X=>some (X,())) C J R v3
def eP1:List AK:=[.pro Z1 106,.dat .str,.dat .str,.dat .bool]
def eB5:List RK:=[.rw Z22 115]
def fE3 (d:DenA eP1):Option (DenR eB5):=g68 n d.1 d.2.1 d.2.2.1 d.2.2.2.1
def eU6:Spec:=aP eP1 eB5 (fE3 n)
def eV6:Sk:=(.nd (.fin none none (some GP) [] .leaf) (.nd (.fin none none (some GP) [] .leaf) (.fin none none (some GP) [] .leaf)))
theorem eK4 (s:FState) (cx:Cx β):FX (dY8 n) n dL6 eV6 s cx=y5 n s cx:=by kernel_rfl
theorem eF6:Fit Tryd.prog 68 (eU6 n):=
  cH (Γ:=Γ0) (l:=eV1 n) (n:=n) (sk:=eV6) (ts:=[(8,none)]) (fn:=Tryd.f68) (c:=dL6) (by kernel_rfl) (by kernel_rfl) (by unfold aS;kernel_rfl) cF ⟨eJ7 n,trivial⟩ aN (by kernel_rfl) (by kernel_rfl) (Nat.le_of_ble_eq_true (by kernel_rfl)) (Nat.le_of_ble_eq_true (by kernel_rfl)) (by kernel_rfl) (by kernel_rfl)
    (fun d=>(eK4 n _ _).trans (Eq.trans (b:=y5 n (dC7 d.1 d.2.1 d.2.2.1 d.2.2.2.1) (cN (dY8 n) eB5 [(8,none)])) (by kernel_rfl) ((cT0 n _ d.1 d.2.1 d.2.2.1 d.2.2.2.1).trans (by kernel_rfl))))
def X0 (M:List Z26):FState:=⟨aI [(0,.sl 0 none false)],aE [(0,.row Z22 115 false M)]⟩
def dN7 (L:List Z26):FState:=⟨aI [(2,.sl 2 none false)],aE [(2,.row Z21 68 true L)]⟩
def WC:List NE:=[.row 2 Z21 68 true]
def CW (z y:List Z26) (E G:Int):FState:=⟨aI [(3,.sl 3 none false),(6,.sl 6 none false),(7,.dat (.int .i64) E),(8,.dat (.int .i64) G)],aE [(3,.row Z21 68 true z),(6,.row Z22 115 false y)]⟩
def FW:List NE:=[.row 3 Z21 68 true,.row 6 Z22 115 false,.keep 7,.keep 8]
def JD (z:List Z26):FState:=⟨aI [(3,.sl 3 none false)],aE [(3,.row Z21 68 true z)]⟩
def zW:List NE:=[.row 3 Z21 68 true]
def eV7 (n:Nat):List (Nat×Spec):=[]
def B6:Ctx:={Γ0 with calls:=lkS (eV7 n)}
def R7:Code:=fb Tryd.f45
def dL9 (n:Nat) (kn:List Z26→List Z26→Int→Int→Option β) (M:List Z26):Option β:=kn [] M (M.length:Int) (0:Int)
def dC2:FS1 β:=FXs (B6 n) n R7 (some FW) none [] [2,6,28]
theorem dT2 (M:List Z26):dC2 n (X0 M) cx=dL9 n (fun z y E G=>cx.nrm (CW z y E G)) M:=by kernel_rfl
def bJ5 (n:Nat) (kn:List Z26→List Z26→Int→Int→Option β) (ae:List Z26→Option β) (z y:List Z26) (E G:Int):Option β:=bif (decide (G < E)) then (idx G (y.length:Int)<|cM (z.length+[((w64 ((rd [(rd y G Z17)] (0:Int) Z17).1)),(rd [(rd y G Z17)] (0:Int) Z17).2)].length)<|kn (z++[((w64 ((rd [(rd y G Z17)] (0:Int) Z17).1)),(rd [(rd y G Z17)] (0:Int) Z17).2)]) y E (w64 (G+1))) else (ae z)
def aM2:FS1 β:=FXs (B6 n) n R7 (some FW) none [(0,zW)] [232,466,934,935]
theorem cL5 (z y:List Z26) (E G:Int):aM2 n (CW z y E G) cx=bJ5 n (fun z y E G=>cx.nrm (CW z y E G)) (fun z=>cx.ex 0 (JD z)) z y E G:=by kernel_rfl
def g45_3L (n:Nat) (ae:List Z26→Option β):Nat→List Z26→List Z26→Int→Int→Option β
  | 0,_,_,_,_=>none
  | m+1,z,y,E,G=>bJ5 n (g45_3L n ae m) ae z y E G
def dP8 (ae:List Z26→Option β) (z y:List Z26) (E G:Int):Option β:=g45_3L n ae n z y E G
def cM1 (s:FState) (cx:Cx β):Option β:=bQ (fun again s=>aM2 n s {cx with nrm:=again}) n s
theorem bZ6 (n:Nat) (cx:Cx β):∀(m:Nat) (z y:List Z26) (E G:Int),bQ (fun again s=>aM2 n s {cx with nrm:=again}) m (CW z y E G)=g45_3L n (fun z=>cx.ex 0 (JD z)) m z y E G:=by
  intro m
  induction m with
  | zero=>intros;rfl
  | succ m ih=>intros;simp only [bQ,g45_3L,cL5,ih]
theorem dR9 (z y:List Z26) (E G:Int):cM1 n (CW z y E G) cx=dP8 n (fun z=>cx.ex 0 (JD z)) z y E G:=bZ6 n cx n z y E G
def eD5 (kn:List Z26→Option β) (z y:List Z26) (E G:Int):Option β:=dP8 n kn z y E G
def dW8 (s:FState) (cx:Cx β):Option β:=cM1 n s {cx with ex:=fun j s=>bif Nat.beq j 0 then cx.nrm s else cx.ex j s}
theorem dI9 (z y:List Z26) (E G:Int):dW8 n (CW z y E G) cx=eD5 n (fun z=>cx.nrm (JD z)) z y E G:=dR9 n _ z y E G
def dE5 (n:Nat) (kr:List Z26→Option β) (z:List Z26):Option β:=kr z
def dW5:FS1 β:=FXs (B6 n) n R7 none (some WC) [] [30,31]
theorem cY8 (z:List Z26):dW5 n (JD z) cx=dE5 n (fun L=>cx.ret (dN7 L)) z:=by kernel_rfl
def bM7 (kr:List Z26→Option β) (M:List Z26):Option β:=dL9 n (fun z y E G=>eD5 n (fun z=>dE5 n kr z) z y E G) M
def VO (s:FState) (cx:Cx β):Option β:=dC2 n s {cx with nrm:=fun s=>dW8 n s {cx with nrm:=fun s=>dW5 n s cx}}
theorem dZ0 (M:List Z26):VO n (X0 M) cx=bM7 n (fun L=>cx.ret (dN7 L)) M:=by simp only [VO,bM7,dT2,dI9,cY8]
def g45 (M:List Z26):Option (DenR [.rw Z21 68]):=bM7 n (fun L=>some (L,())) M
def eR8:List AK:=[.ro Z22 115]
def dZ7:List RK:=[.rw Z21 68]
def fF1 (d:DenA eR8):Option (DenR dZ7):=g45 n d.1
def eW0:Spec:=aP eR8 dZ7 (fF1 n)
def eU0:Sk:=(.nd (.fin none none none [] .leaf) (.nd (.fin none none none [] .leaf) (.nd (.nd (.fin none (some FW) none [] .leaf) (.nd (.nd (.nd (.fin none none none [(0,zW)] .leaf) (.nd (.fin none none none [(0,zW)] .leaf) (.nd (.fin none none none [(0,zW)] .leaf) (.fin none (some FW) none [(0,zW)] .leaf)))) .leaf) .leaf)) (.nd (.fin none none (some WC) [] .leaf) (.fin none none (some WC) [] .leaf)))))
theorem eF5 (s:FState) (cx:Cx β):FX (B6 n) n R7 eU0 s cx=VO n s cx:=by kernel_rfl
theorem eG4:Fit Tryd.prog 45 (eW0 n):=
  cH (Γ:=Γ0) (l:=eV7 n) (n:=n) (sk:=eU0) (ts:=[(2,none)]) (fn:=Tryd.f45) (c:=R7) (by kernel_rfl) (by kernel_rfl) (by unfold aS;kernel_rfl) cF trivial aN (by kernel_rfl) (by kernel_rfl) (Nat.le_of_ble_eq_true (by kernel_rfl)) (Nat.le_of_ble_eq_true (by kernel_rfl)) (by kernel_rfl) (by kernel_rfl)
    (fun d=>(eF5 n _ _).trans (Eq.trans (b:=VO n (X0 d.1) (cN (B6 n) dZ7 [(2,none)])) (by kernel_rfl) ((dZ0 n _ d.1).trans (by kernel_rfl))))
theorem dX7:fB6 Tryd.prog 67 2:=fun vs w hv=>by
  obtain ⟨C,p1,rfl⟩:=fJ1 hv
  refine callsD_of_wpS (fn:=Tryd.f67) (c:=fb Tryd.f67) (by kernel_rfl) (by kernel_rfl) fun c₀ cs hu=>?_
  show Code.wpS Tryd.prog (.seq (nav (fb Tryd.f67) [0]) (.cond (.tmp 3) (nav (fb Tryd.f67) [1,0]) .skip)) _ _ _ _
  apply wpS_seq
  apply wpS_region
  simp [wpOpsS,go_sem,recoverD,hu,Exit.thenS]
  refine wpS_cond (t:=false) (by simp [Act.eval,Array.replicate]) ?_
  simp only [Bool.false_eq_true,if_false]
  refine wpS_of_wp (wp_skip ?_)
  cases c₀
  simp_all [bodyPostS,results]
def dC5 (Y:Z9) (J R:BA) (v3:Bool):FState:=⟨aI [(0,.dat Z2 Y),(1,.dat .str J),(2,.dat .str R),(3,.dat .bool v3)],aE []⟩
def aT5 (p8:(List Z26)) (p9:Int):FState:=⟨aI [(8,.ptr 8 0 0),(9,.ptr 9 0 0)],aE [(8,.row (.sl 68 Z21) 27 true [p8]),(9,.row (.int .i64) 3 true [p9])]⟩
def SS:List NE:=[.ptr 8 (.sl 68 Z21) 27 true,.ptr 9 (.int .i64) 3 true]
def MJ (J R:BA) (v3:Bool) (p4:Z9) (p8:(List Z26)) (p9:Int):FState:=⟨aI [(1,.dat .str J),(2,.dat .str R),(3,.dat .bool v3),(4,.ptr 4 0 0),(8,.ptr 8 0 0),(9,.ptr 9 0 0)],aE [(4,.row Z2 59 true [p4]),(8,.row (.sl 68 Z21) 27 true [p8]),(9,.row (.int .i64) 3 true [p9])]⟩
def GA:List NE:=[.keep 1,.keep 2,.keep 3,.ptr 4 Z2 59 true,.ptr 8 (.sl 68 Z21) 27 true,.ptr 9 (.int .i64) 3 true]
def eT1:List (Nat×Spec):=[(45,eW0 n),(62,eP0 n),(68,eU6 n)]
def xJ:Ctx:={Γ0 with calls:=lkS (eT1 n)}
def rC:Code:=fb Tryd.f40
def B4 (n:Nat) (kn:BA→BA→Bool→Z9→(List Z26)→Int→Option β) (Y:Z9) (J R:BA) (v3:Bool):Option β:=kn J R v3 Y ([]:List Z26) (0:Int)
def cN3:FS1 β:=FXs (xJ n) n rC (some GA) none [] [2]
theorem cZ0 (Y:Z9) (J R:BA) (v3:Bool):cN3 n (dC5 Y J R v3) cx=B4 n (fun J R v3 p4 p8 p9=>cx.nrm (MJ J R v3 p4 p8 p9)) Y J R v3:=by kernel_rfl
def A8 (kr:(List Z26)→Int→Option β) (J R:BA) (v3:Bool) (p4:Z9) (p8:(List Z26)) (p9:Int):Option β:=(g62 n p4).bind fun V=>(g68 n V.1 J R v3).bind fun r2=>(g45 n r2.1).bind fun r3=>kr r3.1 (0:Int)
def dN2:FS1 β:=FXs (xJ n) n rC none (some SS) [] [14,15]
theorem dL4 (J R:BA) (v3:Bool) (p4:Z9) (p8:(List Z26)) (p9:Int):dN2 n (MJ J R v3 p4 p8 p9) cx=A8 n (fun p8 p9=>cx.ret (aT5 p8 p9)) J R v3 p4 p8 p9:=by kernel_rfl
def g40 (Y:Z9) (J R:BA) (v3:Bool):Option (DenR [.ro Z21 68,.dat (.int .i64)]):=B4 n (fun J R v3 p4 p8 p9=>A8 n (fun p8 p9=>some (p8,(p9,()))) J R v3 p4 p8 p9) Y J R v3
def eU7:List AK:=[.dat Z2,.dat .str,.dat .str,.dat .bool]
def E0:List RK:=[.ro Z21 68,.dat (.int .i64)]
def fH4 (d:DenA eU7):Option (DenR E0):=g40 n d.1 d.2.1 d.2.2.1 d.2.2.2.1
def eQ4:Spec:=aP eU7 E0 (fH4 n)
def eX1:Sk:=(.fin none (some GA) none [] .leaf)
def Y8:Sk:=(.nd (.fin none none (some SS) [] .leaf) (.fin none none (some SS) [] .leaf))
def u0:Sk:=(.fin (some GA) none none [] Y8)
theorem eH3 (s:FState) (cx:Cx β):FX (xJ n) n (nav rC [1,1]) Y8 s cx=dN2 n s cx:=by kernel_rfl
theorem eK7 (κ:FState→Option β) (J R:BA) (v3:Bool) (p4:Z9) (p8:(List Z26)) (p9:Int):vG (xJ n) GA (FState.set (MJ J R v3 p4 p8 p9) 10 .dead) κ=κ (MJ J R v3 p4 p8 p9):=by kernel_rfl
theorem eG6 (J R:BA) (v3:Bool) (p4:Z9) (p8:(List Z26)) (p9:Int):FX (xJ n) n (nav rC [1,1]) u0 (FState.set (MJ J R v3 p4 p8 p9) 10 .dead) cx=A8 n (fun p8 p9=>cx.ret (aT5 p8 p9)) J R v3 p4 p8 p9:=
  (eY9 (c:=nav rC [1,1]) (k:=Y8) (show nav rC [1,1]= .seq (nav rC [1,1,0]) (nav rC [1,1,1]) by kernel_rfl) rfl).trans ((eK7 n _ J R v3 p4 p8 p9).trans ((eH3 n _ _).trans (dL4 n cx J R v3 p4 p8 p9)))
theorem eN4:Fit Tryd.prog 40 (eQ4 n):=
  ZG (Γ:=Γ0) (l:=eT1 n) (n:=n) (sk0:=eX1) (sk1:=u0) (ts:=[(8,some 27),(9,some 3)]) (fn:=Tryd.f40) (c:=rC) (c0:=nav rC [0]) (c1:=nav rC [1,1]) (tm:=10) (g:=67) (k:=2) (by kernel_rfl) (by kernel_rfl) (by kernel_rfl) (by unfold aS;kernel_rfl) cF ⟨eG4 n,eH0 n,eF6 n,trivial⟩ aN (by unfold aS;kernel_rfl) dX7 (by kernel_rfl) (by kernel_rfl) (by kernel_rfl) (Nat.le_of_ble_eq_true (by kernel_rfl)) (Nat.le_of_ble_eq_true (by kernel_rfl)) (Nat.le_of_ble_eq_true (by kernel_rfl)) (by kernel_rfl) (by kernel_rfl)
    (fun d=>Eq.trans (b:=cN3 n (dC5 d.1 d.2.1 d.2.2.1 d.2.2.2.1) ⟨fun s=>FX (xJ n) n (nav rC [1,1]) u0 (FState.set s 10 .dead) (cN (xJ n) E0 [(8,some 27),(9,some 3)]),fun _=>none,fun _ _=>none⟩) (by kernel_rfl) ((cZ0 n _ d.1 d.2.1 d.2.2.1 d.2.2.2.1).trans (Eq.trans (b:=B4 n (fun J R v3 p4 p8 p9=>A8 n (fun p8 p9=>(cN (xJ n) E0 [(8,some 27),(9,some 3)]).ret (aT5 p8 p9)) J R v3 p4 p8 p9) d.1 d.2.1 d.2.2.1 d.2.2.2.1) (congrArg (fun k_=>B4 n k_ d.1 d.2.1 d.2.2.1 d.2.2.2.1) (funext fun J=>(funext fun R=>(funext fun v3=>(funext fun p4=>(funext fun p8=>(funext fun p9=>eG6 n (cN (xJ n) E0 [(8,some 27),(9,some 3)]) J R v3 p4 p8 p9))))))) (by kernel_rfl))))
def cX1 (M:List Z26) (J:Int):FState:=⟨aI [(0,.sl 0 none false),(1,.dat (.int .i64) J)],aE [(0,.row Z21 68 false M)]⟩
def fA7 (x4:List Z26):FState:=⟨aI [(4,.sl 4 none false)],aE [(4,.row Z21 68 false x4)]⟩
def tK:List NE:=[.row 4 Z21 68 false]
def eR5 (n:Nat):List (Nat×Spec):=[]
def dN9:Ctx:={Γ0 with calls:=lkS (eR5 n)}
def dU0:Code:=fb Tryd.f65
def eS5 (n:Nat) (kr:List Z26→Option β) (M:List Z26) (J:Int):Option β:=bif (J !=(0:Int)) then (kr [((1:Int),(⟨#[0,102,97,117,108,116]⟩:BA)),((1:Int),(⟨#[]⟩:BA))]) else (kr M)
def p3:FS1 β:=FXs (dN9 n) n dU0 none (some tK) [] [2,12,13,14,15]
theorem cX7 (M:List Z26) (J:Int):p3 n (cX1 M J) cx=eS5 n (fun x4=>cx.ret (fA7 x4)) M J:=by kernel_rfl
def g65 (M:List Z26) (J:Int):Option (DenR [.ro Z21 68]):=eS5 n (fun x4=>some (x4,())) M J
def eR7:List AK:=[.ro Z21 68,.dat (.int .i64)]
def cV8:List RK:=[.ro Z21 68]
def fF8 (d:DenA eR7):Option (DenR cV8):=g65 n d.1 d.2.1
def eO6:Spec:=aP eR7 cV8 (fF8 n)
def eR2:Sk:=(.nd (.fin none none (some tK) [] .leaf) (.nd (.nd (.fin none none (some tK) [] .leaf) (.fin none none (some tK) [] .leaf)) (.nd (.fin none none (some tK) [] .leaf) (.fin none none (some tK) [] .leaf))))
theorem eJ1 (s:FState) (cx:Cx β):FX (dN9 n) n dU0 eR2 s cx=p3 n s cx:=by kernel_rfl
theorem eH4:Fit Tryd.prog 65 (eO6 n):=
  cH (Γ:=Γ0) (l:=eR5 n) (n:=n) (sk:=eR2) (ts:=[(4,none)]) (fn:=Tryd.f65) (c:=dU0) (by kernel_rfl) (by kernel_rfl) (by unfold aS;kernel_rfl) cF trivial aN (by kernel_rfl) (by kernel_rfl) (Nat.le_of_ble_eq_true (by kernel_rfl)) (Nat.le_of_ble_eq_true (by kernel_rfl)) (by kernel_rfl) (by kernel_rfl)
    (fun d=>(eJ1 n _ _).trans (Eq.trans (b:=p3 n (cX1 d.1 d.2.1) (cN (dN9 n) cV8 [(4,none)])) (by kernel_rfl) ((cX7 n _ d.1 d.2.1).trans (by kernel_rfl))))
def dK4 (Y J:BA) (R:Bool):FState:=⟨aI [(0,.dat .str Y),(1,.dat .str J),(2,.dat .bool R)],aE []⟩
def fA2 (y:List Z26):FState:=⟨aI [(6,.sl 6 none false)],aE [(6,.row Z21 68 false y)]⟩
def yQ:List NE:=[.row 6 Z21 68 false]
def eW1:List (Nat×Spec):=[(40,eQ4 n),(65,eO6 n)]
def dL8:Ctx:={Γ0 with calls:=lkS (eW1 n)}
def dC1:Code:=fb Tryd.f39
def cS9 (kr:List Z26→Option β) (Y J:BA) (R:Bool):Option β:=(g40 n (false,((0:Int),((0:Int),((0:Nat),((0:Nat),((0:Int),(0:Int))))))) Y J R).bind fun V=>(g65 n V.1 V.2.1).bind fun r2=>kr r2.1
def aN1:FS1 β:=FXs (dL8 n) n dC1 none (some yQ) [] [2,6,14,15]
theorem cT1 (Y J:BA) (R:Bool):aN1 n (dK4 Y J R) cx=cS9 n (fun y=>cx.ret (fA2 y)) Y J R:=by kernel_rfl
def g39 (Y J:BA) (R:Bool):Option (DenR [.ro Z21 68]):=cS9 n (fun y=>some (y,())) Y J R
def eS3:List AK:=[.dat .str,.dat .str,.dat .bool]
def dW9:List RK:=[.ro Z21 68]
def fE4 (d:DenA eS3):Option (DenR dW9):=g39 n d.1 d.2.1 d.2.2.1
def eQ6:Spec:=aP eS3 dW9 (fE4 n)
def eS1:Sk:=(.nd (.fin none none (some yQ) [] .leaf) (.nd (.fin none none (some yQ) [] .leaf) (.nd (.fin none none (some yQ) [] .leaf) (.fin none none (some yQ) [] .leaf))))
theorem eN8 (s:FState) (cx:Cx β):FX (dL8 n) n dC1 eS1 s cx=aN1 n s cx:=by kernel_rfl
theorem eL6:Fit Tryd.prog 39 (eQ6 n):=
  cH (Γ:=Γ0) (l:=eW1 n) (n:=n) (sk:=eS1) (ts:=[(6,none)]) (fn:=Tryd.f39) (c:=dC1) (by kernel_rfl) (by kernel_rfl) (by unfold aS;kernel_rfl) cF ⟨eN4 n,eH4 n,trivial⟩ aN (by kernel_rfl) (by kernel_rfl) (Nat.le_of_ble_eq_true (by kernel_rfl)) (Nat.le_of_ble_eq_true (by kernel_rfl)) (by kernel_rfl) (by kernel_rfl)
    (fun d=>(eN8 n _ _).trans (Eq.trans (b:=aN1 n (dK4 d.1 d.2.1 d.2.2.1) (cN (dL8 n) dW9 [(6,none)])) (by kernel_rfl) ((cT1 n _ d.1 d.2.1 d.2.2.1).trans (by kernel_rfl))))
def aM4 (M:List Z26):FState:=⟨aI [(0,.sl 0 none false)],aE [(0,.row Z21 68 false M)]⟩
def cV6 (R:BA):FState:=⟨aI [(2,.dat .str R)],aE []⟩
def UL:List NE:=[.keep 2]
def CT (v3:BA) (y:List Z26) (E G:Int):FState:=⟨aI [(3,.dat .str v3),(6,.sl 6 none false),(7,.dat (.int .i64) E),(8,.dat (.int .i64) G)],aE [(6,.row Z21 68 false y)]⟩
def FE:List NE:=[.keep 3,.row 6 Z21 68 false,.keep 7,.keep 8]
def JX (v3:BA):FState:=⟨aI [(3,.dat .str v3)],aE []⟩
def yU:List NE:=[.keep 3]
def eP4 (n:Nat):List (Nat×Spec):=[]
def K5:Ctx:={Γ0 with calls:=lkS (eP4 n)}
def T6:Code:=fb Tryd.f34
def eT6 (n:Nat) (kn:BA→List Z26→Int→Int→Option β) (M:List Z26):Option β:=kn (⟨#[]⟩:BA) M (M.length:Int) (0:Int)
def dI5:FS1 β:=FXs (K5 n) n T6 (some FE) none [] [2,6,28]
theorem dJ3 (M:List Z26):dI5 n (aM4 M) cx=eT6 n (fun v3 y E G=>cx.nrm (CT v3 y E G)) M:=by kernel_rfl
def bK2 (n:Nat) (kn:BA→List Z26→Int→Int→Option β) (ae:BA→Option β) (v3:BA) (y:List Z26) (E G:Int):Option β:=bif (decide (G < E)) then (idx G (y.length:Int)<|bif ((rd [(rd y G Z17)] (0:Int) Z17).1 !=(1:Int)) then (cM (v3.size+((rd [(rd y G Z17)] (0:Int) Z17).2).size)<|kn (v3++(rd [(rd y G Z17)] (0:Int) Z17).2) y E (w64 (G+1))) else (kn v3 y E (w64 (G+1)))) else (ae v3)
def y6:FS1 β:=FXs (K5 n) n T6 (some FE) none [(0,yU)] [232,466,934,935]
theorem eD8 (v3:BA) (y:List Z26) (E G:Int):y6 n (CT v3 y E G) cx=bK2 n (fun v3 y E G=>cx.nrm (CT v3 y E G)) (fun v3=>cx.ex 0 (JX v3)) v3 y E G:=by kernel_rfl
def g34_3L (n:Nat) (ae:BA→Option β):Nat→BA→List Z26→Int→Int→Option β
  | 0,_,_,_,_=>none
  | m+1,v3,y,E,G=>bK2 n (g34_3L n ae m) ae v3 y E G
def eQ9 (ae:BA→Option β) (v3:BA) (y:List Z26) (E G:Int):Option β:=g34_3L n ae n v3 y E G
def cT5 (s:FState) (cx:Cx β):Option β:=bQ (fun again s=>y6 n s {cx with nrm:=again}) n s
theorem cC3 (n:Nat) (cx:Cx β):∀(m:Nat) (v3:BA) (y:List Z26) (E G:Int),bQ (fun again s=>y6 n s {cx with nrm:=again}) m (CT v3 y E G)=g34_3L n (fun v3=>cx.ex 0 (JX v3)) m v3 y E G:=by
  intro m
  induction m with
  | zero=>intros;rfl
  | succ m ih=>intros;simp only [bQ,g34_3L,eD8,ih]
theorem dB8 (v3:BA) (y:List Z26) (E G:Int):cT5 n (CT v3 y E G) cx=eQ9 n (fun v3=>cx.ex 0 (JX v3)) v3 y E G:=cC3 n cx n v3 y E G
def eT3 (kn:BA→Option β) (v3:BA) (y:List Z26) (E G:Int):Option β:=eQ9 n kn v3 y E G
def cN5 (s:FState) (cx:Cx β):Option β:=cT5 n s {cx with ex:=fun j s=>bif Nat.beq j 0 then cx.nrm s else cx.ex j s}
theorem dQ1 (v3:BA) (y:List Z26) (E G:Int):cN5 n (CT v3 y E G) cx=eT3 n (fun v3=>cx.nrm (JX v3)) v3 y E G:=dB8 n _ v3 y E G
def eT9 (n:Nat) (kr:BA→Option β) (v3:BA):Option β:=kr v3
def dD8:FS1 β:=FXs (K5 n) n T6 none (some UL) [] [30,31]
theorem cQ1 (v3:BA):dD8 n (JX v3) cx=eT9 n (fun R=>cx.ret (cV6 R)) v3:=by kernel_rfl
def cT8 (kr:BA→Option β) (M:List Z26):Option β:=eT6 n (fun v3 y E G=>eT3 n (fun v3=>eT9 n kr v3) v3 y E G) M
def RV (s:FState) (cx:Cx β):Option β:=dI5 n s {cx with nrm:=fun s=>cN5 n s {cx with nrm:=fun s=>dD8 n s cx}}
theorem dB4 (M:List Z26):RV n (aM4 M) cx=cT8 n (fun R=>cx.ret (cV6 R)) M:=by simp only [RV,cT8,dJ3,dQ1,cQ1]
def g34 (M:List Z26):Option (DenR [.dat .str]):=cT8 n (fun R=>some (R,())) M
def eP2:List AK:=[.ro Z21 68]
def dP9:List RK:=[.dat .str]
def fG6 (d:DenA eP2):Option (DenR dP9):=g34 n d.1
def eR6:Spec:=aP eP2 dP9 (fG6 n)
def eT5:Sk:=(.nd (.fin none none none [] .leaf) (.nd (.fin none none none [] .leaf) (.nd (.nd (.fin none (some FE) none [] .leaf) (.nd (.nd (.nd (.fin none none none [(0,yU)] .leaf) (.nd (.fin none none none [(0,yU)] .leaf) (.nd (.fin none none none [(0,yU)] .leaf) (.fin none (some FE) none [(0,yU)] .leaf)))) .leaf) .leaf)) (.nd (.fin none none (some UL) [] .leaf) (.fin none none (some UL) [] .leaf)))))
theorem eL4 (s:FState) (cx:Cx β):FX (K5 n) n T6 eT5 s cx=RV n s cx:=by kernel_rfl
theorem eN2:Fit Tryd.prog 34 (eR6 n):=
  cH (Γ:=Γ0) (l:=eP4 n) (n:=n) (sk:=eT5) (ts:=[(2,none)]) (fn:=Tryd.f34) (c:=T6) (by kernel_rfl) (by kernel_rfl) (by unfold aS;kernel_rfl) cF trivial aN (by kernel_rfl) (by kernel_rfl) (Nat.le_of_ble_eq_true (by kernel_rfl)) (Nat.le_of_ble_eq_true (by kernel_rfl)) (by kernel_rfl) (by kernel_rfl)
    (fun d=>(eL4 n _ _).trans (Eq.trans (b:=RV n (aM4 d.1) (cN (K5 n) dP9 [(2,none)])) (by kernel_rfl) ((dB4 n _ d.1).trans (by kernel_rfl))))
def aN2 (M:List Z26):FState:=⟨aI [(0,.sl 0 none false)],aE [(0,.row Z21 68 false M)]⟩
def cM0 (R:BA):FState:=⟨aI [(2,.dat .str R)],aE []⟩
def QW:List NE:=[.keep 2]
def CR (v3:BA) (y:List Z26) (E G:Int):FState:=⟨aI [(3,.dat .str v3),(6,.sl 6 none false),(7,.dat (.int .i64) E),(8,.dat (.int .i64) G)],aE [(6,.row Z21 68 false y)]⟩
def FP:List NE:=[.keep 3,.row 6 Z21 68 false,.keep 7,.keep 8]
def LC (v3:BA):FState:=⟨aI [(3,.dat .str v3)],aE []⟩
def AT:List NE:=[.keep 3]
def eP7 (n:Nat):List (Nat×Spec):=[]
def G3:Ctx:={Γ0 with calls:=lkS (eP7 n)}
def S9:Code:=fb Tryd.f35
def eQ3 (n:Nat) (kn:BA→List Z26→Int→Int→Option β) (M:List Z26):Option β:=kn (⟨#[]⟩:BA) M (M.length:Int) (0:Int)
def dA9:FS1 β:=FXs (G3 n) n S9 (some FP) none [] [2,6,28]
theorem cZ4 (M:List Z26):dA9 n (aN2 M) cx=eQ3 n (fun v3 y E G=>cx.nrm (CR v3 y E G)) M:=by kernel_rfl
def bE1 (n:Nat) (kn:BA→List Z26→Int→Int→Option β) (ae:BA→Option β) (v3:BA) (y:List Z26) (E G:Int):Option β:=bif (decide (G < E)) then (idx G (y.length:Int)<|bif ((rd [(rd y G Z17)] (0:Int) Z17).1 !=(-1:Int)) then (cM (v3.size+((rd [(rd y G Z17)] (0:Int) Z17).2).size)<|kn (v3++(rd [(rd y G Z17)] (0:Int) Z17).2) y E (w64 (G+1))) else (kn v3 y E (w64 (G+1)))) else (ae v3)
def aI3:FS1 β:=FXs (G3 n) n S9 (some FP) none [(0,AT)] [232,466,934,935]
theorem cP8 (v3:BA) (y:List Z26) (E G:Int):aI3 n (CR v3 y E G) cx=bE1 n (fun v3 y E G=>cx.nrm (CR v3 y E G)) (fun v3=>cx.ex 0 (LC v3)) v3 y E G:=by kernel_rfl
def g35_3L (n:Nat) (ae:BA→Option β):Nat→BA→List Z26→Int→Int→Option β
  | 0,_,_,_,_=>none
  | m+1,v3,y,E,G=>bE1 n (g35_3L n ae m) ae v3 y E G
def eS8 (ae:BA→Option β) (v3:BA) (y:List Z26) (E G:Int):Option β:=g35_3L n ae n v3 y E G
def dN8 (s:FState) (cx:Cx β):Option β:=bQ (fun again s=>aI3 n s {cx with nrm:=again}) n s
theorem bW4 (n:Nat) (cx:Cx β):∀(m:Nat) (v3:BA) (y:List Z26) (E G:Int),bQ (fun again s=>aI3 n s {cx with nrm:=again}) m (CR v3 y E G)=g35_3L n (fun v3=>cx.ex 0 (LC v3)) m v3 y E G:=by
  intro m
  induction m with
  | zero=>intros;rfl
  | succ m ih=>intros;simp only [bQ,g35_3L,cP8,ih]
theorem dH6 (v3:BA) (y:List Z26) (E G:Int):dN8 n (CR v3 y E G) cx=eS8 n (fun v3=>cx.ex 0 (LC v3)) v3 y E G:=bW4 n cx n v3 y E G
def eQ0 (kn:BA→Option β) (v3:BA) (y:List Z26) (E G:Int):Option β:=eS8 n kn v3 y E G
def dN3 (s:FState) (cx:Cx β):Option β:=dN8 n s {cx with ex:=fun j s=>bif Nat.beq j 0 then cx.nrm s else cx.ex j s}
theorem dF8 (v3:BA) (y:List Z26) (E G:Int):dN3 n (CR v3 y E G) cx=eQ0 n (fun v3=>cx.nrm (LC v3)) v3 y E G:=dH6 n _ v3 y E G
def eP3 (n:Nat) (kr:BA→Option β) (v3:BA):Option β:=kr v3
def dM0:FS1 β:=FXs (G3 n) n S9 none (some QW) [] [30,31]
theorem cY0 (v3:BA):dM0 n (LC v3) cx=eP3 n (fun R=>cx.ret (cM0 R)) v3:=by kernel_rfl
def dS1 (kr:BA→Option β) (M:List Z26):Option β:=eQ3 n (fun v3 y E G=>eQ0 n (fun v3=>eP3 n kr v3) v3 y E G) M
def RS (s:FState) (cx:Cx β):Option β:=dA9 n s {cx with nrm:=fun s=>dN3 n s {cx with nrm:=fun s=>dM0 n s cx}}
theorem dK9 (M:List Z26):RS n (aN2 M) cx=dS1 n (fun R=>cx.ret (cM0 R)) M:=by simp only [RS,dS1,cZ4,dF8,cY0]
def g35 (M:List Z26):Option (DenR [.dat .str]):=dS1 n (fun R=>some (R,())) M
def eQ7:List AK:=[.ro Z21 68]
def cX3:List RK:=[.dat .str]
def fF3 (d:DenA eQ7):Option (DenR cX3):=g35 n d.1
def eU1:Spec:=aP eQ7 cX3 (fF3 n)
def eS2:Sk:=(.nd (.fin none none none [] .leaf) (.nd (.fin none none none [] .leaf) (.nd (.nd (.fin none (some FP) none [] .leaf) (.nd (.nd (.nd (.fin none none none [(0,AT)] .leaf) (.nd (.fin none none none [(0,AT)] .leaf) (.nd (.fin none none none [(0,AT)] .leaf) (.fin none (some FP) none [(0,AT)] .leaf)))) .leaf) .leaf)) (.nd (.fin none none (some QW) [] .leaf) (.fin none none (some QW) [] .leaf)))))
theorem eL8 (s:FState) (cx:Cx β):FX (G3 n) n S9 eS2 s cx=RS n s cx:=by kernel_rfl
theorem eI8:Fit Tryd.prog 35 (eU1 n):=
  cH (Γ:=Γ0) (l:=eP7 n) (n:=n) (sk:=eS2) (ts:=[(2,none)]) (fn:=Tryd.f35) (c:=S9) (by kernel_rfl) (by kernel_rfl) (by unfold aS;kernel_rfl) cF trivial aN (by kernel_rfl) (by kernel_rfl) (Nat.le_of_ble_eq_true (by kernel_rfl)) (Nat.le_of_ble_eq_true (by kernel_rfl)) (by kernel_rfl) (by kernel_rfl)
    (fun d=>(eL8 n _ _).trans (Eq.trans (b:=RS n (aN2 d.1) (cN (G3 n) cX3 [(2,none)])) (by kernel_rfl) ((dK9 n _ d.1).trans (by kernel_rfl))))
def eD4 (Y J:BA) (R:Bool):FState:=⟨aI [(0,.dat .str Y),(1,.dat .str J),(2,.dat .bool R)],aE []⟩
def fC8 (T:Bool):FState:=⟨aI [(6,.dat .bool T)],aE []⟩
def nY:List NE:=[.keep 6]
def eU2:List (Nat×Spec):=[(32,eP6 n),(34,eR6 n),(35,eU1 n),(39,eQ6 n)]
def cU5:Ctx:={Γ0 with calls:=lkS (eU2 n)}
def dD1:Code:=fb Tryd.f14
def dL0 (kr:Bool→Option β) (Y J:BA) (R:Bool):Option β:=bif (decide ((Y.size:Int)>(2147483647:Int))) then (kr true) else (bif (decide ((J.size:Int)>(2147483647:Int))) then (kr true) else ((g32 n Y (300:Int)).bind fun V=>(g32 n J (300:Int)).bind fun r2=>(g39 n V.1 r2.1 R).bind fun r3=>(g34 n r3.1).bind fun r4=>bif (eK r4.1 V.1) then ((g35 n r3.1).bind fun r5=>bif (eK r5.1 r2.1) then (bif (decide ((r3.1.length:Int)>(0:Int))) then (kr true) else (cM (V.1.size+r2.1.size)<|kr (eK (V.1++r2.1) (⟨#[]⟩:BA)))) else (kr false)) else (kr false)))
def aC8:FS1 β:=FXs (cU5 n) n dD1 none (some nY) [] [2,12,13,14,30,62,63]
theorem dT7 (Y J:BA) (R:Bool):aC8 n (eD4 Y J R) cx=dL0 n (fun T=>cx.ret (fC8 T)) Y J R:=by kernel_rfl
def g14 (Y J:BA) (R:Bool):Option (DenR [.dat .bool]):=dL0 n (fun T=>some (T,())) Y J R
def g14_A:List AK:=[.dat .str,.dat .str,.dat .bool]
def cU4:List RK:=[.dat .bool]
def dT6 (d:DenA g14_A):Option (DenR cU4):=g14 n d.1 d.2.1 d.2.2.1
def fF0:Spec:=aP g14_A cU4 (dT6 n)
def eS4:Sk:=(.nd (.fin none none (some nY) [] .leaf) (.nd (.nd (.fin none none (some nY) [] .leaf) (.fin none none (some nY) [] .leaf)) (.nd (.fin none none (some nY) [] .leaf) (.nd (.fin none none (some nY) [] .leaf) (.nd (.fin none none (some nY) [] .leaf) (.fin none none (some nY) [] .leaf))))))
theorem eM7 (s:FState) (cx:Cx β):FX (cU5 n) n dD1 eS4 s cx=aC8 n s cx:=by kernel_rfl
theorem eM1:Fit Tryd.prog 14 (fF0 n):=
  cH (Γ:=Γ0) (l:=eU2 n) (n:=n) (sk:=eS4) (ts:=[(6,none)]) (fn:=Tryd.f14) (c:=dD1) (by kernel_rfl) (by kernel_rfl) (by unfold aS;kernel_rfl) cF ⟨eM2 n,eN2 n,eI8 n,eL6 n,trivial⟩ aN (by kernel_rfl) (by kernel_rfl) (Nat.le_of_ble_eq_true (by kernel_rfl)) (Nat.le_of_ble_eq_true (by kernel_rfl)) (by kernel_rfl) (by kernel_rfl)
    (fun d=>(eM7 n _ _).trans (Eq.trans (b:=aC8 n (eD4 d.1 d.2.1 d.2.2.1) (cN (cU5 n) cU4 [(6,none)])) (by kernel_rfl) ((dT7 n _ d.1 d.2.1 d.2.2.1).trans (by kernel_rfl))))
end
end
end Go.Proofs.YthkiaiilpaojnaaDoorZF
