import Derived.Test.YthkiaiilpaojnaaDoorZFT
import Derived.Test.YthkiaiilpaojnaaDoorZGA0
import Derived.Test.YthkiaiilpaojnaaDoorZGA1
namespace Go.Proofs.YthkiaiilpaojnaaDoorZF
noncomputable section
open Go Go.Proofs
set_option linter.unusedVariables false
set_option maxRecDepth 100000
variable {β:Type}
def iB:List AK:=[.pro Z1 106,.ro (.int .i32) 21,.ro (.int .i32) 21]
def fJ:List RK:=[.rw Z22 115]
def eS:List AK:=[.pro Z1 106,.ro (.int .i32) 21,.ro (.int .i32) 21,.dat .bool]
def dC:List RK:=[.rw Z22 115]
def eO:List AK:=[.pro Z1 106,.ro (.int .i32) 21,.ro (.int .i32) 21]
def dL:List RK:=[.rw Z22 115]
def eT:List AK:=[.pro Z1 106,.ro (.int .i32) 21,.ro (.int .i32) 21,.dat .bool]
def dQ:List RK:=[.rw Z22 115]
def eH:List AK:=[.pro Z1 106,.ro (.int .i32) 21,.ro (.int .i32) 21,.dat (.int .i64),.dat (.int .i64)]
def dW:List RK:=[.rw Z22 115]
abbrev Q91:=DenA iB→Option (DenR fJ)
abbrev aL:=DenA eS→Option (DenR dC)
abbrev aK:=DenA eO→Option (DenR dL)
abbrev aJ:=DenA eT→Option (DenR dQ)
abbrev aI:=DenA eH→Option (DenR dW)
def aB4 (C:Z11) (B L:List Int):FState:=⟨aM [(0,.ptr 0 0 0),(1,.sl 1 none false),(2,.sl 2 none false)],aE [(0,.row Z1 106 false [C]),(1,.row (.int .i32) 21 false B),(2,.row (.int .i32) 21 false L)]⟩
def dN9 (y:List Z26):FState:=⟨aM [(6,.sl 6 none false)],aE [(6,.row Z22 115 true y)]⟩
def TE:List NE:=[.row 6 Z22 115 true]
def dZ (C:Z11) (X:List Z26) (F I H:Int) (N q:BA):FState:=⟨aM [(0,.ptr 0 0 0),(8,.sl 8 none false),(9,.dat (.int .i64) F),(10,.dat (.int .i64) I),(11,.dat (.int .i64) H),(12,.dat .str N),(13,.dat .str q)],aE [(0,.row Z1 106 false [C]),(8,.row Z22 115 true X)]⟩
def iK:List NE:=[.ptr 0 Z1 106 false,.row 8 Z22 115 true,.keep 9,.keep 10,.keep 11,.keep 12,.keep 13]
def CO (X:List Z26):FState:=⟨aM [(8,.sl 8 none false)],aE [(8,.row Z22 115 true X)]⟩
def UK:List NE:=[.row 8 Z22 115 true]
def QW (C:Z11) (X:List Z26) (F I H:Int) (N q:BA) (al:Int):FState:=⟨aM [(0,.ptr 0 0 0),(8,.sl 8 none false),(9,.dat (.int .i64) F),(10,.dat (.int .i64) I),(11,.dat (.int .i64) H),(12,.dat .str N),(13,.dat .str q),(49,.dat (.int .i8) al)],aE [(0,.row Z1 106 false [C]),(8,.row Z22 115 true X)]⟩
def bO0:List NE:=[.ptr 0 Z1 106 false,.row 8 Z22 115 true,.keep 9,.keep 10,.keep 11,.keep 12,.keep 13,.keep 49]
def JV (C:Z11) (X:List Z26) (F I H:Int) (N q:BA) (al:Int) (bi:Bool):FState:=⟨aM [(0,.ptr 0 0 0),(8,.sl 8 none false),(9,.dat (.int .i64) F),(10,.dat (.int .i64) I),(11,.dat (.int .i64) H),(12,.dat .str N),(13,.dat .str q),(49,.dat (.int .i8) al),(50,.dat .bool bi)],aE [(0,.row Z1 106 false [C]),(8,.row Z22 115 true X)]⟩
def bH9:List NE:=[.ptr 0 Z1 106 false,.row 8 Z22 115 true,.keep 9,.keep 10,.keep 11,.keep 12,.keep 13,.keep 49,.keep 50]
def HW (C:Z11) (X:List Z26) (F I H:Int) (N q:BA) (al:Int) (ar:Bool):FState:=⟨aM [(0,.ptr 0 0 0),(8,.sl 8 none false),(9,.dat (.int .i64) F),(10,.dat (.int .i64) I),(11,.dat (.int .i64) H),(12,.dat .str N),(13,.dat .str q),(49,.dat (.int .i8) al),(61,.dat .bool ar)],aE [(0,.row Z1 106 false [C]),(8,.row Z22 115 true X)]⟩
def bO3:List NE:=[.ptr 0 Z1 106 false,.row 8 Z22 115 true,.keep 9,.keep 10,.keep 11,.keep 12,.keep 13,.keep 49,.keep 61]
def IU (C:Z11) (X:List Z26) (F I H:Int) (N q:BA) (bj:Bool):FState:=⟨aM [(0,.ptr 0 0 0),(8,.sl 8 none false),(9,.dat (.int .i64) F),(10,.dat (.int .i64) I),(11,.dat (.int .i64) H),(12,.dat .str N),(13,.dat .str q),(72,.dat .bool bj)],aE [(0,.row Z1 106 false [C]),(8,.row Z22 115 true X)]⟩
def bA1:List NE:=[.ptr 0 Z1 106 false,.row 8 Z22 115 true,.keep 9,.keep 10,.keep 11,.keep 12,.keep 13,.keep 72]
def xL (C:Z11) (X:List Z26) (F I H:Int) (N q:BA) (bk:Bool):FState:=⟨aM [(0,.ptr 0 0 0),(8,.sl 8 none false),(9,.dat (.int .i64) F),(10,.dat (.int .i64) I),(11,.dat (.int .i64) H),(12,.dat .str N),(13,.dat .str q),(79,.dat .bool bk)],aE [(0,.row Z1 106 false [C]),(8,.row Z22 115 true X)]⟩
def D6:List NE:=[.ptr 0 Z1 106 false,.row 8 Z22 115 true,.keep 9,.keep 10,.keep 11,.keep 12,.keep 13,.keep 79]
def yX (C:Z11) (X:List Z26) (F:Int):FState:=⟨aM [(0,.ptr 0 0 0),(8,.sl 8 none false),(9,.dat (.int .i64) F)],aE [(0,.row Z1 106 false [C]),(8,.row Z22 115 true X)]⟩
def BK:List NE:=[.ptr 0 Z1 106 false,.row 8 Z22 115 true,.keep 9]
def tG (C:Z11) (X:List Z26) (F:Int) (av:List Z26) (U:Int):FState:=⟨aM [(0,.ptr 0 0 0),(8,.sl 8 none false),(9,.dat (.int .i64) F),(14,.sl 14 none false),(15,.dat (.int .i64) U)],aE [(0,.row Z1 106 false [C]),(8,.row Z22 115 true X),(14,.row Z22 115 true av)]⟩
def BS:List NE:=[.ptr 0 Z1 106 false,.row 8 Z22 115 true,.keep 9,.row 14 Z22 115 true,.keep 15]
def yC (C:Z11) (X:List Z26) (F:Int) (av:List Z26):FState:=⟨aM [(0,.ptr 0 0 0),(8,.sl 8 none false),(9,.dat (.int .i64) F),(14,.sl 14 none false)],aE [(0,.row Z1 106 false [C]),(8,.row Z22 115 true X),(14,.row Z22 115 true av)]⟩
def sA:List NE:=[.ptr 0 Z1 106 false,.row 8 Z22 115 true,.keep 9,.row 14 Z22 115 true]
section
variable (n:Nat) (q91:Q91) (aB:aL) (aC:aK) (aD:aJ) (aA:aI) (cx:Cx β)
def eM1:List (Nat×Spec):=[(109,dF3 n),(111,eA0 n),(112,cM8 n),(113,JL n),(91,aQ iB fJ q91),(110,aQ eS dC aB),(114,aQ eO dL aC),(136,aQ eT dQ aD),(143,aQ eH dW aA)]
def kR:Ctx:={Γ0 with calls:=lkS (eM1 n q91 aB aC aD aA)}
def iW:Code:=fb Tryd.f91
def dL8 (n:Nat) (q91:Q91) (aB:aL) (aC:aK) (aD:aJ) (aA:aI) (kn:Z11→List Z26→Int→Int→Int→BA→BA→Option β) (C:Z11) (B L:List Int):Option β:=(dR9 n C (runesBytes B) (runesBytes L)).bind fun W=>(aB (C,(W.1,(W.2.1,(false,()))))).bind fun r2=>(dO7 n C r2.1 W.2.2.1).bind fun r3=>(eF8 n C r3.1).bind fun r4=>cM (r4.1.length+[Z17].length)<|kn C (r4.1++[Z17]) (0:Int) (0:Int) (0:Int) (⟨#[]⟩:BA) (⟨#[]⟩:BA)
def dG6:FS1 β:=FXs (kR n q91 aB aC aD aA) n iW (some iK) none [] [2,6,14,30,62,126,254,510,1022,2046,4094]
theorem dE7 (C:Z11) (B L:List Int):dG6 n q91 aB aC aD aA (aB4 C B L) cx=dL8 n q91 aB aC aD aA (fun C X F I H N q=>cx.nrm (dZ C X F I H N q)) C B L:=by kernel_rfl
def ZR (n:Nat) (q91:Q91) (aB:aL) (aC:aK) (aD:aJ) (aA:aI) (kn:Z11→List Z26→Int→Int→Int→BA→BA→Option β) (ae:List Z26→Option β) (C:Z11) (X:List Z26) (F I H:Int) (N q:BA):Option β:=bif (decide (F < (X.length:Int))) then (kn C X F I H N q) else (ae X)
def cR4:FS1 β:=FXs (kR n q91 aB aC aD aA) n iW (some iK) none [(0,UK)] [131040,131041]
theorem cK4 (C:Z11) (X:List Z26) (F I H:Int) (N q:BA):cR4 n q91 aB aC aD aA (dZ C X F I H N q) cx=ZR n q91 aB aC aD aA (fun C X F I H N q=>cx.nrm (dZ C X F I H N q)) (fun X=>cx.ex 0 (CO X)) C X F I H N q:=by kernel_rfl
def bO2 (n:Nat) (q91:Q91) (aB:aL) (aC:aK) (aD:aJ) (aA:aI) (kn:Z11→List Z26→Int→Int→Int→BA→BA→Int→Option β) (C:Z11) (X:List Z26) (F I H:Int) (N q:BA):Option β:=idx F (X.length:Int)<|kn C X F I H N q ((rd X F Z17).1)
def cQ3:FS1 β:=FXs (kR n q91 aB aC aD aA) n iW (some bO0) none [] [524168]
theorem dR8 (C:Z11) (X:List Z26) (F I H:Int) (N q:BA):cQ3 n q91 aB aC aD aA (dZ C X F I H N q) cx=bO2 n q91 aB aC aD aA (fun C X F I H N q al=>cx.nrm (QW C X F I H N q al)) C X F I H N q:=by kernel_rfl
def aY2 (n:Nat) (q91:Q91) (aB:aL) (aC:aK) (aD:aJ) (aA:aI) (kn:Z11→List Z26→Int→Int→Int→BA→BA→Int→Bool→Option β) (C:Z11) (X:List Z26) (F I H:Int) (N q:BA) (al:Int):Option β:=kn C X F I H N q al (al==(1:Int))
def dD2:FS1 β:=FXs (kR n q91 aB aC aD aA) n iW (some bH9) none [] [2096676]
theorem dP6 (C:Z11) (X:List Z26) (F I H:Int) (N q:BA) (al:Int):dD2 n q91 aB aC aD aA (QW C X F I H N q al) cx=aY2 n q91 aB aC aD aA (fun C X F I H N q al bi=>cx.nrm (JV C X F I H N q al bi)) C X F I H N q al:=by kernel_rfl
def bH0 (n:Nat) (q91:Q91) (aB:aL) (aC:aK) (aD:aJ) (aA:aI) (kn:Z11→List Z26→Int→Int→Int→BA→BA→Option β) (C:Z11) (X:List Z26) (F I H:Int) (N q:BA) (al:Int) (bi:Bool):Option β:=idx F (X.length:Int)<|cM (q.size+((rd X F Z17).2).size)<|kn C X F I (w64 (H+1)) N (q++(rd X F Z17).2)
def cN0:FS1 β:=FXs (kR n q91 aB aC aD aA) n iW (some iK) none [] [8386708,8386709]
theorem dF6 (C:Z11) (X:List Z26) (F I H:Int) (N q:BA) (al:Int) (bi:Bool):cN0 n q91 aB aC aD aA (JV C X F I H N q al bi) cx=bH0 n q91 aB aC aD aA (fun C X F I H N q=>cx.nrm (dZ C X F I H N q)) C X F I H N q al bi:=by kernel_rfl
def bE8 (n:Nat) (q91:Q91) (aB:aL) (aC:aK) (aD:aJ) (aA:aI) (kn:Z11→List Z26→Int→Int→Int→BA→BA→Int→Bool→Option β) (C:Z11) (X:List Z26) (F I H:Int) (N q:BA) (al:Int) (bi:Bool):Option β:=kn C X F I H N q al (al==(-1:Int))
def cO1:FS1 β:=FXs (kR n q91 aB aC aD aA) n iW (some bO3) none [] [8386710]
theorem dG0 (C:Z11) (X:List Z26) (F I H:Int) (N q:BA) (al:Int) (bi:Bool):cO1 n q91 aB aC aD aA (JV C X F I H N q al bi) cx=bE8 n q91 aB aC aD aA (fun C X F I H N q al ar=>cx.nrm (HW C X F I H N q al ar)) C X F I H N q al bi:=by kernel_rfl
def bA4 (n:Nat) (q91:Q91) (aB:aL) (aC:aK) (aD:aJ) (aA:aI) (kn:Z11→List Z26→Int→Int→Int→BA→BA→Option β) (C:Z11) (X:List Z26) (F I H:Int) (N q:BA) (al:Int) (ar:Bool):Option β:=idx F (X.length:Int)<|cM (N.size+((rd X F Z17).2).size)<|kn C X F (w64 (I+1)) H (N++(rd X F Z17).2) q
def dC8:FS1 β:=FXs (kR n q91 aB aC aD aA) n iW (some iK) none [] [33546844,33546845]
theorem cU2 (C:Z11) (X:List Z26) (F I H:Int) (N q:BA) (al:Int) (ar:Bool):dC8 n q91 aB aC aD aA (HW C X F I H N q al ar) cx=bA4 n q91 aB aC aD aA (fun C X F I H N q=>cx.nrm (dZ C X F I H N q)) C X F I H N q al ar:=by kernel_rfl
def cR9 (n:Nat) (q91:Q91) (aB:aL) (aC:aK) (aD:aJ) (aA:aI) (kn:Z11→List Z26→Int→Int→Int→BA→BA→Bool→Option β) (C:Z11) (X:List Z26) (F I H:Int) (N q:BA) (al:Int) (ar:Bool):Option β:=kn C X F I H N q (al==(0:Int))
def cN5:FS1 β:=FXs (kR n q91 aB aC aD aA) n iW (some bA1) none [] [33546846]
theorem cT3 (C:Z11) (X:List Z26) (F I H:Int) (N q:BA) (al:Int) (ar:Bool):cN5 n q91 aB aC aD aA (HW C X F I H N q al ar) cx=cR9 n q91 aB aC aD aA (fun C X F I H N q bj=>cx.nrm (IU C X F I H N q bj)) C X F I H N q al ar:=by kernel_rfl
def dU2 (n:Nat) (q91:Q91) (aB:aL) (aC:aK) (aD:aJ) (aA:aI) (kn:Z11→List Z26→Int→Int→Int→BA→BA→Bool→Option β) (C:Z11) (X:List Z26) (F I H:Int) (N q:BA) (bj:Bool):Option β:=bif (decide (I≥(1:Int))) then (kn C X F I H N q (decide (H≥(1:Int)))) else (kn C X F I H N q false)
def cP1:FS1 β:=FXs (kR n q91 aB aC aD aA) n iW (some D6) none [] [268374776]
theorem dY1 (C:Z11) (X:List Z26) (F I H:Int) (N q:BA) (bj:Bool):cP1 n q91 aB aC aD aA (IU C X F I H N q bj) cx=dU2 n q91 aB aC aD aA (fun C X F I H N q bk=>cx.nrm (xL C X F I H N q bk)) C X F I H N q bj:=by kernel_rfl
def aB5 (n:Nat) (q91:Q91) (aB:aL) (aC:aK) (aD:aJ) (aA:aI) (kn:Z11→List Z26→Int→List Z26→Int→Option β) (C:Z11) (X:List Z26) (F I H:Int) (N q:BA) (bk:Bool):Option β:=(qV n X (w64 ((w64 (F - I)) - H)) (w64 (I+H)) []).bind fun W=>kQ N<|kQ q<|(aB (C,((bS N),((bS q),(false,()))))).bind fun r2=>kn C W.1 (w64 ((w64 (F - I)) - H)) r2.1 (w64 ((r2.1.length:Int) - 1))
def aW6:FS1 β:=FXs (kR n q91 aB aC aD aA) n iW (some BS) none [] [1073499108,2146998218,4293996438,17175985756]
theorem bU4 (C:Z11) (X:List Z26) (F I H:Int) (N q:BA) (bk:Bool):aW6 n q91 aB aC aD aA (xL C X F I H N q bk) cx=aB5 n q91 aB aC aD aA (fun C X F av U=>cx.nrm (tG C X F av U)) C X F I H N q bk:=by kernel_rfl
def XE (n:Nat) (q91:Q91) (aB:aL) (aC:aK) (aD:aJ) (aA:aI) (kn:Z11→List Z26→Int→List Z26→Int→Option β) (bl:Z11→List Z26→Int→List Z26→Option β) (C:Z11) (X:List Z26) (F:Int) (av:List Z26) (U:Int):Option β:=bif (decide (U≥(0:Int))) then (idx U (av.length:Int)<|(qV n X F (0:Int) [(rd av U Z17)]).bind fun W=>kn C W.1 F av (w64 (U - 1))) else (bl C X F av)
def XD:FS1 β:=FXs (kR n q91 aB aC aD aA) n iW (some BS) none [(3,sA)] [274815772112,274815772113,274815772114,274815772115]
theorem bQ1 (C:Z11) (X:List Z26) (F:Int) (av:List Z26) (U:Int):XD n q91 aB aC aD aA (tG C X F av U) cx=XE n q91 aB aC aD aA (fun C X F av U=>cx.nrm (tG C X F av U)) (fun C X F av=>cx.ex 3 (yC C X F av)) C X F av U:=by kernel_rfl
def g91_12L (n:Nat) (q91:Q91) (aB:aL) (aC:aK) (aD:aJ) (aA:aI) (bl:Z11→List Z26→Int→List Z26→Option β):Nat→Z11→List Z26→Int→List Z26→Int→Option β
  | 0,_,_,_,_,_=>none
  | m+1,C,X,F,av,U=>XE n q91 aB aC aD aA (g91_12L n q91 aB aC aD aA bl m) bl C X F av U
def l8 (bl:Z11→List Z26→Int→List Z26→Option β) (C:Z11) (X:List Z26) (F:Int) (av:List Z26) (U:Int):Option β:=g91_12L n q91 aB aC aD aA bl n C X F av U
def bD7 (s:FState) (cx:Cx β):Option β:=bO (fun again s=>XD n q91 aB aC aD aA s {cx with nrm:=again}) n s
theorem Y9 (n:Nat) (q91:Q91) (aB:aL) (aC:aK) (aD:aJ) (aA:aI) (cx:Cx β):∀(m:Nat) (C:Z11) (X:List Z26) (F:Int) (av:List Z26) (U:Int),bO (fun again s=>XD n q91 aB aC aD aA s {cx with nrm:=again}) m (tG C X F av U)=g91_12L n q91 aB aC aD aA (fun C X F av=>cx.ex 3 (yC C X F av)) m C X F av U:=by
  intro m
  induction m with
  | zero=>intros;rfl
  | succ m ih=>intros;simp only [bO,g91_12L,bQ1,ih]
theorem cA7 (C:Z11) (X:List Z26) (F:Int) (av:List Z26) (U:Int):bD7 n q91 aB aC aD aA (tG C X F av U) cx=l8 n q91 aB aC aD aA (fun C X F av=>cx.ex 3 (yC C X F av)) C X F av U:=Y9 n q91 aB aC aD aA cx n C X F av U
def aT4 (kn:Z11→List Z26→Int→List Z26→Option β) (C:Z11) (X:List Z26) (F:Int) (av:List Z26) (U:Int):Option β:=l8 n q91 aB aC aD aA kn C X F av U
def bL9 (s:FState) (cx:Cx β):Option β:=bD7 n q91 aB aC aD aA s {cx with ex:=fun j s=>bif Nat.beq j 3 then cx.nrm s else cx.ex j s}
theorem bW3 (C:Z11) (X:List Z26) (F:Int) (av:List Z26) (U:Int):bL9 n q91 aB aC aD aA (tG C X F av U) cx=aT4 n q91 aB aC aD aA (fun C X F av=>cx.nrm (yC C X F av)) C X F av U:=cA7 n q91 aB aC aD aA _ C X F av U
def UJ (n:Nat) (q91:Q91) (aB:aL) (aC:aK) (aD:aJ) (aA:aI) (kn:Z11→List Z26→Int→Option β) (C:Z11) (X:List Z26) (F:Int) (av:List Z26):Option β:=kn C X (w64 (F+(av.length:Int)))
def bL0:FS1 β:=FXs (kR n q91 aB aC aD aA) n iW (some BK) none [] [8587992879]
theorem cF6 (C:Z11) (X:List Z26) (F:Int) (av:List Z26):bL0 n q91 aB aC aD aA (yC C X F av) cx=UJ n q91 aB aC aD aA (fun C X F=>cx.nrm (yX C X F)) C X F av:=by kernel_rfl
def TW (kn:Z11→List Z26→Int→Option β) (C:Z11) (X:List Z26) (F I H:Int) (N q:BA) (bk:Bool):Option β:=aB5 n q91 aB aC aD aA (fun C X F av U=>aT4 n q91 aB aC aD aA (fun C X F av=>UJ n q91 aB aC aD aA kn C X F av) C X F av U) C X F I H N q bk
def UV (s:FState) (cx:Cx β):Option β:=aW6 n q91 aB aC aD aA s {cx with nrm:=fun s=>bL9 n q91 aB aC aD aA s {cx with nrm:=fun s=>bL0 n q91 aB aC aD aA s cx}}
theorem bY7 (C:Z11) (X:List Z26) (F I H:Int) (N q:BA) (bk:Bool):UV n q91 aB aC aD aA (xL C X F I H N q bk) cx=TW n q91 aB aC aD aA (fun C X F=>cx.nrm (yX C X F)) C X F I H N q bk:=by simp only [UV,TW,bU4,bW3,cF6]
def cU0 (n:Nat) (q91:Q91) (aB:aL) (aC:aK) (aD:aJ) (aA:aI) (kn:Z11→List Z26→Int→Option β) (C:Z11) (X:List Z26) (F I H:Int) (N q:BA) (bk:Bool):Option β:=kn C X F
def aV0:FS1 β:=FXs (kR n q91 aB aC aD aA) n iW (some BK) none [] [536749555]
theorem cA2 (C:Z11) (X:List Z26) (F I H:Int) (N q:BA) (bk:Bool):aV0 n q91 aB aC aD aA (xL C X F I H N q bk) cx=cU0 n q91 aB aC aD aA (fun C X F=>cx.nrm (yX C X F)) C X F I H N q bk:=by kernel_rfl
def CM (kn:Z11→List Z26→Int→Option β) (C:Z11) (X:List Z26) (F I H:Int) (N q:BA) (bk:Bool):Option β:=bif bk then TW n q91 aB aC aD aA kn C X F I H N q bk else cU0 n q91 aB aC aD aA kn C X F I H N q bk
def UG (s:FState) (cx:Cx β):Option β:=asBool (ev s (kU (nav iW [1,1,1,1,1,1,1,1,1,1,1,0,0,0,1,0,0,1,0,1,1,1,1,1,0,0,1]))) fun t=>cond t (UV n q91 aB aC aD aA s cx) (aV0 n q91 aB aC aD aA s cx)
theorem bT1 (C:Z11) (X:List Z26) (F I H:Int) (N q:BA) (bk:Bool):UG n q91 aB aC aD aA (xL C X F I H N q bk) cx=CM n q91 aB aC aD aA (fun C X F=>cx.nrm (yX C X F)) C X F I H N q bk:=by
  simp only [UG,CM,bY7,cA2]
  kernel_rfl
def BW (n:Nat) (q91:Q91) (aB:aL) (aC:aK) (aD:aJ) (aA:aI) (kn:Z11→List Z26→Int→Int→Int→BA→BA→Option β) (C:Z11) (X:List Z26) (F:Int):Option β:=kn C X F (0:Int) (0:Int) (⟨#[]⟩:BA) (⟨#[]⟩:BA)
def aY1:FS1 β:=FXs (kR n q91 aB aC aD aA) n iW (some iK) none [] [268374778,536749558,1073499118,1073499119]
theorem cC7 (C:Z11) (X:List Z26) (F:Int):aY1 n q91 aB aC aD aA (yX C X F) cx=BW n q91 aB aC aD aA (fun C X F I H N q=>cx.nrm (dZ C X F I H N q)) C X F:=by kernel_rfl
def KO (kn:Z11→List Z26→Int→Int→Int→BA→BA→Option β) (C:Z11) (X:List Z26) (F I H:Int) (N q:BA) (bj:Bool):Option β:=dU2 n q91 aB aC aD aA (fun C X F I H N q bk=>CM n q91 aB aC aD aA (fun C X F=>BW n q91 aB aC aD aA kn C X F) C X F I H N q bk) C X F I H N q bj
def XZ (s:FState) (cx:Cx β):Option β:=cP1 n q91 aB aC aD aA s {cx with nrm:=fun s=>UG n q91 aB aC aD aA s {cx with nrm:=fun s=>aY1 n q91 aB aC aD aA s cx}}
theorem cB5 (C:Z11) (X:List Z26) (F I H:Int) (N q:BA) (bj:Bool):XZ n q91 aB aC aD aA (IU C X F I H N q bj) cx=KO n q91 aB aC aD aA (fun C X F I H N q=>cx.nrm (dZ C X F I H N q)) C X F I H N q bj:=by simp only [XZ,KO,dY1,bT1,cC7]
def dT5 (n:Nat) (q91:Q91) (aB:aL) (aC:aK) (aD:aJ) (aA:aI) (kn:Z11→List Z26→Int→Int→Int→BA→BA→Option β) (C:Z11) (X:List Z26) (F I H:Int) (N q:BA) (bj:Bool):Option β:=kn C X F I H N q
def bJ9:FS1 β:=FXs (kR n q91 aB aC aD aA) n iW (some iK) none [] [67093695]
theorem cA6 (C:Z11) (X:List Z26) (F I H:Int) (N q:BA) (bj:Bool):bJ9 n q91 aB aC aD aA (IU C X F I H N q bj) cx=dT5 n q91 aB aC aD aA (fun C X F I H N q=>cx.nrm (dZ C X F I H N q)) C X F I H N q bj:=by kernel_rfl
def SB (kn:Z11→List Z26→Int→Int→Int→BA→BA→Option β) (C:Z11) (X:List Z26) (F I H:Int) (N q:BA) (bj:Bool):Option β:=bif bj then KO n q91 aB aC aD aA kn C X F I H N q bj else dT5 n q91 aB aC aD aA kn C X F I H N q bj
def PP (s:FState) (cx:Cx β):Option β:=asBool (ev s (kU (nav iW [1,1,1,1,1,1,1,1,1,1,1,0,0,0,1,0,0,1,0,1,1,1,1,1]))) fun t=>cond t (XZ n q91 aB aC aD aA s cx) (bJ9 n q91 aB aC aD aA s cx)
theorem bZ0 (C:Z11) (X:List Z26) (F I H:Int) (N q:BA) (bj:Bool):PP n q91 aB aC aD aA (IU C X F I H N q bj) cx=SB n q91 aB aC aD aA (fun C X F I H N q=>cx.nrm (dZ C X F I H N q)) C X F I H N q bj:=by
  simp only [PP,SB,cB5,cA6]
  kernel_rfl
def XP (kn:Z11→List Z26→Int→Int→Int→BA→BA→Option β) (C:Z11) (X:List Z26) (F I H:Int) (N q:BA) (al:Int) (ar:Bool):Option β:=cR9 n q91 aB aC aD aA (fun C X F I H N q bj=>SB n q91 aB aC aD aA kn C X F I H N q bj) C X F I H N q al ar
def RA (s:FState) (cx:Cx β):Option β:=cN5 n q91 aB aC aD aA s {cx with nrm:=fun s=>PP n q91 aB aC aD aA s cx}
theorem cH6 (C:Z11) (X:List Z26) (F I H:Int) (N q:BA) (al:Int) (ar:Bool):RA n q91 aB aC aD aA (HW C X F I H N q al ar) cx=XP n q91 aB aC aD aA (fun C X F I H N q=>cx.nrm (dZ C X F I H N q)) C X F I H N q al ar:=by simp only [RA,XP,cT3,bZ0]
def LZ (kn:Z11→List Z26→Int→Int→Int→BA→BA→Option β) (C:Z11) (X:List Z26) (F I H:Int) (N q:BA) (al:Int) (ar:Bool):Option β:=bif ar then bA4 n q91 aB aC aD aA kn C X F I H N q al ar else XP n q91 aB aC aD aA kn C X F I H N q al ar
def XG (s:FState) (cx:Cx β):Option β:=asBool (ev s (kU (nav iW [1,1,1,1,1,1,1,1,1,1,1,0,0,0,1,0,0,1,0,1,1,1]))) fun t=>cond t (dC8 n q91 aB aC aD aA s cx) (RA n q91 aB aC aD aA s cx)
theorem cC2 (C:Z11) (X:List Z26) (F I H:Int) (N q:BA) (al:Int) (ar:Bool):XG n q91 aB aC aD aA (HW C X F I H N q al ar) cx=LZ n q91 aB aC aD aA (fun C X F I H N q=>cx.nrm (dZ C X F I H N q)) C X F I H N q al ar:=by
  simp only [XG,LZ,cU2,cH6]
  kernel_rfl
def CV (kn:Z11→List Z26→Int→Int→Int→BA→BA→Option β) (C:Z11) (X:List Z26) (F I H:Int) (N q:BA) (al:Int) (bi:Bool):Option β:=bE8 n q91 aB aC aD aA (fun C X F I H N q al ar=>LZ n q91 aB aC aD aA kn C X F I H N q al ar) C X F I H N q al bi
def VO (s:FState) (cx:Cx β):Option β:=cO1 n q91 aB aC aD aA s {cx with nrm:=fun s=>XG n q91 aB aC aD aA s cx}
theorem cG2 (C:Z11) (X:List Z26) (F I H:Int) (N q:BA) (al:Int) (bi:Bool):VO n q91 aB aC aD aA (JV C X F I H N q al bi) cx=CV n q91 aB aC aD aA (fun C X F I H N q=>cx.nrm (dZ C X F I H N q)) C X F I H N q al bi:=by simp only [VO,CV,dG0,cC2]
def HV (kn:Z11→List Z26→Int→Int→Int→BA→BA→Option β) (C:Z11) (X:List Z26) (F I H:Int) (N q:BA) (al:Int) (bi:Bool):Option β:=bif bi then bH0 n q91 aB aC aD aA kn C X F I H N q al bi else CV n q91 aB aC aD aA kn C X F I H N q al bi
def PQ (s:FState) (cx:Cx β):Option β:=asBool (ev s (kU (nav iW [1,1,1,1,1,1,1,1,1,1,1,0,0,0,1,0,0,1,0,1]))) fun t=>cond t (cN0 n q91 aB aC aD aA s cx) (VO n q91 aB aC aD aA s cx)
theorem bY9 (C:Z11) (X:List Z26) (F I H:Int) (N q:BA) (al:Int) (bi:Bool):PQ n q91 aB aC aD aA (JV C X F I H N q al bi) cx=HV n q91 aB aC aD aA (fun C X F I H N q=>cx.nrm (dZ C X F I H N q)) C X F I H N q al bi:=by
  simp only [PQ,HV,dF6,cG2]
  kernel_rfl
def LW (kn:Z11→List Z26→Int→Int→Int→BA→BA→Option β) (C:Z11) (X:List Z26) (F I H:Int) (N q:BA) (al:Int):Option β:=aY2 n q91 aB aC aD aA (fun C X F I H N q al bi=>HV n q91 aB aC aD aA kn C X F I H N q al bi) C X F I H N q al
def WE (s:FState) (cx:Cx β):Option β:=dD2 n q91 aB aC aD aA s {cx with nrm:=fun s=>PQ n q91 aB aC aD aA s cx}
theorem cF8 (C:Z11) (X:List Z26) (F I H:Int) (N q:BA) (al:Int):WE n q91 aB aC aD aA (QW C X F I H N q al) cx=LW n q91 aB aC aD aA (fun C X F I H N q=>cx.nrm (dZ C X F I H N q)) C X F I H N q al:=by simp only [WE,LW,dP6,bY9]
def TC (kn:Z11→List Z26→Int→Int→Int→BA→BA→Option β) (C:Z11) (X:List Z26) (F I H:Int) (N q:BA) (al:Int):Option β:=LW n q91 aB aC aD aA kn C X F I H N q al
def bG6 (s:FState) (cx:Cx β):Option β:=WE n q91 aB aC aD aA s {cx with ex:=fun j s=>bif Nat.beq j 2 then cx.nrm s else cx.ex j s}
theorem cH2 (C:Z11) (X:List Z26) (F I H:Int) (N q:BA) (al:Int):bG6 n q91 aB aC aD aA (QW C X F I H N q al) cx=TC n q91 aB aC aD aA (fun C X F I H N q=>cx.nrm (dZ C X F I H N q)) C X F I H N q al:=cF8 n q91 aB aC aD aA _ C X F I H N q al
def BY (n:Nat) (q91:Q91) (aB:aL) (aC:aK) (aD:aJ) (aA:aI) (kn:Z11→List Z26→Int→Int→Int→BA→BA→Option β) (C:Z11) (X:List Z26) (F I H:Int) (N q:BA):Option β:=kn C X (w64 (F+1)) I H N q
def aX4:FS1 β:=FXs (kR n q91 aB aC aD aA) n iW (some iK) none [] [262085]
theorem bS8 (C:Z11) (X:List Z26) (F I H:Int) (N q:BA):aX4 n q91 aB aC aD aA (dZ C X F I H N q) cx=BY n q91 aB aC aD aA (fun C X F I H N q=>cx.nrm (dZ C X F I H N q)) C X F I H N q:=by kernel_rfl
def LQ (kn:Z11→List Z26→Int→Int→Int→BA→BA→Option β) (C:Z11) (X:List Z26) (F I H:Int) (N q:BA):Option β:=bO2 n q91 aB aC aD aA (fun C X F I H N q al=>TC n q91 aB aC aD aA (fun C X F I H N q=>BY n q91 aB aC aD aA kn C X F I H N q) C X F I H N q al) C X F I H N q
def PH (s:FState) (cx:Cx β):Option β:=cQ3 n q91 aB aC aD aA s {cx with nrm:=fun s=>bG6 n q91 aB aC aD aA s {cx with nrm:=fun s=>aX4 n q91 aB aC aD aA s cx}}
theorem bP1 (C:Z11) (X:List Z26) (F I H:Int) (N q:BA):PH n q91 aB aC aD aA (dZ C X F I H N q) cx=LQ n q91 aB aC aD aA (fun C X F I H N q=>cx.nrm (dZ C X F I H N q)) C X F I H N q:=by simp only [PH,LQ,dR8,cH2,bS8]
def VX (kn:Z11→List Z26→Int→Int→Int→BA→BA→Option β) (C:Z11) (X:List Z26) (F I H:Int) (N q:BA):Option β:=LQ n q91 aB aC aD aA kn C X F I H N q
def bC0 (s:FState) (cx:Cx β):Option β:=PH n q91 aB aC aD aA s {cx with ex:=fun j s=>bif Nat.beq j 1 then cx.nrm s else cx.ex j s}
theorem bY8 (C:Z11) (X:List Z26) (F I H:Int) (N q:BA):bC0 n q91 aB aC aD aA (dZ C X F I H N q) cx=VX n q91 aB aC aD aA (fun C X F I H N q=>cx.nrm (dZ C X F I H N q)) C X F I H N q:=bP1 n q91 aB aC aD aA _ C X F I H N q
def CT (kn:Z11→List Z26→Int→Int→Int→BA→BA→Option β) (ae:List Z26→Option β) (C:Z11) (X:List Z26) (F I H:Int) (N q:BA):Option β:=ZR n q91 aB aC aD aA (fun C X F I H N q=>VX n q91 aB aC aD aA kn C X F I H N q) ae C X F I H N q
def FR (s:FState) (cx:Cx β):Option β:=cR4 n q91 aB aC aD aA s {cx with nrm:=fun s=>bC0 n q91 aB aC aD aA s cx}
theorem bU5 (C:Z11) (X:List Z26) (F I H:Int) (N q:BA):FR n q91 aB aC aD aA (dZ C X F I H N q) cx=CT n q91 aB aC aD aA (fun C X F I H N q=>cx.nrm (dZ C X F I H N q)) (fun X=>cx.ex 0 (CO X)) C X F I H N q:=by simp only [FR,CT,cK4,bY8]
def g91_32L (n:Nat) (q91:Q91) (aB:aL) (aC:aK) (aD:aJ) (aA:aI) (ae:List Z26→Option β):Nat→Z11→List Z26→Int→Int→Int→BA→BA→Option β
  | 0,_,_,_,_,_,_,_=>none
  | m+1,C,X,F,I,H,N,q=>CT n q91 aB aC aD aA (g91_32L n q91 aB aC aD aA ae m) ae C X F I H N q
def aI9 (ae:List Z26→Option β) (C:Z11) (X:List Z26) (F I H:Int) (N q:BA):Option β:=g91_32L n q91 aB aC aD aA ae n C X F I H N q
def bL2 (s:FState) (cx:Cx β):Option β:=bO (fun again s=>FR n q91 aB aC aD aA s {cx with nrm:=again}) n s
theorem aJ4 (n:Nat) (q91:Q91) (aB:aL) (aC:aK) (aD:aJ) (aA:aI) (cx:Cx β):∀(m:Nat) (C:Z11) (X:List Z26) (F I H:Int) (N q:BA),bO (fun again s=>FR n q91 aB aC aD aA s {cx with nrm:=again}) m (dZ C X F I H N q)=g91_32L n q91 aB aC aD aA (fun X=>cx.ex 0 (CO X)) m C X F I H N q:=by
  intro m
  induction m with
  | zero=>intros;rfl
  | succ m ih=>intros;simp only [bO,g91_32L,bU5,ih]
theorem bV6 (C:Z11) (X:List Z26) (F I H:Int) (N q:BA):bL2 n q91 aB aC aD aA (dZ C X F I H N q) cx=aI9 n q91 aB aC aD aA (fun X=>cx.ex 0 (CO X)) C X F I H N q:=aJ4 n q91 aB aC aD aA cx n C X F I H N q
def q8 (kn:List Z26→Option β) (C:Z11) (X:List Z26) (F I H:Int) (N q:BA):Option β:=aI9 n q91 aB aC aD aA kn C X F I H N q
def bK3 (s:FState) (cx:Cx β):Option β:=bL2 n q91 aB aC aD aA s {cx with ex:=fun j s=>bif Nat.beq j 0 then cx.nrm s else cx.ex j s}
theorem cE6 (C:Z11) (X:List Z26) (F I H:Int) (N q:BA):bK3 n q91 aB aC aD aA (dZ C X F I H N q) cx=q8 n q91 aB aC aD aA (fun X=>cx.nrm (CO X)) C X F I H N q:=bV6 n q91 aB aC aD aA _ C X F I H N q
def DD (n:Nat) (q91:Q91) (aB:aL) (aC:aK) (aD:aJ) (aA:aI) (kr:List Z26→Option β) (X:List Z26):Option β:=bnd (0:Int) (w64 ((X.length:Int) - 1)) (X.length:Int)<|kr (cut X (0:Int) ((0:Int)+((w64 ((X.length:Int) - 1)) - (0:Int))))
def bD5:FS1 β:=FXs (kR n q91 aB aC aD aA) n iW none (some TE) [] [16382,16383]
theorem cH5 (X:List Z26):bD5 n q91 aB aC aD aA (CO X) cx=DD n q91 aB aC aD aA (fun y=>cx.ret (dN9 y)) X:=by kernel_rfl
def UL (kr:List Z26→Option β) (C:Z11) (B L:List Int):Option β:=dL8 n q91 aB aC aD aA (fun C X F I H N q=>q8 n q91 aB aC aD aA (fun X=>DD n q91 aB aC aD aA kr X) C X F I H N q) C B L
def GE (s:FState) (cx:Cx β):Option β:=dG6 n q91 aB aC aD aA s {cx with nrm:=fun s=>bK3 n q91 aB aC aD aA s {cx with nrm:=fun s=>bD5 n q91 aB aC aD aA s cx}}
theorem cA1 (C:Z11) (B L:List Int):GE n q91 aB aC aD aA (aB4 C B L) cx=UL n q91 aB aC aD aA (fun y=>cx.ret (dN9 y)) C B L:=by simp only [GE,UL,dE7,cE6,cH5]
def dS1 (C:Z11) (B L:List Int):Option (DenR [.rw Z22 115]):=UL n q91 aB aC aD aA (fun y=>some (y,())) C B L
def cT2 (d:DenA iB):Option (DenR fJ):=dS1 n q91 aB aC aD aA d.1 d.2.1 d.2.2.1
def eN6:Sk:=(.nd (.fin none none none [] .leaf) (.nd (.fin none none none [] .leaf) (.nd (.fin none none none [] .leaf) (.nd (.fin none none none [] .leaf) (.nd (.fin none none none [] .leaf) (.nd (.fin none none none [] .leaf) (.nd (.fin none none none [] .leaf) (.nd (.fin none none none [] .leaf) (.nd (.fin none none none [] .leaf) (.nd (.fin none none none [] .leaf) (.nd (.fin none (some iK) none [] .leaf) (.nd (.nd (.nd (.nd (.nd (.fin none none none [(0,UK)] .leaf) (.fin none (some iK) none [(0,UK)] .leaf)) (.nd (.nd (.nd (.fin none (some bO0) none [] .leaf) (.nd (.nd (.fin none (some bH9) none [] .leaf) (.nd (.nd (.fin none none none [] .leaf) (.fin none (some iK) none [] .leaf)) (.nd (.fin none (some bO3) none [] .leaf) (.nd (.nd (.fin none none none [] .leaf) (.fin none (some iK) none [] .leaf)) (.nd (.fin none (some bA1) none [] .leaf) (.nd (.nd (.nd (.fin none (some D6) none [] .leaf) (.nd (.nd (.fin none none none [] .leaf) (.nd (.fin none none none [] .leaf) (.nd (.fin none none none [] .leaf) (.nd (.nd (.fin none (some BS) none [] .leaf) (.nd (.nd (.nd (.nd (.fin none none none [(3,sA)] .leaf) (.fin none none none [(3,sA)] .leaf)) (.nd (.fin none none none [(3,sA)] .leaf) (.fin none (some BS) none [(3,sA)] .leaf))) .leaf) .leaf)) (.fin none (some BK) none [] .leaf))))) (.fin none (some BK) none [] .leaf))) (.nd (.fin none none none [] .leaf) (.nd (.fin none none none [] .leaf) (.nd (.fin none none none [] .leaf) (.fin none (some iK) none [] .leaf))))) (.fin none (some iK) none [] .leaf))))))) .leaf)) (.fin none (some iK) none [] .leaf)) .leaf)) .leaf) .leaf) (.nd (.fin none none (some TE) [] .leaf) (.fin none none (some TE) [] .leaf))))))))))))))
theorem eF4 (s:FState) (cx:Cx β):FX (kR n q91 aB aC aD aA) n iW eN6 s cx=GE n q91 aB aC aD aA s cx:=by kernel_rfl
theorem cM3 (h91:Fit Tryd.prog 91 (aQ iB fJ q91)) (h110:Fit Tryd.prog 110 (aQ eS dC aB)) (h114:Fit Tryd.prog 114 (aQ eO dL aC)) (h136:Fit Tryd.prog 136 (aQ eT dQ aD)) (h143:Fit Tryd.prog 143 (aQ eH dW aA)):Fit Tryd.prog 91 (aQ iB fJ (cT2 n q91 aB aC aD aA)):=
  cJ (Γ:=Γ0) (l:=eM1 n q91 aB aC aD aA) (n:=n) (sk:=eN6) (ts:=[(6,none)]) (fn:=Tryd.f91) (c:=iW) (by kernel_rfl) (by kernel_rfl) (by unfold aS;kernel_rfl) cF ⟨cX1 n,dM5 n,dB6 n,yP n,h91,h110,h114,h136,h143,trivial⟩ aO (by kernel_rfl) (by kernel_rfl) (Nat.le_of_ble_eq_true (by kernel_rfl)) (Nat.le_of_ble_eq_true (by kernel_rfl)) (by kernel_rfl) (by kernel_rfl)
    (fun d=>(eF4 n q91 aB aC aD aA _ _).trans (Eq.trans (b:=GE n q91 aB aC aD aA (aB4 d.1 d.2.1 d.2.2.1) (cS (kR n q91 aB aC aD aA) fJ [(6,none)])) (by kernel_rfl) ((cA1 n q91 aB aC aD aA _ d.1 d.2.1 d.2.2.1).trans (by kernel_rfl))))
def YA (C:Z11) (B L:List Int) (v3:Bool):FState:=⟨aM [(0,.ptr 0 0 0),(1,.sl 1 none false),(2,.sl 2 none false),(3,.dat .bool v3)],aE [(0,.row Z1 106 false [C]),(1,.row (.int .i32) 21 false B),(2,.row (.int .i32) 21 false L)]⟩
def PK (X:List Z26):FState:=⟨aM [(8,.sl 8 none false)],aE [(8,.row Z22 115 true X)]⟩
def dI:List NE:=[.row 8 Z22 115 true]
def bH3 (C:Z11) (Q:List Int) (R:List Z26):FState:=⟨aM [(0,.ptr 0 0 0),(12,.sl 12 none false),(13,.sl 13 none false)],aE [(0,.row Z1 106 false [C]),(12,.row (.int .i32) 21 false Q),(13,.row Z22 115 true R)]⟩
def ZO:List NE:=[.ptr 0 Z1 106 false,.row 12 (.int .i32) 21 false,.row 13 Z22 115 true]
def dD1:List (Nat×Spec):=[(133,aB0 n),(134,W1 n),(135,RF n),(137,aQ9 n),(91,aQ iB fJ q91),(110,aQ eS dC aB),(114,aQ eO dL aC),(136,aQ eT dQ aD),(143,aQ eH dW aA)]
def US:Ctx:={Γ0 with calls:=lkS (dD1 n q91 aB aC aD aA)}
def RS:Code:=fb Tryd.f110
def aG3 (n:Nat) (q91:Q91) (aB:aL) (aC:aK) (aD:aJ) (aA:aI) (kn:Z11→List Int→List Z26→Option β) (kr:List Z26→Option β) (C:Z11) (B L:List Int) (v3:Bool):Option β:=(cW1 n B L).bind fun W=>bif W.1 then (bif (decide ((B.length:Int)>(0:Int))) then (cM [((0:Int),(runesBytes B))].length<|kr [((0:Int),(runesBytes B))]) else (kr [])) else ((eB4 n B L).bind fun r2=>bnd (0:Int) r2.1 (B.length:Int)<|bnd r2.1 (B.length:Int) (B.length:Int)<|bnd r2.1 (L.length:Int) (L.length:Int)<|(E8 n (cut B r2.1 (B.length:Int)) (cut L r2.1 (L.length:Int))).bind fun r3=>bnd (w64 (((cut B r2.1 (B.length:Int)).length:Int) - r3.1)) ((cut B r2.1 (B.length:Int)).length:Int) ((cut B r2.1 (B.length:Int)).length:Int)<|bnd (0:Int) (w64 (((cut B r2.1 (B.length:Int)).length:Int) - r3.1)) ((cut B r2.1 (B.length:Int)).length:Int)<|bnd (0:Int) (w64 (((cut L r2.1 (L.length:Int)).length:Int) - r3.1)) ((cut L r2.1 (L.length:Int)).length:Int)<|(aD (C,((cut (cut B r2.1 (B.length:Int)) (0:Int) (w64 (((cut B r2.1 (B.length:Int)).length:Int) - r3.1))),((cut (cut L r2.1 (L.length:Int)) (0:Int) (w64 (((cut L r2.1 (L.length:Int)).length:Int) - r3.1))),(v3,()))))).bind fun r4=>bif (((cut B (0:Int) r2.1).length:Int)!=(0:Int)) then (cM ([((0:Int),(runesBytes (cut B (0:Int) r2.1)))].length+r4.1.length)<|kn C (cut (cut B r2.1 (B.length:Int)) (w64 (((cut B r2.1 (B.length:Int)).length:Int) - r3.1)) ((cut B r2.1 (B.length:Int)).length:Int)) ([((0:Int),(runesBytes (cut B (0:Int) r2.1)))]++r4.1)) else (kn C (cut (cut B r2.1 (B.length:Int)) (w64 (((cut B r2.1 (B.length:Int)).length:Int) - r3.1)) ((cut B r2.1 (B.length:Int)).length:Int)) r4.1))
def bH2:FS1 β:=FXs (US n q91 aB aC aD aA) n RS (some ZO) (some dI) [] [2,12,13,14,30,62,126,254,510,1022,2046,4094,16380,16381]
theorem bR8 (C:Z11) (B L:List Int) (v3:Bool):bH2 n q91 aB aC aD aA (YA C B L v3) cx=aG3 n q91 aB aC aD aA (fun C Q R=>cx.nrm (bH3 C Q R)) (fun X=>cx.ret (PK X)) C B L v3:=by kernel_rfl
def XH (n:Nat) (q91:Q91) (aB:aL) (aC:aK) (aD:aJ) (aA:aI) (kr:List Z26→Option β) (C:Z11) (Q:List Int) (R:List Z26):Option β:=bif ((Q.length:Int)!=(0:Int)) then (cM (R.length+[((0:Int),(runesBytes Q))].length)<|(cE1 n C (R++[((0:Int),(runesBytes Q))])).bind fun W=>kr W.1) else ((cE1 n C R).bind fun r2=>kr r2.1)
def bN9:FS1 β:=FXs (US n q91 aB aC aD aA) n RS none (some dI) [] [32764,32765,32766,32767]
theorem cJ2 (C:Z11) (Q:List Int) (R:List Z26):bN9 n q91 aB aC aD aA (bH3 C Q R) cx=XH n q91 aB aC aD aA (fun X=>cx.ret (PK X)) C Q R:=by kernel_rfl
def XJ (kr:List Z26→Option β) (C:Z11) (B L:List Int) (v3:Bool):Option β:=aG3 n q91 aB aC aD aA (fun C Q R=>XH n q91 aB aC aD aA kr C Q R) kr C B L v3
def FZ (s:FState) (cx:Cx β):Option β:=bH2 n q91 aB aC aD aA s {cx with nrm:=fun s=>bN9 n q91 aB aC aD aA s cx}
theorem cD9 (C:Z11) (B L:List Int) (v3:Bool):FZ n q91 aB aC aD aA (YA C B L v3) cx=XJ n q91 aB aC aD aA (fun X=>cx.ret (PK X)) C B L v3:=by simp only [FZ,XJ,bR8,cJ2]
def LK (C:Z11) (B L:List Int) (v3:Bool):Option (DenR [.rw Z22 115]):=XJ n q91 aB aC aD aA (fun X=>some (X,())) C B L v3
def bK6 (d:DenA eS):Option (DenR dC):=LK n q91 aB aC aD aA d.1 d.2.1 d.2.2.1 d.2.2.2.1
def cS7:Sk:=(.nd (.fin none none (some dI) [] .leaf) (.nd (.nd (.fin none none (some dI) [] .leaf) (.fin none none (some dI) [] .leaf)) (.nd (.fin none none (some dI) [] .leaf) (.nd (.fin none none (some dI) [] .leaf) (.nd (.fin none none (some dI) [] .leaf) (.nd (.fin none none (some dI) [] .leaf) (.nd (.fin none none (some dI) [] .leaf) (.nd (.fin none none (some dI) [] .leaf) (.nd (.fin none none (some dI) [] .leaf) (.nd (.fin none none (some dI) [] .leaf) (.nd (.fin none none (some dI) [] .leaf) (.nd (.nd (.fin none none (some dI) [] .leaf) (.fin none (some ZO) (some dI) [] .leaf)) (.nd (.nd (.fin none none (some dI) [] .leaf) (.fin none none (some dI) [] .leaf)) (.nd (.fin none none (some dI) [] .leaf) (.fin none none (some dI) [] .leaf)))))))))))))))
theorem dH8 (s:FState) (cx:Cx β):FX (US n q91 aB aC aD aA) n RS cS7 s cx=FZ n q91 aB aC aD aA s cx:=by kernel_rfl
theorem bR4 (h91:Fit Tryd.prog 91 (aQ iB fJ q91)) (h110:Fit Tryd.prog 110 (aQ eS dC aB)) (h114:Fit Tryd.prog 114 (aQ eO dL aC)) (h136:Fit Tryd.prog 136 (aQ eT dQ aD)) (h143:Fit Tryd.prog 143 (aQ eH dW aA)):Fit Tryd.prog 110 (aQ eS dC (bK6 n q91 aB aC aD aA)):=
  cJ (Γ:=Γ0) (l:=dD1 n q91 aB aC aD aA) (n:=n) (sk:=cS7) (ts:=[(8,none)]) (fn:=Tryd.f110) (c:=RS) (by kernel_rfl) (by kernel_rfl) (by unfold aS;kernel_rfl) cF ⟨J4 n,D8 n,KP n,K0 n,h91,h110,h114,h136,h143,trivial⟩ aO (by kernel_rfl) (by kernel_rfl) (Nat.le_of_ble_eq_true (by kernel_rfl)) (Nat.le_of_ble_eq_true (by kernel_rfl)) (by kernel_rfl) (by kernel_rfl)
    (fun d=>(dH8 n q91 aB aC aD aA _ _).trans (Eq.trans (b:=FZ n q91 aB aC aD aA (YA d.1 d.2.1 d.2.2.1 d.2.2.2.1) (cS (US n q91 aB aC aD aA) dC [(8,none)])) (by kernel_rfl) ((cD9 n q91 aB aC aD aA _ d.1 d.2.1 d.2.2.1 d.2.2.2.1).trans (by kernel_rfl))))
def XT (C:Z11) (B L:List Int):FState:=⟨aM [(0,.ptr 0 0 0),(1,.sl 1 none false),(2,.sl 2 none false)],aE [(0,.row Z1 106 false [C]),(1,.row (.int .i32) 21 false B),(2,.row (.int .i32) 21 false L)]⟩
def dY (y:List Z26):FState:=⟨aM [(6,.sl 6 none false)],aE [(6,.row Z22 115 true y)]⟩
def iU:List NE:=[.row 6 Z22 115 true]
def tP (C:Z11) (B L:List Int) (E G F I H:Int) (Q R:List Int) (bd ax:Int):FState:=⟨aM [(0,.ptr 0 0 0),(1,.sl 1 none false),(2,.sl 2 none false),(7,.dat (.int .i64) E),(8,.dat (.int .i64) G),(9,.dat (.int .i64) F),(10,.dat (.int .i64) I),(11,.dat (.int .i64) H),(12,.sl 12 none false),(13,.sl 13 none false),(52,.dat (.int .i64) bd),(53,.dat (.int .i64) ax)],aE [(0,.row Z1 106 false [C]),(1,.row (.int .i32) 21 false B),(2,.row (.int .i32) 21 false L),(12,.row (.int .i64) 3 true Q),(13,.row (.int .i64) 3 true R)]⟩
def yM:List NE:=[.ptr 0 Z1 106 false,.row 1 (.int .i32) 21 false,.row 2 (.int .i32) 21 false,.keep 7,.keep 8,.keep 9,.keep 10,.keep 11,.row 12 (.int .i64) 3 true,.row 13 (.int .i64) 3 true,.keep 52,.keep 53]
def BD (C:Z11) (B L:List Int) (E G F I H:Int) (Q R:List Int):FState:=⟨aM [(0,.ptr 0 0 0),(1,.sl 1 none false),(2,.sl 2 none false),(7,.dat (.int .i64) E),(8,.dat (.int .i64) G),(9,.dat (.int .i64) F),(10,.dat (.int .i64) I),(11,.dat (.int .i64) H),(12,.sl 12 none false),(13,.sl 13 none false)],aE [(0,.row Z1 106 false [C]),(1,.row (.int .i32) 21 false B),(2,.row (.int .i32) 21 false L),(12,.row (.int .i64) 3 true Q),(13,.row (.int .i64) 3 true R)]⟩
def sI:List NE:=[.ptr 0 Z1 106 false,.row 1 (.int .i32) 21 false,.row 2 (.int .i32) 21 false,.keep 7,.keep 8,.keep 9,.keep 10,.keep 11,.row 12 (.int .i64) 3 true,.row 13 (.int .i64) 3 true]
def dD (C:Z11) (B L:List Int) (E G F I H:Int) (Q R:List Int) (U:Int) (Y:Bool) (o P O p h:Int):FState:=⟨aM [(0,.ptr 0 0 0),(1,.sl 1 none false),(2,.sl 2 none false),(7,.dat (.int .i64) E),(8,.dat (.int .i64) G),(9,.dat (.int .i64) F),(10,.dat (.int .i64) I),(11,.dat (.int .i64) H),(12,.sl 12 none false),(13,.sl 13 none false),(15,.dat (.int .i64) U),(16,.dat .bool Y),(17,.dat (.int .i64) o),(18,.dat (.int .i64) P),(19,.dat (.int .i64) O),(20,.dat (.int .i64) p),(21,.dat (.int .i64) h)],aE [(0,.row Z1 106 false [C]),(1,.row (.int .i32) 21 false B),(2,.row (.int .i32) 21 false L),(12,.row (.int .i64) 3 true Q),(13,.row (.int .i64) 3 true R)]⟩
def iD:List NE:=[.ptr 0 Z1 106 false,.row 1 (.int .i32) 21 false,.row 2 (.int .i32) 21 false,.keep 7,.keep 8,.keep 9,.keep 10,.keep 11,.row 12 (.int .i64) 3 true,.row 13 (.int .i64) 3 true,.keep 15,.keep 16,.keep 17,.keep 18,.keep 19,.keep 20,.keep 21]
def tM (B L:List Int):FState:=⟨aM [(1,.sl 1 none false),(2,.sl 2 none false)],aE [(1,.row (.int .i32) 21 false B),(2,.row (.int .i32) 21 false L)]⟩
def HR:List NE:=[.row 1 (.int .i32) 21 false,.row 2 (.int .i32) 21 false]
def gJ (C:Z11) (B L:List Int) (E G F I H:Int) (Q R:List Int) (U:Int) (Y:Bool) (o P O p h ab:Int):FState:=⟨aM [(0,.ptr 0 0 0),(1,.sl 1 none false),(2,.sl 2 none false),(7,.dat (.int .i64) E),(8,.dat (.int .i64) G),(9,.dat (.int .i64) F),(10,.dat (.int .i64) I),(11,.dat (.int .i64) H),(12,.sl 12 none false),(13,.sl 13 none false),(15,.dat (.int .i64) U),(16,.dat .bool Y),(17,.dat (.int .i64) o),(18,.dat (.int .i64) P),(19,.dat (.int .i64) O),(20,.dat (.int .i64) p),(21,.dat (.int .i64) h),(22,.dat (.int .i64) ab)],aE [(0,.row Z1 106 false [C]),(1,.row (.int .i32) 21 false B),(2,.row (.int .i32) 21 false L),(12,.row (.int .i64) 3 true Q),(13,.row (.int .i64) 3 true R)]⟩
def lN:List NE:=[.ptr 0 Z1 106 false,.row 1 (.int .i32) 21 false,.row 2 (.int .i32) 21 false,.keep 7,.keep 8,.keep 9,.keep 10,.keep 11,.row 12 (.int .i64) 3 true,.row 13 (.int .i64) 3 true,.keep 15,.keep 16,.keep 17,.keep 18,.keep 19,.keep 20,.keep 21,.keep 22]
def E7 (C:Z11) (B L:List Int) (E G F I H:Int) (Q R:List Int) (U:Int) (Y:Bool) (o P O p h ab an am:Int):FState:=⟨aM [(0,.ptr 0 0 0),(1,.sl 1 none false),(2,.sl 2 none false),(7,.dat (.int .i64) E),(8,.dat (.int .i64) G),(9,.dat (.int .i64) F),(10,.dat (.int .i64) I),(11,.dat (.int .i64) H),(12,.sl 12 none false),(13,.sl 13 none false),(15,.dat (.int .i64) U),(16,.dat .bool Y),(17,.dat (.int .i64) o),(18,.dat (.int .i64) P),(19,.dat (.int .i64) O),(20,.dat (.int .i64) p),(21,.dat (.int .i64) h),(22,.dat (.int .i64) ab),(23,.dat (.int .i64) an),(24,.dat (.int .i64) am)],aE [(0,.row Z1 106 false [C]),(1,.row (.int .i32) 21 false B),(2,.row (.int .i32) 21 false L),(12,.row (.int .i64) 3 true Q),(13,.row (.int .i64) 3 true R)]⟩
def NT:List NE:=[.ptr 0 Z1 106 false,.row 1 (.int .i32) 21 false,.row 2 (.int .i32) 21 false,.keep 7,.keep 8,.keep 9,.keep 10,.keep 11,.row 12 (.int .i64) 3 true,.row 13 (.int .i64) 3 true,.keep 15,.keep 16,.keep 17,.keep 18,.keep 19,.keep 20,.keep 21,.keep 22,.keep 23,.keep 24]
def iQ (C:Z11) (B L:List Int) (E G F I H:Int) (Q R:List Int) (U:Int) (Y:Bool) (o P O p h ab an am au:Int):FState:=⟨aM [(0,.ptr 0 0 0),(1,.sl 1 none false),(2,.sl 2 none false),(7,.dat (.int .i64) E),(8,.dat (.int .i64) G),(9,.dat (.int .i64) F),(10,.dat (.int .i64) I),(11,.dat (.int .i64) H),(12,.sl 12 none false),(13,.sl 13 none false),(15,.dat (.int .i64) U),(16,.dat .bool Y),(17,.dat (.int .i64) o),(18,.dat (.int .i64) P),(19,.dat (.int .i64) O),(20,.dat (.int .i64) p),(21,.dat (.int .i64) h),(22,.dat (.int .i64) ab),(23,.dat (.int .i64) an),(24,.dat (.int .i64) am),(25,.dat (.int .i64) au)],aE [(0,.row Z1 106 false [C]),(1,.row (.int .i32) 21 false B),(2,.row (.int .i32) 21 false L),(12,.row (.int .i64) 3 true Q),(13,.row (.int .i64) 3 true R)]⟩
def kB:List NE:=[.ptr 0 Z1 106 false,.row 1 (.int .i32) 21 false,.row 2 (.int .i32) 21 false,.keep 7,.keep 8,.keep 9,.keep 10,.keep 11,.row 12 (.int .i64) 3 true,.row 13 (.int .i64) 3 true,.keep 15,.keep 16,.keep 17,.keep 18,.keep 19,.keep 20,.keep 21,.keep 22,.keep 23,.keep 24,.keep 25]
def eU (C:Z11) (B L:List Int) (E G F I H:Int) (Q R:List Int) (U:Int) (Y:Bool) (o P O p h aa:Int):FState:=⟨aM [(0,.ptr 0 0 0),(1,.sl 1 none false),(2,.sl 2 none false),(7,.dat (.int .i64) E),(8,.dat (.int .i64) G),(9,.dat (.int .i64) F),(10,.dat (.int .i64) I),(11,.dat (.int .i64) H),(12,.sl 12 none false),(13,.sl 13 none false),(15,.dat (.int .i64) U),(16,.dat .bool Y),(17,.dat (.int .i64) o),(18,.dat (.int .i64) P),(19,.dat (.int .i64) O),(20,.dat (.int .i64) p),(21,.dat (.int .i64) h),(28,.dat (.int .i64) aa)],aE [(0,.row Z1 106 false [C]),(1,.row (.int .i32) 21 false B),(2,.row (.int .i32) 21 false L),(12,.row (.int .i64) 3 true Q),(13,.row (.int .i64) 3 true R)]⟩
def jW:List NE:=[.ptr 0 Z1 106 false,.row 1 (.int .i32) 21 false,.row 2 (.int .i32) 21 false,.keep 7,.keep 8,.keep 9,.keep 10,.keep 11,.row 12 (.int .i64) 3 true,.row 13 (.int .i64) 3 true,.keep 15,.keep 16,.keep 17,.keep 18,.keep 19,.keep 20,.keep 21,.keep 28]
def M1 (C:Z11) (B L:List Int) (E G F I H:Int) (Q R:List Int) (U:Int) (Y:Bool) (o P O p h aa ao ah:Int):FState:=⟨aM [(0,.ptr 0 0 0),(1,.sl 1 none false),(2,.sl 2 none false),(7,.dat (.int .i64) E),(8,.dat (.int .i64) G),(9,.dat (.int .i64) F),(10,.dat (.int .i64) I),(11,.dat (.int .i64) H),(12,.sl 12 none false),(13,.sl 13 none false),(15,.dat (.int .i64) U),(16,.dat .bool Y),(17,.dat (.int .i64) o),(18,.dat (.int .i64) P),(19,.dat (.int .i64) O),(20,.dat (.int .i64) p),(21,.dat (.int .i64) h),(28,.dat (.int .i64) aa),(29,.dat (.int .i64) ao),(30,.dat (.int .i64) ah)],aE [(0,.row Z1 106 false [C]),(1,.row (.int .i32) 21 false B),(2,.row (.int .i32) 21 false L),(12,.row (.int .i64) 3 true Q),(13,.row (.int .i64) 3 true R)]⟩
def NK:List NE:=[.ptr 0 Z1 106 false,.row 1 (.int .i32) 21 false,.row 2 (.int .i32) 21 false,.keep 7,.keep 8,.keep 9,.keep 10,.keep 11,.row 12 (.int .i64) 3 true,.row 13 (.int .i64) 3 true,.keep 15,.keep 16,.keep 17,.keep 18,.keep 19,.keep 20,.keep 21,.keep 28,.keep 29,.keep 30]
def iR (C:Z11) (B L:List Int) (E G F I H:Int) (Q R:List Int) (U:Int) (Y:Bool) (o P O p h aa ao ah ai:Int):FState:=⟨aM [(0,.ptr 0 0 0),(1,.sl 1 none false),(2,.sl 2 none false),(7,.dat (.int .i64) E),(8,.dat (.int .i64) G),(9,.dat (.int .i64) F),(10,.dat (.int .i64) I),(11,.dat (.int .i64) H),(12,.sl 12 none false),(13,.sl 13 none false),(15,.dat (.int .i64) U),(16,.dat .bool Y),(17,.dat (.int .i64) o),(18,.dat (.int .i64) P),(19,.dat (.int .i64) O),(20,.dat (.int .i64) p),(21,.dat (.int .i64) h),(28,.dat (.int .i64) aa),(29,.dat (.int .i64) ao),(30,.dat (.int .i64) ah),(31,.dat (.int .i64) ai)],aE [(0,.row Z1 106 false [C]),(1,.row (.int .i32) 21 false B),(2,.row (.int .i32) 21 false L),(12,.row (.int .i64) 3 true Q),(13,.row (.int .i64) 3 true R)]⟩
def jS:List NE:=[.ptr 0 Z1 106 false,.row 1 (.int .i32) 21 false,.row 2 (.int .i32) 21 false,.keep 7,.keep 8,.keep 9,.keep 10,.keep 11,.row 12 (.int .i64) 3 true,.row 13 (.int .i64) 3 true,.keep 15,.keep 16,.keep 17,.keep 18,.keep 19,.keep 20,.keep 21,.keep 28,.keep 29,.keep 30,.keep 31]
def dJ6 (n:Nat) (q91:Q91) (aB:aL) (aC:aK) (aD:aJ) (aA:aI):List (Nat×Spec):=[(91,aQ iB fJ q91),(110,aQ eS dC aB),(114,aQ eO dL aC),(136,aQ eT dQ aD),(143,aQ eH dW aA)]
def fQ:Ctx:={Γ0 with calls:=lkS (dJ6 n q91 aB aC aD aA)}
def fR:Code:=fb Tryd.f114
def W2 (n:Nat) (q91:Q91) (aB:aL) (aC:aK) (aD:aJ) (aA:aI) (kn:Z11→List Int→List Int→Int→Int→Int→Int→Int→List Int→List Int→Int→Int→Option β) (C:Z11) (B L:List Int):Option β:=bnd 0 (w64 ((2:Int) * (w64 ((w64 ((w64 ((B.length:Int)+(L.length:Int)))+(1:Int))).tdiv (2:Int))))) (w64 ((2:Int) * (w64 ((w64 ((w64 ((B.length:Int)+(L.length:Int)))+(1:Int))).tdiv (2:Int)))))<|vN (w64 ((2:Int) * (w64 ((w64 ((w64 ((B.length:Int)+(L.length:Int)))+(1:Int))).tdiv (2:Int)))))<|bnd 0 (w64 ((2:Int) * (w64 ((w64 ((w64 ((B.length:Int)+(L.length:Int)))+(1:Int))).tdiv (2:Int))))) (w64 ((2:Int) * (w64 ((w64 ((w64 ((B.length:Int)+(L.length:Int)))+(1:Int))).tdiv (2:Int)))))<|vN (w64 ((2:Int) * (w64 ((w64 ((w64 ((B.length:Int)+(L.length:Int)))+(1:Int))).tdiv (2:Int)))))<|kn C B L (B.length:Int) (L.length:Int) (w64 ((w64 ((w64 ((B.length:Int)+(L.length:Int)))+(1:Int))).tdiv (2:Int))) (w64 ((w64 ((w64 ((B.length:Int)+(L.length:Int)))+(1:Int))).tdiv (2:Int))) (w64 ((2:Int) * (w64 ((w64 ((w64 ((B.length:Int)+(L.length:Int)))+(1:Int))).tdiv (2:Int))))) (List.replicate (w64 ((2:Int) * (w64 ((w64 ((w64 ((B.length:Int)+(L.length:Int)))+(1:Int))).tdiv (2:Int))))).toNat (0:Int)) (List.replicate (w64 ((2:Int) * (w64 ((w64 ((w64 ((B.length:Int)+(L.length:Int)))+(1:Int))).tdiv (2:Int))))).toNat (0:Int)) ((List.replicate (w64 ((2:Int) * (w64 ((w64 ((w64 ((B.length:Int)+(L.length:Int)))+(1:Int))).tdiv (2:Int))))).toNat (0:Int)).length:Int) (0:Int)
def bE0:FS1 β:=FXs (fQ n q91 aB aC aD aA) n fR (some yM) none [] [2,6,14,30,62,126,254,1020]
theorem cI2 (C:Z11) (B L:List Int):bE0 n q91 aB aC aD aA (XT C B L) cx=W2 n q91 aB aC aD aA (fun C B L E G F I H Q R bd ax=>cx.nrm (tP C B L E G F I H Q R bd ax)) C B L:=by kernel_rfl
def TB (n:Nat) (q91:Q91) (aB:aL) (aC:aK) (aD:aJ) (aA:aI) (kn:Z11→List Int→List Int→Int→Int→Int→Int→Int→List Int→List Int→Int→Int→Option β) (ae:Z11→List Int→List Int→Int→Int→Int→Int→Int→List Int→List Int→Option β) (C:Z11) (B L:List Int) (E G F I H:Int) (Q R:List Int) (bd ax:Int):Option β:=bif (decide (ax < bd)) then (idx ax (Q.length:Int)<|idx ax (R.length:Int)<|kn C B L E G F I H (Q.set ax.toNat (-1:Int)) (R.set ax.toNat (-1:Int)) bd (w64 (ax+1))) else (ae C B L E G F I H Q R)
def QH:FS1 β:=FXs (fQ n q91 aB aC aD aA) n fR (some yM) none [(0,sI)] [8168,16338,32678,32679]
theorem bZ9 (C:Z11) (B L:List Int) (E G F I H:Int) (Q R:List Int) (bd ax:Int):QH n q91 aB aC aD aA (tP C B L E G F I H Q R bd ax) cx=TB n q91 aB aC aD aA (fun C B L E G F I H Q R bd ax=>cx.nrm (tP C B L E G F I H Q R bd ax)) (fun C B L E G F I H Q R=>cx.ex 0 (BD C B L E G F I H Q R)) C B L E G F I H Q R bd ax:=by kernel_rfl
def g114_3L (n:Nat) (q91:Q91) (aB:aL) (aC:aK) (aD:aJ) (aA:aI) (ae:Z11→List Int→List Int→Int→Int→Int→Int→Int→List Int→List Int→Option β):Nat→Z11→List Int→List Int→Int→Int→Int→Int→Int→List Int→List Int→Int→Int→Option β
  | 0,_,_,_,_,_,_,_,_,_,_,_,_=>none
  | m+1,C,B,L,E,G,F,I,H,Q,R,bd,ax=>TB n q91 aB aC aD aA (g114_3L n q91 aB aC aD aA ae m) ae C B L E G F I H Q R bd ax
def aQ2 (ae:Z11→List Int→List Int→Int→Int→Int→Int→Int→List Int→List Int→Option β) (C:Z11) (B L:List Int) (E G F I H:Int) (Q R:List Int) (bd ax:Int):Option β:=g114_3L n q91 aB aC aD aA ae n C B L E G F I H Q R bd ax
def bB8 (s:FState) (cx:Cx β):Option β:=bO (fun again s=>QH n q91 aB aC aD aA s {cx with nrm:=again}) n s
theorem Y6 (n:Nat) (q91:Q91) (aB:aL) (aC:aK) (aD:aJ) (aA:aI) (cx:Cx β):∀(m:Nat) (C:Z11) (B L:List Int) (E G F I H:Int) (Q R:List Int) (bd ax:Int),bO (fun again s=>QH n q91 aB aC aD aA s {cx with nrm:=again}) m (tP C B L E G F I H Q R bd ax)=g114_3L n q91 aB aC aD aA (fun C B L E G F I H Q R=>cx.ex 0 (BD C B L E G F I H Q R)) m C B L E G F I H Q R bd ax:=by
  intro m
  induction m with
  | zero=>intros;rfl
  | succ m ih=>intros;simp only [bO,g114_3L,bZ9,ih]
theorem cB9 (C:Z11) (B L:List Int) (E G F I H:Int) (Q R:List Int) (bd ax:Int):bB8 n q91 aB aC aD aA (tP C B L E G F I H Q R bd ax) cx=aQ2 n q91 aB aC aD aA (fun C B L E G F I H Q R=>cx.ex 0 (BD C B L E G F I H Q R)) C B L E G F I H Q R bd ax:=Y6 n q91 aB aC aD aA cx n C B L E G F I H Q R bd ax
def aA3 (kn:Z11→List Int→List Int→Int→Int→Int→Int→Int→List Int→List Int→Option β) (C:Z11) (B L:List Int) (E G F I H:Int) (Q R:List Int) (bd ax:Int):Option β:=aQ2 n q91 aB aC aD aA kn C B L E G F I H Q R bd ax
def bL1 (s:FState) (cx:Cx β):Option β:=bB8 n q91 aB aC aD aA s {cx with ex:=fun j s=>bif Nat.beq j 0 then cx.nrm s else cx.ex j s}
theorem cC9 (C:Z11) (B L:List Int) (E G F I H:Int) (Q R:List Int) (bd ax:Int):bL1 n q91 aB aC aD aA (tP C B L E G F I H Q R bd ax) cx=aA3 n q91 aB aC aD aA (fun C B L E G F I H Q R=>cx.nrm (BD C B L E G F I H Q R)) C B L E G F I H Q R bd ax:=cB9 n q91 aB aC aD aA _ C B L E G F I H Q R bd ax
def XM (n:Nat) (q91:Q91) (aB:aL) (aC:aK) (aD:aJ) (aA:aI) (kn:Z11→List Int→List Int→Int→Int→Int→Int→Int→List Int→List Int→Int→Bool→Int→Int→Int→Int→Int→Option β) (C:Z11) (B L:List Int) (E G F I H:Int) (Q R:List Int):Option β:=idx (w64 (I+1)) (Q.length:Int)<|idx (w64 (I+1)) (R.length:Int)<|kn C B L E G F I H (Q.set (w64 (I+1)).toNat (0:Int)) (R.set (w64 (I+1)).toNat (0:Int)) (w64 (E - G)) (((w64 (E - G)).tmod (2:Int))!=(0:Int)) (0:Int) (0:Int) (0:Int) (0:Int) (0:Int)
def bG9:FS1 β:=FXs (fQ n q91 aB aC aD aA) n fR (some iD) none [] [1022,2046,4094,8190,16382,32766,65534,131070,524284]
theorem bX1 (C:Z11) (B L:List Int) (E G F I H:Int) (Q R:List Int):bG9 n q91 aB aC aD aA (BD C B L E G F I H Q R) cx=XM n q91 aB aC aD aA (fun C B L E G F I H Q R U Y o P O p h=>cx.nrm (dD C B L E G F I H Q R U Y o P O p h)) C B L E G F I H Q R:=by kernel_rfl
def aE1 (n:Nat) (q91:Q91) (aB:aL) (aC:aK) (aD:aJ) (aA:aI) (kn:Z11→List Int→List Int→Int→Int→Int→Int→Int→List Int→List Int→Int→Bool→Int→Int→Int→Int→Int→Option β) (ap:List Int→List Int→Option β) (C:Z11) (B L:List Int) (E G F I H:Int) (Q R:List Int) (U:Int) (Y:Bool) (o P O p h:Int):Option β:=bif (decide (h < F)) then (kn C B L E G F I H Q R U Y o P O p h) else (ap B L)
def aV2:FS1 β:=FXs (fQ n q91 aB aC aD aA) n fR (some iD) none [(2,HR)] [8388560,8388561]
theorem cC3 (C:Z11) (B L:List Int) (E G F I H:Int) (Q R:List Int) (U:Int) (Y:Bool) (o P O p h:Int):aV2 n q91 aB aC aD aA (dD C B L E G F I H Q R U Y o P O p h) cx=aE1 n q91 aB aC aD aA (fun C B L E G F I H Q R U Y o P O p h=>cx.nrm (dD C B L E G F I H Q R U Y o P O p h)) (fun B L=>cx.ex 2 (tM B L)) C B L E G F I H Q R U Y o P O p h:=by kernel_rfl
def aL1 (n:Nat) (q91:Q91) (aB:aL) (aC:aK) (aD:aJ) (aA:aI) (kn:Z11→List Int→List Int→Int→Int→Int→Int→Int→List Int→List Int→Int→Bool→Int→Int→Int→Int→Int→Int→Option β) (C:Z11) (B L:List Int) (E G F I H:Int) (Q R:List Int) (U:Int) (Y:Bool) (o P O p h:Int):Option β:=kn C B L E G F I H Q R U Y o P O p h (w64 ((w64 (0 - h))+o))
def bM8:FS1 β:=FXs (fQ n q91 aB aC aD aA) n fR (some lN) none [] [67108496]
theorem bT4 (C:Z11) (B L:List Int) (E G F I H:Int) (Q R:List Int) (U:Int) (Y:Bool) (o P O p h:Int):bM8 n q91 aB aC aD aA (dD C B L E G F I H Q R U Y o P O p h) cx=aL1 n q91 aB aC aD aA (fun C B L E G F I H Q R U Y o P O p h ab=>cx.nrm (gJ C B L E G F I H Q R U Y o P O p h ab)) C B L E G F I H Q R U Y o P O p h:=by kernel_rfl
def aJ2 (n:Nat) (q91:Q91) (aB:aL) (aC:aK) (aD:aJ) (aA:aI) (kn:Z11→List Int→List Int→Int→Int→Int→Int→Int→List Int→List Int→Int→Bool→Int→Int→Int→Int→Int→Int→Option β) (bm:Z11→List Int→List Int→Int→Int→Int→Int→Int→List Int→List Int→Int→Bool→Int→Int→Int→Int→Int→Option β) (C:Z11) (B L:List Int) (E G F I H:Int) (Q R:List Int) (U:Int) (Y:Bool) (o P O p h ab:Int):Option β:=bif (decide (ab≤(w64 (h - P)))) then (kn C B L E G F I H Q R U Y o P O p h ab) else (bm C B L E G F I H Q R U Y o P O p h)
def bN0:FS1 β:=FXs (fQ n q91 aB aC aD aA) n fR (some lN) none [(4,iD)] [1073735952,1073735953]
theorem cJ0 (C:Z11) (B L:List Int) (E G F I H:Int) (Q R:List Int) (U:Int) (Y:Bool) (o P O p h ab:Int):bN0 n q91 aB aC aD aA (gJ C B L E G F I H Q R U Y o P O p h ab) cx=aJ2 n q91 aB aC aD aA (fun C B L E G F I H Q R U Y o P O p h ab=>cx.nrm (gJ C B L E G F I H Q R U Y o P O p h ab)) (fun C B L E G F I H Q R U Y o P O p h=>cx.ex 4 (dD C B L E G F I H Q R U Y o P O p h)) C B L E G F I H Q R U Y o P O p h ab:=by kernel_rfl
def TY (n:Nat) (q91:Q91) (aB:aL) (aC:aK) (aD:aJ) (aA:aI) (kn:Z11→List Int→List Int→Int→Int→Int→Int→Int→List Int→List Int→Int→Bool→Int→Int→Int→Int→Int→Int→Int→Int→Option β) (C:Z11) (B L:List Int) (E G F I H:Int) (Q R:List Int) (U:Int) (Y:Bool) (o P O p h ab:Int):Option β:=bif (ab==(w64 (0 - h))) then (idx (w64 ((w64 (I+ab))+(1:Int))) (Q.length:Int)<|kn C B L E G F I H Q R U Y o P O p h ab (w64 (I+ab)) (rd Q (w64 ((w64 (I+ab))+(1:Int))) (0:Int))) else (bif (ab !=h) then (idx (w64 ((w64 (I+ab)) - (1:Int))) (Q.length:Int)<|idx (w64 ((w64 (I+ab))+(1:Int))) (Q.length:Int)<|bif (decide ((rd Q (w64 ((w64 (I+ab)) - (1:Int))) (0:Int)) < (rd Q (w64 ((w64 (I+ab))+(1:Int))) (0:Int)))) then (idx (w64 ((w64 (I+ab))+(1:Int))) (Q.length:Int)<|kn C B L E G F I H Q R U Y o P O p h ab (w64 (I+ab)) (rd Q (w64 ((w64 (I+ab))+(1:Int))) (0:Int))) else (idx (w64 ((w64 (I+ab)) - (1:Int))) (Q.length:Int)<|kn C B L E G F I H Q R U Y o P O p h ab (w64 (I+ab)) (w64 ((rd Q (w64 ((w64 (I+ab)) - (1:Int))) (0:Int))+(1:Int))))) else (idx (w64 ((w64 (I+ab)) - (1:Int))) (Q.length:Int)<|kn C B L E G F I H Q R U Y o P O p h ab (w64 (I+ab)) (w64 ((rd Q (w64 ((w64 (I+ab)) - (1:Int))) (0:Int))+(1:Int)))))
def bK5:FS1 β:=FXs (fQ n q91 aB aC aD aA) n fR (some NT) none [] [4294943816,8589887634,34359550540,34359550541]
theorem cH3 (C:Z11) (B L:List Int) (E G F I H:Int) (Q R:List Int) (U:Int) (Y:Bool) (o P O p h ab:Int):bK5 n q91 aB aC aD aA (gJ C B L E G F I H Q R U Y o P O p h ab) cx=TY n q91 aB aC aD aA (fun C B L E G F I H Q R U Y o P O p h ab an am=>cx.nrm (E7 C B L E G F I H Q R U Y o P O p h ab an am)) C B L E G F I H Q R U Y o P O p h ab:=by kernel_rfl
def QL (n:Nat) (q91:Q91) (aB:aL) (aC:aK) (aD:aJ) (aA:aI) (kn:Z11→List Int→List Int→Int→Int→Int→Int→Int→List Int→List Int→Int→Bool→Int→Int→Int→Int→Int→Int→Int→Int→Int→Option β) (C:Z11) (B L:List Int) (E G F I H:Int) (Q R:List Int) (U:Int) (Y:Bool) (o P O p h ab an am:Int):Option β:=kn C B L E G F I H Q R U Y o P O p h ab an am (w64 (am - ab))
def R6:FS1 β:=FXs (fQ n q91 aB aC aD aA) n fR (some kB) none [] [34359550542]
theorem T4 (C:Z11) (B L:List Int) (E G F I H:Int) (Q R:List Int) (U:Int) (Y:Bool) (o P O p h ab an am:Int):R6 n q91 aB aC aD aA (E7 C B L E G F I H Q R U Y o P O p h ab an am) cx=QL n q91 aB aC aD aA (fun C B L E G F I H Q R U Y o P O p h ab an am au=>cx.nrm (iQ C B L E G F I H Q R U Y o P O p h ab an am au)) C B L E G F I H Q R U Y o P O p h ab an am:=by kernel_rfl
def FD (n:Nat) (q91:Q91) (aB:aL) (aC:aK) (aD:aJ) (aA:aI) (kn bn:Z11→List Int→List Int→Int→Int→Int→Int→Int→List Int→List Int→Int→Bool→Int→Int→Int→Int→Int→Int→Int→Int→Int→Option β) (C:Z11) (B L:List Int) (E G F I H:Int) (Q R:List Int) (U:Int) (Y:Bool) (o P O p h ab an am au:Int):Option β:=bif (decide (am < E)) then (bif (decide (au < G)) then (idx am (B.length:Int)<|idx au (L.length:Int)<|bif ((rd B am (0:Int))!=(rd L au (0:Int))) then (bn C B L E G F I H Q R U Y o P O p h ab an am au) else (kn C B L E G F I H Q R U Y o P O p h ab an (w64 (am+1)) (w64 (au+1)))) else (bn C B L E G F I H Q R U Y o P O p h ab an am au)) else (bn C B L E G F I H Q R U Y o P O p h ab an am au)
def KS:FS1 β:=FXs (fQ n q91 aB aC aD aA) n fR (some kB) none [(6,kB)] [1099505617376,1099505617377,549752808689]
theorem aJ6 (C:Z11) (B L:List Int) (E G F I H:Int) (Q R:List Int) (U:Int) (Y:Bool) (o P O p h ab an am au:Int):KS n q91 aB aC aD aA (iQ C B L E G F I H Q R U Y o P O p h ab an am au) cx=FD n q91 aB aC aD aA (fun C B L E G F I H Q R U Y o P O p h ab an am au=>cx.nrm (iQ C B L E G F I H Q R U Y o P O p h ab an am au)) (fun C B L E G F I H Q R U Y o P O p h ab an am au=>cx.ex 6 (iQ C B L E G F I H Q R U Y o P O p h ab an am au)) C B L E G F I H Q R U Y o P O p h ab an am au:=by kernel_rfl
def g114_12L (n:Nat) (q91:Q91) (aB:aL) (aC:aK) (aD:aJ) (aA:aI) (bn:Z11→List Int→List Int→Int→Int→Int→Int→Int→List Int→List Int→Int→Bool→Int→Int→Int→Int→Int→Int→Int→Int→Int→Option β):Nat→Z11→List Int→List Int→Int→Int→Int→Int→Int→List Int→List Int→Int→Bool→Int→Int→Int→Int→Int→Int→Int→Int→Int→Option β
  | 0,_,_,_,_,_,_,_,_,_,_,_,_,_,_,_,_,_,_,_,_,_=>none
  | m+1,C,B,L,E,G,F,I,H,Q,R,U,Y,o,P,O,p,h,ab,an,am,au=>FD n q91 aB aC aD aA (g114_12L n q91 aB aC aD aA bn m) bn C B L E G F I H Q R U Y o P O p h ab an am au
def WK (bn:Z11→List Int→List Int→Int→Int→Int→Int→Int→List Int→List Int→Int→Bool→Int→Int→Int→Int→Int→Int→Int→Int→Int→Option β) (C:Z11) (B L:List Int) (E G F I H:Int) (Q R:List Int) (U:Int) (Y:Bool) (o P O p h ab an am au:Int):Option β:=g114_12L n q91 aB aC aD aA bn n C B L E G F I H Q R U Y o P O p h ab an am au
def G4 (s:FState) (cx:Cx β):Option β:=bO (fun again s=>KS n q91 aB aC aD aA s {cx with nrm:=again}) n s
theorem H8 (n:Nat) (q91:Q91) (aB:aL) (aC:aK) (aD:aJ) (aA:aI) (cx:Cx β):∀(m:Nat) (C:Z11) (B L:List Int) (E G F I H:Int) (Q R:List Int) (U:Int) (Y:Bool) (o P O p h ab an am au:Int),bO (fun again s=>KS n q91 aB aC aD aA s {cx with nrm:=again}) m (iQ C B L E G F I H Q R U Y o P O p h ab an am au)=g114_12L n q91 aB aC aD aA (fun C B L E G F I H Q R U Y o P O p h ab an am au=>cx.ex 6 (iQ C B L E G F I H Q R U Y o P O p h ab an am au)) m C B L E G F I H Q R U Y o P O p h ab an am au:=by
  intro m
  induction m with
  | zero=>intros;rfl
  | succ m ih=>intros;simp only [bO,g114_12L,aJ6,ih]
theorem W6 (C:Z11) (B L:List Int) (E G F I H:Int) (Q R:List Int) (U:Int) (Y:Bool) (o P O p h ab an am au:Int):G4 n q91 aB aC aD aA (iQ C B L E G F I H Q R U Y o P O p h ab an am au) cx=WK n q91 aB aC aD aA (fun C B L E G F I H Q R U Y o P O p h ab an am au=>cx.ex 6 (iQ C B L E G F I H Q R U Y o P O p h ab an am au)) C B L E G F I H Q R U Y o P O p h ab an am au:=H8 n q91 aB aC aD aA cx n C B L E G F I H Q R U Y o P O p h ab an am au
def WD (kn:Z11→List Int→List Int→Int→Int→Int→Int→Int→List Int→List Int→Int→Bool→Int→Int→Int→Int→Int→Int→Int→Int→Int→Option β) (C:Z11) (B L:List Int) (E G F I H:Int) (Q R:List Int) (U:Int) (Y:Bool) (o P O p h ab an am au:Int):Option β:=WK n q91 aB aC aD aA kn C B L E G F I H Q R U Y o P O p h ab an am au
def I3 (s:FState) (cx:Cx β):Option β:=G4 n q91 aB aC aD aA s {cx with ex:=fun j s=>bif Nat.beq j 6 then cx.nrm s else cx.ex j s}
theorem aR6 (C:Z11) (B L:List Int) (E G F I H:Int) (Q R:List Int) (U:Int) (Y:Bool) (o P O p h ab an am au:Int):I3 n q91 aB aC aD aA (iQ C B L E G F I H Q R U Y o P O p h ab an am au) cx=WD n q91 aB aC aD aA (fun C B L E G F I H Q R U Y o P O p h ab an am au=>cx.nrm (iQ C B L E G F I H Q R U Y o P O p h ab an am au)) C B L E G F I H Q R U Y o P O p h ab an am au:=W6 n q91 aB aC aD aA _ C B L E G F I H Q R U Y o P O p h ab an am au
def zH (n:Nat) (q91:Q91) (aB:aL) (aC:aK) (aD:aJ) (aA:aI) (kn:Z11→List Int→List Int→Int→Int→Int→Int→Int→List Int→List Int→Int→Bool→Int→Int→Int→Int→Int→Int→Option β) (kr:List Z26→Option β) (C:Z11) (B L:List Int) (E G F I H:Int) (Q R:List Int) (U:Int) (Y:Bool) (o P O p h ab an am au:Int):Option β:=idx an (Q.length:Int)<|bif (decide (am>E)) then (kn C B L E G F I H (Q.set an.toNat am) R U Y o (w64 (P+2)) O p h ab) else (bif (decide (au>G)) then (kn C B L E G F I H (Q.set an.toNat am) R U Y (w64 (o+2)) P O p h ab) else (bif Y then (bif (decide ((w64 ((w64 (I+U)) - ab))≥(0:Int))) then (bif (decide ((w64 ((w64 (I+U)) - ab)) < H)) then (idx (w64 ((w64 (I+U)) - ab)) (R.length:Int)<|bif ((rd R (w64 ((w64 (I+U)) - ab)) (0:Int))!=(-1:Int)) then (idx (w64 ((w64 (I+U)) - ab)) (R.length:Int)<|bif (decide (am≥(w64 (E - (rd R (w64 ((w64 (I+U)) - ab)) (0:Int)))))) then ((aA (C,(B,(L,(am,(au,())))))).bind fun W=>kr W.1) else (kn C B L E G F I H (Q.set an.toNat am) R U Y o P O p h ab)) else (kn C B L E G F I H (Q.set an.toNat am) R U Y o P O p h ab)) else (kn C B L E G F I H (Q.set an.toNat am) R U Y o P O p h ab)) else (kn C B L E G F I H (Q.set an.toNat am) R U Y o P O p h ab)) else (kn C B L E G F I H (Q.set an.toNat am) R U Y o P O p h ab)))
def M5:FS1 β:=FXs (fQ n q91 aB aC aD aA) n fR (some lN) (some iU) [] [137438202174,274876404350,274876404351]
theorem aE4 (C:Z11) (B L:List Int) (E G F I H:Int) (Q R:List Int) (U:Int) (Y:Bool) (o P O p h ab an am au:Int):M5 n q91 aB aC aD aA (iQ C B L E G F I H Q R U Y o P O p h ab an am au) cx=zH n q91 aB aC aD aA (fun C B L E G F I H Q R U Y o P O p h ab=>cx.nrm (gJ C B L E G F I H Q R U Y o P O p h ab)) (fun y=>cx.ret (dY y)) C B L E G F I H Q R U Y o P O p h ab an am au:=by kernel_rfl
def qT (kn:Z11→List Int→List Int→Int→Int→Int→Int→Int→List Int→List Int→Int→Bool→Int→Int→Int→Int→Int→Int→Option β) (kr:List Z26→Option β) (C:Z11) (B L:List Int) (E G F I H:Int) (Q R:List Int) (U:Int) (Y:Bool) (o P O p h ab:Int):Option β:=TY n q91 aB aC aD aA (fun C B L E G F I H Q R U Y o P O p h ab an am=>QL n q91 aB aC aD aA (fun C B L E G F I H Q R U Y o P O p h ab an am au=>WD n q91 aB aC aD aA (fun C B L E G F I H Q R U Y o P O p h ab an am au=>zH n q91 aB aC aD aA kn kr C B L E G F I H Q R U Y o P O p h ab an am au) C B L E G F I H Q R U Y o P O p h ab an am au) C B L E G F I H Q R U Y o P O p h ab an am) C B L E G F I H Q R U Y o P O p h ab
def JY (s:FState) (cx:Cx β):Option β:=bK5 n q91 aB aC aD aA s {cx with nrm:=fun s=>R6 n q91 aB aC aD aA s {cx with nrm:=fun s=>I3 n q91 aB aC aD aA s {cx with nrm:=fun s=>M5 n q91 aB aC aD aA s cx}}}
theorem aE0 (C:Z11) (B L:List Int) (E G F I H:Int) (Q R:List Int) (U:Int) (Y:Bool) (o P O p h ab:Int):JY n q91 aB aC aD aA (gJ C B L E G F I H Q R U Y o P O p h ab) cx=qT n q91 aB aC aD aA (fun C B L E G F I H Q R U Y o P O p h ab=>cx.nrm (gJ C B L E G F I H Q R U Y o P O p h ab)) (fun y=>cx.ret (dY y)) C B L E G F I H Q R U Y o P O p h ab:=by simp only [JY,qT,cH3,T4,aR6,aE4]
def TX (kn:Z11→List Int→List Int→Int→Int→Int→Int→Int→List Int→List Int→Int→Bool→Int→Int→Int→Int→Int→Int→Option β) (kr:List Z26→Option β) (C:Z11) (B L:List Int) (E G F I H:Int) (Q R:List Int) (U:Int) (Y:Bool) (o P O p h ab:Int):Option β:=qT n q91 aB aC aD aA kn kr C B L E G F I H Q R U Y o P O p h ab
def YO (s:FState) (cx:Cx β):Option β:=JY n q91 aB aC aD aA s {cx with ex:=fun j s=>bif Nat.beq j 5 then cx.nrm s else cx.ex j s}
theorem aD2 (C:Z11) (B L:List Int) (E G F I H:Int) (Q R:List Int) (U:Int) (Y:Bool) (o P O p h ab:Int):YO n q91 aB aC aD aA (gJ C B L E G F I H Q R U Y o P O p h ab) cx=TX n q91 aB aC aD aA (fun C B L E G F I H Q R U Y o P O p h ab=>cx.nrm (gJ C B L E G F I H Q R U Y o P O p h ab)) (fun y=>cx.ret (dY y)) C B L E G F I H Q R U Y o P O p h ab:=aE0 n q91 aB aC aD aA _ C B L E G F I H Q R U Y o P O p h ab
def FE (n:Nat) (q91:Q91) (aB:aL) (aC:aK) (aD:aJ) (aA:aI) (kn:Z11→List Int→List Int→Int→Int→Int→Int→Int→List Int→List Int→Int→Bool→Int→Int→Int→Int→Int→Int→Option β) (C:Z11) (B L:List Int) (E G F I H:Int) (Q R:List Int) (U:Int) (Y:Bool) (o P O p h ab:Int):Option β:=kn C B L E G F I H Q R U Y o P O p h (w64 (ab+2))
def YD:FS1 β:=FXs (fQ n q91 aB aC aD aA) n fR (some lN) none [] [1073735955]
theorem aT0 (C:Z11) (B L:List Int) (E G F I H:Int) (Q R:List Int) (U:Int) (Y:Bool) (o P O p h ab:Int):YD n q91 aB aC aD aA (gJ C B L E G F I H Q R U Y o P O p h ab) cx=FE n q91 aB aC aD aA (fun C B L E G F I H Q R U Y o P O p h ab=>cx.nrm (gJ C B L E G F I H Q R U Y o P O p h ab)) C B L E G F I H Q R U Y o P O p h ab:=by kernel_rfl
def GO (kn:Z11→List Int→List Int→Int→Int→Int→Int→Int→List Int→List Int→Int→Bool→Int→Int→Int→Int→Int→Int→Option β) (kr:List Z26→Option β) (bm:Z11→List Int→List Int→Int→Int→Int→Int→Int→List Int→List Int→Int→Bool→Int→Int→Int→Int→Int→Option β) (C:Z11) (B L:List Int) (E G F I H:Int) (Q R:List Int) (U:Int) (Y:Bool) (o P O p h ab:Int):Option β:=aJ2 n q91 aB aC aD aA (fun C B L E G F I H Q R U Y o P O p h ab=>TX n q91 aB aC aD aA (fun C B L E G F I H Q R U Y o P O p h ab=>FE n q91 aB aC aD aA kn C B L E G F I H Q R U Y o P O p h ab) kr C B L E G F I H Q R U Y o P O p h ab) bm C B L E G F I H Q R U Y o P O p h ab
def AJ (s:FState) (cx:Cx β):Option β:=bN0 n q91 aB aC aD aA s {cx with nrm:=fun s=>YO n q91 aB aC aD aA s {cx with nrm:=fun s=>YD n q91 aB aC aD aA s cx}}
theorem aR4 (C:Z11) (B L:List Int) (E G F I H:Int) (Q R:List Int) (U:Int) (Y:Bool) (o P O p h ab:Int):AJ n q91 aB aC aD aA (gJ C B L E G F I H Q R U Y o P O p h ab) cx=GO n q91 aB aC aD aA (fun C B L E G F I H Q R U Y o P O p h ab=>cx.nrm (gJ C B L E G F I H Q R U Y o P O p h ab)) (fun y=>cx.ret (dY y)) (fun C B L E G F I H Q R U Y o P O p h=>cx.ex 4 (dD C B L E G F I H Q R U Y o P O p h)) C B L E G F I H Q R U Y o P O p h ab:=by simp only [AJ,GO,cJ0,aD2,aT0]
def g114_19L (n:Nat) (q91:Q91) (aB:aL) (aC:aK) (aD:aJ) (aA:aI) (kr:List Z26→Option β) (bm:Z11→List Int→List Int→Int→Int→Int→Int→Int→List Int→List Int→Int→Bool→Int→Int→Int→Int→Int→Option β):Nat→Z11→List Int→List Int→Int→Int→Int→Int→Int→List Int→List Int→Int→Bool→Int→Int→Int→Int→Int→Int→Option β
  | 0,_,_,_,_,_,_,_,_,_,_,_,_,_,_,_,_,_,_=>none
  | m+1,C,B,L,E,G,F,I,H,Q,R,U,Y,o,P,O,p,h,ab=>GO n q91 aB aC aD aA (g114_19L n q91 aB aC aD aA kr bm m) kr bm C B L E G F I H Q R U Y o P O p h ab
def VZ (kr:List Z26→Option β) (bm:Z11→List Int→List Int→Int→Int→Int→Int→Int→List Int→List Int→Int→Bool→Int→Int→Int→Int→Int→Option β) (C:Z11) (B L:List Int) (E G F I H:Int) (Q R:List Int) (U:Int) (Y:Bool) (o P O p h ab:Int):Option β:=g114_19L n q91 aB aC aD aA kr bm n C B L E G F I H Q R U Y o P O p h ab
def ZW (s:FState) (cx:Cx β):Option β:=bO (fun again s=>AJ n q91 aB aC aD aA s {cx with nrm:=again}) n s
theorem L4 (n:Nat) (q91:Q91) (aB:aL) (aC:aK) (aD:aJ) (aA:aI) (cx:Cx β):∀(m:Nat) (C:Z11) (B L:List Int) (E G F I H:Int) (Q R:List Int) (U:Int) (Y:Bool) (o P O p h ab:Int),bO (fun again s=>AJ n q91 aB aC aD aA s {cx with nrm:=again}) m (gJ C B L E G F I H Q R U Y o P O p h ab)=g114_19L n q91 aB aC aD aA (fun y=>cx.ret (dY y)) (fun C B L E G F I H Q R U Y o P O p h=>cx.ex 4 (dD C B L E G F I H Q R U Y o P O p h)) m C B L E G F I H Q R U Y o P O p h ab:=by
  intro m
  induction m with
  | zero=>intros;rfl
  | succ m ih=>intros;simp only [bO,g114_19L,aR4,ih]
theorem j0 (C:Z11) (B L:List Int) (E G F I H:Int) (Q R:List Int) (U:Int) (Y:Bool) (o P O p h ab:Int):ZW n q91 aB aC aD aA (gJ C B L E G F I H Q R U Y o P O p h ab) cx=VZ n q91 aB aC aD aA (fun y=>cx.ret (dY y)) (fun C B L E G F I H Q R U Y o P O p h=>cx.ex 4 (dD C B L E G F I H Q R U Y o P O p h)) C B L E G F I H Q R U Y o P O p h ab:=L4 n q91 aB aC aD aA cx n C B L E G F I H Q R U Y o P O p h ab
def VP (kn:Z11→List Int→List Int→Int→Int→Int→Int→Int→List Int→List Int→Int→Bool→Int→Int→Int→Int→Int→Option β) (kr:List Z26→Option β) (C:Z11) (B L:List Int) (E G F I H:Int) (Q R:List Int) (U:Int) (Y:Bool) (o P O p h ab:Int):Option β:=VZ n q91 aB aC aD aA kr kn C B L E G F I H Q R U Y o P O p h ab
def ZM (s:FState) (cx:Cx β):Option β:=ZW n q91 aB aC aD aA s {cx with ex:=fun j s=>bif Nat.beq j 4 then cx.nrm s else cx.ex j s}
theorem aA6 (C:Z11) (B L:List Int) (E G F I H:Int) (Q R:List Int) (U:Int) (Y:Bool) (o P O p h ab:Int):ZM n q91 aB aC aD aA (gJ C B L E G F I H Q R U Y o P O p h ab) cx=VP n q91 aB aC aD aA (fun C B L E G F I H Q R U Y o P O p h=>cx.nrm (dD C B L E G F I H Q R U Y o P O p h)) (fun y=>cx.ret (dY y)) C B L E G F I H Q R U Y o P O p h ab:=j0 n q91 aB aC aD aA _ C B L E G F I H Q R U Y o P O p h ab
def GX (n:Nat) (q91:Q91) (aB:aL) (aC:aK) (aD:aJ) (aA:aI) (kn:Z11→List Int→List Int→Int→Int→Int→Int→Int→List Int→List Int→Int→Bool→Int→Int→Int→Int→Int→Int→Option β) (C:Z11) (B L:List Int) (E G F I H:Int) (Q R:List Int) (U:Int) (Y:Bool) (o P O p h:Int):Option β:=kn C B L E G F I H Q R U Y o P O p h (w64 ((w64 (0 - h))+O))
def M8:FS1 β:=FXs (fQ n q91 aB aC aD aA) n fR (some jW) none [] [67108498]
theorem aM2 (C:Z11) (B L:List Int) (E G F I H:Int) (Q R:List Int) (U:Int) (Y:Bool) (o P O p h:Int):M8 n q91 aB aC aD aA (dD C B L E G F I H Q R U Y o P O p h) cx=GX n q91 aB aC aD aA (fun C B L E G F I H Q R U Y o P O p h aa=>cx.nrm (eU C B L E G F I H Q R U Y o P O p h aa)) C B L E G F I H Q R U Y o P O p h:=by kernel_rfl
def TS (n:Nat) (q91:Q91) (aB:aL) (aC:aK) (aD:aJ) (aA:aI) (kn:Z11→List Int→List Int→Int→Int→Int→Int→Int→List Int→List Int→Int→Bool→Int→Int→Int→Int→Int→Int→Option β) (bo:Z11→List Int→List Int→Int→Int→Int→Int→Int→List Int→List Int→Int→Bool→Int→Int→Int→Int→Int→Option β) (C:Z11) (B L:List Int) (E G F I H:Int) (Q R:List Int) (U:Int) (Y:Bool) (o P O p h aa:Int):Option β:=bif (decide (aa≤(w64 (h - p)))) then (kn C B L E G F I H Q R U Y o P O p h aa) else (bo C B L E G F I H Q R U Y o P O p h)
def F3:FS1 β:=FXs (fQ n q91 aB aC aD aA) n fR (some jW) none [(8,iD)] [1073735984,1073735985]
theorem W3 (C:Z11) (B L:List Int) (E G F I H:Int) (Q R:List Int) (U:Int) (Y:Bool) (o P O p h aa:Int):F3 n q91 aB aC aD aA (eU C B L E G F I H Q R U Y o P O p h aa) cx=TS n q91 aB aC aD aA (fun C B L E G F I H Q R U Y o P O p h aa=>cx.nrm (eU C B L E G F I H Q R U Y o P O p h aa)) (fun C B L E G F I H Q R U Y o P O p h=>cx.ex 8 (dD C B L E G F I H Q R U Y o P O p h)) C B L E G F I H Q R U Y o P O p h aa:=by kernel_rfl
def FB (n:Nat) (q91:Q91) (aB:aL) (aC:aK) (aD:aJ) (aA:aI) (kn:Z11→List Int→List Int→Int→Int→Int→Int→Int→List Int→List Int→Int→Bool→Int→Int→Int→Int→Int→Int→Int→Int→Option β) (C:Z11) (B L:List Int) (E G F I H:Int) (Q R:List Int) (U:Int) (Y:Bool) (o P O p h aa:Int):Option β:=bif (aa==(w64 (0 - h))) then (idx (w64 ((w64 (I+aa))+(1:Int))) (R.length:Int)<|kn C B L E G F I H Q R U Y o P O p h aa (w64 (I+aa)) (rd R (w64 ((w64 (I+aa))+(1:Int))) (0:Int))) else (bif (aa !=h) then (idx (w64 ((w64 (I+aa)) - (1:Int))) (R.length:Int)<|idx (w64 ((w64 (I+aa))+(1:Int))) (R.length:Int)<|bif (decide ((rd R (w64 ((w64 (I+aa)) - (1:Int))) (0:Int)) < (rd R (w64 ((w64 (I+aa))+(1:Int))) (0:Int)))) then (idx (w64 ((w64 (I+aa))+(1:Int))) (R.length:Int)<|kn C B L E G F I H Q R U Y o P O p h aa (w64 (I+aa)) (rd R (w64 ((w64 (I+aa))+(1:Int))) (0:Int))) else (idx (w64 ((w64 (I+aa)) - (1:Int))) (R.length:Int)<|kn C B L E G F I H Q R U Y o P O p h aa (w64 (I+aa)) (w64 ((rd R (w64 ((w64 (I+aa)) - (1:Int))) (0:Int))+(1:Int))))) else (idx (w64 ((w64 (I+aa)) - (1:Int))) (R.length:Int)<|kn C B L E G F I H Q R U Y o P O p h aa (w64 (I+aa)) (w64 ((rd R (w64 ((w64 (I+aa)) - (1:Int))) (0:Int))+(1:Int)))))
def YR:FS1 β:=FXs (fQ n q91 aB aC aD aA) n fR (some NK) none [] [4294943944,8589887890,34359551564,34359551565]
theorem S3 (C:Z11) (B L:List Int) (E G F I H:Int) (Q R:List Int) (U:Int) (Y:Bool) (o P O p h aa:Int):YR n q91 aB aC aD aA (eU C B L E G F I H Q R U Y o P O p h aa) cx=FB n q91 aB aC aD aA (fun C B L E G F I H Q R U Y o P O p h aa ao ah=>cx.nrm (M1 C B L E G F I H Q R U Y o P O p h aa ao ah)) C B L E G F I H Q R U Y o P O p h aa:=by kernel_rfl
def WI (n:Nat) (q91:Q91) (aB:aL) (aC:aK) (aD:aJ) (aA:aI) (kn:Z11→List Int→List Int→Int→Int→Int→Int→Int→List Int→List Int→Int→Bool→Int→Int→Int→Int→Int→Int→Int→Int→Int→Option β) (C:Z11) (B L:List Int) (E G F I H:Int) (Q R:List Int) (U:Int) (Y:Bool) (o P O p h aa ao ah:Int):Option β:=kn C B L E G F I H Q R U Y o P O p h aa ao ah (w64 (ah - aa))
def ZA:FS1 β:=FXs (fQ n q91 aB aC aD aA) n fR (some jS) none [] [34359551566]
theorem aT3 (C:Z11) (B L:List Int) (E G F I H:Int) (Q R:List Int) (U:Int) (Y:Bool) (o P O p h aa ao ah:Int):ZA n q91 aB aC aD aA (M1 C B L E G F I H Q R U Y o P O p h aa ao ah) cx=WI n q91 aB aC aD aA (fun C B L E G F I H Q R U Y o P O p h aa ao ah ai=>cx.nrm (iR C B L E G F I H Q R U Y o P O p h aa ao ah ai)) C B L E G F I H Q R U Y o P O p h aa ao ah:=by kernel_rfl
def GY (n:Nat) (q91:Q91) (aB:aL) (aC:aK) (aD:aJ) (aA:aI) (kn bp:Z11→List Int→List Int→Int→Int→Int→Int→Int→List Int→List Int→Int→Bool→Int→Int→Int→Int→Int→Int→Int→Int→Int→Option β) (C:Z11) (B L:List Int) (E G F I H:Int) (Q R:List Int) (U:Int) (Y:Bool) (o P O p h aa ao ah ai:Int):Option β:=bif (decide (ah < E)) then (bif (decide (ai < G)) then (idx (w64 ((w64 (E - ah)) - (1:Int))) (B.length:Int)<|idx (w64 ((w64 (G - ai)) - (1:Int))) (L.length:Int)<|bif ((rd B (w64 ((w64 (E - ah)) - (1:Int))) (0:Int))!=(rd L (w64 ((w64 (G - ai)) - (1:Int))) (0:Int))) then (bp C B L E G F I H Q R U Y o P O p h aa ao ah ai) else (kn C B L E G F I H Q R U Y o P O p h aa ao (w64 (ah+1)) (w64 (ai+1)))) else (bp C B L E G F I H Q R U Y o P O p h aa ao ah ai)) else (bp C B L E G F I H Q R U Y o P O p h aa ao ah ai)
def LN:FS1 β:=FXs (fQ n q91 aB aC aD aA) n fR (some jS) none [(10,jS)] [1099505650144,1099505650145,549752825073]
theorem aL5 (C:Z11) (B L:List Int) (E G F I H:Int) (Q R:List Int) (U:Int) (Y:Bool) (o P O p h aa ao ah ai:Int):LN n q91 aB aC aD aA (iR C B L E G F I H Q R U Y o P O p h aa ao ah ai) cx=GY n q91 aB aC aD aA (fun C B L E G F I H Q R U Y o P O p h aa ao ah ai=>cx.nrm (iR C B L E G F I H Q R U Y o P O p h aa ao ah ai)) (fun C B L E G F I H Q R U Y o P O p h aa ao ah ai=>cx.ex 10 (iR C B L E G F I H Q R U Y o P O p h aa ao ah ai)) C B L E G F I H Q R U Y o P O p h aa ao ah ai:=by kernel_rfl
def g114_26L (n:Nat) (q91:Q91) (aB:aL) (aC:aK) (aD:aJ) (aA:aI) (bp:Z11→List Int→List Int→Int→Int→Int→Int→Int→List Int→List Int→Int→Bool→Int→Int→Int→Int→Int→Int→Int→Int→Int→Option β):Nat→Z11→List Int→List Int→Int→Int→Int→Int→Int→List Int→List Int→Int→Bool→Int→Int→Int→Int→Int→Int→Int→Int→Int→Option β
  | 0,_,_,_,_,_,_,_,_,_,_,_,_,_,_,_,_,_,_,_,_,_=>none
  | m+1,C,B,L,E,G,F,I,H,Q,R,U,Y,o,P,O,p,h,aa,ao,ah,ai=>GY n q91 aB aC aD aA (g114_26L n q91 aB aC aD aA bp m) bp C B L E G F I H Q R U Y o P O p h aa ao ah ai
def SO (bp:Z11→List Int→List Int→Int→Int→Int→Int→Int→List Int→List Int→Int→Bool→Int→Int→Int→Int→Int→Int→Int→Int→Int→Option β) (C:Z11) (B L:List Int) (E G F I H:Int) (Q R:List Int) (U:Int) (Y:Bool) (o P O p h aa ao ah ai:Int):Option β:=g114_26L n q91 aB aC aD aA bp n C B L E G F I H Q R U Y o P O p h aa ao ah ai
def YY (s:FState) (cx:Cx β):Option β:=bO (fun again s=>LN n q91 aB aC aD aA s {cx with nrm:=again}) n s
theorem O9 (n:Nat) (q91:Q91) (aB:aL) (aC:aK) (aD:aJ) (aA:aI) (cx:Cx β):∀(m:Nat) (C:Z11) (B L:List Int) (E G F I H:Int) (Q R:List Int) (U:Int) (Y:Bool) (o P O p h aa ao ah ai:Int),bO (fun again s=>LN n q91 aB aC aD aA s {cx with nrm:=again}) m (iR C B L E G F I H Q R U Y o P O p h aa ao ah ai)=g114_26L n q91 aB aC aD aA (fun C B L E G F I H Q R U Y o P O p h aa ao ah ai=>cx.ex 10 (iR C B L E G F I H Q R U Y o P O p h aa ao ah ai)) m C B L E G F I H Q R U Y o P O p h aa ao ah ai:=by
  intro m
  induction m with
  | zero=>intros;rfl
  | succ m ih=>intros;simp only [bO,g114_26L,aL5,ih]
theorem m5 (C:Z11) (B L:List Int) (E G F I H:Int) (Q R:List Int) (U:Int) (Y:Bool) (o P O p h aa ao ah ai:Int):YY n q91 aB aC aD aA (iR C B L E G F I H Q R U Y o P O p h aa ao ah ai) cx=SO n q91 aB aC aD aA (fun C B L E G F I H Q R U Y o P O p h aa ao ah ai=>cx.ex 10 (iR C B L E G F I H Q R U Y o P O p h aa ao ah ai)) C B L E G F I H Q R U Y o P O p h aa ao ah ai:=O9 n q91 aB aC aD aA cx n C B L E G F I H Q R U Y o P O p h aa ao ah ai
def UA (kn:Z11→List Int→List Int→Int→Int→Int→Int→Int→List Int→List Int→Int→Bool→Int→Int→Int→Int→Int→Int→Int→Int→Int→Option β) (C:Z11) (B L:List Int) (E G F I H:Int) (Q R:List Int) (U:Int) (Y:Bool) (o P O p h aa ao ah ai:Int):Option β:=SO n q91 aB aC aD aA kn C B L E G F I H Q R U Y o P O p h aa ao ah ai
def L8 (s:FState) (cx:Cx β):Option β:=YY n q91 aB aC aD aA s {cx with ex:=fun j s=>bif Nat.beq j 10 then cx.nrm s else cx.ex j s}
theorem k7 (C:Z11) (B L:List Int) (E G F I H:Int) (Q R:List Int) (U:Int) (Y:Bool) (o P O p h aa ao ah ai:Int):L8 n q91 aB aC aD aA (iR C B L E G F I H Q R U Y o P O p h aa ao ah ai) cx=UA n q91 aB aC aD aA (fun C B L E G F I H Q R U Y o P O p h aa ao ah ai=>cx.nrm (iR C B L E G F I H Q R U Y o P O p h aa ao ah ai)) C B L E G F I H Q R U Y o P O p h aa ao ah ai:=m5 n q91 aB aC aD aA _ C B L E G F I H Q R U Y o P O p h aa ao ah ai
def BR (n:Nat) (q91:Q91) (aB:aL) (aC:aK) (aD:aJ) (aA:aI) (kn:Z11→List Int→List Int→Int→Int→Int→Int→Int→List Int→List Int→Int→Bool→Int→Int→Int→Int→Int→Int→Option β) (kr:List Z26→Option β) (C:Z11) (B L:List Int) (E G F I H:Int) (Q R:List Int) (U:Int) (Y:Bool) (o P O p h aa ao ah ai:Int):Option β:=idx ao (R.length:Int)<|bif (decide (ah>E)) then (kn C B L E G F I H Q (R.set ao.toNat ah) U Y o P O (w64 (p+2)) h aa) else (bif (decide (ai>G)) then (kn C B L E G F I H Q (R.set ao.toNat ah) U Y o P (w64 (O+2)) p h aa) else (bif (!Y) then (bif (decide ((w64 ((w64 (I+U)) - aa))≥(0:Int))) then (bif (decide ((w64 ((w64 (I+U)) - aa)) < H)) then (idx (w64 ((w64 (I+U)) - aa)) (Q.length:Int)<|bif ((rd Q (w64 ((w64 (I+U)) - aa)) (0:Int))!=(-1:Int)) then (idx (w64 ((w64 (I+U)) - aa)) (Q.length:Int)<|bif (decide ((rd Q (w64 ((w64 (I+U)) - aa)) (0:Int))≥(w64 (E - ah)))) then ((aA (C,(B,(L,((rd Q (w64 ((w64 (I+U)) - aa)) (0:Int)),((w64 ((w64 (I+(rd Q (w64 ((w64 (I+U)) - aa)) (0:Int)))) - (w64 ((w64 (I+U)) - aa)))),())))))).bind fun W=>kr W.1) else (kn C B L E G F I H Q (R.set ao.toNat ah) U Y o P O p h aa)) else (kn C B L E G F I H Q (R.set ao.toNat ah) U Y o P O p h aa)) else (kn C B L E G F I H Q (R.set ao.toNat ah) U Y o P O p h aa)) else (kn C B L E G F I H Q (R.set ao.toNat ah) U Y o P O p h aa)) else (kn C B L E G F I H Q (R.set ao.toNat ah) U Y o P O p h aa)))
def O6:FS1 β:=FXs (fQ n q91 aB aC aD aA) n fR (some jW) (some iU) [] [137438206270,274876412542,274876412543]
theorem Y8 (C:Z11) (B L:List Int) (E G F I H:Int) (Q R:List Int) (U:Int) (Y:Bool) (o P O p h aa ao ah ai:Int):O6 n q91 aB aC aD aA (iR C B L E G F I H Q R U Y o P O p h aa ao ah ai) cx=BR n q91 aB aC aD aA (fun C B L E G F I H Q R U Y o P O p h aa=>cx.nrm (eU C B L E G F I H Q R U Y o P O p h aa)) (fun y=>cx.ret (dY y)) C B L E G F I H Q R U Y o P O p h aa ao ah ai:=by kernel_rfl
def pY (kn:Z11→List Int→List Int→Int→Int→Int→Int→Int→List Int→List Int→Int→Bool→Int→Int→Int→Int→Int→Int→Option β) (kr:List Z26→Option β) (C:Z11) (B L:List Int) (E G F I H:Int) (Q R:List Int) (U:Int) (Y:Bool) (o P O p h aa:Int):Option β:=FB n q91 aB aC aD aA (fun C B L E G F I H Q R U Y o P O p h aa ao ah=>WI n q91 aB aC aD aA (fun C B L E G F I H Q R U Y o P O p h aa ao ah ai=>UA n q91 aB aC aD aA (fun C B L E G F I H Q R U Y o P O p h aa ao ah ai=>BR n q91 aB aC aD aA kn kr C B L E G F I H Q R U Y o P O p h aa ao ah ai) C B L E G F I H Q R U Y o P O p h aa ao ah ai) C B L E G F I H Q R U Y o P O p h aa ao ah) C B L E G F I H Q R U Y o P O p h aa
def JG (s:FState) (cx:Cx β):Option β:=YR n q91 aB aC aD aA s {cx with nrm:=fun s=>ZA n q91 aB aC aD aA s {cx with nrm:=fun s=>L8 n q91 aB aC aD aA s {cx with nrm:=fun s=>O6 n q91 aB aC aD aA s cx}}}
theorem W5 (C:Z11) (B L:List Int) (E G F I H:Int) (Q R:List Int) (U:Int) (Y:Bool) (o P O p h aa:Int):JG n q91 aB aC aD aA (eU C B L E G F I H Q R U Y o P O p h aa) cx=pY n q91 aB aC aD aA (fun C B L E G F I H Q R U Y o P O p h aa=>cx.nrm (eU C B L E G F I H Q R U Y o P O p h aa)) (fun y=>cx.ret (dY y)) C B L E G F I H Q R U Y o P O p h aa:=by simp only [JG,pY,S3,aT3,k7,Y8]
def QD (kn:Z11→List Int→List Int→Int→Int→Int→Int→Int→List Int→List Int→Int→Bool→Int→Int→Int→Int→Int→Int→Option β) (kr:List Z26→Option β) (C:Z11) (B L:List Int) (E G F I H:Int) (Q R:List Int) (U:Int) (Y:Bool) (o P O p h aa:Int):Option β:=pY n q91 aB aC aD aA kn kr C B L E G F I H Q R U Y o P O p h aa
def B6 (s:FState) (cx:Cx β):Option β:=JG n q91 aB aC aD aA s {cx with ex:=fun j s=>bif Nat.beq j 9 then cx.nrm s else cx.ex j s}
theorem aQ6 (C:Z11) (B L:List Int) (E G F I H:Int) (Q R:List Int) (U:Int) (Y:Bool) (o P O p h aa:Int):B6 n q91 aB aC aD aA (eU C B L E G F I H Q R U Y o P O p h aa) cx=QD n q91 aB aC aD aA (fun C B L E G F I H Q R U Y o P O p h aa=>cx.nrm (eU C B L E G F I H Q R U Y o P O p h aa)) (fun y=>cx.ret (dY y)) C B L E G F I H Q R U Y o P O p h aa:=W5 n q91 aB aC aD aA _ C B L E G F I H Q R U Y o P O p h aa
def FF (n:Nat) (q91:Q91) (aB:aL) (aC:aK) (aD:aJ) (aA:aI) (kn:Z11→List Int→List Int→Int→Int→Int→Int→Int→List Int→List Int→Int→Bool→Int→Int→Int→Int→Int→Int→Option β) (C:Z11) (B L:List Int) (E G F I H:Int) (Q R:List Int) (U:Int) (Y:Bool) (o P O p h aa:Int):Option β:=kn C B L E G F I H Q R U Y o P O p h (w64 (aa+2))
def ZI:FS1 β:=FXs (fQ n q91 aB aC aD aA) n fR (some jW) none [] [1073735987]
theorem p4 (C:Z11) (B L:List Int) (E G F I H:Int) (Q R:List Int) (U:Int) (Y:Bool) (o P O p h aa:Int):ZI n q91 aB aC aD aA (eU C B L E G F I H Q R U Y o P O p h aa) cx=FF n q91 aB aC aD aA (fun C B L E G F I H Q R U Y o P O p h aa=>cx.nrm (eU C B L E G F I H Q R U Y o P O p h aa)) C B L E G F I H Q R U Y o P O p h aa:=by kernel_rfl
def FL (kn:Z11→List Int→List Int→Int→Int→Int→Int→Int→List Int→List Int→Int→Bool→Int→Int→Int→Int→Int→Int→Option β) (kr:List Z26→Option β) (bo:Z11→List Int→List Int→Int→Int→Int→Int→Int→List Int→List Int→Int→Bool→Int→Int→Int→Int→Int→Option β) (C:Z11) (B L:List Int) (E G F I H:Int) (Q R:List Int) (U:Int) (Y:Bool) (o P O p h aa:Int):Option β:=TS n q91 aB aC aD aA (fun C B L E G F I H Q R U Y o P O p h aa=>QD n q91 aB aC aD aA (fun C B L E G F I H Q R U Y o P O p h aa=>FF n q91 aB aC aD aA kn C B L E G F I H Q R U Y o P O p h aa) kr C B L E G F I H Q R U Y o P O p h aa) bo C B L E G F I H Q R U Y o P O p h aa
def xY (s:FState) (cx:Cx β):Option β:=F3 n q91 aB aC aD aA s {cx with nrm:=fun s=>B6 n q91 aB aC aD aA s {cx with nrm:=fun s=>ZI n q91 aB aC aD aA s cx}}
theorem aO3 (C:Z11) (B L:List Int) (E G F I H:Int) (Q R:List Int) (U:Int) (Y:Bool) (o P O p h aa:Int):xY n q91 aB aC aD aA (eU C B L E G F I H Q R U Y o P O p h aa) cx=FL n q91 aB aC aD aA (fun C B L E G F I H Q R U Y o P O p h aa=>cx.nrm (eU C B L E G F I H Q R U Y o P O p h aa)) (fun y=>cx.ret (dY y)) (fun C B L E G F I H Q R U Y o P O p h=>cx.ex 8 (dD C B L E G F I H Q R U Y o P O p h)) C B L E G F I H Q R U Y o P O p h aa:=by simp only [xY,FL,W3,aQ6,p4]
def g114_33L (n:Nat) (q91:Q91) (aB:aL) (aC:aK) (aD:aJ) (aA:aI) (kr:List Z26→Option β) (bo:Z11→List Int→List Int→Int→Int→Int→Int→Int→List Int→List Int→Int→Bool→Int→Int→Int→Int→Int→Option β):Nat→Z11→List Int→List Int→Int→Int→Int→Int→Int→List Int→List Int→Int→Bool→Int→Int→Int→Int→Int→Int→Option β
  | 0,_,_,_,_,_,_,_,_,_,_,_,_,_,_,_,_,_,_=>none
  | m+1,C,B,L,E,G,F,I,H,Q,R,U,Y,o,P,O,p,h,aa=>FL n q91 aB aC aD aA (g114_33L n q91 aB aC aD aA kr bo m) kr bo C B L E G F I H Q R U Y o P O p h aa
def RC (kr:List Z26→Option β) (bo:Z11→List Int→List Int→Int→Int→Int→Int→Int→List Int→List Int→Int→Bool→Int→Int→Int→Int→Int→Option β) (C:Z11) (B L:List Int) (E G F I H:Int) (Q R:List Int) (U:Int) (Y:Bool) (o P O p h aa:Int):Option β:=g114_33L n q91 aB aC aD aA kr bo n C B L E G F I H Q R U Y o P O p h aa
def M2 (s:FState) (cx:Cx β):Option β:=bO (fun again s=>xY n q91 aB aC aD aA s {cx with nrm:=again}) n s
theorem N6 (n:Nat) (q91:Q91) (aB:aL) (aC:aK) (aD:aJ) (aA:aI) (cx:Cx β):∀(m:Nat) (C:Z11) (B L:List Int) (E G F I H:Int) (Q R:List Int) (U:Int) (Y:Bool) (o P O p h aa:Int),bO (fun again s=>xY n q91 aB aC aD aA s {cx with nrm:=again}) m (eU C B L E G F I H Q R U Y o P O p h aa)=g114_33L n q91 aB aC aD aA (fun y=>cx.ret (dY y)) (fun C B L E G F I H Q R U Y o P O p h=>cx.ex 8 (dD C B L E G F I H Q R U Y o P O p h)) m C B L E G F I H Q R U Y o P O p h aa:=by
  intro m
  induction m with
  | zero=>intros;rfl
  | succ m ih=>intros;simp only [bO,g114_33L,aO3,ih]
theorem Y5 (C:Z11) (B L:List Int) (E G F I H:Int) (Q R:List Int) (U:Int) (Y:Bool) (o P O p h aa:Int):M2 n q91 aB aC aD aA (eU C B L E G F I H Q R U Y o P O p h aa) cx=RC n q91 aB aC aD aA (fun y=>cx.ret (dY y)) (fun C B L E G F I H Q R U Y o P O p h=>cx.ex 8 (dD C B L E G F I H Q R U Y o P O p h)) C B L E G F I H Q R U Y o P O p h aa:=N6 n q91 aB aC aD aA cx n C B L E G F I H Q R U Y o P O p h aa
def ER (kn:Z11→List Int→List Int→Int→Int→Int→Int→Int→List Int→List Int→Int→Bool→Int→Int→Int→Int→Int→Option β) (kr:List Z26→Option β) (C:Z11) (B L:List Int) (E G F I H:Int) (Q R:List Int) (U:Int) (Y:Bool) (o P O p h aa:Int):Option β:=RC n q91 aB aC aD aA kr kn C B L E G F I H Q R U Y o P O p h aa
def Q6 (s:FState) (cx:Cx β):Option β:=M2 n q91 aB aC aD aA s {cx with ex:=fun j s=>bif Nat.beq j 8 then cx.nrm s else cx.ex j s}
theorem aE7 (C:Z11) (B L:List Int) (E G F I H:Int) (Q R:List Int) (U:Int) (Y:Bool) (o P O p h aa:Int):Q6 n q91 aB aC aD aA (eU C B L E G F I H Q R U Y o P O p h aa) cx=ER n q91 aB aC aD aA (fun C B L E G F I H Q R U Y o P O p h=>cx.nrm (dD C B L E G F I H Q R U Y o P O p h)) (fun y=>cx.ret (dY y)) C B L E G F I H Q R U Y o P O p h aa:=Y5 n q91 aB aC aD aA _ C B L E G F I H Q R U Y o P O p h aa
def FM (kn:Z11→List Int→List Int→Int→Int→Int→Int→Int→List Int→List Int→Int→Bool→Int→Int→Int→Int→Int→Option β) (kr:List Z26→Option β) (C:Z11) (B L:List Int) (E G F I H:Int) (Q R:List Int) (U:Int) (Y:Bool) (o P O p h:Int):Option β:=aL1 n q91 aB aC aD aA (fun C B L E G F I H Q R U Y o P O p h ab=>VP n q91 aB aC aD aA (fun C B L E G F I H Q R U Y o P O p h=>GX n q91 aB aC aD aA (fun C B L E G F I H Q R U Y o P O p h aa=>ER n q91 aB aC aD aA kn kr C B L E G F I H Q R U Y o P O p h aa) C B L E G F I H Q R U Y o P O p h) kr C B L E G F I H Q R U Y o P O p h ab) C B L E G F I H Q R U Y o P O p h
def KD (s:FState) (cx:Cx β):Option β:=bM8 n q91 aB aC aD aA s {cx with nrm:=fun s=>ZM n q91 aB aC aD aA s {cx with nrm:=fun s=>M8 n q91 aB aC aD aA s {cx with nrm:=fun s=>Q6 n q91 aB aC aD aA s cx}}}
theorem S4 (C:Z11) (B L:List Int) (E G F I H:Int) (Q R:List Int) (U:Int) (Y:Bool) (o P O p h:Int):KD n q91 aB aC aD aA (dD C B L E G F I H Q R U Y o P O p h) cx=FM n q91 aB aC aD aA (fun C B L E G F I H Q R U Y o P O p h=>cx.nrm (dD C B L E G F I H Q R U Y o P O p h)) (fun y=>cx.ret (dY y)) C B L E G F I H Q R U Y o P O p h:=by simp only [KD,FM,bT4,aA6,aM2,aE7]
def QY (kn:Z11→List Int→List Int→Int→Int→Int→Int→Int→List Int→List Int→Int→Bool→Int→Int→Int→Int→Int→Option β) (kr:List Z26→Option β) (C:Z11) (B L:List Int) (E G F I H:Int) (Q R:List Int) (U:Int) (Y:Bool) (o P O p h:Int):Option β:=FM n q91 aB aC aD aA kn kr C B L E G F I H Q R U Y o P O p h
def A2 (s:FState) (cx:Cx β):Option β:=KD n q91 aB aC aD aA s {cx with ex:=fun j s=>bif Nat.beq j 3 then cx.nrm s else cx.ex j s}
theorem p8 (C:Z11) (B L:List Int) (E G F I H:Int) (Q R:List Int) (U:Int) (Y:Bool) (o P O p h:Int):A2 n q91 aB aC aD aA (dD C B L E G F I H Q R U Y o P O p h) cx=QY n q91 aB aC aD aA (fun C B L E G F I H Q R U Y o P O p h=>cx.nrm (dD C B L E G F I H Q R U Y o P O p h)) (fun y=>cx.ret (dY y)) C B L E G F I H Q R U Y o P O p h:=S4 n q91 aB aC aD aA _ C B L E G F I H Q R U Y o P O p h
def yG (n:Nat) (q91:Q91) (aB:aL) (aC:aK) (aD:aJ) (aA:aI) (kn:Z11→List Int→List Int→Int→Int→Int→Int→Int→List Int→List Int→Int→Bool→Int→Int→Int→Int→Int→Option β) (C:Z11) (B L:List Int) (E G F I H:Int) (Q R:List Int) (U:Int) (Y:Bool) (o P O p h:Int):Option β:=kn C B L E G F I H Q R U Y o P O p (w64 (h+1))
def R4:FS1 β:=FXs (fQ n q91 aB aC aD aA) n fR (some iD) none [] [8388563]
theorem y6 (C:Z11) (B L:List Int) (E G F I H:Int) (Q R:List Int) (U:Int) (Y:Bool) (o P O p h:Int):R4 n q91 aB aC aD aA (dD C B L E G F I H Q R U Y o P O p h) cx=yG n q91 aB aC aD aA (fun C B L E G F I H Q R U Y o P O p h=>cx.nrm (dD C B L E G F I H Q R U Y o P O p h)) C B L E G F I H Q R U Y o P O p h:=by kernel_rfl
def GF (kn:Z11→List Int→List Int→Int→Int→Int→Int→Int→List Int→List Int→Int→Bool→Int→Int→Int→Int→Int→Option β) (kr:List Z26→Option β) (ap:List Int→List Int→Option β) (C:Z11) (B L:List Int) (E G F I H:Int) (Q R:List Int) (U:Int) (Y:Bool) (o P O p h:Int):Option β:=aE1 n q91 aB aC aD aA (fun C B L E G F I H Q R U Y o P O p h=>QY n q91 aB aC aD aA (fun C B L E G F I H Q R U Y o P O p h=>yG n q91 aB aC aD aA kn C B L E G F I H Q R U Y o P O p h) kr C B L E G F I H Q R U Y o P O p h) ap C B L E G F I H Q R U Y o P O p h
def xQ (s:FState) (cx:Cx β):Option β:=aV2 n q91 aB aC aD aA s {cx with nrm:=fun s=>A2 n q91 aB aC aD aA s {cx with nrm:=fun s=>R4 n q91 aB aC aD aA s cx}}
theorem S5 (C:Z11) (B L:List Int) (E G F I H:Int) (Q R:List Int) (U:Int) (Y:Bool) (o P O p h:Int):xQ n q91 aB aC aD aA (dD C B L E G F I H Q R U Y o P O p h) cx=GF n q91 aB aC aD aA (fun C B L E G F I H Q R U Y o P O p h=>cx.nrm (dD C B L E G F I H Q R U Y o P O p h)) (fun y=>cx.ret (dY y)) (fun B L=>cx.ex 2 (tM B L)) C B L E G F I H Q R U Y o P O p h:=by simp only [xQ,GF,cC3,p8,y6]
def g114_39L (n:Nat) (q91:Q91) (aB:aL) (aC:aK) (aD:aJ) (aA:aI) (kr:List Z26→Option β) (ap:List Int→List Int→Option β):Nat→Z11→List Int→List Int→Int→Int→Int→Int→Int→List Int→List Int→Int→Bool→Int→Int→Int→Int→Int→Option β
  | 0,_,_,_,_,_,_,_,_,_,_,_,_,_,_,_,_,_=>none
  | m+1,C,B,L,E,G,F,I,H,Q,R,U,Y,o,P,O,p,h=>GF n q91 aB aC aD aA (g114_39L n q91 aB aC aD aA kr ap m) kr ap C B L E G F I H Q R U Y o P O p h
def TK (kr:List Z26→Option β) (ap:List Int→List Int→Option β) (C:Z11) (B L:List Int) (E G F I H:Int) (Q R:List Int) (U:Int) (Y:Bool) (o P O p h:Int):Option β:=g114_39L n q91 aB aC aD aA kr ap n C B L E G F I H Q R U Y o P O p h
def N7 (s:FState) (cx:Cx β):Option β:=bO (fun again s=>xQ n q91 aB aC aD aA s {cx with nrm:=again}) n s
theorem ZQ (n:Nat) (q91:Q91) (aB:aL) (aC:aK) (aD:aJ) (aA:aI) (cx:Cx β):∀(m:Nat) (C:Z11) (B L:List Int) (E G F I H:Int) (Q R:List Int) (U:Int) (Y:Bool) (o P O p h:Int),bO (fun again s=>xQ n q91 aB aC aD aA s {cx with nrm:=again}) m (dD C B L E G F I H Q R U Y o P O p h)=g114_39L n q91 aB aC aD aA (fun y=>cx.ret (dY y)) (fun B L=>cx.ex 2 (tM B L)) m C B L E G F I H Q R U Y o P O p h:=by
  intro m
  induction m with
  | zero=>intros;rfl
  | succ m ih=>intros;simp only [bO,g114_39L,S5,ih]
theorem aG0 (C:Z11) (B L:List Int) (E G F I H:Int) (Q R:List Int) (U:Int) (Y:Bool) (o P O p h:Int):N7 n q91 aB aC aD aA (dD C B L E G F I H Q R U Y o P O p h) cx=TK n q91 aB aC aD aA (fun y=>cx.ret (dY y)) (fun B L=>cx.ex 2 (tM B L)) C B L E G F I H Q R U Y o P O p h:=ZQ n q91 aB aC aD aA cx n C B L E G F I H Q R U Y o P O p h
def EU (kn:List Int→List Int→Option β) (kr:List Z26→Option β) (C:Z11) (B L:List Int) (E G F I H:Int) (Q R:List Int) (U:Int) (Y:Bool) (o P O p h:Int):Option β:=TK n q91 aB aC aD aA kr kn C B L E G F I H Q R U Y o P O p h
def P0 (s:FState) (cx:Cx β):Option β:=N7 n q91 aB aC aD aA s {cx with ex:=fun j s=>bif Nat.beq j 2 then cx.nrm s else cx.ex j s}
theorem aS0 (C:Z11) (B L:List Int) (E G F I H:Int) (Q R:List Int) (U:Int) (Y:Bool) (o P O p h:Int):P0 n q91 aB aC aD aA (dD C B L E G F I H Q R U Y o P O p h) cx=EU n q91 aB aC aD aA (fun B L=>cx.nrm (tM B L)) (fun y=>cx.ret (dY y)) C B L E G F I H Q R U Y o P O p h:=aG0 n q91 aB aC aD aA _ C B L E G F I H Q R U Y o P O p h
def EW (n:Nat) (q91:Q91) (aB:aL) (aC:aK) (aD:aJ) (aA:aI) (kr:List Z26→Option β) (B L:List Int):Option β:=kr [((-1:Int),(runesBytes B)),((1:Int),(runesBytes L))]
def C7:FS1 β:=FXs (fQ n q91 aB aC aD aA) n fR none (some iU) [] [524286,524287]
theorem U3 (B L:List Int):C7 n q91 aB aC aD aA (tM B L) cx=EW n q91 aB aC aD aA (fun y=>cx.ret (dY y)) B L:=by kernel_rfl
def uC (kr:List Z26→Option β) (C:Z11) (B L:List Int):Option β:=W2 n q91 aB aC aD aA (fun C B L E G F I H Q R bd ax=>aA3 n q91 aB aC aD aA (fun C B L E G F I H Q R=>XM n q91 aB aC aD aA (fun C B L E G F I H Q R U Y o P O p h=>EU n q91 aB aC aD aA (fun B L=>EW n q91 aB aC aD aA kr B L) kr C B L E G F I H Q R U Y o P O p h) C B L E G F I H Q R) C B L E G F I H Q R bd ax) C B L
def yW (s:FState) (cx:Cx β):Option β:=bE0 n q91 aB aC aD aA s {cx with nrm:=fun s=>bL1 n q91 aB aC aD aA s {cx with nrm:=fun s=>bG9 n q91 aB aC aD aA s {cx with nrm:=fun s=>P0 n q91 aB aC aD aA s {cx with nrm:=fun s=>C7 n q91 aB aC aD aA s cx}}}}
theorem aT7 (C:Z11) (B L:List Int):yW n q91 aB aC aD aA (XT C B L) cx=uC n q91 aB aC aD aA (fun y=>cx.ret (dY y)) C B L:=by simp only [yW,uC,cI2,cC9,bX1,aS0,U3]
def eT2 (C:Z11) (B L:List Int):Option (DenR [.rw Z22 115]):=uC n q91 aB aC aD aA (fun y=>some (y,())) C B L
def bI1 (d:DenA eO):Option (DenR dL):=eT2 n q91 aB aC aD aA d.1 d.2.1 d.2.2.1
def dF1:Sk:=(.nd (.fin none none none [] .leaf) (.nd (.fin none none none [] .leaf) (.nd (.fin none none none [] .leaf) (.nd (.fin none none none [] .leaf) (.nd (.fin none none none [] .leaf) (.nd (.fin none none none [] .leaf) (.nd (.fin none none none [] .leaf) (.nd (.nd (.fin none (some yM) none [] .leaf) (.nd (.nd (.nd (.fin none none none [(0,sI)] .leaf) (.nd (.fin none none none [(0,sI)] .leaf) (.nd (.fin none none none [(0,sI)] .leaf) (.fin none (some yM) none [(0,sI)] .leaf)))) .leaf) .leaf)) (.nd (.fin none none none [] .leaf) (.nd (.fin none none none [] .leaf) (.nd (.fin none none none [] .leaf) (.nd (.fin none none none [] .leaf) (.nd (.fin none none none [] .leaf) (.nd (.fin none none none [] .leaf) (.nd (.fin none none none [] .leaf) (.nd (.fin none none none [] .leaf) (.nd (.nd (.fin none (some iD) none [] .leaf) (.nd (.nd (.nd (.nd (.fin none none none [(2,HR)] .leaf) (.fin none (some iD) none [(2,HR)] .leaf)) (.nd (.nd (.nd (.nd (.fin none (some lN) none [] .leaf) (.nd (.nd (.nd (.nd (.fin none none none [(4,iD)] .leaf) (.fin none (some lN) none [(4,iD)] .leaf)) (.nd (.nd (.nd (.fin none none none [] .leaf) (.nd (.fin none none none [] .leaf) (.nd (.nd (.fin none none none [] .leaf) (.fin none (some NT) none [] .leaf)) (.nd (.fin none (some kB) none [] .leaf) (.nd (.nd (.nd (.nd (.nd (.fin none none none [(6,kB)] .leaf) (.fin none none none [(6,kB)] .leaf)) (.fin none (some kB) none [(6,kB)] .leaf)) .leaf) .leaf) (.nd (.fin none none (some iU) [] .leaf) (.nd (.fin none none (some iU) [] .leaf) (.fin none (some lN) (some iU) [] .leaf)))))))) .leaf) (.fin none (some lN) none [] .leaf))) .leaf) .leaf)) (.nd (.fin none (some jW) none [] .leaf) (.nd (.nd (.nd (.nd (.fin none none none [(8,iD)] .leaf) (.fin none (some jW) none [(8,iD)] .leaf)) (.nd (.nd (.nd (.fin none none none [] .leaf) (.nd (.fin none none none [] .leaf) (.nd (.nd (.fin none none none [] .leaf) (.fin none (some NK) none [] .leaf)) (.nd (.fin none (some jS) none [] .leaf) (.nd (.nd (.nd (.nd (.nd (.fin none none none [(10,jS)] .leaf) (.fin none none none [(10,jS)] .leaf)) (.fin none (some jS) none [(10,jS)] .leaf)) .leaf) .leaf) (.nd (.fin none none (some iU) [] .leaf) (.nd (.fin none none (some iU) [] .leaf) (.fin none (some jW) (some iU) [] .leaf)))))))) .leaf) (.fin none (some jW) none [] .leaf))) .leaf) .leaf))) .leaf) (.fin none (some iD) none [] .leaf))) .leaf) .leaf)) (.nd (.fin none none (some iU) [] .leaf) (.fin none none (some iU) [] .leaf)))))))))))))))))))
theorem dH3 (s:FState) (cx:Cx β):FX (fQ n q91 aB aC aD aA) n fR dF1 s cx=yW n q91 aB aC aD aA s cx:=by kernel_rfl
theorem cH1 (h91:Fit Tryd.prog 91 (aQ iB fJ q91)) (h110:Fit Tryd.prog 110 (aQ eS dC aB)) (h114:Fit Tryd.prog 114 (aQ eO dL aC)) (h136:Fit Tryd.prog 136 (aQ eT dQ aD)) (h143:Fit Tryd.prog 143 (aQ eH dW aA)):Fit Tryd.prog 114 (aQ eO dL (bI1 n q91 aB aC aD aA)):=
  cJ (Γ:=Γ0) (l:=dJ6 n q91 aB aC aD aA) (n:=n) (sk:=dF1) (ts:=[(6,none)]) (fn:=Tryd.f114) (c:=fR) (by kernel_rfl) (by kernel_rfl) (by unfold aS;kernel_rfl) cF ⟨h91,h110,h114,h136,h143,trivial⟩ aO (by kernel_rfl) (by kernel_rfl) (Nat.le_of_ble_eq_true (by kernel_rfl)) (Nat.le_of_ble_eq_true (by kernel_rfl)) (by kernel_rfl) (by kernel_rfl)
    (fun d=>(dH3 n q91 aB aC aD aA _ _).trans (Eq.trans (b:=yW n q91 aB aC aD aA (XT d.1 d.2.1 d.2.2.1) (cS (fQ n q91 aB aC aD aA) dL [(6,none)])) (by kernel_rfl) ((aT7 n q91 aB aC aD aA _ d.1 d.2.1 d.2.2.1).trans (by kernel_rfl))))
def TL (C:Z11) (B L:List Int) (v3:Bool):FState:=⟨aM [(0,.ptr 0 0 0),(1,.sl 1 none false),(2,.sl 2 none false),(3,.dat .bool v3)],aE [(0,.row Z1 106 false [C]),(1,.row (.int .i32) 21 false B),(2,.row (.int .i32) 21 false L)]⟩
def WB (X:List Z26):FState:=⟨aM [(8,.sl 8 none false)],aE [(8,.row Z22 115 true X)]⟩
def fT:List NE:=[.row 8 Z22 115 true]
def aX8 (C:Z11) (B L:List Int) (v3:Bool) (V ag:List Int):FState:=⟨aM [(0,.ptr 0 0 0),(1,.sl 1 none false),(2,.sl 2 none false),(3,.dat .bool v3),(10,.sl 10 none false),(11,.sl 11 none false)],aE [(0,.row Z1 106 false [C]),(1,.row (.int .i32) 21 false B),(2,.row (.int .i32) 21 false L),(10,.row (.int .i32) 21 false V),(11,.row (.int .i32) 21 false ag)]⟩
def N3:List NE:=[.ptr 0 Z1 106 false,.row 1 (.int .i32) 21 false,.row 2 (.int .i32) 21 false,.keep 3,.row 10 (.int .i32) 21 false,.row 11 (.int .i32) 21 false]
def cN1:List (Nat×Spec):=[(156,dU0 n),(157,cX7 n),(91,aQ iB fJ q91),(110,aQ eS dC aB),(114,aQ eO dL aC),(136,aQ eT dQ aD),(143,aQ eH dW aA)]
def PN:Ctx:={Γ0 with calls:=lkS (cN1 n q91 aB aC aD aA)}
def TU:Code:=fb Tryd.f136
def o7 (n:Nat) (q91:Q91) (aB:aL) (aC:aK) (aD:aJ) (aA:aI) (kn:Z11→List Int→List Int→Bool→List Int→List Int→Option β) (kr:List Z26→Option β) (C:Z11) (B L:List Int) (v3:Bool):Option β:=bif ((B.length:Int)==(0:Int)) then (cM (([]:List Z26).length+[((1:Int),(runesBytes L))].length)<|kr (([]:List Z26)++[((1:Int),(runesBytes L))])) else (bif ((L.length:Int)==(0:Int)) then (cM (([]:List Z26).length+[((-1:Int),(runesBytes B))].length)<|kr (([]:List Z26)++[((-1:Int),(runesBytes B))])) else (bif (decide ((B.length:Int)>(L.length:Int))) then (kn C B L v3 B L) else (kn C B L v3 L B)))
def aW7:FS1 β:=FXs (PN n q91 aB aC aD aA) n TU (some N3) (some fT) [] [2,6,28,29,30,124,125]
theorem cF5 (C:Z11) (B L:List Int) (v3:Bool):aW7 n q91 aB aC aD aA (TL C B L v3) cx=o7 n q91 aB aC aD aA (fun C B L v3 V ag=>cx.nrm (aX8 C B L v3 V ag)) (fun X=>cx.ret (WB X)) C B L v3:=by kernel_rfl
def WA (n:Nat) (q91:Q91) (aB:aL) (aC:aK) (aD:aJ) (aA:aI) (kr:List Z26→Option β) (C:Z11) (B L:List Int) (v3:Bool) (V ag:List Int):Option β:=(eA1 n V ag).bind fun W=>bif (W.1 !=(-1:Int)) then (bif (decide ((B.length:Int)>(L.length:Int))) then (bnd (0:Int) W.1 (V.length:Int)<|bnd (w64 (W.1+(ag.length:Int))) (V.length:Int) (V.length:Int)<|kr [((-1:Int),(runesBytes (cut V (0:Int) W.1))),((0:Int),(runesBytes ag)),((-1:Int),(runesBytes (cut V (w64 (W.1+(ag.length:Int))) (V.length:Int))))]) else (bnd (0:Int) W.1 (V.length:Int)<|bnd (w64 (W.1+(ag.length:Int))) (V.length:Int) (V.length:Int)<|kr [((1:Int),(runesBytes (cut V (0:Int) W.1))),((0:Int),(runesBytes ag)),((1:Int),(runesBytes (cut V (w64 (W.1+(ag.length:Int))) (V.length:Int))))])) else (bif ((ag.length:Int)==(1:Int)) then (kr [((-1:Int),(runesBytes B)),((1:Int),(runesBytes L))]) else ((eF9 n C B L).bind fun r2=>bif v3 then (bif (decide ((B.length:Int)>(100:Int))) then (bif (decide ((L.length:Int)>(100:Int))) then ((q91 (C,(B,(L,())))).bind fun r3=>kr r3.1) else ((aC (C,(B,(L,())))).bind fun r4=>kr r4.1)) else ((aC (C,(B,(L,())))).bind fun r5=>kr r5.1)) else ((aC (C,(B,(L,())))).bind fun r6=>kr r6.1)))
def bF0:FS1 β:=FXs (PN n q91 aB aC aD aA) n TU none (some fT) [] [252,506,507,254,255]
theorem cI1 (C:Z11) (B L:List Int) (v3:Bool) (V ag:List Int):bF0 n q91 aB aC aD aA (aX8 C B L v3 V ag) cx=WA n q91 aB aC aD aA (fun X=>cx.ret (WB X)) C B L v3 V ag:=by kernel_rfl
def SL (kr:List Z26→Option β) (C:Z11) (B L:List Int) (v3:Bool):Option β:=o7 n q91 aB aC aD aA (fun C B L v3 V ag=>WA n q91 aB aC aD aA kr C B L v3 V ag) kr C B L v3
def GP (s:FState) (cx:Cx β):Option β:=aW7 n q91 aB aC aD aA s {cx with nrm:=fun s=>bF0 n q91 aB aC aD aA s cx}
theorem bS0 (C:Z11) (B L:List Int) (v3:Bool):GP n q91 aB aC aD aA (TL C B L v3) cx=SL n q91 aB aC aD aA (fun X=>cx.ret (WB X)) C B L v3:=by simp only [GP,SL,cF5,cI1]
def y9 (C:Z11) (B L:List Int) (v3:Bool):Option (DenR [.rw Z22 115]):=SL n q91 aB aC aD aA (fun X=>some (X,())) C B L v3
def bM1 (d:DenA eT):Option (DenR dQ):=y9 n q91 aB aC aD aA d.1 d.2.1 d.2.2.1 d.2.2.2.1
def cX3:Sk:=(.nd (.fin none none (some fT) [] .leaf) (.nd (.fin none none (some fT) [] .leaf) (.nd (.nd (.fin none none (some fT) [] .leaf) (.fin none none (some fT) [] .leaf)) (.nd (.fin none none (some fT) [] .leaf) (.nd (.nd (.fin none none (some fT) [] .leaf) (.fin none (some N3) (some fT) [] .leaf)) (.nd (.nd (.fin none none (some fT) [] .leaf) (.nd (.fin none none (some fT) [] .leaf) (.fin none none (some fT) [] .leaf))) (.nd (.fin none none (some fT) [] .leaf) (.fin none none (some fT) [] .leaf))))))))
theorem eA7 (s:FState) (cx:Cx β):FX (PN n q91 aB aC aD aA) n TU cX3 s cx=GP n q91 aB aC aD aA s cx:=by kernel_rfl
theorem bX2 (h91:Fit Tryd.prog 91 (aQ iB fJ q91)) (h110:Fit Tryd.prog 110 (aQ eS dC aB)) (h114:Fit Tryd.prog 114 (aQ eO dL aC)) (h136:Fit Tryd.prog 136 (aQ eT dQ aD)) (h143:Fit Tryd.prog 143 (aQ eH dW aA)):Fit Tryd.prog 136 (aQ eT dQ (bM1 n q91 aB aC aD aA)):=
  cJ (Γ:=Γ0) (l:=cN1 n q91 aB aC aD aA) (n:=n) (sk:=cX3) (ts:=[(8,none)]) (fn:=Tryd.f136) (c:=TU) (by kernel_rfl) (by kernel_rfl) (by unfold aS;kernel_rfl) cF ⟨cT1 n,dX0 n,h91,h110,h114,h136,h143,trivial⟩ aO (by kernel_rfl) (by kernel_rfl) (Nat.le_of_ble_eq_true (by kernel_rfl)) (Nat.le_of_ble_eq_true (by kernel_rfl)) (by kernel_rfl) (by kernel_rfl)
    (fun d=>(eA7 n q91 aB aC aD aA _ _).trans (Eq.trans (b:=GP n q91 aB aC aD aA (TL d.1 d.2.1 d.2.2.1 d.2.2.2.1) (cS (PN n q91 aB aC aD aA) dQ [(8,none)])) (by kernel_rfl) ((bS0 n q91 aB aC aD aA _ d.1 d.2.1 d.2.2.1 d.2.2.2.1).trans (by kernel_rfl))))
def bL7 (C:Z11) (B L:List Int) (v3 v4:Int):FState:=⟨aM [(0,.ptr 0 0 0),(1,.sl 1 none false),(2,.sl 2 none false),(3,.dat (.int .i64) v3),(4,.dat (.int .i64) v4)],aE [(0,.row Z1 106 false [C]),(1,.row (.int .i32) 21 false B),(2,.row (.int .i32) 21 false L)]⟩
def eI9 (V:List Z26):FState:=⟨aM [(10,.sl 10 none false)],aE [(10,.row Z22 115 true V)]⟩
def jH:List NE:=[.row 10 Z22 115 true]
def dI9 (n:Nat) (q91:Q91) (aB:aL) (aC:aK) (aD:aJ) (aA:aI):List (Nat×Spec):=[(91,aQ iB fJ q91),(110,aQ eS dC aB),(114,aQ eO dL aC),(136,aQ eT dQ aD),(143,aQ eH dW aA)]
def T5:Ctx:={Γ0 with calls:=lkS (dI9 n q91 aB aC aD aA)}
def aH8:Code:=fb Tryd.f143
def c7 (n:Nat) (q91:Q91) (aB:aL) (aC:aK) (aD:aJ) (aA:aI) (kr:List Z26→Option β) (C:Z11) (B L:List Int) (v3 v4:Int):Option β:=bnd (0:Int) v3 (B.length:Int)<|bnd (0:Int) v4 (L.length:Int)<|bnd v3 (B.length:Int) (B.length:Int)<|bnd v4 (L.length:Int) (L.length:Int)<|(aB (C,((cut B (0:Int) v3),((cut L (0:Int) v4),(false,()))))).bind fun W=>(aB (C,((cut B v3 (B.length:Int)),((cut L v4 (L.length:Int)),(false,()))))).bind fun r2=>cM (W.1.length+r2.1.length)<|kr (W.1++r2.1)
def SN:FS1 β:=FXs (T5 n q91 aB aC aD aA) n aH8 none (some jH) [] [2,6,14,30,62,126,254,510,511]
theorem cD2 (C:Z11) (B L:List Int) (v3 v4:Int):SN n q91 aB aC aD aA (bL7 C B L v3 v4) cx=c7 n q91 aB aC aD aA (fun V=>cx.ret (eI9 V)) C B L v3 v4:=by kernel_rfl
def aP7 (C:Z11) (B L:List Int) (v3 v4:Int):Option (DenR [.rw Z22 115]):=c7 n q91 aB aC aD aA (fun V=>some (V,())) C B L v3 v4
def bN8 (d:DenA eH):Option (DenR dW):=aP7 n q91 aB aC aD aA d.1 d.2.1 d.2.2.1 d.2.2.2.1 d.2.2.2.2.1
def cY2:Sk:=(.nd (.fin none none (some jH) [] .leaf) (.nd (.fin none none (some jH) [] .leaf) (.nd (.fin none none (some jH) [] .leaf) (.nd (.fin none none (some jH) [] .leaf) (.nd (.fin none none (some jH) [] .leaf) (.nd (.fin none none (some jH) [] .leaf) (.nd (.fin none none (some jH) [] .leaf) (.nd (.fin none none (some jH) [] .leaf) (.fin none none (some jH) [] .leaf)))))))))
theorem dV3 (s:FState) (cx:Cx β):FX (T5 n q91 aB aC aD aA) n aH8 cY2 s cx=SN n q91 aB aC aD aA s cx:=by kernel_rfl
theorem bW9 (h91:Fit Tryd.prog 91 (aQ iB fJ q91)) (h110:Fit Tryd.prog 110 (aQ eS dC aB)) (h114:Fit Tryd.prog 114 (aQ eO dL aC)) (h136:Fit Tryd.prog 136 (aQ eT dQ aD)) (h143:Fit Tryd.prog 143 (aQ eH dW aA)):Fit Tryd.prog 143 (aQ eH dW (bN8 n q91 aB aC aD aA)):=
  cJ (Γ:=Γ0) (l:=dI9 n q91 aB aC aD aA) (n:=n) (sk:=cY2) (ts:=[(10,none)]) (fn:=Tryd.f143) (c:=aH8) (by kernel_rfl) (by kernel_rfl) (by unfold aS;kernel_rfl) cF ⟨h91,h110,h114,h136,h143,trivial⟩ aO (by kernel_rfl) (by kernel_rfl) (Nat.le_of_ble_eq_true (by kernel_rfl)) (Nat.le_of_ble_eq_true (by kernel_rfl)) (by kernel_rfl) (by kernel_rfl)
    (fun d=>(dV3 n q91 aB aC aD aA _ _).trans (Eq.trans (b:=SN n q91 aB aC aD aA (bL7 d.1 d.2.1 d.2.2.1 d.2.2.2.1 d.2.2.2.2.1) (cS (T5 n q91 aB aC aD aA) dW [(10,none)])) (by kernel_rfl) ((cD2 n q91 aB aC aD aA _ d.1 d.2.1 d.2.2.1 d.2.2.2.1 d.2.2.2.2.1).trans (by kernel_rfl))))
def bE (n:Nat):Nat→(DenA iB→Option (DenR fJ))×(DenA eS→Option (DenR dC))×(DenA eO→Option (DenR dL))×(DenA eT→Option (DenR dQ))×(DenA eH→Option (DenR dW))
  | 0=>(fun _=>none,fun _=>none,fun _=>none,fun _=>none,fun _=>none)
  | m+1=>(cT2 n (bE n m).1 (bE n m).2.1 (bE n m).2.2.1 (bE n m).2.2.2.1 (bE n m).2.2.2.2,bK6 n (bE n m).1 (bE n m).2.1 (bE n m).2.2.1 (bE n m).2.2.2.1 (bE n m).2.2.2.2,bI1 n (bE n m).1 (bE n m).2.1 (bE n m).2.2.1 (bE n m).2.2.2.1 (bE n m).2.2.2.2,bM1 n (bE n m).1 (bE n m).2.1 (bE n m).2.2.1 (bE n m).2.2.2.1 (bE n m).2.2.2.2,bN8 n (bE n m).1 (bE n m).2.1 (bE n m).2.2.1 (bE n m).2.2.2.1 (bE n m).2.2.2.2)
theorem bR (n:Nat):∀m:Nat,Fit Tryd.prog 91 (aQ iB fJ (bE n m).1)∧Fit Tryd.prog 110 (aQ eS dC (bE n m).2.1)∧Fit Tryd.prog 114 (aQ eO dL (bE n m).2.2.1)∧Fit Tryd.prog 136 (aQ eT dQ (bE n m).2.2.2.1)∧Fit Tryd.prog 143 (aQ eH dW (bE n m).2.2.2.2)
  | 0=>⟨mV (by unfold aS;kernel_rfl),mV (by unfold aS;kernel_rfl),mV (by unfold aS;kernel_rfl),mV (by unfold aS;kernel_rfl),mV (by unfold aS;kernel_rfl)⟩
  | m+1=>⟨cM3 n (bE n m).1 (bE n m).2.1 (bE n m).2.2.1 (bE n m).2.2.2.1 (bE n m).2.2.2.2 (bR n m).1 (bR n m).2.1 (bR n m).2.2.1 (bR n m).2.2.2.1 (bR n m).2.2.2.2,bR4 n (bE n m).1 (bE n m).2.1 (bE n m).2.2.1 (bE n m).2.2.2.1 (bE n m).2.2.2.2 (bR n m).1 (bR n m).2.1 (bR n m).2.2.1 (bR n m).2.2.2.1 (bR n m).2.2.2.2,cH1 n (bE n m).1 (bE n m).2.1 (bE n m).2.2.1 (bE n m).2.2.2.1 (bE n m).2.2.2.2 (bR n m).1 (bR n m).2.1 (bR n m).2.2.1 (bR n m).2.2.2.1 (bR n m).2.2.2.2,bX2 n (bE n m).1 (bE n m).2.1 (bE n m).2.2.1 (bE n m).2.2.2.1 (bE n m).2.2.2.2 (bR n m).1 (bR n m).2.1 (bR n m).2.2.1 (bR n m).2.2.2.1 (bR n m).2.2.2.2,bW9 n (bE n m).1 (bE n m).2.1 (bE n m).2.2.1 (bE n m).2.2.2.1 (bE n m).2.2.2.2 (bR n m).1 (bR n m).2.1 (bR n m).2.2.1 (bR n m).2.2.2.1 (bR n m).2.2.2.2⟩
end
section
variable (n:Nat) (cx:Cx β)
def eO5 (d:DenA iB):Option (DenR fJ):=(bE n n).1 d
def g91 (a0:AK.den (.pro Z1 106)) (a1 a2:AK.den (.ro (.int .i32) 21)):Option (DenR fJ):=eO5 n (a0,(a1,(a2,())))
def eO8:Spec:=aQ iB fJ (eO5 n)
theorem eB9:Fit Tryd.prog 91 (eO8 n):=(bR n n).1
def cP9 (d:DenA eS):Option (DenR dC):=(bE n n).2.1 d
def fE7 (a0:AK.den (.pro Z1 106)) (a1 a2:AK.den (.ro (.int .i32) 21)) (a3:AK.den (.dat .bool)):Option (DenR dC):=cP9 n (a0,(a1,(a2,(a3,()))))
def eS6:Spec:=aQ eS dC (cP9 n)
theorem fA0:Fit Tryd.prog 110 (eS6 n):=(bR n n).2.1
def cL4 (d:DenA eO):Option (DenR dL):=(bE n n).2.2.1 d
def fE4 (a0:AK.den (.pro Z1 106)) (a1 a2:AK.den (.ro (.int .i32) 21)):Option (DenR dL):=cL4 n (a0,(a1,(a2,())))
def eX4:Spec:=aQ eO dL (cL4 n)
theorem eY4:Fit Tryd.prog 114 (eX4 n):=(bR n n).2.2.1
def dO4 (d:DenA eT):Option (DenR dQ):=(bE n n).2.2.2.1 d
def fE6 (a0:AK.den (.pro Z1 106)) (a1 a2:AK.den (.ro (.int .i32) 21)) (a3:AK.den (.dat .bool)):Option (DenR dQ):=dO4 n (a0,(a1,(a2,(a3,()))))
def eT8:Spec:=aQ eT dQ (dO4 n)
theorem fC5:Fit Tryd.prog 136 (eT8 n):=(bR n n).2.2.2.1
def dJ7 (d:DenA eH):Option (DenR dW):=(bE n n).2.2.2.2 d
def fE5 (a0:AK.den (.pro Z1 106)) (a1 a2:AK.den (.ro (.int .i32) 21)) (a3 a4:AK.den (.dat (.int .i64))):Option (DenR dW):=dJ7 n (a0,(a1,(a2,(a3,(a4,())))))
def eY0:Spec:=aQ eH dW (dJ7 n)
theorem fB5:Fit Tryd.prog 143 (eY0 n):=(bR n n).2.2.2.2
def dL5 (C:Z11) (J S:BA):FState:=⟨aM [(0,.ptr 0 0 0),(1,.dat .str J),(2,.dat .str S)],aE [(0,.row Z1 106 false [C])]⟩
def eW4 (y:List Z26):FState:=⟨aM [(6,.sl 6 none false)],aE [(6,.row Z22 115 true y)]⟩
def GV:List NE:=[.row 6 Z22 115 true]
def eK2:List (Nat×Spec):=[(91,eO8 n)]
def dB3:Ctx:={Γ0 with calls:=lkS (eK2 n)}
def cN4:Code:=fb Tryd.f63
def cW6 (kr:List Z26→Option β) (C:Z11) (J S:BA):Option β:=kQ J<|kQ S<|(g91 n C (bS J) (bS S)).bind fun W=>kr W.1
def aR1:FS1 β:=FXs (dB3 n) n cN4 none (some GV) [] [2,6,7]
theorem cY6 (C:Z11) (J S:BA):aR1 n (dL5 C J S) cx=cW6 n (fun y=>cx.ret (eW4 y)) C J S:=by kernel_rfl
def g63 (C:Z11) (J S:BA):Option (DenR [.rw Z22 115]):=cW6 n (fun y=>some (y,())) C J S
def eN4:List AK:=[.pro Z1 106,.dat .str,.dat .str]
def cT0:List RK:=[.rw Z22 115]
def fA9 (d:DenA eN4):Option (DenR cT0):=g63 n d.1 d.2.1 d.2.2.1
def eL4:Spec:=aQ eN4 cT0 (fA9 n)
def eO0:Sk:=(.nd (.fin none none (some GV) [] .leaf) (.nd (.fin none none (some GV) [] .leaf) (.fin none none (some GV) [] .leaf)))
theorem eI7 (s:FState) (cx:Cx β):FX (dB3 n) n cN4 eO0 s cx=aR1 n s cx:=by kernel_rfl
theorem eD9:Fit Tryd.prog 63 (eL4 n):=
  cJ (Γ:=Γ0) (l:=eK2 n) (n:=n) (sk:=eO0) (ts:=[(6,none)]) (fn:=Tryd.f63) (c:=cN4) (by kernel_rfl) (by kernel_rfl) (by unfold aS;kernel_rfl) cF ⟨eB9 n,trivial⟩ aO (by kernel_rfl) (by kernel_rfl) (Nat.le_of_ble_eq_true (by kernel_rfl)) (Nat.le_of_ble_eq_true (by kernel_rfl)) (by kernel_rfl) (by kernel_rfl)
    (fun d=>(eI7 n _ _).trans (Eq.trans (b:=aR1 n (dL5 d.1 d.2.1 d.2.2.1) (cS (dB3 n) cT0 [(6,none)])) (by kernel_rfl) ((cY6 n _ d.1 d.2.1 d.2.2.1).trans (by kernel_rfl))))
def o8 (M:List Z26):FState:=⟨aM [(0,.sl 0 none false)],aE [(0,.row Z22 115 false M)]⟩
def dA1 (L:List Z26):FState:=⟨aM [(2,.sl 2 none false)],aE [(2,.row Z21 68 true L)]⟩
def TI:List NE:=[.row 2 Z21 68 true]
def CJ (z y:List Z26) (E G:Int):FState:=⟨aM [(3,.sl 3 none false),(6,.sl 6 none false),(7,.dat (.int .i64) E),(8,.dat (.int .i64) G)],aE [(3,.row Z21 68 true z),(6,.row Z22 115 false y)]⟩
def HA:List NE:=[.row 3 Z21 68 true,.row 6 Z22 115 false,.keep 7,.keep 8]
def ID (z:List Z26):FState:=⟨aM [(3,.sl 3 none false)],aE [(3,.row Z21 68 true z)]⟩
def AM:List NE:=[.row 3 Z21 68 true]
def eM8 (n:Nat):List (Nat×Spec):=[]
def F5:Ctx:={Γ0 with calls:=lkS (eM8 n)}
def ZN:Code:=fb Tryd.f45
def dY3 (n:Nat) (kn:List Z26→List Z26→Int→Int→Option β) (M:List Z26):Option β:=kn [] M (M.length:Int) (0:Int)
def cQ9:FS1 β:=FXs (F5 n) n ZN (some HA) none [] [2,6,28]
theorem dK2 (M:List Z26):cQ9 n (o8 M) cx=dY3 n (fun z y E G=>cx.nrm (CJ z y E G)) M:=by kernel_rfl
def aX2 (n:Nat) (kn:List Z26→List Z26→Int→Int→Option β) (ae:List Z26→Option β) (z y:List Z26) (E G:Int):Option β:=bif (decide (G < E)) then (idx G (y.length:Int)<|cM (z.length+[((w64 ((rd [(rd y G Z17)] (0:Int) Z17).1)),(rd [(rd y G Z17)] (0:Int) Z17).2)].length)<|kn (z++[((w64 ((rd [(rd y G Z17)] (0:Int) Z17).1)),(rd [(rd y G Z17)] (0:Int) Z17).2)]) y E (w64 (G+1))) else (ae z)
def V8:FS1 β:=FXs (F5 n) n ZN (some HA) none [(0,AM)] [232,466,934,935]
theorem dK3 (z y:List Z26) (E G:Int):V8 n (CJ z y E G) cx=aX2 n (fun z y E G=>cx.nrm (CJ z y E G)) (fun z=>cx.ex 0 (ID z)) z y E G:=by kernel_rfl
def g45_3L (n:Nat) (ae:List Z26→Option β):Nat→List Z26→List Z26→Int→Int→Option β
  | 0,_,_,_,_=>none
  | m+1,z,y,E,G=>aX2 n (g45_3L n ae m) ae z y E G
def dK6 (ae:List Z26→Option β) (z y:List Z26) (E G:Int):Option β:=g45_3L n ae n z y E G
def dS5 (s:FState) (cx:Cx β):Option β:=bO (fun again s=>V8 n s {cx with nrm:=again}) n s
theorem cC1 (n:Nat) (cx:Cx β):∀(m:Nat) (z y:List Z26) (E G:Int),bO (fun again s=>V8 n s {cx with nrm:=again}) m (CJ z y E G)=g45_3L n (fun z=>cx.ex 0 (ID z)) m z y E G:=by
  intro m
  induction m with
  | zero=>intros;rfl
  | succ m ih=>intros;simp only [bO,g45_3L,dK3,ih]
theorem cY7 (z y:List Z26) (E G:Int):dS5 n (CJ z y E G) cx=dK6 n (fun z=>cx.ex 0 (ID z)) z y E G:=cC1 n cx n z y E G
def dO9 (kn:List Z26→Option β) (z y:List Z26) (E G:Int):Option β:=dK6 n kn z y E G
def dC7 (s:FState) (cx:Cx β):Option β:=dS5 n s {cx with ex:=fun j s=>bif Nat.beq j 0 then cx.nrm s else cx.ex j s}
theorem dD6 (z y:List Z26) (E G:Int):dC7 n (CJ z y E G) cx=dO9 n (fun z=>cx.nrm (ID z)) z y E G:=cY7 n _ z y E G
def dW5 (n:Nat) (kr:List Z26→Option β) (z:List Z26):Option β:=kr z
def dQ6:FS1 β:=FXs (F5 n) n ZN none (some TI) [] [30,31]
theorem cU8 (z:List Z26):dQ6 n (ID z) cx=dW5 n (fun L=>cx.ret (dA1 L)) z:=by kernel_rfl
def bA2 (kr:List Z26→Option β) (M:List Z26):Option β:=dY3 n (fun z y E G=>dO9 n (fun z=>dW5 n kr z) z y E G) M
def QI (s:FState) (cx:Cx β):Option β:=cQ9 n s {cx with nrm:=fun s=>dC7 n s {cx with nrm:=fun s=>dQ6 n s cx}}
theorem dI1 (M:List Z26):QI n (o8 M) cx=bA2 n (fun L=>cx.ret (dA1 L)) M:=by simp only [QI,bA2,dK2,dD6,cU8]
def g45 (M:List Z26):Option (DenR [.rw Z21 68]):=bA2 n (fun L=>some (L,())) M
def eM7:List AK:=[.ro Z22 115]
def cS9:List RK:=[.rw Z21 68]
def eZ6 (d:DenA eM7):Option (DenR cS9):=g45 n d.1
def eQ1:Spec:=aQ eM7 cS9 (eZ6 n)
def eN9:Sk:=(.nd (.fin none none none [] .leaf) (.nd (.fin none none none [] .leaf) (.nd (.nd (.fin none (some HA) none [] .leaf) (.nd (.nd (.nd (.fin none none none [(0,AM)] .leaf) (.nd (.fin none none none [(0,AM)] .leaf) (.nd (.fin none none none [(0,AM)] .leaf) (.fin none (some HA) none [(0,AM)] .leaf)))) .leaf) .leaf)) (.nd (.fin none none (some TI) [] .leaf) (.fin none none (some TI) [] .leaf)))))
theorem eE7 (s:FState) (cx:Cx β):FX (F5 n) n ZN eN9 s cx=QI n s cx:=by kernel_rfl
theorem eH6:Fit Tryd.prog 45 (eQ1 n):=
  cJ (Γ:=Γ0) (l:=eM8 n) (n:=n) (sk:=eN9) (ts:=[(2,none)]) (fn:=Tryd.f45) (c:=ZN) (by kernel_rfl) (by kernel_rfl) (by unfold aS;kernel_rfl) cF trivial aO (by kernel_rfl) (by kernel_rfl) (Nat.le_of_ble_eq_true (by kernel_rfl)) (Nat.le_of_ble_eq_true (by kernel_rfl)) (by kernel_rfl) (by kernel_rfl)
    (fun d=>(eE7 n _ _).trans (Eq.trans (b:=QI n (o8 d.1) (cS (F5 n) cS9 [(2,none)])) (by kernel_rfl) ((dI1 n _ d.1).trans (by kernel_rfl))))
theorem dK4:eX3 Tryd.prog 61 2:=fun vs w hv=>by
  obtain ⟨C,p1,rfl⟩:=fE2 hv
  refine callsD_of_wpS (fn:=Tryd.f61) (c:=fb Tryd.f61) (by kernel_rfl) (by kernel_rfl) fun c₀ cs hu=>?_
  show Code.wpS Tryd.prog (.seq (nav (fb Tryd.f61) [0]) (.cond (.tmp 3) (nav (fb Tryd.f61) [1,0]) .skip)) _ _ _ _
  apply wpS_seq
  apply wpS_region
  simp [wpOpsS,go_sem,recoverD,hu,Exit.thenS]
  refine wpS_cond (t:=false) (by simp [Act.eval,Array.replicate]) ?_
  simp only [Bool.false_eq_true,if_false]
  refine wpS_of_wp (wp_skip ?_)
  cases c₀
  simp_all [bodyPostS,results]
def dD5 (Z:Z9) (J S:BA):FState:=⟨aM [(0,.dat Z2 Z),(1,.dat .str J),(2,.dat .str S)],aE []⟩
def q9 (p6:(List Z26)) (p7:Int):FState:=⟨aM [(6,.ptr 6 0 0),(7,.ptr 7 0 0)],aE [(6,.row (.sl 68 Z21) 27 true [p6]),(7,.row (.int .i64) 3 true [p7])]⟩
def YB:List NE:=[.ptr 6 (.sl 68 Z21) 27 true,.ptr 7 (.int .i64) 3 true]
def HX (J S:BA) (p3:Z9) (p6:(List Z26)) (p7:Int):FState:=⟨aM [(1,.dat .str J),(2,.dat .str S),(3,.ptr 3 0 0),(6,.ptr 6 0 0),(7,.ptr 7 0 0)],aE [(3,.row Z2 59 true [p3]),(6,.row (.sl 68 Z21) 27 true [p6]),(7,.row (.int .i64) 3 true [p7])]⟩
def FH:List NE:=[.keep 1,.keep 2,.ptr 3 Z2 59 true,.ptr 6 (.sl 68 Z21) 27 true,.ptr 7 (.int .i64) 3 true]
def eO2:List (Nat×Spec):=[(45,eQ1 n),(62,eM0 n),(63,eL4 n)]
def yE:Ctx:={Γ0 with calls:=lkS (eO2 n)}
def rE:Code:=fb Tryd.f33
def F2 (n:Nat) (kn:BA→BA→Z9→(List Z26)→Int→Option β) (Z:Z9) (J S:BA):Option β:=kn J S Z ([]:List Z26) (0:Int)
def eA4:FS1 β:=FXs (yE n) n rE (some FH) none [] [2]
theorem cR7 (Z:Z9) (J S:BA):eA4 n (dD5 Z J S) cx=F2 n (fun J S p3 p6 p7=>cx.nrm (HX J S p3 p6 p7)) Z J S:=by kernel_rfl
def J3 (kr:(List Z26)→Int→Option β) (J S:BA) (p3:Z9) (p6:(List Z26)) (p7:Int):Option β:=(g62 n p3).bind fun W=>(g63 n W.1 J S).bind fun r2=>(g45 n r2.1).bind fun r3=>kr r3.1 (0:Int)
def dT8:FS1 β:=FXs (yE n) n rE none (some YB) [] [14,15]
theorem dA9 (J S:BA) (p3:Z9) (p6:(List Z26)) (p7:Int):dT8 n (HX J S p3 p6 p7) cx=J3 n (fun p6 p7=>cx.ret (q9 p6 p7)) J S p3 p6 p7:=by kernel_rfl
def g33 (Z:Z9) (J S:BA):Option (DenR [.ro Z21 68,.dat (.int .i64)]):=F2 n (fun J S p3 p6 p7=>J3 n (fun p6 p7=>some (p6,(p7,()))) J S p3 p6 p7) Z J S
def eO6:List AK:=[.dat Z2,.dat .str,.dat .str]
def L0:List RK:=[.ro Z21 68,.dat (.int .i64)]
def fB3 (d:DenA eO6):Option (DenR L0):=g33 n d.1 d.2.1 d.2.2.1
def eK8:Spec:=aQ eO6 L0 (fB3 n)
def eX2:Sk:=(.fin none (some FH) none [] .leaf)
def aM4:Sk:=(.nd (.fin none none (some YB) [] .leaf) (.fin none none (some YB) [] .leaf))
def u0:Sk:=(.fin (some FH) none none [] aM4)
theorem eE4 (s:FState) (cx:Cx β):FX (yE n) n (nav rE [1,1]) aM4 s cx=dT8 n s cx:=by kernel_rfl
theorem eJ7 (κ:FState→Option β) (J S:BA) (p3:Z9) (p6:(List Z26)) (p7:Int):vD (yE n) FH (FState.set (HX J S p3 p6 p7) 8 .dead) κ=κ (HX J S p3 p6 p7):=by kernel_rfl
theorem eH9 (J S:BA) (p3:Z9) (p6:(List Z26)) (p7:Int):FX (yE n) n (nav rE [1,1]) u0 (FState.set (HX J S p3 p6 p7) 8 .dead) cx=J3 n (fun p6 p7=>cx.ret (q9 p6 p7)) J S p3 p6 p7:=
  (eV9 (c:=nav rE [1,1]) (k:=aM4) (show nav rE [1,1]= .seq (nav rE [1,1,0]) (nav rE [1,1,1]) by kernel_rfl) rfl).trans ((eJ7 n _ J S p3 p6 p7).trans ((eE4 n _ _).trans (dA9 n cx J S p3 p6 p7)))
theorem eB1:Fit Tryd.prog 33 (eK8 n):=
  F6 (Γ:=Γ0) (l:=eO2 n) (n:=n) (sk0:=eX2) (sk1:=u0) (ts:=[(6,some 27),(7,some 3)]) (fn:=Tryd.f33) (c:=rE) (c0:=nav rE [0]) (c1:=nav rE [1,1]) (tm:=8) (g:=61) (k:=2) (by kernel_rfl) (by kernel_rfl) (by kernel_rfl) (by unfold aS;kernel_rfl) cF ⟨eH6 n,eG4 n,eD9 n,trivial⟩ aO (by unfold aS;kernel_rfl) dK4 (by kernel_rfl) (by kernel_rfl) (by kernel_rfl) (Nat.le_of_ble_eq_true (by kernel_rfl)) (Nat.le_of_ble_eq_true (by kernel_rfl)) (Nat.le_of_ble_eq_true (by kernel_rfl)) (by kernel_rfl) (by kernel_rfl)
    (fun d=>Eq.trans (b:=eA4 n (dD5 d.1 d.2.1 d.2.2.1) ⟨fun s=>FX (yE n) n (nav rE [1,1]) u0 (FState.set s 8 .dead) (cS (yE n) L0 [(6,some 27),(7,some 3)]),fun _=>none,fun _ _=>none⟩) (by kernel_rfl) ((cR7 n _ d.1 d.2.1 d.2.2.1).trans (Eq.trans (b:=F2 n (fun J S p3 p6 p7=>J3 n (fun p6 p7=>(cS (yE n) L0 [(6,some 27),(7,some 3)]).ret (q9 p6 p7)) J S p3 p6 p7) d.1 d.2.1 d.2.2.1) (congrArg (fun k_=>F2 n k_ d.1 d.2.1 d.2.2.1) (funext fun J=>(funext fun S=>(funext fun p3=>(funext fun p6=>(funext fun p7=>eH9 n (cS (yE n) L0 [(6,some 27),(7,some 3)]) J S p3 p6 p7)))))) (by kernel_rfl))))
def n4 (M:List Z26):FState:=⟨aM [(0,.sl 0 none false)],aE [(0,.row Z21 68 false M)]⟩
def dV0 (S:BA):FState:=⟨aM [(2,.dat .str S)],aE []⟩
def UB:List NE:=[.keep 2]
def CY (v3:BA) (y:List Z26) (E G:Int):FState:=⟨aM [(3,.dat .str v3),(6,.sl 6 none false),(7,.dat (.int .i64) E),(8,.dat (.int .i64) G)],aE [(6,.row Z21 68 false y)]⟩
def HH:List NE:=[.keep 3,.row 6 Z21 68 false,.keep 7,.keep 8]
def MI (v3:BA):FState:=⟨aM [(3,.dat .str v3)],aE []⟩
def xG:List NE:=[.keep 3]
def eQ4 (n:Nat):List (Nat×Spec):=[]
def YE:Ctx:={Γ0 with calls:=lkS (eQ4 n)}
def F1:Code:=fb Tryd.f34
def eM6 (n:Nat) (kn:BA→List Z26→Int→Int→Option β) (M:List Z26):Option β:=kn (⟨#[]⟩:BA) M (M.length:Int) (0:Int)
def dQ5:FS1 β:=FXs (YE n) n F1 (some HH) none [] [2,6,28]
theorem cR3 (M:List Z26):dQ5 n (n4 M) cx=eM6 n (fun v3 y E G=>cx.nrm (CY v3 y E G)) M:=by kernel_rfl
def bC8 (n:Nat) (kn:BA→List Z26→Int→Int→Option β) (ae:BA→Option β) (v3:BA) (y:List Z26) (E G:Int):Option β:=bif (decide (G < E)) then (idx G (y.length:Int)<|bif ((rd [(rd y G Z17)] (0:Int) Z17).1 !=(1:Int)) then (cM (v3.size+((rd [(rd y G Z17)] (0:Int) Z17).2).size)<|kn (v3++(rd [(rd y G Z17)] (0:Int) Z17).2) y E (w64 (G+1))) else (kn v3 y E (w64 (G+1)))) else (ae v3)
def aP9:FS1 β:=FXs (YE n) n F1 (some HH) none [(0,xG)] [232,466,934,935]
theorem dZ0 (v3:BA) (y:List Z26) (E G:Int):aP9 n (CY v3 y E G) cx=bC8 n (fun v3 y E G=>cx.nrm (CY v3 y E G)) (fun v3=>cx.ex 0 (MI v3)) v3 y E G:=by kernel_rfl
def g34_3L (n:Nat) (ae:BA→Option β):Nat→BA→List Z26→Int→Int→Option β
  | 0,_,_,_,_=>none
  | m+1,v3,y,E,G=>bC8 n (g34_3L n ae m) ae v3 y E G
def eP4 (ae:BA→Option β) (v3:BA) (y:List Z26) (E G:Int):Option β:=g34_3L n ae n v3 y E G
def cP0 (s:FState) (cx:Cx β):Option β:=bO (fun again s=>aP9 n s {cx with nrm:=again}) n s
theorem bW1 (n:Nat) (cx:Cx β):∀(m:Nat) (v3:BA) (y:List Z26) (E G:Int),bO (fun again s=>aP9 n s {cx with nrm:=again}) m (CY v3 y E G)=g34_3L n (fun v3=>cx.ex 0 (MI v3)) m v3 y E G:=by
  intro m
  induction m with
  | zero=>intros;rfl
  | succ m ih=>intros;simp only [bO,g34_3L,dZ0,ih]
theorem dP4 (v3:BA) (y:List Z26) (E G:Int):cP0 n (CY v3 y E G) cx=eP4 n (fun v3=>cx.ex 0 (MI v3)) v3 y E G:=bW1 n cx n v3 y E G
def eN7 (kn:BA→Option β) (v3:BA) (y:List Z26) (E G:Int):Option β:=eP4 n kn v3 y E G
def dE8 (s:FState) (cx:Cx β):Option β:=cP0 n s {cx with ex:=fun j s=>bif Nat.beq j 0 then cx.nrm s else cx.ex j s}
theorem cV8 (v3:BA) (y:List Z26) (E G:Int):dE8 n (CY v3 y E G) cx=eN7 n (fun v3=>cx.nrm (MI v3)) v3 y E G:=dP4 n _ v3 y E G
def eP7 (n:Nat) (kr:BA→Option β) (v3:BA):Option β:=kr v3
def cK9:FS1 β:=FXs (YE n) n F1 none (some UB) [] [30,31]
theorem cT8 (v3:BA):cK9 n (MI v3) cx=eP7 n (fun S=>cx.ret (dV0 S)) v3:=by kernel_rfl
def cQ6 (kr:BA→Option β) (M:List Z26):Option β:=eM6 n (fun v3 y E G=>eN7 n (fun v3=>eP7 n kr v3) v3 y E G) M
def RZ (s:FState) (cx:Cx β):Option β:=dQ5 n s {cx with nrm:=fun s=>dE8 n s {cx with nrm:=fun s=>cK9 n s cx}}
theorem cS5 (M:List Z26):RZ n (n4 M) cx=cQ6 n (fun S=>cx.ret (dV0 S)) M:=by simp only [RZ,cQ6,cR3,cV8,cT8]
def g34 (M:List Z26):Option (DenR [.dat .str]):=cQ6 n (fun S=>some (S,())) M
def eK3:List AK:=[.ro Z21 68]
def dL2:List RK:=[.dat .str]
def fD1 (d:DenA eK3):Option (DenR dL2):=g34 n d.1
def eL0:Spec:=aQ eK3 dL2 (fD1 n)
def eM2:Sk:=(.nd (.fin none none none [] .leaf) (.nd (.fin none none none [] .leaf) (.nd (.nd (.fin none (some HH) none [] .leaf) (.nd (.nd (.nd (.fin none none none [(0,xG)] .leaf) (.nd (.fin none none none [(0,xG)] .leaf) (.nd (.fin none none none [(0,xG)] .leaf) (.fin none (some HH) none [(0,xG)] .leaf)))) .leaf) .leaf)) (.nd (.fin none none (some UB) [] .leaf) (.fin none none (some UB) [] .leaf)))))
theorem eD2 (s:FState) (cx:Cx β):FX (YE n) n F1 eM2 s cx=RZ n s cx:=by kernel_rfl
theorem eB5:Fit Tryd.prog 34 (eL0 n):=
  cJ (Γ:=Γ0) (l:=eQ4 n) (n:=n) (sk:=eM2) (ts:=[(2,none)]) (fn:=Tryd.f34) (c:=F1) (by kernel_rfl) (by kernel_rfl) (by unfold aS;kernel_rfl) cF trivial aO (by kernel_rfl) (by kernel_rfl) (Nat.le_of_ble_eq_true (by kernel_rfl)) (Nat.le_of_ble_eq_true (by kernel_rfl)) (by kernel_rfl) (by kernel_rfl)
    (fun d=>(eD2 n _ _).trans (Eq.trans (b:=RZ n (n4 d.1) (cS (YE n) dL2 [(2,none)])) (by kernel_rfl) ((cS5 n _ d.1).trans (by kernel_rfl))))
def V9 (M:List Z26):FState:=⟨aM [(0,.sl 0 none false)],aE [(0,.row Z21 68 false M)]⟩
def cY1 (S:BA):FState:=⟨aM [(2,.dat .str S)],aE []⟩
def QN:List NE:=[.keep 2]
def CR (v3:BA) (y:List Z26) (E G:Int):FState:=⟨aM [(3,.dat .str v3),(6,.sl 6 none false),(7,.dat (.int .i64) E),(8,.dat (.int .i64) G)],aE [(6,.row Z21 68 false y)]⟩
def EZ:List NE:=[.keep 3,.row 6 Z21 68 false,.keep 7,.keep 8]
def LT (v3:BA):FState:=⟨aM [(3,.dat .str v3)],aE []⟩
def BH:List NE:=[.keep 3]
def eO3 (n:Nat):List (Nat×Spec):=[]
def G7:Ctx:={Γ0 with calls:=lkS (eO3 n)}
def ZK:Code:=fb Tryd.f35
def eN1 (n:Nat) (kn:BA→List Z26→Int→Int→Option β) (M:List Z26):Option β:=kn (⟨#[]⟩:BA) M (M.length:Int) (0:Int)
def dZ9:FS1 β:=FXs (G7 n) n ZK (some EZ) none [] [2,6,28]
theorem dH5 (M:List Z26):dZ9 n (V9 M) cx=eN1 n (fun v3 y E G=>cx.nrm (CR v3 y E G)) M:=by kernel_rfl
def aY8 (n:Nat) (kn:BA→List Z26→Int→Int→Option β) (ae:BA→Option β) (v3:BA) (y:List Z26) (E G:Int):Option β:=bif (decide (G < E)) then (idx G (y.length:Int)<|bif ((rd [(rd y G Z17)] (0:Int) Z17).1 !=(-1:Int)) then (cM (v3.size+((rd [(rd y G Z17)] (0:Int) Z17).2).size)<|kn (v3++(rd [(rd y G Z17)] (0:Int) Z17).2) y E (w64 (G+1))) else (kn v3 y E (w64 (G+1)))) else (ae v3)
def w8:FS1 β:=FXs (G7 n) n ZK (some EZ) none [(0,BH)] [232,466,934,935]
theorem dG2 (v3:BA) (y:List Z26) (E G:Int):w8 n (CR v3 y E G) cx=aY8 n (fun v3 y E G=>cx.nrm (CR v3 y E G)) (fun v3=>cx.ex 0 (LT v3)) v3 y E G:=by kernel_rfl
def g35_3L (n:Nat) (ae:BA→Option β):Nat→BA→List Z26→Int→Int→Option β
  | 0,_,_,_,_=>none
  | m+1,v3,y,E,G=>aY8 n (g35_3L n ae m) ae v3 y E G
def eO4 (ae:BA→Option β) (v3:BA) (y:List Z26) (E G:Int):Option β:=g35_3L n ae n v3 y E G
def dY6 (s:FState) (cx:Cx β):Option β:=bO (fun again s=>w8 n s {cx with nrm:=again}) n s
theorem bU1 (n:Nat) (cx:Cx β):∀(m:Nat) (v3:BA) (y:List Z26) (E G:Int),bO (fun again s=>w8 n s {cx with nrm:=again}) m (CR v3 y E G)=g35_3L n (fun v3=>cx.ex 0 (LT v3)) m v3 y E G:=by
  intro m
  induction m with
  | zero=>intros;rfl
  | succ m ih=>intros;simp only [bO,g35_3L,dG2,ih]
theorem cT4 (v3:BA) (y:List Z26) (E G:Int):dY6 n (CR v3 y E G) cx=eO4 n (fun v3=>cx.ex 0 (LT v3)) v3 y E G:=bU1 n cx n v3 y E G
def eL7 (kn:BA→Option β) (v3:BA) (y:List Z26) (E G:Int):Option β:=eO4 n kn v3 y E G
def dX6 (s:FState) (cx:Cx β):Option β:=dY6 n s {cx with ex:=fun j s=>bif Nat.beq j 0 then cx.nrm s else cx.ex j s}
theorem dQ8 (v3:BA) (y:List Z26) (E G:Int):dX6 n (CR v3 y E G) cx=eL7 n (fun v3=>cx.nrm (LT v3)) v3 y E G:=cT4 n _ v3 y E G
def eK6 (n:Nat) (kr:BA→Option β) (v3:BA):Option β:=kr v3
def dG5:FS1 β:=FXs (G7 n) n ZK none (some QN) [] [30,31]
theorem cQ4 (v3:BA):dG5 n (LT v3) cx=eK6 n (fun S=>cx.ret (cY1 S)) v3:=by kernel_rfl
def cQ5 (kr:BA→Option β) (M:List Z26):Option β:=eN1 n (fun v3 y E G=>eL7 n (fun v3=>eK6 n kr v3) v3 y E G) M
def SI (s:FState) (cx:Cx β):Option β:=dZ9 n s {cx with nrm:=fun s=>dX6 n s {cx with nrm:=fun s=>dG5 n s cx}}
theorem dW9 (M:List Z26):SI n (V9 M) cx=cQ5 n (fun S=>cx.ret (cY1 S)) M:=by simp only [SI,cQ5,dH5,dQ8,cQ4]
def g35 (M:List Z26):Option (DenR [.dat .str]):=cQ5 n (fun S=>some (S,())) M
def eM9:List AK:=[.ro Z21 68]
def cP4:List RK:=[.dat .str]
def fB9 (d:DenA eM9):Option (DenR cP4):=g35 n d.1
def eM4:Spec:=aQ eM9 cP4 (fB9 n)
def eP3:Sk:=(.nd (.fin none none none [] .leaf) (.nd (.fin none none none [] .leaf) (.nd (.nd (.fin none (some EZ) none [] .leaf) (.nd (.nd (.nd (.fin none none none [(0,BH)] .leaf) (.nd (.fin none none none [(0,BH)] .leaf) (.nd (.fin none none none [(0,BH)] .leaf) (.fin none (some EZ) none [(0,BH)] .leaf)))) .leaf) .leaf)) (.nd (.fin none none (some QN) [] .leaf) (.fin none none (some QN) [] .leaf)))))
theorem eG9 (s:FState) (cx:Cx β):FX (G7 n) n ZK eP3 s cx=SI n s cx:=by kernel_rfl
theorem eE3:Fit Tryd.prog 35 (eM4 n):=
  cJ (Γ:=Γ0) (l:=eO3 n) (n:=n) (sk:=eP3) (ts:=[(2,none)]) (fn:=Tryd.f35) (c:=ZK) (by kernel_rfl) (by kernel_rfl) (by unfold aS;kernel_rfl) cF trivial aO (by kernel_rfl) (by kernel_rfl) (Nat.le_of_ble_eq_true (by kernel_rfl)) (Nat.le_of_ble_eq_true (by kernel_rfl)) (by kernel_rfl) (by kernel_rfl)
    (fun d=>(eG9 n _ _).trans (Eq.trans (b:=SI n (V9 d.1) (cS (G7 n) cP4 [(2,none)])) (by kernel_rfl) ((dW9 n _ d.1).trans (by kernel_rfl))))
def eN2 (Z J:BA):FState:=⟨aM [(0,.dat .str Z),(1,.dat .str J)],aE []⟩
def fC2 (v4:Bool):FState:=⟨aM [(4,.dat .bool v4)],aE []⟩
def rH:List NE:=[.keep 4]
def eZ1:List (Nat×Spec):=[(32,eP5 n),(33,eK8 n),(34,eL0 n),(35,eM4 n)]
def eT1:Ctx:={Γ0 with calls:=lkS (eZ1 n)}
def eQ5:Code:=fb Tryd.f7
def eX9 (kr:Bool→Option β) (Z J:BA):Option β:=bif (decide ((Z.size:Int)>(2147483647:Int))) then (kr true) else (bif (decide ((J.size:Int)>(2147483647:Int))) then (kr true) else ((g32 n Z (300:Int)).bind fun W=>(g32 n J (300:Int)).bind fun r2=>(g33 n (false,((0:Int),((0:Int),((0:Nat),((0:Nat),((0:Int),(0:Int))))))) W.1 r2.1).bind fun r3=>bif (r3.2.1==(0:Int)) then ((g34 n r3.1).bind fun r4=>bif (eL r4.1 W.1) then ((g35 n r3.1).bind fun r5=>bif (eL r5.1 r2.1) then (bif (decide ((r3.1.length:Int)>(0:Int))) then (kr true) else (cM (W.1.size+r2.1.size)<|kr (eL (W.1++r2.1) (⟨#[]⟩:BA)))) else (kr false)) else (kr false)) else (kr false)))
def dS8:FS1 β:=FXs (eT1 n) n eQ5 none (some rH) [] [2,12,13,14,30,62,63]
theorem eH5 (Z J:BA):dS8 n (eN2 Z J) cx=eX9 n (fun v4=>cx.ret (fC2 v4)) Z J:=by kernel_rfl
def g7 (Z J:BA):Option (DenR [.dat .bool]):=eX9 n (fun v4=>some (v4,())) Z J
def g7_A:List AK:=[.dat .str,.dat .str]
def eV1:List RK:=[.dat .bool]
def eW1 (d:DenA g7_A):Option (DenR eV1):=g7 n d.1 d.2.1
def fE1:Spec:=aQ g7_A eV1 (eW1 n)
def fC1:Sk:=(.nd (.fin none none (some rH) [] .leaf) (.nd (.nd (.fin none none (some rH) [] .leaf) (.fin none none (some rH) [] .leaf)) (.nd (.fin none none (some rH) [] .leaf) (.nd (.fin none none (some rH) [] .leaf) (.nd (.fin none none (some rH) [] .leaf) (.fin none none (some rH) [] .leaf))))))
theorem eV8 (s:FState) (cx:Cx β):FX (eT1 n) n eQ5 fC1 s cx=dS8 n s cx:=by kernel_rfl
theorem eU9:Fit Tryd.prog 7 (fE1 n):=
  cJ (Γ:=Γ0) (l:=eZ1 n) (n:=n) (sk:=fC1) (ts:=[(4,none)]) (fn:=Tryd.f7) (c:=eQ5) (by kernel_rfl) (by kernel_rfl) (by unfold aS;kernel_rfl) cF ⟨eC7 n,eB1 n,eB5 n,eE3 n,trivial⟩ aO (by kernel_rfl) (by kernel_rfl) (Nat.le_of_ble_eq_true (by kernel_rfl)) (Nat.le_of_ble_eq_true (by kernel_rfl)) (by kernel_rfl) (by kernel_rfl)
    (fun d=>(eV8 n _ _).trans (Eq.trans (b:=dS8 n (eN2 d.1 d.2.1) (cS (eT1 n) eV1 [(4,none)])) (by kernel_rfl) ((eH5 n _ d.1 d.2.1).trans (by kernel_rfl))))
end
end
end Go.Proofs.YthkiaiilpaojnaaDoorZF
