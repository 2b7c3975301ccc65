import Derived.Test.YthkiaiilpaojnaaDoorZFT
import Derived.Test.YthkiaiilpaojnaaDoorZFE
namespace Go.Proofs.YthkiaiilpaojnaaDoorZF
noncomputable section
open Go Go.Proofs
set_option linter.unusedVariables false
set_option maxRecDepth 100000
variable {β:Type}
def dL9 (Z:BA):FState:=⟨aM [(0,.dat .str Z)],aE []⟩
def eS3 (L:List Int):FState:=⟨aM [(2,.sl 2 none false)],aE [(2,.row (.int .i32) 21 true L)]⟩
def HJ:List NE:=[.row 2 (.int .i32) 21 true]
def eO7 (n:Nat):List (Nat×Spec):=[]
section
variable (n:Nat) (cx:Cx β)
def dI5:Ctx:={Γ0 with calls:=lkS (eO7 n)}
def dJ4:Code:=fb Tryd.f15
def dO2 (n:Nat) (kr:List Int→Option β) (Z:BA):Option β:=kQ Z<|kr (bS Z)
def X1:FS1 β:=FXs (dI5 n) n dJ4 none (some HJ) [] [2,6,7]
theorem cW0 (Z:BA):X1 n (dL9 Z) cx=dO2 n (fun L=>cx.ret (eS3 L)) Z:=by kernel_rfl
def g15 (Z:BA):Option (DenR [.rw (.int .i32) 21]):=dO2 n (fun L=>some (L,())) Z
def eP6:List AK:=[.dat .str]
def dV6:List RK:=[.rw (.int .i32) 21]
def fA4 (d:DenA eP6):Option (DenR dV6):=g15 n d.1
def eL9:Spec:=aQ eP6 dV6 (fA4 n)
def eL2:Sk:=(.nd (.fin none none (some HJ) [] .leaf) (.nd (.fin none none (some HJ) [] .leaf) (.fin none none (some HJ) [] .leaf)))
theorem eC4 (s:FState) (cx:Cx β):FX (dI5 n) n dJ4 eL2 s cx=X1 n s cx:=by kernel_rfl
theorem eG1:Fit Tryd.prog 15 (eL9 n):=
  cJ (Γ:=Γ0) (l:=eO7 n) (n:=n) (sk:=eL2) (ts:=[(2,none)]) (fn:=Tryd.f15) (c:=dJ4) (by kernel_rfl) (by kernel_rfl) (by unfold aS;kernel_rfl) cF trivial aO (by kernel_rfl) (by kernel_rfl) (Nat.le_of_ble_eq_true (by kernel_rfl)) (Nat.le_of_ble_eq_true (by kernel_rfl)) (by kernel_rfl) (by kernel_rfl)
    (fun d=>(eC4 n _ _).trans (Eq.trans (b:=X1 n (dL9 d.1) (cS (dI5 n) dV6 [(2,none)])) (by kernel_rfl) ((cW0 n _ d.1).trans (by kernel_rfl))))
def dQ1 (Z:BA) (J:Int):FState:=⟨aM [(0,.dat .str Z),(1,.dat (.int .i64) J)],aE []⟩
def eU3 (v4:BA):FState:=⟨aM [(4,.dat .str v4)],aE []⟩
def yJ:List NE:=[.keep 4]
def eQ2:List (Nat×Spec):=[(15,eL9 n)]
def dM0:Ctx:={Γ0 with calls:=lkS (eQ2 n)}
def cO6:Code:=fb Tryd.f32
def cY9 (kr:BA→Option β) (Z:BA) (J:Int):Option β:=(g15 n Z).bind fun W=>bnd (0:Int) (MR (W.1.length:Int) J) (W.1.length:Int)<|kr (runesBytes (cut W.1 (0:Int) ((0:Int)+((MR (W.1.length:Int) J) - (0:Int)))))
def aF1:FS1 β:=FXs (dM0 n) n cO6 none (some yJ) [] [2,6,14,15]
theorem cP3 (Z:BA) (J:Int):aF1 n (dQ1 Z J) cx=cY9 n (fun v4=>cx.ret (eU3 v4)) Z J:=by kernel_rfl
def g32 (Z:BA) (J:Int):Option (DenR [.dat .str]):=cY9 n (fun v4=>some (v4,())) Z J
def eN8:List AK:=[.dat .str,.dat (.int .i64)]
def dU8:List RK:=[.dat .str]
def eZ3 (d:DenA eN8):Option (DenR dU8):=g32 n d.1 d.2.1
def eP5:Spec:=aQ eN8 dU8 (eZ3 n)
def eK4:Sk:=(.nd (.fin none none (some yJ) [] .leaf) (.nd (.fin none none (some yJ) [] .leaf) (.nd (.fin none none (some yJ) [] .leaf) (.fin none none (some yJ) [] .leaf))))
theorem eD3 (s:FState) (cx:Cx β):FX (dM0 n) n cO6 eK4 s cx=aF1 n s cx:=by kernel_rfl
theorem eC7:Fit Tryd.prog 32 (eP5 n):=
  cJ (Γ:=Γ0) (l:=eQ2 n) (n:=n) (sk:=eK4) (ts:=[(4,none)]) (fn:=Tryd.f32) (c:=cO6) (by kernel_rfl) (by kernel_rfl) (by unfold aS;kernel_rfl) cF ⟨eG1 n,trivial⟩ aO (by kernel_rfl) (by kernel_rfl) (Nat.le_of_ble_eq_true (by kernel_rfl)) (Nat.le_of_ble_eq_true (by kernel_rfl)) (by kernel_rfl) (by kernel_rfl)
    (fun d=>(eD3 n _ _).trans (Eq.trans (b:=aF1 n (dQ1 d.1 d.2.1) (cS (dM0 n) dU8 [(4,none)])) (by kernel_rfl) ((cP3 n _ d.1 d.2.1).trans (by kernel_rfl))))
def cP7 (Z J S v3:Int):FState:=⟨aM [(0,.dat (.int .i64) Z),(1,.dat (.int .i64) J),(2,.dat (.int .i64) S),(3,.dat (.int .i64) v3)],aE []⟩
def eR1 (G:Int):FState:=⟨aM [(8,.dat (.int .i64) G)],aE []⟩
def uH:List NE:=[.keep 8]
def eP8 (n:Nat):List (Nat×Spec):=[]
def dP2:Ctx:={Γ0 with calls:=lkS (eP8 n)}
def dV1:Code:=fb Tryd.f89
def cU4 (n:Nat) (kr:Int→Option β) (Z J S v3:Int):Option β:=bif (decide (Z < J)) then (kr v3) else (bif (decide (Z>S)) then (kr v3) else (kr Z))
def aF8:FS1 β:=FXs (dP2 n) n dV1 none (some uH) [] [2,12,13,14,15]
theorem cM0 (Z J S v3:Int):aF8 n (cP7 Z J S v3) cx=cU4 n (fun G=>cx.ret (eR1 G)) Z J S v3:=by kernel_rfl
def g89 (Z J S v3:Int):Option (DenR [.dat (.int .i64)]):=cU4 n (fun G=>some (G,())) Z J S v3
def eK5:List AK:=[.dat (.int .i64),.dat (.int .i64),.dat (.int .i64),.dat (.int .i64)]
def dE2:List RK:=[.dat (.int .i64)]
def eY7 (d:DenA eK5):Option (DenR dE2):=g89 n d.1 d.2.1 d.2.2.1 d.2.2.2.1
def eK9:Spec:=aQ eK5 dE2 (eY7 n)
def eQ3:Sk:=(.nd (.fin none none (some uH) [] .leaf) (.nd (.nd (.fin none none (some uH) [] .leaf) (.fin none none (some uH) [] .leaf)) (.nd (.fin none none (some uH) [] .leaf) (.fin none none (some uH) [] .leaf))))
theorem eB7 (s:FState) (cx:Cx β):FX (dP2 n) n dV1 eQ3 s cx=aF8 n s cx:=by kernel_rfl
theorem eD5:Fit Tryd.prog 89 (eK9 n):=
  cJ (Γ:=Γ0) (l:=eP8 n) (n:=n) (sk:=eQ3) (ts:=[(8,none)]) (fn:=Tryd.f89) (c:=dV1) (by kernel_rfl) (by kernel_rfl) (by unfold aS;kernel_rfl) cF trivial aO (by kernel_rfl) (by kernel_rfl) (Nat.le_of_ble_eq_true (by kernel_rfl)) (Nat.le_of_ble_eq_true (by kernel_rfl)) (by kernel_rfl) (by kernel_rfl)
    (fun d=>(eB7 n _ _).trans (Eq.trans (b:=aF8 n (cP7 d.1 d.2.1 d.2.2.1 d.2.2.2.1) (cS (dP2 n) dE2 [(8,none)])) (by kernel_rfl) ((cM0 n _ d.1 d.2.1 d.2.2.1 d.2.2.2.1).trans (by kernel_rfl))))
def dS4 (Z:Nat):FState:=⟨aM [(0,.dat (.flt .f64) Z)],aE []⟩
def eS9 (S:Nat):FState:=⟨aM [(2,.dat (.flt .f64) S)],aE []⟩
def tL:List NE:=[.keep 2]
def eN0 (n:Nat):List (Nat×Spec):=[]
def cU1:Ctx:={Γ0 with calls:=lkS (eN0 n)}
def dI8:Code:=fb Tryd.f90
def cT5 (n:Nat) (kr:Nat→Option β) (Z:Nat):Option β:=bif ((fGt .f64 Z (0:Nat))||(fEq .f64 Z (0:Nat))) then (bif ((fLt .f64 Z (4607182418800017408:Nat))||(fEq .f64 Z (4607182418800017408:Nat))) then (kr Z) else (kr (4602678819172646912:Nat))) else (kr (4602678819172646912:Nat))
def aN0:FS1 β:=FXs (cU1 n) n dI8 none (some tL) [] [2,12,13,14,15]
theorem cS2 (Z:Nat):aN0 n (dS4 Z) cx=cT5 n (fun S=>cx.ret (eS9 S)) Z:=by kernel_rfl
def g90 (n Z:Nat):Option (DenR [.dat (.flt .f64)]):=cT5 n (fun S=>some (S,())) Z
def eM5:List AK:=[.dat (.flt .f64)]
def cU7:List RK:=[.dat (.flt .f64)]
def eZ0 (d:DenA eM5):Option (DenR cU7):=g90 n d.1
def eO1:Spec:=aQ eM5 cU7 (eZ0 n)
def eP9:Sk:=(.nd (.fin none none (some tL) [] .leaf) (.nd (.nd (.fin none none (some tL) [] .leaf) (.fin none none (some tL) [] .leaf)) (.nd (.fin none none (some tL) [] .leaf) (.fin none none (some tL) [] .leaf))))
theorem eH3 (s:FState) (cx:Cx β):FX (cU1 n) n dI8 eP9 s cx=aN0 n s cx:=by kernel_rfl
theorem eJ5:Fit Tryd.prog 90 (eO1 n):=
  cJ (Γ:=Γ0) (l:=eN0 n) (n:=n) (sk:=eP9) (ts:=[(2,none)]) (fn:=Tryd.f90) (c:=dI8) (by kernel_rfl) (by kernel_rfl) (by unfold aS;kernel_rfl) cF trivial aO (by kernel_rfl) (by kernel_rfl) (Nat.le_of_ble_eq_true (by kernel_rfl)) (Nat.le_of_ble_eq_true (by kernel_rfl)) (by kernel_rfl) (by kernel_rfl)
    (fun d=>(eH3 n _ _).trans (Eq.trans (b:=aN0 n (dS4 d.1) (cS (cU1 n) cU7 [(2,none)])) (by kernel_rfl) ((cS2 n _ d.1).trans (by kernel_rfl))))
def cZ9 (Z:Z9):FState:=⟨aM [(0,.dat Z2 Z)],aE []⟩
def eU0 (p2:Z11):FState:=⟨aM [(2,.ptr 2 0 0)],aE [(2,.row Z1 106 true [p2])]⟩
def qD:List NE:=[.ptr 2 Z1 106 true]
def eK7:List (Nat×Spec):=[(89,eK9 n),(90,eO1 n)]
def dX9:Ctx:={Γ0 with calls:=lkS (eK7 n)}
def dW7:Code:=fb Tryd.f62
def dV4 (kr:Z11→Option β) (Z:Z9):Option β:=(g89 n Z.2.1 (0:Int) (1000:Int) (4:Int)).bind fun W=>(g89 n Z.2.2.1 (0:Int) (1048576:Int) (1000:Int)).bind fun r2=>(g90 n Z.2.2.2.1).bind fun r3=>(g90 n Z.2.2.2.2.1).bind fun r4=>(g89 n Z.2.2.2.2.2.1 (1:Int) (8:Int) (4:Int)).bind fun r5=>(g89 n Z.2.2.2.2.2.2 (32:Int) (62:Int) (32:Int)).bind fun r6=>bif Z.1 then (kr ((1:Int),(W.1,(r2.1,(r4.1,(r5.1,(r6.1,r3.1))))))) else (kr ((0:Int),(W.1,(r2.1,(r4.1,(r5.1,(r6.1,r3.1)))))))
def k9:FS1 β:=FXs (dX9 n) n dW7 none (some qD) [] [2,6,28,29,30,31]
theorem dM6 (Z:Z9):k9 n (cZ9 Z) cx=dV4 n (fun p2=>cx.ret (eU0 p2)) Z:=by kernel_rfl
def g62 (Z:Z9):Option (DenR [.ptr Z1 106]):=dV4 n (fun p2=>some (p2,())) Z
def eL3:List AK:=[.dat Z2]
def cZ0:List RK:=[.ptr Z1 106]
def fA8 (d:DenA eL3):Option (DenR cZ0):=g62 n d.1
def eM0:Spec:=aQ eL3 cZ0 (fA8 n)
def eP0:Sk:=(.nd (.fin none none (some qD) [] .leaf) (.nd (.fin none none (some qD) [] .leaf) (.nd (.nd (.fin none none (some qD) [] .leaf) (.fin none none (some qD) [] .leaf)) (.nd (.fin none none (some qD) [] .leaf) (.fin none none (some qD) [] .leaf)))))
theorem eI2 (s:FState) (cx:Cx β):FX (dX9 n) n dW7 eP0 s cx=k9 n s cx:=by kernel_rfl
theorem eG4:Fit Tryd.prog 62 (eM0 n):=
  cJ (Γ:=Γ0) (l:=eK7 n) (n:=n) (sk:=eP0) (ts:=[(2,none)]) (fn:=Tryd.f62) (c:=dW7) (by kernel_rfl) (by kernel_rfl) (by unfold aS;kernel_rfl) cF ⟨eD5 n,eJ5 n,trivial⟩ aO (by kernel_rfl) (by kernel_rfl) (Nat.le_of_ble_eq_true (by kernel_rfl)) (Nat.le_of_ble_eq_true (by kernel_rfl)) (by kernel_rfl) (by kernel_rfl)
    (fun d=>(eI2 n _ _).trans (Eq.trans (b:=k9 n (cZ9 d.1) (cS (dX9 n) cZ0 [(2,none)])) (by kernel_rfl) ((dM6 n _ d.1).trans (by kernel_rfl))))
def aL8 (Z J:BA):FState:=⟨aM [(0,.dat .str Z),(1,.dat .str J)],aE []⟩
def DC (v4:Int):FState:=⟨aM [(4,.dat (.int .i64) v4)],aE []⟩
def oG:List NE:=[.keep 4]
def DF (Z J:BA) (D:Int):FState:=⟨aM [(0,.dat .str Z),(1,.dat .str J),(5,.dat (.int .i64) D)],aE []⟩
def FK:List NE:=[.keep 0,.keep 1,.keep 5]
def IN:FState:=⟨aM [],aE []⟩
def zO:List NE:=[]
def eN3 (n:Nat):List (Nat×Spec):=[]
def YZ:Ctx:={Γ0 with calls:=lkS (eN3 n)}
def YW:Code:=fb Tryd.f95
def bI0 (n:Nat) (kn:BA→BA→Int→Option β) (Z J:BA):Option β:=kn Z J (0:Int)
def dV2:FS1 β:=FXs (YZ n) n YW (some FK) none [] [2,12]
theorem eA6 (Z J:BA):dV2 n (aL8 Z J) cx=bI0 n (fun Z J D=>cx.nrm (DF Z J D)) Z J:=by kernel_rfl
def OY (n:Nat) (kn:BA→BA→Int→Option β) (kr:Int→Option β) (ae:Option β) (Z J:BA) (D:Int):Option β:=bif (decide ((w64 (D+(J.size:Int)))≤(Z.size:Int))) then (bnd D (w64 (D+(J.size:Int))) (Z.size:Int)<|bif (eL (bD Z D (w64 (D+(J.size:Int)))) J) then (kr D) else (kn Z J (w64 (D+1)))) else ae
def n8:FS1 β:=FXs (YZ n) n YW (some FK) (some oG) [(0,zO)] [208,209,210,211]
theorem cM7 (Z J:BA) (D:Int):n8 n (DF Z J D) cx=OY n (fun Z J D=>cx.nrm (DF Z J D)) (fun v4=>cx.ret (DC v4)) (cx.ex 0 IN) Z J D:=by kernel_rfl
def g95_3L (n:Nat) (kr:Int→Option β) (ae:Option β):Nat→BA→BA→Int→Option β
  | 0,_,_,_=>none
  | m+1,Z,J,D=>OY n (g95_3L n kr ae m) kr ae Z J D
def aU7 (kr:Int→Option β) (ae:Option β) (Z J:BA) (D:Int):Option β:=g95_3L n kr ae n Z J D
def cL9 (s:FState) (cx:Cx β):Option β:=bO (fun again s=>n8 n s {cx with nrm:=again}) n s
theorem cJ7 (n:Nat) (cx:Cx β):∀(m:Nat) (Z J:BA) (D:Int),bO (fun again s=>n8 n s {cx with nrm:=again}) m (DF Z J D)=g95_3L n (fun v4=>cx.ret (DC v4)) (cx.ex 0 IN) m Z J D:=by
  intro m
  induction m with
  | zero=>intros;rfl
  | succ m ih=>intros;simp only [bO,g95_3L,cM7,ih]
theorem cQ8 (Z J:BA) (D:Int):cL9 n (DF Z J D) cx=aU7 n (fun v4=>cx.ret (DC v4)) (cx.ex 0 IN) Z J D:=cJ7 n cx n Z J D
def bL6 (kn:Option β) (kr:Int→Option β) (Z J:BA) (D:Int):Option β:=aU7 n kr kn Z J D
def dH2 (s:FState) (cx:Cx β):Option β:=cL9 n s {cx with ex:=fun j s=>bif Nat.beq j 0 then cx.nrm s else cx.ex j s}
theorem dL0 (Z J:BA) (D:Int):dH2 n (DF Z J D) cx=bL6 n (cx.nrm IN) (fun v4=>cx.ret (DC v4)) Z J D:=cQ8 n _ Z J D
def bD4 (n:Nat) (kr:Int→Option β):Option β:=kr (-1:Int)
def dR4:FS1 β:=FXs (YZ n) n YW none (some oG) [] [14,15]
theorem dF8:dR4 n IN cx=bD4 n (fun v4=>cx.ret (DC v4)):=by kernel_rfl
def D1 (kr:Int→Option β) (Z J:BA):Option β:=bI0 n (fun Z J D=>bL6 n (bD4 n kr) kr Z J D) Z J
def RP (s:FState) (cx:Cx β):Option β:=dV2 n s {cx with nrm:=fun s=>dH2 n s {cx with nrm:=fun s=>dR4 n s cx}}
theorem dQ2 (Z J:BA):RP n (aL8 Z J) cx=D1 n (fun v4=>cx.ret (DC v4)) Z J:=by simp only [RP,D1,eA6,dL0,dF8]
def g95 (Z J:BA):Option (DenR [.dat (.int .i64)]):=D1 n (fun v4=>some (v4,())) Z J
def eL8:List AK:=[.dat .str,.dat .str]
def cW5:List RK:=[.dat (.int .i64)]
def fB2 (d:DenA eL8):Option (DenR cW5):=g95 n d.1 d.2.1
def cK6:Spec:=aQ eL8 cW5 (fB2 n)
def eQ0:Sk:=(.nd (.fin none none none [] .leaf) (.nd (.nd (.fin none (some FK) none [] .leaf) (.nd (.nd (.nd (.nd (.fin none none (some oG) [(0,zO)] .leaf) (.fin none none (some oG) [(0,zO)] .leaf)) (.nd (.fin none none (some oG) [(0,zO)] .leaf) (.fin none (some FK) (some oG) [(0,zO)] .leaf))) .leaf) .leaf)) (.nd (.fin none none (some oG) [] .leaf) (.fin none none (some oG) [] .leaf))))
theorem eF3 (s:FState) (cx:Cx β):FX (YZ n) n YW eQ0 s cx=RP n s cx:=by kernel_rfl
theorem bN2:Fit Tryd.prog 95 (cK6 n):=
  cJ (Γ:=Γ0) (l:=eN3 n) (n:=n) (sk:=eQ0) (ts:=[(4,none)]) (fn:=Tryd.f95) (c:=YW) (by kernel_rfl) (by kernel_rfl) (by unfold aS;kernel_rfl) cF trivial aO (by kernel_rfl) (by kernel_rfl) (Nat.le_of_ble_eq_true (by kernel_rfl)) (Nat.le_of_ble_eq_true (by kernel_rfl)) (by kernel_rfl) (by kernel_rfl)
    (fun d=>(eF3 n _ _).trans (Eq.trans (b:=RP n (aL8 d.1 d.2.1) (cS (YZ n) cW5 [(4,none)])) (by kernel_rfl) ((dQ2 n _ d.1 d.2.1).trans (by kernel_rfl))))
def bA5 (Z J:BA) (S:Int):FState:=⟨aM [(0,.dat .str Z),(1,.dat .str J),(2,.dat (.int .i64) S)],aE []⟩
def eF1 (T:Int):FState:=⟨aM [(6,.dat (.int .i64) T)],aE []⟩
def iP:List NE:=[.keep 6]
def dC4:List (Nat×Spec):=[(95,cK6 n)]
def aL6:Ctx:={Γ0 with calls:=lkS (dC4 n)}
def aT6:Code:=fb Tryd.f174
def i9 (kr:Int→Option β) (Z J:BA) (S:Int):Option β:=bif (decide (S>(w64 ((Z.size:Int) - 1)))) then (kr (-1:Int)) else (bif (decide (S≤(0:Int))) then ((g95 n Z J).bind fun W=>kr W.1) else (bnd S (Z.size:Int) (Z.size:Int)<|(g95 n (bD Z S (Z.size:Int)) J).bind fun r2=>bif (r2.1==(-1:Int)) then (kr (-1:Int)) else (kr (w64 (r2.1+S)))))
def RY:FS1 β:=FXs (aL6 n) n aT6 none (some iP) [] [2,12,13,28,29,30,124,125,126,127]
theorem cA4 (Z J:BA) (S:Int):RY n (bA5 Z J S) cx=i9 n (fun T=>cx.ret (eF1 T)) Z J S:=by kernel_rfl
def eJ6 (Z J:BA) (S:Int):Option (DenR [.dat (.int .i64)]):=i9 n (fun T=>some (T,())) Z J S
def cK1:List AK:=[.dat .str,.dat .str,.dat (.int .i64)]
def aI1:List RK:=[.dat (.int .i64)]
def eR2 (d:DenA cK1):Option (DenR aI1):=eJ6 n d.1 d.2.1 d.2.2.1
def cN6:Spec:=aQ cK1 aI1 (eR2 n)
def dU4:Sk:=(.nd (.fin none none (some iP) [] .leaf) (.nd (.nd (.fin none none (some iP) [] .leaf) (.fin none none (some iP) [] .leaf)) (.nd (.nd (.fin none none (some iP) [] .leaf) (.fin none none (some iP) [] .leaf)) (.nd (.fin none none (some iP) [] .leaf) (.nd (.nd (.fin none none (some iP) [] .leaf) (.fin none none (some iP) [] .leaf)) (.nd (.fin none none (some iP) [] .leaf) (.fin none none (some iP) [] .leaf)))))))
theorem cZ6 (s:FState) (cx:Cx β):FX (aL6 n) n aT6 dU4 s cx=RY n s cx:=by kernel_rfl
theorem cK0:Fit Tryd.prog 174 (cN6 n):=
  cJ (Γ:=Γ0) (l:=dC4 n) (n:=n) (sk:=dU4) (ts:=[(6,none)]) (fn:=Tryd.f174) (c:=aT6) (by kernel_rfl) (by kernel_rfl) (by unfold aS;kernel_rfl) cF ⟨bN2 n,trivial⟩ aO (by kernel_rfl) (by kernel_rfl) (Nat.le_of_ble_eq_true (by kernel_rfl)) (Nat.le_of_ble_eq_true (by kernel_rfl)) (by kernel_rfl) (by kernel_rfl)
    (fun d=>(cZ6 n _ _).trans (Eq.trans (b:=RY n (bA5 d.1 d.2.1 d.2.2.1) (cS (aL6 n) aI1 [(6,none)])) (by kernel_rfl) ((cA4 n _ d.1 d.2.1 d.2.2.1).trans (by kernel_rfl))))
def AI (C:Z11) (J:BA) (aj:List BA) (m3:List Z25):FState:=⟨aM [(0,.ptr 0 0 0),(1,.dat .str J),(2,.cp 2 0),(1000002,.sl 1000002 none false),(3,.mp 3)],aE [(0,.row Z1 106 false [C]),(2,.cell (.sl 9 .str) 33),(1000002,.row .str 9 true aj),(3,.mapo .str (.int .i64) m3)]⟩
def YI:List NE:=[.ptr 0 Z1 106 false,.keep 1,.cell 2 (.sl 9 .str) 33,.row 1000002 .str 9 true,.mp 3 .str (.int .i64)]
def bJ5 (aj:List BA) (m3:List Z25) (X:List Int):FState:=⟨aM [(2,.cp 2 0),(1000002,.sl 1000002 none false),(3,.mp 3),(8,.sl 8 none false)],aE [(2,.cell (.sl 9 .str) 33),(1000002,.row .str 9 true aj),(3,.mapo .str (.int .i64) m3),(8,.row (.int .u32) 222 true X)]⟩
def MN:List NE:=[.cell 2 (.sl 9 .str) 33,.row 1000002 .str 9 true,.mp 3 .str (.int .i64),.row 8 (.int .u32) 222 true]
def tD (J:BA) (aj:List BA) (m3:List Z25) (F I:Int) (ag:List Int):FState:=⟨aM [(1,.dat .str J),(2,.cp 2 0),(1000002,.sl 1000002 none false),(3,.mp 3),(9,.dat (.int .i64) F),(10,.dat (.int .i64) I),(11,.sl 11 none false)],aE [(2,.cell (.sl 9 .str) 33),(1000002,.row .str 9 true aj),(3,.mapo .str (.int .i64) m3),(11,.row (.int .u32) 222 true ag)]⟩
def AO:List NE:=[.keep 1,.cell 2 (.sl 9 .str) 33,.row 1000002 .str 9 true,.mp 3 .str (.int .i64),.keep 9,.keep 10,.row 11 (.int .u32) 222 true]
def BO (aj:List BA) (m3:List Z25) (ag:List Int):FState:=⟨aM [(2,.cp 2 0),(1000002,.sl 1000002 none false),(3,.mp 3),(11,.sl 11 none false)],aE [(2,.cell (.sl 9 .str) 33),(1000002,.row .str 9 true aj),(3,.mapo .str (.int .i64) m3),(11,.row (.int .u32) 222 true ag)]⟩
def zC:List NE:=[.cell 2 (.sl 9 .str) 33,.row 1000002 .str 9 true,.mp 3 .str (.int .i64),.row 11 (.int .u32) 222 true]
def dD4:List (Nat×Spec):=[(174,cN6 n)]
def CZ:Ctx:={Γ0 with calls:=lkS (dD4 n)}
def HU:Code:=fb Tryd.f154
def n5 (n:Nat) (kn:BA→List BA→List Z25→Int→Int→List Int→Option β) (C:Z11) (J:BA) (aj:List BA) (m3:List Z25):Option β:=kn J aj m3 (0:Int) (-1:Int) ([]:List Int)
def bN7:FS1 β:=FXs (CZ n) n HU (some AO) none [] [2,6,14,30]
theorem cE9 (C:Z11) (J:BA) (aj:List BA) (m3:List Z25):bN7 n (AI C J aj m3) cx=n5 n (fun J aj m3 F I ag=>cx.nrm (tD J aj m3 F I ag)) C J aj m3:=by kernel_rfl
def aS8 (kn:BA→List BA→List Z25→Int→Int→List Int→Option β) (ae:List BA→List Z25→List Int→Option β) (J:BA) (aj:List BA) (m3:List Z25) (F I:Int) (ag:List Int):Option β:=bif (decide (I < (w64 ((J.size:Int) - 1)))) then ((eJ6 n J (⟨#[10]⟩:BA) F).bind fun W=>bif (W.1==(-1:Int)) then (bnd F (w64 ((w64 ((J.size:Int) - 1))+(1:Int))) (J.size:Int)<|bif (gI (a:= .str) (b:=(.int .i64)) (bD J F (w64 ((w64 ((J.size:Int) - 1))+(1:Int)))) m3).isSome then (cM (ag.length+[(IntKind.u32.wrap (((gI (a:= .str) (b:=(.int .i64)) (bD J F (w64 ((w64 ((J.size:Int) - 1))+(1:Int)))) m3).getD (0:Int))))].length)<|kn J aj m3 (w64 ((w64 ((J.size:Int) - 1))+(1:Int))) (w64 ((J.size:Int) - 1)) (ag++[(IntKind.u32.wrap (((gI (a:= .str) (b:=(.int .i64)) (bD J F (w64 ((w64 ((J.size:Int) - 1))+(1:Int)))) m3).getD (0:Int))))])) else (cM (aj.length+[(bD J F (w64 ((w64 ((J.size:Int) - 1))+(1:Int))))].length)<|cM (ag.length+[(IntKind.u32.wrap ((w64 (((aj++[(bD J F (w64 ((w64 ((J.size:Int) - 1))+(1:Int))))]).length:Int) - (1:Int)))))].length)<|kn J (aj++[(bD J F (w64 ((w64 ((J.size:Int) - 1))+(1:Int))))]) (qO (a:= .str) (b:=(.int .i64)) (bD J F (w64 ((w64 ((J.size:Int) - 1))+(1:Int)))) (w64 (((aj++[(bD J F (w64 ((w64 ((J.size:Int) - 1))+(1:Int))))]).length:Int) - (1:Int))) m3) (w64 ((w64 ((J.size:Int) - 1))+(1:Int))) (w64 ((J.size:Int) - 1)) (ag++[(IntKind.u32.wrap ((w64 (((aj++[(bD J F (w64 ((w64 ((J.size:Int) - 1))+(1:Int))))]).length:Int) - (1:Int)))))]))) else (bnd F (w64 (W.1+1)) (J.size:Int)<|bif (gI (a:= .str) (b:=(.int .i64)) (bD J F (w64 (W.1+1))) m3).isSome then (cM (ag.length+[(IntKind.u32.wrap (((gI (a:= .str) (b:=(.int .i64)) (bD J F (w64 (W.1+1))) m3).getD (0:Int))))].length)<|kn J aj m3 (w64 (W.1+1)) W.1 (ag++[(IntKind.u32.wrap (((gI (a:= .str) (b:=(.int .i64)) (bD J F (w64 (W.1+1))) m3).getD (0:Int))))])) else (cM (aj.length+[(bD J F (w64 (W.1+1)))].length)<|cM (ag.length+[(IntKind.u32.wrap ((w64 (((aj++[(bD J F (w64 (W.1+1)))]).length:Int) - (1:Int)))))].length)<|kn J (aj++[(bD J F (w64 (W.1+1)))]) (qO (a:= .str) (b:=(.int .i64)) (bD J F (w64 (W.1+1))) (w64 (((aj++[(bD J F (w64 (W.1+1)))]).length:Int) - (1:Int))) m3) (w64 (W.1+1)) W.1 (ag++[(IntKind.u32.wrap ((w64 (((aj++[(bD J F (w64 (W.1+1)))]).length:Int) - (1:Int)))))])))) else (ae aj m3 ag)
def VE:FS1 β:=FXs (CZ n) n HU (some AO) none [(0,zC)] [992,993,497]
theorem bQ0 (J:BA) (aj:List BA) (m3:List Z25) (F I:Int) (ag:List Int):VE n (tD J aj m3 F I ag) cx=aS8 n (fun J aj m3 F I ag=>cx.nrm (tD J aj m3 F I ag)) (fun aj m3 ag=>cx.ex 0 (BO aj m3 ag)) J aj m3 F I ag:=by kernel_rfl
def g154_3L (n:Nat) (ae:List BA→List Z25→List Int→Option β):Nat→BA→List BA→List Z25→Int→Int→List Int→Option β
  | 0,_,_,_,_,_,_=>none
  | m+1,J,aj,m3,F,I,ag=>aS8 n (g154_3L n ae m) ae J aj m3 F I ag
def aM9 (ae:List BA→List Z25→List Int→Option β) (J:BA) (aj:List BA) (m3:List Z25) (F I:Int) (ag:List Int):Option β:=g154_3L n ae n J aj m3 F I ag
def bB2 (s:FState) (cx:Cx β):Option β:=bO (fun again s=>VE n s {cx with nrm:=again}) n s
theorem aN7 (n:Nat) (cx:Cx β):∀(m:Nat) (J:BA) (aj:List BA) (m3:List Z25) (F I:Int) (ag:List Int),bO (fun again s=>VE n s {cx with nrm:=again}) m (tD J aj m3 F I ag)=g154_3L n (fun aj m3 ag=>cx.ex 0 (BO aj m3 ag)) m J aj m3 F I ag:=by
  intro m
  induction m with
  | zero=>intros;rfl
  | succ m ih=>intros;simp only [bO,g154_3L,bQ0,ih]
theorem bS5 (J:BA) (aj:List BA) (m3:List Z25) (F I:Int) (ag:List Int):bB2 n (tD J aj m3 F I ag) cx=aM9 n (fun aj m3 ag=>cx.ex 0 (BO aj m3 ag)) J aj m3 F I ag:=aN7 n cx n J aj m3 F I ag
def U0 (kn:List BA→List Z25→List Int→Option β) (J:BA) (aj:List BA) (m3:List Z25) (F I:Int) (ag:List Int):Option β:=aM9 n kn J aj m3 F I ag
def aW8 (s:FState) (cx:Cx β):Option β:=bB2 n s {cx with ex:=fun j s=>bif Nat.beq j 0 then cx.nrm s else cx.ex j s}
theorem bR7 (J:BA) (aj:List BA) (m3:List Z25) (F I:Int) (ag:List Int):aW8 n (tD J aj m3 F I ag) cx=U0 n (fun aj m3 ag=>cx.nrm (BO aj m3 ag)) J aj m3 F I ag:=bS5 n _ J aj m3 F I ag
def aN2 (n:Nat) (kr:List BA→List Z25→List Int→Option β) (aj:List BA) (m3:List Z25) (ag:List Int):Option β:=kr aj m3 ag
def bA3:FS1 β:=FXs (CZ n) n HU none (some MN) [] [126,127]
theorem cF7 (aj:List BA) (m3:List Z25) (ag:List Int):bA3 n (BO aj m3 ag) cx=aN2 n (fun aj m3 X=>cx.ret (bJ5 aj m3 X)) aj m3 ag:=by kernel_rfl
def UF (kr:List BA→List Z25→List Int→Option β) (C:Z11) (J:BA) (aj:List BA) (m3:List Z25):Option β:=n5 n (fun J aj m3 F I ag=>U0 n (fun aj m3 ag=>aN2 n kr aj m3 ag) J aj m3 F I ag) C J aj m3
def FA (s:FState) (cx:Cx β):Option β:=bN7 n s {cx with nrm:=fun s=>aW8 n s {cx with nrm:=fun s=>bA3 n s cx}}
theorem bW2 (C:Z11) (J:BA) (aj:List BA) (m3:List Z25):FA n (AI C J aj m3) cx=UF n (fun aj m3 X=>cx.ret (bJ5 aj m3 X)) C J aj m3:=by simp only [FA,UF,cE9,bR7,cF7]
def cN7 (C:Z11) (J:BA) (aj:List BA) (m3:List Z25):Option (DenR [.rw (.int .u32) 222]×DenR (bM [.pro Z1 106,.dat .str,.cel (.sl 9 .str) 33,.mp .str (.int .i64)])):=UF n (fun aj m3 X=>some ((X,()),(aj,(m3,())))) C J aj m3
def oJ:List AK:=[.pro Z1 106,.dat .str,.cel (.sl 9 .str) 33,.mp .str (.int .i64)]
def aB8:List RK:=[.rw (.int .u32) 222]
def eY3 (d:DenA oJ):Option (DenR aB8×DenR (bM oJ)):=cN7 n d.1 d.2.1 d.2.2.1 d.2.2.2.1
def dJ0:Spec:=nW oJ aB8 (eY3 n)
def dX7:Sk:=(.nd (.fin none none none [] .leaf) (.nd (.fin none none none [] .leaf) (.nd (.fin none none none [] .leaf) (.nd (.fin none (some AO) none [] .leaf) (.nd (.nd (.nd (.nd (.nd (.fin none none none [(0,zC)] .leaf) (.fin none none none [(0,zC)] .leaf)) (.fin none (some AO) none [(0,zC)] .leaf)) .leaf) .leaf) (.nd (.fin none none (some MN) [] .leaf) (.fin none none (some MN) [] .leaf)))))))
theorem cK2 (s:FState) (cx:Cx β):FX (CZ n) n HU dX7 s cx=FA n s cx:=by kernel_rfl
theorem dB2 (d:DenA oJ) (β:Type) (κ:FState→Option β):dM 0 0 (bM oJ) (gH oJ 0) (toB oJ d) (mH oJ d) (fun s=>vD (CZ n) YI (rC oJ 0 s) κ)=κ (AI d.1 d.2.1 d.2.2.1 d.2.2.2.1):=by kernel_rfl
theorem eA9:Fit Tryd.prog 154 (dJ0 n):=
  PO (Γ:=Γ0) (l:=dD4 n) (n:=n) (sk:=dX7) (nf:=YI) (m:=fun d=>AI d.1 d.2.1 d.2.2.1 d.2.2.2.1) (ts:=[(8,none)]) (fn:=Tryd.f154) (c:=HU) (by kernel_rfl) (by kernel_rfl) (by unfold aS;kernel_rfl) cF ⟨cK0 n,trivial⟩ aO (by kernel_rfl) (by kernel_rfl) (Nat.le_of_ble_eq_true (by kernel_rfl)) (Nat.le_of_ble_eq_true (by kernel_rfl)) (by kernel_rfl) (by kernel_rfl) (dB2 n)
    (fun d=>(cK2 n _ _).trans (Eq.trans (b:=FA n (AI d.1 d.2.1 d.2.2.1 d.2.2.2.1) (sR (CZ n) oJ aB8 [(8,none)])) (by kernel_rfl) ((bW2 n _ d.1 d.2.1 d.2.2.1 d.2.2.2.1).trans (by kernel_rfl))))
def bB6 (Z J S:Int):FState:=⟨aM [(0,.dat (.int .u32) Z),(1,.dat (.int .u8) J),(2,.dat (.int .u8) S)],aE []⟩
def eD8 (T:Int):FState:=⟨aM [(6,.dat (.int .u8) T)],aE []⟩
def AL:List NE:=[.keep 6]
def dP7 (n:Nat):List (Nat×Spec):=[]
def aQ1:Ctx:={Γ0 with calls:=lkS (dP7 n)}
def aO2:Code:=fb Tryd.f195
def c9 (n:Nat) (kr:Int→Option β) (Z J S:Int):Option β:=eJ0 S<|eJ0 J<|kr (IntKind.u8.wrap ((eB .u32 (fA .u32 Z S) (IntKind.u32.wrap ((qI .u32 (1:Int) J) - (1:Int))))))
def WG:FS1 β:=FXs (aQ1 n) n aO2 none (some AL) [] [2,6,7]
theorem bS3 (Z J S:Int):WG n (bB6 Z J S) cx=c9 n (fun T=>cx.ret (eD8 T)) Z J S:=by kernel_rfl
def wJ (Z J S:Int):Option (DenR [.dat (.int .u8)]):=c9 n (fun T=>some (T,())) Z J S
def dC5:List AK:=[.dat (.int .u32),.dat (.int .u8),.dat (.int .u8)]
def l9:List RK:=[.dat (.int .u8)]
def eV0 (d:DenA dC5):Option (DenR l9):=wJ n d.1 d.2.1 d.2.2.1
def dZ3:Spec:=aQ dC5 l9 (eV0 n)
def cR5:Sk:=(.nd (.fin none none (some AL) [] .leaf) (.nd (.fin none none (some AL) [] .leaf) (.fin none none (some AL) [] .leaf)))
theorem cW2 (s:FState) (cx:Cx β):FX (aQ1 n) n aO2 cR5 s cx=WG n s cx:=by kernel_rfl
theorem cY4:Fit Tryd.prog 195 (dZ3 n):=
  cJ (Γ:=Γ0) (l:=dP7 n) (n:=n) (sk:=cR5) (ts:=[(6,none)]) (fn:=Tryd.f195) (c:=aO2) (by kernel_rfl) (by kernel_rfl) (by unfold aS;kernel_rfl) cF trivial aO (by kernel_rfl) (by kernel_rfl) (Nat.le_of_ble_eq_true (by kernel_rfl)) (Nat.le_of_ble_eq_true (by kernel_rfl)) (by kernel_rfl) (by kernel_rfl)
    (fun d=>(cW2 n _ _).trans (Eq.trans (b:=WG n (bB6 d.1 d.2.1 d.2.2.1) (cS (aQ1 n) l9 [(6,none)])) (by kernel_rfl) ((bS3 n _ d.1 d.2.1 d.2.2.1).trans (by kernel_rfl))))
def cL8:List AK:=[.ro (.int .u8) 5]
def cX5:List RK:=[.dat (.int .i32),.dat (.int .i64)]
def EJ (n:Nat) (Z:List Int):Option (DenR [.dat (.int .i32),.dat (.int .i64)]):=if Z≠[]∧∀x∈Z,0≤x∧x < 256 then some (((Lib.decodeGo (strOfNums Z)).1:Int),(((Lib.decodeGo (strOfNums Z)).2:Int),())) else none
def eW6 (d:DenA cL8):Option (DenR cX5):=EJ n d.1
def cS8:Spec:=aQ cL8 cX5 (eW6 n)
theorem dN6:Fit Tryd.prog 194 (cS8 n):=L5 (by unfold aS;kernel_rfl) rfl fun d x w A vs hG ha hx=>by
  obtain ⟨v,vs',o1,o2,rfl,_,⟨_,ad,cap,rfl,hle,hne⟩,h3,_⟩:=ha
  obtain ⟨xs,u⟩:=d
  subst h3
  obtain ⟨hc,hx⟩:=bN hx
  cases hx
  obtain ⟨b,off,rfl,hb,hrow⟩:=hne hc.1
  have key:=Tryd.utf8_DecodeRune (strOfNums xs) b off cap w (UN hG) (S6 hc.2 hrow)
  rw [gR] at key
  exact key.mono fun e w' ⟨he,hb⟩=>⟨[.int .i32 (Lib.decodeGo (strOfNums xs)).1,.int .i64 (Lib.decodeGo (strOfNums xs)).2],he,⟨_,_,[],[],rfl,rfl,⟨rfl,_,rfl,rfl⟩,⟨_,_,[],[],rfl,rfl,⟨rfl,_,rfl,rfl⟩,rfl,rfl⟩⟩,hb⟩
def aW3 (Z:Int):FState:=⟨aM [(0,.dat (.int .u32) Z)],aE []⟩
def eE2 (S:Int):FState:=⟨aM [(2,.dat (.int .i32) S)],aE []⟩
def iO:List NE:=[.keep 2]
def dC6:List (Nat×Spec):=[(194,cS8 n),(195,dZ3 n)]
def p5:Ctx:={Γ0 with calls:=lkS (dC6 n)}
def aL7:Code:=fb Tryd.f175
def T3 (kr:Int→Option β) (Z:Int):Option β:=bif (decide (Z < (128:Int))) then (kr (IntKind.i32.wrap (Z))) else (bif (decide (Z < (2048:Int))) then ((wJ n Z (5:Int) (6:Int)).bind fun W=>(wJ n Z (6:Int) (0:Int)).bind fun r2=>(EJ n [(orI .u8 (192:Int) W.1),(orI .u8 (128:Int) r2.1)]).bind fun r3=>bif (r3.2.1 !=(2:Int)) then none else (bif (r3.1==(65533:Int)) then none else (kr r3.1))) else (bif (decide (Z < (63485:Int))) then (bif (decide (Z≥(55296:Int))) then ((wJ n (IntKind.u32.wrap (Z+(2048:Int))) (4:Int) (12:Int)).bind fun r4=>(wJ n (IntKind.u32.wrap (Z+(2048:Int))) (6:Int) (6:Int)).bind fun r5=>(wJ n (IntKind.u32.wrap (Z+(2048:Int))) (6:Int) (0:Int)).bind fun r6=>(EJ n [(orI .u8 (224:Int) r4.1),(orI .u8 (128:Int) r5.1),(orI .u8 (128:Int) r6.1)]).bind fun r7=>bif (r7.2.1 !=(3:Int)) then none else (bif (r7.1==(65533:Int)) then none else (kr r7.1))) else ((wJ n Z (4:Int) (12:Int)).bind fun r8=>(wJ n Z (6:Int) (6:Int)).bind fun r9=>(wJ n Z (6:Int) (0:Int)).bind fun bq=>(EJ n [(orI .u8 (224:Int) r8.1),(orI .u8 (128:Int) r9.1),(orI .u8 (128:Int) bq.1)]).bind fun aw=>bif (aw.2.1 !=(3:Int)) then none else (bif (aw.1==(65533:Int)) then none else (kr aw.1)))) else (bif (decide (Z < (2095101:Int))) then ((wJ n (IntKind.u32.wrap (Z+(2051:Int))) (3:Int) (18:Int)).bind fun bt=>(wJ n (IntKind.u32.wrap (Z+(2051:Int))) (6:Int) (12:Int)).bind fun bs=>(wJ n (IntKind.u32.wrap (Z+(2051:Int))) (6:Int) (6:Int)).bind fun ay=>(wJ n (IntKind.u32.wrap (Z+(2051:Int))) (6:Int) (0:Int)).bind fun bv=>(EJ n [(orI .u8 (240:Int) bt.1),(orI .u8 (128:Int) bs.1),(orI .u8 (128:Int) ay.1),(orI .u8 (128:Int) bv.1)]).bind fun bu=>bif (bu.2.1 !=(4:Int)) then none else (bif (bu.1==(65533:Int)) then none else (kr bu.1))) else none)))
def SQ:FS1 β:=FXs (p5 n) n aL7 none (some iO) [] [2,12,13,28,29,60,61,124,125,63]
theorem cC0 (Z:Int):SQ n (aW3 Z) cx=T3 n (fun S=>cx.ret (eE2 S)) Z:=by kernel_rfl
def eC0 (Z:Int):Option (DenR [.dat (.int .i32)]):=T3 n (fun S=>some (S,())) Z
def cO8:List AK:=[.dat (.int .u32)]
def V6:List RK:=[.dat (.int .i32)]
def eS7 (d:DenA cO8):Option (DenR V6):=eC0 n d.1
def dZ6:Spec:=aQ cO8 V6 (eS7 n)
def eA8:Sk:=(.nd (.fin none none (some iO) [] .leaf) (.nd (.nd (.fin none none (some iO) [] .leaf) (.fin none none (some iO) [] .leaf)) (.nd (.nd (.fin none none (some iO) [] .leaf) (.fin none none (some iO) [] .leaf)) (.nd (.nd (.fin none none (some iO) [] .leaf) (.fin none none (some iO) [] .leaf)) (.nd (.nd (.fin none none (some iO) [] .leaf) (.fin none none (some iO) [] .leaf)) (.fin none none (some iO) [] .leaf))))))
theorem dA8 (s:FState) (cx:Cx β):FX (p5 n) n aL7 eA8 s cx=SQ n s cx:=by kernel_rfl
theorem dR3:Fit Tryd.prog 175 (dZ6 n):=
  cJ (Γ:=Γ0) (l:=dC6 n) (n:=n) (sk:=eA8) (ts:=[(2,none)]) (fn:=Tryd.f175) (c:=aL7) (by kernel_rfl) (by kernel_rfl) (by unfold aS;kernel_rfl) cF ⟨dN6 n,cY4 n,trivial⟩ aO (by kernel_rfl) (by kernel_rfl) (Nat.le_of_ble_eq_true (by kernel_rfl)) (Nat.le_of_ble_eq_true (by kernel_rfl)) (by kernel_rfl) (by kernel_rfl)
    (fun d=>(dA8 n _ _).trans (Eq.trans (b:=SQ n (aW3 d.1) (cS (p5 n) V6 [(2,none)])) (by kernel_rfl) ((cC0 n _ d.1).trans (by kernel_rfl))))
def WC (M:List Int):FState:=⟨aM [(0,.sl 0 none false)],aE [(0,.row (.int .u32) 222 false M)]⟩
def RI (S:BA):FState:=⟨aM [(2,.dat .str S)],aE []⟩
def kH:List NE:=[.keep 2]
def tE (z V:List Int) (H N:Int):FState:=⟨aM [(3,.sl 3 none false),(10,.sl 10 none false),(11,.dat (.int .i64) H),(12,.dat (.int .i64) N)],aE [(3,.row (.int .i32) 21 true z),(10,.row (.int .u32) 222 false V)]⟩
def AB:List NE:=[.row 3 (.int .i32) 21 true,.row 10 (.int .u32) 222 false,.keep 11,.keep 12]
def AA (z:List Int):FState:=⟨aM [(3,.sl 3 none false)],aE [(3,.row (.int .i32) 21 true z)]⟩
def sG:List NE:=[.row 3 (.int .i32) 21 true]
def dT9:List (Nat×Spec):=[(175,dZ6 n)]
def LJ:Ctx:={Γ0 with calls:=lkS (dT9 n)}
def HQ:Code:=fb Tryd.f155
def aB1 (n:Nat) (kn:List Int→List Int→Int→Int→Option β) (kr:BA→Option β) (M:List Int):Option β:=bif ((M.length:Int)==(0:Int)) then (kr (⟨#[]⟩:BA)) else (kn ([]:List Int) M (M.length:Int) (0:Int))
def bJ3:FS1 β:=FXs (LJ n) n HQ (some AB) (some kH) [] [2,12,13,14,60]
theorem bV4 (M:List Int):bJ3 n (WC M) cx=aB1 n (fun z V H N=>cx.nrm (tE z V H N)) (fun S=>cx.ret (RI S)) M:=by kernel_rfl
def VA (kn:List Int→List Int→Int→Int→Option β) (ae:List Int→Option β) (z V:List Int) (H N:Int):Option β:=bif (decide (N < H)) then (idx N (V.length:Int)<|(eC0 n (rd V N (0:Int))).bind fun W=>cM (z.length+[W.1].length)<|kn (z++[W.1]) V H (w64 (N+1))) else (ae z)
def VG:FS1 β:=FXs (LJ n) n HQ (some AB) none [(0,sG)] [488,978,1958,1959]
theorem cC5 (z V:List Int) (H N:Int):VG n (tE z V H N) cx=VA n (fun z V H N=>cx.nrm (tE z V H N)) (fun z=>cx.ex 0 (AA z)) z V H N:=by kernel_rfl
def g155_3L (n:Nat) (ae:List Int→Option β):Nat→List Int→List Int→Int→Int→Option β
  | 0,_,_,_,_=>none
  | m+1,z,V,H,N=>VA n (g155_3L n ae m) ae z V H N
def X0 (ae:List Int→Option β) (z V:List Int) (H N:Int):Option β:=g155_3L n ae n z V H N
def bA0 (s:FState) (cx:Cx β):Option β:=bO (fun again s=>VG n s {cx with nrm:=again}) n s
theorem X9 (n:Nat) (cx:Cx β):∀(m:Nat) (z V:List Int) (H N:Int),bO (fun again s=>VG n s {cx with nrm:=again}) m (tE z V H N)=g155_3L n (fun z=>cx.ex 0 (AA z)) m z V H N:=by
  intro m
  induction m with
  | zero=>intros;rfl
  | succ m ih=>intros;simp only [bO,g155_3L,cC5,ih]
theorem bX0 (z V:List Int) (H N:Int):bA0 n (tE z V H N) cx=X0 n (fun z=>cx.ex 0 (AA z)) z V H N:=X9 n cx n z V H N
def aK1 (kn:List Int→Option β) (z V:List Int) (H N:Int):Option β:=X0 n kn z V H N
def bI3 (s:FState) (cx:Cx β):Option β:=bA0 n s {cx with ex:=fun j s=>bif Nat.beq j 0 then cx.nrm s else cx.ex j s}
theorem bU9 (z V:List Int) (H N:Int):bI3 n (tE z V H N) cx=aK1 n (fun z=>cx.nrm (AA z)) z V H N:=bX0 n _ z V H N
def i7 (n:Nat) (kr:BA→Option β) (z:List Int):Option β:=kr (runesBytes z)
def bN1:FS1 β:=FXs (LJ n) n HQ none (some kH) [] [62,63]
theorem bP3 (z:List Int):bN1 n (AA z) cx=i7 n (fun S=>cx.ret (RI S)) z:=by kernel_rfl
def PW (kr:BA→Option β) (M:List Int):Option β:=aB1 n (fun z V H N=>aK1 n (fun z=>i7 n kr z) z V H N) kr M
def EP (s:FState) (cx:Cx β):Option β:=bJ3 n s {cx with nrm:=fun s=>bI3 n s {cx with nrm:=fun s=>bN1 n s cx}}
theorem cB2 (M:List Int):EP n (WC M) cx=PW n (fun S=>cx.ret (RI S)) M:=by simp only [EP,PW,bV4,bU9,bP3]
def dZ2 (M:List Int):Option (DenR [.dat .str]):=PW n (fun S=>some (S,())) M
def cW9:List AK:=[.ro (.int .u32) 222]
def aE9:List RK:=[.dat .str]
def eQ9 (d:DenA cW9):Option (DenR aE9):=dZ2 n d.1
def cP2:Spec:=aQ cW9 aE9 (eQ9 n)
def dF2:Sk:=(.nd (.fin none none (some kH) [] .leaf) (.nd (.nd (.fin none none (some kH) [] .leaf) (.fin none none (some kH) [] .leaf)) (.nd (.fin none none (some kH) [] .leaf) (.nd (.nd (.fin none (some AB) (some kH) [] .leaf) (.nd (.nd (.nd (.fin none none none [(0,sG)] .leaf) (.nd (.fin none none none [(0,sG)] .leaf) (.nd (.fin none none none [(0,sG)] .leaf) (.fin none (some AB) none [(0,sG)] .leaf)))) .leaf) .leaf)) (.nd (.fin none none (some kH) [] .leaf) (.fin none none (some kH) [] .leaf))))))
theorem dS7 (s:FState) (cx:Cx β):FX (LJ n) n HQ dF2 s cx=EP n s cx:=by kernel_rfl
theorem dM3:Fit Tryd.prog 155 (cP2 n):=
  cJ (Γ:=Γ0) (l:=dT9 n) (n:=n) (sk:=dF2) (ts:=[(2,none)]) (fn:=Tryd.f155) (c:=HQ) (by kernel_rfl) (by kernel_rfl) (by unfold aS;kernel_rfl) cF ⟨dR3 n,trivial⟩ aO (by kernel_rfl) (by kernel_rfl) (Nat.le_of_ble_eq_true (by kernel_rfl)) (Nat.le_of_ble_eq_true (by kernel_rfl)) (by kernel_rfl) (by kernel_rfl)
    (fun d=>(dS7 n _ _).trans (Eq.trans (b:=EP n (WC d.1) (cS (LJ n) aE9 [(2,none)])) (by kernel_rfl) ((cB2 n _ d.1).trans (by kernel_rfl))))
def bG7 (C:Z11) (J S:BA):FState:=⟨aM [(0,.ptr 0 0 0),(1,.dat .str J),(2,.dat .str S)],aE [(0,.row Z1 106 false [C])]⟩
def eH0 (T E:BA) (X:List BA):FState:=⟨aM [(6,.dat .str T),(7,.dat .str E),(8,.sl 8 none false)],aE [(8,.row .str 9 true X)]⟩
def lQ:List NE:=[.keep 6,.keep 7,.row 8 .str 9 true]
def dT3:List (Nat×Spec):=[(154,dJ0 n),(155,cP2 n)]
def aF2:Ctx:={Γ0 with calls:=lkS (dT3 n),cel:=[9]}
def aI2:Code:=fb Tryd.f132
def aM0 (kr:BA→BA→List BA→Option β) (C:Z11) (J S:BA):Option β:=(cN7 n C J [(⟨#[]⟩:BA)] ([]:List Z25)).bind fun W=>(cN7 n C S W.2.1 W.2.2.1).bind fun r2=>(dZ2 n W.1.1).bind fun r3=>(dZ2 n r2.1.1).bind fun r4=>kr r3.1 r4.1 r2.2.1
def VV:FS1 β:=FXs (aF2 n) n aI2 none (some lQ) [] [2,6,14,30,62,126,127]
theorem cE8 (C:Z11) (J S:BA):VV n (bG7 C J S) cx=aM0 n (fun T E X=>cx.ret (eH0 T E X)) C J S:=by kernel_rfl
def eE6 (C:Z11) (J S:BA):Option (DenR [.dat .str,.dat .str,.rw .str 9]):=aM0 n (fun T E X=>some (T,(E,(X,())))) C J S
def dP1:List AK:=[.pro Z1 106,.dat .str,.dat .str]
def aJ3:List RK:=[.dat .str,.dat .str,.rw .str 9]
def eR3 (d:DenA dP1):Option (DenR aJ3):=eE6 n d.1 d.2.1 d.2.2.1
def dS6:Spec:=aQ dP1 aJ3 (eR3 n)
def cZ4:Sk:=(.nd (.fin none none (some lQ) [] .leaf) (.nd (.fin none none (some lQ) [] .leaf) (.nd (.fin none none (some lQ) [] .leaf) (.nd (.fin none none (some lQ) [] .leaf) (.nd (.fin none none (some lQ) [] .leaf) (.nd (.fin none none (some lQ) [] .leaf) (.fin none none (some lQ) [] .leaf)))))))
theorem dG4 (s:FState) (cx:Cx β):FX (aF2 n) n aI2 cZ4 s cx=VV n s cx:=by kernel_rfl
theorem cX0:Fit Tryd.prog 132 (dS6 n):=
  cJ (Γ:={Γ0 with cel:=[9]}) (l:=dT3 n) (n:=n) (sk:=cZ4) (ts:=[(6,none),(7,none),(8,none)]) (fn:=Tryd.f132) (c:=aI2) (by kernel_rfl) (by kernel_rfl) (by unfold aS;kernel_rfl) (eQ7 cF [9]) ⟨eA9 n,dM3 n,trivial⟩ aO (by kernel_rfl) (by kernel_rfl) (Nat.le_of_ble_eq_true (by kernel_rfl)) (Nat.le_of_ble_eq_true (by kernel_rfl)) (by kernel_rfl) (by kernel_rfl)
    (fun d=>(dG4 n _ _).trans (Eq.trans (b:=VV n (bG7 d.1 d.2.1 d.2.2.1) (cS (aF2 n) aJ3 [(6,none),(7,none),(8,none)])) (by kernel_rfl) ((cE8 n _ d.1 d.2.1 d.2.2.1).trans (by kernel_rfl))))
def bJ6 (C:Z11) (J S:BA):FState:=⟨aM [(0,.ptr 0 0 0),(1,.dat .str J),(2,.dat .str S)],aE [(0,.row Z1 106 false [C])]⟩
def eF7 (y x7:List Int) (X:List BA):FState:=⟨aM [(6,.sl 6 none false),(7,.sl 7 none false),(8,.sl 8 none false)],aE [(6,.row (.int .i32) 21 true y),(7,.row (.int .i32) 21 true x7),(8,.row .str 9 true X)]⟩
def rQ:List NE:=[.row 6 (.int .i32) 21 true,.row 7 (.int .i32) 21 true,.row 8 .str 9 true]
def dZ5:List (Nat×Spec):=[(132,dS6 n)]
def aK0:Ctx:={Γ0 with calls:=lkS (dZ5 n)}
def U6:Code:=fb Tryd.f109
def u3 (kr:List Int→List Int→List BA→Option β) (C:Z11) (J S:BA):Option β:=(eE6 n C J S).bind fun W=>kQ W.1<|kQ W.2.1<|kr (bS W.1) (bS W.2.1) W.2.2.1
def WN:FS1 β:=FXs (aK0 n) n U6 none (some rQ) [] [2,6,14,15]
theorem cE5 (C:Z11) (J S:BA):WN n (bJ6 C J S) cx=u3 n (fun y x7 X=>cx.ret (eF7 y x7 X)) C J S:=by kernel_rfl
def dR9 (C:Z11) (J S:BA):Option (DenR [.rw (.int .i32) 21,.rw (.int .i32) 21,.rw .str 9]):=u3 n (fun y x7 X=>some (y,(x7,(X,())))) C J S
def dA0:List AK:=[.pro Z1 106,.dat .str,.dat .str]
def aT1:List RK:=[.rw (.int .i32) 21,.rw (.int .i32) 21,.rw .str 9]
def eU4 (d:DenA dA0):Option (DenR aT1):=dR9 n d.1 d.2.1 d.2.2.1
def dF3:Spec:=aQ dA0 aT1 (eU4 n)
def dW3:Sk:=(.nd (.fin none none (some rQ) [] .leaf) (.nd (.fin none none (some rQ) [] .leaf) (.nd (.fin none none (some rQ) [] .leaf) (.fin none none (some rQ) [] .leaf))))
theorem cQ0 (s:FState) (cx:Cx β):FX (aK0 n) n U6 dW3 s cx=WN n s cx:=by kernel_rfl
theorem cX1:Fit Tryd.prog 109 (dF3 n):=
  cJ (Γ:=Γ0) (l:=dZ5 n) (n:=n) (sk:=dW3) (ts:=[(6,none),(7,none),(8,none)]) (fn:=Tryd.f109) (c:=U6) (by kernel_rfl) (by kernel_rfl) (by unfold aS;kernel_rfl) cF ⟨cX0 n,trivial⟩ aO (by kernel_rfl) (by kernel_rfl) (Nat.le_of_ble_eq_true (by kernel_rfl)) (Nat.le_of_ble_eq_true (by kernel_rfl)) (by kernel_rfl) (by kernel_rfl)
    (fun d=>(cQ0 n _ _).trans (Eq.trans (b:=WN n (bJ6 d.1 d.2.1 d.2.2.1) (cS (aK0 n) aT1 [(6,none),(7,none),(8,none)])) (by kernel_rfl) ((cE5 n _ d.1 d.2.1 d.2.2.1).trans (by kernel_rfl))))
def wY (M:List Int) (J:Int):FState:=⟨aM [(0,.sl 0 none false),(1,.dat (.int .i32) J)],aE [(0,.row (.int .u8) 5 true M)]⟩
def ZV:List NE:=[.row 0 (.int .u8) 5 true,.keep 1]
def TA (M:List Int) (v4:Int):FState:=⟨aM [(0,.sl 0 none false),(4,.dat (.int .i64) v4)],aE [(0,.row (.int .u8) 5 true M)]⟩
def IB:List NE:=[.row 0 (.int .u8) 5 true,.keep 4]
def WH (M:List Int) (J D:Int):FState:=⟨aM [(0,.sl 0 none false),(1,.dat (.int .i32) J),(5,.dat (.int .u32) D)],aE [(0,.row (.int .u8) 5 true M)]⟩
def O7:List NE:=[.row 0 (.int .u8) 5 true,.keep 1,.keep 5]
def dL7 (n:Nat):List (Nat×Spec):=[]
def IF:Ctx:={Γ0 with calls:=lkS (dL7 n)}
def XB:Code:=fb Tryd.f178
def HZ (n:Nat) (kn:List Int→Int→Int→Option β) (M:List Int) (J:Int):Option β:=kn M J (IntKind.u32.wrap (J))
def bD3:FS1 β:=FXs (IF n) n XB (some O7) none [] [2,6]
theorem cI7 (M:List Int) (J:Int):bD3 n (wY M J) cx=HZ n (fun M J D=>cx.nrm (WH M J D)) M J:=by kernel_rfl
def IP (n:Nat) (kr:List Int→Int→Option β) (M:List Int) (J D:Int):Option β:=bif (decide (D≤(2047:Int))) then (idx (1:Int) (M.length:Int)<|idx (0:Int) (M.length:Int)<|idx (1:Int) ((M.set (0:Int).toNat (orI .u8 (192:Int) (IntKind.u8.wrap ((fA .i32 J (6:Int)))))).length:Int)<|kr ((M.set (0:Int).toNat (orI .u8 (192:Int) (IntKind.u8.wrap ((fA .i32 J (6:Int)))))).set (1:Int).toNat (orI .u8 (128:Int) (eB .u8 (IntKind.u8.wrap (J)) (63:Int)))) (2:Int)) else (bif (decide (D < (55296:Int))) then (bif (decide (D < (55296:Int))) then (idx (2:Int) (M.length:Int)<|idx (0:Int) (M.length:Int)<|idx (1:Int) ((M.set (0:Int).toNat (orI .u8 (224:Int) (IntKind.u8.wrap ((fA .i32 J (12:Int)))))).length:Int)<|idx (2:Int) (((M.set (0:Int).toNat (orI .u8 (224:Int) (IntKind.u8.wrap ((fA .i32 J (12:Int)))))).set (1:Int).toNat (orI .u8 (128:Int) (eB .u8 (IntKind.u8.wrap ((fA .i32 J (6:Int)))) (63:Int)))).length:Int)<|kr (((M.set (0:Int).toNat (orI .u8 (224:Int) (IntKind.u8.wrap ((fA .i32 J (12:Int)))))).set (1:Int).toNat (orI .u8 (128:Int) (eB .u8 (IntKind.u8.wrap ((fA .i32 J (6:Int)))) (63:Int)))).set (2:Int).toNat (orI .u8 (128:Int) (eB .u8 (IntKind.u8.wrap (J)) (63:Int)))) (3:Int)) else (bif (decide (D>(65535:Int))) then (bif (decide (D≤(1114111:Int))) then (idx (3:Int) (M.length:Int)<|idx (0:Int) (M.length:Int)<|idx (1:Int) ((M.set (0:Int).toNat (orI .u8 (240:Int) (IntKind.u8.wrap ((fA .i32 J (18:Int)))))).length:Int)<|idx (2:Int) (((M.set (0:Int).toNat (orI .u8 (240:Int) (IntKind.u8.wrap ((fA .i32 J (18:Int)))))).set (1:Int).toNat (orI .u8 (128:Int) (eB .u8 (IntKind.u8.wrap ((fA .i32 J (12:Int)))) (63:Int)))).length:Int)<|idx (3:Int) ((((M.set (0:Int).toNat (orI .u8 (240:Int) (IntKind.u8.wrap ((fA .i32 J (18:Int)))))).set (1:Int).toNat (orI .u8 (128:Int) (eB .u8 (IntKind.u8.wrap ((fA .i32 J (12:Int)))) (63:Int)))).set (2:Int).toNat (orI .u8 (128:Int) (eB .u8 (IntKind.u8.wrap ((fA .i32 J (6:Int)))) (63:Int)))).length:Int)<|kr ((((M.set (0:Int).toNat (orI .u8 (240:Int) (IntKind.u8.wrap ((fA .i32 J (18:Int)))))).set (1:Int).toNat (orI .u8 (128:Int) (eB .u8 (IntKind.u8.wrap ((fA .i32 J (12:Int)))) (63:Int)))).set (2:Int).toNat (orI .u8 (128:Int) (eB .u8 (IntKind.u8.wrap ((fA .i32 J (6:Int)))) (63:Int)))).set (3:Int).toNat (orI .u8 (128:Int) (eB .u8 (IntKind.u8.wrap (J)) (63:Int)))) (4:Int)) else (idx (2:Int) (M.length:Int)<|idx (0:Int) (M.length:Int)<|idx (1:Int) ((M.set (0:Int).toNat (239:Int)).length:Int)<|idx (2:Int) (((M.set (0:Int).toNat (239:Int)).set (1:Int).toNat (191:Int)).length:Int)<|kr (((M.set (0:Int).toNat (239:Int)).set (1:Int).toNat (191:Int)).set (2:Int).toNat (189:Int)) (3:Int))) else (idx (2:Int) (M.length:Int)<|idx (0:Int) (M.length:Int)<|idx (1:Int) ((M.set (0:Int).toNat (239:Int)).length:Int)<|idx (2:Int) (((M.set (0:Int).toNat (239:Int)).set (1:Int).toNat (191:Int)).length:Int)<|kr (((M.set (0:Int).toNat (239:Int)).set (1:Int).toNat (191:Int)).set (2:Int).toNat (189:Int)) (3:Int)))) else (bif (decide ((57343:Int) < D)) then (bif (decide (D≤(65535:Int))) then (idx (2:Int) (M.length:Int)<|idx (0:Int) (M.length:Int)<|idx (1:Int) ((M.set (0:Int).toNat (orI .u8 (224:Int) (IntKind.u8.wrap ((fA .i32 J (12:Int)))))).length:Int)<|idx (2:Int) (((M.set (0:Int).toNat (orI .u8 (224:Int) (IntKind.u8.wrap ((fA .i32 J (12:Int)))))).set (1:Int).toNat (orI .u8 (128:Int) (eB .u8 (IntKind.u8.wrap ((fA .i32 J (6:Int)))) (63:Int)))).length:Int)<|kr (((M.set (0:Int).toNat (orI .u8 (224:Int) (IntKind.u8.wrap ((fA .i32 J (12:Int)))))).set (1:Int).toNat (orI .u8 (128:Int) (eB .u8 (IntKind.u8.wrap ((fA .i32 J (6:Int)))) (63:Int)))).set (2:Int).toNat (orI .u8 (128:Int) (eB .u8 (IntKind.u8.wrap (J)) (63:Int)))) (3:Int)) else (bif (decide (D>(65535:Int))) then (bif (decide (D≤(1114111:Int))) then (idx (3:Int) (M.length:Int)<|idx (0:Int) (M.length:Int)<|idx (1:Int) ((M.set (0:Int).toNat (orI .u8 (240:Int) (IntKind.u8.wrap ((fA .i32 J (18:Int)))))).length:Int)<|idx (2:Int) (((M.set (0:Int).toNat (orI .u8 (240:Int) (IntKind.u8.wrap ((fA .i32 J (18:Int)))))).set (1:Int).toNat (orI .u8 (128:Int) (eB .u8 (IntKind.u8.wrap ((fA .i32 J (12:Int)))) (63:Int)))).length:Int)<|idx (3:Int) ((((M.set (0:Int).toNat (orI .u8 (240:Int) (IntKind.u8.wrap ((fA .i32 J (18:Int)))))).set (1:Int).toNat (orI .u8 (128:Int) (eB .u8 (IntKind.u8.wrap ((fA .i32 J (12:Int)))) (63:Int)))).set (2:Int).toNat (orI .u8 (128:Int) (eB .u8 (IntKind.u8.wrap ((fA .i32 J (6:Int)))) (63:Int)))).length:Int)<|kr ((((M.set (0:Int).toNat (orI .u8 (240:Int) (IntKind.u8.wrap ((fA .i32 J (18:Int)))))).set (1:Int).toNat (orI .u8 (128:Int) (eB .u8 (IntKind.u8.wrap ((fA .i32 J (12:Int)))) (63:Int)))).set (2:Int).toNat (orI .u8 (128:Int) (eB .u8 (IntKind.u8.wrap ((fA .i32 J (6:Int)))) (63:Int)))).set (3:Int).toNat (orI .u8 (128:Int) (eB .u8 (IntKind.u8.wrap (J)) (63:Int)))) (4:Int)) else (idx (2:Int) (M.length:Int)<|idx (0:Int) (M.length:Int)<|idx (1:Int) ((M.set (0:Int).toNat (239:Int)).length:Int)<|idx (2:Int) (((M.set (0:Int).toNat (239:Int)).set (1:Int).toNat (191:Int)).length:Int)<|kr (((M.set (0:Int).toNat (239:Int)).set (1:Int).toNat (191:Int)).set (2:Int).toNat (189:Int)) (3:Int))) else (idx (2:Int) (M.length:Int)<|idx (0:Int) (M.length:Int)<|idx (1:Int) ((M.set (0:Int).toNat (239:Int)).length:Int)<|idx (2:Int) (((M.set (0:Int).toNat (239:Int)).set (1:Int).toNat (191:Int)).length:Int)<|kr (((M.set (0:Int).toNat (239:Int)).set (1:Int).toNat (191:Int)).set (2:Int).toNat (189:Int)) (3:Int)))) else (bif (decide (D>(65535:Int))) then (bif (decide (D≤(1114111:Int))) then (idx (3:Int) (M.length:Int)<|idx (0:Int) (M.length:Int)<|idx (1:Int) ((M.set (0:Int).toNat (orI .u8 (240:Int) (IntKind.u8.wrap ((fA .i32 J (18:Int)))))).length:Int)<|idx (2:Int) (((M.set (0:Int).toNat (orI .u8 (240:Int) (IntKind.u8.wrap ((fA .i32 J (18:Int)))))).set (1:Int).toNat (orI .u8 (128:Int) (eB .u8 (IntKind.u8.wrap ((fA .i32 J (12:Int)))) (63:Int)))).length:Int)<|idx (3:Int) ((((M.set (0:Int).toNat (orI .u8 (240:Int) (IntKind.u8.wrap ((fA .i32 J (18:Int)))))).set (1:Int).toNat (orI .u8 (128:Int) (eB .u8 (IntKind.u8.wrap ((fA .i32 J (12:Int)))) (63:Int)))).set (2:Int).toNat (orI .u8 (128:Int) (eB .u8 (IntKind.u8.wrap ((fA .i32 J (6:Int)))) (63:Int)))).length:Int)<|kr ((((M.set (0:Int).toNat (orI .u8 (240:Int) (IntKind.u8.wrap ((fA .i32 J (18:Int)))))).set (1:Int).toNat (orI .u8 (128:Int) (eB .u8 (IntKind.u8.wrap ((fA .i32 J (12:Int)))) (63:Int)))).set (2:Int).toNat (orI .u8 (128:Int) (eB .u8 (IntKind.u8.wrap ((fA .i32 J (6:Int)))) (63:Int)))).set (3:Int).toNat (orI .u8 (128:Int) (eB .u8 (IntKind.u8.wrap (J)) (63:Int)))) (4:Int)) else (idx (2:Int) (M.length:Int)<|idx (0:Int) (M.length:Int)<|idx (1:Int) ((M.set (0:Int).toNat (239:Int)).length:Int)<|idx (2:Int) (((M.set (0:Int).toNat (239:Int)).set (1:Int).toNat (191:Int)).length:Int)<|kr (((M.set (0:Int).toNat (239:Int)).set (1:Int).toNat (191:Int)).set (2:Int).toNat (189:Int)) (3:Int))) else (idx (2:Int) (M.length:Int)<|idx (0:Int) (M.length:Int)<|idx (1:Int) ((M.set (0:Int).toNat (239:Int)).length:Int)<|idx (2:Int) (((M.set (0:Int).toNat (239:Int)).set (1:Int).toNat (191:Int)).length:Int)<|kr (((M.set (0:Int).toNat (239:Int)).set (1:Int).toNat (191:Int)).set (2:Int).toNat (189:Int)) (3:Int)))))
def bA9:FS1 β:=FXs (IF n) n XB none (some IB) [] [28,29]
theorem cA8 (M:List Int) (J D:Int):bA9 n (WH M J D) cx=IP n (fun M v4=>cx.ret (TA M v4)) M J D:=by kernel_rfl
def IY (kr:List Int→Int→Option β) (M:List Int) (J D:Int):Option β:=IP n kr M J D
def aV6 (s:FState) (cx:Cx β):Option β:=bA9 n s {cx with ex:=fun j s=>bif Nat.beq j 0 then cx.nrm s else cx.ex j s}
theorem bQ5 (M:List Int) (J D:Int):aV6 n (WH M J D) cx=IY n (fun M v4=>cx.ret (TA M v4)) M J D:=cA8 n _ M J D
def CK (kr:List Int→Int→Option β) (M:List Int) (J:Int):Option β:=HZ n (fun M J D=>IY n kr M J D) M J
def FY (s:FState) (cx:Cx β):Option β:=bD3 n s {cx with nrm:=fun s=>aV6 n s cx}
theorem bQ4 (M:List Int) (J:Int):FY n (wY M J) cx=CK n (fun M v4=>cx.ret (TA M v4)) M J:=by simp only [FY,CK,cI7,bQ5]
def cX9 (M:List Int) (J:Int):Option (DenR [.dat (.int .i64)]×DenR (bM [.io (.int .u8) 5,.dat (.int .i32)])):=CK n (fun M v4=>some ((v4,()),(M,()))) M J
def oH:List AK:=[.io (.int .u8) 5,.dat (.int .i32)]
def aR8:List RK:=[.dat (.int .i64)]
def eX1 (d:DenA oH):Option (DenR aR8×DenR (bM oH)):=cX9 n d.1 d.2.1
def dR5:Spec:=nW oH aR8 (eX1 n)
def dP5:Sk:=(.nd (.fin none none none [] .leaf) (.nd (.fin none (some O7) none [] .leaf) (.nd (.nd (.fin none none (some IB) [] .leaf) (.fin none none (some IB) [] .leaf)) .leaf)))
theorem cT6 (s:FState) (cx:Cx β):FX (IF n) n XB dP5 s cx=FY n s cx:=by kernel_rfl
theorem dW1 (d:DenA oH) (β:Type) (κ:FState→Option β):dM 0 0 (bM oH) (gH oH 0) (toB oH d) (mH oH d) (fun s=>vD (IF n) ZV (rC oH 0 s) κ)=κ (wY d.1 d.2.1):=by kernel_rfl
theorem cV3:Fit Tryd.prog 178 (dR5 n):=
  PO (Γ:=Γ0) (l:=dL7 n) (n:=n) (sk:=dP5) (nf:=ZV) (m:=fun d=>wY d.1 d.2.1) (ts:=[(4,none)]) (fn:=Tryd.f178) (c:=XB) (by kernel_rfl) (by kernel_rfl) (by unfold aS;kernel_rfl) cF trivial aO (by kernel_rfl) (by kernel_rfl) (Nat.le_of_ble_eq_true (by kernel_rfl)) (Nat.le_of_ble_eq_true (by kernel_rfl)) (by kernel_rfl) (by kernel_rfl) (dW1 n)
    (fun d=>(cT6 n _ _).trans (Eq.trans (b:=FY n (wY d.1 d.2.1) (sR (IF n) oH aR8 [(4,none)])) (by kernel_rfl) ((bQ4 n _ d.1 d.2.1).trans (by kernel_rfl))))
def ET (M:List Int) (J:Int):FState:=⟨aM [(0,.sl 0 none false),(1,.dat (.int .i32) J)],aE [(0,.row (.int .u8) 5 true M)]⟩
def K5:List NE:=[.row 0 (.int .u8) 5 true,.keep 1]
def eD7 (M:List Int) (v4:Int):FState:=⟨aM [(0,.sl 0 none false),(4,.dat (.int .i64) v4)],aE [(0,.row (.int .u8) 5 true M)]⟩
def pG:List NE:=[.row 0 (.int .u8) 5 true,.keep 4]
def dS9:List (Nat×Spec):=[(178,dR5 n)]
def VQ:Ctx:={Γ0 with calls:=lkS (dS9 n)}
def W7:Code:=fb Tryd.f159
def JN (kr:List Int→Int→Option β) (M:List Int) (J:Int):Option β:=bif (decide ((IntKind.u32.wrap (J))≤(127:Int))) then (idx (0:Int) (M.length:Int)<|kr (M.set (0:Int).toNat (IntKind.u8.wrap (J))) (1:Int)) else ((cX9 n M J).bind fun W=>kr W.2.1 W.1.1)
def TP:FS1 β:=FXs (VQ n) n W7 none (some pG) [] [2,12,13,14,15]
theorem cJ6 (M:List Int) (J:Int):TP n (ET M J) cx=JN n (fun M v4=>cx.ret (eD7 M v4)) M J:=by kernel_rfl
def P5 (M:List Int) (J:Int):Option (DenR [.dat (.int .i64)]×DenR (bM [.io (.int .u8) 5,.dat (.int .i32)])):=JN n (fun M v4=>some ((v4,()),(M,()))) M J
def oN:List AK:=[.io (.int .u8) 5,.dat (.int .i32)]
def aB6:List RK:=[.dat (.int .i64)]
def eX7 (d:DenA oN):Option (DenR aB6×DenR (bM oN)):=P5 n d.1 d.2.1
def dX3:Spec:=nW oN aB6 (eX7 n)
def dR6:Sk:=(.nd (.fin none none (some pG) [] .leaf) (.nd (.nd (.fin none none (some pG) [] .leaf) (.fin none none (some pG) [] .leaf)) (.nd (.fin none none (some pG) [] .leaf) (.fin none none (some pG) [] .leaf))))
theorem dV5 (s:FState) (cx:Cx β):FX (VQ n) n W7 dR6 s cx=TP n s cx:=by kernel_rfl
theorem cM6 (d:DenA oN) (β:Type) (κ:FState→Option β):dM 0 0 (bM oN) (gH oN 0) (toB oN d) (mH oN d) (fun s=>vD (VQ n) K5 (rC oN 0 s) κ)=κ (ET d.1 d.2.1):=by kernel_rfl
theorem cX4:Fit Tryd.prog 159 (dX3 n):=
  PO (Γ:=Γ0) (l:=dS9 n) (n:=n) (sk:=dR6) (nf:=K5) (m:=fun d=>ET d.1 d.2.1) (ts:=[(4,none)]) (fn:=Tryd.f159) (c:=W7) (by kernel_rfl) (by kernel_rfl) (by unfold aS;kernel_rfl) cF ⟨cV3 n,trivial⟩ aO (by kernel_rfl) (by kernel_rfl) (Nat.le_of_ble_eq_true (by kernel_rfl)) (Nat.le_of_ble_eq_true (by kernel_rfl)) (by kernel_rfl) (by kernel_rfl) (cM6 n)
    (fun d=>(dV5 n _ _).trans (Eq.trans (b:=TP n (ET d.1 d.2.1) (sR (VQ n) oN aB6 [(4,none)])) (by kernel_rfl) ((cJ6 n _ d.1 d.2.1).trans (by kernel_rfl))))
def bE6 (Z:Int):FState:=⟨aM [(0,.dat (.int .i32) Z)],aE []⟩
def eE5 (S:Int):FState:=⟨aM [(2,.dat (.int .u32) S)],aE []⟩
def fU:List NE:=[.keep 2]
def cR6:List (Nat×Spec):=[(159,dX3 n)]
def m6:Ctx:={Γ0 with calls:=lkS (cR6 n)}
def y7:Code:=fb Tryd.f138
def aE6 (kr:Int→Option β) (Z:Int):Option β:=bif (decide ((IntKind.u32.wrap (Z)) < (128:Int))) then (kr (IntKind.u32.wrap (Z))) else ((P5 n [(0:Int),(0:Int),(0:Int),(0:Int)] Z).bind fun W=>bif (W.1.1==(2:Int)) then (idx (0:Int) (W.2.1.length:Int)<|idx (1:Int) (W.2.1.length:Int)<|kr (orI .u32 (qI .u32 (IntKind.u32.wrap ((eB .u8 (rd W.2.1 (0:Int) (0:Int)) (31:Int)))) (6:Int)) (IntKind.u32.wrap ((eB .u8 (rd W.2.1 (1:Int) (0:Int)) (63:Int)))))) else (bif (W.1.1==(3:Int)) then (idx (0:Int) (W.2.1.length:Int)<|idx (1:Int) (W.2.1.length:Int)<|idx (2:Int) (W.2.1.length:Int)<|bif (decide ((orI .u32 (orI .u32 (qI .u32 (IntKind.u32.wrap ((eB .u8 (rd W.2.1 (0:Int) (0:Int)) (15:Int)))) (12:Int)) (qI .u32 (IntKind.u32.wrap ((eB .u8 (rd W.2.1 (1:Int) (0:Int)) (63:Int)))) (6:Int))) (IntKind.u32.wrap ((eB .u8 (rd W.2.1 (2:Int) (0:Int)) (63:Int)))))≥(57343:Int))) then (kr (IntKind.u32.wrap ((orI .u32 (orI .u32 (qI .u32 (IntKind.u32.wrap ((eB .u8 (rd W.2.1 (0:Int) (0:Int)) (15:Int)))) (12:Int)) (qI .u32 (IntKind.u32.wrap ((eB .u8 (rd W.2.1 (1:Int) (0:Int)) (63:Int)))) (6:Int))) (IntKind.u32.wrap ((eB .u8 (rd W.2.1 (2:Int) (0:Int)) (63:Int))))) - (2048:Int)))) else (kr (orI .u32 (orI .u32 (qI .u32 (IntKind.u32.wrap ((eB .u8 (rd W.2.1 (0:Int) (0:Int)) (15:Int)))) (12:Int)) (qI .u32 (IntKind.u32.wrap ((eB .u8 (rd W.2.1 (1:Int) (0:Int)) (63:Int)))) (6:Int))) (IntKind.u32.wrap ((eB .u8 (rd W.2.1 (2:Int) (0:Int)) (63:Int))))))) else (bif (W.1.1==(4:Int)) then (idx (0:Int) (W.2.1.length:Int)<|idx (1:Int) (W.2.1.length:Int)<|idx (2:Int) (W.2.1.length:Int)<|idx (3:Int) (W.2.1.length:Int)<|kr (IntKind.u32.wrap ((IntKind.u32.wrap ((orI .u32 (orI .u32 (orI .u32 (qI .u32 (IntKind.u32.wrap ((eB .u8 (rd W.2.1 (0:Int) (0:Int)) (7:Int)))) (18:Int)) (qI .u32 (IntKind.u32.wrap ((eB .u8 (rd W.2.1 (1:Int) (0:Int)) (63:Int)))) (12:Int))) (qI .u32 (IntKind.u32.wrap ((eB .u8 (rd W.2.1 (2:Int) (0:Int)) (63:Int)))) (6:Int))) (IntKind.u32.wrap ((eB .u8 (rd W.2.1 (3:Int) (0:Int)) (63:Int))))) - (2048:Int))) - (3:Int)))) else none)))
def PT:FS1 β:=FXs (m6 n) n y7 none (some fU) [] [2,6,28,29,30,62,252,253,508,509,1020,1021,511]
theorem bY6 (Z:Int):PT n (bE6 Z) cx=aE6 n (fun S=>cx.ret (eE5 S)) Z:=by kernel_rfl
def cM9 (Z:Int):Option (DenR [.dat (.int .u32)]):=aE6 n (fun S=>some (S,())) Z
def dZ8:List AK:=[.dat (.int .i32)]
def aO4:List RK:=[.dat (.int .u32)]
def eV6 (d:DenA dZ8):Option (DenR aO4):=cM9 n d.1
def cM5:Spec:=aQ dZ8 aO4 (eV6 n)
def dB1:Sk:=(.nd (.fin none none (some fU) [] .leaf) (.nd (.fin none none (some fU) [] .leaf) (.nd (.nd (.fin none none (some fU) [] .leaf) (.fin none none (some fU) [] .leaf)) (.nd (.fin none none (some fU) [] .leaf) (.nd (.fin none none (some fU) [] .leaf) (.nd (.nd (.fin none none (some fU) [] .leaf) (.fin none none (some fU) [] .leaf)) (.nd (.nd (.fin none none (some fU) [] .leaf) (.fin none none (some fU) [] .leaf)) (.nd (.nd (.fin none none (some fU) [] .leaf) (.fin none none (some fU) [] .leaf)) (.fin none none (some fU) [] .leaf)))))))))
theorem dJ5 (s:FState) (cx:Cx β):FX (m6 n) n y7 dB1 s cx=PT n s cx:=by kernel_rfl
theorem dJ2:Fit Tryd.prog 138 (cM5 n):=
  cJ (Γ:=Γ0) (l:=cR6 n) (n:=n) (sk:=dB1) (ts:=[(2,none)]) (fn:=Tryd.f138) (c:=y7) (by kernel_rfl) (by kernel_rfl) (by unfold aS;kernel_rfl) cF ⟨cX4 n,trivial⟩ aO (by kernel_rfl) (by kernel_rfl) (Nat.le_of_ble_eq_true (by kernel_rfl)) (Nat.le_of_ble_eq_true (by kernel_rfl)) (by kernel_rfl) (by kernel_rfl)
    (fun d=>(dJ5 n _ _).trans (Eq.trans (b:=PT n (bE6 d.1) (cS (m6 n) aO4 [(2,none)])) (by kernel_rfl) ((bY6 n _ d.1).trans (by kernel_rfl))))
def dM4:List AK:=[.ro .str 9,.dat .str]
def cZ2:List RK:=[.dat .str]
def eI5 (n:Nat) (Z:List BA) (J:BA):Option (DenR [.dat .str]):=if Z.length≤140737488355328∧(Lib.join (Z.map (·.data.toList)) J.data.toList).length≤140737488355328 then some (⟨(Lib.join (Z.map (·.data.toList)) J.data.toList).toArray⟩,()) else none
def eU6 (d:DenA dM4):Option (DenR cZ2):=eI5 n d.1 d.2.1
def cK5:Spec:=aQ dM4 cZ2 (eU6 n)
theorem cO5:Fit Tryd.prog 139 (cK5 n):=L5 (by unfold aS;kernel_rfl) rfl fun d x w A vs hG ha hx=>by
  obtain ⟨v,vs',o1,o2,rfl,_,⟨_,ad,cap,rfl,hle,hne⟩,v',vs2,o3,o4,rfl,_,⟨_,cs,h1,h2⟩,h3,_⟩:=ha
  obtain ⟨xs,sep,u⟩:=d
  subst h3
  have h1:cs=[Value.string sep]:=h1
  subst h1
  simp [K.isPair] at h2
  subst h2
  obtain ⟨hc,hx⟩:=bN hx
  cases hx
  by_cases h0:xs=[]
  · subst h0
    exact (Tryd.strings_Join_none ad cap sep w).mono fun e w' ⟨he,hw⟩=>⟨[.string ⟨#[]⟩],he,⟨_,_,[],[],rfl,rfl,⟨rfl,_,rfl,rfl⟩,rfl,rfl⟩,hw ▸ Go.RowKit.Below.refl _ _⟩
  · obtain ⟨b,off,rfl,hb,hrow⟩:=hne h0
    exact (Tryd.strings_Join b off cap xs sep w (aF9 hrow) (hrow.lt h0) hc.1 hle hc.2).mono fun e w' ⟨he,hb⟩=>⟨[_],he,⟨_,_,[],[],rfl,rfl,⟨rfl,_,rfl,rfl⟩,rfl,rfl⟩,hb⟩
def WU (C:Z11) (B:List Z26) (L:List BA):FState:=⟨aM [(0,.ptr 0 0 0),(1,.sl 1 none false),(2,.sl 2 none false)],aE [(0,.row Z1 106 false [C]),(1,.row Z22 115 false B),(2,.row .str 9 false L)]⟩
def bB7 (y:List Z26):FState:=⟨aM [(6,.sl 6 none false)],aE [(6,.row Z22 115 true y)]⟩
def MD:List NE:=[.row 6 Z22 115 true]
def gL (L:List BA) (x7 af:List Z26) (P O:Int):FState:=⟨aM [(2,.sl 2 none false),(7,.sl 7 none false),(17,.sl 17 none false),(18,.dat (.int .i64) P),(19,.dat (.int .i64) O)],aE [(2,.row .str 9 false L),(7,.row Z22 115 true x7),(17,.row Z22 115 false af)]⟩
def lR:List NE:=[.row 2 .str 9 false,.row 7 Z22 115 true,.row 17 Z22 115 false,.keep 18,.keep 19]
def tZ (x7:List Z26):FState:=⟨aM [(7,.sl 7 none false)],aE [(7,.row Z22 115 true x7)]⟩
def LA:List NE:=[.row 7 Z22 115 true]
def tW (L:List BA) (x7:List Z26) (p9:Z26) (ag:List BA) (af:List Z26) (P O:Int) (az:List Int) (ah ai:Int):FState:=⟨aM [(2,.sl 2 none false),(7,.sl 7 none false),(9,.ptr 9 0 0),(11,.sl 11 none false),(17,.sl 17 none false),(18,.dat (.int .i64) P),(19,.dat (.int .i64) O),(29,.sl 29 none false),(30,.dat (.int .i64) ah),(31,.dat (.int .i64) ai)],aE [(2,.row .str 9 false L),(7,.row Z22 115 true x7),(9,.row Z22 115 true [p9]),(11,.row .str 9 true ag),(17,.row Z22 115 false af),(29,.row (.int .i32) 21 true az)]⟩
def BN:List NE:=[.row 2 .str 9 false,.row 7 Z22 115 true,.ptr 9 Z22 115 true,.row 11 .str 9 true,.row 17 Z22 115 false,.keep 18,.keep 19,.row 29 (.int .i32) 21 true,.keep 30,.keep 31]
def AU (L:List BA) (x7:List Z26) (p9:Z26) (ag:List BA) (af:List Z26) (P O:Int):FState:=⟨aM [(2,.sl 2 none false),(7,.sl 7 none false),(9,.ptr 9 0 0),(11,.sl 11 none false),(17,.sl 17 none false),(18,.dat (.int .i64) P),(19,.dat (.int .i64) O)],aE [(2,.row .str 9 false L),(7,.row Z22 115 true x7),(9,.row Z22 115 true [p9]),(11,.row .str 9 true ag),(17,.row Z22 115 false af)]⟩
def rI:List NE:=[.row 2 .str 9 false,.row 7 Z22 115 true,.ptr 9 Z22 115 true,.row 11 .str 9 true,.row 17 Z22 115 false,.keep 18,.keep 19]
def dH4:List (Nat×Spec):=[(138,cM5 n),(139,cK5 n)]
def pU:Ctx:={Γ0 with calls:=lkS (dH4 n)}
def qP:Code:=fb Tryd.f111
def n9 (n:Nat) (kn:List BA→List Z26→List Z26→Int→Int→Option β) (C:Z11) (B:List Z26) (L:List BA):Option β:=bnd 0 (0:Int) (B.length:Int)<|vN (B.length:Int)<|kn L (List.replicate (0:Int).toNat Z17) B (B.length:Int) (0:Int)
def bM6:FS1 β:=FXs (pU n) n qP (some lR) none [] [2,6,28]
theorem bT9 (C:Z11) (B:List Z26) (L:List BA):bM6 n (WU C B L) cx=n9 n (fun L x7 af P O=>cx.nrm (gL L x7 af P O)) C B L:=by kernel_rfl
def VI (n:Nat) (kn:List BA→List Z26→List Z26→Int→Int→Option β) (ae:List Z26→Option β) (L:List BA) (x7 af:List Z26) (P O:Int):Option β:=bif (decide (O < P)) then (kn L x7 af P O) else (ae x7)
def bC9:FS1 β:=FXs (pU n) n qP (some lR) none [(0,LA)] [232,466]
theorem bX4 (L:List BA) (x7 af:List Z26) (P O:Int):bC9 n (gL L x7 af P O) cx=VI n (fun L x7 af P O=>cx.nrm (gL L x7 af P O)) (fun x7=>cx.ex 0 (tZ x7)) L x7 af P O:=by kernel_rfl
def W4 (n:Nat) (kn:List BA→List Z26→Z26→List BA→List Z26→Int→Int→List Int→Int→Int→Option β) (L:List BA) (x7 af:List Z26) (P O:Int):Option β:=idx O (af.length:Int)<|kQ ((rd [(rd af O Z17)] (0:Int) Z17).2)<|bnd 0 ((bS ((rd [(rd af O Z17)] (0:Int) Z17).2)).length:Int) ((bS ((rd [(rd af O Z17)] (0:Int) Z17).2)).length:Int)<|vN ((bS ((rd [(rd af O Z17)] (0:Int) Z17).2)).length:Int)<|kn L x7 (rd af O Z17) (List.replicate ((bS ((rd [(rd af O Z17)] (0:Int) Z17).2)).length:Int).toNat (⟨#[]⟩:BA)) af P O (bS ((rd [(rd af O Z17)] (0:Int) Z17).2)) ((bS ((rd [(rd af O Z17)] (0:Int) Z17).2)).length:Int) (0:Int)
def bG8:FS1 β:=FXs (pU n) n qP (some BN) none [] [3736,7474,14950,59804]
theorem bT3 (L:List BA) (x7 af:List Z26) (P O:Int):bG8 n (gL L x7 af P O) cx=W4 n (fun L x7 p9 ag af P O az ah ai=>cx.nrm (tW L x7 p9 ag af P O az ah ai)) L x7 af P O:=by kernel_rfl
def RU (kn:List BA→List Z26→Z26→List BA→List Z26→Int→Int→List Int→Int→Int→Option β) (ap:List BA→List Z26→Z26→List BA→List Z26→Int→Int→Option β) (L:List BA) (x7:List Z26) (p9:Z26) (ag:List BA) (af:List Z26) (P O:Int) (az:List Int) (ah ai:Int):Option β:=bif (decide (ai < ah)) then (idx ai (az.length:Int)<|(cM9 n (rd az ai (0:Int))).bind fun W=>idx W.1 (L.length:Int)<|idx ai (ag.length:Int)<|kn L x7 p9 (ag.set ai.toNat (rd L W.1 (⟨#[]⟩:BA))) af P O az ah (w64 (ai+1))) else (ap L x7 p9 ag af P O)
def VB:FS1 β:=FXs (pU n) n qP (some BN) none [(2,rI)] [478440,956882,1913766,1913767]
theorem bQ7 (L:List BA) (x7:List Z26) (p9:Z26) (ag:List BA) (af:List Z26) (P O:Int) (az:List Int) (ah ai:Int):VB n (tW L x7 p9 ag af P O az ah ai) cx=RU n (fun L x7 p9 ag af P O az ah ai=>cx.nrm (tW L x7 p9 ag af P O az ah ai)) (fun L x7 p9 ag af P O=>cx.ex 2 (AU L x7 p9 ag af P O)) L x7 p9 ag af P O az ah ai:=by kernel_rfl
def g111_5L (n:Nat) (ap:List BA→List Z26→Z26→List BA→List Z26→Int→Int→Option β):Nat→List BA→List Z26→Z26→List BA→List Z26→Int→Int→List Int→Int→Int→Option β
  | 0,_,_,_,_,_,_,_,_,_,_=>none
  | m+1,L,x7,p9,ag,af,P,O,az,ah,ai=>RU n (g111_5L n ap m) ap L x7 p9 ag af P O az ah ai
def aD5 (ap:List BA→List Z26→Z26→List BA→List Z26→Int→Int→Option β) (L:List BA) (x7:List Z26) (p9:Z26) (ag:List BA) (af:List Z26) (P O:Int) (az:List Int) (ah ai:Int):Option β:=g111_5L n ap n L x7 p9 ag af P O az ah ai
def bC5 (s:FState) (cx:Cx β):Option β:=bO (fun again s=>VB n s {cx with nrm:=again}) n s
theorem aN3 (n:Nat) (cx:Cx β):∀(m:Nat) (L:List BA) (x7:List Z26) (p9:Z26) (ag:List BA) (af:List Z26) (P O:Int) (az:List Int) (ah ai:Int),bO (fun again s=>VB n s {cx with nrm:=again}) m (tW L x7 p9 ag af P O az ah ai)=g111_5L n (fun L x7 p9 ag af P O=>cx.ex 2 (AU L x7 p9 ag af P O)) m L x7 p9 ag af P O az ah ai:=by
  intro m
  induction m with
  | zero=>intros;rfl
  | succ m ih=>intros;simp only [bO,g111_5L,bQ7,ih]
theorem bS1 (L:List BA) (x7:List Z26) (p9:Z26) (ag:List BA) (af:List Z26) (P O:Int) (az:List Int) (ah ai:Int):bC5 n (tW L x7 p9 ag af P O az ah ai) cx=aD5 n (fun L x7 p9 ag af P O=>cx.ex 2 (AU L x7 p9 ag af P O)) L x7 p9 ag af P O az ah ai:=aN3 n cx n L x7 p9 ag af P O az ah ai
def X7 (kn:List BA→List Z26→Z26→List BA→List Z26→Int→Int→Option β) (L:List BA) (x7:List Z26) (p9:Z26) (ag:List BA) (af:List Z26) (P O:Int) (az:List Int) (ah ai:Int):Option β:=aD5 n kn L x7 p9 ag af P O az ah ai
def bL3 (s:FState) (cx:Cx β):Option β:=bC5 n s {cx with ex:=fun j s=>bif Nat.beq j 2 then cx.nrm s else cx.ex j s}
theorem bY2 (L:List BA) (x7:List Z26) (p9:Z26) (ag:List BA) (af:List Z26) (P O:Int) (az:List Int) (ah ai:Int):bL3 n (tW L x7 p9 ag af P O az ah ai) cx=X7 n (fun L x7 p9 ag af P O=>cx.nrm (AU L x7 p9 ag af P O)) L x7 p9 ag af P O az ah ai:=bS1 n _ L x7 p9 ag af P O az ah ai
def aA9 (kn:List BA→List Z26→List Z26→Int→Int→Option β) (L:List BA) (x7:List Z26) (p9:Z26) (ag:List BA) (af:List Z26) (P O:Int):Option β:=(eI5 n ag (⟨#[]⟩:BA)).bind fun W=>cM (x7.length+[(p9.1,W.1)].length)<|kn L (x7++[(p9.1,W.1)]) af P O
def bD2:FS1 β:=FXs (pU n) n qP (some lR) none [] [59806,59807]
theorem cJ3 (L:List BA) (x7:List Z26) (p9:Z26) (ag:List BA) (af:List Z26) (P O:Int):bD2 n (AU L x7 p9 ag af P O) cx=aA9 n (fun L x7 af P O=>cx.nrm (gL L x7 af P O)) L x7 p9 ag af P O:=by kernel_rfl
def UP (kn:List BA→List Z26→List Z26→Int→Int→Option β) (L:List BA) (x7 af:List Z26) (P O:Int):Option β:=W4 n (fun L x7 p9 ag af P O az ah ai=>X7 n (fun L x7 p9 ag af P O=>aA9 n kn L x7 p9 ag af P O) L x7 p9 ag af P O az ah ai) L x7 af P O
def SY (s:FState) (cx:Cx β):Option β:=bG8 n s {cx with nrm:=fun s=>bL3 n s {cx with nrm:=fun s=>bD2 n s cx}}
theorem cE2 (L:List BA) (x7 af:List Z26) (P O:Int):SY n (gL L x7 af P O) cx=UP n (fun L x7 af P O=>cx.nrm (gL L x7 af P O)) L x7 af P O:=by simp only [SY,UP,bT3,bY2,cJ3]
def aK2 (kn:List BA→List Z26→List Z26→Int→Int→Option β) (L:List BA) (x7 af:List Z26) (P O:Int):Option β:=UP n kn L x7 af P O
def bE1 (s:FState) (cx:Cx β):Option β:=SY n s {cx with ex:=fun j s=>bif Nat.beq j 1 then cx.nrm s else cx.ex j s}
theorem cJ5 (L:List BA) (x7 af:List Z26) (P O:Int):bE1 n (gL L x7 af P O) cx=aK2 n (fun L x7 af P O=>cx.nrm (gL L x7 af P O)) L x7 af P O:=cE2 n _ L x7 af P O
def VD (n:Nat) (kn:List BA→List Z26→List Z26→Int→Int→Option β) (L:List BA) (x7 af:List Z26) (P O:Int):Option β:=kn L x7 af P (w64 (O+1))
def B9:FS1 β:=FXs (pU n) n qP (some lR) none [] [935]
theorem V5 (L:List BA) (x7 af:List Z26) (P O:Int):B9 n (gL L x7 af P O) cx=VD n (fun L x7 af P O=>cx.nrm (gL L x7 af P O)) L x7 af P O:=by kernel_rfl
def xN (kn:List BA→List Z26→List Z26→Int→Int→Option β) (ae:List Z26→Option β) (L:List BA) (x7 af:List Z26) (P O:Int):Option β:=VI n (fun L x7 af P O=>aK2 n (fun L x7 af P O=>VD n kn L x7 af P O) L x7 af P O) ae L x7 af P O
def xI (s:FState) (cx:Cx β):Option β:=bC9 n s {cx with nrm:=fun s=>bE1 n s {cx with nrm:=fun s=>B9 n s cx}}
theorem aT8 (L:List BA) (x7 af:List Z26) (P O:Int):xI n (gL L x7 af P O) cx=xN n (fun L x7 af P O=>cx.nrm (gL L x7 af P O)) (fun x7=>cx.ex 0 (tZ x7)) L x7 af P O:=by simp only [xI,xN,bX4,cJ5,V5]
def g111_12L (n:Nat) (ae:List Z26→Option β):Nat→List BA→List Z26→List Z26→Int→Int→Option β
  | 0,_,_,_,_,_=>none
  | m+1,L,x7,af,P,O=>xN n (g111_12L n ae m) ae L x7 af P O
def PY (ae:List Z26→Option β) (L:List BA) (x7 af:List Z26) (P O:Int):Option β:=g111_12L n ae n L x7 af P O
def YK (s:FState) (cx:Cx β):Option β:=bO (fun again s=>xI n s {cx with nrm:=again}) n s
theorem YP (n:Nat) (cx:Cx β):∀(m:Nat) (L:List BA) (x7 af:List Z26) (P O:Int),bO (fun again s=>xI n s {cx with nrm:=again}) m (gL L x7 af P O)=g111_12L n (fun x7=>cx.ex 0 (tZ x7)) m L x7 af P O:=by
  intro m
  induction m with
  | zero=>intros;rfl
  | succ m ih=>intros;simp only [bO,g111_12L,aT8,ih]
theorem aC3 (L:List BA) (x7 af:List Z26) (P O:Int):YK n (gL L x7 af P O) cx=PY n (fun x7=>cx.ex 0 (tZ x7)) L x7 af P O:=YP n cx n L x7 af P O
def XF (kn:List Z26→Option β) (L:List BA) (x7 af:List Z26) (P O:Int):Option β:=PY n kn L x7 af P O
def ZX (s:FState) (cx:Cx β):Option β:=YK n s {cx with ex:=fun j s=>bif Nat.beq j 0 then cx.nrm s else cx.ex j s}
theorem aO5 (L:List BA) (x7 af:List Z26) (P O:Int):ZX n (gL L x7 af P O) cx=XF n (fun x7=>cx.nrm (tZ x7)) L x7 af P O:=aC3 n _ L x7 af P O
def PJ (n:Nat) (kr:List Z26→Option β) (x7:List Z26):Option β:=kr x7
def F0:FS1 β:=FXs (pU n) n qP none (some MD) [] [30,31]
theorem aF5 (x7:List Z26):F0 n (tZ x7) cx=PJ n (fun y=>cx.ret (bB7 y)) x7:=by kernel_rfl
def GB (kr:List Z26→Option β) (C:Z11) (B:List Z26) (L:List BA):Option β:=n9 n (fun L x7 af P O=>XF n (fun x7=>PJ n kr x7) L x7 af P O) C B L
def xT (s:FState) (cx:Cx β):Option β:=bM6 n s {cx with nrm:=fun s=>ZX n s {cx with nrm:=fun s=>F0 n s cx}}
theorem aK3 (C:Z11) (B:List Z26) (L:List BA):xT n (WU C B L) cx=GB n (fun y=>cx.ret (bB7 y)) C B L:=by simp only [xT,GB,bT9,aO5,aF5]
def dO7 (C:Z11) (B:List Z26) (L:List BA):Option (DenR [.rw Z22 115]):=GB n (fun y=>some (y,())) C B L
def cR1:List AK:=[.pro Z1 106,.ro Z22 115,.ro .str 9]
def y8:List RK:=[.rw Z22 115]
def eT7 (d:DenA cR1):Option (DenR y8):=dO7 n d.1 d.2.1 d.2.2.1
def eA0:Spec:=aQ cR1 y8 (eT7 n)
def dP0:Sk:=(.nd (.fin none none none [] .leaf) (.nd (.fin none none none [] .leaf) (.nd (.nd (.fin none (some lR) none [] .leaf) (.nd (.nd (.nd (.fin none none none [(0,LA)] .leaf) (.nd (.fin none (some lR) none [(0,LA)] .leaf) (.nd (.nd (.nd (.fin none none none [] .leaf) (.nd (.fin none none none [] .leaf) (.nd (.fin none none none [] .leaf) (.nd (.nd (.fin none (some BN) none [] .leaf) (.nd (.nd (.nd (.fin none none none [(2,rI)] .leaf) (.nd (.fin none none none [(2,rI)] .leaf) (.nd (.fin none none none [(2,rI)] .leaf) (.fin none (some BN) none [(2,rI)] .leaf)))) .leaf) .leaf)) (.nd (.fin none none none [] .leaf) (.fin none (some lR) none [] .leaf)))))) .leaf) (.fin none (some lR) none [] .leaf)))) .leaf) .leaf)) (.nd (.fin none none (some MD) [] .leaf) (.fin none none (some MD) [] .leaf)))))
theorem dU9 (s:FState) (cx:Cx β):FX (pU n) n qP dP0 s cx=xT n s cx:=by kernel_rfl
theorem dM5:Fit Tryd.prog 111 (eA0 n):=
  cJ (Γ:=Γ0) (l:=dH4 n) (n:=n) (sk:=dP0) (ts:=[(6,none)]) (fn:=Tryd.f111) (c:=qP) (by kernel_rfl) (by kernel_rfl) (by unfold aS;kernel_rfl) cF ⟨dJ2 n,cO5 n,trivial⟩ aO (by kernel_rfl) (by kernel_rfl) (Nat.le_of_ble_eq_true (by kernel_rfl)) (Nat.le_of_ble_eq_true (by kernel_rfl)) (by kernel_rfl) (by kernel_rfl)
    (fun d=>(dU9 n _ _).trans (Eq.trans (b:=xT n (WU d.1 d.2.1 d.2.2.1) (cS (pU n) y8 [(6,none)])) (by kernel_rfl) ((aK3 n _ d.1 d.2.1 d.2.2.1).trans (by kernel_rfl))))
def aA2 (Z:BA):FState:=⟨aM [(0,.dat .str Z)],aE []⟩
def wE (S:Int):FState:=⟨aM [(2,.dat (.int .i64) S)],aE []⟩
def qS:List NE:=[.keep 2]
def BZ (S:Int) (s4:BA) (i4:Nat):FState:=⟨aM [(2,.dat (.int .i64) S),(4,.it 4)],aE [(4,.siter s4 i4)]⟩
def GK:List NE:=[.keep 2,.it 4]
def eL6 (n:Nat):List (Nat×Spec):=[]
def M4:Ctx:={Γ0 with calls:=lkS (eL6 n)}
def P4:Code:=fb Tryd.f85
def dP9 (n:Nat) (kn:Int→BA→Nat→Option β) (Z:BA):Option β:=kn (0:Int) Z 0
def dU1:FS1 β:=FXs (M4 n) n P4 (some GK) none [] [2,12]
theorem cV7 (Z:BA):dU1 n (aA2 Z) cx=dP9 n (fun S s4 i4=>cx.nrm (BZ S s4 i4)) Z:=by kernel_rfl
def bG5 (n:Nat) (kn:Int→BA→Nat→Option β) (ae:Int→Option β) (S:Int) (s4:BA) (i4:Nat):Option β:=bif Nat.blt i4 s4.size then (kn (w64 (S+1)) s4 (i4+(Utf8.decode s4 i4).2)) else (ae S)
def aD3:FS1 β:=FXs (M4 n) n P4 (some GK) none [(0,qS)] [104,210,211]
theorem dM7 (S:Int) (s4:BA) (i4:Nat):aD3 n (BZ S s4 i4) cx=bG5 n (fun S s4 i4=>cx.nrm (BZ S s4 i4)) (fun S=>cx.ex 0 (wE S)) S s4 i4:=by kernel_rfl
def g85_3L (n:Nat) (ae:Int→Option β):Nat→Int→BA→Nat→Option β
  | 0,_,_,_=>none
  | m+1,S,s4,i4=>bG5 n (g85_3L n ae m) ae S s4 i4
def dP3 (ae:Int→Option β) (S:Int) (s4:BA) (i4:Nat):Option β:=g85_3L n ae n S s4 i4
def dY0 (s:FState) (cx:Cx β):Option β:=bO (fun again s=>aD3 n s {cx with nrm:=again}) n s
theorem bO7 (n:Nat) (cx:Cx β):∀(m:Nat) (S:Int) (s4:BA) (i4:Nat),bO (fun again s=>aD3 n s {cx with nrm:=again}) m (BZ S s4 i4)=g85_3L n (fun S=>cx.ex 0 (wE S)) m S s4 i4:=by
  intro m
  induction m with
  | zero=>intros;rfl
  | succ m ih=>intros;simp only [bO,g85_3L,dM7,ih]
theorem cV6 (S:Int) (s4:BA) (i4:Nat):dY0 n (BZ S s4 i4) cx=dP3 n (fun S=>cx.ex 0 (wE S)) S s4 i4:=bO7 n cx n S s4 i4
def cW8 (kn:Int→Option β) (S:Int) (s4:BA) (i4:Nat):Option β:=dP3 n kn S s4 i4
def cV5 (s:FState) (cx:Cx β):Option β:=dY0 n s {cx with ex:=fun j s=>bif Nat.beq j 0 then cx.nrm s else cx.ex j s}
theorem dM1 (S:Int) (s4:BA) (i4:Nat):cV5 n (BZ S s4 i4) cx=cW8 n (fun S=>cx.nrm (wE S)) S s4 i4:=cV6 n _ S s4 i4
def dJ3 (n:Nat) (kr:Int→Option β) (S:Int):Option β:=kr S
def cV9:FS1 β:=FXs (M4 n) n P4 none (some qS) [] [14,15]
theorem cW3 (S:Int):cV9 n (wE S) cx=dJ3 n (fun S=>cx.ret (wE S)) S:=by kernel_rfl
def aX9 (kr:Int→Option β) (Z:BA):Option β:=dP9 n (fun S s4 i4=>cW8 n (fun S=>dJ3 n kr S) S s4 i4) Z
def UC (s:FState) (cx:Cx β):Option β:=dU1 n s {cx with nrm:=fun s=>cV5 n s {cx with nrm:=fun s=>cV9 n s cx}}
theorem cV4 (Z:BA):UC n (aA2 Z) cx=aX9 n (fun S=>cx.ret (wE S)) Z:=by simp only [UC,aX9,cV7,dM1,cW3]
def g85 (Z:BA):Option (DenR [.dat (.int .i64)]):=aX9 n (fun S=>some (S,())) Z
def eM3:List AK:=[.dat .str]
def dP8:List RK:=[.dat (.int .i64)]
def fA3 (d:DenA eM3):Option (DenR dP8):=g85 n d.1
def eO9:Spec:=aQ eM3 dP8 (fA3 n)
def eP1:Sk:=(.nd (.fin none none none [] .leaf) (.nd (.nd (.fin none (some GK) none [] .leaf) (.nd (.nd (.nd (.fin none none none [(0,qS)] .leaf) (.nd (.fin none none none [(0,qS)] .leaf) (.fin none (some GK) none [(0,qS)] .leaf))) .leaf) .leaf)) (.nd (.fin none none (some qS) [] .leaf) (.fin none none (some qS) [] .leaf))))
theorem eE0 (s:FState) (cx:Cx β):FX (M4 n) n P4 eP1 s cx=UC n s cx:=by kernel_rfl
theorem eH8:Fit Tryd.prog 85 (eO9 n):=
  cJ (Γ:=Γ0) (l:=eL6 n) (n:=n) (sk:=eP1) (ts:=[(2,none)]) (fn:=Tryd.f85) (c:=P4) (by kernel_rfl) (by kernel_rfl) (by unfold aS;kernel_rfl) cF trivial aO (by kernel_rfl) (by kernel_rfl) (Nat.le_of_ble_eq_true (by kernel_rfl)) (Nat.le_of_ble_eq_true (by kernel_rfl)) (by kernel_rfl) (by kernel_rfl)
    (fun d=>(eE0 n _ _).trans (Eq.trans (b:=UC n (aA2 d.1) (cS (M4 n) dP8 [(2,none)])) (by kernel_rfl) ((cV4 n _ d.1).trans (by kernel_rfl))))
theorem eI1 (a b:Nat) (w:World):(callFunc 161 #[.float .f64 a,.float .f64 b]).run Tryd.prog w= .ok (.value (.float .f64 (RX a b))) w:=by
  rw [run_callFunc_extern (fn:=Tryd.f161) (e:=Extern.MathDim.pick "math.archMax" false .gt) (by rfl) (by rfl) (by rfl) (by kernel_rfl) (by kernel_rfl)]
  rfl
attribute [local go_sem] eI1
theorem aF6 (a0 a1:Nat) (w:World):Calls Tryd.prog 140 #[.float .f64 a0,.float .f64 a1] w fun e w'=>e= .returned (.float .f64 (RX a0 a1))∧w'=w:=by
  go_enter Tryd.func140,Tryd.ntmps140
  go_wp2
  go_ret
  exact ⟨rfl,rfl⟩
def dE9:List AK:=[.dat (.flt .f64),.dat (.flt .f64)]
def dG7:List RK:=[.dat (.flt .f64)]
def eG7 (n Z J:Nat):Option (DenR [.dat (.flt .f64)]):=some (RX Z J,())
def eX5 (d:DenA dE9):Option (DenR dG7):=eG7 n d.1 d.2.1
def dC0:Spec:=aQ dE9 dG7 (eX5 n)
theorem dE6:Fit Tryd.prog 140 (dC0 n):=BC (by unfold aS;kernel_rfl) rfl fun d x w vs hG ha hx=>by
  obtain ⟨v,vs1,o1,o2,rfl,_,⟨_,cs,h1,h2⟩,v',vs2,o3,o4,rfl,_,⟨_,cs',h3,h4⟩,h5,_⟩:=ha
  obtain ⟨a,b,u⟩:=d
  subst h5
  have h1:cs=[Value.float .f64 a]:=h1
  have h3:cs'=[Value.float .f64 b]:=h3
  subst h1
  subst h3
  simp [K.isPair] at h2 h4
  subst h2
  subst h4
  cases hx
  exact (aF6 a b w).mono fun e w' ⟨he,hw⟩=>⟨[.float .f64 (RX a b)],he,⟨_,_,[],[],rfl,rfl,⟨rfl,_,rfl,rfl⟩,rfl,rfl⟩,by rw [hw];exact ⟨rfl,rfl,rfl,Nat.le_refl _,fun _ _=>rfl⟩⟩
def WP (M:List Z26) (J S:Int) (z:List Z26):FState:=⟨aM [(0,.sl 0 none false),(1,.dat (.int .i64) J),(2,.dat (.int .i64) S),(3,.sl 3 none false)],aE [(0,.row Z22 115 true M),(3,.row Z22 115 false z)]⟩
def tY (X:List Z26):FState:=⟨aM [(8,.sl 8 none false)],aE [(8,.row Z22 115 true X)]⟩
def gN:List NE:=[.row 8 Z22 115 true]
def AN (M:List Z26) (J S:Int) (z:List Z26) (be:Bool):FState:=⟨aM [(0,.sl 0 none false),(1,.dat (.int .i64) J),(2,.dat (.int .i64) S),(3,.sl 3 none false),(26,.dat .bool be)],aE [(0,.row Z22 115 true M),(3,.row Z22 115 false z)]⟩
def YU:List NE:=[.row 0 Z22 115 true,.keep 1,.keep 2,.row 3 Z22 115 false,.keep 26]
def nZ (M:List Z26) (J S:Int) (z:List Z26):FState:=⟨aM [(0,.sl 0 none false),(1,.dat (.int .i64) J),(2,.dat (.int .i64) S),(3,.sl 3 none false)],aE [(0,.row Z22 115 true M),(3,.row Z22 115 false z)]⟩
def oZ:List NE:=[.row 0 Z22 115 true,.keep 1,.keep 2,.row 3 Z22 115 false]
def tI (M:List Z26) (F ba bb bc aq:Int):FState:=⟨aM [(0,.sl 0 none false),(9,.dat (.int .i64) F),(10,.sl 0 (some (ba,bb)) false),(55,.dat (.int .i64) bc),(56,.dat (.int .i64) aq)],aE [(0,.row Z22 115 true M)]⟩
def zM:List NE:=[.row 0 Z22 115 true,.keep 9,.row 10 Z22 115 true,.keep 55,.keep 56]
def yO (M:List Z26) (F:Int):FState:=⟨aM [(0,.sl 0 none false),(9,.dat (.int .i64) F)],aE [(0,.row Z22 115 true M)]⟩
def rK:List NE:=[.row 0 Z22 115 true,.keep 9]
def tF (M:List Z26) (J S:Int) (z:List Z26) (N:Int):FState:=⟨aM [(0,.sl 0 none false),(1,.dat (.int .i64) J),(2,.dat (.int .i64) S),(3,.sl 3 none false),(12,.dat (.int .i64) N)],aE [(0,.row Z22 115 true M),(3,.row Z22 115 false z)]⟩
def AH:List NE:=[.row 0 Z22 115 true,.keep 1,.keep 2,.row 3 Z22 115 false,.keep 12]
def dD7 (n:Nat):List (Nat×Spec):=[]
def oS:Ctx:={Γ0 with calls:=lkS (dD7 n)}
def mX:Code:=fb Tryd.f113
def Z0 (n:Nat) (kn:List Z26→Int→Int→List Z26→Bool→Option β) (kr:List Z26→Option β) (M:List Z26) (J S:Int) (z:List Z26):Option β:=bif ((z.length:Int)==S) then (bnd J (M.length:Int) (M.length:Int)<|kr (bG M (J+(0:Int)) ((M.length:Int) - J) z)) else (kn M J S z (decide ((z.length:Int) < S)))
def aV5:FS1 β:=FXs (oS n) n mX (some YU) (some gN) [] [2,12,13,28]
theorem bY0 (M:List Z26) (J S:Int) (z:List Z26):aV5 n (WP M J S z) cx=Z0 n (fun M J S z be=>cx.nrm (AN M J S z be)) (fun X=>cx.ret (tY X)) M J S z:=by kernel_rfl
def aG2 (n:Nat) (kn:List Z26→Int→Int→Int→Int→Int→Option β) (M:List Z26) (J S:Int) (z:List Z26) (be:Bool):Option β:=bnd J (M.length:Int) (M.length:Int)<|bnd (w64 (J+(z.length:Int))) ((bG M (J+(0:Int)) ((M.length:Int) - J) z).length:Int) ((bG M (J+(0:Int)) ((M.length:Int) - J) z).length:Int)<|bnd (w64 (J+S)) ((bG M (J+(0:Int)) ((M.length:Int) - J) z).length:Int) ((bG M (J+(0:Int)) ((M.length:Int) - J) z).length:Int)<|bnd (w64 ((w64 (((bG (bG M (J+(0:Int)) ((M.length:Int) - J) z) ((w64 (J+(z.length:Int)))+(0:Int)) (((bG M (J+(0:Int)) ((M.length:Int) - J) z).length:Int) - (w64 (J+(z.length:Int)))) (cut (bG M (J+(0:Int)) ((M.length:Int) - J) z) (w64 (J+S)) ((w64 (J+S))+(((bG M (J+(0:Int)) ((M.length:Int) - J) z).length:Int) - (w64 (J+S)))))).length:Int) - S))+(z.length:Int))) ((bG (bG M (J+(0:Int)) ((M.length:Int) - J) z) ((w64 (J+(z.length:Int)))+(0:Int)) (((bG M (J+(0:Int)) ((M.length:Int) - J) z).length:Int) - (w64 (J+(z.length:Int)))) (cut (bG M (J+(0:Int)) ((M.length:Int) - J) z) (w64 (J+S)) ((w64 (J+S))+(((bG M (J+(0:Int)) ((M.length:Int) - J) z).length:Int) - (w64 (J+S)))))).length:Int) ((bG (bG M (J+(0:Int)) ((M.length:Int) - J) z) ((w64 (J+(z.length:Int)))+(0:Int)) (((bG M (J+(0:Int)) ((M.length:Int) - J) z).length:Int) - (w64 (J+(z.length:Int)))) (cut (bG M (J+(0:Int)) ((M.length:Int) - J) z) (w64 (J+S)) ((w64 (J+S))+(((bG M (J+(0:Int)) ((M.length:Int) - J) z).length:Int) - (w64 (J+S)))))).length:Int)<|kn (bG (bG M (J+(0:Int)) ((M.length:Int) - J) z) ((w64 (J+(z.length:Int)))+(0:Int)) (((bG M (J+(0:Int)) ((M.length:Int) - J) z).length:Int) - (w64 (J+(z.length:Int)))) (cut (bG M (J+(0:Int)) ((M.length:Int) - J) z) (w64 (J+S)) ((w64 (J+S))+(((bG M (J+(0:Int)) ((M.length:Int) - J) z).length:Int) - (w64 (J+S)))))) (w64 ((w64 (((bG (bG M (J+(0:Int)) ((M.length:Int) - J) z) ((w64 (J+(z.length:Int)))+(0:Int)) (((bG M (J+(0:Int)) ((M.length:Int) - J) z).length:Int) - (w64 (J+(z.length:Int)))) (cut (bG M (J+(0:Int)) ((M.length:Int) - J) z) (w64 (J+S)) ((w64 (J+S))+(((bG M (J+(0:Int)) ((M.length:Int) - J) z).length:Int) - (w64 (J+S)))))).length:Int) - S))+(z.length:Int))) (w64 ((w64 (((bG (bG M (J+(0:Int)) ((M.length:Int) - J) z) ((w64 (J+(z.length:Int)))+(0:Int)) (((bG M (J+(0:Int)) ((M.length:Int) - J) z).length:Int) - (w64 (J+(z.length:Int)))) (cut (bG M (J+(0:Int)) ((M.length:Int) - J) z) (w64 (J+S)) ((w64 (J+S))+(((bG M (J+(0:Int)) ((M.length:Int) - J) z).length:Int) - (w64 (J+S)))))).length:Int) - S))+(z.length:Int))) (((bG (bG M (J+(0:Int)) ((M.length:Int) - J) z) ((w64 (J+(z.length:Int)))+(0:Int)) (((bG M (J+(0:Int)) ((M.length:Int) - J) z).length:Int) - (w64 (J+(z.length:Int)))) (cut (bG M (J+(0:Int)) ((M.length:Int) - J) z) (w64 (J+S)) ((w64 (J+S))+(((bG M (J+(0:Int)) ((M.length:Int) - J) z).length:Int) - (w64 (J+S)))))).length:Int) - (w64 ((w64 (((bG (bG M (J+(0:Int)) ((M.length:Int) - J) z) ((w64 (J+(z.length:Int)))+(0:Int)) (((bG M (J+(0:Int)) ((M.length:Int) - J) z).length:Int) - (w64 (J+(z.length:Int)))) (cut (bG M (J+(0:Int)) ((M.length:Int) - J) z) (w64 (J+S)) ((w64 (J+S))+(((bG M (J+(0:Int)) ((M.length:Int) - J) z).length:Int) - (w64 (J+S)))))).length:Int) - S))+(z.length:Int)))) (((bG (bG M (J+(0:Int)) ((M.length:Int) - J) z) ((w64 (J+(z.length:Int)))+(0:Int)) (((bG M (J+(0:Int)) ((M.length:Int) - J) z).length:Int) - (w64 (J+(z.length:Int)))) (cut (bG M (J+(0:Int)) ((M.length:Int) - J) z) (w64 (J+S)) ((w64 (J+S))+(((bG M (J+(0:Int)) ((M.length:Int) - J) z).length:Int) - (w64 (J+S)))))).length:Int) - (w64 ((w64 (((bG (bG M (J+(0:Int)) ((M.length:Int) - J) z) ((w64 (J+(z.length:Int)))+(0:Int)) (((bG M (J+(0:Int)) ((M.length:Int) - J) z).length:Int) - (w64 (J+(z.length:Int)))) (cut (bG M (J+(0:Int)) ((M.length:Int) - J) z) (w64 (J+S)) ((w64 (J+S))+(((bG M (J+(0:Int)) ((M.length:Int) - J) z).length:Int) - (w64 (J+S)))))).length:Int) - S))+(z.length:Int)))) (0:Int)
def bK0:FS1 β:=FXs (oS n) n mX (some zM) none [] [116,234,470,942,3772]
theorem cA9 (M:List Z26) (J S:Int) (z:List Z26) (be:Bool):bK0 n (AN M J S z be) cx=aG2 n (fun M F ba bb bc aq=>cx.nrm (tI M F ba bb bc aq)) M J S z be:=by kernel_rfl
def VU (n:Nat) (kn:List Z26→Int→Int→Int→Int→Int→Option β) (ae:List Z26→Int→Option β) (M:List Z26) (F ba bb bc aq:Int):Option β:=bif (decide (aq < bc)) then (idx aq bb<|kn (M.set (ba+aq).toNat Z17) F ba bb bc (w64 (aq+1))) else (ae M F)
def QV:FS1 β:=FXs (oS n) n mX (some zM) none [(0,rK)] [30184,60370,120742,120743]
theorem bZ1 (M:List Z26) (F ba bb bc aq:Int):QV n (tI M F ba bb bc aq) cx=VU n (fun M F ba bb bc aq=>cx.nrm (tI M F ba bb bc aq)) (fun M F=>cx.ex 0 (yO M F)) M F ba bb bc aq:=by kernel_rfl
def g113_4L (n:Nat) (ae:List Z26→Int→Option β):Nat→List Z26→Int→Int→Int→Int→Int→Option β
  | 0,_,_,_,_,_,_=>none
  | m+1,M,F,ba,bb,bc,aq=>VU n (g113_4L n ae m) ae M F ba bb bc aq
def aL3 (ae:List Z26→Int→Option β) (M:List Z26) (F ba bb bc aq:Int):Option β:=g113_4L n ae n M F ba bb bc aq
def bM0 (s:FState) (cx:Cx β):Option β:=bO (fun again s=>QV n s {cx with nrm:=again}) n s
theorem aU3 (n:Nat) (cx:Cx β):∀(m:Nat) (M:List Z26) (F ba bb bc aq:Int),bO (fun again s=>QV n s {cx with nrm:=again}) m (tI M F ba bb bc aq)=g113_4L n (fun M F=>cx.ex 0 (yO M F)) m M F ba bb bc aq:=by
  intro m
  induction m with
  | zero=>intros;rfl
  | succ m ih=>intros;simp only [bO,g113_4L,bZ1,ih]
theorem bZ7 (M:List Z26) (F ba bb bc aq:Int):bM0 n (tI M F ba bb bc aq) cx=aL3 n (fun M F=>cx.ex 0 (yO M F)) M F ba bb bc aq:=aU3 n cx n M F ba bb bc aq
def T8 (kn:List Z26→Int→Option β) (M:List Z26) (F ba bb bc aq:Int):Option β:=aL3 n kn M F ba bb bc aq
def bF8 (s:FState) (cx:Cx β):Option β:=bM0 n s {cx with ex:=fun j s=>bif Nat.beq j 0 then cx.nrm s else cx.ex j s}
theorem bS2 (M:List Z26) (F ba bb bc aq:Int):bF8 n (tI M F ba bb bc aq) cx=T8 n (fun M F=>cx.nrm (yO M F)) M F ba bb bc aq:=bZ7 n _ M F ba bb bc aq
def QP (n:Nat) (kr:List Z26→Option β) (M:List Z26) (F:Int):Option β:=bnd (0:Int) F (M.length:Int)<|kr (cut M (0:Int) ((0:Int)+(F - (0:Int))))
def bG0:FS1 β:=FXs (oS n) n mX none (some gN) [] [3774,3775]
theorem bO4 (M:List Z26) (F:Int):bG0 n (yO M F) cx=QP n (fun X=>cx.ret (tY X)) M F:=by kernel_rfl
def UO (kr:List Z26→Option β) (M:List Z26) (J S:Int) (z:List Z26) (be:Bool):Option β:=aG2 n (fun M F ba bb bc aq=>T8 n (fun M F=>QP n kr M F) M F ba bb bc aq) M J S z be
def UX (s:FState) (cx:Cx β):Option β:=bK0 n s {cx with nrm:=fun s=>bF8 n s {cx with nrm:=fun s=>bG0 n s cx}}
theorem bV2 (M:List Z26) (J S:Int) (z:List Z26) (be:Bool):UX n (AN M J S z be) cx=UO n (fun X=>cx.ret (tY X)) M J S z be:=by simp only [UX,UO,cA9,bS2,bO4]
def aL2 (n:Nat) (kn:List Z26→Int→Int→List Z26→Option β) (M:List Z26) (J S:Int) (z:List Z26) (be:Bool):Option β:=kn M J S z
def aV3:FS1 β:=FXs (oS n) n mX (some oZ) none [] [59]
theorem bT6 (M:List Z26) (J S:Int) (z:List Z26) (be:Bool):aV3 n (AN M J S z be) cx=aL2 n (fun M J S z=>cx.nrm (nZ M J S z)) M J S z be:=by kernel_rfl
def TZ (kn:List Z26→Int→Int→List Z26→Option β) (kr:List Z26→Option β) (M:List Z26) (J S:Int) (z:List Z26) (be:Bool):Option β:=bif be then UO n kr M J S z be else aL2 n kn M J S z be
def TN (s:FState) (cx:Cx β):Option β:=asBool (ev s (kU (nav mX [1,1,0,1]))) fun t=>cond t (UX n s cx) (aV3 n s cx)
theorem bP6 (M:List Z26) (J S:Int) (z:List Z26) (be:Bool):TN n (AN M J S z be) cx=TZ n (fun M J S z=>cx.nrm (nZ M J S z)) (fun X=>cx.ret (tY X)) M J S z be:=by
  simp only [TN,TZ,bV2,bT6]
  kernel_rfl
def RE (n:Nat) (kn:List Z26→Int→Int→List Z26→Int→Option β) (M:List Z26) (J S:Int) (z:List Z26):Option β:=kn M J S z (w64 ((w64 ((M.length:Int) - S))+(z.length:Int)))
def M0:FS1 β:=FXs (oS n) n mX (some AH) none [] [30]
theorem aP1 (M:List Z26) (J S:Int) (z:List Z26):M0 n (nZ M J S z) cx=RE n (fun M J S z N=>cx.nrm (tF M J S z N)) M J S z:=by kernel_rfl
def FU (n:Nat) (kn:List Z26→Int→Int→List Z26→Int→Option β) (ap:List Z26→Int→Int→List Z26→Option β) (M:List Z26) (J S:Int) (z:List Z26) (N:Int):Option β:=bif (decide ((M.length:Int) < N)) then (cM (M.length+[Z17].length)<|kn (M++[Z17]) J S z N) else (ap M J S z)
def KV:FS1 β:=FXs (oS n) n mX (some AH) none [(2,oZ)] [992,993,497]
theorem aF3 (M:List Z26) (J S:Int) (z:List Z26) (N:Int):KV n (tF M J S z N) cx=FU n (fun M J S z N=>cx.nrm (tF M J S z N)) (fun M J S z=>cx.ex 2 (nZ M J S z)) M J S z N:=by kernel_rfl
def g113_12L (n:Nat) (ap:List Z26→Int→Int→List Z26→Option β):Nat→List Z26→Int→Int→List Z26→Int→Option β
  | 0,_,_,_,_,_=>none
  | m+1,M,J,S,z,N=>FU n (g113_12L n ap m) ap M J S z N
def RL (ap:List Z26→Int→Int→List Z26→Option β) (M:List Z26) (J S:Int) (z:List Z26) (N:Int):Option β:=g113_12L n ap n M J S z N
def Q8 (s:FState) (cx:Cx β):Option β:=bO (fun again s=>KV n s {cx with nrm:=again}) n s
theorem B5 (n:Nat) (cx:Cx β):∀(m:Nat) (M:List Z26) (J S:Int) (z:List Z26) (N:Int),bO (fun again s=>KV n s {cx with nrm:=again}) m (tF M J S z N)=g113_12L n (fun M J S z=>cx.ex 2 (nZ M J S z)) m M J S z N:=by
  intro m
  induction m with
  | zero=>intros;rfl
  | succ m ih=>intros;simp only [bO,g113_12L,aF3,ih]
theorem aU2 (M:List Z26) (J S:Int) (z:List Z26) (N:Int):Q8 n (tF M J S z N) cx=RL n (fun M J S z=>cx.ex 2 (nZ M J S z)) M J S z N:=B5 n cx n M J S z N
def UT (kn:List Z26→Int→Int→List Z26→Option β) (M:List Z26) (J S:Int) (z:List Z26) (N:Int):Option β:=RL n kn M J S z N
def J1 (s:FState) (cx:Cx β):Option β:=Q8 n s {cx with ex:=fun j s=>bif Nat.beq j 2 then cx.nrm s else cx.ex j s}
theorem aT2 (M:List Z26) (J S:Int) (z:List Z26) (N:Int):J1 n (tF M J S z N) cx=UT n (fun M J S z=>cx.nrm (nZ M J S z)) M J S z N:=aU2 n _ M J S z N
def ES (n:Nat) (kr:List Z26→Option β) (M:List Z26) (J S:Int) (z:List Z26):Option β:=bnd (w64 (J+(z.length:Int))) (M.length:Int) (M.length:Int)<|bnd (w64 (J+S)) (M.length:Int) (M.length:Int)<|bnd J ((bG M ((w64 (J+(z.length:Int)))+(0:Int)) ((M.length:Int) - (w64 (J+(z.length:Int)))) (cut M (w64 (J+S)) ((w64 (J+S))+((M.length:Int) - (w64 (J+S)))))).length:Int) ((bG M ((w64 (J+(z.length:Int)))+(0:Int)) ((M.length:Int) - (w64 (J+(z.length:Int)))) (cut M (w64 (J+S)) ((w64 (J+S))+((M.length:Int) - (w64 (J+S)))))).length:Int)<|kr (bG (bG M ((w64 (J+(z.length:Int)))+(0:Int)) ((M.length:Int) - (w64 (J+(z.length:Int)))) (cut M (w64 (J+S)) ((w64 (J+S))+((M.length:Int) - (w64 (J+S)))))) (J+(0:Int)) (((bG M ((w64 (J+(z.length:Int)))+(0:Int)) ((M.length:Int) - (w64 (J+(z.length:Int)))) (cut M (w64 (J+S)) ((w64 (J+S))+((M.length:Int) - (w64 (J+S)))))).length:Int) - J) z)
def P6:FS1 β:=FXs (oS n) n mX none (some gN) [] [126,254,510,511]
theorem U5 (M:List Z26) (J S:Int) (z:List Z26):P6 n (nZ M J S z) cx=ES n (fun X=>cx.ret (tY X)) M J S z:=by kernel_rfl
def EM (kr:List Z26→Option β) (M:List Z26) (J S:Int) (z:List Z26):Option β:=Z0 n (fun M J S z be=>TZ n (fun M J S z=>RE n (fun M J S z N=>UT n (fun M J S z=>ES n kr M J S z) M J S z N) M J S z) kr M J S z be) kr M J S z
def yB (s:FState) (cx:Cx β):Option β:=aV5 n s {cx with nrm:=fun s=>TN n s {cx with nrm:=fun s=>M0 n s {cx with nrm:=fun s=>J1 n s {cx with nrm:=fun s=>P6 n s cx}}}}
theorem T1 (M:List Z26) (J S:Int) (z:List Z26):yB n (WP M J S z) cx=EM n (fun X=>cx.ret (tY X)) M J S z:=by simp only [yB,EM,bY0,bP6,aP1,aT2,U5]
def qV (M:List Z26) (J S:Int) (z:List Z26):Option (DenR [.rw Z22 115]):=EM n (fun X=>some (X,())) M J S z
def dI0:List AK:=[.rw Z22 115,.dat (.int .i64),.dat (.int .i64),.ro Z22 115]
def aL4:List RK:=[.rw Z22 115]
def eW2 (d:DenA dI0):Option (DenR aL4):=qV n d.1 d.2.1 d.2.2.1 d.2.2.2.1
def JL:Spec:=aQ dI0 aL4 (eW2 n)
def dJ1:Sk:=(.nd (.fin none none (some gN) [] .leaf) (.nd (.nd (.fin none none (some gN) [] .leaf) (.fin none none (some gN) [] .leaf)) (.nd (.nd (.fin none (some YU) (some gN) [] .leaf) (.nd (.nd (.fin none none none [] .leaf) (.nd (.fin none none none [] .leaf) (.nd (.fin none none none [] .leaf) (.nd (.fin none none none [] .leaf) (.nd (.nd (.fin none (some zM) none [] .leaf) (.nd (.nd (.nd (.fin none none none [(0,rK)] .leaf) (.nd (.fin none none none [(0,rK)] .leaf) (.nd (.fin none none none [(0,rK)] .leaf) (.fin none (some zM) none [(0,rK)] .leaf)))) .leaf) .leaf)) (.nd (.fin none none (some gN) [] .leaf) (.fin none none (some gN) [] .leaf))))))) (.fin none (some oZ) none [] .leaf))) (.nd (.fin none (some AH) none [] .leaf) (.nd (.nd (.nd (.nd (.nd (.fin none none none [(2,oZ)] .leaf) (.fin none none none [(2,oZ)] .leaf)) (.fin none (some AH) none [(2,oZ)] .leaf)) .leaf) .leaf) (.nd (.fin none none (some gN) [] .leaf) (.nd (.fin none none (some gN) [] .leaf) (.nd (.fin none none (some gN) [] .leaf) (.fin none none (some gN) [] .leaf)))))))))
theorem dQ3 (s:FState) (cx:Cx β):FX (oS n) n mX dJ1 s cx=yB n s cx:=by kernel_rfl
theorem yP:Fit Tryd.prog 113 (JL n):=
  cJ (Γ:=Γ0) (l:=dD7 n) (n:=n) (sk:=dJ1) (ts:=[(8,none)]) (fn:=Tryd.f113) (c:=mX) (by kernel_rfl) (by kernel_rfl) (by unfold aS;kernel_rfl) cF trivial aO (by kernel_rfl) (by kernel_rfl) (Nat.le_of_ble_eq_true (by kernel_rfl)) (Nat.le_of_ble_eq_true (by kernel_rfl)) (by kernel_rfl) (by kernel_rfl)
    (fun d=>(dQ3 n _ _).trans (Eq.trans (b:=yB n (WP d.1 d.2.1 d.2.2.1 d.2.2.2.1) (cS (oS n) aL4 [(8,none)])) (by kernel_rfl) ((T1 n _ d.1 d.2.1 d.2.2.1 d.2.2.2.1).trans (by kernel_rfl))))
def RH (M B:List Int):FState:=⟨aM [(0,.sl 0 none false),(1,.sl 1 none false)],aE [(0,.row (.int .i32) 21 false M),(1,.row (.int .i32) 21 false B)]⟩
def uM (v4:Int):FState:=⟨aM [(4,.dat (.int .i64) v4)],aE []⟩
def lO:List NE:=[.keep 4]
def uF (M B:List Int) (D:Int):FState:=⟨aM [(0,.sl 0 none false),(1,.sl 1 none false),(5,.dat (.int .i64) D)],aE [(0,.row (.int .i32) 21 false M),(1,.row (.int .i32) 21 false B)]⟩
def BM:List NE:=[.row 0 (.int .i32) 21 false,.row 1 (.int .i32) 21 false,.keep 5]
def wQ (D:Int):FState:=⟨aM [(5,.dat (.int .i64) D)],aE []⟩
def rZ:List NE:=[.keep 5]
def dT6 (n:Nat):List (Nat×Spec):=[]
def HM:Ctx:={Γ0 with calls:=lkS (dT6 n)}
def LG:Code:=fb Tryd.f134
def eA5 (n:Nat) (kn:List Int→List Int→Int→Option β) (M B:List Int):Option β:=kn M B (0:Int)
def aX0:FS1 β:=FXs (HM n) n LG (some BM) none [] [2,6]
theorem bP9 (M B:List Int):aX0 n (RH M B) cx=eA5 n (fun M B D=>cx.nrm (uF M B D)) M B:=by kernel_rfl
def d8 (n:Nat) (kn:List Int→List Int→Int→Option β) (kr ae:Int→Option β) (M B:List Int) (D:Int):Option β:=bif (decide (D < (M.length:Int))) then (bif (decide (D < (B.length:Int))) then (idx D (M.length:Int)<|idx D (B.length:Int)<|bif ((rd M D (0:Int))!=(rd B D (0:Int))) then (kr D) else (kn M B (w64 (D+1)))) else (ae D)) else (ae D)
def WM:FS1 β:=FXs (HM n) n LG (some BM) (some lO) [(0,rZ)] [224,225,226,227]
theorem bX3 (M B:List Int) (D:Int):WM n (uF M B D) cx=d8 n (fun M B D=>cx.nrm (uF M B D)) (fun v4=>cx.ret (uM v4)) (fun D=>cx.ex 0 (wQ D)) M B D:=by kernel_rfl
def g134_3L (n:Nat) (kr:Int→Option β) (ae:Int→Option β):Nat→List Int→List Int→Int→Option β
  | 0,_,_,_=>none
  | m+1,M,B,D=>d8 n (g134_3L n kr ae m) kr ae M B D
def dX8 (kr ae:Int→Option β) (M B:List Int) (D:Int):Option β:=g134_3L n kr ae n M B D
def aY0 (s:FState) (cx:Cx β):Option β:=bO (fun again s=>WM n s {cx with nrm:=again}) n s
theorem o6 (n:Nat) (cx:Cx β):∀(m:Nat) (M B:List Int) (D:Int),bO (fun again s=>WM n s {cx with nrm:=again}) m (uF M B D)=g134_3L n (fun v4=>cx.ret (uM v4)) (fun D=>cx.ex 0 (wQ D)) m M B D:=by
  intro m
  induction m with
  | zero=>intros;rfl
  | succ m ih=>intros;simp only [bO,g134_3L,bX3,ih]
theorem bX5 (M B:List Int) (D:Int):aY0 n (uF M B D) cx=dX8 n (fun v4=>cx.ret (uM v4)) (fun D=>cx.ex 0 (wQ D)) M B D:=o6 n cx n M B D
def cQ7 (kn kr:Int→Option β) (M B:List Int) (D:Int):Option β:=dX8 n kr kn M B D
def aZ0 (s:FState) (cx:Cx β):Option β:=aY0 n s {cx with ex:=fun j s=>bif Nat.beq j 0 then cx.nrm s else cx.ex j s}
theorem bV5 (M B:List Int) (D:Int):aZ0 n (uF M B D) cx=cQ7 n (fun D=>cx.nrm (wQ D)) (fun v4=>cx.ret (uM v4)) M B D:=bX5 n _ M B D
def dH0 (n:Nat) (kr:Int→Option β) (D:Int):Option β:=kr D
def bD1:FS1 β:=FXs (HM n) n LG none (some lO) [] [30,31]
theorem bO6 (D:Int):bD1 n (wQ D) cx=dH0 n (fun v4=>cx.ret (uM v4)) D:=by kernel_rfl
def aN9 (kr:Int→Option β) (M B:List Int):Option β:=eA5 n (fun M B D=>cQ7 n (fun D=>dH0 n kr D) kr M B D) M B
def EV (s:FState) (cx:Cx β):Option β:=aX0 n s {cx with nrm:=fun s=>aZ0 n s {cx with nrm:=fun s=>bD1 n s cx}}
theorem bW8 (M B:List Int):EV n (RH M B) cx=aN9 n (fun v4=>cx.ret (uM v4)) M B:=by simp only [EV,aN9,bP9,bV5,bO6]
def eB4 (M B:List Int):Option (DenR [.dat (.int .i64)]):=aN9 n (fun v4=>some (v4,())) M B
def dI4:List AK:=[.ro (.int .i32) 21,.ro (.int .i32) 21]
def aH3:List RK:=[.dat (.int .i64)]
def eR7 (d:DenA dI4):Option (DenR aH3):=eB4 n d.1 d.2.1
def W1:Spec:=aQ dI4 aH3 (eR7 n)
def cV0:Sk:=(.nd (.fin none none none [] .leaf) (.nd (.fin none (some BM) none [] .leaf) (.nd (.nd (.nd (.nd (.nd (.fin none none (some lO) [(0,rZ)] .leaf) (.fin none none (some lO) [(0,rZ)] .leaf)) (.nd (.fin none none (some lO) [(0,rZ)] .leaf) (.fin none (some BM) (some lO) [(0,rZ)] .leaf))) .leaf) .leaf) (.nd (.fin none none (some lO) [] .leaf) (.fin none none (some lO) [] .leaf)))))
theorem dB9 (s:FState) (cx:Cx β):FX (HM n) n LG cV0 s cx=EV n s cx:=by kernel_rfl
theorem D8:Fit Tryd.prog 134 (W1 n):=
  cJ (Γ:=Γ0) (l:=dT6 n) (n:=n) (sk:=cV0) (ts:=[(4,none)]) (fn:=Tryd.f134) (c:=LG) (by kernel_rfl) (by kernel_rfl) (by unfold aS;kernel_rfl) cF trivial aO (by kernel_rfl) (by kernel_rfl) (Nat.le_of_ble_eq_true (by kernel_rfl)) (Nat.le_of_ble_eq_true (by kernel_rfl)) (by kernel_rfl) (by kernel_rfl)
    (fun d=>(dB9 n _ _).trans (Eq.trans (b:=EV n (RH d.1 d.2.1) (cS (HM n) aH3 [(4,none)])) (by kernel_rfl) ((bW8 n _ d.1 d.2.1).trans (by kernel_rfl))))
def SW (M B:List Int):FState:=⟨aM [(0,.sl 0 none false),(1,.sl 1 none false)],aE [(0,.row (.int .i32) 21 false M),(1,.row (.int .i32) 21 false B)]⟩
def zI (v4:Int):FState:=⟨aM [(4,.dat (.int .i64) v4)],aE []⟩
def MK:List NE:=[.keep 4]
def tS (M B:List Int) (D T E:Int):FState:=⟨aM [(0,.sl 0 none false),(1,.sl 1 none false),(5,.dat (.int .i64) D),(6,.dat (.int .i64) T),(7,.dat (.int .i64) E)],aE [(0,.row (.int .i32) 21 false M),(1,.row (.int .i32) 21 false B)]⟩
def xK:List NE:=[.row 0 (.int .i32) 21 false,.row 1 (.int .i32) 21 false,.keep 5,.keep 6,.keep 7]
def cK8 (n:Nat):List (Nat×Spec):=[]
def QO:Ctx:={Γ0 with calls:=lkS (cK8 n)}
def VY:Code:=fb Tryd.f135
def dW2 (n:Nat) (kn:List Int→List Int→Int→Int→Int→Option β) (M B:List Int):Option β:=kn M B (M.length:Int) (B.length:Int) (0:Int)
def bC2:FS1 β:=FXs (QO n) n VY (some xK) none [] [2,6,14,30]
theorem cI8 (M B:List Int):bC2 n (SW M B) cx=dW2 n (fun M B D T E=>cx.nrm (tS M B D T E)) M B:=by kernel_rfl
def aI6 (n:Nat) (kn:List Int→List Int→Int→Int→Int→Option β) (kr:Int→Option β) (M B:List Int) (D T E:Int):Option β:=bif (decide ((w64 (D - 1)) < (0:Int))) then (kr E) else (bif (decide ((w64 (T - 1)) < (0:Int))) then (kr E) else (idx (w64 (D - 1)) (M.length:Int)<|idx (w64 (T - 1)) (B.length:Int)<|bif ((rd M (w64 (D - 1)) (0:Int))!=(rd B (w64 (T - 1)) (0:Int))) then (kr E) else (kn M B (w64 (D - 1)) (w64 (T - 1)) (w64 (E+1)))))
def PZ:FS1 β:=FXs (QO n) n VY (some xK) (some MK) [] [248,249]
theorem cJ4 (M B:List Int) (D T E:Int):PZ n (tS M B D T E) cx=aI6 n (fun M B D T E=>cx.nrm (tS M B D T E)) (fun v4=>cx.ret (zI v4)) M B D T E:=by kernel_rfl
def g135_3L (n:Nat) (kr:Int→Option β):Nat→List Int→List Int→Int→Int→Int→Option β
  | 0,_,_,_,_,_=>none
  | m+1,M,B,D,T,E=>aI6 n (g135_3L n kr m) kr M B D T E
def dL4 (kr:Int→Option β) (M B:List Int) (D T E:Int):Option β:=g135_3L n kr n M B D T E
def bE7 (s:FState) (cx:Cx β):Option β:=bO (fun again s=>PZ n s {cx with nrm:=again}) n s
theorem aG9 (n:Nat) (cx:Cx β):∀(m:Nat) (M B:List Int) (D T E:Int),bO (fun again s=>PZ n s {cx with nrm:=again}) m (tS M B D T E)=g135_3L n (fun v4=>cx.ret (zI v4)) m M B D T E:=by
  intro m
  induction m with
  | zero=>intros;rfl
  | succ m ih=>intros;simp only [bO,g135_3L,cJ4,ih]
theorem bU3 (M B:List Int) (D T E:Int):bE7 n (tS M B D T E) cx=dL4 n (fun v4=>cx.ret (zI v4)) M B D T E:=aG9 n cx n M B D T E
def dW6 (kr:Int→Option β) (M B:List Int) (D T E:Int):Option β:=dL4 n kr M B D T E
def aX7 (s:FState) (cx:Cx β):Option β:=bE7 n s {cx with ex:=fun j s=>bif Nat.beq j 0 then cx.nrm s else cx.ex j s}
theorem bO8 (M B:List Int) (D T E:Int):aX7 n (tS M B D T E) cx=dW6 n (fun v4=>cx.ret (zI v4)) M B D T E:=bU3 n _ M B D T E
def aH7 (kr:Int→Option β) (M B:List Int):Option β:=dW2 n (fun M B D T E=>dW6 n kr M B D T E) M B
def EN (s:FState) (cx:Cx β):Option β:=bC2 n s {cx with nrm:=fun s=>aX7 n s cx}
theorem bR2 (M B:List Int):EN n (SW M B) cx=aH7 n (fun v4=>cx.ret (zI v4)) M B:=by simp only [EN,aH7,cI8,bO8]
def E8 (M B:List Int):Option (DenR [.dat (.int .i64)]):=aH7 n (fun v4=>some (v4,())) M B
def cS3:List AK:=[.ro (.int .i32) 21,.ro (.int .i32) 21]
def aS6:List RK:=[.dat (.int .i64)]
def eV5 (d:DenA cS3):Option (DenR aS6):=E8 n d.1 d.2.1
def RF:Spec:=aQ cS3 aS6 (eV5 n)
def cZ1:Sk:=(.nd (.fin none none none [] .leaf) (.nd (.fin none none none [] .leaf) (.nd (.fin none none none [] .leaf) (.nd (.fin none (some xK) none [] .leaf) (.nd (.nd (.nd (.fin none none (some MK) [] .leaf) (.fin none (some xK) (some MK) [] .leaf)) .leaf) .leaf)))))
theorem cN8 (s:FState) (cx:Cx β):FX (QO n) n VY cZ1 s cx=EN n s cx:=by kernel_rfl
theorem KP:Fit Tryd.prog 135 (RF n):=
  cJ (Γ:=Γ0) (l:=cK8 n) (n:=n) (sk:=cZ1) (ts:=[(4,none)]) (fn:=Tryd.f135) (c:=VY) (by kernel_rfl) (by kernel_rfl) (by unfold aS;kernel_rfl) cF trivial aO (by kernel_rfl) (by kernel_rfl) (Nat.le_of_ble_eq_true (by kernel_rfl)) (Nat.le_of_ble_eq_true (by kernel_rfl)) (by kernel_rfl) (by kernel_rfl)
    (fun d=>(cN8 n _ _).trans (Eq.trans (b:=EN n (SW d.1 d.2.1) (cS (QO n) aS6 [(4,none)])) (by kernel_rfl) ((bR2 n _ d.1 d.2.1).trans (by kernel_rfl))))
def aW4 (Z J:BA):FState:=⟨aM [(0,.dat .str Z),(1,.dat .str J)],aE []⟩
def eG8 (v4:Bool):FState:=⟨aM [(4,.dat .bool v4)],aE []⟩
def yI:List NE:=[.keep 4]
def dN1 (n:Nat):List (Nat×Spec):=[]
def aA4:Ctx:={Γ0 with calls:=lkS (dN1 n)}
def aF4:Code:=fb Tryd.f177
def t6 (n:Nat) (kr:Bool→Option β) (Z J:BA):Option β:=bif (decide ((Z.size:Int)≥(J.size:Int))) then (bnd (w64 ((Z.size:Int) - (J.size:Int))) (Z.size:Int) (Z.size:Int)<|kr (eL (bD Z (w64 ((Z.size:Int) - (J.size:Int))) (Z.size:Int)) J)) else (kr false)
def SU:FS1 β:=FXs (aA4 n) n aF4 none (some yI) [] [2,6,7]
theorem bR5 (Z J:BA):SU n (aW4 Z J) cx=t6 n (fun v4=>cx.ret (eG8 v4)) Z J:=by kernel_rfl
def eU2 (Z J:BA):Option (DenR [.dat .bool]):=t6 n (fun v4=>some (v4,())) Z J
def dG8:List AK:=[.dat .str,.dat .str]
def z7:List RK:=[.dat .bool]
def eW8 (d:DenA dG8):Option (DenR z7):=eU2 n d.1 d.2.1
def dT7:Spec:=aQ dG8 z7 (eW8 n)
def cM2:Sk:=(.nd (.fin none none (some yI) [] .leaf) (.nd (.fin none none (some yI) [] .leaf) (.fin none none (some yI) [] .leaf)))
theorem cV1 (s:FState) (cx:Cx β):FX (aA4 n) n aF4 cM2 s cx=SU n s cx:=by kernel_rfl
theorem dA5:Fit Tryd.prog 177 (dT7 n):=
  cJ (Γ:=Γ0) (l:=dN1 n) (n:=n) (sk:=cM2) (ts:=[(4,none)]) (fn:=Tryd.f177) (c:=aF4) (by kernel_rfl) (by kernel_rfl) (by unfold aS;kernel_rfl) cF trivial aO (by kernel_rfl) (by kernel_rfl) (Nat.le_of_ble_eq_true (by kernel_rfl)) (Nat.le_of_ble_eq_true (by kernel_rfl)) (by kernel_rfl) (by kernel_rfl)
    (fun d=>(cV1 n _ _).trans (Eq.trans (b:=SU n (aW4 d.1 d.2.1) (cS (aA4 n) z7 [(4,none)])) (by kernel_rfl) ((bR5 n _ d.1 d.2.1).trans (by kernel_rfl))))
def bK2 (Z J:BA):FState:=⟨aM [(0,.dat .str Z),(1,.dat .str J)],aE []⟩
def eC5 (v4:Bool):FState:=⟨aM [(4,.dat .bool v4)],aE []⟩
def zL:List NE:=[.keep 4]
def dD8:List (Nat×Spec):=[(177,dT7 n)]
def X5:Ctx:={Γ0 with calls:=lkS (dD8 n)}
def b9:Code:=fb Tryd.f158
def aP5 (kr:Bool→Option β) (Z J:BA):Option β:=(eU2 n Z J).bind fun W=>kr W.1
def TH:FS1 β:=FXs (X5 n) n b9 none (some zL) [] [2,6,7]
theorem bW6 (Z J:BA):TH n (bK2 Z J) cx=aP5 n (fun v4=>cx.ret (eC5 v4)) Z J:=by kernel_rfl
def aC8 (Z J:BA):Option (DenR [.dat .bool]):=aP5 n (fun v4=>some (v4,())) Z J
def cS0:List AK:=[.dat .str,.dat .str]
def aB7:List RK:=[.dat .bool]
def eX6 (d:DenA cS0):Option (DenR aB7):=aC8 n d.1 d.2.1
def aG4:Spec:=aQ cS0 aB7 (eX6 n)
def dZ4:Sk:=(.nd (.fin none none (some zL) [] .leaf) (.nd (.fin none none (some zL) [] .leaf) (.fin none none (some zL) [] .leaf)))
theorem dK8 (s:FState) (cx:Cx β):FX (X5 n) n b9 dZ4 s cx=TH n s cx:=by kernel_rfl
theorem YN:Fit Tryd.prog 158 (aG4 n):=
  cJ (Γ:=Γ0) (l:=dD8 n) (n:=n) (sk:=dZ4) (ts:=[(4,none)]) (fn:=Tryd.f158) (c:=b9) (by kernel_rfl) (by kernel_rfl) (by unfold aS;kernel_rfl) cF ⟨dA5 n,trivial⟩ aO (by kernel_rfl) (by kernel_rfl) (Nat.le_of_ble_eq_true (by kernel_rfl)) (Nat.le_of_ble_eq_true (by kernel_rfl)) (by kernel_rfl) (by kernel_rfl)
    (fun d=>(dK8 n _ _).trans (Eq.trans (b:=TH n (bK2 d.1 d.2.1) (cS (X5 n) aB7 [(4,none)])) (by kernel_rfl) ((bW6 n _ d.1 d.2.1).trans (by kernel_rfl))))
def bJ7 (Z J:BA):FState:=⟨aM [(0,.dat .str Z),(1,.dat .str J)],aE []⟩
def eI6 (v4:Bool):FState:=⟨aM [(4,.dat .bool v4)],aE []⟩
def xC:List NE:=[.keep 4]
def cN2 (n:Nat):List (Nat×Spec):=[]
def o5:Ctx:={Γ0 with calls:=lkS (cN2 n)}
def aG7:Code:=fb Tryd.f126
def z6 (n:Nat) (kr:Bool→Option β) (Z J:BA):Option β:=bif (decide ((Z.size:Int)≥(J.size:Int))) then (bnd (0:Int) (J.size:Int) (Z.size:Int)<|kr (eL (bD Z (0:Int) (J.size:Int)) J)) else (kr false)
def QQ:FS1 β:=FXs (o5 n) n aG7 none (some xC) [] [2,6,7]
theorem bU8 (Z J:BA):QQ n (bJ7 Z J) cx=z6 n (fun v4=>cx.ret (eI6 v4)) Z J:=by kernel_rfl
def eQ8 (Z J:BA):Option (DenR [.dat .bool]):=z6 n (fun v4=>some (v4,())) Z J
def dT4:List AK:=[.dat .str,.dat .str]
def aD0:List RK:=[.dat .bool]
def eS0 (d:DenA dT4):Option (DenR aD0):=eQ8 n d.1 d.2.1
def dU6:Spec:=aQ dT4 aD0 (eS0 n)
def cZ8:Sk:=(.nd (.fin none none (some xC) [] .leaf) (.nd (.fin none none (some xC) [] .leaf) (.fin none none (some xC) [] .leaf)))
theorem cL3 (s:FState) (cx:Cx β):FX (o5 n) n aG7 cZ8 s cx=QQ n s cx:=by kernel_rfl
theorem dA2:Fit Tryd.prog 126 (dU6 n):=
  cJ (Γ:=Γ0) (l:=cN2 n) (n:=n) (sk:=cZ8) (ts:=[(4,none)]) (fn:=Tryd.f126) (c:=aG7) (by kernel_rfl) (by kernel_rfl) (by unfold aS;kernel_rfl) cF trivial aO (by kernel_rfl) (by kernel_rfl) (Nat.le_of_ble_eq_true (by kernel_rfl)) (Nat.le_of_ble_eq_true (by kernel_rfl)) (by kernel_rfl) (by kernel_rfl)
    (fun d=>(cL3 n _ _).trans (Eq.trans (b:=QQ n (bJ7 d.1 d.2.1) (cS (o5 n) aD0 [(4,none)])) (by kernel_rfl) ((bU8 n _ d.1 d.2.1).trans (by kernel_rfl))))
def bF2 (Z J:BA):FState:=⟨aM [(0,.dat .str Z),(1,.dat .str J)],aE []⟩
def eE8 (v4:Bool):FState:=⟨aM [(4,.dat .bool v4)],aE []⟩
def wN:List NE:=[.keep 4]
def dQ9:List (Nat×Spec):=[(126,dU6 n)]
def q6:Ctx:={Γ0 with calls:=lkS (dQ9 n)}
def aO9:Code:=fb Tryd.f100
def w9 (kr:Bool→Option β) (Z J:BA):Option β:=(eQ8 n Z J).bind fun W=>kr W.1
def XA:FS1 β:=FXs (q6 n) n aO9 none (some wN) [] [2,6,7]
theorem bW0 (Z J:BA):XA n (bF2 Z J) cx=w9 n (fun v4=>cx.ret (eE8 v4)) Z J:=by kernel_rfl
def dW8 (Z J:BA):Option (DenR [.dat .bool]):=w9 n (fun v4=>some (v4,())) Z J
def dC9:List AK:=[.dat .str,.dat .str]
def aP2:List RK:=[.dat .bool]
def eT5 (d:DenA dC9):Option (DenR aP2):=dW8 n d.1 d.2.1
def dE5:Spec:=aQ dC9 aP2 (eT5 n)
def dC3:Sk:=(.nd (.fin none none (some wN) [] .leaf) (.nd (.fin none none (some wN) [] .leaf) (.fin none none (some wN) [] .leaf)))
theorem dH7 (s:FState) (cx:Cx β):FX (q6 n) n aO9 dC3 s cx=XA n s cx:=by kernel_rfl
theorem dN7:Fit Tryd.prog 100 (dE5 n):=
  cJ (Γ:=Γ0) (l:=dQ9 n) (n:=n) (sk:=dC3) (ts:=[(4,none)]) (fn:=Tryd.f100) (c:=aO9) (by kernel_rfl) (by kernel_rfl) (by unfold aS;kernel_rfl) cF ⟨dA2 n,trivial⟩ aO (by kernel_rfl) (by kernel_rfl) (Nat.le_of_ble_eq_true (by kernel_rfl)) (Nat.le_of_ble_eq_true (by kernel_rfl)) (by kernel_rfl) (by kernel_rfl)
    (fun d=>(dH7 n _ _).trans (Eq.trans (b:=XA n (bF2 d.1 d.2.1) (cS (q6 n) aP2 [(4,none)])) (by kernel_rfl) ((bW0 n _ d.1 d.2.1).trans (by kernel_rfl))))
def kE:List AK:=[.pro Z1 106,.rw Z22 115]
def hQ:List RK:=[.rw Z22 115]
abbrev bV:=DenA kE→Option (DenR hQ)
def UD (C:Z11) (B:List Z26):FState:=⟨aM [(0,.ptr 0 0 0),(1,.sl 1 none false)],aE [(0,.row Z1 106 false [C]),(1,.row Z22 115 true B)]⟩
def bA7 (x4:List Z26):FState:=⟨aM [(4,.sl 4 none false)],aE [(4,.row Z22 115 true x4)]⟩
def sB:List NE:=[.row 4 Z22 115 true]
def cO (C:Z11) (B:List Z26) (D T E:Int) (x9 V:List Int):FState:=⟨aM [(0,.ptr 0 0 0),(1,.sl 1 none false),(5,.dat (.int .i64) D),(6,.dat (.int .i64) T),(7,.dat (.int .i64) E),(9,.sl 9 none false),(10,.sl 10 none false)],aE [(0,.row Z1 106 false [C]),(1,.row Z22 115 true B),(9,.row (.int .i32) 21 true x9),(10,.row (.int .i32) 21 true V)]⟩
def cX:List NE:=[.ptr 0 Z1 106 false,.row 1 Z22 115 true,.keep 5,.keep 6,.keep 7,.row 9 (.int .i32) 21 true,.row 10 (.int .i32) 21 true]
def nV (C:Z11) (B:List Z26):FState:=⟨aM [(0,.ptr 0 0 0),(1,.sl 1 none false)],aE [(0,.row Z1 106 false [C]),(1,.row Z22 115 true B)]⟩
def sH:List NE:=[.ptr 0 Z1 106 false,.row 1 Z22 115 true]
def GA (C:Z11) (B:List Z26) (D T E:Int) (x9 V:List Int) (ak:Int):FState:=⟨aM [(0,.ptr 0 0 0),(1,.sl 1 none false),(5,.dat (.int .i64) D),(6,.dat (.int .i64) T),(7,.dat (.int .i64) E),(9,.sl 9 none false),(10,.sl 10 none false),(27,.dat (.int .i8) ak)],aE [(0,.row Z1 106 false [C]),(1,.row Z22 115 true B),(9,.row (.int .i32) 21 true x9),(10,.row (.int .i32) 21 true V)]⟩
def D4:List NE:=[.ptr 0 Z1 106 false,.row 1 Z22 115 true,.keep 5,.keep 6,.keep 7,.row 9 (.int .i32) 21 true,.row 10 (.int .i32) 21 true,.keep 27]
def wP (C:Z11) (B:List Z26) (D T E:Int) (x9 V:List Int) (ak:Int) (aa:Bool):FState:=⟨aM [(0,.ptr 0 0 0),(1,.sl 1 none false),(5,.dat (.int .i64) D),(6,.dat (.int .i64) T),(7,.dat (.int .i64) E),(9,.sl 9 none false),(10,.sl 10 none false),(27,.dat (.int .i8) ak),(28,.dat .bool aa)],aE [(0,.row Z1 106 false [C]),(1,.row Z22 115 true B),(9,.row (.int .i32) 21 true x9),(10,.row (.int .i32) 21 true V)]⟩
def C3:List NE:=[.ptr 0 Z1 106 false,.row 1 Z22 115 true,.keep 5,.keep 6,.keep 7,.row 9 (.int .i32) 21 true,.row 10 (.int .i32) 21 true,.keep 27,.keep 28]
def xR (C:Z11) (B:List Z26) (D T E:Int) (x9 V:List Int) (ak:Int) (bf:Bool):FState:=⟨aM [(0,.ptr 0 0 0),(1,.sl 1 none false),(5,.dat (.int .i64) D),(6,.dat (.int .i64) T),(7,.dat (.int .i64) E),(9,.sl 9 none false),(10,.sl 10 none false),(27,.dat (.int .i8) ak),(42,.dat .bool bf)],aE [(0,.row Z1 106 false [C]),(1,.row Z22 115 true B),(9,.row (.int .i32) 21 true x9),(10,.row (.int .i32) 21 true V)]⟩
def G2:List NE:=[.ptr 0 Z1 106 false,.row 1 Z22 115 true,.keep 5,.keep 6,.keep 7,.row 9 (.int .i32) 21 true,.row 10 (.int .i32) 21 true,.keep 27,.keep 42]
def xH (C:Z11) (B:List Z26) (D T E:Int) (x9 V:List Int) (aq:Bool):FState:=⟨aM [(0,.ptr 0 0 0),(1,.sl 1 none false),(5,.dat (.int .i64) D),(6,.dat (.int .i64) T),(7,.dat (.int .i64) E),(9,.sl 9 none false),(10,.sl 10 none false),(56,.dat .bool aq)],aE [(0,.row Z1 106 false [C]),(1,.row Z22 115 true B),(9,.row (.int .i32) 21 true x9),(10,.row (.int .i32) 21 true V)]⟩
def YC:List NE:=[.ptr 0 Z1 106 false,.row 1 Z22 115 true,.keep 5,.keep 6,.keep 7,.row 9 (.int .i32) 21 true,.row 10 (.int .i32) 21 true,.keep 56]
def zT (C:Z11) (B:List Z26) (D T E:Int) (x9 V:List Int) (ar:Bool):FState:=⟨aM [(0,.ptr 0 0 0),(1,.sl 1 none false),(5,.dat (.int .i64) D),(6,.dat (.int .i64) T),(7,.dat (.int .i64) E),(9,.sl 9 none false),(10,.sl 10 none false),(61,.dat .bool ar)],aE [(0,.row Z1 106 false [C]),(1,.row Z22 115 true B),(9,.row (.int .i32) 21 true x9),(10,.row (.int .i32) 21 true V)]⟩
def K7:List NE:=[.ptr 0 Z1 106 false,.row 1 Z22 115 true,.keep 5,.keep 6,.keep 7,.row 9 (.int .i32) 21 true,.row 10 (.int .i32) 21 true,.keep 61]
def rW (C:Z11) (B:List Z26) (D:Int):FState:=⟨aM [(0,.ptr 0 0 0),(1,.sl 1 none false),(5,.dat (.int .i64) D)],aE [(0,.row Z1 106 false [C]),(1,.row Z22 115 true B)]⟩
def sZ:List NE:=[.ptr 0 Z1 106 false,.row 1 Z22 115 true,.keep 5]
def Q1 (C:Z11) (B:List Z26) (D T E:Int):FState:=⟨aM [(0,.ptr 0 0 0),(1,.sl 1 none false),(5,.dat (.int .i64) D),(6,.dat (.int .i64) T),(7,.dat (.int .i64) E)],aE [(0,.row Z1 106 false [C]),(1,.row Z22 115 true B)]⟩
def OO:List NE:=[.ptr 0 Z1 106 false,.row 1 Z22 115 true,.keep 5,.keep 6,.keep 7]
def ZY (C:Z11) (B:List Z26) (D E:Int):FState:=⟨aM [(0,.ptr 0 0 0),(1,.sl 1 none false),(5,.dat (.int .i64) D),(7,.dat (.int .i64) E)],aE [(0,.row Z1 106 false [C]),(1,.row Z22 115 true B)]⟩
def OR:List NE:=[.ptr 0 Z1 106 false,.row 1 Z22 115 true,.keep 5,.keep 7]
def pO (C:Z11) (B:List Z26) (D:Int) (ac:Bool):FState:=⟨aM [(0,.ptr 0 0 0),(1,.sl 1 none false),(5,.dat (.int .i64) D),(14,.dat .bool ac)],aE [(0,.row Z1 106 false [C]),(1,.row Z22 115 true B)]⟩
def uL:List NE:=[.ptr 0 Z1 106 false,.row 1 Z22 115 true,.keep 5,.keep 14]
def rR (C:Z11) (B:List Z26) (ac:Bool):FState:=⟨aM [(0,.ptr 0 0 0),(1,.sl 1 none false),(14,.dat .bool ac)],aE [(0,.row Z1 106 false [C]),(1,.row Z22 115 true B)]⟩
def tC:List NE:=[.ptr 0 Z1 106 false,.row 1 Z22 115 true,.keep 14]
end
section
variable (n:Nat) (aH:bV) (cx:Cx β)
def dY8:List (Nat×Spec):=[(100,dE5 n),(113,JL n),(134,W1 n),(135,RF n),(158,aG4 n),(137,aQ kE hQ aH)]
def fP:Ctx:={Γ0 with calls:=lkS (dY8 n aH)}
def eJ:Code:=fb Tryd.f137
def s8 (n:Nat) (aH:bV) (kn:Z11→List Z26→Int→Int→Int→List Int→List Int→Option β) (C:Z11) (B:List Z26):Option β:=cM (B.length+[Z17].length)<|kn C (B++[Z17]) (0:Int) (0:Int) (0:Int) [] []
def aW2:FS1 β:=FXs (fP n aH) n eJ (some cX) none [] [2,6,14,30,62,126,254,510]
theorem bQ6 (C:Z11) (B:List Z26):aW2 n aH (UD C B) cx=s8 n aH (fun C B D T E x9 V=>cx.nrm (cO C B D T E x9 V)) C B:=by kernel_rfl
def PL (n:Nat) (aH:bV) (kn:Z11→List Z26→Int→Int→Int→List Int→List Int→Option β) (ae:Z11→List Z26→Option β) (C:Z11) (B:List Z26) (D T E:Int) (x9 V:List Int):Option β:=bif (decide (D < (B.length:Int))) then (kn C B D T E x9 V) else (ae C B)
def bL8:FS1 β:=FXs (fP n aH) n eJ (some cX) none [(0,sH)] [16352,16353]
theorem cA3 (C:Z11) (B:List Z26) (D T E:Int) (x9 V:List Int):bL8 n aH (cO C B D T E x9 V) cx=PL n aH (fun C B D T E x9 V=>cx.nrm (cO C B D T E x9 V)) (fun C B=>cx.ex 0 (nV C B)) C B D T E x9 V:=by kernel_rfl
def aI5 (n:Nat) (aH:bV) (kn:Z11→List Z26→Int→Int→Int→List Int→List Int→Int→Option β) (C:Z11) (B:List Z26) (D T E:Int) (x9 V:List Int):Option β:=idx D (B.length:Int)<|kn C B D T E x9 V ((rd B D Z17).1)
def bF7:FS1 β:=FXs (fP n aH) n eJ (some D4) none [] [32708]
theorem bV7 (C:Z11) (B:List Z26) (D T E:Int) (x9 V:List Int):bF7 n aH (cO C B D T E x9 V) cx=aI5 n aH (fun C B D T E x9 V ak=>cx.nrm (GA C B D T E x9 V ak)) C B D T E x9 V:=by kernel_rfl
def aM3 (n:Nat) (aH:bV) (kn:Z11→List Z26→Int→Int→Int→List Int→List Int→Int→Bool→Option β) (C:Z11) (B:List Z26) (D T E:Int) (x9 V:List Int) (ak:Int):Option β:=kn C B D T E x9 V ak (ak==(1:Int))
def bE5:FS1 β:=FXs (fP n aH) n eJ (some C3) none [] [130836]
theorem cD3 (C:Z11) (B:List Z26) (D T E:Int) (x9 V:List Int) (ak:Int):bE5 n aH (GA C B D T E x9 V ak) cx=aM3 n aH (fun C B D T E x9 V ak aa=>cx.nrm (wP C B D T E x9 V ak aa)) C B D T E x9 V ak:=by kernel_rfl
def aG1 (n:Nat) (aH:bV) (ap:Z11→List Z26→Int→Int→Int→List Int→List Int→Option β) (C:Z11) (B:List Z26) (D T E:Int) (x9 V:List Int) (ak:Int) (aa:Bool):Option β:=idx D (B.length:Int)<|kQ ((rd B D Z17).2)<|cM (V.length+(bS ((rd B D Z17).2)).length)<|ap C B (w64 (D+1)) T (w64 (E+1)) x9 (V++(bS ((rd B D Z17).2)))
def aZ3:FS1 β:=FXs (fP n aH) n eJ none none [(2,cX)] [523348,1046698,2093398,2093399]
theorem bP4 (C:Z11) (B:List Z26) (D T E:Int) (x9 V:List Int) (ak:Int) (aa:Bool):aZ3 n aH (wP C B D T E x9 V ak aa) cx=aG1 n aH (fun C B D T E x9 V=>cx.ex 2 (cO C B D T E x9 V)) C B D T E x9 V ak aa:=by kernel_rfl
def d7 (n:Nat) (aH:bV) (kn:Z11→List Z26→Int→Int→Int→List Int→List Int→Int→Bool→Option β) (C:Z11) (B:List Z26) (D T E:Int) (x9 V:List Int) (ak:Int) (aa:Bool):Option β:=kn C B D T E x9 V ak (ak==(-1:Int))
def aV4:FS1 β:=FXs (fP n aH) n eJ (some G2) none [] [523350]
theorem cG4 (C:Z11) (B:List Z26) (D T E:Int) (x9 V:List Int) (ak:Int) (aa:Bool):aV4 n aH (wP C B D T E x9 V ak aa) cx=d7 n aH (fun C B D T E x9 V ak bf=>cx.nrm (xR C B D T E x9 V ak bf)) C B D T E x9 V ak aa:=by kernel_rfl
def aJ9 (n:Nat) (aH:bV) (ap:Z11→List Z26→Int→Int→Int→List Int→List Int→Option β) (C:Z11) (B:List Z26) (D T E:Int) (x9 V:List Int) (ak:Int) (bf:Bool):Option β:=idx D (B.length:Int)<|kQ ((rd B D Z17).2)<|cM (x9.length+(bS ((rd B D Z17).2)).length)<|ap C B (w64 (D+1)) (w64 (T+1)) E (x9++(bS ((rd B D Z17).2))) V
def aZ4:FS1 β:=FXs (fP n aH) n eJ none none [(2,cX)] [2093404,4186810,8373622,8373623]
theorem bU6 (C:Z11) (B:List Z26) (D T E:Int) (x9 V:List Int) (ak:Int) (bf:Bool):aZ4 n aH (xR C B D T E x9 V ak bf) cx=aJ9 n aH (fun C B D T E x9 V=>cx.ex 2 (cO C B D T E x9 V)) C B D T E x9 V ak bf:=by kernel_rfl
def aJ7 (n:Nat) (aH:bV) (kn:Z11→List Z26→Int→Int→Int→List Int→List Int→Bool→Option β) (C:Z11) (B:List Z26) (D T E:Int) (x9 V:List Int) (ak:Int) (bf:Bool):Option β:=kn C B D T E x9 V (ak==(0:Int))
def bC4:FS1 β:=FXs (fP n aH) n eJ (some YC) none [] [2093406]
theorem bX8 (C:Z11) (B:List Z26) (D T E:Int) (x9 V:List Int) (ak:Int) (bf:Bool):bC4 n aH (xR C B D T E x9 V ak bf) cx=aJ7 n aH (fun C B D T E x9 V aq=>cx.nrm (xH C B D T E x9 V aq)) C B D T E x9 V ak bf:=by kernel_rfl
def aO8 (n:Nat) (aH:bV) (kn:Z11→List Z26→Int→Int→Int→List Int→List Int→Bool→Option β) (C:Z11) (B:List Z26) (D T E:Int) (x9 V:List Int) (aq:Bool):Option β:=kn C B D T E x9 V (decide ((w64 (T+E))>(1:Int)))
def bM4:FS1 β:=FXs (fP n aH) n eJ (some K7) none [] [16747256]
theorem cI4 (C:Z11) (B:List Z26) (D T E:Int) (x9 V:List Int) (aq:Bool):bM4 n aH (xH C B D T E x9 V aq) cx=aO8 n aH (fun C B D T E x9 V ar=>cx.nrm (zT C B D T E x9 V ar)) C B D T E x9 V aq:=by kernel_rfl
def uG (n:Nat) (aH:bV) (kn:Z11→List Z26→Int→Int→Int→List Int→List Int→Option β) (C:Z11) (B:List Z26) (D T E:Int) (x9 V:List Int) (ar:Bool):Option β:=bif (T !=(0:Int)) then (bif (E !=(0:Int)) then ((eB4 n V x9).bind fun W=>bif (W.1 !=(0:Int)) then (bif (decide ((w64 ((w64 (D - T)) - E))>(0:Int))) then (idx (w64 ((w64 ((w64 (D - T)) - E)) - (1:Int))) (B.length:Int)<|bif ((rd B (w64 ((w64 ((w64 (D - T)) - E)) - (1:Int))) Z17).1==(0:Int)) then (idx (w64 ((w64 ((w64 (D - T)) - E)) - (1:Int))) (B.length:Int)<|bnd (0:Int) W.1 (V.length:Int)<|cM (((rd B (w64 ((w64 ((w64 (D - T)) - E)) - (1:Int))) Z17).2).size+(runesBytes (cut V (0:Int) ((0:Int)+(W.1 - (0:Int))))).size)<|idx (w64 ((w64 ((w64 (D - T)) - E)) - (1:Int))) (B.length:Int)<|bnd W.1 (V.length:Int) (V.length:Int)<|bnd W.1 (x9.length:Int) (x9.length:Int)<|(E8 n (cut V W.1 (W.1+((V.length:Int) - W.1))) (cut x9 W.1 (W.1+((x9.length:Int) - W.1)))).bind fun r2=>bif (r2.1 !=(0:Int)) then (bnd (w64 (((V.length:Int) - W.1) - r2.1)) ((V.length:Int) - W.1) ((V.length:Int) - W.1)<|idx D ((B.set (w64 ((w64 ((w64 (D - T)) - E)) - (1:Int))).toNat ((rd B (w64 ((w64 ((w64 (D - T)) - E)) - (1:Int))) Z17).1,((rd B (w64 ((w64 ((w64 (D - T)) - E)) - (1:Int))) Z17).2++(runesBytes (cut V (0:Int) ((0:Int)+(W.1 - (0:Int)))))))).length:Int)<|cM ((runesBytes (cut V (W.1+(w64 (((V.length:Int) - W.1) - r2.1))) ((W.1+(w64 (((V.length:Int) - W.1) - r2.1)))+(((V.length:Int) - W.1) - (w64 (((V.length:Int) - W.1) - r2.1)))))).size+((rd (B.set (w64 ((w64 ((w64 (D - T)) - E)) - (1:Int))).toNat ((rd B (w64 ((w64 ((w64 (D - T)) - E)) - (1:Int))) Z17).1,((rd B (w64 ((w64 ((w64 (D - T)) - E)) - (1:Int))) Z17).2++(runesBytes (cut V (0:Int) ((0:Int)+(W.1 - (0:Int)))))))) D Z17).2).size)<|idx D ((B.set (w64 ((w64 ((w64 (D - T)) - E)) - (1:Int))).toNat ((rd B (w64 ((w64 ((w64 (D - T)) - E)) - (1:Int))) Z17).1,((rd B (w64 ((w64 ((w64 (D - T)) - E)) - (1:Int))) Z17).2++(runesBytes (cut V (0:Int) ((0:Int)+(W.1 - (0:Int)))))))).length:Int)<|bnd (0:Int) (w64 (((V.length:Int) - W.1) - r2.1)) ((V.length:Int) - W.1)<|bnd (0:Int) (w64 (((x9.length:Int) - W.1) - r2.1)) ((x9.length:Int) - W.1)<|kn C ((B.set (w64 ((w64 ((w64 (D - T)) - E)) - (1:Int))).toNat ((rd B (w64 ((w64 ((w64 (D - T)) - E)) - (1:Int))) Z17).1,((rd B (w64 ((w64 ((w64 (D - T)) - E)) - (1:Int))) Z17).2++(runesBytes (cut V (0:Int) ((0:Int)+(W.1 - (0:Int)))))))).set D.toNat ((rd (B.set (w64 ((w64 ((w64 (D - T)) - E)) - (1:Int))).toNat ((rd B (w64 ((w64 ((w64 (D - T)) - E)) - (1:Int))) Z17).1,((rd B (w64 ((w64 ((w64 (D - T)) - E)) - (1:Int))) Z17).2++(runesBytes (cut V (0:Int) ((0:Int)+(W.1 - (0:Int)))))))) D Z17).1,((runesBytes (cut V (W.1+(w64 (((V.length:Int) - W.1) - r2.1))) ((W.1+(w64 (((V.length:Int) - W.1) - r2.1)))+(((V.length:Int) - W.1) - (w64 (((V.length:Int) - W.1) - r2.1))))))++(rd (B.set (w64 ((w64 ((w64 (D - T)) - E)) - (1:Int))).toNat ((rd B (w64 ((w64 ((w64 (D - T)) - E)) - (1:Int))) Z17).1,((rd B (w64 ((w64 ((w64 (D - T)) - E)) - (1:Int))) Z17).2++(runesBytes (cut V (0:Int) ((0:Int)+(W.1 - (0:Int)))))))) D Z17).2))) D T E (cut x9 (W.1+(0:Int)) ((W.1+(0:Int))+((w64 (((x9.length:Int) - W.1) - r2.1)) - (0:Int)))) (cut V (W.1+(0:Int)) ((W.1+(0:Int))+((w64 (((V.length:Int) - W.1) - r2.1)) - (0:Int))))) else (kn C (B.set (w64 ((w64 ((w64 (D - T)) - E)) - (1:Int))).toNat ((rd B (w64 ((w64 ((w64 (D - T)) - E)) - (1:Int))) Z17).1,((rd B (w64 ((w64 ((w64 (D - T)) - E)) - (1:Int))) Z17).2++(runesBytes (cut V (0:Int) ((0:Int)+(W.1 - (0:Int)))))))) D T E (cut x9 W.1 (W.1+((x9.length:Int) - W.1))) (cut V W.1 (W.1+((V.length:Int) - W.1))))) else (bnd (0:Int) W.1 (V.length:Int)<|cM ([((0:Int),(runesBytes (cut V (0:Int) ((0:Int)+(W.1 - (0:Int))))))].length+B.length)<|bnd W.1 (V.length:Int) (V.length:Int)<|bnd W.1 (x9.length:Int) (x9.length:Int)<|(E8 n (cut V W.1 (W.1+((V.length:Int) - W.1))) (cut x9 W.1 (W.1+((x9.length:Int) - W.1)))).bind fun r3=>bif (r3.1 !=(0:Int)) then (bnd (w64 (((V.length:Int) - W.1) - r3.1)) ((V.length:Int) - W.1) ((V.length:Int) - W.1)<|idx (w64 (D+1)) (([((0:Int),(runesBytes (cut V (0:Int) ((0:Int)+(W.1 - (0:Int))))))]++B).length:Int)<|cM ((runesBytes (cut V (W.1+(w64 (((V.length:Int) - W.1) - r3.1))) ((W.1+(w64 (((V.length:Int) - W.1) - r3.1)))+(((V.length:Int) - W.1) - (w64 (((V.length:Int) - W.1) - r3.1)))))).size+((rd ([((0:Int),(runesBytes (cut V (0:Int) ((0:Int)+(W.1 - (0:Int))))))]++B) (w64 (D+1)) Z17).2).size)<|idx (w64 (D+1)) (([((0:Int),(runesBytes (cut V (0:Int) ((0:Int)+(W.1 - (0:Int))))))]++B).length:Int)<|bnd (0:Int) (w64 (((V.length:Int) - W.1) - r3.1)) ((V.length:Int) - W.1)<|bnd (0:Int) (w64 (((x9.length:Int) - W.1) - r3.1)) ((x9.length:Int) - W.1)<|kn C (([((0:Int),(runesBytes (cut V (0:Int) ((0:Int)+(W.1 - (0:Int))))))]++B).set (w64 (D+1)).toNat ((rd ([((0:Int),(runesBytes (cut V (0:Int) ((0:Int)+(W.1 - (0:Int))))))]++B) (w64 (D+1)) Z17).1,((runesBytes (cut V (W.1+(w64 (((V.length:Int) - W.1) - r3.1))) ((W.1+(w64 (((V.length:Int) - W.1) - r3.1)))+(((V.length:Int) - W.1) - (w64 (((V.length:Int) - W.1) - r3.1))))))++(rd ([((0:Int),(runesBytes (cut V (0:Int) ((0:Int)+(W.1 - (0:Int))))))]++B) (w64 (D+1)) Z17).2))) (w64 (D+1)) T E (cut x9 (W.1+(0:Int)) ((W.1+(0:Int))+((w64 (((x9.length:Int) - W.1) - r3.1)) - (0:Int)))) (cut V (W.1+(0:Int)) ((W.1+(0:Int))+((w64 (((V.length:Int) - W.1) - r3.1)) - (0:Int))))) else (kn C ([((0:Int),(runesBytes (cut V (0:Int) ((0:Int)+(W.1 - (0:Int))))))]++B) (w64 (D+1)) T E (cut x9 W.1 (W.1+((x9.length:Int) - W.1))) (cut V W.1 (W.1+((V.length:Int) - W.1)))))) else (bnd (0:Int) W.1 (V.length:Int)<|cM ([((0:Int),(runesBytes (cut V (0:Int) ((0:Int)+(W.1 - (0:Int))))))].length+B.length)<|bnd W.1 (V.length:Int) (V.length:Int)<|bnd W.1 (x9.length:Int) (x9.length:Int)<|(E8 n (cut V W.1 (W.1+((V.length:Int) - W.1))) (cut x9 W.1 (W.1+((x9.length:Int) - W.1)))).bind fun r4=>bif (r4.1 !=(0:Int)) then (bnd (w64 (((V.length:Int) - W.1) - r4.1)) ((V.length:Int) - W.1) ((V.length:Int) - W.1)<|idx (w64 (D+1)) (([((0:Int),(runesBytes (cut V (0:Int) ((0:Int)+(W.1 - (0:Int))))))]++B).length:Int)<|cM ((runesBytes (cut V (W.1+(w64 (((V.length:Int) - W.1) - r4.1))) ((W.1+(w64 (((V.length:Int) - W.1) - r4.1)))+(((V.length:Int) - W.1) - (w64 (((V.length:Int) - W.1) - r4.1)))))).size+((rd ([((0:Int),(runesBytes (cut V (0:Int) ((0:Int)+(W.1 - (0:Int))))))]++B) (w64 (D+1)) Z17).2).size)<|idx (w64 (D+1)) (([((0:Int),(runesBytes (cut V (0:Int) ((0:Int)+(W.1 - (0:Int))))))]++B).length:Int)<|bnd (0:Int) (w64 (((V.length:Int) - W.1) - r4.1)) ((V.length:Int) - W.1)<|bnd (0:Int) (w64 (((x9.length:Int) - W.1) - r4.1)) ((x9.length:Int) - W.1)<|kn C (([((0:Int),(runesBytes (cut V (0:Int) ((0:Int)+(W.1 - (0:Int))))))]++B).set (w64 (D+1)).toNat ((rd ([((0:Int),(runesBytes (cut V (0:Int) ((0:Int)+(W.1 - (0:Int))))))]++B) (w64 (D+1)) Z17).1,((runesBytes (cut V (W.1+(w64 (((V.length:Int) - W.1) - r4.1))) ((W.1+(w64 (((V.length:Int) - W.1) - r4.1)))+(((V.length:Int) - W.1) - (w64 (((V.length:Int) - W.1) - r4.1))))))++(rd ([((0:Int),(runesBytes (cut V (0:Int) ((0:Int)+(W.1 - (0:Int))))))]++B) (w64 (D+1)) Z17).2))) (w64 (D+1)) T E (cut x9 (W.1+(0:Int)) ((W.1+(0:Int))+((w64 (((x9.length:Int) - W.1) - r4.1)) - (0:Int)))) (cut V (W.1+(0:Int)) ((W.1+(0:Int))+((w64 (((V.length:Int) - W.1) - r4.1)) - (0:Int))))) else (kn C ([((0:Int),(runesBytes (cut V (0:Int) ((0:Int)+(W.1 - (0:Int))))))]++B) (w64 (D+1)) T E (cut x9 W.1 (W.1+((x9.length:Int) - W.1))) (cut V W.1 (W.1+((V.length:Int) - W.1)))))) else ((E8 n V x9).bind fun r5=>bif (r5.1 !=(0:Int)) then (bnd (w64 ((V.length:Int) - r5.1)) (V.length:Int) (V.length:Int)<|idx D (B.length:Int)<|cM ((runesBytes (cut V (w64 ((V.length:Int) - r5.1)) ((w64 ((V.length:Int) - r5.1))+((V.length:Int) - (w64 ((V.length:Int) - r5.1)))))).size+((rd B D Z17).2).size)<|idx D (B.length:Int)<|bnd (0:Int) (w64 ((V.length:Int) - r5.1)) (V.length:Int)<|bnd (0:Int) (w64 ((x9.length:Int) - r5.1)) (x9.length:Int)<|kn C (B.set D.toNat ((rd B D Z17).1,((runesBytes (cut V (w64 ((V.length:Int) - r5.1)) ((w64 ((V.length:Int) - r5.1))+((V.length:Int) - (w64 ((V.length:Int) - r5.1))))))++(rd B D Z17).2))) D T E (cut x9 (0:Int) ((0:Int)+((w64 ((x9.length:Int) - r5.1)) - (0:Int)))) (cut V (0:Int) ((0:Int)+((w64 ((V.length:Int) - r5.1)) - (0:Int))))) else (kn C B D T E x9 V))) else (kn C B D T E x9 V)) else (kn C B D T E x9 V)
def Q3:FS1 β:=FXs (fP n aH) n eJ (some cX) none [] [133978056,133978057]
theorem aN1 (C:Z11) (B:List Z26) (D T E:Int) (x9 V:List Int) (ar:Bool):Q3 n aH (zT C B D T E x9 V ar) cx=uG n aH (fun C B D T E x9 V=>cx.nrm (cO C B D T E x9 V)) C B D T E x9 V ar:=by kernel_rfl
def zK (n:Nat) (aH:bV) (kn:Z11→List Z26→Int→Int→Int→Option β) (C:Z11) (B:List Z26) (D T E:Int) (x9 V:List Int):Option β:=bif (T==(0:Int)) then ((qV n B (w64 (D - E)) (w64 (T+E)) [((1:Int),(runesBytes V))]).bind fun W=>kn C W.1 D T E) else (bif (E==(0:Int)) then ((qV n B (w64 (D - T)) (w64 (T+E)) [((-1:Int),(runesBytes x9))]).bind fun r2=>kn C r2.1 D T E) else ((qV n B (w64 ((w64 (D - T)) - E)) (w64 (T+E)) [((-1:Int),(runesBytes x9)),((1:Int),(runesBytes V))]).bind fun r3=>kn C r3.1 D T E))
def E6:FS1 β:=FXs (fP n aH) n eJ (some OO) none [] [267956116,267956117]
theorem l6 (C:Z11) (B:List Z26) (D T E:Int) (x9 V:List Int):E6 n aH (cO C B D T E x9 V) cx=zK n aH (fun C B D T E=>cx.nrm (Q1 C B D T E)) C B D T E x9 V:=by kernel_rfl
def zA (n:Nat) (aH:bV) (kn:Z11→List Z26→Int→Int→Option β) (C:Z11) (B:List Z26) (D T E:Int):Option β:=bif (T !=(0:Int)) then (kn C B (w64 ((w64 ((w64 ((w64 (D - T)) - E))+(1:Int)))+(1:Int))) E) else (kn C B (w64 ((w64 ((w64 (D - T)) - E))+(1:Int))) E)
def N9:FS1 β:=FXs (fP n aH) n eJ (some OR) none [] [267956118,1071824476,1071824477]
theorem aH1 (C:Z11) (B:List Z26) (D T E:Int):N9 n aH (Q1 C B D T E) cx=zA n aH (fun C B D E=>cx.nrm (ZY C B D E)) C B D T E:=by kernel_rfl
def xM (n:Nat) (aH:bV) (kn:Z11→List Z26→Int→Option β) (C:Z11) (B:List Z26) (D E:Int):Option β:=bif (E !=(0:Int)) then (kn C B (w64 (D+1))) else (kn C B D)
def C0:FS1 β:=FXs (fP n aH) n eJ (some sZ) none [] [1071824478,1071824479]
theorem g8 (C:Z11) (B:List Z26) (D E:Int):C0 n aH (ZY C B D E) cx=xM n aH (fun C B D=>cx.nrm (rW C B D)) C B D E:=by kernel_rfl
def wT (kn:Z11→List Z26→Int→Option β) (C:Z11) (B:List Z26) (D T E:Int) (x9 V:List Int) (ar:Bool):Option β:=uG n aH (fun C B D T E x9 V=>zK n aH (fun C B D T E=>zA n aH (fun C B D E=>xM n aH kn C B D E) C B D T E) C B D T E x9 V) C B D T E x9 V ar
def HY (s:FState) (cx:Cx β):Option β:=Q3 n aH s {cx with nrm:=fun s=>E6 n aH s {cx with nrm:=fun s=>N9 n aH s {cx with nrm:=fun s=>C0 n aH s cx}}}
theorem y4 (C:Z11) (B:List Z26) (D T E:Int) (x9 V:List Int) (ar:Bool):HY n aH (zT C B D T E x9 V ar) cx=wT n aH (fun C B D=>cx.nrm (rW C B D)) C B D T E x9 V ar:=by simp only [HY,wT,aN1,l6,aH1,g8]
def SA (n:Nat) (aH:bV) (kn:Z11→List Z26→Int→Option β) (C:Z11) (B:List Z26) (D T E:Int) (x9 V:List Int) (ar:Bool):Option β:=bif (D !=(0:Int)) then (idx (w64 (D - 1)) (B.length:Int)<|bif ((rd B (w64 (D - 1)) Z17).1==(0:Int)) then (idx (w64 (D - 1)) (B.length:Int)<|idx D (B.length:Int)<|cM (((rd B (w64 (D - 1)) Z17).2).size+((rd B D Z17).2).size)<|idx (w64 (D - 1)) (B.length:Int)<|bnd (0:Int) D ((B.set (w64 (D - 1)).toNat ((rd B (w64 (D - 1)) Z17).1,((rd B (w64 (D - 1)) Z17).2++(rd B D Z17).2))).length:Int)<|bnd (w64 (D+1)) ((B.set (w64 (D - 1)).toNat ((rd B (w64 (D - 1)) Z17).1,((rd B (w64 (D - 1)) Z17).2++(rd B D Z17).2))).length:Int) ((B.set (w64 (D - 1)).toNat ((rd B (w64 (D - 1)) Z17).1,((rd B (w64 (D - 1)) Z17).2++(rd B D Z17).2))).length:Int)<|cM ((cut (B.set (w64 (D - 1)).toNat ((rd B (w64 (D - 1)) Z17).1,((rd B (w64 (D - 1)) Z17).2++(rd B D Z17).2))) (0:Int) ((0:Int)+(D - (0:Int)))).length+(cut (B.set (w64 (D - 1)).toNat ((rd B (w64 (D - 1)) Z17).1,((rd B (w64 (D - 1)) Z17).2++(rd B D Z17).2))) (w64 (D+1)) ((w64 (D+1))+(((B.set (w64 (D - 1)).toNat ((rd B (w64 (D - 1)) Z17).1,((rd B (w64 (D - 1)) Z17).2++(rd B D Z17).2))).length:Int) - (w64 (D+1))))).length)<|kn C ((cut (B.set (w64 (D - 1)).toNat ((rd B (w64 (D - 1)) Z17).1,((rd B (w64 (D - 1)) Z17).2++(rd B D Z17).2))) (0:Int) ((0:Int)+(D - (0:Int))))++(cut (B.set (w64 (D - 1)).toNat ((rd B (w64 (D - 1)) Z17).1,((rd B (w64 (D - 1)) Z17).2++(rd B D Z17).2))) (w64 (D+1)) ((w64 (D+1))+(((B.set (w64 (D - 1)).toNat ((rd B (w64 (D - 1)) Z17).1,((rd B (w64 (D - 1)) Z17).2++(rd B D Z17).2))).length:Int) - (w64 (D+1)))))) D) else (kn C B (w64 (D+1)))) else (kn C B (w64 (D+1)))
def H0:FS1 β:=FXs (fP n aH) n eJ (some sZ) none [] [66989030,66989031]
theorem aD9 (C:Z11) (B:List Z26) (D T E:Int) (x9 V:List Int) (ar:Bool):H0 n aH (zT C B D T E x9 V ar) cx=SA n aH (fun C B D=>cx.nrm (rW C B D)) C B D T E x9 V ar:=by kernel_rfl
def FG (kn:Z11→List Z26→Int→Option β) (C:Z11) (B:List Z26) (D T E:Int) (x9 V:List Int) (ar:Bool):Option β:=bif ar then wT n aH kn C B D T E x9 V ar else SA n aH kn C B D T E x9 V ar
def IO (s:FState) (cx:Cx β):Option β:=asBool (ev s (kU (nav eJ [1,1,1,1,1,1,1,1,0,0,0,1,0,1,0,1,1,1,1,1,0,0,1]))) fun t=>cond t (HY n aH s cx) (H0 n aH s cx)
theorem n6 (C:Z11) (B:List Z26) (D T E:Int) (x9 V:List Int) (ar:Bool):IO n aH (zT C B D T E x9 V ar) cx=FG n aH (fun C B D=>cx.nrm (rW C B D)) C B D T E x9 V ar:=by
  simp only [IO,FG,y4,aD9]
  kernel_rfl
def FN (n:Nat) (aH:bV) (ap:Z11→List Z26→Int→Int→Int→List Int→List Int→Option β) (C:Z11) (B:List Z26) (D:Int):Option β:=ap C B D (0:Int) (0:Int) [] []
def M3:FS1 β:=FXs (fP n aH) n eJ none none [(2,cX)] [16747258,33494518,66989038,133978078,133978079]
theorem aI0 (C:Z11) (B:List Z26) (D:Int):M3 n aH (rW C B D) cx=FN n aH (fun C B D T E x9 V=>cx.ex 2 (cO C B D T E x9 V)) C B D:=by kernel_rfl
def FT (ap:Z11→List Z26→Int→Int→Int→List Int→List Int→Option β) (C:Z11) (B:List Z26) (D T E:Int) (x9 V:List Int) (aq:Bool):Option β:=aO8 n aH (fun C B D T E x9 V ar=>FG n aH (fun C B D=>FN n aH ap C B D) C B D T E x9 V ar) C B D T E x9 V aq
def LM (s:FState) (cx:Cx β):Option β:=bM4 n aH s {cx with nrm:=fun s=>IO n aH s {cx with nrm:=fun s=>M3 n aH s cx}}
theorem aK7 (C:Z11) (B:List Z26) (D T E:Int) (x9 V:List Int) (aq:Bool):LM n aH (xH C B D T E x9 V aq) cx=FT n aH (fun C B D T E x9 V=>cx.ex 2 (cO C B D T E x9 V)) C B D T E x9 V aq:=by simp only [LM,FT,cI4,n6,aI0]
def bD6 (n:Nat) (aH:bV) (kn:Z11→List Z26→Int→Int→Int→List Int→List Int→Option β) (C:Z11) (B:List Z26) (D T E:Int) (x9 V:List Int) (aq:Bool):Option β:=kn C B D T E x9 V
def D5:FS1 β:=FXs (fP n aH) n eJ (some cX) none [] [4186815]
theorem b5 (C:Z11) (B:List Z26) (D T E:Int) (x9 V:List Int) (aq:Bool):D5 n aH (xH C B D T E x9 V aq) cx=bD6 n aH (fun C B D T E x9 V=>cx.nrm (cO C B D T E x9 V)) C B D T E x9 V aq:=by kernel_rfl
def GL (kn ap:Z11→List Z26→Int→Int→Int→List Int→List Int→Option β) (C:Z11) (B:List Z26) (D T E:Int) (x9 V:List Int) (aq:Bool):Option β:=bif aq then FT n aH ap C B D T E x9 V aq else bD6 n aH kn C B D T E x9 V aq
def IV (s:FState) (cx:Cx β):Option β:=asBool (ev s (kU (nav eJ [1,1,1,1,1,1,1,1,0,0,0,1,0,1,0,1,1,1,1,1]))) fun t=>cond t (LM n aH s cx) (D5 n aH s cx)
theorem W8 (C:Z11) (B:List Z26) (D T E:Int) (x9 V:List Int) (aq:Bool):IV n aH (xH C B D T E x9 V aq) cx=GL n aH (fun C B D T E x9 V=>cx.nrm (cO C B D T E x9 V)) (fun C B D T E x9 V=>cx.ex 2 (cO C B D T E x9 V)) C B D T E x9 V aq:=by
  simp only [IV,GL,aK7,b5]
  kernel_rfl
def GG (kn ap:Z11→List Z26→Int→Int→Int→List Int→List Int→Option β) (C:Z11) (B:List Z26) (D T E:Int) (x9 V:List Int) (ak:Int) (bf:Bool):Option β:=aJ7 n aH (fun C B D T E x9 V aq=>GL n aH kn ap C B D T E x9 V aq) C B D T E x9 V ak bf
def LO (s:FState) (cx:Cx β):Option β:=bC4 n aH s {cx with nrm:=fun s=>IV n aH s cx}
theorem aE8 (C:Z11) (B:List Z26) (D T E:Int) (x9 V:List Int) (ak:Int) (bf:Bool):LO n aH (xR C B D T E x9 V ak bf) cx=GG n aH (fun C B D T E x9 V=>cx.nrm (cO C B D T E x9 V)) (fun C B D T E x9 V=>cx.ex 2 (cO C B D T E x9 V)) C B D T E x9 V ak bf:=by simp only [LO,GG,bX8,W8]
def FP (kn ap:Z11→List Z26→Int→Int→Int→List Int→List Int→Option β) (C:Z11) (B:List Z26) (D T E:Int) (x9 V:List Int) (ak:Int) (bf:Bool):Option β:=bif bf then aJ9 n aH ap C B D T E x9 V ak bf else GG n aH kn ap C B D T E x9 V ak bf
def JS (s:FState) (cx:Cx β):Option β:=asBool (ev s (kU (nav eJ [1,1,1,1,1,1,1,1,0,0,0,1,0,1,0,1,1,1]))) fun t=>cond t (aZ4 n aH s cx) (LO n aH s cx)
theorem aK9 (C:Z11) (B:List Z26) (D T E:Int) (x9 V:List Int) (ak:Int) (bf:Bool):JS n aH (xR C B D T E x9 V ak bf) cx=FP n aH (fun C B D T E x9 V=>cx.nrm (cO C B D T E x9 V)) (fun C B D T E x9 V=>cx.ex 2 (cO C B D T E x9 V)) C B D T E x9 V ak bf:=by
  simp only [JS,FP,bU6,aE8]
  kernel_rfl
def HD (kn ap:Z11→List Z26→Int→Int→Int→List Int→List Int→Option β) (C:Z11) (B:List Z26) (D T E:Int) (x9 V:List Int) (ak:Int) (aa:Bool):Option β:=d7 n aH (fun C B D T E x9 V ak bf=>FP n aH kn ap C B D T E x9 V ak bf) C B D T E x9 V ak aa
def KI (s:FState) (cx:Cx β):Option β:=aV4 n aH s {cx with nrm:=fun s=>JS n aH s cx}
theorem j4 (C:Z11) (B:List Z26) (D T E:Int) (x9 V:List Int) (ak:Int) (aa:Bool):KI n aH (wP C B D T E x9 V ak aa) cx=HD n aH (fun C B D T E x9 V=>cx.nrm (cO C B D T E x9 V)) (fun C B D T E x9 V=>cx.ex 2 (cO C B D T E x9 V)) C B D T E x9 V ak aa:=by simp only [KI,HD,cG4,aK9]
def FC (kn ap:Z11→List Z26→Int→Int→Int→List Int→List Int→Option β) (C:Z11) (B:List Z26) (D T E:Int) (x9 V:List Int) (ak:Int) (aa:Bool):Option β:=bif aa then aG1 n aH ap C B D T E x9 V ak aa else HD n aH kn ap C B D T E x9 V ak aa
def JP (s:FState) (cx:Cx β):Option β:=asBool (ev s (kU (nav eJ [1,1,1,1,1,1,1,1,0,0,0,1,0,1,0,1]))) fun t=>cond t (aZ3 n aH s cx) (KI n aH s cx)
theorem aN8 (C:Z11) (B:List Z26) (D T E:Int) (x9 V:List Int) (ak:Int) (aa:Bool):JP n aH (wP C B D T E x9 V ak aa) cx=FC n aH (fun C B D T E x9 V=>cx.nrm (cO C B D T E x9 V)) (fun C B D T E x9 V=>cx.ex 2 (cO C B D T E x9 V)) C B D T E x9 V ak aa:=by
  simp only [JP,FC,bP4,j4]
  kernel_rfl
def GI (kn ap:Z11→List Z26→Int→Int→Int→List Int→List Int→Option β) (C:Z11) (B:List Z26) (D T E:Int) (x9 V:List Int) (ak:Int):Option β:=aM3 n aH (fun C B D T E x9 V ak aa=>FC n aH kn ap C B D T E x9 V ak aa) C B D T E x9 V ak
def IQ (s:FState) (cx:Cx β):Option β:=bE5 n aH s {cx with nrm:=fun s=>JP n aH s cx}
theorem X4 (C:Z11) (B:List Z26) (D T E:Int) (x9 V:List Int) (ak:Int):IQ n aH (GA C B D T E x9 V ak) cx=GI n aH (fun C B D T E x9 V=>cx.nrm (cO C B D T E x9 V)) (fun C B D T E x9 V=>cx.ex 2 (cO C B D T E x9 V)) C B D T E x9 V ak:=by simp only [IQ,GI,cD3,aN8]
def XX (kn:Z11→List Z26→Int→Int→Int→List Int→List Int→Option β) (C:Z11) (B:List Z26) (D T E:Int) (x9 V:List Int) (ak:Int):Option β:=GI n aH kn kn C B D T E x9 V ak
def K1 (s:FState) (cx:Cx β):Option β:=IQ n aH s {cx with ex:=fun j s=>bif Nat.beq j 2 then cx.nrm s else cx.ex j s}
theorem aE2 (C:Z11) (B:List Z26) (D T E:Int) (x9 V:List Int) (ak:Int):K1 n aH (GA C B D T E x9 V ak) cx=XX n aH (fun C B D T E x9 V=>cx.nrm (cO C B D T E x9 V)) C B D T E x9 V ak:=X4 n aH _ C B D T E x9 V ak
def GS (kn:Z11→List Z26→Int→Int→Int→List Int→List Int→Option β) (C:Z11) (B:List Z26) (D T E:Int) (x9 V:List Int):Option β:=aI5 n aH (fun C B D T E x9 V ak=>XX n aH kn C B D T E x9 V ak) C B D T E x9 V
def HS (s:FState) (cx:Cx β):Option β:=bF7 n aH s {cx with nrm:=fun s=>K1 n aH s cx}
theorem a7 (C:Z11) (B:List Z26) (D T E:Int) (x9 V:List Int):HS n aH (cO C B D T E x9 V) cx=GS n aH (fun C B D T E x9 V=>cx.nrm (cO C B D T E x9 V)) C B D T E x9 V:=by simp only [HS,GS,bV7,aE2]
def UY (kn:Z11→List Z26→Int→Int→Int→List Int→List Int→Option β) (C:Z11) (B:List Z26) (D T E:Int) (x9 V:List Int):Option β:=GS n aH kn C B D T E x9 V
def C1 (s:FState) (cx:Cx β):Option β:=HS n aH s {cx with ex:=fun j s=>bif Nat.beq j 1 then cx.nrm s else cx.ex j s}
theorem aU4 (C:Z11) (B:List Z26) (D T E:Int) (x9 V:List Int):C1 n aH (cO C B D T E x9 V) cx=UY n aH (fun C B D T E x9 V=>cx.nrm (cO C B D T E x9 V)) C B D T E x9 V:=a7 n aH _ C B D T E x9 V
def zN (kn:Z11→List Z26→Int→Int→Int→List Int→List Int→Option β) (ae:Z11→List Z26→Option β) (C:Z11) (B:List Z26) (D T E:Int) (x9 V:List Int):Option β:=PL n aH (fun C B D T E x9 V=>UY n aH kn C B D T E x9 V) ae C B D T E x9 V
def AD (s:FState) (cx:Cx β):Option β:=bL8 n aH s {cx with nrm:=fun s=>C1 n aH s cx}
theorem aQ7 (C:Z11) (B:List Z26) (D T E:Int) (x9 V:List Int):AD n aH (cO C B D T E x9 V) cx=zN n aH (fun C B D T E x9 V=>cx.nrm (cO C B D T E x9 V)) (fun C B=>cx.ex 0 (nV C B)) C B D T E x9 V:=by simp only [AD,zN,cA3,aU4]
def g137_30L (n:Nat) (aH:bV) (ae:Z11→List Z26→Option β):Nat→Z11→List Z26→Int→Int→Int→List Int→List Int→Option β
  | 0,_,_,_,_,_,_,_=>none
  | m+1,C,B,D,T,E,x9,V=>zN n aH (g137_30L n aH ae m) ae C B D T E x9 V
def RG (ae:Z11→List Z26→Option β) (C:Z11) (B:List Z26) (D T E:Int) (x9 V:List Int):Option β:=g137_30L n aH ae n C B D T E x9 V
def YT (s:FState) (cx:Cx β):Option β:=bO (fun again s=>AD n aH s {cx with nrm:=again}) n s
theorem K6 (n:Nat) (aH:bV) (cx:Cx β):∀(m:Nat) (C:Z11) (B:List Z26) (D T E:Int) (x9 V:List Int),bO (fun again s=>AD n aH s {cx with nrm:=again}) m (cO C B D T E x9 V)=g137_30L n aH (fun C B=>cx.ex 0 (nV C B)) m C B D T E x9 V:=by
  intro m
  induction m with
  | zero=>intros;rfl
  | succ m ih=>intros;simp only [bO,g137_30L,aQ7,ih]
theorem q7 (C:Z11) (B:List Z26) (D T E:Int) (x9 V:List Int):YT n aH (cO C B D T E x9 V) cx=RG n aH (fun C B=>cx.ex 0 (nV C B)) C B D T E x9 V:=K6 n aH cx n C B D T E x9 V
def SR (kn:Z11→List Z26→Option β) (C:Z11) (B:List Z26) (D T E:Int) (x9 V:List Int):Option β:=RG n aH kn C B D T E x9 V
def F9 (s:FState) (cx:Cx β):Option β:=YT n aH s {cx with ex:=fun j s=>bif Nat.beq j 0 then cx.nrm s else cx.ex j s}
theorem aU1 (C:Z11) (B:List Z26) (D T E:Int) (x9 V:List Int):F9 n aH (cO C B D T E x9 V) cx=SR n aH (fun C B=>cx.nrm (nV C B)) C B D T E x9 V:=q7 n aH _ C B D T E x9 V
def GU (n:Nat) (aH:bV) (kn:Z11→List Z26→Option β) (C:Z11) (B:List Z26):Option β:=idx (w64 ((B.length:Int) - 1)) (B.length:Int)<|bif ((((rd B (w64 ((B.length:Int) - 1)) Z17).2).size:Int)==(0:Int)) then (bnd (0:Int) (w64 ((B.length:Int) - 1)) (B.length:Int)<|kn C (cut B (0:Int) ((0:Int)+((w64 ((B.length:Int) - 1)) - (0:Int))))) else (kn C B)
def G1:FS1 β:=FXs (fP n aH) n eJ (some sH) none [] [4092,4093]
theorem aU5 (C:Z11) (B:List Z26):G1 n aH (nV C B) cx=GU n aH (fun C B=>cx.nrm (nV C B)) C B:=by kernel_rfl
def xE (n:Nat) (aH:bV) (kn:Z11→List Z26→Int→Bool→Option β) (C:Z11) (B:List Z26):Option β:=kn C B (1:Int) false
def ZJ:FS1 β:=FXs (fP n aH) n eJ (some uL) none [] [4094,8190]
theorem aB2 (C:Z11) (B:List Z26):ZJ n aH (nV C B) cx=xE n aH (fun C B D ac=>cx.nrm (pO C B D ac)) C B:=by kernel_rfl
def QZ (n:Nat) (aH:bV) (kn:Z11→List Z26→Int→Bool→Option β) (bl:Z11→List Z26→Bool→Option β) (C:Z11) (B:List Z26) (D:Int) (ac:Bool):Option β:=bif (decide (D < (w64 ((B.length:Int) - 1)))) then (idx (w64 (D - 1)) (B.length:Int)<|bif ((rd B (w64 (D - 1)) Z17).1==(0:Int)) then (idx (w64 (D+1)) (B.length:Int)<|bif ((rd B (w64 (D+1)) Z17).1==(0:Int)) then (idx D (B.length:Int)<|idx (w64 (D - 1)) (B.length:Int)<|(aC8 n ((rd B D Z17).2) ((rd B (w64 (D - 1)) Z17).2)).bind fun W=>bif W.1 then (idx (w64 (D - 1)) (B.length:Int)<|idx D (B.length:Int)<|idx D (B.length:Int)<|idx (w64 (D - 1)) (B.length:Int)<|bnd (0:Int) (w64 ((((rd B D Z17).2).size:Int) - (((rd B (w64 (D - 1)) Z17).2).size:Int))) (((rd B D Z17).2).size:Int)<|cM (((rd B (w64 (D - 1)) Z17).2).size+(bD ((rd B D Z17).2) (0:Int) (w64 ((((rd B D Z17).2).size:Int) - (((rd B (w64 (D - 1)) Z17).2).size:Int)))).size)<|idx D (B.length:Int)<|idx (w64 (D - 1)) ((B.set D.toNat ((rd B D Z17).1,((rd B (w64 (D - 1)) Z17).2++(bD ((rd B D Z17).2) (0:Int) (w64 ((((rd B D Z17).2).size:Int) - (((rd B (w64 (D - 1)) Z17).2).size:Int))))))).length:Int)<|idx (w64 (D+1)) ((B.set D.toNat ((rd B D Z17).1,((rd B (w64 (D - 1)) Z17).2++(bD ((rd B D Z17).2) (0:Int) (w64 ((((rd B D Z17).2).size:Int) - (((rd B (w64 (D - 1)) Z17).2).size:Int))))))).length:Int)<|cM (((rd (B.set D.toNat ((rd B D Z17).1,((rd B (w64 (D - 1)) Z17).2++(bD ((rd B D Z17).2) (0:Int) (w64 ((((rd B D Z17).2).size:Int) - (((rd B (w64 (D - 1)) Z17).2).size:Int))))))) (w64 (D - 1)) Z17).2).size+((rd (B.set D.toNat ((rd B D Z17).1,((rd B (w64 (D - 1)) Z17).2++(bD ((rd B D Z17).2) (0:Int) (w64 ((((rd B D Z17).2).size:Int) - (((rd B (w64 (D - 1)) Z17).2).size:Int))))))) (w64 (D+1)) Z17).2).size)<|idx (w64 (D+1)) ((B.set D.toNat ((rd B D Z17).1,((rd B (w64 (D - 1)) Z17).2++(bD ((rd B D Z17).2) (0:Int) (w64 ((((rd B D Z17).2).size:Int) - (((rd B (w64 (D - 1)) Z17).2).size:Int))))))).length:Int)<|(qV n ((B.set D.toNat ((rd B D Z17).1,((rd B (w64 (D - 1)) Z17).2++(bD ((rd B D Z17).2) (0:Int) (w64 ((((rd B D Z17).2).size:Int) - (((rd B (w64 (D - 1)) Z17).2).size:Int))))))).set (w64 (D+1)).toNat ((rd (B.set D.toNat ((rd B D Z17).1,((rd B (w64 (D - 1)) Z17).2++(bD ((rd B D Z17).2) (0:Int) (w64 ((((rd B D Z17).2).size:Int) - (((rd B (w64 (D - 1)) Z17).2).size:Int))))))) (w64 (D+1)) Z17).1,((rd (B.set D.toNat ((rd B D Z17).1,((rd B (w64 (D - 1)) Z17).2++(bD ((rd B D Z17).2) (0:Int) (w64 ((((rd B D Z17).2).size:Int) - (((rd B (w64 (D - 1)) Z17).2).size:Int))))))) (w64 (D - 1)) Z17).2++(rd (B.set D.toNat ((rd B D Z17).1,((rd B (w64 (D - 1)) Z17).2++(bD ((rd B D Z17).2) (0:Int) (w64 ((((rd B D Z17).2).size:Int) - (((rd B (w64 (D - 1)) Z17).2).size:Int))))))) (w64 (D+1)) Z17).2))) (w64 (D - 1)) (1:Int) []).bind fun r2=>kn C r2.1 (w64 (D+1)) true) else (idx D (B.length:Int)<|idx (w64 (D+1)) (B.length:Int)<|(dW8 n ((rd B D Z17).2) ((rd B (w64 (D+1)) Z17).2)).bind fun r3=>bif r3.1 then (idx (w64 (D - 1)) (B.length:Int)<|idx (w64 (D+1)) (B.length:Int)<|cM (((rd B (w64 (D - 1)) Z17).2).size+((rd B (w64 (D+1)) Z17).2).size)<|idx (w64 (D - 1)) (B.length:Int)<|idx D ((B.set (w64 (D - 1)).toNat ((rd B (w64 (D - 1)) Z17).1,((rd B (w64 (D - 1)) Z17).2++(rd B (w64 (D+1)) Z17).2))).length:Int)<|idx (w64 (D+1)) ((B.set (w64 (D - 1)).toNat ((rd B (w64 (D - 1)) Z17).1,((rd B (w64 (D - 1)) Z17).2++(rd B (w64 (D+1)) Z17).2))).length:Int)<|bnd (((rd (B.set (w64 (D - 1)).toNat ((rd B (w64 (D - 1)) Z17).1,((rd B (w64 (D - 1)) Z17).2++(rd B (w64 (D+1)) Z17).2))) (w64 (D+1)) Z17).2).size:Int) (((rd (B.set (w64 (D - 1)).toNat ((rd B (w64 (D - 1)) Z17).1,((rd B (w64 (D - 1)) Z17).2++(rd B (w64 (D+1)) Z17).2))) D Z17).2).size:Int) (((rd (B.set (w64 (D - 1)).toNat ((rd B (w64 (D - 1)) Z17).1,((rd B (w64 (D - 1)) Z17).2++(rd B (w64 (D+1)) Z17).2))) D Z17).2).size:Int)<|idx (w64 (D+1)) ((B.set (w64 (D - 1)).toNat ((rd B (w64 (D - 1)) Z17).1,((rd B (w64 (D - 1)) Z17).2++(rd B (w64 (D+1)) Z17).2))).length:Int)<|cM ((bD ((rd (B.set (w64 (D - 1)).toNat ((rd B (w64 (D - 1)) Z17).1,((rd B (w64 (D - 1)) Z17).2++(rd B (w64 (D+1)) Z17).2))) D Z17).2) (((rd (B.set (w64 (D - 1)).toNat ((rd B (w64 (D - 1)) Z17).1,((rd B (w64 (D - 1)) Z17).2++(rd B (w64 (D+1)) Z17).2))) (w64 (D+1)) Z17).2).size:Int) (((rd (B.set (w64 (D - 1)).toNat ((rd B (w64 (D - 1)) Z17).1,((rd B (w64 (D - 1)) Z17).2++(rd B (w64 (D+1)) Z17).2))) D Z17).2).size:Int)).size+((rd (B.set (w64 (D - 1)).toNat ((rd B (w64 (D - 1)) Z17).1,((rd B (w64 (D - 1)) Z17).2++(rd B (w64 (D+1)) Z17).2))) (w64 (D+1)) Z17).2).size)<|idx D ((B.set (w64 (D - 1)).toNat ((rd B (w64 (D - 1)) Z17).1,((rd B (w64 (D - 1)) Z17).2++(rd B (w64 (D+1)) Z17).2))).length:Int)<|(qV n ((B.set (w64 (D - 1)).toNat ((rd B (w64 (D - 1)) Z17).1,((rd B (w64 (D - 1)) Z17).2++(rd B (w64 (D+1)) Z17).2))).set D.toNat ((rd (B.set (w64 (D - 1)).toNat ((rd B (w64 (D - 1)) Z17).1,((rd B (w64 (D - 1)) Z17).2++(rd B (w64 (D+1)) Z17).2))) D Z17).1,((bD ((rd (B.set (w64 (D - 1)).toNat ((rd B (w64 (D - 1)) Z17).1,((rd B (w64 (D - 1)) Z17).2++(rd B (w64 (D+1)) Z17).2))) D Z17).2) (((rd (B.set (w64 (D - 1)).toNat ((rd B (w64 (D - 1)) Z17).1,((rd B (w64 (D - 1)) Z17).2++(rd B (w64 (D+1)) Z17).2))) (w64 (D+1)) Z17).2).size:Int) (((rd (B.set (w64 (D - 1)).toNat ((rd B (w64 (D - 1)) Z17).1,((rd B (w64 (D - 1)) Z17).2++(rd B (w64 (D+1)) Z17).2))) D Z17).2).size:Int))++(rd (B.set (w64 (D - 1)).toNat ((rd B (w64 (D - 1)) Z17).1,((rd B (w64 (D - 1)) Z17).2++(rd B (w64 (D+1)) Z17).2))) (w64 (D+1)) Z17).2))) (w64 (D+1)) (1:Int) []).bind fun r4=>kn C r4.1 (w64 (D+1)) true) else (kn C B (w64 (D+1)) ac))) else (kn C B (w64 (D+1)) ac)) else (kn C B (w64 (D+1)) ac)) else (bl C B ac)
def MB:FS1 β:=FXs (fP n aH) n eJ (some uL) none [(3,tC)] [262112,262113,131057]
theorem aA0 (C:Z11) (B:List Z26) (D:Int) (ac:Bool):MB n aH (pO C B D ac) cx=QZ n aH (fun C B D ac=>cx.nrm (pO C B D ac)) (fun C B ac=>cx.ex 3 (rR C B ac)) C B D ac:=by kernel_rfl
def g137_35L (n:Nat) (aH:bV) (bl:Z11→List Z26→Bool→Option β):Nat→Z11→List Z26→Int→Bool→Option β
  | 0,_,_,_,_=>none
  | m+1,C,B,D,ac=>QZ n aH (g137_35L n aH bl m) bl C B D ac
def XN (bl:Z11→List Z26→Bool→Option β) (C:Z11) (B:List Z26) (D:Int) (ac:Bool):Option β:=g137_35L n aH bl n C B D ac
def C9 (s:FState) (cx:Cx β):Option β:=bO (fun again s=>MB n aH s {cx with nrm:=again}) n s
theorem B7 (n:Nat) (aH:bV) (cx:Cx β):∀(m:Nat) (C:Z11) (B:List Z26) (D:Int) (ac:Bool),bO (fun again s=>MB n aH s {cx with nrm:=again}) m (pO C B D ac)=g137_35L n aH (fun C B ac=>cx.ex 3 (rR C B ac)) m C B D ac:=by
  intro m
  induction m with
  | zero=>intros;rfl
  | succ m ih=>intros;simp only [bO,g137_35L,aA0,ih]
theorem Y7 (C:Z11) (B:List Z26) (D:Int) (ac:Bool):C9 n aH (pO C B D ac) cx=XN n aH (fun C B ac=>cx.ex 3 (rR C B ac)) C B D ac:=B7 n aH cx n C B D ac
def xX (kn:Z11→List Z26→Bool→Option β) (C:Z11) (B:List Z26) (D:Int) (ac:Bool):Option β:=XN n aH kn C B D ac
def I1 (s:FState) (cx:Cx β):Option β:=C9 n aH s {cx with ex:=fun j s=>bif Nat.beq j 3 then cx.nrm s else cx.ex j s}
theorem Y4 (C:Z11) (B:List Z26) (D:Int) (ac:Bool):I1 n aH (pO C B D ac) cx=xX n aH (fun C B ac=>cx.nrm (rR C B ac)) C B D ac:=Y7 n aH _ C B D ac
def tV (n:Nat) (aH:bV) (kr:List Z26→Option β) (C:Z11) (B:List Z26) (ac:Bool):Option β:=bif ac then ((aH (C,(B,()))).bind fun W=>kr W.1) else (kr B)
def C5:FS1 β:=FXs (fP n aH) n eJ none (some sB) [] [65532,65533,65534,65535]
theorem aQ3 (C:Z11) (B:List Z26) (ac:Bool):C5 n aH (rR C B ac) cx=tV n aH (fun x4=>cx.ret (bA7 x4)) C B ac:=by kernel_rfl
def FQ (kr:List Z26→Option β) (C:Z11) (B:List Z26):Option β:=s8 n aH (fun C B D T E x9 V=>SR n aH (fun C B=>GU n aH (fun C B=>xE n aH (fun C B D ac=>xX n aH (fun C B ac=>tV n aH kr C B ac) C B D ac) C B) C B) C B D T E x9 V) C B
def AQ (s:FState) (cx:Cx β):Option β:=aW2 n aH s {cx with nrm:=fun s=>F9 n aH s {cx with nrm:=fun s=>G1 n aH s {cx with nrm:=fun s=>ZJ n aH s {cx with nrm:=fun s=>I1 n aH s {cx with nrm:=fun s=>C5 n aH s cx}}}}}
theorem T9 (C:Z11) (B:List Z26):AQ n aH (UD C B) cx=FQ n aH (fun x4=>cx.ret (bA7 x4)) C B:=by simp only [AQ,FQ,bQ6,aU1,aU5,aB2,Y4,aQ3]
def PU (C:Z11) (B:List Z26):Option (DenR [.rw Z22 115]):=FQ n aH (fun x4=>some (x4,())) C B
def aZ1 (d:DenA kE):Option (DenR hQ):=PU n aH d.1 d.2.1
def dL6:Sk:=(.nd (.fin none none none [] .leaf) (.nd (.fin none none none [] .leaf) (.nd (.fin none none none [] .leaf) (.nd (.fin none none none [] .leaf) (.nd (.fin none none none [] .leaf) (.nd (.fin none none none [] .leaf) (.nd (.fin none none none [] .leaf) (.nd (.fin none (some cX) none [] .leaf) (.nd (.nd (.nd (.nd (.nd (.fin none none none [(0,sH)] .leaf) (.fin none (some cX) none [(0,sH)] .leaf)) (.nd (.nd (.fin none (some D4) none [] .leaf) (.nd (.nd (.fin none (some C3) none [] .leaf) (.nd (.nd (.fin none none none [(2,cX)] .leaf) (.nd (.fin none none none [(2,cX)] .leaf) (.nd (.fin none none none [(2,cX)] .leaf) (.fin none none none [(2,cX)] .leaf)))) (.nd (.fin none (some G2) none [] .leaf) (.nd (.nd (.fin none none none [(2,cX)] .leaf) (.nd (.fin none none none [(2,cX)] .leaf) (.nd (.fin none none none [(2,cX)] .leaf) (.fin none none none [(2,cX)] .leaf)))) (.nd (.fin none (some YC) none [] .leaf) (.nd (.nd (.nd (.fin none (some K7) none [] .leaf) (.nd (.nd (.nd (.fin none none none [] .leaf) (.fin none (some cX) none [] .leaf)) (.nd (.nd (.fin none none none [] .leaf) (.fin none (some OO) none [] .leaf)) (.nd (.fin none none none [] .leaf) (.nd (.nd (.fin none none none [] .leaf) (.fin none (some OR) none [] .leaf)) (.nd (.fin none none none [] .leaf) (.fin none (some sZ) none [] .leaf)))))) (.nd (.fin none none none [] .leaf) (.fin none (some sZ) none [] .leaf)))) (.nd (.fin none none none [(2,cX)] .leaf) (.nd (.fin none none none [(2,cX)] .leaf) (.nd (.fin none none none [(2,cX)] .leaf) (.nd (.fin none none none [(2,cX)] .leaf) (.fin none none none [(2,cX)] .leaf)))))) (.fin none (some cX) none [] .leaf))))))) .leaf)) .leaf)) .leaf) .leaf) (.nd (.nd (.fin none none none [] .leaf) (.fin none (some sH) none [] .leaf)) (.nd (.fin none none none [] .leaf) (.nd (.fin none (some uL) none [] .leaf) (.nd (.nd (.nd (.nd (.nd (.fin none none none [(3,tC)] .leaf) (.fin none none none [(3,tC)] .leaf)) (.fin none (some uL) none [(3,tC)] .leaf)) .leaf) .leaf) (.nd (.nd (.fin none none (some sB) [] .leaf) (.fin none none (some sB) [] .leaf)) (.nd (.fin none none (some sB) [] .leaf) (.fin none none (some sB) [] .leaf))))))))))))))))
theorem dD3 (s:FState) (cx:Cx β):FX (fP n aH) n eJ dL6 s cx=AQ n aH s cx:=by kernel_rfl
theorem bU2 (h137:Fit Tryd.prog 137 (aQ kE hQ aH)):Fit Tryd.prog 137 (aQ kE hQ (aZ1 n aH)):=
  cJ (Γ:=Γ0) (l:=dY8 n aH) (n:=n) (sk:=dL6) (ts:=[(4,none)]) (fn:=Tryd.f137) (c:=eJ) (by kernel_rfl) (by kernel_rfl) (by unfold aS;kernel_rfl) cF ⟨dN7 n,yP n,D8 n,KP n,YN n,h137,trivial⟩ aO (by kernel_rfl) (by kernel_rfl) (Nat.le_of_ble_eq_true (by kernel_rfl)) (Nat.le_of_ble_eq_true (by kernel_rfl)) (by kernel_rfl) (by kernel_rfl)
    (fun d=>(dD3 n aH _ _).trans (Eq.trans (b:=AQ n aH (UD d.1 d.2.1) (cS (fP n aH) hQ [(4,none)])) (by kernel_rfl) ((T9 n aH _ d.1 d.2.1).trans (by kernel_rfl))))
def nF (n:Nat):Nat→(DenA kE→Option (DenR hQ))
  | 0=>(fun _=>none)
  | m+1=>(aZ1 n (nF n m))
theorem xB (n:Nat):∀m:Nat,Fit Tryd.prog 137 (aQ kE hQ (nF n m))
  | 0=>mV (by unfold aS;kernel_rfl)
  | m+1=>bU2 n (nF n m) (xB n m)
end
section
variable (n:Nat) (cx:Cx β)
def cU6 (d:DenA kE):Option (DenR hQ):=(nF n n) d
def cE1 (a0:AK.den (.pro Z1 106)) (a1:AK.den (.rw Z22 115)):Option (DenR hQ):=cU6 n (a0,(a1,()))
def aQ9:Spec:=aQ kE hQ (cU6 n)
theorem K0:Fit Tryd.prog 137 (aQ9 n):=(xB n n)
def aY4 (C:Z11) (J S:BA):FState:=⟨aM [(0,.ptr 0 0 0),(1,.dat .str J),(2,.dat .str S)],aE [(0,.row Z1 106 false [C])]⟩
def eC8 (T:Int):FState:=⟨aM [(6,.dat (.int .i64) T)],aE []⟩
def zX:List NE:=[.keep 6]
def dH9:List (Nat×Spec):=[(135,RF n)]
def U8:Ctx:={Γ0 with calls:=lkS (dH9 n)}
def aS7:Code:=fb Tryd.f163
def aL0 (kr:Int→Option β) (C:Z11) (J S:BA):Option β:=kQ J<|kQ S<|(E8 n (bS J) (bS S)).bind fun W=>kr W.1
def TT:FS1 β:=FXs (U8 n) n aS7 none (some zX) [] [2,6,7]
theorem bR3 (C:Z11) (J S:BA):TT n (aY4 C J S) cx=aL0 n (fun T=>cx.ret (eC8 T)) C J S:=by kernel_rfl
def eJ4 (C:Z11) (J S:BA):Option (DenR [.dat (.int .i64)]):=aL0 n (fun T=>some (T,())) C J S
def dQ0:List AK:=[.pro Z1 106,.dat .str,.dat .str]
def X3:List RK:=[.dat (.int .i64)]
def eW9 (d:DenA dQ0):Option (DenR X3):=eJ4 n d.1 d.2.1 d.2.2.1
def dG9:Spec:=aQ dQ0 X3 (eW9 n)
def eA3:Sk:=(.nd (.fin none none (some zX) [] .leaf) (.nd (.fin none none (some zX) [] .leaf) (.fin none none (some zX) [] .leaf)))
theorem dX2 (s:FState) (cx:Cx β):FX (U8 n) n aS7 eA3 s cx=TT n s cx:=by kernel_rfl
theorem dM8:Fit Tryd.prog 163 (dG9 n):=
  cJ (Γ:=Γ0) (l:=dH9 n) (n:=n) (sk:=eA3) (ts:=[(6,none)]) (fn:=Tryd.f163) (c:=aS7) (by kernel_rfl) (by kernel_rfl) (by unfold aS;kernel_rfl) cF ⟨KP n,trivial⟩ aO (by kernel_rfl) (by kernel_rfl) (Nat.le_of_ble_eq_true (by kernel_rfl)) (Nat.le_of_ble_eq_true (by kernel_rfl)) (by kernel_rfl) (by kernel_rfl)
    (fun d=>(dX2 n _ _).trans (Eq.trans (b:=TT n (aY4 d.1 d.2.1 d.2.2.1) (cS (U8 n) X3 [(6,none)])) (by kernel_rfl) ((bR3 n _ d.1 d.2.1 d.2.2.1).trans (by kernel_rfl))))
def dM9:List AK:=[.dat .str]
def cO4:List RK:=[.dat (.int .i32),.dat (.int .i64)]
def eF6 (n:Nat) (Z:BA):Option (DenR [.dat (.int .i32),.dat (.int .i64)]):=if Z.size≤9223372036854775807 then some (((Lib.decodeLastL Z.data.toList).1:Int),(((Lib.decodeLastL Z.data.toList).2:Int),())) else none
def eS2 (d:DenA dM9):Option (DenR cO4):=eF6 n d.1
def cR2:Spec:=aQ dM9 cO4 (eS2 n)
theorem dE0:Fit Tryd.prog 184 (cR2 n):=BC (by unfold aS;kernel_rfl) rfl fun d x w vs hG ha hx=>by
  obtain ⟨v,vs',o1,o2,rfl,_,⟨_,cs,h1,h2⟩,h3,_⟩:=ha
  obtain ⟨s,u⟩:=d
  subst h3
  have h1:cs=[Value.string s]:=h1
  subst h1
  simp [K.isPair] at h2
  subst h2
  obtain ⟨hs,hx⟩:=bN hx
  cases hx
  exact (Tryd.utf8_DecodeLastRuneInString s w hs (UN hG)).mono fun e w' ⟨he,hb⟩=>⟨[.int .i32 (Lib.decodeLastL s.data.toList).1,.int .i64 (Lib.decodeLastL s.data.toList).2],he,⟨_,_,[],[],rfl,rfl,⟨rfl,_,rfl,rfl⟩,⟨_,_,[],[],rfl,rfl,⟨rfl,_,rfl,rfl⟩,rfl,rfl⟩⟩,hb⟩
def cO0:List AK:=[.dat .str]
def cQ1:List RK:=[.dat (.int .i32),.dat (.int .i64)]
def bY5 (n:Nat) (Z:BA):Option (DenR [.dat (.int .i32),.dat (.int .i64)]):=some (((Lib.decodeGo Z).1:Int),(((Lib.decodeGo Z).2:Int),()))
def eR9 (d:DenA cO0):Option (DenR cQ1):=bY5 n d.1
def aC5:Spec:=aQ cO0 cQ1 (eR9 n)
theorem P8:Fit Tryd.prog 165 (aC5 n):=BC (by unfold aS;kernel_rfl) rfl fun d x w vs hG ha hx=>by
  obtain ⟨v,vs',o1,o2,rfl,_,⟨_,cs,h1,h2⟩,h3,_⟩:=ha
  obtain ⟨s,u⟩:=d
  subst h3
  have h1:cs=[Value.string s]:=h1
  subst h1
  simp [K.isPair] at h2
  subst h2
  cases hx
  exact (Tryd.utf8_DecodeRuneInString s w (UN hG)).mono fun e w' ⟨he,hb⟩=>⟨[.int .i32 (Lib.decodeGo s).1,.int .i64 (Lib.decodeGo s).2],he,⟨_,_,[],[],rfl,rfl,⟨rfl,_,rfl,rfl⟩,⟨_,_,[],[],rfl,rfl,⟨rfl,_,rfl,rfl⟩,rfl,rfl⟩⟩,hb⟩
def bG4 (Z:Int):FState:=⟨aM [(0,.dat (.int .i32) Z)],aE []⟩
def eC1 (S:Bool):FState:=⟨aM [(2,.dat .bool S)],aE []⟩
def yS:List NE:=[.keep 2]
def dJ8 (n:Nat):List (Nat×Spec):=[]
def U1:Ctx:={Γ0 with calls:=lkS (dJ8 n)}
def aN6:Code:=fb Tryd.f185
def aU0 (n:Nat) (kr:Bool→Option β) (Z:Int):Option β:=bif (decide ((97:Int)≤Z)) then (bif (decide (Z≤(122:Int))) then (kr false) else (bif (decide ((65:Int)≤Z)) then (bif (decide (Z≤(90:Int))) then (kr false) else (bif (decide ((48:Int)≤Z)) then (kr (!(decide (Z≤(57:Int))))) else (kr true))) else (bif (decide ((48:Int)≤Z)) then (kr (!(decide (Z≤(57:Int))))) else (kr true)))) else (bif (decide ((65:Int)≤Z)) then (bif (decide (Z≤(90:Int))) then (kr false) else (bif (decide ((48:Int)≤Z)) then (kr (!(decide (Z≤(57:Int))))) else (kr true))) else (bif (decide ((48:Int)≤Z)) then (kr (!(decide (Z≤(57:Int))))) else (kr true)))
def UM:FS1 β:=FXs (U1 n) n aN6 none (some yS) [] [2,6,7]
theorem cD7 (Z:Int):UM n (bG4 Z) cx=aU0 n (fun S=>cx.ret (eC1 S)) Z:=by kernel_rfl
def cS4 (Z:Int):Option (DenR [.dat .bool]):=aU0 n (fun S=>some (S,())) Z
def dZ7:List AK:=[.dat (.int .i32)]
def a8:List RK:=[.dat .bool]
def eV2 (d:DenA dZ7):Option (DenR a8):=cS4 n d.1
def dK1:Spec:=aQ dZ7 a8 (eV2 n)
def cL1:Sk:=(.nd (.fin none none (some yS) [] .leaf) (.nd (.fin none none (some yS) [] .leaf) (.fin none none (some yS) [] .leaf)))
theorem dC2 (s:FState) (cx:Cx β):FX (U1 n) n aN6 cL1 s cx=UM n s cx:=by kernel_rfl
theorem cS6:Fit Tryd.prog 185 (dK1 n):=
  cJ (Γ:=Γ0) (l:=dJ8 n) (n:=n) (sk:=cL1) (ts:=[(2,none)]) (fn:=Tryd.f185) (c:=aN6) (by kernel_rfl) (by kernel_rfl) (by unfold aS;kernel_rfl) cF trivial aO (by kernel_rfl) (by kernel_rfl) (Nat.le_of_ble_eq_true (by kernel_rfl)) (Nat.le_of_ble_eq_true (by kernel_rfl)) (by kernel_rfl) (by kernel_rfl)
    (fun d=>(dC2 n _ _).trans (Eq.trans (b:=UM n (bG4 d.1) (cS (U1 n) a8 [(2,none)])) (by kernel_rfl) ((cD7 n _ d.1).trans (by kernel_rfl))))
def bH7 (Z:Int):FState:=⟨aM [(0,.dat (.int .i32) Z)],aE []⟩
def eD6 (S:Bool):FState:=⟨aM [(2,.dat .bool S)],aE []⟩
def zE:List NE:=[.keep 2]
def cK7 (n:Nat):List (Nat×Spec):=[]
def aO6:Ctx:={Γ0 with calls:=lkS (cK7 n)}
def b7:Code:=fb Tryd.f186
def aO1 (n:Nat) (kr:Bool→Option β) (Z:Int):Option β:=bif (Z==(9:Int)) then (kr true) else (bif (Z==(10:Int)) then (kr true) else (bif (Z==(12:Int)) then (kr true) else (bif (Z==(13:Int)) then (kr true) else (kr (Z==(32:Int))))))
def RN:FS1 β:=FXs (aO6 n) n b7 none (some zE) [] [2,6,7]
theorem bV9 (Z:Int):RN n (bH7 Z) cx=aO1 n (fun S=>cx.ret (eD6 S)) Z:=by kernel_rfl
def dQ7 (Z:Int):Option (DenR [.dat .bool]):=aO1 n (fun S=>some (S,())) Z
def dH6:List AK:=[.dat (.int .i32)]
def X6:List RK:=[.dat .bool]
def eY2 (d:DenA dH6):Option (DenR X6):=dQ7 n d.1
def cO2:Spec:=aQ dH6 X6 (eY2 n)
def dR7:Sk:=(.nd (.fin none none (some zE) [] .leaf) (.nd (.fin none none (some zE) [] .leaf) (.fin none none (some zE) [] .leaf)))
theorem dN3 (s:FState) (cx:Cx β):FX (aO6 n) n b7 dR7 s cx=RN n s cx:=by kernel_rfl
theorem dJ9:Fit Tryd.prog 186 (cO2 n):=
  cJ (Γ:=Γ0) (l:=cK7 n) (n:=n) (sk:=dR7) (ts:=[(2,none)]) (fn:=Tryd.f186) (c:=b7) (by kernel_rfl) (by kernel_rfl) (by unfold aS;kernel_rfl) cF trivial aO (by kernel_rfl) (by kernel_rfl) (Nat.le_of_ble_eq_true (by kernel_rfl)) (Nat.le_of_ble_eq_true (by kernel_rfl)) (by kernel_rfl) (by kernel_rfl)
    (fun d=>(dN3 n _ _).trans (Eq.trans (b:=RN n (bH7 d.1) (cS (aO6 n) X6 [(2,none)])) (by kernel_rfl) ((bV9 n _ d.1).trans (by kernel_rfl))))
def bK7 (Z:Int):FState:=⟨aM [(0,.dat (.int .i32) Z)],aE []⟩
def eH1 (S:Bool):FState:=⟨aM [(2,.dat .bool S)],aE []⟩
def xF:List NE:=[.keep 2]
def dR0 (n:Nat):List (Nat×Spec):=[]
def aH6:Ctx:={Γ0 with calls:=lkS (dR0 n)}
def aQ5:Code:=fb Tryd.f187
def aS9 (n:Nat) (kr:Bool→Option β) (Z:Int):Option β:=bif (Z==(13:Int)) then (kr true) else (kr (Z==(10:Int)))
def PM:FS1 β:=FXs (aH6 n) n aQ5 none (some xF) [] [2,6,7]
theorem cI6 (Z:Int):PM n (bK7 Z) cx=aS9 n (fun S=>cx.ret (eH1 S)) Z:=by kernel_rfl
def cU3 (Z:Int):Option (DenR [.dat .bool]):=aS9 n (fun S=>some (S,())) Z
def dY5:List AK:=[.dat (.int .i32)]
def d5:List RK:=[.dat .bool]
def eQ6 (d:DenA dY5):Option (DenR d5):=cU3 n d.1
def cL2:Spec:=aQ dY5 d5 (eQ6 n)
def dY7:Sk:=(.nd (.fin none none (some xF) [] .leaf) (.nd (.fin none none (some xF) [] .leaf) (.fin none none (some xF) [] .leaf)))
theorem dX4 (s:FState) (cx:Cx β):FX (aH6 n) n aQ5 dY7 s cx=PM n s cx:=by kernel_rfl
theorem cS1:Fit Tryd.prog 187 (cL2 n):=
  cJ (Γ:=Γ0) (l:=dR0 n) (n:=n) (sk:=dY7) (ts:=[(2,none)]) (fn:=Tryd.f187) (c:=aQ5) (by kernel_rfl) (by kernel_rfl) (by unfold aS;kernel_rfl) cF trivial aO (by kernel_rfl) (by kernel_rfl) (Nat.le_of_ble_eq_true (by kernel_rfl)) (Nat.le_of_ble_eq_true (by kernel_rfl)) (by kernel_rfl) (by kernel_rfl)
    (fun d=>(dX4 n _ _).trans (Eq.trans (b:=PM n (bK7 d.1) (cS (aH6 n) d5 [(2,none)])) (by kernel_rfl) ((cI6 n _ d.1).trans (by kernel_rfl))))
def aY3 (Z:BA):FState:=⟨aM [(0,.dat .str Z)],aE []⟩
def eC9 (S:Bool):FState:=⟨aM [(2,.dat .bool S)],aE []⟩
def BI:List NE:=[.keep 2]
def dO8:List (Nat×Spec):=[(158,aG4 n)]
def z8:Ctx:={Γ0 with calls:=lkS (dO8 n)}
def aH2:Code:=fb Tryd.f188
def w7 (kr:Bool→Option β) (Z:BA):Option β:=(aC8 n Z (⟨#[10,10]⟩:BA)).bind fun W=>bif W.1 then (kr true) else ((aC8 n Z (⟨#[10,13,10]⟩:BA)).bind fun r2=>kr r2.1)
def XV:FS1 β:=FXs (z8 n) n aH2 none (some BI) [] [2,6,7]
theorem bP7 (Z:BA):XV n (aY3 Z) cx=w7 n (fun S=>cx.ret (eC9 S)) Z:=by kernel_rfl
def dE3 (Z:BA):Option (DenR [.dat .bool]):=w7 n (fun S=>some (S,())) Z
def dO3:List AK:=[.dat .str]
def T0:List RK:=[.dat .bool]
def eS4 (d:DenA dO3):Option (DenR T0):=dE3 n d.1
def dX5:Spec:=aQ dO3 T0 (eS4 n)
def cL0:Sk:=(.nd (.fin none none (some BI) [] .leaf) (.nd (.fin none none (some BI) [] .leaf) (.fin none none (some BI) [] .leaf)))
theorem cT9 (s:FState) (cx:Cx β):FX (z8 n) n aH2 cL0 s cx=XV n s cx:=by kernel_rfl
theorem dU5:Fit Tryd.prog 188 (dX5 n):=
  cJ (Γ:=Γ0) (l:=dO8 n) (n:=n) (sk:=cL0) (ts:=[(2,none)]) (fn:=Tryd.f188) (c:=aH2) (by kernel_rfl) (by kernel_rfl) (by unfold aS;kernel_rfl) cF ⟨YN n,trivial⟩ aO (by kernel_rfl) (by kernel_rfl) (Nat.le_of_ble_eq_true (by kernel_rfl)) (Nat.le_of_ble_eq_true (by kernel_rfl)) (by kernel_rfl) (by kernel_rfl)
    (fun d=>(cT9 n _ _).trans (Eq.trans (b:=XV n (aY3 d.1) (cS (z8 n) T0 [(2,none)])) (by kernel_rfl) ((bP7 n _ d.1).trans (by kernel_rfl))))
def UE (Z J:BA):FState:=⟨aM [(0,.dat .str Z),(1,.dat .str J)],aE []⟩
def RJ (v4:Int):FState:=⟨aM [(4,.dat (.int .i64) v4)],aE []⟩
def fZ:List NE:=[.keep 4]
def bE2 (Z J:BA) (D E:Int) (F I H:Bool):FState:=⟨aM [(0,.dat .str Z),(1,.dat .str J),(5,.dat (.int .i32) D),(7,.dat (.int .i32) E),(9,.dat .bool F),(10,.dat .bool I),(11,.dat .bool H)],aE []⟩
def ZU:List NE:=[.keep 0,.keep 1,.keep 5,.keep 7,.keep 9,.keep 10,.keep 11]
def bI7 (Z J:BA) (D E:Int) (F I H N:Bool):FState:=⟨aM [(0,.dat .str Z),(1,.dat .str J),(5,.dat (.int .i32) D),(7,.dat (.int .i32) E),(9,.dat .bool F),(10,.dat .bool I),(11,.dat .bool H),(12,.dat .bool N)],aE []⟩
def L7:List NE:=[.keep 0,.keep 1,.keep 5,.keep 7,.keep 9,.keep 10,.keep 11,.keep 12]
def bN3 (Z J:BA) (E:Int) (F I H N q:Bool):FState:=⟨aM [(0,.dat .str Z),(1,.dat .str J),(7,.dat (.int .i32) E),(9,.dat .bool F),(10,.dat .bool I),(11,.dat .bool H),(12,.dat .bool N),(13,.dat .bool q)],aE []⟩
def J8:List NE:=[.keep 0,.keep 1,.keep 7,.keep 9,.keep 10,.keep 11,.keep 12,.keep 13]
def aZ2 (Z J:BA) (F I H N q ac:Bool):FState:=⟨aM [(0,.dat .str Z),(1,.dat .str J),(9,.dat .bool F),(10,.dat .bool I),(11,.dat .bool H),(12,.dat .bool N),(13,.dat .bool q),(14,.dat .bool ac)],aE []⟩
def I6:List NE:=[.keep 0,.keep 1,.keep 9,.keep 10,.keep 11,.keep 12,.keep 13,.keep 14]
def aV7 (J:BA) (F I H N q ac U:Bool):FState:=⟨aM [(1,.dat .str J),(9,.dat .bool F),(10,.dat .bool I),(11,.dat .bool H),(12,.dat .bool N),(13,.dat .bool q),(14,.dat .bool ac),(15,.dat .bool U)],aE []⟩
def Q0:List NE:=[.keep 1,.keep 9,.keep 10,.keep 11,.keep 12,.keep 13,.keep 14,.keep 15]
def bD0 (F I H N q ac U Y:Bool):FState:=⟨aM [(9,.dat .bool F),(10,.dat .bool I),(11,.dat .bool H),(12,.dat .bool N),(13,.dat .bool q),(14,.dat .bool ac),(15,.dat .bool U),(16,.dat .bool Y)],aE []⟩
def O2:List NE:=[.keep 9,.keep 10,.keep 11,.keep 12,.keep 13,.keep 14,.keep 15,.keep 16]
def dA6:List (Nat×Spec):=[(165,aC5 n),(184,cR2 n),(185,dK1 n),(186,cO2 n),(187,cL2 n),(188,dX5 n)]
def pQ:Ctx:={Γ0 with calls:=lkS (dA6 n)}
def qJ:Code:=fb Tryd.f164
def e9 (kn:BA→BA→Int→Int→Bool→Bool→Bool→Option β) (kr:Int→Option β) (Z J:BA):Option β:=bif ((Z.size:Int)==(0:Int)) then (kr (6:Int)) else (bif ((J.size:Int)==(0:Int)) then (kr (6:Int)) else ((eF6 n Z).bind fun W=>(bY5 n J).bind fun r2=>(cS4 n W.1).bind fun r3=>(cS4 n r2.1).bind fun r4=>bif r3.1 then ((dQ7 n W.1).bind fun r5=>kn Z J W.1 r2.1 r3.1 r4.1 r5.1) else (kn Z J W.1 r2.1 r3.1 r4.1 false)))
def aZ6:FS1 β:=FXs (pQ n) n qJ (some ZU) (some fZ) [] [2,12,13,14,30,62,126,254]
theorem cI3 (Z J:BA):aZ6 n (UE Z J) cx=e9 n (fun Z J D E F I H=>cx.nrm (bE2 Z J D E F I H)) (fun v4=>cx.ret (RJ v4)) Z J:=by kernel_rfl
def aP6 (kn:BA→BA→Int→Int→Bool→Bool→Bool→Bool→Option β) (Z J:BA) (D E:Int) (F I H:Bool):Option β:=bif I then ((dQ7 n E).bind fun W=>kn Z J D E F I H W.1) else (kn Z J D E F I H false)
def bJ4:FS1 β:=FXs (pQ n) n qJ (some L7) none [] [510]
theorem bT7 (Z J:BA) (D E:Int) (F I H:Bool):bJ4 n (bE2 Z J D E F I H) cx=aP6 n (fun Z J D E F I H N=>cx.nrm (bI7 Z J D E F I H N)) Z J D E F I H:=by kernel_rfl
def aS4 (kn:BA→BA→Int→Bool→Bool→Bool→Bool→Bool→Option β) (Z J:BA) (D E:Int) (F I H N:Bool):Option β:=bif H then ((cU3 n D).bind fun W=>kn Z J E F I H N W.1) else (kn Z J E F I H N false)
def bK4:FS1 β:=FXs (pQ n) n qJ (some J8) none [] [1022]
theorem cF4 (Z J:BA) (D E:Int) (F I H N:Bool):bK4 n (bI7 Z J D E F I H N) cx=aS4 n (fun Z J E F I H N q=>cx.nrm (bN3 Z J E F I H N q)) Z J D E F I H N:=by kernel_rfl
def aA7 (kn:BA→BA→Bool→Bool→Bool→Bool→Bool→Bool→Option β) (Z J:BA) (E:Int) (F I H N q:Bool):Option β:=bif N then ((cU3 n E).bind fun W=>kn Z J F I H N q W.1) else (kn Z J F I H N q false)
def aU9:FS1 β:=FXs (pQ n) n qJ (some I6) none [] [2046]
theorem bQ8 (Z J:BA) (E:Int) (F I H N q:Bool):aU9 n (bN3 Z J E F I H N q) cx=aA7 n (fun Z J F I H N q ac=>cx.nrm (aZ2 Z J F I H N q ac)) Z J E F I H N q:=by kernel_rfl
def s9 (kn:BA→Bool→Bool→Bool→Bool→Bool→Bool→Bool→Option β) (Z J:BA) (F I H N q ac:Bool):Option β:=bif q then ((dE3 n Z).bind fun W=>kn J F I H N q ac W.1) else (kn J F I H N q ac false)
def bA6:FS1 β:=FXs (pQ n) n qJ (some Q0) none [] [4094]
theorem bR6 (Z J:BA) (F I H N q ac:Bool):bA6 n (aZ2 Z J F I H N q ac) cx=s9 n (fun J F I H N q ac U=>cx.nrm (aV7 J F I H N q ac U)) Z J F I H N q ac:=by kernel_rfl
def d9 (kn:Bool→Bool→Bool→Bool→Bool→Bool→Bool→Bool→Option β) (J:BA) (F I H N q ac U:Bool):Option β:=bif ac then ((dE3 n J).bind fun W=>kn F I H N q ac U W.1) else (kn F I H N q ac U false)
def bC6:FS1 β:=FXs (pQ n) n qJ (some O2) none [] [8190]
theorem bZ6 (J:BA) (F I H N q ac U:Bool):bC6 n (aV7 J F I H N q ac U) cx=d9 n (fun F I H N q ac U Y=>cx.nrm (bD0 F I H N q ac U Y)) J F I H N q ac U:=by kernel_rfl
def U9 (n:Nat) (kr:Int→Option β) (F I H N q ac U Y:Bool):Option β:=bif U then (kr (5:Int)) else (bif Y then (kr (5:Int)) else (bif q then (kr (4:Int)) else (bif ac then (kr (4:Int)) else (bif F then (bif (!H) then (bif N then (kr (3:Int)) else (bif H then (kr (2:Int)) else (bif N then (kr (2:Int)) else (bif F then (kr (1:Int)) else (bif I then (kr (1:Int)) else (kr (0:Int))))))) else (bif H then (kr (2:Int)) else (bif N then (kr (2:Int)) else (bif F then (kr (1:Int)) else (bif I then (kr (1:Int)) else (kr (0:Int))))))) else (bif H then (kr (2:Int)) else (bif N then (kr (2:Int)) else (bif F then (kr (1:Int)) else (bif I then (kr (1:Int)) else (kr (0:Int))))))))))
def bM7:FS1 β:=FXs (pQ n) n qJ none (some fZ) [] [32764,32765,32766,32767]
theorem bR9 (F I H N q ac U Y:Bool):bM7 n (bD0 F I H N q ac U Y) cx=U9 n (fun v4=>cx.ret (RJ v4)) F I H N q ac U Y:=by kernel_rfl
def WZ (kr:Int→Option β) (Z J:BA):Option β:=e9 n (fun Z J D E F I H=>aP6 n (fun Z J D E F I H N=>aS4 n (fun Z J E F I H N q=>aA7 n (fun Z J F I H N q ac=>s9 n (fun J F I H N q ac U=>d9 n (fun F I H N q ac U Y=>U9 n kr F I H N q ac U Y) J F I H N q ac U) Z J F I H N q ac) Z J E F I H N q) Z J D E F I H N) Z J D E F I H) kr Z J
def GQ (s:FState) (cx:Cx β):Option β:=aZ6 n s {cx with nrm:=fun s=>bJ4 n s {cx with nrm:=fun s=>bK4 n s {cx with nrm:=fun s=>aU9 n s {cx with nrm:=fun s=>bA6 n s {cx with nrm:=fun s=>bC6 n s {cx with nrm:=fun s=>bM7 n s cx}}}}}}
theorem bZ8 (Z J:BA):GQ n (UE Z J) cx=WZ n (fun v4=>cx.ret (RJ v4)) Z J:=by simp only [GQ,WZ,cI3,bT7,cF4,bQ8,bR6,bZ6,bR9]
def n7 (Z J:BA):Option (DenR [.dat (.int .i64)]):=WZ n (fun v4=>some (v4,())) Z J
def dV7:List AK:=[.dat .str,.dat .str]
def aM7:List RK:=[.dat (.int .i64)]
def eY1 (d:DenA dV7):Option (DenR aM7):=n7 n d.1 d.2.1
def cY0:Spec:=aQ dV7 aM7 (eY1 n)
def cN9:Sk:=(.nd (.fin none none (some fZ) [] .leaf) (.nd (.nd (.fin none none (some fZ) [] .leaf) (.fin none none (some fZ) [] .leaf)) (.nd (.fin none none (some fZ) [] .leaf) (.nd (.fin none none (some fZ) [] .leaf) (.nd (.fin none none (some fZ) [] .leaf) (.nd (.fin none none (some fZ) [] .leaf) (.nd (.fin none (some ZU) (some fZ) [] .leaf) (.nd (.fin none (some L7) none [] .leaf) (.nd (.fin none (some J8) none [] .leaf) (.nd (.fin none (some I6) none [] .leaf) (.nd (.fin none (some Q0) none [] .leaf) (.nd (.fin none (some O2) none [] .leaf) (.nd (.nd (.fin none none (some fZ) [] .leaf) (.fin none none (some fZ) [] .leaf)) (.nd (.fin none none (some fZ) [] .leaf) (.fin none none (some fZ) [] .leaf)))))))))))))))
theorem cP6 (s:FState) (cx:Cx β):FX (pQ n) n qJ cN9 s cx=GQ n s cx:=by kernel_rfl
theorem dS0:Fit Tryd.prog 164 (cY0 n):=
  cJ (Γ:=Γ0) (l:=dA6 n) (n:=n) (sk:=cN9) (ts:=[(4,none)]) (fn:=Tryd.f164) (c:=qJ) (by kernel_rfl) (by kernel_rfl) (by unfold aS;kernel_rfl) cF ⟨P8 n,dE0 n,cS6 n,dJ9 n,cS1 n,dU5 n,trivial⟩ aO (by kernel_rfl) (by kernel_rfl) (Nat.le_of_ble_eq_true (by kernel_rfl)) (Nat.le_of_ble_eq_true (by kernel_rfl)) (by kernel_rfl) (by kernel_rfl)
    (fun d=>(cP6 n _ _).trans (Eq.trans (b:=GQ n (UE d.1 d.2.1) (cS (pQ n) aM7 [(4,none)])) (by kernel_rfl) ((bZ8 n _ d.1 d.2.1).trans (by kernel_rfl))))
end
end
end Go.Proofs.YthkiaiilpaojnaaDoorZF
