import Derived.Test.YthkiaiilpaojnaaDoorZFT
import Derived.Test.YthkiaiilpaojnaaDoorZFE
namespace Go.Proofs.YthkiaiilpaojnaaDoorZF
noncomputable section
open Go Go.Proofs
set_option linter.unusedVariables false
set_option maxRecDepth 100000
variable {β:Type}
def dV2 (Y:BA):FState:=⟨aI [(0,.dat .str Y)],aE []⟩
def eY2 (L:List Int):FState:=⟨aI [(2,.sl 2 none false)],aE [(2,.row (.int .i32) 21 true L)]⟩
def HK:List NE:=[.row 2 (.int .i32) 21 true]
def eP8 (n:Nat):List (Nat×Spec):=[]
section
variable (n:Nat) (cx:Cx β)
def dX0:Ctx:={Γ0 with calls:=lkS (eP8 n)}
def dM2:Code:=fb Tryd.f15
def dE7 (n:Nat) (kr:List Int→Option β) (Y:BA):Option β:=kK Y<|kr (bS Y)
def aL4:FS1 β:=FXs (dX0 n) n dM2 none (some HK) [] [2,6,7]
theorem dF4 (Y:BA):aL4 n (dV2 Y) cx=dE7 n (fun L=>cx.ret (eY2 L)) Y:=by kernel_rfl
def g15 (Y:BA):Option (DenR [.rw (.int .i32) 21]):=dE7 n (fun L=>some (L,())) Y
def eR9:List AK:=[.dat .str]
def dA3:List RK:=[.rw (.int .i32) 21]
def fD9 (d:DenA eR9):Option (DenR dA3):=g15 n d.1
def eU8:Spec:=aP eR9 dA3 (fD9 n)
def eO9:Sk:=(.nd (.fin none none (some HK) [] .leaf) (.nd (.fin none none (some HK) [] .leaf) (.fin none none (some HK) [] .leaf)))
theorem eG0 (s:FState) (cx:Cx β):FX (dX0 n) n dM2 eO9 s cx=aL4 n s cx:=by kernel_rfl
theorem eH1:Fit Tryd.prog 15 (eU8 n):=
  cH (Γ:=Γ0) (l:=eP8 n) (n:=n) (sk:=eO9) (ts:=[(2,none)]) (fn:=Tryd.f15) (c:=dM2) (by kernel_rfl) (by kernel_rfl) (by unfold aS;kernel_rfl) cF trivial aN (by kernel_rfl) (by kernel_rfl) (Nat.le_of_ble_eq_true (by kernel_rfl)) (Nat.le_of_ble_eq_true (by kernel_rfl)) (by kernel_rfl) (by kernel_rfl)
    (fun d=>(eG0 n _ _).trans (Eq.trans (b:=aL4 n (dV2 d.1) (cN (dX0 n) dA3 [(2,none)])) (by kernel_rfl) ((dF4 n _ d.1).trans (by kernel_rfl))))
def dB0 (Y:BA) (J:Int):FState:=⟨aI [(0,.dat .str Y),(1,.dat (.int .i64) J)],aE []⟩
def eZ8 (v4:BA):FState:=⟨aI [(4,.dat .str v4)],aE []⟩
def xI:List NE:=[.keep 4]
def eT8:List (Nat×Spec):=[(15,eU8 n)]
def dJ8:Ctx:={Γ0 with calls:=lkS (eT8 n)}
def dA0:Code:=fb Tryd.f32
def cR3 (kr:BA→Option β) (Y:BA) (J:Int):Option β:=(g15 n Y).bind fun V=>bnd (0:Int) (ND (V.1.length:Int) J) (V.1.length:Int)<|kr (runesBytes (cut V.1 (0:Int) ((0:Int)+((ND (V.1.length:Int) J) - (0:Int)))))
def aP9:FS1 β:=FXs (dJ8 n) n dA0 none (some xI) [] [2,6,14,15]
theorem dK8 (Y:BA) (J:Int):aP9 n (dB0 Y J) cx=cR3 n (fun v4=>cx.ret (eZ8 v4)) Y J:=by kernel_rfl
def g32 (Y:BA) (J:Int):Option (DenR [.dat .str]):=cR3 n (fun v4=>some (v4,())) Y J
def eR3:List AK:=[.dat .str,.dat (.int .i64)]
def cT9:List RK:=[.dat .str]
def fF4 (d:DenA eR3):Option (DenR cT9):=g32 n d.1 d.2.1
def eP6:Spec:=aP eR3 cT9 (fF4 n)
def eR1:Sk:=(.nd (.fin none none (some xI) [] .leaf) (.nd (.fin none none (some xI) [] .leaf) (.nd (.fin none none (some xI) [] .leaf) (.fin none none (some xI) [] .leaf))))
theorem eH2 (s:FState) (cx:Cx β):FX (dJ8 n) n dA0 eR1 s cx=aP9 n s cx:=by kernel_rfl
theorem eM2:Fit Tryd.prog 32 (eP6 n):=
  cH (Γ:=Γ0) (l:=eT8 n) (n:=n) (sk:=eR1) (ts:=[(4,none)]) (fn:=Tryd.f32) (c:=dA0) (by kernel_rfl) (by kernel_rfl) (by unfold aS;kernel_rfl) cF ⟨eH1 n,trivial⟩ aN (by kernel_rfl) (by kernel_rfl) (Nat.le_of_ble_eq_true (by kernel_rfl)) (Nat.le_of_ble_eq_true (by kernel_rfl)) (by kernel_rfl) (by kernel_rfl)
    (fun d=>(eH2 n _ _).trans (Eq.trans (b:=aP9 n (dB0 d.1 d.2.1) (cN (dJ8 n) cT9 [(4,none)])) (by kernel_rfl) ((dK8 n _ d.1 d.2.1).trans (by kernel_rfl))))
def dR3 (Y J R v3:Int):FState:=⟨aI [(0,.dat (.int .i64) Y),(1,.dat (.int .i64) J),(2,.dat (.int .i64) R),(3,.dat (.int .i64) v3)],aE []⟩
def fB0 (G:Int):FState:=⟨aI [(8,.dat (.int .i64) G)],aE []⟩
def tW:List NE:=[.keep 8]
def eV5 (n:Nat):List (Nat×Spec):=[]
def cV2:Ctx:={Γ0 with calls:=lkS (eV5 n)}
def cZ3:Code:=fb Tryd.f89
def cR5 (n:Nat) (kr:Int→Option β) (Y J R v3:Int):Option β:=bif (decide (Y < J)) then (kr v3) else (bif (decide (Y>R)) then (kr v3) else (kr Y))
def aI8:FS1 β:=FXs (cV2 n) n cZ3 none (some tW) [] [2,12,13,14,15]
theorem dH0 (Y J R v3:Int):aI8 n (dR3 Y J R v3) cx=cR5 n (fun G=>cx.ret (fB0 G)) Y J R v3:=by kernel_rfl
def g89 (Y J R v3:Int):Option (DenR [.dat (.int .i64)]):=cR5 n (fun G=>some (G,())) Y J R v3
def eU4:List AK:=[.dat (.int .i64),.dat (.int .i64),.dat (.int .i64),.dat (.int .i64)]
def cL7:List RK:=[.dat (.int .i64)]
def fF9 (d:DenA eU4):Option (DenR cL7):=g89 n d.1 d.2.1 d.2.2.1 d.2.2.2.1
def eQ5:Spec:=aP eU4 cL7 (fF9 n)
def eT7:Sk:=(.nd (.fin none none (some tW) [] .leaf) (.nd (.nd (.fin none none (some tW) [] .leaf) (.fin none none (some tW) [] .leaf)) (.nd (.fin none none (some tW) [] .leaf) (.fin none none (some tW) [] .leaf))))
theorem eJ8 (s:FState) (cx:Cx β):FX (cV2 n) n cZ3 eT7 s cx=aI8 n s cx:=by kernel_rfl
theorem eG3:Fit Tryd.prog 89 (eQ5 n):=
  cH (Γ:=Γ0) (l:=eV5 n) (n:=n) (sk:=eT7) (ts:=[(8,none)]) (fn:=Tryd.f89) (c:=cZ3) (by kernel_rfl) (by kernel_rfl) (by unfold aS;kernel_rfl) cF trivial aN (by kernel_rfl) (by kernel_rfl) (Nat.le_of_ble_eq_true (by kernel_rfl)) (Nat.le_of_ble_eq_true (by kernel_rfl)) (by kernel_rfl) (by kernel_rfl)
    (fun d=>(eJ8 n _ _).trans (Eq.trans (b:=aI8 n (dR3 d.1 d.2.1 d.2.2.1 d.2.2.2.1) (cN (cV2 n) cL7 [(8,none)])) (by kernel_rfl) ((dH0 n _ d.1 d.2.1 d.2.2.1 d.2.2.2.1).trans (by kernel_rfl))))
def dK7 (Y:Nat):FState:=⟨aI [(0,.dat (.flt .f64) Y)],aE []⟩
def eW4 (R:Nat):FState:=⟨aI [(2,.dat (.flt .f64) R)],aE []⟩
def tQ:List NE:=[.keep 2]
def eV9 (n:Nat):List (Nat×Spec):=[]
def dP5:Ctx:={Γ0 with calls:=lkS (eV9 n)}
def dZ5:Code:=fb Tryd.f90
def dL2 (n:Nat) (kr:Nat→Option β) (Y:Nat):Option β:=bif ((fGt .f64 Y (0:Nat))||(fEq .f64 Y (0:Nat))) then (bif ((fLt .f64 Y (4607182418800017408:Nat))||(fEq .f64 Y (4607182418800017408:Nat))) then (kr Y) else (kr (4602678819172646912:Nat))) else (kr (4602678819172646912:Nat))
def aI6:FS1 β:=FXs (dP5 n) n dZ5 none (some tQ) [] [2,12,13,14,15]
theorem dD7 (Y:Nat):aI6 n (dK7 Y) cx=dL2 n (fun R=>cx.ret (eW4 R)) Y:=by kernel_rfl
def g90 (n Y:Nat):Option (DenR [.dat (.flt .f64)]):=dL2 n (fun R=>some (R,())) Y
def eQ8:List AK:=[.dat (.flt .f64)]
def dW7:List RK:=[.dat (.flt .f64)]
def fE0 (d:DenA eQ8):Option (DenR dW7):=g90 n d.1
def eQ2:Spec:=aP eQ8 dW7 (fE0 n)
def eU9:Sk:=(.nd (.fin none none (some tQ) [] .leaf) (.nd (.nd (.fin none none (some tQ) [] .leaf) (.fin none none (some tQ) [] .leaf)) (.nd (.fin none none (some tQ) [] .leaf) (.fin none none (some tQ) [] .leaf))))
theorem eJ6 (s:FState) (cx:Cx β):FX (dP5 n) n dZ5 eU9 s cx=aI6 n s cx:=by kernel_rfl
theorem eH9:Fit Tryd.prog 90 (eQ2 n):=
  cH (Γ:=Γ0) (l:=eV9 n) (n:=n) (sk:=eU9) (ts:=[(2,none)]) (fn:=Tryd.f90) (c:=dZ5) (by kernel_rfl) (by kernel_rfl) (by unfold aS;kernel_rfl) cF trivial aN (by kernel_rfl) (by kernel_rfl) (Nat.le_of_ble_eq_true (by kernel_rfl)) (Nat.le_of_ble_eq_true (by kernel_rfl)) (by kernel_rfl) (by kernel_rfl)
    (fun d=>(eJ6 n _ _).trans (Eq.trans (b:=aI6 n (dK7 d.1) (cN (dP5 n) dW7 [(2,none)])) (by kernel_rfl) ((dD7 n _ d.1).trans (by kernel_rfl))))
def dH3 (Y:Z9):FState:=⟨aI [(0,.dat Z2 Y)],aE []⟩
def fD6 (p2:Z11):FState:=⟨aI [(2,.ptr 2 0 0)],aE [(2,.row Z1 106 true [p2])]⟩
def qF:List NE:=[.ptr 2 Z1 106 true]
def eS0:List (Nat×Spec):=[(89,eQ5 n),(90,eQ2 n)]
def dT0:Ctx:={Γ0 with calls:=lkS (eS0 n)}
def dB3:Code:=fb Tryd.f62
def cV0 (kr:Z11→Option β) (Y:Z9):Option β:=(g89 n Y.2.1 (0:Int) (1000:Int) (4:Int)).bind fun V=>(g89 n Y.2.2.1 (0:Int) (1048576:Int) (1000:Int)).bind fun r2=>(g90 n Y.2.2.2.1).bind fun r3=>(g90 n Y.2.2.2.2.1).bind fun r4=>(g89 n Y.2.2.2.2.2.1 (1:Int) (8:Int) (4:Int)).bind fun r5=>(g89 n Y.2.2.2.2.2.2 (32:Int) (62:Int) (32:Int)).bind fun r6=>bif Y.1 then (kr ((1:Int),(V.1,(r2.1,(r4.1,(r5.1,(r6.1,r3.1))))))) else (kr ((0:Int),(V.1,(r2.1,(r4.1,(r5.1,(r6.1,r3.1)))))))
def aF2:FS1 β:=FXs (dT0 n) n dB3 none (some qF) [] [2,6,28,29,30,31]
theorem dM8 (Y:Z9):aF2 n (dH3 Y) cx=cV0 n (fun p2=>cx.ret (fD6 p2)) Y:=by kernel_rfl
def g62 (Y:Z9):Option (DenR [.ptr Z1 106]):=cV0 n (fun p2=>some (p2,())) Y
def eV4:List AK:=[.dat Z2]
def dM1:List RK:=[.ptr Z1 106]
def fH9 (d:DenA eV4):Option (DenR dM1):=g62 n d.1
def eP0:Spec:=aP eV4 dM1 (fH9 n)
def eV8:Sk:=(.nd (.fin none none (some qF) [] .leaf) (.nd (.fin none none (some qF) [] .leaf) (.nd (.nd (.fin none none (some qF) [] .leaf) (.fin none none (some qF) [] .leaf)) (.nd (.fin none none (some qF) [] .leaf) (.fin none none (some qF) [] .leaf)))))
theorem eO3 (s:FState) (cx:Cx β):FX (dT0 n) n dB3 eV8 s cx=aF2 n s cx:=by kernel_rfl
theorem eH0:Fit Tryd.prog 62 (eP0 n):=
  cH (Γ:=Γ0) (l:=eS0 n) (n:=n) (sk:=eV8) (ts:=[(2,none)]) (fn:=Tryd.f62) (c:=dB3) (by kernel_rfl) (by kernel_rfl) (by unfold aS;kernel_rfl) cF ⟨eG3 n,eH9 n,trivial⟩ aN (by kernel_rfl) (by kernel_rfl) (Nat.le_of_ble_eq_true (by kernel_rfl)) (Nat.le_of_ble_eq_true (by kernel_rfl)) (by kernel_rfl) (by kernel_rfl)
    (fun d=>(eO3 n _ _).trans (Eq.trans (b:=aF2 n (dH3 d.1) (cN (dT0 n) dM1 [(2,none)])) (by kernel_rfl) ((dM8 n _ d.1).trans (by kernel_rfl))))
def o5 (Y J:BA):FState:=⟨aI [(0,.dat .str Y),(1,.dat .str J)],aE []⟩
def CX (v4:Int):FState:=⟨aI [(4,.dat (.int .i64) v4)],aE []⟩
def oG:List NE:=[.keep 4]
def DN (Y J:BA) (D:Int):FState:=⟨aI [(0,.dat .str Y),(1,.dat .str J),(5,.dat (.int .i64) D)],aE []⟩
def HG:List NE:=[.keep 0,.keep 1,.keep 5]
def IV:FState:=⟨aI [],aE []⟩
def AC:List NE:=[]
def eU3 (n:Nat):List (Nat×Spec):=[]
def S5:Ctx:={Γ0 with calls:=lkS (eU3 n)}
def R9:Code:=fb Tryd.f95
def bJ2 (n:Nat) (kn:BA→BA→Int→Option β) (Y J:BA):Option β:=kn Y J (0:Int)
def cY9:FS1 β:=FXs (S5 n) n R9 (some HG) none [] [2,12]
theorem eB4 (Y J:BA):cY9 n (o5 Y J) cx=bJ2 n (fun Y J D=>cx.nrm (DN Y J D)) Y J:=by kernel_rfl
def OR (n:Nat) (kn:BA→BA→Int→Option β) (kr:Int→Option β) (ae:Option β) (Y J:BA) (D:Int):Option β:=bif (decide ((w64 (D+(J.size:Int)))≤(Y.size:Int))) then (bnd D (w64 (D+(J.size:Int))) (Y.size:Int)<|bif (eK (bE Y D (w64 (D+(J.size:Int)))) J) then (kr D) else (kn Y J (w64 (D+1)))) else ae
def y4:FS1 β:=FXs (S5 n) n R9 (some HG) (some oG) [(0,AC)] [208,209,210,211]
theorem dT8 (Y J:BA) (D:Int):y4 n (DN Y J D) cx=OR n (fun Y J D=>cx.nrm (DN Y J D)) (fun v4=>cx.ret (CX v4)) (cx.ex 0 IV) Y J D:=by kernel_rfl
def g95_3L (n:Nat) (kr:Int→Option β) (ae:Option β):Nat→BA→BA→Int→Option β
  | 0,_,_,_=>none
  | m+1,Y,J,D=>OR n (g95_3L n kr ae m) kr ae Y J D
def aY1 (kr:Int→Option β) (ae:Option β) (Y J:BA) (D:Int):Option β:=g95_3L n kr ae n Y J D
def dU3 (s:FState) (cx:Cx β):Option β:=bQ (fun again s=>y4 n s {cx with nrm:=again}) n s
theorem cG9 (n:Nat) (cx:Cx β):∀(m:Nat) (Y J:BA) (D:Int),bQ (fun again s=>y4 n s {cx with nrm:=again}) m (DN Y J D)=g95_3L n (fun v4=>cx.ret (CX v4)) (cx.ex 0 IV) m Y J D:=by
  intro m
  induction m with
  | zero=>intros;rfl
  | succ m ih=>intros;simp only [bQ,g95_3L,dT8,ih]
theorem dI1 (Y J:BA) (D:Int):dU3 n (DN Y J D) cx=aY1 n (fun v4=>cx.ret (CX v4)) (cx.ex 0 IV) Y J D:=cG9 n cx n Y J D
def bI8 (kn:Option β) (kr:Int→Option β) (Y J:BA) (D:Int):Option β:=aY1 n kr kn Y J D
def cW3 (s:FState) (cx:Cx β):Option β:=dU3 n s {cx with ex:=fun j s=>bif Nat.beq j 0 then cx.nrm s else cx.ex j s}
theorem dA7 (Y J:BA) (D:Int):cW3 n (DN Y J D) cx=bI8 n (cx.nrm IV) (fun v4=>cx.ret (CX v4)) Y J D:=dI1 n _ Y J D
def bN0 (n:Nat) (kr:Int→Option β):Option β:=kr (-1:Int)
def cU3:FS1 β:=FXs (S5 n) n R9 none (some oG) [] [14,15]
theorem dG5:cU3 n IV cx=bN0 n (fun v4=>cx.ret (CX v4)):=by kernel_rfl
def Q4 (kr:Int→Option β) (Y J:BA):Option β:=bJ2 n (fun Y J D=>bI8 n (bN0 n kr) kr Y J D) Y J
def QD (s:FState) (cx:Cx β):Option β:=cY9 n s {cx with nrm:=fun s=>cW3 n s {cx with nrm:=fun s=>cU3 n s cx}}
theorem eE3 (Y J:BA):QD n (o5 Y J) cx=Q4 n (fun v4=>cx.ret (CX v4)) Y J:=by simp only [QD,Q4,eB4,dA7,dG5]
def g95 (Y J:BA):Option (DenR [.dat (.int .i64)]):=Q4 n (fun v4=>some (v4,())) Y J
def eP5:List AK:=[.dat .str,.dat .str]
def cX9:List RK:=[.dat (.int .i64)]
def fH3 (d:DenA eP5):Option (DenR cX9):=g95 n d.1 d.2.1
def dF1:Spec:=aP eP5 cX9 (fH3 n)
def eV0:Sk:=(.nd (.fin none none none [] .leaf) (.nd (.nd (.fin none (some HG) none [] .leaf) (.nd (.nd (.nd (.nd (.fin none none (some oG) [(0,AC)] .leaf) (.fin none none (some oG) [(0,AC)] .leaf)) (.nd (.fin none none (some oG) [(0,AC)] .leaf) (.fin none (some HG) (some oG) [(0,AC)] .leaf))) .leaf) .leaf)) (.nd (.fin none none (some oG) [] .leaf) (.fin none none (some oG) [] .leaf))))
theorem eI2 (s:FState) (cx:Cx β):FX (S5 n) n R9 eV0 s cx=QD n s cx:=by kernel_rfl
theorem bN3:Fit Tryd.prog 95 (dF1 n):=
  cH (Γ:=Γ0) (l:=eU3 n) (n:=n) (sk:=eV0) (ts:=[(4,none)]) (fn:=Tryd.f95) (c:=R9) (by kernel_rfl) (by kernel_rfl) (by unfold aS;kernel_rfl) cF trivial aN (by kernel_rfl) (by kernel_rfl) (Nat.le_of_ble_eq_true (by kernel_rfl)) (Nat.le_of_ble_eq_true (by kernel_rfl)) (by kernel_rfl) (by kernel_rfl)
    (fun d=>(eI2 n _ _).trans (Eq.trans (b:=QD n (o5 d.1 d.2.1) (cN (S5 n) cX9 [(4,none)])) (by kernel_rfl) ((eE3 n _ d.1 d.2.1).trans (by kernel_rfl))))
def bC5 (Y J:BA) (R:Int):FState:=⟨aI [(0,.dat .str Y),(1,.dat .str J),(2,.dat (.int .i64) R)],aE []⟩
def eM4 (T:Int):FState:=⟨aI [(6,.dat (.int .i64) T)],aE []⟩
def iP:List NE:=[.keep 6]
def dU6:List (Nat×Spec):=[(95,dF1 n)]
def aP1:Ctx:={Γ0 with calls:=lkS (dU6 n)}
def V6:Code:=fb Tryd.f174
def X7 (kr:Int→Option β) (Y J:BA) (R:Int):Option β:=bif (decide (R>(w64 ((Y.size:Int) - 1)))) then (kr (-1:Int)) else (bif (decide (R≤(0:Int))) then ((g95 n Y J).bind fun V=>kr V.1) else (bnd R (Y.size:Int) (Y.size:Int)<|(g95 n (bE Y R (Y.size:Int)) J).bind fun r2=>bif (r2.1==(-1:Int)) then (kr (-1:Int)) else (kr (w64 (r2.1+R)))))
def VS:FS1 β:=FXs (aP1 n) n V6 none (some iP) [] [2,12,13,28,29,30,124,125,126,127]
theorem bR4 (Y J:BA) (R:Int):VS n (bC5 Y J R) cx=X7 n (fun T=>cx.ret (eM4 T)) Y J R:=by kernel_rfl
def eK6 (Y J:BA) (R:Int):Option (DenR [.dat (.int .i64)]):=X7 n (fun T=>some (T,())) Y J R
def dC0:List AK:=[.dat .str,.dat .str,.dat (.int .i64)]
def aE5:List RK:=[.dat (.int .i64)]
def eY3 (d:DenA dC0):Option (DenR aE5):=eK6 n d.1 d.2.1 d.2.2.1
def dI6:Spec:=aP dC0 aE5 (eY3 n)
def dF6:Sk:=(.nd (.fin none none (some iP) [] .leaf) (.nd (.nd (.fin none none (some iP) [] .leaf) (.fin none none (some iP) [] .leaf)) (.nd (.nd (.fin none none (some iP) [] .leaf) (.fin none none (some iP) [] .leaf)) (.nd (.fin none none (some iP) [] .leaf) (.nd (.nd (.fin none none (some iP) [] .leaf) (.fin none none (some iP) [] .leaf)) (.nd (.fin none none (some iP) [] .leaf) (.fin none none (some iP) [] .leaf)))))))
theorem dO2 (s:FState) (cx:Cx β):FX (aP1 n) n V6 dF6 s cx=VS n s cx:=by kernel_rfl
theorem cN2:Fit Tryd.prog 174 (dI6 n):=
  cH (Γ:=Γ0) (l:=dU6 n) (n:=n) (sk:=dF6) (ts:=[(6,none)]) (fn:=Tryd.f174) (c:=V6) (by kernel_rfl) (by kernel_rfl) (by unfold aS;kernel_rfl) cF ⟨bN3 n,trivial⟩ aN (by kernel_rfl) (by kernel_rfl) (Nat.le_of_ble_eq_true (by kernel_rfl)) (Nat.le_of_ble_eq_true (by kernel_rfl)) (by kernel_rfl) (by kernel_rfl)
    (fun d=>(dO2 n _ _).trans (Eq.trans (b:=VS n (bC5 d.1 d.2.1 d.2.2.1) (cN (aP1 n) aE5 [(6,none)])) (by kernel_rfl) ((bR4 n _ d.1 d.2.1 d.2.2.1).trans (by kernel_rfl))))
def zE (C:Z11) (J:BA) (aj:List BA) (m3:List Z25):FState:=⟨aI [(0,.ptr 0 0 0),(1,.dat .str J),(2,.cp 2 0),(1000002,.sl 1000002 none false),(3,.mp 3)],aE [(0,.row Z1 106 false [C]),(2,.cell (.sl 9 .str) 33),(1000002,.row .str 9 true aj),(3,.mapo .str (.int .i64) m3)]⟩
def H4:List NE:=[.ptr 0 Z1 106 false,.keep 1,.cell 2 (.sl 9 .str) 33,.row 1000002 .str 9 true,.mp 3 .str (.int .i64)]
def bM8 (aj:List BA) (m3:List Z25) (X:List Int):FState:=⟨aI [(2,.cp 2 0),(1000002,.sl 1000002 none false),(3,.mp 3),(8,.sl 8 none false)],aE [(2,.cell (.sl 9 .str) 33),(1000002,.row .str 9 true aj),(3,.mapo .str (.int .i64) m3),(8,.row (.int .u32) 222 true X)]⟩
def KF:List NE:=[.cell 2 (.sl 9 .str) 33,.row 1000002 .str 9 true,.mp 3 .str (.int .i64),.row 8 (.int .u32) 222 true]
def uQ (J:BA) (aj:List BA) (m3:List Z25) (F I:Int) (ag:List Int):FState:=⟨aI [(1,.dat .str J),(2,.cp 2 0),(1000002,.sl 1000002 none false),(3,.mp 3),(9,.dat (.int .i64) F),(10,.dat (.int .i64) I),(11,.sl 11 none false)],aE [(2,.cell (.sl 9 .str) 33),(1000002,.row .str 9 true aj),(3,.mapo .str (.int .i64) m3),(11,.row (.int .u32) 222 true ag)]⟩
def zR:List NE:=[.keep 1,.cell 2 (.sl 9 .str) 33,.row 1000002 .str 9 true,.mp 3 .str (.int .i64),.keep 9,.keep 10,.row 11 (.int .u32) 222 true]
def xD (aj:List BA) (m3:List Z25) (ag:List Int):FState:=⟨aI [(2,.cp 2 0),(1000002,.sl 1000002 none false),(3,.mp 3),(11,.sl 11 none false)],aE [(2,.cell (.sl 9 .str) 33),(1000002,.row .str 9 true aj),(3,.mapo .str (.int .i64) m3),(11,.row (.int .u32) 222 true ag)]⟩
def yP:List NE:=[.cell 2 (.sl 9 .str) 33,.row 1000002 .str 9 true,.mp 3 .str (.int .i64),.row 11 (.int .u32) 222 true]
def dS3:List (Nat×Spec):=[(174,dI6 n)]
def DA:Ctx:={Γ0 with calls:=lkS (dS3 n)}
def LH:Code:=fb Tryd.f154
def aK5 (n:Nat) (kn:BA→List BA→List Z25→Int→Int→List Int→Option β) (C:Z11) (J:BA) (aj:List BA) (m3:List Z25):Option β:=kn J aj m3 (0:Int) (-1:Int) ([]:List Int)
def bP8:FS1 β:=FXs (DA n) n LH (some zR) none [] [2,6,14,30]
theorem bT4 (C:Z11) (J:BA) (aj:List BA) (m3:List Z25):bP8 n (zE C J aj m3) cx=aK5 n (fun J aj m3 F I ag=>cx.nrm (uQ J aj m3 F I ag)) C J aj m3:=by kernel_rfl
def aB0 (kn:BA→List BA→List Z25→Int→Int→List Int→Option β) (ae:List BA→List Z25→List Int→Option β) (J:BA) (aj:List BA) (m3:List Z25) (F I:Int) (ag:List Int):Option β:=bif (decide (I < (w64 ((J.size:Int) - 1)))) then ((eK6 n J (⟨#[10]⟩:BA) F).bind fun V=>bif (V.1==(-1:Int)) then (bnd F (w64 ((w64 ((J.size:Int) - 1))+(1:Int))) (J.size:Int)<|bif (gI (a:= .str) (b:=(.int .i64)) (bE J F (w64 ((w64 ((J.size:Int) - 1))+(1:Int)))) m3).isSome then (cM (ag.length+[(IntKind.u32.wrap (((gI (a:= .str) (b:=(.int .i64)) (bE J F (w64 ((w64 ((J.size:Int) - 1))+(1:Int)))) m3).getD (0:Int))))].length)<|kn J aj m3 (w64 ((w64 ((J.size:Int) - 1))+(1:Int))) (w64 ((J.size:Int) - 1)) (ag++[(IntKind.u32.wrap (((gI (a:= .str) (b:=(.int .i64)) (bE J F (w64 ((w64 ((J.size:Int) - 1))+(1:Int)))) m3).getD (0:Int))))])) else (cM (aj.length+[(bE J F (w64 ((w64 ((J.size:Int) - 1))+(1:Int))))].length)<|cM (ag.length+[(IntKind.u32.wrap ((w64 (((aj++[(bE J F (w64 ((w64 ((J.size:Int) - 1))+(1:Int))))]).length:Int) - (1:Int)))))].length)<|kn J (aj++[(bE J F (w64 ((w64 ((J.size:Int) - 1))+(1:Int))))]) (qA (a:= .str) (b:=(.int .i64)) (bE J F (w64 ((w64 ((J.size:Int) - 1))+(1:Int)))) (w64 (((aj++[(bE J F (w64 ((w64 ((J.size:Int) - 1))+(1:Int))))]).length:Int) - (1:Int))) m3) (w64 ((w64 ((J.size:Int) - 1))+(1:Int))) (w64 ((J.size:Int) - 1)) (ag++[(IntKind.u32.wrap ((w64 (((aj++[(bE J F (w64 ((w64 ((J.size:Int) - 1))+(1:Int))))]).length:Int) - (1:Int)))))]))) else (bnd F (w64 (V.1+1)) (J.size:Int)<|bif (gI (a:= .str) (b:=(.int .i64)) (bE J F (w64 (V.1+1))) m3).isSome then (cM (ag.length+[(IntKind.u32.wrap (((gI (a:= .str) (b:=(.int .i64)) (bE J F (w64 (V.1+1))) m3).getD (0:Int))))].length)<|kn J aj m3 (w64 (V.1+1)) V.1 (ag++[(IntKind.u32.wrap (((gI (a:= .str) (b:=(.int .i64)) (bE J F (w64 (V.1+1))) m3).getD (0:Int))))])) else (cM (aj.length+[(bE J F (w64 (V.1+1)))].length)<|cM (ag.length+[(IntKind.u32.wrap ((w64 (((aj++[(bE J F (w64 (V.1+1)))]).length:Int) - (1:Int)))))].length)<|kn J (aj++[(bE J F (w64 (V.1+1)))]) (qA (a:= .str) (b:=(.int .i64)) (bE J F (w64 (V.1+1))) (w64 (((aj++[(bE J F (w64 (V.1+1)))]).length:Int) - (1:Int))) m3) (w64 (V.1+1)) V.1 (ag++[(IntKind.u32.wrap ((w64 (((aj++[(bE J F (w64 (V.1+1)))]).length:Int) - (1:Int)))))])))) else (ae aj m3 ag)
def WP:FS1 β:=FXs (DA n) n LH (some zR) none [(0,yP)] [992,993,497]
theorem cK2 (J:BA) (aj:List BA) (m3:List Z25) (F I:Int) (ag:List Int):WP n (uQ J aj m3 F I ag) cx=aB0 n (fun J aj m3 F I ag=>cx.nrm (uQ J aj m3 F I ag)) (fun aj m3 ag=>cx.ex 0 (xD aj m3 ag)) J aj m3 F I ag:=by kernel_rfl
def g154_3L (n:Nat) (ae:List BA→List Z25→List Int→Option β):Nat→BA→List BA→List Z25→Int→Int→List Int→Option β
  | 0,_,_,_,_,_,_=>none
  | m+1,J,aj,m3,F,I,ag=>aB0 n (g154_3L n ae m) ae J aj m3 F I ag
def d3 (ae:List BA→List Z25→List Int→Option β) (J:BA) (aj:List BA) (m3:List Z25) (F I:Int) (ag:List Int):Option β:=g154_3L n ae n J aj m3 F I ag
def bG1 (s:FState) (cx:Cx β):Option β:=bQ (fun again s=>WP n s {cx with nrm:=again}) n s
theorem aB6 (n:Nat) (cx:Cx β):∀(m:Nat) (J:BA) (aj:List BA) (m3:List Z25) (F I:Int) (ag:List Int),bQ (fun again s=>WP n s {cx with nrm:=again}) m (uQ J aj m3 F I ag)=g154_3L n (fun aj m3 ag=>cx.ex 0 (xD aj m3 ag)) m J aj m3 F I ag:=by
  intro m
  induction m with
  | zero=>intros;rfl
  | succ m ih=>intros;simp only [bQ,g154_3L,cK2,ih]
theorem cD7 (J:BA) (aj:List BA) (m3:List Z25) (F I:Int) (ag:List Int):bG1 n (uQ J aj m3 F I ag) cx=d3 n (fun aj m3 ag=>cx.ex 0 (xD aj m3 ag)) J aj m3 F I ag:=aB6 n cx n J aj m3 F I ag
def aE1 (kn:List BA→List Z25→List Int→Option β) (J:BA) (aj:List BA) (m3:List Z25) (F I:Int) (ag:List Int):Option β:=d3 n kn J aj m3 F I ag
def bO9 (s:FState) (cx:Cx β):Option β:=bG1 n s {cx with ex:=fun j s=>bif Nat.beq j 0 then cx.nrm s else cx.ex j s}
theorem bY4 (J:BA) (aj:List BA) (m3:List Z25) (F I:Int) (ag:List Int):bO9 n (uQ J aj m3 F I ag) cx=aE1 n (fun aj m3 ag=>cx.nrm (xD aj m3 ag)) J aj m3 F I ag:=cD7 n _ J aj m3 F I ag
def aM3 (n:Nat) (kr:List BA→List Z25→List Int→Option β) (aj:List BA) (m3:List Z25) (ag:List Int):Option β:=kr aj m3 ag
def aZ8:FS1 β:=FXs (DA n) n LH none (some KF) [] [126,127]
theorem cI0 (aj:List BA) (m3:List Z25) (ag:List Int):aZ8 n (xD aj m3 ag) cx=aM3 n (fun aj m3 X=>cx.ret (bM8 aj m3 X)) aj m3 ag:=by kernel_rfl
def VP (kr:List BA→List Z25→List Int→Option β) (C:Z11) (J:BA) (aj:List BA) (m3:List Z25):Option β:=aK5 n (fun J aj m3 F I ag=>aE1 n (fun aj m3 ag=>aM3 n kr aj m3 ag) J aj m3 F I ag) C J aj m3
def FT (s:FState) (cx:Cx β):Option β:=bP8 n s {cx with nrm:=fun s=>bO9 n s {cx with nrm:=fun s=>aZ8 n s cx}}
theorem bX8 (C:Z11) (J:BA) (aj:List BA) (m3:List Z25):FT n (zE C J aj m3) cx=VP n (fun aj m3 X=>cx.ret (bM8 aj m3 X)) C J aj m3:=by simp only [FT,VP,bT4,bY4,cI0]
def eA5 (C:Z11) (J:BA) (aj:List BA) (m3:List Z25):Option (DenR [.rw (.int .u32) 222]×DenR (bM [.pro Z1 106,.dat .str,.cel (.sl 9 .str) 33,.mp .str (.int .i64)])):=VP n (fun aj m3 X=>some ((X,()),(aj,(m3,())))) C J aj m3
def oK:List AK:=[.pro Z1 106,.dat .str,.cel (.sl 9 .str) 33,.mp .str (.int .i64)]
def k9:List RK:=[.rw (.int .u32) 222]
def fD3 (d:DenA oK):Option (DenR k9×DenR (bM oK)):=eA5 n d.1 d.2.1 d.2.2.1 d.2.2.2.1
def cX4:Spec:=nS oK k9 (fD3 n)
def dS9:Sk:=(.nd (.fin none none none [] .leaf) (.nd (.fin none none none [] .leaf) (.nd (.fin none none none [] .leaf) (.nd (.fin none (some zR) none [] .leaf) (.nd (.nd (.nd (.nd (.nd (.fin none none none [(0,yP)] .leaf) (.fin none none none [(0,yP)] .leaf)) (.fin none (some zR) none [(0,yP)] .leaf)) .leaf) .leaf) (.nd (.fin none none (some KF) [] .leaf) (.fin none none (some KF) [] .leaf)))))))
theorem dC6 (s:FState) (cx:Cx β):FX (DA n) n LH dS9 s cx=FT n s cx:=by kernel_rfl
theorem cQ8 (d:DenA oK) (β:Type) (κ:FState→Option β):dO 0 0 (bM oK) (gJ oK 0) (toB oK d) (mK oK d) (fun s=>vG (DA n) H4 (rI oK 0 s) κ)=κ (zE d.1 d.2.1 d.2.2.1 d.2.2.2.1):=by kernel_rfl
theorem dD0:Fit Tryd.prog 154 (cX4 n):=
  XX (Γ:=Γ0) (l:=dS3 n) (n:=n) (sk:=dS9) (nf:=H4) (m:=fun d=>zE d.1 d.2.1 d.2.2.1 d.2.2.2.1) (ts:=[(8,none)]) (fn:=Tryd.f154) (c:=LH) (by kernel_rfl) (by kernel_rfl) (by unfold aS;kernel_rfl) cF ⟨cN2 n,trivial⟩ aN (by kernel_rfl) (by kernel_rfl) (Nat.le_of_ble_eq_true (by kernel_rfl)) (Nat.le_of_ble_eq_true (by kernel_rfl)) (by kernel_rfl) (by kernel_rfl) (cQ8 n)
    (fun d=>(dC6 n _ _).trans (Eq.trans (b:=FT n (zE d.1 d.2.1 d.2.2.1 d.2.2.2.1) (sV (DA n) oK k9 [(8,none)])) (by kernel_rfl) ((bX8 n _ d.1 d.2.1 d.2.2.1 d.2.2.2.1).trans (by kernel_rfl))))
def bK4 (Y J R:Int):FState:=⟨aI [(0,.dat (.int .u32) Y),(1,.dat (.int .u8) J),(2,.dat (.int .u8) R)],aE []⟩
def eO1 (T:Int):FState:=⟨aI [(6,.dat (.int .u8) T)],aE []⟩
def xH:List NE:=[.keep 6]
def dG3 (n:Nat):List (Nat×Spec):=[]
def aD4:Ctx:={Γ0 with calls:=lkS (dG3 n)}
def o6:Code:=fb Tryd.f195
def aK1 (n:Nat) (kr:Int→Option β) (Y J R:Int):Option β:=eJ9 R<|eJ9 J<|kr (IntKind.u8.wrap ((eB .u32 (fC .u32 Y R) (IntKind.u32.wrap ((qI .u32 (1:Int) J) - (1:Int))))))
def RD:FS1 β:=FXs (aD4 n) n o6 none (some xH) [] [2,6,7]
theorem cC7 (Y J R:Int):RD n (bK4 Y J R) cx=aK1 n (fun T=>cx.ret (eO1 T)) Y J R:=by kernel_rfl
def wK (Y J R:Int):Option (DenR [.dat (.int .u8)]):=aK1 n (fun T=>some (T,())) Y J R
def dO4:List AK:=[.dat (.int .u32),.dat (.int .u8),.dat (.int .u8)]
def X6:List RK:=[.dat (.int .u8)]
def fC3 (d:DenA dO4):Option (DenR X6):=wK n d.1 d.2.1 d.2.2.1
def dP0:Spec:=aP dO4 X6 (fC3 n)
def dT5:Sk:=(.nd (.fin none none (some xH) [] .leaf) (.nd (.fin none none (some xH) [] .leaf) (.fin none none (some xH) [] .leaf)))
theorem dZ6 (s:FState) (cx:Cx β):FX (aD4 n) n o6 dT5 s cx=RD n s cx:=by kernel_rfl
theorem dE0:Fit Tryd.prog 195 (dP0 n):=
  cH (Γ:=Γ0) (l:=dG3 n) (n:=n) (sk:=dT5) (ts:=[(6,none)]) (fn:=Tryd.f195) (c:=o6) (by kernel_rfl) (by kernel_rfl) (by unfold aS;kernel_rfl) cF trivial aN (by kernel_rfl) (by kernel_rfl) (Nat.le_of_ble_eq_true (by kernel_rfl)) (Nat.le_of_ble_eq_true (by kernel_rfl)) (by kernel_rfl) (by kernel_rfl)
    (fun d=>(dZ6 n _ _).trans (Eq.trans (b:=RD n (bK4 d.1 d.2.1 d.2.2.1) (cN (aD4 n) X6 [(6,none)])) (by kernel_rfl) ((cC7 n _ d.1 d.2.1 d.2.2.1).trans (by kernel_rfl))))
def dM7:List AK:=[.ro (.int .u8) 5]
def dT3:List RK:=[.dat (.int .i32),.dat (.int .i64)]
def ER (n:Nat) (Y:List Int):Option (DenR [.dat (.int .i32),.dat (.int .i64)]):=if Y≠[]∧∀x∈Y,0≤x∧x < 256 then some (((Lib.decodeGo (strOfNums Y)).1:Int),(((Lib.decodeGo (strOfNums Y)).2:Int),())) else none
def fD4 (d:DenA dM7):Option (DenR dT3):=ER n d.1
def dW4:Spec:=aP dM7 dT3 (fD4 n)
theorem cT3:Fit Tryd.prog 194 (dW4 n):=R6 (by unfold aS;kernel_rfl) rfl fun d x w A vs hG ha hx=>by
  obtain ⟨v,vs',o1,o2,rfl,_,⟨_,ad,cap,rfl,hle,hne⟩,h3,_⟩:=ha
  obtain ⟨xs,u⟩:=d
  subst h3
  obtain ⟨hc,hx⟩:=bN hx
  cases hx
  obtain ⟨b,off,rfl,hb,hrow⟩:=hne hc.1
  have key:=Tryd.utf8_DecodeRune (strOfNums xs) b off cap w (UZ hG) (aV6 hc.2 hrow)
  rw [gS] at key
  exact key.mono fun e w' ⟨he,hb⟩=>⟨[.int .i32 (Lib.decodeGo (strOfNums xs)).1,.int .i64 (Lib.decodeGo (strOfNums xs)).2],he,⟨_,_,[],[],rfl,rfl,⟨rfl,_,rfl,rfl⟩,⟨_,_,[],[],rfl,rfl,⟨rfl,_,rfl,rfl⟩,rfl,rfl⟩⟩,hb⟩
def bA0 (Y:Int):FState:=⟨aI [(0,.dat (.int .u32) Y)],aE []⟩
def eM6 (R:Int):FState:=⟨aI [(2,.dat (.int .i32) R)],aE []⟩
def iO:List NE:=[.keep 2]
def cW9:List (Nat×Spec):=[(194,dW4 n),(195,dP0 n)]
def w9:Ctx:={Γ0 with calls:=lkS (cW9 n)}
def aD1:Code:=fb Tryd.f175
def c7 (kr:Int→Option β) (Y:Int):Option β:=bif (decide (Y < (128:Int))) then (kr (IntKind.i32.wrap (Y))) else (bif (decide (Y < (2048:Int))) then ((wK n Y (5:Int) (6:Int)).bind fun V=>(wK n Y (6:Int) (0:Int)).bind fun r2=>(ER n [(orI .u8 (192:Int) V.1),(orI .u8 (128:Int) r2.1)]).bind fun r3=>bif (r3.2.1 !=(2:Int)) then none else (bif (r3.1==(65533:Int)) then none else (kr r3.1))) else (bif (decide (Y < (63485:Int))) then (bif (decide (Y≥(55296:Int))) then ((wK n (IntKind.u32.wrap (Y+(2048:Int))) (4:Int) (12:Int)).bind fun r4=>(wK n (IntKind.u32.wrap (Y+(2048:Int))) (6:Int) (6:Int)).bind fun r5=>(wK n (IntKind.u32.wrap (Y+(2048:Int))) (6:Int) (0:Int)).bind fun r6=>(ER n [(orI .u8 (224:Int) r4.1),(orI .u8 (128:Int) r5.1),(orI .u8 (128:Int) r6.1)]).bind fun r7=>bif (r7.2.1 !=(3:Int)) then none else (bif (r7.1==(65533:Int)) then none else (kr r7.1))) else ((wK n Y (4:Int) (12:Int)).bind fun r8=>(wK n Y (6:Int) (6:Int)).bind fun r9=>(wK n Y (6:Int) (0:Int)).bind fun bq=>(ER n [(orI .u8 (224:Int) r8.1),(orI .u8 (128:Int) r9.1),(orI .u8 (128:Int) bq.1)]).bind fun aw=>bif (aw.2.1 !=(3:Int)) then none else (bif (aw.1==(65533:Int)) then none else (kr aw.1)))) else (bif (decide (Y < (2095101:Int))) then ((wK n (IntKind.u32.wrap (Y+(2051:Int))) (3:Int) (18:Int)).bind fun bt=>(wK n (IntKind.u32.wrap (Y+(2051:Int))) (6:Int) (12:Int)).bind fun bs=>(wK n (IntKind.u32.wrap (Y+(2051:Int))) (6:Int) (6:Int)).bind fun ay=>(wK n (IntKind.u32.wrap (Y+(2051:Int))) (6:Int) (0:Int)).bind fun bv=>(ER n [(orI .u8 (240:Int) bt.1),(orI .u8 (128:Int) bs.1),(orI .u8 (128:Int) ay.1),(orI .u8 (128:Int) bv.1)]).bind fun bu=>bif (bu.2.1 !=(4:Int)) then none else (bif (bu.1==(65533:Int)) then none else (kr bu.1))) else none)))
def QQ:FS1 β:=FXs (w9 n) n aD1 none (some iO) [] [2,12,13,28,29,60,61,124,125,63]
theorem bY7 (Y:Int):QQ n (bA0 Y) cx=c7 n (fun R=>cx.ret (eM6 R)) Y:=by kernel_rfl
def eF4 (Y:Int):Option (DenR [.dat (.int .i32)]):=c7 n (fun R=>some (R,())) Y
def eD2:List AK:=[.dat (.int .u32)]
def aV0:List RK:=[.dat (.int .i32)]
def eW2 (d:DenA eD2):Option (DenR aV0):=eF4 n d.1
def dR1:Spec:=aP eD2 aV0 (eW2 n)
def dS7:Sk:=(.nd (.fin none none (some iO) [] .leaf) (.nd (.nd (.fin none none (some iO) [] .leaf) (.fin none none (some iO) [] .leaf)) (.nd (.nd (.fin none none (some iO) [] .leaf) (.fin none none (some iO) [] .leaf)) (.nd (.nd (.fin none none (some iO) [] .leaf) (.fin none none (some iO) [] .leaf)) (.nd (.nd (.fin none none (some iO) [] .leaf) (.fin none none (some iO) [] .leaf)) (.fin none none (some iO) [] .leaf))))))
theorem dB9 (s:FState) (cx:Cx β):FX (w9 n) n aD1 dS7 s cx=QQ n s cx:=by kernel_rfl
theorem dU4:Fit Tryd.prog 175 (dR1 n):=
  cH (Γ:=Γ0) (l:=cW9 n) (n:=n) (sk:=dS7) (ts:=[(2,none)]) (fn:=Tryd.f175) (c:=aD1) (by kernel_rfl) (by kernel_rfl) (by unfold aS;kernel_rfl) cF ⟨cT3 n,dE0 n,trivial⟩ aN (by kernel_rfl) (by kernel_rfl) (Nat.le_of_ble_eq_true (by kernel_rfl)) (Nat.le_of_ble_eq_true (by kernel_rfl)) (by kernel_rfl) (by kernel_rfl)
    (fun d=>(dB9 n _ _).trans (Eq.trans (b:=QQ n (bA0 d.1) (cN (w9 n) aV0 [(2,none)])) (by kernel_rfl) ((bY7 n _ d.1).trans (by kernel_rfl))))
def YB (M:List Int):FState:=⟨aI [(0,.sl 0 none false)],aE [(0,.row (.int .u32) 222 false M)]⟩
def SN (R:BA):FState:=⟨aI [(2,.dat .str R)],aE []⟩
def kH:List NE:=[.keep 2]
def uT (z W:List Int) (H N:Int):FState:=⟨aI [(3,.sl 3 none false),(10,.sl 10 none false),(11,.dat (.int .i64) H),(12,.dat (.int .i64) N)],aE [(3,.row (.int .i32) 21 true z),(10,.row (.int .u32) 222 false W)]⟩
def yJ:List NE:=[.row 3 (.int .i32) 21 true,.row 10 (.int .u32) 222 false,.keep 11,.keep 12]
def zF (z:List Int):FState:=⟨aI [(3,.sl 3 none false)],aE [(3,.row (.int .i32) 21 true z)]⟩
def sD:List NE:=[.row 3 (.int .i32) 21 true]
def dJ7:List (Nat×Spec):=[(175,dR1 n)]
def NC:Ctx:={Γ0 with calls:=lkS (dJ7 n)}
def KL:Code:=fb Tryd.f155
def u7 (n:Nat) (kn:List Int→List Int→Int→Int→Option β) (kr:BA→Option β) (M:List Int):Option β:=bif ((M.length:Int)==(0:Int)) then (kr (⟨#[]⟩:BA)) else (kn ([]:List Int) M (M.length:Int) (0:Int))
def bK5:FS1 β:=FXs (NC n) n KL (some yJ) (some kH) [] [2,12,13,14,60]
theorem cF1 (M:List Int):bK5 n (YB M) cx=u7 n (fun z W H N=>cx.nrm (uT z W H N)) (fun R=>cx.ret (SN R)) M:=by kernel_rfl
def VC (kn:List Int→List Int→Int→Int→Option β) (ae:List Int→Option β) (z W:List Int) (H N:Int):Option β:=bif (decide (N < H)) then (idx N (W.length:Int)<|(eF4 n (rd W N (0:Int))).bind fun V=>cM (z.length+[V.1].length)<|kn (z++[V.1]) W H (w64 (N+1))) else (ae z)
def YL:FS1 β:=FXs (NC n) n KL (some yJ) none [(0,sD)] [488,978,1958,1959]
theorem cB4 (z W:List Int) (H N:Int):YL n (uT z W H N) cx=VC n (fun z W H N=>cx.nrm (uT z W H N)) (fun z=>cx.ex 0 (zF z)) z W H N:=by kernel_rfl
def g155_3L (n:Nat) (ae:List Int→Option β):Nat→List Int→List Int→Int→Int→Option β
  | 0,_,_,_,_=>none
  | m+1,z,W,H,N=>VC n (g155_3L n ae m) ae z W H N
def aN8 (ae:List Int→Option β) (z W:List Int) (H N:Int):Option β:=g155_3L n ae n z W H N
def bJ0 (s:FState) (cx:Cx β):Option β:=bQ (fun again s=>YL n s {cx with nrm:=again}) n s
theorem Y9 (n:Nat) (cx:Cx β):∀(m:Nat) (z W:List Int) (H N:Int),bQ (fun again s=>YL n s {cx with nrm:=again}) m (uT z W H N)=g155_3L n (fun z=>cx.ex 0 (zF z)) m z W H N:=by
  intro m
  induction m with
  | zero=>intros;rfl
  | succ m ih=>intros;simp only [bQ,g155_3L,cB4,ih]
theorem bV4 (z W:List Int) (H N:Int):bJ0 n (uT z W H N) cx=aN8 n (fun z=>cx.ex 0 (zF z)) z W H N:=Y9 n cx n z W H N
def l9 (kn:List Int→Option β) (z W:List Int) (H N:Int):Option β:=aN8 n kn z W H N
def bH4 (s:FState) (cx:Cx β):Option β:=bJ0 n s {cx with ex:=fun j s=>bif Nat.beq j 0 then cx.nrm s else cx.ex j s}
theorem cK9 (z W:List Int) (H N:Int):bH4 n (uT z W H N) cx=l9 n (fun z=>cx.nrm (zF z)) z W H N:=bV4 n _ z W H N
def n7 (n:Nat) (kr:BA→Option β) (z:List Int):Option β:=kr (runesBytes z)
def bO5:FS1 β:=FXs (NC n) n KL none (some kH) [] [62,63]
theorem bW7 (z:List Int):bO5 n (zF z) cx=n7 n (fun R=>cx.ret (SN R)) z:=by kernel_rfl
def WH (kr:BA→Option β) (M:List Int):Option β:=u7 n (fun z W H N=>l9 n (fun z=>n7 n kr z) z W H N) kr M
def HF (s:FState) (cx:Cx β):Option β:=bK5 n s {cx with nrm:=fun s=>bH4 n s {cx with nrm:=fun s=>bO5 n s cx}}
theorem bU4 (M:List Int):HF n (YB M) cx=WH n (fun R=>cx.ret (SN R)) M:=by simp only [HF,WH,cF1,cK9,bW7]
def dA5 (M:List Int):Option (DenR [.dat .str]):=WH n (fun R=>some (R,())) M
def dD6:List AK:=[.ro (.int .u32) 222]
def aH8:List RK:=[.dat .str]
def eZ6 (d:DenA dD6):Option (DenR aH8):=dA5 n d.1
def cX0:Spec:=aP dD6 aH8 (eZ6 n)
def cP7:Sk:=(.nd (.fin none none (some kH) [] .leaf) (.nd (.nd (.fin none none (some kH) [] .leaf) (.fin none none (some kH) [] .leaf)) (.nd (.fin none none (some kH) [] .leaf) (.nd (.nd (.fin none (some yJ) (some kH) [] .leaf) (.nd (.nd (.nd (.fin none none none [(0,sD)] .leaf) (.nd (.fin none none none [(0,sD)] .leaf) (.nd (.fin none none none [(0,sD)] .leaf) (.fin none (some yJ) none [(0,sD)] .leaf)))) .leaf) .leaf)) (.nd (.fin none none (some kH) [] .leaf) (.fin none none (some kH) [] .leaf))))))
theorem dM3 (s:FState) (cx:Cx β):FX (NC n) n KL cP7 s cx=HF n s cx:=by kernel_rfl
theorem cQ9:Fit Tryd.prog 155 (cX0 n):=
  cH (Γ:=Γ0) (l:=dJ7 n) (n:=n) (sk:=cP7) (ts:=[(2,none)]) (fn:=Tryd.f155) (c:=KL) (by kernel_rfl) (by kernel_rfl) (by unfold aS;kernel_rfl) cF ⟨dU4 n,trivial⟩ aN (by kernel_rfl) (by kernel_rfl) (Nat.le_of_ble_eq_true (by kernel_rfl)) (Nat.le_of_ble_eq_true (by kernel_rfl)) (by kernel_rfl) (by kernel_rfl)
    (fun d=>(dM3 n _ _).trans (Eq.trans (b:=HF n (YB d.1) (cN (NC n) aH8 [(2,none)])) (by kernel_rfl) ((bU4 n _ d.1).trans (by kernel_rfl))))
def aY8 (C:Z11) (J R:BA):FState:=⟨aI [(0,.ptr 0 0 0),(1,.dat .str J),(2,.dat .str R)],aE [(0,.row Z1 106 false [C])]⟩
def eI7 (T E:BA) (X:List BA):FState:=⟨aI [(6,.dat .str T),(7,.dat .str E),(8,.sl 8 none false)],aE [(8,.row .str 9 true X)]⟩
def lQ:List NE:=[.keep 6,.keep 7,.row 8 .str 9 true]
def eE0:List (Nat×Spec):=[(154,cX4 n),(155,cX0 n)]
def V8:Ctx:={Γ0 with calls:=lkS (eE0 n),cel:=[9]}
def aN7:Code:=fb Tryd.f132
def aK8 (kr:BA→BA→List BA→Option β) (C:Z11) (J R:BA):Option β:=(eA5 n C J [(⟨#[]⟩:BA)] ([]:List Z25)).bind fun V=>(eA5 n C R V.2.1 V.2.2.1).bind fun r2=>(dA5 n V.1.1).bind fun r3=>(dA5 n r2.1.1).bind fun r4=>kr r3.1 r4.1 r2.2.1
def QK:FS1 β:=FXs (V8 n) n aN7 none (some lQ) [] [2,6,14,30,62,126,127]
theorem cA9 (C:Z11) (J R:BA):QK n (aY8 C J R) cx=aK8 n (fun T E X=>cx.ret (eI7 T E X)) C J R:=by kernel_rfl
def eL1 (C:Z11) (J R:BA):Option (DenR [.dat .str,.dat .str,.rw .str 9]):=aK8 n (fun T E X=>some (T,(E,(X,())))) C J R
def cZ9:List AK:=[.pro Z1 106,.dat .str,.dat .str]
def aA9:List RK:=[.dat .str,.dat .str,.rw .str 9]
def eX3 (d:DenA cZ9):Option (DenR aA9):=eL1 n d.1 d.2.1 d.2.2.1
def cO7:Spec:=aP cZ9 aA9 (eX3 n)
def cS7:Sk:=(.nd (.fin none none (some lQ) [] .leaf) (.nd (.fin none none (some lQ) [] .leaf) (.nd (.fin none none (some lQ) [] .leaf) (.nd (.fin none none (some lQ) [] .leaf) (.nd (.fin none none (some lQ) [] .leaf) (.nd (.fin none none (some lQ) [] .leaf) (.fin none none (some lQ) [] .leaf)))))))
theorem cV1 (s:FState) (cx:Cx β):FX (V8 n) n aN7 cS7 s cx=QK n s cx:=by kernel_rfl
theorem dS8:Fit Tryd.prog 132 (cO7 n):=
  cH (Γ:={Γ0 with cel:=[9]}) (l:=eE0 n) (n:=n) (sk:=cS7) (ts:=[(6,none),(7,none),(8,none)]) (fn:=Tryd.f132) (c:=aN7) (by kernel_rfl) (by kernel_rfl) (by unfold aS;kernel_rfl) (fD2 cF [9]) ⟨dD0 n,cQ9 n,trivial⟩ aN (by kernel_rfl) (by kernel_rfl) (Nat.le_of_ble_eq_true (by kernel_rfl)) (Nat.le_of_ble_eq_true (by kernel_rfl)) (by kernel_rfl) (by kernel_rfl)
    (fun d=>(cV1 n _ _).trans (Eq.trans (b:=QK n (aY8 d.1 d.2.1 d.2.2.1) (cN (V8 n) aA9 [(6,none),(7,none),(8,none)])) (by kernel_rfl) ((cA9 n _ d.1 d.2.1 d.2.2.1).trans (by kernel_rfl))))
def bE5 (C:Z11) (J R:BA):FState:=⟨aI [(0,.ptr 0 0 0),(1,.dat .str J),(2,.dat .str R)],aE [(0,.row Z1 106 false [C])]⟩
def eI1 (y x7:List Int) (X:List BA):FState:=⟨aI [(6,.sl 6 none false),(7,.sl 7 none false),(8,.sl 8 none false)],aE [(6,.row (.int .i32) 21 true y),(7,.row (.int .i32) 21 true x7),(8,.row .str 9 true X)]⟩
def sA:List NE:=[.row 6 (.int .i32) 21 true,.row 7 (.int .i32) 21 true,.row 8 .str 9 true]
def dA4:List (Nat×Spec):=[(132,cO7 n)]
def n8:Ctx:={Γ0 with calls:=lkS (dA4 n)}
def aK9:Code:=fb Tryd.f109
def aO2 (kr:List Int→List Int→List BA→Option β) (C:Z11) (J R:BA):Option β:=(eL1 n C J R).bind fun V=>kK V.1<|kK V.2.1<|kr (bS V.1) (bS V.2.1) V.2.2.1
def SR:FS1 β:=FXs (n8 n) n aK9 none (some sA) [] [2,6,14,15]
theorem cG7 (C:Z11) (J R:BA):SR n (bE5 C J R) cx=aO2 n (fun y x7 X=>cx.ret (eI1 y x7 X)) C J R:=by kernel_rfl
def cN9 (C:Z11) (J R:BA):Option (DenR [.rw (.int .i32) 21,.rw (.int .i32) 21,.rw .str 9]):=aO2 n (fun y x7 X=>some (y,(x7,(X,())))) C J R
def dZ1:List AK:=[.pro Z1 106,.dat .str,.dat .str]
def Y4:List RK:=[.rw (.int .i32) 21,.rw (.int .i32) 21,.rw .str 9]
def eZ1 (d:DenA dZ1):Option (DenR Y4):=cN9 n d.1 d.2.1 d.2.2.1
def dG1:Spec:=aP dZ1 Y4 (eZ1 n)
def cZ5:Sk:=(.nd (.fin none none (some sA) [] .leaf) (.nd (.fin none none (some sA) [] .leaf) (.nd (.fin none none (some sA) [] .leaf) (.fin none none (some sA) [] .leaf))))
theorem dZ3 (s:FState) (cx:Cx β):FX (n8 n) n aK9 cZ5 s cx=SR n s cx:=by kernel_rfl
theorem cN6:Fit Tryd.prog 109 (dG1 n):=
  cH (Γ:=Γ0) (l:=dA4 n) (n:=n) (sk:=cZ5) (ts:=[(6,none),(7,none),(8,none)]) (fn:=Tryd.f109) (c:=aK9) (by kernel_rfl) (by kernel_rfl) (by unfold aS;kernel_rfl) cF ⟨dS8 n,trivial⟩ aN (by kernel_rfl) (by kernel_rfl) (Nat.le_of_ble_eq_true (by kernel_rfl)) (Nat.le_of_ble_eq_true (by kernel_rfl)) (by kernel_rfl) (by kernel_rfl)
    (fun d=>(dZ3 n _ _).trans (Eq.trans (b:=SR n (bE5 d.1 d.2.1 d.2.2.1) (cN (n8 n) Y4 [(6,none),(7,none),(8,none)])) (by kernel_rfl) ((cG7 n _ d.1 d.2.1 d.2.2.1).trans (by kernel_rfl))))
def BP (M:List Int) (J:Int):FState:=⟨aI [(0,.sl 0 none false),(1,.dat (.int .i32) J)],aE [(0,.row (.int .u8) 5 true M)]⟩
def T3:List NE:=[.row 0 (.int .u8) 5 true,.keep 1]
def XC (M:List Int) (v4:Int):FState:=⟨aI [(0,.sl 0 none false),(4,.dat (.int .i64) v4)],aE [(0,.row (.int .u8) 5 true M)]⟩
def JJ:List NE:=[.row 0 (.int .u8) 5 true,.keep 4]
def VI (M:List Int) (J D:Int):FState:=⟨aI [(0,.sl 0 none false),(1,.dat (.int .i32) J),(5,.dat (.int .u32) D)],aE [(0,.row (.int .u8) 5 true M)]⟩
def K4:List NE:=[.row 0 (.int .u8) 5 true,.keep 1,.keep 5]
def dP7 (n:Nat):List (Nat×Spec):=[]
def LU:Ctx:={Γ0 with calls:=lkS (dP7 n)}
def PY:Code:=fb Tryd.f178
def KX (n:Nat) (kn:List Int→Int→Int→Option β) (M:List Int) (J:Int):Option β:=kn M J (IntKind.u32.wrap (J))
def aX9:FS1 β:=FXs (LU n) n PY (some K4) none [] [2,6]
theorem bX7 (M:List Int) (J:Int):aX9 n (BP M J) cx=KX n (fun M J D=>cx.nrm (VI M J D)) M J:=by kernel_rfl
def IA (n:Nat) (kr:List Int→Int→Option β) (M:List Int) (J D:Int):Option β:=bif (decide (D≤(2047:Int))) then (idx (1:Int) (M.length:Int)<|idx (0:Int) (M.length:Int)<|idx (1:Int) ((M.set (0:Int).toNat (orI .u8 (192:Int) (IntKind.u8.wrap ((fC .i32 J (6:Int)))))).length:Int)<|kr ((M.set (0:Int).toNat (orI .u8 (192:Int) (IntKind.u8.wrap ((fC .i32 J (6:Int)))))).set (1:Int).toNat (orI .u8 (128:Int) (eB .u8 (IntKind.u8.wrap (J)) (63:Int)))) (2:Int)) else (bif (decide (D < (55296:Int))) then (bif (decide (D < (55296:Int))) then (idx (2:Int) (M.length:Int)<|idx (0:Int) (M.length:Int)<|idx (1:Int) ((M.set (0:Int).toNat (orI .u8 (224:Int) (IntKind.u8.wrap ((fC .i32 J (12:Int)))))).length:Int)<|idx (2:Int) (((M.set (0:Int).toNat (orI .u8 (224:Int) (IntKind.u8.wrap ((fC .i32 J (12:Int)))))).set (1:Int).toNat (orI .u8 (128:Int) (eB .u8 (IntKind.u8.wrap ((fC .i32 J (6:Int)))) (63:Int)))).length:Int)<|kr (((M.set (0:Int).toNat (orI .u8 (224:Int) (IntKind.u8.wrap ((fC .i32 J (12:Int)))))).set (1:Int).toNat (orI .u8 (128:Int) (eB .u8 (IntKind.u8.wrap ((fC .i32 J (6:Int)))) (63:Int)))).set (2:Int).toNat (orI .u8 (128:Int) (eB .u8 (IntKind.u8.wrap (J)) (63:Int)))) (3:Int)) else (bif (decide (D>(65535:Int))) then (bif (decide (D≤(1114111:Int))) then (idx (3:Int) (M.length:Int)<|idx (0:Int) (M.length:Int)<|idx (1:Int) ((M.set (0:Int).toNat (orI .u8 (240:Int) (IntKind.u8.wrap ((fC .i32 J (18:Int)))))).length:Int)<|idx (2:Int) (((M.set (0:Int).toNat (orI .u8 (240:Int) (IntKind.u8.wrap ((fC .i32 J (18:Int)))))).set (1:Int).toNat (orI .u8 (128:Int) (eB .u8 (IntKind.u8.wrap ((fC .i32 J (12:Int)))) (63:Int)))).length:Int)<|idx (3:Int) ((((M.set (0:Int).toNat (orI .u8 (240:Int) (IntKind.u8.wrap ((fC .i32 J (18:Int)))))).set (1:Int).toNat (orI .u8 (128:Int) (eB .u8 (IntKind.u8.wrap ((fC .i32 J (12:Int)))) (63:Int)))).set (2:Int).toNat (orI .u8 (128:Int) (eB .u8 (IntKind.u8.wrap ((fC .i32 J (6:Int)))) (63:Int)))).length:Int)<|kr ((((M.set (0:Int).toNat (orI .u8 (240:Int) (IntKind.u8.wrap ((fC .i32 J (18:Int)))))).set (1:Int).toNat (orI .u8 (128:Int) (eB .u8 (IntKind.u8.wrap ((fC .i32 J (12:Int)))) (63:Int)))).set (2:Int).toNat (orI .u8 (128:Int) (eB .u8 (IntKind.u8.wrap ((fC .i32 J (6:Int)))) (63:Int)))).set (3:Int).toNat (orI .u8 (128:Int) (eB .u8 (IntKind.u8.wrap (J)) (63:Int)))) (4:Int)) else (idx (2:Int) (M.length:Int)<|idx (0:Int) (M.length:Int)<|idx (1:Int) ((M.set (0:Int).toNat (239:Int)).length:Int)<|idx (2:Int) (((M.set (0:Int).toNat (239:Int)).set (1:Int).toNat (191:Int)).length:Int)<|kr (((M.set (0:Int).toNat (239:Int)).set (1:Int).toNat (191:Int)).set (2:Int).toNat (189:Int)) (3:Int))) else (idx (2:Int) (M.length:Int)<|idx (0:Int) (M.length:Int)<|idx (1:Int) ((M.set (0:Int).toNat (239:Int)).length:Int)<|idx (2:Int) (((M.set (0:Int).toNat (239:Int)).set (1:Int).toNat (191:Int)).length:Int)<|kr (((M.set (0:Int).toNat (239:Int)).set (1:Int).toNat (191:Int)).set (2:Int).toNat (189:Int)) (3:Int)))) else (bif (decide ((57343:Int) < D)) then (bif (decide (D≤(65535:Int))) then (idx (2:Int) (M.length:Int)<|idx (0:Int) (M.length:Int)<|idx (1:Int) ((M.set (0:Int).toNat (orI .u8 (224:Int) (IntKind.u8.wrap ((fC .i32 J (12:Int)))))).length:Int)<|idx (2:Int) (((M.set (0:Int).toNat (orI .u8 (224:Int) (IntKind.u8.wrap ((fC .i32 J (12:Int)))))).set (1:Int).toNat (orI .u8 (128:Int) (eB .u8 (IntKind.u8.wrap ((fC .i32 J (6:Int)))) (63:Int)))).length:Int)<|kr (((M.set (0:Int).toNat (orI .u8 (224:Int) (IntKind.u8.wrap ((fC .i32 J (12:Int)))))).set (1:Int).toNat (orI .u8 (128:Int) (eB .u8 (IntKind.u8.wrap ((fC .i32 J (6:Int)))) (63:Int)))).set (2:Int).toNat (orI .u8 (128:Int) (eB .u8 (IntKind.u8.wrap (J)) (63:Int)))) (3:Int)) else (bif (decide (D>(65535:Int))) then (bif (decide (D≤(1114111:Int))) then (idx (3:Int) (M.length:Int)<|idx (0:Int) (M.length:Int)<|idx (1:Int) ((M.set (0:Int).toNat (orI .u8 (240:Int) (IntKind.u8.wrap ((fC .i32 J (18:Int)))))).length:Int)<|idx (2:Int) (((M.set (0:Int).toNat (orI .u8 (240:Int) (IntKind.u8.wrap ((fC .i32 J (18:Int)))))).set (1:Int).toNat (orI .u8 (128:Int) (eB .u8 (IntKind.u8.wrap ((fC .i32 J (12:Int)))) (63:Int)))).length:Int)<|idx (3:Int) ((((M.set (0:Int).toNat (orI .u8 (240:Int) (IntKind.u8.wrap ((fC .i32 J (18:Int)))))).set (1:Int).toNat (orI .u8 (128:Int) (eB .u8 (IntKind.u8.wrap ((fC .i32 J (12:Int)))) (63:Int)))).set (2:Int).toNat (orI .u8 (128:Int) (eB .u8 (IntKind.u8.wrap ((fC .i32 J (6:Int)))) (63:Int)))).length:Int)<|kr ((((M.set (0:Int).toNat (orI .u8 (240:Int) (IntKind.u8.wrap ((fC .i32 J (18:Int)))))).set (1:Int).toNat (orI .u8 (128:Int) (eB .u8 (IntKind.u8.wrap ((fC .i32 J (12:Int)))) (63:Int)))).set (2:Int).toNat (orI .u8 (128:Int) (eB .u8 (IntKind.u8.wrap ((fC .i32 J (6:Int)))) (63:Int)))).set (3:Int).toNat (orI .u8 (128:Int) (eB .u8 (IntKind.u8.wrap (J)) (63:Int)))) (4:Int)) else (idx (2:Int) (M.length:Int)<|idx (0:Int) (M.length:Int)<|idx (1:Int) ((M.set (0:Int).toNat (239:Int)).length:Int)<|idx (2:Int) (((M.set (0:Int).toNat (239:Int)).set (1:Int).toNat (191:Int)).length:Int)<|kr (((M.set (0:Int).toNat (239:Int)).set (1:Int).toNat (191:Int)).set (2:Int).toNat (189:Int)) (3:Int))) else (idx (2:Int) (M.length:Int)<|idx (0:Int) (M.length:Int)<|idx (1:Int) ((M.set (0:Int).toNat (239:Int)).length:Int)<|idx (2:Int) (((M.set (0:Int).toNat (239:Int)).set (1:Int).toNat (191:Int)).length:Int)<|kr (((M.set (0:Int).toNat (239:Int)).set (1:Int).toNat (191:Int)).set (2:Int).toNat (189:Int)) (3:Int)))) else (bif (decide (D>(65535:Int))) then (bif (decide (D≤(1114111:Int))) then (idx (3:Int) (M.length:Int)<|idx (0:Int) (M.length:Int)<|idx (1:Int) ((M.set (0:Int).toNat (orI .u8 (240:Int) (IntKind.u8.wrap ((fC .i32 J (18:Int)))))).length:Int)<|idx (2:Int) (((M.set (0:Int).toNat (orI .u8 (240:Int) (IntKind.u8.wrap ((fC .i32 J (18:Int)))))).set (1:Int).toNat (orI .u8 (128:Int) (eB .u8 (IntKind.u8.wrap ((fC .i32 J (12:Int)))) (63:Int)))).length:Int)<|idx (3:Int) ((((M.set (0:Int).toNat (orI .u8 (240:Int) (IntKind.u8.wrap ((fC .i32 J (18:Int)))))).set (1:Int).toNat (orI .u8 (128:Int) (eB .u8 (IntKind.u8.wrap ((fC .i32 J (12:Int)))) (63:Int)))).set (2:Int).toNat (orI .u8 (128:Int) (eB .u8 (IntKind.u8.wrap ((fC .i32 J (6:Int)))) (63:Int)))).length:Int)<|kr ((((M.set (0:Int).toNat (orI .u8 (240:Int) (IntKind.u8.wrap ((fC .i32 J (18:Int)))))).set (1:Int).toNat (orI .u8 (128:Int) (eB .u8 (IntKind.u8.wrap ((fC .i32 J (12:Int)))) (63:Int)))).set (2:Int).toNat (orI .u8 (128:Int) (eB .u8 (IntKind.u8.wrap ((fC .i32 J (6:Int)))) (63:Int)))).set (3:Int).toNat (orI .u8 (128:Int) (eB .u8 (IntKind.u8.wrap (J)) (63:Int)))) (4:Int)) else (idx (2:Int) (M.length:Int)<|idx (0:Int) (M.length:Int)<|idx (1:Int) ((M.set (0:Int).toNat (239:Int)).length:Int)<|idx (2:Int) (((M.set (0:Int).toNat (239:Int)).set (1:Int).toNat (191:Int)).length:Int)<|kr (((M.set (0:Int).toNat (239:Int)).set (1:Int).toNat (191:Int)).set (2:Int).toNat (189:Int)) (3:Int))) else (idx (2:Int) (M.length:Int)<|idx (0:Int) (M.length:Int)<|idx (1:Int) ((M.set (0:Int).toNat (239:Int)).length:Int)<|idx (2:Int) (((M.set (0:Int).toNat (239:Int)).set (1:Int).toNat (191:Int)).length:Int)<|kr (((M.set (0:Int).toNat (239:Int)).set (1:Int).toNat (191:Int)).set (2:Int).toNat (189:Int)) (3:Int)))))
def bF7:FS1 β:=FXs (LU n) n PY none (some JJ) [] [28,29]
theorem bT9 (M:List Int) (J D:Int):bF7 n (VI M J D) cx=IA n (fun M v4=>cx.ret (XC M v4)) M J D:=by kernel_rfl
def MK (kr:List Int→Int→Option β) (M:List Int) (J D:Int):Option β:=IA n kr M J D
def bM9 (s:FState) (cx:Cx β):Option β:=bF7 n s {cx with ex:=fun j s=>bif Nat.beq j 0 then cx.nrm s else cx.ex j s}
theorem cD4 (M:List Int) (J D:Int):bM9 n (VI M J D) cx=MK n (fun M v4=>cx.ret (XC M v4)) M J D:=bT9 n _ M J D
def CJ (kr:List Int→Int→Option β) (M:List Int) (J:Int):Option β:=KX n (fun M J D=>MK n kr M J D) M J
def HR (s:FState) (cx:Cx β):Option β:=aX9 n s {cx with nrm:=fun s=>bM9 n s cx}
theorem cD6 (M:List Int) (J:Int):HR n (BP M J) cx=CJ n (fun M v4=>cx.ret (XC M v4)) M J:=by simp only [HR,CJ,bX7,cD4]
def dW1 (M:List Int) (J:Int):Option (DenR [.dat (.int .i64)]×DenR (bM [.io (.int .u8) 5,.dat (.int .i32)])):=CJ n (fun M v4=>some ((v4,()),(M,()))) M J
def oQ:List AK:=[.io (.int .u8) 5,.dat (.int .i32)]
def aO3:List RK:=[.dat (.int .i64)]
def eW8 (d:DenA oQ):Option (DenR aO3×DenR (bM oQ)):=dW1 n d.1 d.2.1
def dR0:Spec:=nS oQ aO3 (eW8 n)
def dU9:Sk:=(.nd (.fin none none none [] .leaf) (.nd (.fin none (some K4) none [] .leaf) (.nd (.nd (.fin none none (some JJ) [] .leaf) (.fin none none (some JJ) [] .leaf)) .leaf)))
theorem dR5 (s:FState) (cx:Cx β):FX (LU n) n PY dU9 s cx=HR n s cx:=by kernel_rfl
theorem dV1 (d:DenA oQ) (β:Type) (κ:FState→Option β):dO 0 0 (bM oQ) (gJ oQ 0) (toB oQ d) (mK oQ d) (fun s=>vG (LU n) T3 (rI oQ 0 s) κ)=κ (BP d.1 d.2.1):=by kernel_rfl
theorem eC7:Fit Tryd.prog 178 (dR0 n):=
  XX (Γ:=Γ0) (l:=dP7 n) (n:=n) (sk:=dU9) (nf:=T3) (m:=fun d=>BP d.1 d.2.1) (ts:=[(4,none)]) (fn:=Tryd.f178) (c:=PY) (by kernel_rfl) (by kernel_rfl) (by unfold aS;kernel_rfl) cF trivial aN (by kernel_rfl) (by kernel_rfl) (Nat.le_of_ble_eq_true (by kernel_rfl)) (Nat.le_of_ble_eq_true (by kernel_rfl)) (by kernel_rfl) (by kernel_rfl) (dV1 n)
    (fun d=>(dR5 n _ _).trans (Eq.trans (b:=HR n (BP d.1 d.2.1) (sV (LU n) oQ aO3 [(4,none)])) (by kernel_rfl) ((cD6 n _ d.1 d.2.1).trans (by kernel_rfl))))
def GR (M:List Int) (J:Int):FState:=⟨aI [(0,.sl 0 none false),(1,.dat (.int .i32) J)],aE [(0,.row (.int .u8) 5 true M)]⟩
def S7:List NE:=[.row 0 (.int .u8) 5 true,.keep 1]
def eF0 (M:List Int) (v4:Int):FState:=⟨aI [(0,.sl 0 none false),(4,.dat (.int .i64) v4)],aE [(0,.row (.int .u8) 5 true M)]⟩
def pR:List NE:=[.row 0 (.int .u8) 5 true,.keep 4]
def eC9:List (Nat×Spec):=[(178,dR0 n)]
def WU:Ctx:={Γ0 with calls:=lkS (eC9 n)}
def e9:Code:=fb Tryd.f159
def IN (kr:List Int→Int→Option β) (M:List Int) (J:Int):Option β:=bif (decide ((IntKind.u32.wrap (J))≤(127:Int))) then (idx (0:Int) (M.length:Int)<|kr (M.set (0:Int).toNat (IntKind.u8.wrap (J))) (1:Int)) else ((dW1 n M J).bind fun V=>kr V.2.1 V.1.1)
def UT:FS1 β:=FXs (WU n) n e9 none (some pR) [] [2,12,13,14,15]
theorem cG0 (M:List Int) (J:Int):UT n (GR M J) cx=IN n (fun M v4=>cx.ret (eF0 M v4)) M J:=by kernel_rfl
def T1 (M:List Int) (J:Int):Option (DenR [.dat (.int .i64)]×DenR (bM [.io (.int .u8) 5,.dat (.int .i32)])):=IN n (fun M v4=>some ((v4,()),(M,()))) M J
def oU:List AK:=[.io (.int .u8) 5,.dat (.int .i32)]
def Y6:List RK:=[.dat (.int .i64)]
def fA0 (d:DenA oU):Option (DenR Y6×DenR (bM oU)):=T1 n d.1 d.2.1
def dM4:Spec:=nS oU Y6 (fA0 n)
def dL3:Sk:=(.nd (.fin none none (some pR) [] .leaf) (.nd (.nd (.fin none none (some pR) [] .leaf) (.fin none none (some pR) [] .leaf)) (.nd (.fin none none (some pR) [] .leaf) (.fin none none (some pR) [] .leaf))))
theorem cP5 (s:FState) (cx:Cx β):FX (WU n) n e9 dL3 s cx=UT n s cx:=by kernel_rfl
theorem dQ4 (d:DenA oU) (β:Type) (κ:FState→Option β):dO 0 0 (bM oU) (gJ oU 0) (toB oU d) (mK oU d) (fun s=>vG (WU n) S7 (rI oU 0 s) κ)=κ (GR d.1 d.2.1):=by kernel_rfl
theorem cV5:Fit Tryd.prog 159 (dM4 n):=
  XX (Γ:=Γ0) (l:=eC9 n) (n:=n) (sk:=dL3) (nf:=S7) (m:=fun d=>GR d.1 d.2.1) (ts:=[(4,none)]) (fn:=Tryd.f159) (c:=e9) (by kernel_rfl) (by kernel_rfl) (by unfold aS;kernel_rfl) cF ⟨eC7 n,trivial⟩ aN (by kernel_rfl) (by kernel_rfl) (Nat.le_of_ble_eq_true (by kernel_rfl)) (Nat.le_of_ble_eq_true (by kernel_rfl)) (by kernel_rfl) (by kernel_rfl) (dQ4 n)
    (fun d=>(cP5 n _ _).trans (Eq.trans (b:=UT n (GR d.1 d.2.1) (sV (WU n) oU Y6 [(4,none)])) (by kernel_rfl) ((cG0 n _ d.1 d.2.1).trans (by kernel_rfl))))
def bK8 (Y:Int):FState:=⟨aI [(0,.dat (.int .i32) Y)],aE []⟩
def eN7 (R:Int):FState:=⟨aI [(2,.dat (.int .u32) R)],aE []⟩
def fU:List NE:=[.keep 2]
def cS5:List (Nat×Spec):=[(159,dM4 n)]
def W9:Ctx:={Γ0 with calls:=lkS (cS5 n)}
def d4:Code:=fb Tryd.f138
def q6 (kr:Int→Option β) (Y:Int):Option β:=bif (decide ((IntKind.u32.wrap (Y)) < (128:Int))) then (kr (IntKind.u32.wrap (Y))) else ((T1 n [(0:Int),(0:Int),(0:Int),(0:Int)] Y).bind fun V=>bif (V.1.1==(2:Int)) then (idx (0:Int) (V.2.1.length:Int)<|idx (1:Int) (V.2.1.length:Int)<|kr (orI .u32 (qI .u32 (IntKind.u32.wrap ((eB .u8 (rd V.2.1 (0:Int) (0:Int)) (31:Int)))) (6:Int)) (IntKind.u32.wrap ((eB .u8 (rd V.2.1 (1:Int) (0:Int)) (63:Int)))))) else (bif (V.1.1==(3:Int)) then (idx (0:Int) (V.2.1.length:Int)<|idx (1:Int) (V.2.1.length:Int)<|idx (2:Int) (V.2.1.length:Int)<|bif (decide ((orI .u32 (orI .u32 (qI .u32 (IntKind.u32.wrap ((eB .u8 (rd V.2.1 (0:Int) (0:Int)) (15:Int)))) (12:Int)) (qI .u32 (IntKind.u32.wrap ((eB .u8 (rd V.2.1 (1:Int) (0:Int)) (63:Int)))) (6:Int))) (IntKind.u32.wrap ((eB .u8 (rd V.2.1 (2:Int) (0:Int)) (63:Int)))))≥(57343:Int))) then (kr (IntKind.u32.wrap ((orI .u32 (orI .u32 (qI .u32 (IntKind.u32.wrap ((eB .u8 (rd V.2.1 (0:Int) (0:Int)) (15:Int)))) (12:Int)) (qI .u32 (IntKind.u32.wrap ((eB .u8 (rd V.2.1 (1:Int) (0:Int)) (63:Int)))) (6:Int))) (IntKind.u32.wrap ((eB .u8 (rd V.2.1 (2:Int) (0:Int)) (63:Int))))) - (2048:Int)))) else (kr (orI .u32 (orI .u32 (qI .u32 (IntKind.u32.wrap ((eB .u8 (rd V.2.1 (0:Int) (0:Int)) (15:Int)))) (12:Int)) (qI .u32 (IntKind.u32.wrap ((eB .u8 (rd V.2.1 (1:Int) (0:Int)) (63:Int)))) (6:Int))) (IntKind.u32.wrap ((eB .u8 (rd V.2.1 (2:Int) (0:Int)) (63:Int))))))) else (bif (V.1.1==(4:Int)) then (idx (0:Int) (V.2.1.length:Int)<|idx (1:Int) (V.2.1.length:Int)<|idx (2:Int) (V.2.1.length:Int)<|idx (3:Int) (V.2.1.length:Int)<|kr (IntKind.u32.wrap ((IntKind.u32.wrap ((orI .u32 (orI .u32 (orI .u32 (qI .u32 (IntKind.u32.wrap ((eB .u8 (rd V.2.1 (0:Int) (0:Int)) (7:Int)))) (18:Int)) (qI .u32 (IntKind.u32.wrap ((eB .u8 (rd V.2.1 (1:Int) (0:Int)) (63:Int)))) (12:Int))) (qI .u32 (IntKind.u32.wrap ((eB .u8 (rd V.2.1 (2:Int) (0:Int)) (63:Int)))) (6:Int))) (IntKind.u32.wrap ((eB .u8 (rd V.2.1 (3:Int) (0:Int)) (63:Int))))) - (2048:Int))) - (3:Int)))) else none)))
def WG:FS1 β:=FXs (W9 n) n d4 none (some fU) [] [2,6,28,29,30,62,252,253,508,509,1020,1021,511]
theorem bQ4 (Y:Int):WG n (bK8 Y) cx=q6 n (fun R=>cx.ret (eN7 R)) Y:=by kernel_rfl
def cR9 (Y:Int):Option (DenR [.dat (.int .u32)]):=q6 n (fun R=>some (R,())) Y
def dU8:List AK:=[.dat (.int .i32)]
def aJ1:List RK:=[.dat (.int .u32)]
def fB5 (d:DenA dU8):Option (DenR aJ1):=cR9 n d.1
def dX4:Spec:=aP dU8 aJ1 (fB5 n)
def dF0:Sk:=(.nd (.fin none none (some fU) [] .leaf) (.nd (.fin none none (some fU) [] .leaf) (.nd (.nd (.fin none none (some fU) [] .leaf) (.fin none none (some fU) [] .leaf)) (.nd (.fin none none (some fU) [] .leaf) (.nd (.fin none none (some fU) [] .leaf) (.nd (.nd (.fin none none (some fU) [] .leaf) (.fin none none (some fU) [] .leaf)) (.nd (.nd (.fin none none (some fU) [] .leaf) (.fin none none (some fU) [] .leaf)) (.nd (.nd (.fin none none (some fU) [] .leaf) (.fin none none (some fU) [] .leaf)) (.fin none none (some fU) [] .leaf)))))))))
theorem eC2 (s:FState) (cx:Cx β):FX (W9 n) n d4 dF0 s cx=WG n s cx:=by kernel_rfl
theorem dN1:Fit Tryd.prog 138 (dX4 n):=
  cH (Γ:=Γ0) (l:=cS5 n) (n:=n) (sk:=dF0) (ts:=[(2,none)]) (fn:=Tryd.f138) (c:=d4) (by kernel_rfl) (by kernel_rfl) (by unfold aS;kernel_rfl) cF ⟨cV5 n,trivial⟩ aN (by kernel_rfl) (by kernel_rfl) (Nat.le_of_ble_eq_true (by kernel_rfl)) (Nat.le_of_ble_eq_true (by kernel_rfl)) (by kernel_rfl) (by kernel_rfl)
    (fun d=>(eC2 n _ _).trans (Eq.trans (b:=WG n (bK8 d.1) (cN (W9 n) aJ1 [(2,none)])) (by kernel_rfl) ((bQ4 n _ d.1).trans (by kernel_rfl))))
def cZ2:List AK:=[.ro .str 9,.dat .str]
def eA9:List RK:=[.dat .str]
def eL3 (n:Nat) (Y:List BA) (J:BA):Option (DenR [.dat .str]):=if Y.length≤140737488355328∧(Lib.join (Y.map (·.data.toList)) J.data.toList).length≤140737488355328 then some (⟨(Lib.join (Y.map (·.data.toList)) J.data.toList).toArray⟩,()) else none
def eX7 (d:DenA cZ2):Option (DenR eA9):=eL3 n d.1 d.2.1
def cO2:Spec:=aP cZ2 eA9 (eX7 n)
theorem dI2:Fit Tryd.prog 139 (cO2 n):=R6 (by unfold aS;kernel_rfl) rfl fun d x w A vs hG ha hx=>by
  obtain ⟨v,vs',o1,o2,rfl,_,⟨_,ad,cap,rfl,hle,hne⟩,v',vs2,o3,o4,rfl,_,⟨_,cs,h1,h2⟩,h3,_⟩:=ha
  obtain ⟨xs,sep,u⟩:=d
  subst h3
  have h1:cs=[Value.string sep]:=h1
  subst h1
  simp [K.isPair] at h2
  subst h2
  obtain ⟨hc,hx⟩:=bN hx
  cases hx
  by_cases h0:xs=[]
  · subst h0
    exact (Tryd.strings_Join_none ad cap sep w).mono fun e w' ⟨he,hw⟩=>⟨[.string ⟨#[]⟩],he,⟨_,_,[],[],rfl,rfl,⟨rfl,_,rfl,rfl⟩,rfl,rfl⟩,hw ▸ Go.RowKit.Below.refl _ _⟩
  · obtain ⟨b,off,rfl,hb,hrow⟩:=hne h0
    exact (Tryd.strings_Join b off cap xs sep w (aE8 hrow) (hrow.lt h0) hc.1 hle hc.2).mono fun e w' ⟨he,hb⟩=>⟨[_],he,⟨_,_,[],[],rfl,rfl,⟨rfl,_,rfl,rfl⟩,rfl,rfl⟩,hb⟩
def UQ (C:Z11) (B:List Z26) (L:List BA):FState:=⟨aI [(0,.ptr 0 0 0),(1,.sl 1 none false),(2,.sl 2 none false)],aE [(0,.row Z1 106 false [C]),(1,.row Z22 115 false B),(2,.row .str 9 false L)]⟩
def aW2 (y:List Z26):FState:=⟨aI [(6,.sl 6 none false)],aE [(6,.row Z22 115 true y)]⟩
def JO:List NE:=[.row 6 Z22 115 true]
def gM (L:List BA) (x7 af:List Z26) (P O:Int):FState:=⟨aI [(2,.sl 2 none false),(7,.sl 7 none false),(17,.sl 17 none false),(18,.dat (.int .i64) P),(19,.dat (.int .i64) O)],aE [(2,.row .str 9 false L),(7,.row Z22 115 true x7),(17,.row Z22 115 false af)]⟩
def lX:List NE:=[.row 2 .str 9 false,.row 7 Z22 115 true,.row 17 Z22 115 false,.keep 18,.keep 19]
def uV (x7:List Z26):FState:=⟨aI [(7,.sl 7 none false)],aE [(7,.row Z22 115 true x7)]⟩
def IZ:List NE:=[.row 7 Z22 115 true]
def uN (L:List BA) (x7:List Z26) (p9:Z26) (ag:List BA) (af:List Z26) (P O:Int) (az:List Int) (ah ai:Int):FState:=⟨aI [(2,.sl 2 none false),(7,.sl 7 none false),(9,.ptr 9 0 0),(11,.sl 11 none false),(17,.sl 17 none false),(18,.dat (.int .i64) P),(19,.dat (.int .i64) O),(29,.sl 29 none false),(30,.dat (.int .i64) ah),(31,.dat (.int .i64) ai)],aE [(2,.row .str 9 false L),(7,.row Z22 115 true x7),(9,.row Z22 115 true [p9]),(11,.row .str 9 true ag),(17,.row Z22 115 false af),(29,.row (.int .i32) 21 true az)]⟩
def BB:List NE:=[.row 2 .str 9 false,.row 7 Z22 115 true,.ptr 9 Z22 115 true,.row 11 .str 9 true,.row 17 Z22 115 false,.keep 18,.keep 19,.row 29 (.int .i32) 21 true,.keep 30,.keep 31]
def xT (L:List BA) (x7:List Z26) (p9:Z26) (ag:List BA) (af:List Z26) (P O:Int):FState:=⟨aI [(2,.sl 2 none false),(7,.sl 7 none false),(9,.ptr 9 0 0),(11,.sl 11 none false),(17,.sl 17 none false),(18,.dat (.int .i64) P),(19,.dat (.int .i64) O)],aE [(2,.row .str 9 false L),(7,.row Z22 115 true x7),(9,.row Z22 115 true [p9]),(11,.row .str 9 true ag),(17,.row Z22 115 false af)]⟩
def sJ:List NE:=[.row 2 .str 9 false,.row 7 Z22 115 true,.ptr 9 Z22 115 true,.row 11 .str 9 true,.row 17 Z22 115 false,.keep 18,.keep 19]
def dM6:List (Nat×Spec):=[(138,dX4 n),(139,cO2 n)]
def qW:Ctx:={Γ0 with calls:=lkS (dM6 n)}
def qG:Code:=fb Tryd.f111
def aC2 (n:Nat) (kn:List BA→List Z26→List Z26→Int→Int→Option β) (C:Z11) (B:List Z26) (L:List BA):Option β:=bnd 0 (0:Int) (B.length:Int)<|vK (B.length:Int)<|kn L (List.replicate (0:Int).toNat Z17) B (B.length:Int) (0:Int)
def bJ9:FS1 β:=FXs (qW n) n qG (some lX) none [] [2,6,28]
theorem bY9 (C:Z11) (B:List Z26) (L:List BA):bJ9 n (UQ C B L) cx=aC2 n (fun L x7 af P O=>cx.nrm (gM L x7 af P O)) C B L:=by kernel_rfl
def UR (n:Nat) (kn:List BA→List Z26→List Z26→Int→Int→Option β) (ae:List Z26→Option β) (L:List BA) (x7 af:List Z26) (P O:Int):Option β:=bif (decide (O < P)) then (kn L x7 af P O) else (ae x7)
def bI5:FS1 β:=FXs (qW n) n qG (some lX) none [(0,IZ)] [232,466]
theorem cC6 (L:List BA) (x7 af:List Z26) (P O:Int):bI5 n (gM L x7 af P O) cx=UR n (fun L x7 af P O=>cx.nrm (gM L x7 af P O)) (fun x7=>cx.ex 0 (uV x7)) L x7 af P O:=by kernel_rfl
def V7 (n:Nat) (kn:List BA→List Z26→Z26→List BA→List Z26→Int→Int→List Int→Int→Int→Option β) (L:List BA) (x7 af:List Z26) (P O:Int):Option β:=idx O (af.length:Int)<|kK ((rd [(rd af O Z17)] (0:Int) Z17).2)<|bnd 0 ((bS ((rd [(rd af O Z17)] (0:Int) Z17).2)).length:Int) ((bS ((rd [(rd af O Z17)] (0:Int) Z17).2)).length:Int)<|vK ((bS ((rd [(rd af O Z17)] (0:Int) Z17).2)).length:Int)<|kn L x7 (rd af O Z17) (List.replicate ((bS ((rd [(rd af O Z17)] (0:Int) Z17).2)).length:Int).toNat (⟨#[]⟩:BA)) af P O (bS ((rd [(rd af O Z17)] (0:Int) Z17).2)) ((bS ((rd [(rd af O Z17)] (0:Int) Z17).2)).length:Int) (0:Int)
def bK7:FS1 β:=FXs (qW n) n qG (some BB) none [] [3736,7474,14950,59804]
theorem cD2 (L:List BA) (x7 af:List Z26) (P O:Int):bK7 n (gM L x7 af P O) cx=V7 n (fun L x7 p9 ag af P O az ah ai=>cx.nrm (uN L x7 p9 ag af P O az ah ai)) L x7 af P O:=by kernel_rfl
def RB (kn:List BA→List Z26→Z26→List BA→List Z26→Int→Int→List Int→Int→Int→Option β) (ap:List BA→List Z26→Z26→List BA→List Z26→Int→Int→Option β) (L:List BA) (x7:List Z26) (p9:Z26) (ag:List BA) (af:List Z26) (P O:Int) (az:List Int) (ah ai:Int):Option β:=bif (decide (ai < ah)) then (idx ai (az.length:Int)<|(cR9 n (rd az ai (0:Int))).bind fun V=>idx V.1 (L.length:Int)<|idx ai (ag.length:Int)<|kn L x7 p9 (ag.set ai.toNat (rd L V.1 (⟨#[]⟩:BA))) af P O az ah (w64 (ai+1))) else (ap L x7 p9 ag af P O)
def UF:FS1 β:=FXs (qW n) n qG (some BB) none [(2,sJ)] [478440,956882,1913766,1913767]
theorem cE5 (L:List BA) (x7:List Z26) (p9:Z26) (ag:List BA) (af:List Z26) (P O:Int) (az:List Int) (ah ai:Int):UF n (uN L x7 p9 ag af P O az ah ai) cx=RB n (fun L x7 p9 ag af P O az ah ai=>cx.nrm (uN L x7 p9 ag af P O az ah ai)) (fun L x7 p9 ag af P O=>cx.ex 2 (xT L x7 p9 ag af P O)) L x7 p9 ag af P O az ah ai:=by kernel_rfl
def g111_5L (n:Nat) (ap:List BA→List Z26→Z26→List BA→List Z26→Int→Int→Option β):Nat→List BA→List Z26→Z26→List BA→List Z26→Int→Int→List Int→Int→Int→Option β
  | 0,_,_,_,_,_,_,_,_,_,_=>none
  | m+1,L,x7,p9,ag,af,P,O,az,ah,ai=>RB n (g111_5L n ap m) ap L x7 p9 ag af P O az ah ai
def Y5 (ap:List BA→List Z26→Z26→List BA→List Z26→Int→Int→Option β) (L:List BA) (x7:List Z26) (p9:Z26) (ag:List BA) (af:List Z26) (P O:Int) (az:List Int) (ah ai:Int):Option β:=g111_5L n ap n L x7 p9 ag af P O az ah ai
def aZ0 (s:FState) (cx:Cx β):Option β:=bQ (fun again s=>UF n s {cx with nrm:=again}) n s
theorem aK3 (n:Nat) (cx:Cx β):∀(m:Nat) (L:List BA) (x7:List Z26) (p9:Z26) (ag:List BA) (af:List Z26) (P O:Int) (az:List Int) (ah ai:Int),bQ (fun again s=>UF n s {cx with nrm:=again}) m (uN L x7 p9 ag af P O az ah ai)=g111_5L n (fun L x7 p9 ag af P O=>cx.ex 2 (xT L x7 p9 ag af P O)) m L x7 p9 ag af P O az ah ai:=by
  intro m
  induction m with
  | zero=>intros;rfl
  | succ m ih=>intros;simp only [bQ,g111_5L,cE5,ih]
theorem cD0 (L:List BA) (x7:List Z26) (p9:Z26) (ag:List BA) (af:List Z26) (P O:Int) (az:List Int) (ah ai:Int):aZ0 n (uN L x7 p9 ag af P O az ah ai) cx=Y5 n (fun L x7 p9 ag af P O=>cx.ex 2 (xT L x7 p9 ag af P O)) L x7 p9 ag af P O az ah ai:=aK3 n cx n L x7 p9 ag af P O az ah ai
def aU0 (kn:List BA→List Z26→Z26→List BA→List Z26→Int→Int→Option β) (L:List BA) (x7:List Z26) (p9:Z26) (ag:List BA) (af:List Z26) (P O:Int) (az:List Int) (ah ai:Int):Option β:=Y5 n kn L x7 p9 ag af P O az ah ai
def bH2 (s:FState) (cx:Cx β):Option β:=aZ0 n s {cx with ex:=fun j s=>bif Nat.beq j 2 then cx.nrm s else cx.ex j s}
theorem cF4 (L:List BA) (x7:List Z26) (p9:Z26) (ag:List BA) (af:List Z26) (P O:Int) (az:List Int) (ah ai:Int):bH2 n (uN L x7 p9 ag af P O az ah ai) cx=aU0 n (fun L x7 p9 ag af P O=>cx.nrm (xT L x7 p9 ag af P O)) L x7 p9 ag af P O az ah ai:=cD0 n _ L x7 p9 ag af P O az ah ai
def aF4 (kn:List BA→List Z26→List Z26→Int→Int→Option β) (L:List BA) (x7:List Z26) (p9:Z26) (ag:List BA) (af:List Z26) (P O:Int):Option β:=(eL3 n ag (⟨#[]⟩:BA)).bind fun V=>cM (x7.length+[(p9.1,V.1)].length)<|kn L (x7++[(p9.1,V.1)]) af P O
def bG0:FS1 β:=FXs (qW n) n qG (some lX) none [] [59806,59807]
theorem cJ2 (L:List BA) (x7:List Z26) (p9:Z26) (ag:List BA) (af:List Z26) (P O:Int):bG0 n (xT L x7 p9 ag af P O) cx=aF4 n (fun L x7 af P O=>cx.nrm (gM L x7 af P O)) L x7 p9 ag af P O:=by kernel_rfl
def VJ (kn:List BA→List Z26→List Z26→Int→Int→Option β) (L:List BA) (x7 af:List Z26) (P O:Int):Option β:=V7 n (fun L x7 p9 ag af P O az ah ai=>aU0 n (fun L x7 p9 ag af P O=>aF4 n kn L x7 p9 ag af P O) L x7 p9 ag af P O az ah ai) L x7 af P O
def XA (s:FState) (cx:Cx β):Option β:=bK7 n s {cx with nrm:=fun s=>bH2 n s {cx with nrm:=fun s=>bG0 n s cx}}
theorem bS4 (L:List BA) (x7 af:List Z26) (P O:Int):XA n (gM L x7 af P O) cx=VJ n (fun L x7 af P O=>cx.nrm (gM L x7 af P O)) L x7 af P O:=by simp only [XA,VJ,cD2,cF4,cJ2]
def X9 (kn:List BA→List Z26→List Z26→Int→Int→Option β) (L:List BA) (x7 af:List Z26) (P O:Int):Option β:=VJ n kn L x7 af P O
def bB2 (s:FState) (cx:Cx β):Option β:=XA n s {cx with ex:=fun j s=>bif Nat.beq j 1 then cx.nrm s else cx.ex j s}
theorem bV5 (L:List BA) (x7 af:List Z26) (P O:Int):bB2 n (gM L x7 af P O) cx=X9 n (fun L x7 af P O=>cx.nrm (gM L x7 af P O)) L x7 af P O:=bS4 n _ L x7 af P O
def XH (n:Nat) (kn:List BA→List Z26→List Z26→Int→Int→Option β) (L:List BA) (x7 af:List Z26) (P O:Int):Option β:=kn L x7 af P (w64 (O+1))
def L6:FS1 β:=FXs (qW n) n qG (some lX) none [] [935]
theorem aU8 (L:List BA) (x7 af:List Z26) (P O:Int):L6 n (gM L x7 af P O) cx=XH n (fun L x7 af P O=>cx.nrm (gM L x7 af P O)) L x7 af P O:=by kernel_rfl
def xO (kn:List BA→List Z26→List Z26→Int→Int→Option β) (ae:List Z26→Option β) (L:List BA) (x7 af:List Z26) (P O:Int):Option β:=UR n (fun L x7 af P O=>X9 n (fun L x7 af P O=>XH n kn L x7 af P O) L x7 af P O) ae L x7 af P O
def BG (s:FState) (cx:Cx β):Option β:=bI5 n s {cx with nrm:=fun s=>bB2 n s {cx with nrm:=fun s=>L6 n s cx}}
theorem U2 (L:List BA) (x7 af:List Z26) (P O:Int):BG n (gM L x7 af P O) cx=xO n (fun L x7 af P O=>cx.nrm (gM L x7 af P O)) (fun x7=>cx.ex 0 (uV x7)) L x7 af P O:=by simp only [BG,xO,cC6,bV5,aU8]
def g111_12L (n:Nat) (ae:List Z26→Option β):Nat→List BA→List Z26→List Z26→Int→Int→Option β
  | 0,_,_,_,_,_=>none
  | m+1,L,x7,af,P,O=>xO n (g111_12L n ae m) ae L x7 af P O
def XO (ae:List Z26→Option β) (L:List BA) (x7 af:List Z26) (P O:Int):Option β:=g111_12L n ae n L x7 af P O
def J3 (s:FState) (cx:Cx β):Option β:=bQ (fun again s=>BG n s {cx with nrm:=again}) n s
theorem YY (n:Nat) (cx:Cx β):∀(m:Nat) (L:List BA) (x7 af:List Z26) (P O:Int),bQ (fun again s=>BG n s {cx with nrm:=again}) m (gM L x7 af P O)=g111_12L n (fun x7=>cx.ex 0 (uV x7)) m L x7 af P O:=by
  intro m
  induction m with
  | zero=>intros;rfl
  | succ m ih=>intros;simp only [bQ,g111_12L,U2,ih]
theorem h9 (L:List BA) (x7 af:List Z26) (P O:Int):J3 n (gM L x7 af P O) cx=XO n (fun x7=>cx.ex 0 (uV x7)) L x7 af P O:=YY n cx n L x7 af P O
def YM (kn:List Z26→Option β) (L:List BA) (x7 af:List Z26) (P O:Int):Option β:=XO n kn L x7 af P O
def H6 (s:FState) (cx:Cx β):Option β:=J3 n s {cx with ex:=fun j s=>bif Nat.beq j 0 then cx.nrm s else cx.ex j s}
theorem aO6 (L:List BA) (x7 af:List Z26) (P O:Int):H6 n (gM L x7 af P O) cx=YM n (fun x7=>cx.nrm (uV x7)) L x7 af P O:=h9 n _ L x7 af P O
def UJ (n:Nat) (kr:List Z26→Option β) (x7:List Z26):Option β:=kr x7
def B1:FS1 β:=FXs (qW n) n qG none (some JO) [] [30,31]
theorem aO4 (x7:List Z26):B1 n (uV x7) cx=UJ n (fun y=>cx.ret (aW2 y)) x7:=by kernel_rfl
def FL (kr:List Z26→Option β) (C:Z11) (B:List Z26) (L:List BA):Option β:=aC2 n (fun L x7 af P O=>YM n (fun x7=>UJ n kr x7) L x7 af P O) C B L
def AF (s:FState) (cx:Cx β):Option β:=bJ9 n s {cx with nrm:=fun s=>H6 n s {cx with nrm:=fun s=>B1 n s cx}}
theorem n5 (C:Z11) (B:List Z26) (L:List BA):AF n (UQ C B L) cx=FL n (fun y=>cx.ret (aW2 y)) C B L:=by simp only [AF,FL,bY9,aO6,aO4]
def dK2 (C:Z11) (B:List Z26) (L:List BA):Option (DenR [.rw Z22 115]):=FL n (fun y=>some (y,())) C B L
def cV9:List AK:=[.pro Z1 106,.ro Z22 115,.ro .str 9]
def aP3:List RK:=[.rw Z22 115]
def fA8 (d:DenA cV9):Option (DenR aP3):=dK2 n d.1 d.2.1 d.2.2.1
def dB6:Spec:=aP cV9 aP3 (fA8 n)
def cY6:Sk:=(.nd (.fin none none none [] .leaf) (.nd (.fin none none none [] .leaf) (.nd (.nd (.fin none (some lX) none [] .leaf) (.nd (.nd (.nd (.fin none none none [(0,IZ)] .leaf) (.nd (.fin none (some lX) none [(0,IZ)] .leaf) (.nd (.nd (.nd (.fin none none none [] .leaf) (.nd (.fin none none none [] .leaf) (.nd (.fin none none none [] .leaf) (.nd (.nd (.fin none (some BB) none [] .leaf) (.nd (.nd (.nd (.fin none none none [(2,sJ)] .leaf) (.nd (.fin none none none [(2,sJ)] .leaf) (.nd (.fin none none none [(2,sJ)] .leaf) (.fin none (some BB) none [(2,sJ)] .leaf)))) .leaf) .leaf)) (.nd (.fin none none none [] .leaf) (.fin none (some lX) none [] .leaf)))))) .leaf) (.fin none (some lX) none [] .leaf)))) .leaf) .leaf)) (.nd (.fin none none (some JO) [] .leaf) (.fin none none (some JO) [] .leaf)))))
theorem dY2 (s:FState) (cx:Cx β):FX (qW n) n qG cY6 s cx=AF n s cx:=by kernel_rfl
theorem dD2:Fit Tryd.prog 111 (dB6 n):=
  cH (Γ:=Γ0) (l:=dM6 n) (n:=n) (sk:=cY6) (ts:=[(6,none)]) (fn:=Tryd.f111) (c:=qG) (by kernel_rfl) (by kernel_rfl) (by unfold aS;kernel_rfl) cF ⟨dN1 n,dI2 n,trivial⟩ aN (by kernel_rfl) (by kernel_rfl) (Nat.le_of_ble_eq_true (by kernel_rfl)) (Nat.le_of_ble_eq_true (by kernel_rfl)) (by kernel_rfl) (by kernel_rfl)
    (fun d=>(dY2 n _ _).trans (Eq.trans (b:=AF n (UQ d.1 d.2.1 d.2.2.1) (cN (qW n) aP3 [(6,none)])) (by kernel_rfl) ((n5 n _ d.1 d.2.1 d.2.2.1).trans (by kernel_rfl))))
def U7 (Y:BA):FState:=⟨aI [(0,.dat .str Y)],aE []⟩
def wR (R:Int):FState:=⟨aI [(2,.dat (.int .i64) R)],aE []⟩
def qO:List NE:=[.keep 2]
def DB (R:Int) (s4:BA) (i4:Nat):FState:=⟨aI [(2,.dat (.int .i64) R),(4,.it 4)],aE [(4,.siter s4 i4)]⟩
def GF:List NE:=[.keep 2,.it 4]
def eT2 (n:Nat):List (Nat×Spec):=[]
def ZT:Ctx:={Γ0 with calls:=lkS (eT2 n)}
def P0:Code:=fb Tryd.f85
def cM9 (n:Nat) (kn:Int→BA→Nat→Option β) (Y:BA):Option β:=kn (0:Int) Y 0
def dO3:FS1 β:=FXs (ZT n) n P0 (some GF) none [] [2,12]
theorem dE6 (Y:BA):dO3 n (U7 Y) cx=cM9 n (fun R s4 i4=>cx.nrm (DB R s4 i4)) Y:=by kernel_rfl
def bB8 (n:Nat) (kn:Int→BA→Nat→Option β) (ae:Int→Option β) (R:Int) (s4:BA) (i4:Nat):Option β:=bif Nat.blt i4 s4.size then (kn (w64 (R+1)) s4 (i4+(Utf8.decode s4 i4).2)) else (ae R)
def W2:FS1 β:=FXs (ZT n) n P0 (some GF) none [(0,qO)] [104,210,211]
theorem cZ1 (R:Int) (s4:BA) (i4:Nat):W2 n (DB R s4 i4) cx=bB8 n (fun R s4 i4=>cx.nrm (DB R s4 i4)) (fun R=>cx.ex 0 (wR R)) R s4 i4:=by kernel_rfl
def g85_3L (n:Nat) (ae:Int→Option β):Nat→Int→BA→Nat→Option β
  | 0,_,_,_=>none
  | m+1,R,s4,i4=>bB8 n (g85_3L n ae m) ae R s4 i4
def cY7 (ae:Int→Option β) (R:Int) (s4:BA) (i4:Nat):Option β:=g85_3L n ae n R s4 i4
def cR6 (s:FState) (cx:Cx β):Option β:=bQ (fun again s=>W2 n s {cx with nrm:=again}) n s
theorem bS8 (n:Nat) (cx:Cx β):∀(m:Nat) (R:Int) (s4:BA) (i4:Nat),bQ (fun again s=>W2 n s {cx with nrm:=again}) m (DB R s4 i4)=g85_3L n (fun R=>cx.ex 0 (wR R)) m R s4 i4:=by
  intro m
  induction m with
  | zero=>intros;rfl
  | succ m ih=>intros;simp only [bQ,g85_3L,cZ1,ih]
theorem cS2 (R:Int) (s4:BA) (i4:Nat):cR6 n (DB R s4 i4) cx=cY7 n (fun R=>cx.ex 0 (wR R)) R s4 i4:=bS8 n cx n R s4 i4
def cM6 (kn:Int→Option β) (R:Int) (s4:BA) (i4:Nat):Option β:=cY7 n kn R s4 i4
def dP3 (s:FState) (cx:Cx β):Option β:=cR6 n s {cx with ex:=fun j s=>bif Nat.beq j 0 then cx.nrm s else cx.ex j s}
theorem dQ7 (R:Int) (s4:BA) (i4:Nat):dP3 n (DB R s4 i4) cx=cM6 n (fun R=>cx.nrm (wR R)) R s4 i4:=cS2 n _ R s4 i4
def dO0 (n:Nat) (kr:Int→Option β) (R:Int):Option β:=kr R
def cO0:FS1 β:=FXs (ZT n) n P0 none (some qO) [] [14,15]
theorem cU1 (R:Int):cO0 n (wR R) cx=dO0 n (fun R=>cx.ret (wR R)) R:=by kernel_rfl
def bL5 (kr:Int→Option β) (Y:BA):Option β:=cM9 n (fun R s4 i4=>cM6 n (fun R=>dO0 n kr R) R s4 i4) Y
def WA (s:FState) (cx:Cx β):Option β:=dO3 n s {cx with nrm:=fun s=>dP3 n s {cx with nrm:=fun s=>cO0 n s cx}}
theorem dS2 (Y:BA):WA n (U7 Y) cx=bL5 n (fun R=>cx.ret (wR R)) Y:=by simp only [WA,bL5,dE6,dQ7,cU1]
def g85 (Y:BA):Option (DenR [.dat (.int .i64)]):=bL5 n (fun R=>some (R,())) Y
def eV3:List AK:=[.dat .str]
def cO6:List RK:=[.dat (.int .i64)]
def fF6 (d:DenA eV3):Option (DenR cO6):=g85 n d.1
def eO8:Spec:=aP eV3 cO6 (fF6 n)
def eS7:Sk:=(.nd (.fin none none none [] .leaf) (.nd (.nd (.fin none (some GF) none [] .leaf) (.nd (.nd (.nd (.fin none none none [(0,qO)] .leaf) (.nd (.fin none none none [(0,qO)] .leaf) (.fin none (some GF) none [(0,qO)] .leaf))) .leaf) .leaf)) (.nd (.fin none none (some qO) [] .leaf) (.fin none none (some qO) [] .leaf))))
theorem eI6 (s:FState) (cx:Cx β):FX (ZT n) n P0 eS7 s cx=WA n s cx:=by kernel_rfl
theorem eJ3:Fit Tryd.prog 85 (eO8 n):=
  cH (Γ:=Γ0) (l:=eT2 n) (n:=n) (sk:=eS7) (ts:=[(2,none)]) (fn:=Tryd.f85) (c:=P0) (by kernel_rfl) (by kernel_rfl) (by unfold aS;kernel_rfl) cF trivial aN (by kernel_rfl) (by kernel_rfl) (Nat.le_of_ble_eq_true (by kernel_rfl)) (Nat.le_of_ble_eq_true (by kernel_rfl)) (by kernel_rfl) (by kernel_rfl)
    (fun d=>(eI6 n _ _).trans (Eq.trans (b:=WA n (U7 d.1) (cN (ZT n) cO6 [(2,none)])) (by kernel_rfl) ((dS2 n _ d.1).trans (by kernel_rfl))))
theorem eN0 (a b:Nat) (w:World):(callFunc 161 #[.float .f64 a,.float .f64 b]).run Tryd.prog w= .ok (.value (.float .f64 (RO a b))) w:=by
  rw [run_callFunc_extern (fn:=Tryd.f161) (e:=Extern.MathDim.pick "math.archMax" false .gt) (by rfl) (by rfl) (by rfl) (by kernel_rfl) (by kernel_rfl)]
  rfl
attribute [local go_sem] eN0
theorem s8 (a0 a1:Nat) (w:World):Calls Tryd.prog 140 #[.float .f64 a0,.float .f64 a1] w fun e w'=>e= .returned (.float .f64 (RO a0 a1))∧w'=w:=by
  go_enter Tryd.func140,Tryd.ntmps140
  go_wp2
  go_ret
  exact ⟨rfl,rfl⟩
def cQ2:List AK:=[.dat (.flt .f64),.dat (.flt .f64)]
def cN0:List RK:=[.dat (.flt .f64)]
def eJ4 (n Y J:Nat):Option (DenR [.dat (.flt .f64)]):=some (RO Y J,())
def fB4 (d:DenA cQ2):Option (DenR cN0):=eJ4 n d.1 d.2.1
def dS5:Spec:=aP cQ2 cN0 (fB4 n)
theorem cU2:Fit Tryd.prog 140 (dS5 n):=zJ (by unfold aS;kernel_rfl) rfl fun d x w vs hG ha hx=>by
  obtain ⟨v,vs1,o1,o2,rfl,_,⟨_,cs,h1,h2⟩,v',vs2,o3,o4,rfl,_,⟨_,cs',h3,h4⟩,h5,_⟩:=ha
  obtain ⟨a,b,u⟩:=d
  subst h5
  have h1:cs=[Value.float .f64 a]:=h1
  have h3:cs'=[Value.float .f64 b]:=h3
  subst h1
  subst h3
  simp [K.isPair] at h2 h4
  subst h2
  subst h4
  cases hx
  exact (s8 a b w).mono fun e w' ⟨he,hw⟩=>⟨[.float .f64 (RO a b)],he,⟨_,_,[],[],rfl,rfl,⟨rfl,_,rfl,rfl⟩,rfl,rfl⟩,by rw [hw];exact ⟨rfl,rfl,rfl,Nat.le_refl _,fun _ _=>rfl⟩⟩
def WJ (M:List Z26) (J R:Int) (z:List Z26):FState:=⟨aI [(0,.sl 0 none false),(1,.dat (.int .i64) J),(2,.dat (.int .i64) R),(3,.sl 3 none false)],aE [(0,.row Z22 115 true M),(3,.row Z22 115 false z)]⟩
def tE (X:List Z26):FState:=⟨aI [(8,.sl 8 none false)],aE [(8,.row Z22 115 true X)]⟩
def gR:List NE:=[.row 8 Z22 115 true]
def xY (M:List Z26) (J R:Int) (z:List Z26) (be:Bool):FState:=⟨aI [(0,.sl 0 none false),(1,.dat (.int .i64) J),(2,.dat (.int .i64) R),(3,.sl 3 none false),(26,.dat .bool be)],aE [(0,.row Z22 115 true M),(3,.row Z22 115 false z)]⟩
def R0:List NE:=[.row 0 Z22 115 true,.keep 1,.keep 2,.row 3 Z22 115 false,.keep 26]
def nX (M:List Z26) (J R:Int) (z:List Z26):FState:=⟨aI [(0,.sl 0 none false),(1,.dat (.int .i64) J),(2,.dat (.int .i64) R),(3,.sl 3 none false)],aE [(0,.row Z22 115 true M),(3,.row Z22 115 false z)]⟩
def pS:List NE:=[.row 0 Z22 115 true,.keep 1,.keep 2,.row 3 Z22 115 false]
def uH (M:List Z26) (F ba bb bc aq:Int):FState:=⟨aI [(0,.sl 0 none false),(9,.dat (.int .i64) F),(10,.sl 0 (some (ba,bb)) false),(55,.dat (.int .i64) bc),(56,.dat (.int .i64) aq)],aE [(0,.row Z22 115 true M)]⟩
def BK:List NE:=[.row 0 Z22 115 true,.keep 9,.row 10 Z22 115 true,.keep 55,.keep 56]
def xZ (M:List Z26) (F:Int):FState:=⟨aI [(0,.sl 0 none false),(9,.dat (.int .i64) F)],aE [(0,.row Z22 115 true M)]⟩
def sB:List NE:=[.row 0 Z22 115 true,.keep 9]
def uE (M:List Z26) (J R:Int) (z:List Z26) (N:Int):FState:=⟨aI [(0,.sl 0 none false),(1,.dat (.int .i64) J),(2,.dat (.int .i64) R),(3,.sl 3 none false),(12,.dat (.int .i64) N)],aE [(0,.row Z22 115 true M),(3,.row Z22 115 false z)]⟩
def BX:List NE:=[.row 0 Z22 115 true,.keep 1,.keep 2,.row 3 Z22 115 false,.keep 12]
def dP1 (n:Nat):List (Nat×Spec):=[]
def oJ:Ctx:={Γ0 with calls:=lkS (dP1 n)}
def nN:Code:=fb Tryd.f113
def aM9 (n:Nat) (kn:List Z26→Int→Int→List Z26→Bool→Option β) (kr:List Z26→Option β) (M:List Z26) (J R:Int) (z:List Z26):Option β:=bif ((z.length:Int)==R) then (bnd J (M.length:Int) (M.length:Int)<|kr (bI M (J+(0:Int)) ((M.length:Int) - J) z)) else (kn M J R z (decide ((z.length:Int) < R)))
def bC1:FS1 β:=FXs (oJ n) n nN (some R0) (some gR) [] [2,12,13,28]
theorem cH6 (M:List Z26) (J R:Int) (z:List Z26):bC1 n (WJ M J R z) cx=aM9 n (fun M J R z be=>cx.nrm (xY M J R z be)) (fun X=>cx.ret (tE X)) M J R z:=by kernel_rfl
def l8 (n:Nat) (kn:List Z26→Int→Int→Int→Int→Int→Option β) (M:List Z26) (J R:Int) (z:List Z26) (be:Bool):Option β:=bnd J (M.length:Int) (M.length:Int)<|bnd (w64 (J+(z.length:Int))) ((bI M (J+(0:Int)) ((M.length:Int) - J) z).length:Int) ((bI M (J+(0:Int)) ((M.length:Int) - J) z).length:Int)<|bnd (w64 (J+R)) ((bI M (J+(0:Int)) ((M.length:Int) - J) z).length:Int) ((bI M (J+(0:Int)) ((M.length:Int) - J) z).length:Int)<|bnd (w64 ((w64 (((bI (bI M (J+(0:Int)) ((M.length:Int) - J) z) ((w64 (J+(z.length:Int)))+(0:Int)) (((bI M (J+(0:Int)) ((M.length:Int) - J) z).length:Int) - (w64 (J+(z.length:Int)))) (cut (bI M (J+(0:Int)) ((M.length:Int) - J) z) (w64 (J+R)) ((w64 (J+R))+(((bI M (J+(0:Int)) ((M.length:Int) - J) z).length:Int) - (w64 (J+R)))))).length:Int) - R))+(z.length:Int))) ((bI (bI M (J+(0:Int)) ((M.length:Int) - J) z) ((w64 (J+(z.length:Int)))+(0:Int)) (((bI M (J+(0:Int)) ((M.length:Int) - J) z).length:Int) - (w64 (J+(z.length:Int)))) (cut (bI M (J+(0:Int)) ((M.length:Int) - J) z) (w64 (J+R)) ((w64 (J+R))+(((bI M (J+(0:Int)) ((M.length:Int) - J) z).length:Int) - (w64 (J+R)))))).length:Int) ((bI (bI M (J+(0:Int)) ((M.length:Int) - J) z) ((w64 (J+(z.length:Int)))+(0:Int)) (((bI M (J+(0:Int)) ((M.length:Int) - J) z).length:Int) - (w64 (J+(z.length:Int)))) (cut (bI M (J+(0:Int)) ((M.length:Int) - J) z) (w64 (J+R)) ((w64 (J+R))+(((bI M (J+(0:Int)) ((M.length:Int) - J) z).length:Int) - (w64 (J+R)))))).length:Int)<|kn (bI (bI M (J+(0:Int)) ((M.length:Int) - J) z) ((w64 (J+(z.length:Int)))+(0:Int)) (((bI M (J+(0:Int)) ((M.length:Int) - J) z).length:Int) - (w64 (J+(z.length:Int)))) (cut (bI M (J+(0:Int)) ((M.length:Int) - J) z) (w64 (J+R)) ((w64 (J+R))+(((bI M (J+(0:Int)) ((M.length:Int) - J) z).length:Int) - (w64 (J+R)))))) (w64 ((w64 (((bI (bI M (J+(0:Int)) ((M.length:Int) - J) z) ((w64 (J+(z.length:Int)))+(0:Int)) (((bI M (J+(0:Int)) ((M.length:Int) - J) z).length:Int) - (w64 (J+(z.length:Int)))) (cut (bI M (J+(0:Int)) ((M.length:Int) - J) z) (w64 (J+R)) ((w64 (J+R))+(((bI M (J+(0:Int)) ((M.length:Int) - J) z).length:Int) - (w64 (J+R)))))).length:Int) - R))+(z.length:Int))) (w64 ((w64 (((bI (bI M (J+(0:Int)) ((M.length:Int) - J) z) ((w64 (J+(z.length:Int)))+(0:Int)) (((bI M (J+(0:Int)) ((M.length:Int) - J) z).length:Int) - (w64 (J+(z.length:Int)))) (cut (bI M (J+(0:Int)) ((M.length:Int) - J) z) (w64 (J+R)) ((w64 (J+R))+(((bI M (J+(0:Int)) ((M.length:Int) - J) z).length:Int) - (w64 (J+R)))))).length:Int) - R))+(z.length:Int))) (((bI (bI M (J+(0:Int)) ((M.length:Int) - J) z) ((w64 (J+(z.length:Int)))+(0:Int)) (((bI M (J+(0:Int)) ((M.length:Int) - J) z).length:Int) - (w64 (J+(z.length:Int)))) (cut (bI M (J+(0:Int)) ((M.length:Int) - J) z) (w64 (J+R)) ((w64 (J+R))+(((bI M (J+(0:Int)) ((M.length:Int) - J) z).length:Int) - (w64 (J+R)))))).length:Int) - (w64 ((w64 (((bI (bI M (J+(0:Int)) ((M.length:Int) - J) z) ((w64 (J+(z.length:Int)))+(0:Int)) (((bI M (J+(0:Int)) ((M.length:Int) - J) z).length:Int) - (w64 (J+(z.length:Int)))) (cut (bI M (J+(0:Int)) ((M.length:Int) - J) z) (w64 (J+R)) ((w64 (J+R))+(((bI M (J+(0:Int)) ((M.length:Int) - J) z).length:Int) - (w64 (J+R)))))).length:Int) - R))+(z.length:Int)))) (((bI (bI M (J+(0:Int)) ((M.length:Int) - J) z) ((w64 (J+(z.length:Int)))+(0:Int)) (((bI M (J+(0:Int)) ((M.length:Int) - J) z).length:Int) - (w64 (J+(z.length:Int)))) (cut (bI M (J+(0:Int)) ((M.length:Int) - J) z) (w64 (J+R)) ((w64 (J+R))+(((bI M (J+(0:Int)) ((M.length:Int) - J) z).length:Int) - (w64 (J+R)))))).length:Int) - (w64 ((w64 (((bI (bI M (J+(0:Int)) ((M.length:Int) - J) z) ((w64 (J+(z.length:Int)))+(0:Int)) (((bI M (J+(0:Int)) ((M.length:Int) - J) z).length:Int) - (w64 (J+(z.length:Int)))) (cut (bI M (J+(0:Int)) ((M.length:Int) - J) z) (w64 (J+R)) ((w64 (J+R))+(((bI M (J+(0:Int)) ((M.length:Int) - J) z).length:Int) - (w64 (J+R)))))).length:Int) - R))+(z.length:Int)))) (0:Int)
def bK9:FS1 β:=FXs (oJ n) n nN (some BK) none [] [116,234,470,942,3772]
theorem cK8 (M:List Z26) (J R:Int) (z:List Z26) (be:Bool):bK9 n (xY M J R z be) cx=l8 n (fun M F ba bb bc aq=>cx.nrm (uH M F ba bb bc aq)) M J R z be:=by kernel_rfl
def UO (n:Nat) (kn:List Z26→Int→Int→Int→Int→Int→Option β) (ae:List Z26→Int→Option β) (M:List Z26) (F ba bb bc aq:Int):Option β:=bif (decide (aq < bc)) then (idx aq bb<|kn (M.set (ba+aq).toNat Z17) F ba bb bc (w64 (aq+1))) else (ae M F)
def QE:FS1 β:=FXs (oJ n) n nN (some BK) none [(0,sB)] [30184,60370,120742,120743]
theorem bS7 (M:List Z26) (F ba bb bc aq:Int):QE n (uH M F ba bb bc aq) cx=UO n (fun M F ba bb bc aq=>cx.nrm (uH M F ba bb bc aq)) (fun M F=>cx.ex 0 (xZ M F)) M F ba bb bc aq:=by kernel_rfl
def g113_4L (n:Nat) (ae:List Z26→Int→Option β):Nat→List Z26→Int→Int→Int→Int→Int→Option β
  | 0,_,_,_,_,_,_=>none
  | m+1,M,F,ba,bb,bc,aq=>UO n (g113_4L n ae m) ae M F ba bb bc aq
def aL6 (ae:List Z26→Int→Option β) (M:List Z26) (F ba bb bc aq:Int):Option β:=g113_4L n ae n M F ba bb bc aq
def bI6 (s:FState) (cx:Cx β):Option β:=bQ (fun again s=>QE n s {cx with nrm:=again}) n s
theorem s9 (n:Nat) (cx:Cx β):∀(m:Nat) (M:List Z26) (F ba bb bc aq:Int),bQ (fun again s=>QE n s {cx with nrm:=again}) m (uH M F ba bb bc aq)=g113_4L n (fun M F=>cx.ex 0 (xZ M F)) m M F ba bb bc aq:=by
  intro m
  induction m with
  | zero=>intros;rfl
  | succ m ih=>intros;simp only [bQ,g113_4L,bS7,ih]
theorem bP9 (M:List Z26) (F ba bb bc aq:Int):bI6 n (uH M F ba bb bc aq) cx=aL6 n (fun M F=>cx.ex 0 (xZ M F)) M F ba bb bc aq:=s9 n cx n M F ba bb bc aq
def aE6 (kn:List Z26→Int→Option β) (M:List Z26) (F ba bb bc aq:Int):Option β:=aL6 n kn M F ba bb bc aq
def aZ6 (s:FState) (cx:Cx β):Option β:=bI6 n s {cx with ex:=fun j s=>bif Nat.beq j 0 then cx.nrm s else cx.ex j s}
theorem bV0 (M:List Z26) (F ba bb bc aq:Int):aZ6 n (uH M F ba bb bc aq) cx=aE6 n (fun M F=>cx.nrm (xZ M F)) M F ba bb bc aq:=bP9 n _ M F ba bb bc aq
def RW (n:Nat) (kr:List Z26→Option β) (M:List Z26) (F:Int):Option β:=bnd (0:Int) F (M.length:Int)<|kr (cut M (0:Int) ((0:Int)+(F - (0:Int))))
def bL2:FS1 β:=FXs (oJ n) n nN none (some gR) [] [3774,3775]
theorem cI2 (M:List Z26) (F:Int):bL2 n (xZ M F) cx=RW n (fun X=>cx.ret (tE X)) M F:=by kernel_rfl
def UI (kr:List Z26→Option β) (M:List Z26) (J R:Int) (z:List Z26) (be:Bool):Option β:=l8 n (fun M F ba bb bc aq=>aE6 n (fun M F=>RW n kr M F) M F ba bb bc aq) M J R z be
def WZ (s:FState) (cx:Cx β):Option β:=bK9 n s {cx with nrm:=fun s=>aZ6 n s {cx with nrm:=fun s=>bL2 n s cx}}
theorem bX3 (M:List Z26) (J R:Int) (z:List Z26) (be:Bool):WZ n (xY M J R z be) cx=UI n (fun X=>cx.ret (tE X)) M J R z be:=by simp only [WZ,UI,cK8,bV0,cI2]
def aU9 (n:Nat) (kn:List Z26→Int→Int→List Z26→Option β) (M:List Z26) (J R:Int) (z:List Z26) (be:Bool):Option β:=kn M J R z
def bN5:FS1 β:=FXs (oJ n) n nN (some pS) none [] [59]
theorem bW8 (M:List Z26) (J R:Int) (z:List Z26) (be:Bool):bN5 n (xY M J R z be) cx=aU9 n (fun M J R z=>cx.nrm (nX M J R z)) M J R z be:=by kernel_rfl
def XJ (kn:List Z26→Int→Int→List Z26→Option β) (kr:List Z26→Option β) (M:List Z26) (J R:Int) (z:List Z26) (be:Bool):Option β:=bif be then UI n kr M J R z be else aU9 n kn M J R z be
def TW (s:FState) (cx:Cx β):Option β:=asBool (ev s (kT (nav nN [1,1,0,1]))) fun t=>cond t (WZ n s cx) (bN5 n s cx)
theorem bU5 (M:List Z26) (J R:Int) (z:List Z26) (be:Bool):TW n (xY M J R z be) cx=XJ n (fun M J R z=>cx.nrm (nX M J R z)) (fun X=>cx.ret (tE X)) M J R z be:=by
  simp only [TW,XJ,bX3,bW8]
  kernel_rfl
def UG (n:Nat) (kn:List Z26→Int→Int→List Z26→Int→Option β) (M:List Z26) (J R:Int) (z:List Z26):Option β:=kn M J R z (w64 ((w64 ((M.length:Int) - R))+(z.length:Int)))
def J7:FS1 β:=FXs (oJ n) n nN (some BX) none [] [30]
theorem aU5 (M:List Z26) (J R:Int) (z:List Z26):J7 n (nX M J R z) cx=UG n (fun M J R z N=>cx.nrm (uE M J R z N)) M J R z:=by kernel_rfl
def GO (n:Nat) (kn:List Z26→Int→Int→List Z26→Int→Option β) (ap:List Z26→Int→Int→List Z26→Option β) (M:List Z26) (J R:Int) (z:List Z26) (N:Int):Option β:=bif (decide ((M.length:Int) < N)) then (cM (M.length+[Z17].length)<|kn (M++[Z17]) J R z N) else (ap M J R z)
def IU:FS1 β:=FXs (oJ n) n nN (some BX) none [(2,pS)] [992,993,497]
theorem aH6 (M:List Z26) (J R:Int) (z:List Z26) (N:Int):IU n (uE M J R z N) cx=GO n (fun M J R z N=>cx.nrm (uE M J R z N)) (fun M J R z=>cx.ex 2 (nX M J R z)) M J R z N:=by kernel_rfl
def g113_12L (n:Nat) (ap:List Z26→Int→Int→List Z26→Option β):Nat→List Z26→Int→Int→List Z26→Int→Option β
  | 0,_,_,_,_,_=>none
  | m+1,M,J,R,z,N=>GO n (g113_12L n ap m) ap M J R z N
def SL (ap:List Z26→Int→Int→List Z26→Option β) (M:List Z26) (J R:Int) (z:List Z26) (N:Int):Option β:=g113_12L n ap n M J R z N
def C8 (s:FState) (cx:Cx β):Option β:=bQ (fun again s=>IU n s {cx with nrm:=again}) n s
theorem ZW (n:Nat) (cx:Cx β):∀(m:Nat) (M:List Z26) (J R:Int) (z:List Z26) (N:Int),bQ (fun again s=>IU n s {cx with nrm:=again}) m (uE M J R z N)=g113_12L n (fun M J R z=>cx.ex 2 (nX M J R z)) m M J R z N:=by
  intro m
  induction m with
  | zero=>intros;rfl
  | succ m ih=>intros;simp only [bQ,g113_12L,aH6,ih]
theorem aM0 (M:List Z26) (J R:Int) (z:List Z26) (N:Int):C8 n (uE M J R z N) cx=SL n (fun M J R z=>cx.ex 2 (nX M J R z)) M J R z N:=ZW n cx n M J R z N
def TM (kn:List Z26→Int→Int→List Z26→Option β) (M:List Z26) (J R:Int) (z:List Z26) (N:Int):Option β:=SL n kn M J R z N
def A9 (s:FState) (cx:Cx β):Option β:=C8 n s {cx with ex:=fun j s=>bif Nat.beq j 2 then cx.nrm s else cx.ex j s}
theorem aN6 (M:List Z26) (J R:Int) (z:List Z26) (N:Int):A9 n (uE M J R z N) cx=TM n (fun M J R z=>cx.nrm (nX M J R z)) M J R z N:=aM0 n _ M J R z N
def HQ (n:Nat) (kr:List Z26→Option β) (M:List Z26) (J R:Int) (z:List Z26):Option β:=bnd (w64 (J+(z.length:Int))) (M.length:Int) (M.length:Int)<|bnd (w64 (J+R)) (M.length:Int) (M.length:Int)<|bnd J ((bI M ((w64 (J+(z.length:Int)))+(0:Int)) ((M.length:Int) - (w64 (J+(z.length:Int)))) (cut M (w64 (J+R)) ((w64 (J+R))+((M.length:Int) - (w64 (J+R)))))).length:Int) ((bI M ((w64 (J+(z.length:Int)))+(0:Int)) ((M.length:Int) - (w64 (J+(z.length:Int)))) (cut M (w64 (J+R)) ((w64 (J+R))+((M.length:Int) - (w64 (J+R)))))).length:Int)<|kr (bI (bI M ((w64 (J+(z.length:Int)))+(0:Int)) ((M.length:Int) - (w64 (J+(z.length:Int)))) (cut M (w64 (J+R)) ((w64 (J+R))+((M.length:Int) - (w64 (J+R)))))) (J+(0:Int)) (((bI M ((w64 (J+(z.length:Int)))+(0:Int)) ((M.length:Int) - (w64 (J+(z.length:Int)))) (cut M (w64 (J+R)) ((w64 (J+R))+((M.length:Int) - (w64 (J+R)))))).length:Int) - J) z)
def S6:FS1 β:=FXs (oJ n) n nN none (some gR) [] [126,254,510,511]
theorem g9 (M:List Z26) (J R:Int) (z:List Z26):S6 n (nX M J R z) cx=HQ n (fun X=>cx.ret (tE X)) M J R z:=by kernel_rfl
def HM (kr:List Z26→Option β) (M:List Z26) (J R:Int) (z:List Z26):Option β:=aM9 n (fun M J R z be=>XJ n (fun M J R z=>UG n (fun M J R z N=>TM n (fun M J R z=>HQ n kr M J R z) M J R z N) M J R z) kr M J R z be) kr M J R z
def AY (s:FState) (cx:Cx β):Option β:=bC1 n s {cx with nrm:=fun s=>TW n s {cx with nrm:=fun s=>J7 n s {cx with nrm:=fun s=>A9 n s {cx with nrm:=fun s=>S6 n s cx}}}}
theorem aM1 (M:List Z26) (J R:Int) (z:List Z26):AY n (WJ M J R z) cx=HM n (fun X=>cx.ret (tE X)) M J R z:=by simp only [AY,HM,cH6,bU5,aU5,aN6,g9]
def qN (M:List Z26) (J R:Int) (z:List Z26):Option (DenR [.rw Z22 115]):=HM n (fun X=>some (X,())) M J R z
def dE2:List AK:=[.rw Z22 115,.dat (.int .i64),.dat (.int .i64),.ro Z22 115]
def aE2:List RK:=[.rw Z22 115]
def eX8 (d:DenA dE2):Option (DenR aE2):=qN n d.1 d.2.1 d.2.2.1 d.2.2.2.1
def KJ:Spec:=aP dE2 aE2 (eX8 n)
def cM2:Sk:=(.nd (.fin none none (some gR) [] .leaf) (.nd (.nd (.fin none none (some gR) [] .leaf) (.fin none none (some gR) [] .leaf)) (.nd (.nd (.fin none (some R0) (some gR) [] .leaf) (.nd (.nd (.fin none none none [] .leaf) (.nd (.fin none none none [] .leaf) (.nd (.fin none none none [] .leaf) (.nd (.fin none none none [] .leaf) (.nd (.nd (.fin none (some BK) none [] .leaf) (.nd (.nd (.nd (.fin none none none [(0,sB)] .leaf) (.nd (.fin none none none [(0,sB)] .leaf) (.nd (.fin none none none [(0,sB)] .leaf) (.fin none (some BK) none [(0,sB)] .leaf)))) .leaf) .leaf)) (.nd (.fin none none (some gR) [] .leaf) (.fin none none (some gR) [] .leaf))))))) (.fin none (some pS) none [] .leaf))) (.nd (.fin none (some BX) none [] .leaf) (.nd (.nd (.nd (.nd (.nd (.fin none none none [(2,pS)] .leaf) (.fin none none none [(2,pS)] .leaf)) (.fin none (some BX) none [(2,pS)] .leaf)) .leaf) .leaf) (.nd (.fin none none (some gR) [] .leaf) (.nd (.fin none none (some gR) [] .leaf) (.nd (.fin none none (some gR) [] .leaf) (.fin none none (some gR) [] .leaf)))))))))
theorem cP9 (s:FState) (cx:Cx β):FX (oJ n) n nN cM2 s cx=AY n s cx:=by kernel_rfl
theorem zC:Fit Tryd.prog 113 (KJ n):=
  cH (Γ:=Γ0) (l:=dP1 n) (n:=n) (sk:=cM2) (ts:=[(8,none)]) (fn:=Tryd.f113) (c:=nN) (by kernel_rfl) (by kernel_rfl) (by unfold aS;kernel_rfl) cF trivial aN (by kernel_rfl) (by kernel_rfl) (Nat.le_of_ble_eq_true (by kernel_rfl)) (Nat.le_of_ble_eq_true (by kernel_rfl)) (by kernel_rfl) (by kernel_rfl)
    (fun d=>(cP9 n _ _).trans (Eq.trans (b:=AY n (WJ d.1 d.2.1 d.2.2.1 d.2.2.2.1) (cN (oJ n) aE2 [(8,none)])) (by kernel_rfl) ((aM1 n _ d.1 d.2.1 d.2.2.1 d.2.2.2.1).trans (by kernel_rfl))))
def TZ (M B:List Int):FState:=⟨aI [(0,.sl 0 none false),(1,.sl 1 none false)],aE [(0,.row (.int .i32) 21 false M),(1,.row (.int .i32) 21 false B)]⟩
def tV (v4:Int):FState:=⟨aI [(4,.dat (.int .i64) v4)],aE []⟩
def lR:List NE:=[.keep 4]
def tP (M B:List Int) (D:Int):FState:=⟨aI [(0,.sl 0 none false),(1,.sl 1 none false),(5,.dat (.int .i64) D)],aE [(0,.row (.int .i32) 21 false M),(1,.row (.int .i32) 21 false B)]⟩
def wZ:List NE:=[.row 0 (.int .i32) 21 false,.row 1 (.int .i32) 21 false,.keep 5]
def zM (D:Int):FState:=⟨aI [(5,.dat (.int .i64) D)],aE []⟩
def sM:List NE:=[.keep 5]
def dS6 (n:Nat):List (Nat×Spec):=[]
def KY:Ctx:={Γ0 with calls:=lkS (dS6 n)}
def HZ:Code:=fb Tryd.f134
def dI7 (n:Nat) (kn:List Int→List Int→Int→Option β) (M B:List Int):Option β:=kn M B (0:Int)
def aW5:FS1 β:=FXs (KY n) n HZ (some wZ) none [] [2,6]
theorem bV7 (M B:List Int):aW5 n (TZ M B) cx=dI7 n (fun M B D=>cx.nrm (tP M B D)) M B:=by kernel_rfl
def aJ0 (n:Nat) (kn:List Int→List Int→Int→Option β) (kr ae:Int→Option β) (M B:List Int) (D:Int):Option β:=bif (decide (D < (M.length:Int))) then (bif (decide (D < (B.length:Int))) then (idx D (M.length:Int)<|idx D (B.length:Int)<|bif ((rd M D (0:Int))!=(rd B D (0:Int))) then (kr D) else (kn M B (w64 (D+1)))) else (ae D)) else (ae D)
def VZ:FS1 β:=FXs (KY n) n HZ (some wZ) (some lR) [(0,sM)] [224,225,226,227]
theorem bT0 (M B:List Int) (D:Int):VZ n (tP M B D) cx=aJ0 n (fun M B D=>cx.nrm (tP M B D)) (fun v4=>cx.ret (tV v4)) (fun D=>cx.ex 0 (zM D)) M B D:=by kernel_rfl
def g134_3L (n:Nat) (kr:Int→Option β) (ae:Int→Option β):Nat→List Int→List Int→Int→Option β
  | 0,_,_,_=>none
  | m+1,M,B,D=>aJ0 n (g134_3L n kr ae m) kr ae M B D
def cL3 (kr ae:Int→Option β) (M B:List Int) (D:Int):Option β:=g134_3L n kr ae n M B D
def bE4 (s:FState) (cx:Cx β):Option β:=bQ (fun again s=>VZ n s {cx with nrm:=again}) n s
theorem aA8 (n:Nat) (cx:Cx β):∀(m:Nat) (M B:List Int) (D:Int),bQ (fun again s=>VZ n s {cx with nrm:=again}) m (tP M B D)=g134_3L n (fun v4=>cx.ret (tV v4)) (fun D=>cx.ex 0 (zM D)) m M B D:=by
  intro m
  induction m with
  | zero=>intros;rfl
  | succ m ih=>intros;simp only [bQ,g134_3L,bT0,ih]
theorem bW1 (M B:List Int) (D:Int):bE4 n (tP M B D) cx=cL3 n (fun v4=>cx.ret (tV v4)) (fun D=>cx.ex 0 (zM D)) M B D:=aA8 n cx n M B D
def dQ5 (kn kr:Int→Option β) (M B:List Int) (D:Int):Option β:=cL3 n kr kn M B D
def bG3 (s:FState) (cx:Cx β):Option β:=bE4 n s {cx with ex:=fun j s=>bif Nat.beq j 0 then cx.nrm s else cx.ex j s}
theorem bX2 (M B:List Int) (D:Int):bG3 n (tP M B D) cx=dQ5 n (fun D=>cx.nrm (zM D)) (fun v4=>cx.ret (tV v4)) M B D:=bW1 n _ M B D
def dI3 (n:Nat) (kr:Int→Option β) (D:Int):Option β:=kr D
def aW1:FS1 β:=FXs (KY n) n HZ none (some lR) [] [30,31]
theorem bU0 (D:Int):aW1 n (zM D) cx=dI3 n (fun v4=>cx.ret (tV v4)) D:=by kernel_rfl
def aD8 (kr:Int→Option β) (M B:List Int):Option β:=dI7 n (fun M B D=>dQ5 n (fun D=>dI3 n kr D) kr M B D) M B
def HS (s:FState) (cx:Cx β):Option β:=aW5 n s {cx with nrm:=fun s=>bG3 n s {cx with nrm:=fun s=>aW1 n s cx}}
theorem cI6 (M B:List Int):HS n (TZ M B) cx=aD8 n (fun v4=>cx.ret (tV v4)) M B:=by simp only [HS,aD8,bV7,bX2,bU0]
def eJ2 (M B:List Int):Option (DenR [.dat (.int .i64)]):=aD8 n (fun v4=>some (v4,())) M B
def dX6:List AK:=[.ro (.int .i32) 21,.ro (.int .i32) 21]
def aT8:List RK:=[.dat (.int .i64)]
def eZ5 (d:DenA dX6):Option (DenR aT8):=eJ2 n d.1 d.2.1
def aD9:Spec:=aP dX6 aT8 (eZ5 n)
def cO8:Sk:=(.nd (.fin none none none [] .leaf) (.nd (.fin none (some wZ) none [] .leaf) (.nd (.nd (.nd (.nd (.nd (.fin none none (some lR) [(0,sM)] .leaf) (.fin none none (some lR) [(0,sM)] .leaf)) (.nd (.fin none none (some lR) [(0,sM)] .leaf) (.fin none (some wZ) (some lR) [(0,sM)] .leaf))) .leaf) .leaf) (.nd (.fin none none (some lR) [] .leaf) (.fin none none (some lR) [] .leaf)))))
theorem dJ0 (s:FState) (cx:Cx β):FX (KY n) n HZ cO8 s cx=HS n s cx:=by kernel_rfl
theorem F2:Fit Tryd.prog 134 (aD9 n):=
  cH (Γ:=Γ0) (l:=dS6 n) (n:=n) (sk:=cO8) (ts:=[(4,none)]) (fn:=Tryd.f134) (c:=HZ) (by kernel_rfl) (by kernel_rfl) (by unfold aS;kernel_rfl) cF trivial aN (by kernel_rfl) (by kernel_rfl) (Nat.le_of_ble_eq_true (by kernel_rfl)) (Nat.le_of_ble_eq_true (by kernel_rfl)) (by kernel_rfl) (by kernel_rfl)
    (fun d=>(dJ0 n _ _).trans (Eq.trans (b:=HS n (TZ d.1 d.2.1) (cN (KY n) aT8 [(4,none)])) (by kernel_rfl) ((cI6 n _ d.1 d.2.1).trans (by kernel_rfl))))
def RT (M B:List Int):FState:=⟨aI [(0,.sl 0 none false),(1,.sl 1 none false)],aE [(0,.row (.int .i32) 21 false M),(1,.row (.int .i32) 21 false B)]⟩
def yK (v4:Int):FState:=⟨aI [(4,.dat (.int .i64) v4)],aE []⟩
def HV:List NE:=[.keep 4]
def uU (M B:List Int) (D T E:Int):FState:=⟨aI [(0,.sl 0 none false),(1,.sl 1 none false),(5,.dat (.int .i64) D),(6,.dat (.int .i64) T),(7,.dat (.int .i64) E)],aE [(0,.row (.int .i32) 21 false M),(1,.row (.int .i32) 21 false B)]⟩
def zV:List NE:=[.row 0 (.int .i32) 21 false,.row 1 (.int .i32) 21 false,.keep 5,.keep 6,.keep 7]
def cZ6 (n:Nat):List (Nat×Spec):=[]
def XG:Ctx:={Γ0 with calls:=lkS (cZ6 n)}
def QY:Code:=fb Tryd.f135
def cS0 (n:Nat) (kn:List Int→List Int→Int→Int→Int→Option β) (M B:List Int):Option β:=kn M B (M.length:Int) (B.length:Int) (0:Int)
def aX6:FS1 β:=FXs (XG n) n QY (some zV) none [] [2,6,14,30]
theorem bZ7 (M B:List Int):aX6 n (RT M B) cx=cS0 n (fun M B D T E=>cx.nrm (uU M B D T E)) M B:=by kernel_rfl
def aA1 (n:Nat) (kn:List Int→List Int→Int→Int→Int→Option β) (kr:Int→Option β) (M B:List Int) (D T E:Int):Option β:=bif (decide ((w64 (D - 1)) < (0:Int))) then (kr E) else (bif (decide ((w64 (T - 1)) < (0:Int))) then (kr E) else (idx (w64 (D - 1)) (M.length:Int)<|idx (w64 (T - 1)) (B.length:Int)<|bif ((rd M (w64 (D - 1)) (0:Int))!=(rd B (w64 (T - 1)) (0:Int))) then (kr E) else (kn M B (w64 (D - 1)) (w64 (T - 1)) (w64 (E+1)))))
def RX:FS1 β:=FXs (XG n) n QY (some zV) (some HV) [] [248,249]
theorem bZ0 (M B:List Int) (D T E:Int):RX n (uU M B D T E) cx=aA1 n (fun M B D T E=>cx.nrm (uU M B D T E)) (fun v4=>cx.ret (yK v4)) M B D T E:=by kernel_rfl
def g135_3L (n:Nat) (kr:Int→Option β):Nat→List Int→List Int→Int→Int→Int→Option β
  | 0,_,_,_,_,_=>none
  | m+1,M,B,D,T,E=>aA1 n (g135_3L n kr m) kr M B D T E
def cX8 (kr:Int→Option β) (M B:List Int) (D T E:Int):Option β:=g135_3L n kr n M B D T E
def aW3 (s:FState) (cx:Cx β):Option β:=bQ (fun again s=>RX n s {cx with nrm:=again}) n s
theorem z6 (n:Nat) (cx:Cx β):∀(m:Nat) (M B:List Int) (D T E:Int),bQ (fun again s=>RX n s {cx with nrm:=again}) m (uU M B D T E)=g135_3L n (fun v4=>cx.ret (yK v4)) m M B D T E:=by
  intro m
  induction m with
  | zero=>intros;rfl
  | succ m ih=>intros;simp only [bQ,g135_3L,bZ0,ih]
theorem bU7 (M B:List Int) (D T E:Int):aW3 n (uU M B D T E) cx=cX8 n (fun v4=>cx.ret (yK v4)) M B D T E:=z6 n cx n M B D T E
def eA3 (kr:Int→Option β) (M B:List Int) (D T E:Int):Option β:=cX8 n kr M B D T E
def bO8 (s:FState) (cx:Cx β):Option β:=aW3 n s {cx with ex:=fun j s=>bif Nat.beq j 0 then cx.nrm s else cx.ex j s}
theorem bQ2 (M B:List Int) (D T E:Int):bO8 n (uU M B D T E) cx=eA3 n (fun v4=>cx.ret (yK v4)) M B D T E:=bU7 n _ M B D T E
def aT0 (kr:Int→Option β) (M B:List Int):Option β:=cS0 n (fun M B D T E=>eA3 n kr M B D T E) M B
def FD (s:FState) (cx:Cx β):Option β:=aX6 n s {cx with nrm:=fun s=>bO8 n s cx}
theorem bQ1 (M B:List Int):FD n (RT M B) cx=aT0 n (fun v4=>cx.ret (yK v4)) M B:=by simp only [FD,aT0,bZ7,bQ2]
def F9 (M B:List Int):Option (DenR [.dat (.int .i64)]):=aT0 n (fun v4=>some (v4,())) M B
def dY0:List AK:=[.ro (.int .i32) 21,.ro (.int .i32) 21]
def aD0:List RK:=[.dat (.int .i64)]
def eW5 (d:DenA dY0):Option (DenR aD0):=F9 n d.1 d.2.1
def PU:Spec:=aP dY0 aD0 (eW5 n)
def eD1:Sk:=(.nd (.fin none none none [] .leaf) (.nd (.fin none none none [] .leaf) (.nd (.fin none none none [] .leaf) (.nd (.fin none (some zV) none [] .leaf) (.nd (.nd (.nd (.fin none none (some HV) [] .leaf) (.fin none (some zV) (some HV) [] .leaf)) .leaf) .leaf)))))
theorem cQ3 (s:FState) (cx:Cx β):FX (XG n) n QY eD1 s cx=FD n s cx:=by kernel_rfl
theorem LB:Fit Tryd.prog 135 (PU n):=
  cH (Γ:=Γ0) (l:=cZ6 n) (n:=n) (sk:=eD1) (ts:=[(4,none)]) (fn:=Tryd.f135) (c:=QY) (by kernel_rfl) (by kernel_rfl) (by unfold aS;kernel_rfl) cF trivial aN (by kernel_rfl) (by kernel_rfl) (Nat.le_of_ble_eq_true (by kernel_rfl)) (Nat.le_of_ble_eq_true (by kernel_rfl)) (by kernel_rfl) (by kernel_rfl)
    (fun d=>(cQ3 n _ _).trans (Eq.trans (b:=FD n (RT d.1 d.2.1) (cN (XG n) aD0 [(4,none)])) (by kernel_rfl) ((bQ1 n _ d.1 d.2.1).trans (by kernel_rfl))))
def bO1 (Y J:BA):FState:=⟨aI [(0,.dat .str Y),(1,.dat .str J)],aE []⟩
def eG2 (v4:Bool):FState:=⟨aI [(4,.dat .bool v4)],aE []⟩
def AE:List NE:=[.keep 4]
def dG7 (n:Nat):List (Nat×Spec):=[]
def aP7:Ctx:={Γ0 with calls:=lkS (dG7 n)}
def aD3:Code:=fb Tryd.f177
def aJ7 (n:Nat) (kr:Bool→Option β) (Y J:BA):Option β:=bif (decide ((Y.size:Int)≥(J.size:Int))) then (bnd (w64 ((Y.size:Int) - (J.size:Int))) (Y.size:Int) (Y.size:Int)<|kr (eK (bE Y (w64 ((Y.size:Int) - (J.size:Int))) (Y.size:Int)) J)) else (kr false)
def VR:FS1 β:=FXs (aP7 n) n aD3 none (some AE) [] [2,6,7]
theorem cF8 (Y J:BA):VR n (bO1 Y J) cx=aJ7 n (fun v4=>cx.ret (eG2 v4)) Y J:=by kernel_rfl
def fA1 (Y J:BA):Option (DenR [.dat .bool]):=aJ7 n (fun v4=>some (v4,())) Y J
def cQ0:List AK:=[.dat .str,.dat .str]
def aG5:List RK:=[.dat .bool]
def eY0 (d:DenA cQ0):Option (DenR aG5):=fA1 n d.1 d.2.1
def dX2:Spec:=aP cQ0 aG5 (eY0 n)
def dQ9:Sk:=(.nd (.fin none none (some AE) [] .leaf) (.nd (.fin none none (some AE) [] .leaf) (.fin none none (some AE) [] .leaf)))
theorem cP4 (s:FState) (cx:Cx β):FX (aP7 n) n aD3 dQ9 s cx=VR n s cx:=by kernel_rfl
theorem cL4:Fit Tryd.prog 177 (dX2 n):=
  cH (Γ:=Γ0) (l:=dG7 n) (n:=n) (sk:=dQ9) (ts:=[(4,none)]) (fn:=Tryd.f177) (c:=aD3) (by kernel_rfl) (by kernel_rfl) (by unfold aS;kernel_rfl) cF trivial aN (by kernel_rfl) (by kernel_rfl) (Nat.le_of_ble_eq_true (by kernel_rfl)) (Nat.le_of_ble_eq_true (by kernel_rfl)) (by kernel_rfl) (by kernel_rfl)
    (fun d=>(cP4 n _ _).trans (Eq.trans (b:=VR n (bO1 d.1 d.2.1) (cN (aP7 n) aG5 [(4,none)])) (by kernel_rfl) ((cF8 n _ d.1 d.2.1).trans (by kernel_rfl))))
def aX0 (Y J:BA):FState:=⟨aI [(0,.dat .str Y),(1,.dat .str J)],aE []⟩
def eL7 (v4:Bool):FState:=⟨aI [(4,.dat .bool v4)],aE []⟩
def yF:List NE:=[.keep 4]
def dN6:List (Nat×Spec):=[(177,dX2 n)]
def y9:Ctx:={Γ0 with calls:=lkS (dN6 n)}
def aT4:Code:=fb Tryd.f158
def n4 (kr:Bool→Option β) (Y J:BA):Option β:=(fA1 n Y J).bind fun V=>kr V.1
def VQ:FS1 β:=FXs (y9 n) n aT4 none (some yF) [] [2,6,7]
theorem cK7 (Y J:BA):VQ n (aX0 Y J) cx=n4 n (fun v4=>cx.ret (eL7 v4)) Y J:=by kernel_rfl
def aI5 (Y J:BA):Option (DenR [.dat .bool]):=n4 n (fun v4=>some (v4,())) Y J
def cN7:List AK:=[.dat .str,.dat .str]
def aQ5:List RK:=[.dat .bool]
def fC9 (d:DenA cN7):Option (DenR aQ5):=aI5 n d.1 d.2.1
def aN3:Spec:=aP cN7 aQ5 (fC9 n)
def dE9:Sk:=(.nd (.fin none none (some yF) [] .leaf) (.nd (.fin none none (some yF) [] .leaf) (.fin none none (some yF) [] .leaf)))
theorem cP1 (s:FState) (cx:Cx β):FX (y9 n) n aT4 dE9 s cx=VQ n s cx:=by kernel_rfl
theorem G8:Fit Tryd.prog 158 (aN3 n):=
  cH (Γ:=Γ0) (l:=dN6 n) (n:=n) (sk:=dE9) (ts:=[(4,none)]) (fn:=Tryd.f158) (c:=aT4) (by kernel_rfl) (by kernel_rfl) (by unfold aS;kernel_rfl) cF ⟨cL4 n,trivial⟩ aN (by kernel_rfl) (by kernel_rfl) (Nat.le_of_ble_eq_true (by kernel_rfl)) (Nat.le_of_ble_eq_true (by kernel_rfl)) (by kernel_rfl) (by kernel_rfl)
    (fun d=>(cP1 n _ _).trans (Eq.trans (b:=VQ n (aX0 d.1 d.2.1) (cN (y9 n) aQ5 [(4,none)])) (by kernel_rfl) ((cK7 n _ d.1 d.2.1).trans (by kernel_rfl))))
def bL9 (Y J:BA):FState:=⟨aI [(0,.dat .str Y),(1,.dat .str J)],aE []⟩
def eH7 (v4:Bool):FState:=⟨aI [(4,.dat .bool v4)],aE []⟩
def yX:List NE:=[.keep 4]
def dJ9 (n:Nat):List (Nat×Spec):=[]
def V5:Ctx:={Γ0 with calls:=lkS (dJ9 n)}
def aA2:Code:=fb Tryd.f126
def aM6 (n:Nat) (kr:Bool→Option β) (Y J:BA):Option β:=bif (decide ((Y.size:Int)≥(J.size:Int))) then (bnd (0:Int) (J.size:Int) (Y.size:Int)<|kr (eK (bE Y (0:Int) (J.size:Int)) J)) else (kr false)
def UD:FS1 β:=FXs (V5 n) n aA2 none (some yX) [] [2,6,7]
theorem cI8 (Y J:BA):UD n (bL9 Y J) cx=aM6 n (fun v4=>cx.ret (eH7 v4)) Y J:=by kernel_rfl
def eZ2 (Y J:BA):Option (DenR [.dat .bool]):=aM6 n (fun v4=>some (v4,())) Y J
def dF7:List AK:=[.dat .str,.dat .str]
def V0:List RK:=[.dat .bool]
def eX6 (d:DenA dF7):Option (DenR V0):=eZ2 n d.1 d.2.1
def eD3:Spec:=aP dF7 V0 (eX6 n)
def cR1:Sk:=(.nd (.fin none none (some yX) [] .leaf) (.nd (.fin none none (some yX) [] .leaf) (.fin none none (some yX) [] .leaf)))
theorem dB7 (s:FState) (cx:Cx β):FX (V5 n) n aA2 cR1 s cx=UD n s cx:=by kernel_rfl
theorem cZ8:Fit Tryd.prog 126 (eD3 n):=
  cH (Γ:=Γ0) (l:=dJ9 n) (n:=n) (sk:=cR1) (ts:=[(4,none)]) (fn:=Tryd.f126) (c:=aA2) (by kernel_rfl) (by kernel_rfl) (by unfold aS;kernel_rfl) cF trivial aN (by kernel_rfl) (by kernel_rfl) (Nat.le_of_ble_eq_true (by kernel_rfl)) (Nat.le_of_ble_eq_true (by kernel_rfl)) (by kernel_rfl) (by kernel_rfl)
    (fun d=>(dB7 n _ _).trans (Eq.trans (b:=UD n (bL9 d.1 d.2.1) (cN (V5 n) V0 [(4,none)])) (by kernel_rfl) ((cI8 n _ d.1 d.2.1).trans (by kernel_rfl))))
def bO7 (Y J:BA):FState:=⟨aI [(0,.dat .str Y),(1,.dat .str J)],aE []⟩
def eM0 (v4:Bool):FState:=⟨aI [(4,.dat .bool v4)],aE []⟩
def AU:List NE:=[.keep 4]
def dK0:List (Nat×Spec):=[(126,eD3 n)]
def l7:Ctx:={Γ0 with calls:=lkS (dK0 n)}
def aH2:Code:=fb Tryd.f100
def aF0 (kr:Bool→Option β) (Y J:BA):Option β:=(eZ2 n Y J).bind fun V=>kr V.1
def SH:FS1 β:=FXs (l7 n) n aH2 none (some AU) [] [2,6,7]
theorem cB1 (Y J:BA):SH n (bO7 Y J) cx=aF0 n (fun v4=>cx.ret (eM0 v4)) Y J:=by kernel_rfl
def cL9 (Y J:BA):Option (DenR [.dat .bool]):=aF0 n (fun v4=>some (v4,())) Y J
def cX5:List AK:=[.dat .str,.dat .str]
def k7:List RK:=[.dat .bool]
def fB2 (d:DenA cX5):Option (DenR k7):=cL9 n d.1 d.2.1
def dB5:Spec:=aP cX5 k7 (fB2 n)
def dX1:Sk:=(.nd (.fin none none (some AU) [] .leaf) (.nd (.fin none none (some AU) [] .leaf) (.fin none none (some AU) [] .leaf)))
theorem eC6 (s:FState) (cx:Cx β):FX (l7 n) n aH2 dX1 s cx=SH n s cx:=by kernel_rfl
theorem cM5:Fit Tryd.prog 100 (dB5 n):=
  cH (Γ:=Γ0) (l:=dK0 n) (n:=n) (sk:=dX1) (ts:=[(4,none)]) (fn:=Tryd.f100) (c:=aH2) (by kernel_rfl) (by kernel_rfl) (by unfold aS;kernel_rfl) cF ⟨cZ8 n,trivial⟩ aN (by kernel_rfl) (by kernel_rfl) (Nat.le_of_ble_eq_true (by kernel_rfl)) (Nat.le_of_ble_eq_true (by kernel_rfl)) (by kernel_rfl) (by kernel_rfl)
    (fun d=>(eC6 n _ _).trans (Eq.trans (b:=SH n (bO7 d.1 d.2.1) (cN (l7 n) k7 [(4,none)])) (by kernel_rfl) ((cB1 n _ d.1 d.2.1).trans (by kernel_rfl))))
def kJ:List AK:=[.pro Z1 106,.rw Z22 115]
def hQ:List RK:=[.rw Z22 115]
abbrev bW:=DenA kJ→Option (DenR hQ)
def WL (C:Z11) (B:List Z26):FState:=⟨aI [(0,.ptr 0 0 0),(1,.sl 1 none false)],aE [(0,.row Z1 106 false [C]),(1,.row Z22 115 true B)]⟩
def bD5 (x4:List Z26):FState:=⟨aI [(4,.sl 4 none false)],aE [(4,.row Z22 115 true x4)]⟩
def sC:List NE:=[.row 4 Z22 115 true]
def cO (C:Z11) (B:List Z26) (D T E:Int) (x9 W:List Int):FState:=⟨aI [(0,.ptr 0 0 0),(1,.sl 1 none false),(5,.dat (.int .i64) D),(6,.dat (.int .i64) T),(7,.dat (.int .i64) E),(9,.sl 9 none false),(10,.sl 10 none false)],aE [(0,.row Z1 106 false [C]),(1,.row Z22 115 true B),(9,.row (.int .i32) 21 true x9),(10,.row (.int .i32) 21 true W)]⟩
def cX:List NE:=[.ptr 0 Z1 106 false,.row 1 Z22 115 true,.keep 5,.keep 6,.keep 7,.row 9 (.int .i32) 21 true,.row 10 (.int .i32) 21 true]
def nU (C:Z11) (B:List Z26):FState:=⟨aI [(0,.ptr 0 0 0),(1,.sl 1 none false)],aE [(0,.row Z1 106 false [C]),(1,.row Z22 115 true B)]⟩
def tB:List NE:=[.ptr 0 Z1 106 false,.row 1 Z22 115 true]
def FA (C:Z11) (B:List Z26) (D T E:Int) (x9 W:List Int) (ak:Int):FState:=⟨aI [(0,.ptr 0 0 0),(1,.sl 1 none false),(5,.dat (.int .i64) D),(6,.dat (.int .i64) T),(7,.dat (.int .i64) E),(9,.sl 9 none false),(10,.sl 10 none false),(27,.dat (.int .i8) ak)],aE [(0,.row Z1 106 false [C]),(1,.row Z22 115 true B),(9,.row (.int .i32) 21 true x9),(10,.row (.int .i32) 21 true W)]⟩
def M7:List NE:=[.ptr 0 Z1 106 false,.row 1 Z22 115 true,.keep 5,.keep 6,.keep 7,.row 9 (.int .i32) 21 true,.row 10 (.int .i32) 21 true,.keep 27]
def BM (C:Z11) (B:List Z26) (D T E:Int) (x9 W:List Int) (ak:Int) (aa:Bool):FState:=⟨aI [(0,.ptr 0 0 0),(1,.sl 1 none false),(5,.dat (.int .i64) D),(6,.dat (.int .i64) T),(7,.dat (.int .i64) E),(9,.sl 9 none false),(10,.sl 10 none false),(27,.dat (.int .i8) ak),(28,.dat .bool aa)],aE [(0,.row Z1 106 false [C]),(1,.row Z22 115 true B),(9,.row (.int .i32) 21 true x9),(10,.row (.int .i32) 21 true W)]⟩
def B5:List NE:=[.ptr 0 Z1 106 false,.row 1 Z22 115 true,.keep 5,.keep 6,.keep 7,.row 9 (.int .i32) 21 true,.row 10 (.int .i32) 21 true,.keep 27,.keep 28]
def BN (C:Z11) (B:List Z26) (D T E:Int) (x9 W:List Int) (ak:Int) (bf:Bool):FState:=⟨aI [(0,.ptr 0 0 0),(1,.sl 1 none false),(5,.dat (.int .i64) D),(6,.dat (.int .i64) T),(7,.dat (.int .i64) E),(9,.sl 9 none false),(10,.sl 10 none false),(27,.dat (.int .i8) ak),(42,.dat .bool bf)],aE [(0,.row Z1 106 false [C]),(1,.row Z22 115 true B),(9,.row (.int .i32) 21 true x9),(10,.row (.int .i32) 21 true W)]⟩
def D7:List NE:=[.ptr 0 Z1 106 false,.row 1 Z22 115 true,.keep 5,.keep 6,.keep 7,.row 9 (.int .i32) 21 true,.row 10 (.int .i32) 21 true,.keep 27,.keep 42]
def AJ (C:Z11) (B:List Z26) (D T E:Int) (x9 W:List Int) (aq:Bool):FState:=⟨aI [(0,.ptr 0 0 0),(1,.sl 1 none false),(5,.dat (.int .i64) D),(6,.dat (.int .i64) T),(7,.dat (.int .i64) E),(9,.sl 9 none false),(10,.sl 10 none false),(56,.dat .bool aq)],aE [(0,.row Z1 106 false [C]),(1,.row Z22 115 true B),(9,.row (.int .i32) 21 true x9),(10,.row (.int .i32) 21 true W)]⟩
def N4:List NE:=[.ptr 0 Z1 106 false,.row 1 Z22 115 true,.keep 5,.keep 6,.keep 7,.row 9 (.int .i32) 21 true,.row 10 (.int .i32) 21 true,.keep 56]
def AL (C:Z11) (B:List Z26) (D T E:Int) (x9 W:List Int) (ar:Bool):FState:=⟨aI [(0,.ptr 0 0 0),(1,.sl 1 none false),(5,.dat (.int .i64) D),(6,.dat (.int .i64) T),(7,.dat (.int .i64) E),(9,.sl 9 none false),(10,.sl 10 none false),(61,.dat .bool ar)],aE [(0,.row Z1 106 false [C]),(1,.row Z22 115 true B),(9,.row (.int .i32) 21 true x9),(10,.row (.int .i32) 21 true W)]⟩
def J6:List NE:=[.ptr 0 Z1 106 false,.row 1 Z22 115 true,.keep 5,.keep 6,.keep 7,.row 9 (.int .i32) 21 true,.row 10 (.int .i32) 21 true,.keep 61]
def sN (C:Z11) (B:List Z26) (D:Int):FState:=⟨aI [(0,.ptr 0 0 0),(1,.sl 1 none false),(5,.dat (.int .i64) D)],aE [(0,.row Z1 106 false [C]),(1,.row Z22 115 true B)]⟩
def uF:List NE:=[.ptr 0 Z1 106 false,.row 1 Z22 115 true,.keep 5]
def G1 (C:Z11) (B:List Z26) (D T E:Int):FState:=⟨aI [(0,.ptr 0 0 0),(1,.sl 1 none false),(5,.dat (.int .i64) D),(6,.dat (.int .i64) T),(7,.dat (.int .i64) E)],aE [(0,.row Z1 106 false [C]),(1,.row Z22 115 true B)]⟩
def OV:List NE:=[.ptr 0 Z1 106 false,.row 1 Z22 115 true,.keep 5,.keep 6,.keep 7]
def ZK (C:Z11) (B:List Z26) (D E:Int):FState:=⟨aI [(0,.ptr 0 0 0),(1,.sl 1 none false),(5,.dat (.int .i64) D),(7,.dat (.int .i64) E)],aE [(0,.row Z1 106 false [C]),(1,.row Z22 115 true B)]⟩
def NX:List NE:=[.ptr 0 Z1 106 false,.row 1 Z22 115 true,.keep 5,.keep 7]
def pI (C:Z11) (B:List Z26) (D:Int) (ac:Bool):FState:=⟨aI [(0,.ptr 0 0 0),(1,.sl 1 none false),(5,.dat (.int .i64) D),(14,.dat .bool ac)],aE [(0,.row Z1 106 false [C]),(1,.row Z22 115 true B)]⟩
def tH:List NE:=[.ptr 0 Z1 106 false,.row 1 Z22 115 true,.keep 5,.keep 14]
def sR (C:Z11) (B:List Z26) (ac:Bool):FState:=⟨aI [(0,.ptr 0 0 0),(1,.sl 1 none false),(14,.dat .bool ac)],aE [(0,.row Z1 106 false [C]),(1,.row Z22 115 true B)]⟩
def tS:List NE:=[.ptr 0 Z1 106 false,.row 1 Z22 115 true,.keep 14]
end
section
variable (n:Nat) (aH:bW) (cx:Cx β)
def dH1:List (Nat×Spec):=[(100,dB5 n),(113,KJ n),(134,aD9 n),(135,PU n),(158,aN3 n),(137,aP kJ hQ aH)]
def fR:Ctx:={Γ0 with calls:=lkS (dH1 n aH)}
def eL:Code:=fb Tryd.f137
def aV1 (n:Nat) (aH:bW) (kn:Z11→List Z26→Int→Int→Int→List Int→List Int→Option β) (C:Z11) (B:List Z26):Option β:=cM (B.length+[Z17].length)<|kn C (B++[Z17]) (0:Int) (0:Int) (0:Int) [] []
def bA6:FS1 β:=FXs (fR n aH) n eL (some cX) none [] [2,6,14,30,62,126,254,510]
theorem bZ1 (C:Z11) (B:List Z26):bA6 n aH (WL C B) cx=aV1 n aH (fun C B D T E x9 W=>cx.nrm (cO C B D T E x9 W)) C B:=by kernel_rfl
def QT (n:Nat) (aH:bW) (kn:Z11→List Z26→Int→Int→Int→List Int→List Int→Option β) (ae:Z11→List Z26→Option β) (C:Z11) (B:List Z26) (D T E:Int) (x9 W:List Int):Option β:=bif (decide (D < (B.length:Int))) then (kn C B D T E x9 W) else (ae C B)
def bM6:FS1 β:=FXs (fR n aH) n eL (some cX) none [(0,tB)] [16352,16353]
theorem bY3 (C:Z11) (B:List Z26) (D T E:Int) (x9 W:List Int):bM6 n aH (cO C B D T E x9 W) cx=QT n aH (fun C B D T E x9 W=>cx.nrm (cO C B D T E x9 W)) (fun C B=>cx.ex 0 (nU C B)) C B D T E x9 W:=by kernel_rfl
def aU6 (n:Nat) (aH:bW) (kn:Z11→List Z26→Int→Int→Int→List Int→List Int→Int→Option β) (C:Z11) (B:List Z26) (D T E:Int) (x9 W:List Int):Option β:=idx D (B.length:Int)<|kn C B D T E x9 W ((rd B D Z17).1)
def aX4:FS1 β:=FXs (fR n aH) n eL (some M7) none [] [32708]
theorem cB0 (C:Z11) (B:List Z26) (D T E:Int) (x9 W:List Int):aX4 n aH (cO C B D T E x9 W) cx=aU6 n aH (fun C B D T E x9 W ak=>cx.nrm (FA C B D T E x9 W ak)) C B D T E x9 W:=by kernel_rfl
def c9 (n:Nat) (aH:bW) (kn:Z11→List Z26→Int→Int→Int→List Int→List Int→Int→Bool→Option β) (C:Z11) (B:List Z26) (D T E:Int) (x9 W:List Int) (ak:Int):Option β:=kn C B D T E x9 W ak (ak==(1:Int))
def bG9:FS1 β:=FXs (fR n aH) n eL (some B5) none [] [130836]
theorem bQ5 (C:Z11) (B:List Z26) (D T E:Int) (x9 W:List Int) (ak:Int):bG9 n aH (FA C B D T E x9 W ak) cx=c9 n aH (fun C B D T E x9 W ak aa=>cx.nrm (BM C B D T E x9 W ak aa)) C B D T E x9 W ak:=by kernel_rfl
def V9 (n:Nat) (aH:bW) (ap:Z11→List Z26→Int→Int→Int→List Int→List Int→Option β) (C:Z11) (B:List Z26) (D T E:Int) (x9 W:List Int) (ak:Int) (aa:Bool):Option β:=idx D (B.length:Int)<|kK ((rd B D Z17).2)<|cM (W.length+(bS ((rd B D Z17).2)).length)<|ap C B (w64 (D+1)) T (w64 (E+1)) x9 (W++(bS ((rd B D Z17).2)))
def bE7:FS1 β:=FXs (fR n aH) n eL none none [(2,cX)] [523348,1046698,2093398,2093399]
theorem cA8 (C:Z11) (B:List Z26) (D T E:Int) (x9 W:List Int) (ak:Int) (aa:Bool):bE7 n aH (BM C B D T E x9 W ak aa) cx=V9 n aH (fun C B D T E x9 W=>cx.ex 2 (cO C B D T E x9 W)) C B D T E x9 W ak aa:=by kernel_rfl
def aL2 (n:Nat) (aH:bW) (kn:Z11→List Z26→Int→Int→Int→List Int→List Int→Int→Bool→Option β) (C:Z11) (B:List Z26) (D T E:Int) (x9 W:List Int) (ak:Int) (aa:Bool):Option β:=kn C B D T E x9 W ak (ak==(-1:Int))
def bN7:FS1 β:=FXs (fR n aH) n eL (some D7) none [] [523350]
theorem cB7 (C:Z11) (B:List Z26) (D T E:Int) (x9 W:List Int) (ak:Int) (aa:Bool):bN7 n aH (BM C B D T E x9 W ak aa) cx=aL2 n aH (fun C B D T E x9 W ak bf=>cx.nrm (BN C B D T E x9 W ak bf)) C B D T E x9 W ak aa:=by kernel_rfl
def n9 (n:Nat) (aH:bW) (ap:Z11→List Z26→Int→Int→Int→List Int→List Int→Option β) (C:Z11) (B:List Z26) (D T E:Int) (x9 W:List Int) (ak:Int) (bf:Bool):Option β:=idx D (B.length:Int)<|kK ((rd B D Z17).2)<|cM (x9.length+(bS ((rd B D Z17).2)).length)<|ap C B (w64 (D+1)) (w64 (T+1)) E (x9++(bS ((rd B D Z17).2))) W
def aY7:FS1 β:=FXs (fR n aH) n eL none none [(2,cX)] [2093404,4186810,8373622,8373623]
theorem bY2 (C:Z11) (B:List Z26) (D T E:Int) (x9 W:List Int) (ak:Int) (bf:Bool):aY7 n aH (BN C B D T E x9 W ak bf) cx=n9 n aH (fun C B D T E x9 W=>cx.ex 2 (cO C B D T E x9 W)) C B D T E x9 W ak bf:=by kernel_rfl
def aC9 (n:Nat) (aH:bW) (kn:Z11→List Z26→Int→Int→Int→List Int→List Int→Bool→Option β) (C:Z11) (B:List Z26) (D T E:Int) (x9 W:List Int) (ak:Int) (bf:Bool):Option β:=kn C B D T E x9 W (ak==(0:Int))
def bH8:FS1 β:=FXs (fR n aH) n eL (some N4) none [] [2093406]
theorem bR2 (C:Z11) (B:List Z26) (D T E:Int) (x9 W:List Int) (ak:Int) (bf:Bool):bH8 n aH (BN C B D T E x9 W ak bf) cx=aC9 n aH (fun C B D T E x9 W aq=>cx.nrm (AJ C B D T E x9 W aq)) C B D T E x9 W ak bf:=by kernel_rfl
def a7 (n:Nat) (aH:bW) (kn:Z11→List Z26→Int→Int→Int→List Int→List Int→Bool→Option β) (C:Z11) (B:List Z26) (D T E:Int) (x9 W:List Int) (aq:Bool):Option β:=kn C B D T E x9 W (decide ((w64 (T+E))>(1:Int)))
def bH3:FS1 β:=FXs (fR n aH) n eL (some J6) none [] [16747256]
theorem cE7 (C:Z11) (B:List Z26) (D T E:Int) (x9 W:List Int) (aq:Bool):bH3 n aH (AJ C B D T E x9 W aq) cx=a7 n aH (fun C B D T E x9 W ar=>cx.nrm (AL C B D T E x9 W ar)) C B D T E x9 W aq:=by kernel_rfl
def uM (n:Nat) (aH:bW) (kn:Z11→List Z26→Int→Int→Int→List Int→List Int→Option β) (C:Z11) (B:List Z26) (D T E:Int) (x9 W:List Int) (ar:Bool):Option β:=bif (T !=(0:Int)) then (bif (E !=(0:Int)) then ((eJ2 n W x9).bind fun V=>bif (V.1 !=(0:Int)) then (bif (decide ((w64 ((w64 (D - T)) - E))>(0:Int))) then (idx (w64 ((w64 ((w64 (D - T)) - E)) - (1:Int))) (B.length:Int)<|bif ((rd B (w64 ((w64 ((w64 (D - T)) - E)) - (1:Int))) Z17).1==(0:Int)) then (idx (w64 ((w64 ((w64 (D - T)) - E)) - (1:Int))) (B.length:Int)<|bnd (0:Int) V.1 (W.length:Int)<|cM (((rd B (w64 ((w64 ((w64 (D - T)) - E)) - (1:Int))) Z17).2).size+(runesBytes (cut W (0:Int) ((0:Int)+(V.1 - (0:Int))))).size)<|idx (w64 ((w64 ((w64 (D - T)) - E)) - (1:Int))) (B.length:Int)<|bnd V.1 (W.length:Int) (W.length:Int)<|bnd V.1 (x9.length:Int) (x9.length:Int)<|(F9 n (cut W V.1 (V.1+((W.length:Int) - V.1))) (cut x9 V.1 (V.1+((x9.length:Int) - V.1)))).bind fun r2=>bif (r2.1 !=(0:Int)) then (bnd (w64 (((W.length:Int) - V.1) - r2.1)) ((W.length:Int) - V.1) ((W.length:Int) - V.1)<|idx D ((B.set (w64 ((w64 ((w64 (D - T)) - E)) - (1:Int))).toNat ((rd B (w64 ((w64 ((w64 (D - T)) - E)) - (1:Int))) Z17).1,((rd B (w64 ((w64 ((w64 (D - T)) - E)) - (1:Int))) Z17).2++(runesBytes (cut W (0:Int) ((0:Int)+(V.1 - (0:Int)))))))).length:Int)<|cM ((runesBytes (cut W (V.1+(w64 (((W.length:Int) - V.1) - r2.1))) ((V.1+(w64 (((W.length:Int) - V.1) - r2.1)))+(((W.length:Int) - V.1) - (w64 (((W.length:Int) - V.1) - r2.1)))))).size+((rd (B.set (w64 ((w64 ((w64 (D - T)) - E)) - (1:Int))).toNat ((rd B (w64 ((w64 ((w64 (D - T)) - E)) - (1:Int))) Z17).1,((rd B (w64 ((w64 ((w64 (D - T)) - E)) - (1:Int))) Z17).2++(runesBytes (cut W (0:Int) ((0:Int)+(V.1 - (0:Int)))))))) D Z17).2).size)<|idx D ((B.set (w64 ((w64 ((w64 (D - T)) - E)) - (1:Int))).toNat ((rd B (w64 ((w64 ((w64 (D - T)) - E)) - (1:Int))) Z17).1,((rd B (w64 ((w64 ((w64 (D - T)) - E)) - (1:Int))) Z17).2++(runesBytes (cut W (0:Int) ((0:Int)+(V.1 - (0:Int)))))))).length:Int)<|bnd (0:Int) (w64 (((W.length:Int) - V.1) - r2.1)) ((W.length:Int) - V.1)<|bnd (0:Int) (w64 (((x9.length:Int) - V.1) - r2.1)) ((x9.length:Int) - V.1)<|kn C ((B.set (w64 ((w64 ((w64 (D - T)) - E)) - (1:Int))).toNat ((rd B (w64 ((w64 ((w64 (D - T)) - E)) - (1:Int))) Z17).1,((rd B (w64 ((w64 ((w64 (D - T)) - E)) - (1:Int))) Z17).2++(runesBytes (cut W (0:Int) ((0:Int)+(V.1 - (0:Int)))))))).set D.toNat ((rd (B.set (w64 ((w64 ((w64 (D - T)) - E)) - (1:Int))).toNat ((rd B (w64 ((w64 ((w64 (D - T)) - E)) - (1:Int))) Z17).1,((rd B (w64 ((w64 ((w64 (D - T)) - E)) - (1:Int))) Z17).2++(runesBytes (cut W (0:Int) ((0:Int)+(V.1 - (0:Int)))))))) D Z17).1,((runesBytes (cut W (V.1+(w64 (((W.length:Int) - V.1) - r2.1))) ((V.1+(w64 (((W.length:Int) - V.1) - r2.1)))+(((W.length:Int) - V.1) - (w64 (((W.length:Int) - V.1) - r2.1))))))++(rd (B.set (w64 ((w64 ((w64 (D - T)) - E)) - (1:Int))).toNat ((rd B (w64 ((w64 ((w64 (D - T)) - E)) - (1:Int))) Z17).1,((rd B (w64 ((w64 ((w64 (D - T)) - E)) - (1:Int))) Z17).2++(runesBytes (cut W (0:Int) ((0:Int)+(V.1 - (0:Int)))))))) D Z17).2))) D T E (cut x9 (V.1+(0:Int)) ((V.1+(0:Int))+((w64 (((x9.length:Int) - V.1) - r2.1)) - (0:Int)))) (cut W (V.1+(0:Int)) ((V.1+(0:Int))+((w64 (((W.length:Int) - V.1) - r2.1)) - (0:Int))))) else (kn C (B.set (w64 ((w64 ((w64 (D - T)) - E)) - (1:Int))).toNat ((rd B (w64 ((w64 ((w64 (D - T)) - E)) - (1:Int))) Z17).1,((rd B (w64 ((w64 ((w64 (D - T)) - E)) - (1:Int))) Z17).2++(runesBytes (cut W (0:Int) ((0:Int)+(V.1 - (0:Int)))))))) D T E (cut x9 V.1 (V.1+((x9.length:Int) - V.1))) (cut W V.1 (V.1+((W.length:Int) - V.1))))) else (bnd (0:Int) V.1 (W.length:Int)<|cM ([((0:Int),(runesBytes (cut W (0:Int) ((0:Int)+(V.1 - (0:Int))))))].length+B.length)<|bnd V.1 (W.length:Int) (W.length:Int)<|bnd V.1 (x9.length:Int) (x9.length:Int)<|(F9 n (cut W V.1 (V.1+((W.length:Int) - V.1))) (cut x9 V.1 (V.1+((x9.length:Int) - V.1)))).bind fun r3=>bif (r3.1 !=(0:Int)) then (bnd (w64 (((W.length:Int) - V.1) - r3.1)) ((W.length:Int) - V.1) ((W.length:Int) - V.1)<|idx (w64 (D+1)) (([((0:Int),(runesBytes (cut W (0:Int) ((0:Int)+(V.1 - (0:Int))))))]++B).length:Int)<|cM ((runesBytes (cut W (V.1+(w64 (((W.length:Int) - V.1) - r3.1))) ((V.1+(w64 (((W.length:Int) - V.1) - r3.1)))+(((W.length:Int) - V.1) - (w64 (((W.length:Int) - V.1) - r3.1)))))).size+((rd ([((0:Int),(runesBytes (cut W (0:Int) ((0:Int)+(V.1 - (0:Int))))))]++B) (w64 (D+1)) Z17).2).size)<|idx (w64 (D+1)) (([((0:Int),(runesBytes (cut W (0:Int) ((0:Int)+(V.1 - (0:Int))))))]++B).length:Int)<|bnd (0:Int) (w64 (((W.length:Int) - V.1) - r3.1)) ((W.length:Int) - V.1)<|bnd (0:Int) (w64 (((x9.length:Int) - V.1) - r3.1)) ((x9.length:Int) - V.1)<|kn C (([((0:Int),(runesBytes (cut W (0:Int) ((0:Int)+(V.1 - (0:Int))))))]++B).set (w64 (D+1)).toNat ((rd ([((0:Int),(runesBytes (cut W (0:Int) ((0:Int)+(V.1 - (0:Int))))))]++B) (w64 (D+1)) Z17).1,((runesBytes (cut W (V.1+(w64 (((W.length:Int) - V.1) - r3.1))) ((V.1+(w64 (((W.length:Int) - V.1) - r3.1)))+(((W.length:Int) - V.1) - (w64 (((W.length:Int) - V.1) - r3.1))))))++(rd ([((0:Int),(runesBytes (cut W (0:Int) ((0:Int)+(V.1 - (0:Int))))))]++B) (w64 (D+1)) Z17).2))) (w64 (D+1)) T E (cut x9 (V.1+(0:Int)) ((V.1+(0:Int))+((w64 (((x9.length:Int) - V.1) - r3.1)) - (0:Int)))) (cut W (V.1+(0:Int)) ((V.1+(0:Int))+((w64 (((W.length:Int) - V.1) - r3.1)) - (0:Int))))) else (kn C ([((0:Int),(runesBytes (cut W (0:Int) ((0:Int)+(V.1 - (0:Int))))))]++B) (w64 (D+1)) T E (cut x9 V.1 (V.1+((x9.length:Int) - V.1))) (cut W V.1 (V.1+((W.length:Int) - V.1)))))) else (bnd (0:Int) V.1 (W.length:Int)<|cM ([((0:Int),(runesBytes (cut W (0:Int) ((0:Int)+(V.1 - (0:Int))))))].length+B.length)<|bnd V.1 (W.length:Int) (W.length:Int)<|bnd V.1 (x9.length:Int) (x9.length:Int)<|(F9 n (cut W V.1 (V.1+((W.length:Int) - V.1))) (cut x9 V.1 (V.1+((x9.length:Int) - V.1)))).bind fun r4=>bif (r4.1 !=(0:Int)) then (bnd (w64 (((W.length:Int) - V.1) - r4.1)) ((W.length:Int) - V.1) ((W.length:Int) - V.1)<|idx (w64 (D+1)) (([((0:Int),(runesBytes (cut W (0:Int) ((0:Int)+(V.1 - (0:Int))))))]++B).length:Int)<|cM ((runesBytes (cut W (V.1+(w64 (((W.length:Int) - V.1) - r4.1))) ((V.1+(w64 (((W.length:Int) - V.1) - r4.1)))+(((W.length:Int) - V.1) - (w64 (((W.length:Int) - V.1) - r4.1)))))).size+((rd ([((0:Int),(runesBytes (cut W (0:Int) ((0:Int)+(V.1 - (0:Int))))))]++B) (w64 (D+1)) Z17).2).size)<|idx (w64 (D+1)) (([((0:Int),(runesBytes (cut W (0:Int) ((0:Int)+(V.1 - (0:Int))))))]++B).length:Int)<|bnd (0:Int) (w64 (((W.length:Int) - V.1) - r4.1)) ((W.length:Int) - V.1)<|bnd (0:Int) (w64 (((x9.length:Int) - V.1) - r4.1)) ((x9.length:Int) - V.1)<|kn C (([((0:Int),(runesBytes (cut W (0:Int) ((0:Int)+(V.1 - (0:Int))))))]++B).set (w64 (D+1)).toNat ((rd ([((0:Int),(runesBytes (cut W (0:Int) ((0:Int)+(V.1 - (0:Int))))))]++B) (w64 (D+1)) Z17).1,((runesBytes (cut W (V.1+(w64 (((W.length:Int) - V.1) - r4.1))) ((V.1+(w64 (((W.length:Int) - V.1) - r4.1)))+(((W.length:Int) - V.1) - (w64 (((W.length:Int) - V.1) - r4.1))))))++(rd ([((0:Int),(runesBytes (cut W (0:Int) ((0:Int)+(V.1 - (0:Int))))))]++B) (w64 (D+1)) Z17).2))) (w64 (D+1)) T E (cut x9 (V.1+(0:Int)) ((V.1+(0:Int))+((w64 (((x9.length:Int) - V.1) - r4.1)) - (0:Int)))) (cut W (V.1+(0:Int)) ((V.1+(0:Int))+((w64 (((W.length:Int) - V.1) - r4.1)) - (0:Int))))) else (kn C ([((0:Int),(runesBytes (cut W (0:Int) ((0:Int)+(V.1 - (0:Int))))))]++B) (w64 (D+1)) T E (cut x9 V.1 (V.1+((x9.length:Int) - V.1))) (cut W V.1 (V.1+((W.length:Int) - V.1)))))) else ((F9 n W x9).bind fun r5=>bif (r5.1 !=(0:Int)) then (bnd (w64 ((W.length:Int) - r5.1)) (W.length:Int) (W.length:Int)<|idx D (B.length:Int)<|cM ((runesBytes (cut W (w64 ((W.length:Int) - r5.1)) ((w64 ((W.length:Int) - r5.1))+((W.length:Int) - (w64 ((W.length:Int) - r5.1)))))).size+((rd B D Z17).2).size)<|idx D (B.length:Int)<|bnd (0:Int) (w64 ((W.length:Int) - r5.1)) (W.length:Int)<|bnd (0:Int) (w64 ((x9.length:Int) - r5.1)) (x9.length:Int)<|kn C (B.set D.toNat ((rd B D Z17).1,((runesBytes (cut W (w64 ((W.length:Int) - r5.1)) ((w64 ((W.length:Int) - r5.1))+((W.length:Int) - (w64 ((W.length:Int) - r5.1))))))++(rd B D Z17).2))) D T E (cut x9 (0:Int) ((0:Int)+((w64 ((x9.length:Int) - r5.1)) - (0:Int)))) (cut W (0:Int) ((0:Int)+((w64 ((W.length:Int) - r5.1)) - (0:Int))))) else (kn C B D T E x9 W))) else (kn C B D T E x9 W)) else (kn C B D T E x9 W)
def M6:FS1 β:=FXs (fR n aH) n eL (some cX) none [] [133978056,133978057]
theorem aR3 (C:Z11) (B:List Z26) (D T E:Int) (x9 W:List Int) (ar:Bool):M6 n aH (AL C B D T E x9 W ar) cx=uM n aH (fun C B D T E x9 W=>cx.nrm (cO C B D T E x9 W)) C B D T E x9 W ar:=by kernel_rfl
def AZ (n:Nat) (aH:bW) (kn:Z11→List Z26→Int→Int→Int→Option β) (C:Z11) (B:List Z26) (D T E:Int) (x9 W:List Int):Option β:=bif (T==(0:Int)) then ((qN n B (w64 (D - E)) (w64 (T+E)) [((1:Int),(runesBytes W))]).bind fun V=>kn C V.1 D T E) else (bif (E==(0:Int)) then ((qN n B (w64 (D - T)) (w64 (T+E)) [((-1:Int),(runesBytes x9))]).bind fun r2=>kn C r2.1 D T E) else ((qN n B (w64 ((w64 (D - T)) - E)) (w64 (T+E)) [((-1:Int),(runesBytes x9)),((1:Int),(runesBytes W))]).bind fun r3=>kn C r3.1 D T E))
def I2:FS1 β:=FXs (fR n aH) n eL (some OV) none [] [267956116,267956117]
theorem aC7 (C:Z11) (B:List Z26) (D T E:Int) (x9 W:List Int):I2 n aH (cO C B D T E x9 W) cx=AZ n aH (fun C B D T E=>cx.nrm (G1 C B D T E)) C B D T E x9 W:=by kernel_rfl
def yM (n:Nat) (aH:bW) (kn:Z11→List Z26→Int→Int→Option β) (C:Z11) (B:List Z26) (D T E:Int):Option β:=bif (T !=(0:Int)) then (kn C B (w64 ((w64 ((w64 ((w64 (D - T)) - E))+(1:Int)))+(1:Int))) E) else (kn C B (w64 ((w64 ((w64 (D - T)) - E))+(1:Int))) E)
def O6:FS1 β:=FXs (fR n aH) n eL (some NX) none [] [267956118,1071824476,1071824477]
theorem aH0 (C:Z11) (B:List Z26) (D T E:Int):O6 n aH (G1 C B D T E) cx=yM n aH (fun C B D E=>cx.nrm (ZK C B D E)) C B D T E:=by kernel_rfl
def zN (n:Nat) (aH:bW) (kn:Z11→List Z26→Int→Option β) (C:Z11) (B:List Z26) (D E:Int):Option β:=bif (E !=(0:Int)) then (kn C B (w64 (D+1))) else (kn C B D)
def N5:FS1 β:=FXs (fR n aH) n eL (some uF) none [] [1071824478,1071824479]
theorem aQ0 (C:Z11) (B:List Z26) (D E:Int):N5 n aH (ZK C B D E) cx=zN n aH (fun C B D=>cx.nrm (sN C B D)) C B D E:=by kernel_rfl
def yW (kn:Z11→List Z26→Int→Option β) (C:Z11) (B:List Z26) (D T E:Int) (x9 W:List Int) (ar:Bool):Option β:=uM n aH (fun C B D T E x9 W=>AZ n aH (fun C B D T E=>yM n aH (fun C B D E=>zN n aH kn C B D E) C B D T E) C B D T E x9 W) C B D T E x9 W ar
def ME (s:FState) (cx:Cx β):Option β:=M6 n aH s {cx with nrm:=fun s=>I2 n aH s {cx with nrm:=fun s=>O6 n aH s {cx with nrm:=fun s=>N5 n aH s cx}}}
theorem aQ3 (C:Z11) (B:List Z26) (D T E:Int) (x9 W:List Int) (ar:Bool):ME n aH (AL C B D T E x9 W ar) cx=yW n aH (fun C B D=>cx.nrm (sN C B D)) C B D T E x9 W ar:=by simp only [ME,yW,aR3,aC7,aH0,aQ0]
def VU (n:Nat) (aH:bW) (kn:Z11→List Z26→Int→Option β) (C:Z11) (B:List Z26) (D T E:Int) (x9 W:List Int) (ar:Bool):Option β:=bif (D !=(0:Int)) then (idx (w64 (D - 1)) (B.length:Int)<|bif ((rd B (w64 (D - 1)) Z17).1==(0:Int)) then (idx (w64 (D - 1)) (B.length:Int)<|idx D (B.length:Int)<|cM (((rd B (w64 (D - 1)) Z17).2).size+((rd B D Z17).2).size)<|idx (w64 (D - 1)) (B.length:Int)<|bnd (0:Int) D ((B.set (w64 (D - 1)).toNat ((rd B (w64 (D - 1)) Z17).1,((rd B (w64 (D - 1)) Z17).2++(rd B D Z17).2))).length:Int)<|bnd (w64 (D+1)) ((B.set (w64 (D - 1)).toNat ((rd B (w64 (D - 1)) Z17).1,((rd B (w64 (D - 1)) Z17).2++(rd B D Z17).2))).length:Int) ((B.set (w64 (D - 1)).toNat ((rd B (w64 (D - 1)) Z17).1,((rd B (w64 (D - 1)) Z17).2++(rd B D Z17).2))).length:Int)<|cM ((cut (B.set (w64 (D - 1)).toNat ((rd B (w64 (D - 1)) Z17).1,((rd B (w64 (D - 1)) Z17).2++(rd B D Z17).2))) (0:Int) ((0:Int)+(D - (0:Int)))).length+(cut (B.set (w64 (D - 1)).toNat ((rd B (w64 (D - 1)) Z17).1,((rd B (w64 (D - 1)) Z17).2++(rd B D Z17).2))) (w64 (D+1)) ((w64 (D+1))+(((B.set (w64 (D - 1)).toNat ((rd B (w64 (D - 1)) Z17).1,((rd B (w64 (D - 1)) Z17).2++(rd B D Z17).2))).length:Int) - (w64 (D+1))))).length)<|kn C ((cut (B.set (w64 (D - 1)).toNat ((rd B (w64 (D - 1)) Z17).1,((rd B (w64 (D - 1)) Z17).2++(rd B D Z17).2))) (0:Int) ((0:Int)+(D - (0:Int))))++(cut (B.set (w64 (D - 1)).toNat ((rd B (w64 (D - 1)) Z17).1,((rd B (w64 (D - 1)) Z17).2++(rd B D Z17).2))) (w64 (D+1)) ((w64 (D+1))+(((B.set (w64 (D - 1)).toNat ((rd B (w64 (D - 1)) Z17).1,((rd B (w64 (D - 1)) Z17).2++(rd B D Z17).2))).length:Int) - (w64 (D+1)))))) D) else (kn C B (w64 (D+1)))) else (kn C B (w64 (D+1)))
def K3:FS1 β:=FXs (fR n aH) n eL (some uF) none [] [66989030,66989031]
theorem U9 (C:Z11) (B:List Z26) (D T E:Int) (x9 W:List Int) (ar:Bool):K3 n aH (AL C B D T E x9 W ar) cx=VU n aH (fun C B D=>cx.nrm (sN C B D)) C B D T E x9 W ar:=by kernel_rfl
def FF (kn:Z11→List Z26→Int→Option β) (C:Z11) (B:List Z26) (D T E:Int) (x9 W:List Int) (ar:Bool):Option β:=bif ar then yW n aH kn C B D T E x9 W ar else VU n aH kn C B D T E x9 W ar
def MX (s:FState) (cx:Cx β):Option β:=asBool (ev s (kT (nav eL [1,1,1,1,1,1,1,1,0,0,0,1,0,1,0,1,1,1,1,1,0,0,1]))) fun t=>cond t (ME n aH s cx) (K3 n aH s cx)
theorem aS6 (C:Z11) (B:List Z26) (D T E:Int) (x9 W:List Int) (ar:Bool):MX n aH (AL C B D T E x9 W ar) cx=FF n aH (fun C B D=>cx.nrm (sN C B D)) C B D T E x9 W ar:=by
  simp only [MX,FF,aQ3,U9]
  kernel_rfl
def FY (n:Nat) (aH:bW) (ap:Z11→List Z26→Int→Int→Int→List Int→List Int→Option β) (C:Z11) (B:List Z26) (D:Int):Option β:=ap C B D (0:Int) (0:Int) [] []
def G5:FS1 β:=FXs (fR n aH) n eL none none [(2,cX)] [16747258,33494518,66989038,133978078,133978079]
theorem aP6 (C:Z11) (B:List Z26) (D:Int):G5 n aH (sN C B D) cx=FY n aH (fun C B D T E x9 W=>cx.ex 2 (cO C B D T E x9 W)) C B D:=by kernel_rfl
def FH (ap:Z11→List Z26→Int→Int→Int→List Int→List Int→Option β) (C:Z11) (B:List Z26) (D T E:Int) (x9 W:List Int) (aq:Bool):Option β:=a7 n aH (fun C B D T E x9 W ar=>FF n aH (fun C B D=>FY n aH ap C B D) C B D T E x9 W ar) C B D T E x9 W aq
def KB (s:FState) (cx:Cx β):Option β:=bH3 n aH s {cx with nrm:=fun s=>MX n aH s {cx with nrm:=fun s=>G5 n aH s cx}}
theorem d5 (C:Z11) (B:List Z26) (D T E:Int) (x9 W:List Int) (aq:Bool):KB n aH (AJ C B D T E x9 W aq) cx=FH n aH (fun C B D T E x9 W=>cx.ex 2 (cO C B D T E x9 W)) C B D T E x9 W aq:=by simp only [KB,FH,cE7,aS6,aP6]
def aY5 (n:Nat) (aH:bW) (kn:Z11→List Z26→Int→Int→Int→List Int→List Int→Option β) (C:Z11) (B:List Z26) (D T E:Int) (x9 W:List Int) (aq:Bool):Option β:=kn C B D T E x9 W
def F6:FS1 β:=FXs (fR n aH) n eL (some cX) none [] [4186815]
theorem j7 (C:Z11) (B:List Z26) (D T E:Int) (x9 W:List Int) (aq:Bool):F6 n aH (AJ C B D T E x9 W aq) cx=aY5 n aH (fun C B D T E x9 W=>cx.nrm (cO C B D T E x9 W)) C B D T E x9 W aq:=by kernel_rfl
def GK (kn ap:Z11→List Z26→Int→Int→Int→List Int→List Int→Option β) (C:Z11) (B:List Z26) (D T E:Int) (x9 W:List Int) (aq:Bool):Option β:=bif aq then FH n aH ap C B D T E x9 W aq else aY5 n aH kn C B D T E x9 W aq
def LA (s:FState) (cx:Cx β):Option β:=asBool (ev s (kT (nav eL [1,1,1,1,1,1,1,1,0,0,0,1,0,1,0,1,1,1,1,1]))) fun t=>cond t (KB n aH s cx) (F6 n aH s cx)
theorem g7 (C:Z11) (B:List Z26) (D T E:Int) (x9 W:List Int) (aq:Bool):LA n aH (AJ C B D T E x9 W aq) cx=GK n aH (fun C B D T E x9 W=>cx.nrm (cO C B D T E x9 W)) (fun C B D T E x9 W=>cx.ex 2 (cO C B D T E x9 W)) C B D T E x9 W aq:=by
  simp only [LA,GK,d5,j7]
  kernel_rfl
def GV (kn ap:Z11→List Z26→Int→Int→Int→List Int→List Int→Option β) (C:Z11) (B:List Z26) (D T E:Int) (x9 W:List Int) (ak:Int) (bf:Bool):Option β:=aC9 n aH (fun C B D T E x9 W aq=>GK n aH kn ap C B D T E x9 W aq) C B D T E x9 W ak bf
def NB (s:FState) (cx:Cx β):Option β:=bH8 n aH s {cx with nrm:=fun s=>LA n aH s cx}
theorem aP8 (C:Z11) (B:List Z26) (D T E:Int) (x9 W:List Int) (ak:Int) (bf:Bool):NB n aH (BN C B D T E x9 W ak bf) cx=GV n aH (fun C B D T E x9 W=>cx.nrm (cO C B D T E x9 W)) (fun C B D T E x9 W=>cx.ex 2 (cO C B D T E x9 W)) C B D T E x9 W ak bf:=by simp only [NB,GV,bR2,g7]
def HE (kn ap:Z11→List Z26→Int→Int→Int→List Int→List Int→Option β) (C:Z11) (B:List Z26) (D T E:Int) (x9 W:List Int) (ak:Int) (bf:Bool):Option β:=bif bf then n9 n aH ap C B D T E x9 W ak bf else GV n aH kn ap C B D T E x9 W ak bf
def KZ (s:FState) (cx:Cx β):Option β:=asBool (ev s (kT (nav eL [1,1,1,1,1,1,1,1,0,0,0,1,0,1,0,1,1,1]))) fun t=>cond t (aY7 n aH s cx) (NB n aH s cx)
theorem aJ9 (C:Z11) (B:List Z26) (D T E:Int) (x9 W:List Int) (ak:Int) (bf:Bool):KZ n aH (BN C B D T E x9 W ak bf) cx=HE n aH (fun C B D T E x9 W=>cx.nrm (cO C B D T E x9 W)) (fun C B D T E x9 W=>cx.ex 2 (cO C B D T E x9 W)) C B D T E x9 W ak bf:=by
  simp only [KZ,HE,bY2,aP8]
  kernel_rfl
def EX (kn ap:Z11→List Z26→Int→Int→Int→List Int→List Int→Option β) (C:Z11) (B:List Z26) (D T E:Int) (x9 W:List Int) (ak:Int) (aa:Bool):Option β:=aL2 n aH (fun C B D T E x9 W ak bf=>HE n aH kn ap C B D T E x9 W ak bf) C B D T E x9 W ak aa
def JU (s:FState) (cx:Cx β):Option β:=bN7 n aH s {cx with nrm:=fun s=>KZ n aH s cx}
theorem m6 (C:Z11) (B:List Z26) (D T E:Int) (x9 W:List Int) (ak:Int) (aa:Bool):JU n aH (BM C B D T E x9 W ak aa) cx=EX n aH (fun C B D T E x9 W=>cx.nrm (cO C B D T E x9 W)) (fun C B D T E x9 W=>cx.ex 2 (cO C B D T E x9 W)) C B D T E x9 W ak aa:=by simp only [JU,EX,cB7,aJ9]
def GC (kn ap:Z11→List Z26→Int→Int→Int→List Int→List Int→Option β) (C:Z11) (B:List Z26) (D T E:Int) (x9 W:List Int) (ak:Int) (aa:Bool):Option β:=bif aa then V9 n aH ap C B D T E x9 W ak aa else EX n aH kn ap C B D T E x9 W ak aa
def KU (s:FState) (cx:Cx β):Option β:=asBool (ev s (kT (nav eL [1,1,1,1,1,1,1,1,0,0,0,1,0,1,0,1]))) fun t=>cond t (bE7 n aH s cx) (JU n aH s cx)
theorem T9 (C:Z11) (B:List Z26) (D T E:Int) (x9 W:List Int) (ak:Int) (aa:Bool):KU n aH (BM C B D T E x9 W ak aa) cx=GC n aH (fun C B D T E x9 W=>cx.nrm (cO C B D T E x9 W)) (fun C B D T E x9 W=>cx.ex 2 (cO C B D T E x9 W)) C B D T E x9 W ak aa:=by
  simp only [KU,GC,cA8,m6]
  kernel_rfl
def GJ (kn ap:Z11→List Z26→Int→Int→Int→List Int→List Int→Option β) (C:Z11) (B:List Z26) (D T E:Int) (x9 W:List Int) (ak:Int):Option β:=c9 n aH (fun C B D T E x9 W ak aa=>GC n aH kn ap C B D T E x9 W ak aa) C B D T E x9 W ak
def KW (s:FState) (cx:Cx β):Option β:=bG9 n aH s {cx with nrm:=fun s=>KU n aH s cx}
theorem aR2 (C:Z11) (B:List Z26) (D T E:Int) (x9 W:List Int) (ak:Int):KW n aH (FA C B D T E x9 W ak) cx=GJ n aH (fun C B D T E x9 W=>cx.nrm (cO C B D T E x9 W)) (fun C B D T E x9 W=>cx.ex 2 (cO C B D T E x9 W)) C B D T E x9 W ak:=by simp only [KW,GJ,bQ5,T9]
def UH (kn:Z11→List Z26→Int→Int→Int→List Int→List Int→Option β) (C:Z11) (B:List Z26) (D T E:Int) (x9 W:List Int) (ak:Int):Option β:=GJ n aH kn kn C B D T E x9 W ak
def D6 (s:FState) (cx:Cx β):Option β:=KW n aH s {cx with ex:=fun j s=>bif Nat.beq j 2 then cx.nrm s else cx.ex j s}
theorem U1 (C:Z11) (B:List Z26) (D T E:Int) (x9 W:List Int) (ak:Int):D6 n aH (FA C B D T E x9 W ak) cx=UH n aH (fun C B D T E x9 W=>cx.nrm (cO C B D T E x9 W)) C B D T E x9 W ak:=aR2 n aH _ C B D T E x9 W ak
def FU (kn:Z11→List Z26→Int→Int→Int→List Int→List Int→Option β) (C:Z11) (B:List Z26) (D T E:Int) (x9 W:List Int):Option β:=aU6 n aH (fun C B D T E x9 W ak=>UH n aH kn C B D T E x9 W ak) C B D T E x9 W
def LY (s:FState) (cx:Cx β):Option β:=aX4 n aH s {cx with nrm:=fun s=>D6 n aH s cx}
theorem y7 (C:Z11) (B:List Z26) (D T E:Int) (x9 W:List Int):LY n aH (cO C B D T E x9 W) cx=FU n aH (fun C B D T E x9 W=>cx.nrm (cO C B D T E x9 W)) C B D T E x9 W:=by simp only [LY,FU,cB0,U1]
def VV (kn:Z11→List Z26→Int→Int→Int→List Int→List Int→Option β) (C:Z11) (B:List Z26) (D T E:Int) (x9 W:List Int):Option β:=FU n aH kn C B D T E x9 W
def ZO (s:FState) (cx:Cx β):Option β:=LY n aH s {cx with ex:=fun j s=>bif Nat.beq j 1 then cx.nrm s else cx.ex j s}
theorem aG4 (C:Z11) (B:List Z26) (D T E:Int) (x9 W:List Int):ZO n aH (cO C B D T E x9 W) cx=VV n aH (fun C B D T E x9 W=>cx.nrm (cO C B D T E x9 W)) C B D T E x9 W:=y7 n aH _ C B D T E x9 W
def zU (kn:Z11→List Z26→Int→Int→Int→List Int→List Int→Option β) (ae:Z11→List Z26→Option β) (C:Z11) (B:List Z26) (D T E:Int) (x9 W:List Int):Option β:=QT n aH (fun C B D T E x9 W=>VV n aH kn C B D T E x9 W) ae C B D T E x9 W
def BH (s:FState) (cx:Cx β):Option β:=bM6 n aH s {cx with nrm:=fun s=>ZO n aH s cx}
theorem aA7 (C:Z11) (B:List Z26) (D T E:Int) (x9 W:List Int):BH n aH (cO C B D T E x9 W) cx=zU n aH (fun C B D T E x9 W=>cx.nrm (cO C B D T E x9 W)) (fun C B=>cx.ex 0 (nU C B)) C B D T E x9 W:=by simp only [BH,zU,bY3,aG4]
def g137_30L (n:Nat) (aH:bW) (ae:Z11→List Z26→Option β):Nat→Z11→List Z26→Int→Int→Int→List Int→List Int→Option β
  | 0,_,_,_,_,_,_,_=>none
  | m+1,C,B,D,T,E,x9,W=>zU n aH (g137_30L n aH ae m) ae C B D T E x9 W
def UX (ae:Z11→List Z26→Option β) (C:Z11) (B:List Z26) (D T E:Int) (x9 W:List Int):Option β:=g137_30L n aH ae n C B D T E x9 W
def M8 (s:FState) (cx:Cx β):Option β:=bQ (fun again s=>BH n aH s {cx with nrm:=again}) n s
theorem D9 (n:Nat) (aH:bW) (cx:Cx β):∀(m:Nat) (C:Z11) (B:List Z26) (D T E:Int) (x9 W:List Int),bQ (fun again s=>BH n aH s {cx with nrm:=again}) m (cO C B D T E x9 W)=g137_30L n aH (fun C B=>cx.ex 0 (nU C B)) m C B D T E x9 W:=by
  intro m
  induction m with
  | zero=>intros;rfl
  | succ m ih=>intros;simp only [bQ,g137_30L,aA7,ih]
theorem aC5 (C:Z11) (B:List Z26) (D T E:Int) (x9 W:List Int):M8 n aH (cO C B D T E x9 W) cx=UX n aH (fun C B=>cx.ex 0 (nU C B)) C B D T E x9 W:=D9 n aH cx n C B D T E x9 W
def SV (kn:Z11→List Z26→Option β) (C:Z11) (B:List Z26) (D T E:Int) (x9 W:List Int):Option β:=UX n aH kn C B D T E x9 W
def YT (s:FState) (cx:Cx β):Option β:=M8 n aH s {cx with ex:=fun j s=>bif Nat.beq j 0 then cx.nrm s else cx.ex j s}
theorem j5 (C:Z11) (B:List Z26) (D T E:Int) (x9 W:List Int):YT n aH (cO C B D T E x9 W) cx=SV n aH (fun C B=>cx.nrm (nU C B)) C B D T E x9 W:=aC5 n aH _ C B D T E x9 W
def EW (n:Nat) (aH:bW) (kn:Z11→List Z26→Option β) (C:Z11) (B:List Z26):Option β:=idx (w64 ((B.length:Int) - 1)) (B.length:Int)<|bif ((((rd B (w64 ((B.length:Int) - 1)) Z17).2).size:Int)==(0:Int)) then (bnd (0:Int) (w64 ((B.length:Int) - 1)) (B.length:Int)<|kn C (cut B (0:Int) ((0:Int)+((w64 ((B.length:Int) - 1)) - (0:Int))))) else (kn C B)
def G9:FS1 β:=FXs (fR n aH) n eL (some tB) none [] [4092,4093]
theorem aS8 (C:Z11) (B:List Z26):G9 n aH (nU C B) cx=EW n aH (fun C B=>cx.nrm (nU C B)) C B:=by kernel_rfl
def BD (n:Nat) (aH:bW) (kn:Z11→List Z26→Int→Bool→Option β) (C:Z11) (B:List Z26):Option β:=kn C B (1:Int) false
def I5:FS1 β:=FXs (fR n aH) n eL (some tH) none [] [4094,8190]
theorem U0 (C:Z11) (B:List Z26):I5 n aH (nU C B) cx=BD n aH (fun C B D ac=>cx.nrm (pI C B D ac)) C B:=by kernel_rfl
def YJ (n:Nat) (aH:bW) (kn:Z11→List Z26→Int→Bool→Option β) (bl:Z11→List Z26→Bool→Option β) (C:Z11) (B:List Z26) (D:Int) (ac:Bool):Option β:=bif (decide (D < (w64 ((B.length:Int) - 1)))) then (idx (w64 (D - 1)) (B.length:Int)<|bif ((rd B (w64 (D - 1)) Z17).1==(0:Int)) then (idx (w64 (D+1)) (B.length:Int)<|bif ((rd B (w64 (D+1)) Z17).1==(0:Int)) then (idx D (B.length:Int)<|idx (w64 (D - 1)) (B.length:Int)<|(aI5 n ((rd B D Z17).2) ((rd B (w64 (D - 1)) Z17).2)).bind fun V=>bif V.1 then (idx (w64 (D - 1)) (B.length:Int)<|idx D (B.length:Int)<|idx D (B.length:Int)<|idx (w64 (D - 1)) (B.length:Int)<|bnd (0:Int) (w64 ((((rd B D Z17).2).size:Int) - (((rd B (w64 (D - 1)) Z17).2).size:Int))) (((rd B D Z17).2).size:Int)<|cM (((rd B (w64 (D - 1)) Z17).2).size+(bE ((rd B D Z17).2) (0:Int) (w64 ((((rd B D Z17).2).size:Int) - (((rd B (w64 (D - 1)) Z17).2).size:Int)))).size)<|idx D (B.length:Int)<|idx (w64 (D - 1)) ((B.set D.toNat ((rd B D Z17).1,((rd B (w64 (D - 1)) Z17).2++(bE ((rd B D Z17).2) (0:Int) (w64 ((((rd B D Z17).2).size:Int) - (((rd B (w64 (D - 1)) Z17).2).size:Int))))))).length:Int)<|idx (w64 (D+1)) ((B.set D.toNat ((rd B D Z17).1,((rd B (w64 (D - 1)) Z17).2++(bE ((rd B D Z17).2) (0:Int) (w64 ((((rd B D Z17).2).size:Int) - (((rd B (w64 (D - 1)) Z17).2).size:Int))))))).length:Int)<|cM (((rd (B.set D.toNat ((rd B D Z17).1,((rd B (w64 (D - 1)) Z17).2++(bE ((rd B D Z17).2) (0:Int) (w64 ((((rd B D Z17).2).size:Int) - (((rd B (w64 (D - 1)) Z17).2).size:Int))))))) (w64 (D - 1)) Z17).2).size+((rd (B.set D.toNat ((rd B D Z17).1,((rd B (w64 (D - 1)) Z17).2++(bE ((rd B D Z17).2) (0:Int) (w64 ((((rd B D Z17).2).size:Int) - (((rd B (w64 (D - 1)) Z17).2).size:Int))))))) (w64 (D+1)) Z17).2).size)<|idx (w64 (D+1)) ((B.set D.toNat ((rd B D Z17).1,((rd B (w64 (D - 1)) Z17).2++(bE ((rd B D Z17).2) (0:Int) (w64 ((((rd B D Z17).2).size:Int) - (((rd B (w64 (D - 1)) Z17).2).size:Int))))))).length:Int)<|(qN n ((B.set D.toNat ((rd B D Z17).1,((rd B (w64 (D - 1)) Z17).2++(bE ((rd B D Z17).2) (0:Int) (w64 ((((rd B D Z17).2).size:Int) - (((rd B (w64 (D - 1)) Z17).2).size:Int))))))).set (w64 (D+1)).toNat ((rd (B.set D.toNat ((rd B D Z17).1,((rd B (w64 (D - 1)) Z17).2++(bE ((rd B D Z17).2) (0:Int) (w64 ((((rd B D Z17).2).size:Int) - (((rd B (w64 (D - 1)) Z17).2).size:Int))))))) (w64 (D+1)) Z17).1,((rd (B.set D.toNat ((rd B D Z17).1,((rd B (w64 (D - 1)) Z17).2++(bE ((rd B D Z17).2) (0:Int) (w64 ((((rd B D Z17).2).size:Int) - (((rd B (w64 (D - 1)) Z17).2).size:Int))))))) (w64 (D - 1)) Z17).2++(rd (B.set D.toNat ((rd B D Z17).1,((rd B (w64 (D - 1)) Z17).2++(bE ((rd B D Z17).2) (0:Int) (w64 ((((rd B D Z17).2).size:Int) - (((rd B (w64 (D - 1)) Z17).2).size:Int))))))) (w64 (D+1)) Z17).2))) (w64 (D - 1)) (1:Int) []).bind fun r2=>kn C r2.1 (w64 (D+1)) true) else (idx D (B.length:Int)<|idx (w64 (D+1)) (B.length:Int)<|(cL9 n ((rd B D Z17).2) ((rd B (w64 (D+1)) Z17).2)).bind fun r3=>bif r3.1 then (idx (w64 (D - 1)) (B.length:Int)<|idx (w64 (D+1)) (B.length:Int)<|cM (((rd B (w64 (D - 1)) Z17).2).size+((rd B (w64 (D+1)) Z17).2).size)<|idx (w64 (D - 1)) (B.length:Int)<|idx D ((B.set (w64 (D - 1)).toNat ((rd B (w64 (D - 1)) Z17).1,((rd B (w64 (D - 1)) Z17).2++(rd B (w64 (D+1)) Z17).2))).length:Int)<|idx (w64 (D+1)) ((B.set (w64 (D - 1)).toNat ((rd B (w64 (D - 1)) Z17).1,((rd B (w64 (D - 1)) Z17).2++(rd B (w64 (D+1)) Z17).2))).length:Int)<|bnd (((rd (B.set (w64 (D - 1)).toNat ((rd B (w64 (D - 1)) Z17).1,((rd B (w64 (D - 1)) Z17).2++(rd B (w64 (D+1)) Z17).2))) (w64 (D+1)) Z17).2).size:Int) (((rd (B.set (w64 (D - 1)).toNat ((rd B (w64 (D - 1)) Z17).1,((rd B (w64 (D - 1)) Z17).2++(rd B (w64 (D+1)) Z17).2))) D Z17).2).size:Int) (((rd (B.set (w64 (D - 1)).toNat ((rd B (w64 (D - 1)) Z17).1,((rd B (w64 (D - 1)) Z17).2++(rd B (w64 (D+1)) Z17).2))) D Z17).2).size:Int)<|idx (w64 (D+1)) ((B.set (w64 (D - 1)).toNat ((rd B (w64 (D - 1)) Z17).1,((rd B (w64 (D - 1)) Z17).2++(rd B (w64 (D+1)) Z17).2))).length:Int)<|cM ((bE ((rd (B.set (w64 (D - 1)).toNat ((rd B (w64 (D - 1)) Z17).1,((rd B (w64 (D - 1)) Z17).2++(rd B (w64 (D+1)) Z17).2))) D Z17).2) (((rd (B.set (w64 (D - 1)).toNat ((rd B (w64 (D - 1)) Z17).1,((rd B (w64 (D - 1)) Z17).2++(rd B (w64 (D+1)) Z17).2))) (w64 (D+1)) Z17).2).size:Int) (((rd (B.set (w64 (D - 1)).toNat ((rd B (w64 (D - 1)) Z17).1,((rd B (w64 (D - 1)) Z17).2++(rd B (w64 (D+1)) Z17).2))) D Z17).2).size:Int)).size+((rd (B.set (w64 (D - 1)).toNat ((rd B (w64 (D - 1)) Z17).1,((rd B (w64 (D - 1)) Z17).2++(rd B (w64 (D+1)) Z17).2))) (w64 (D+1)) Z17).2).size)<|idx D ((B.set (w64 (D - 1)).toNat ((rd B (w64 (D - 1)) Z17).1,((rd B (w64 (D - 1)) Z17).2++(rd B (w64 (D+1)) Z17).2))).length:Int)<|(qN n ((B.set (w64 (D - 1)).toNat ((rd B (w64 (D - 1)) Z17).1,((rd B (w64 (D - 1)) Z17).2++(rd B (w64 (D+1)) Z17).2))).set D.toNat ((rd (B.set (w64 (D - 1)).toNat ((rd B (w64 (D - 1)) Z17).1,((rd B (w64 (D - 1)) Z17).2++(rd B (w64 (D+1)) Z17).2))) D Z17).1,((bE ((rd (B.set (w64 (D - 1)).toNat ((rd B (w64 (D - 1)) Z17).1,((rd B (w64 (D - 1)) Z17).2++(rd B (w64 (D+1)) Z17).2))) D Z17).2) (((rd (B.set (w64 (D - 1)).toNat ((rd B (w64 (D - 1)) Z17).1,((rd B (w64 (D - 1)) Z17).2++(rd B (w64 (D+1)) Z17).2))) (w64 (D+1)) Z17).2).size:Int) (((rd (B.set (w64 (D - 1)).toNat ((rd B (w64 (D - 1)) Z17).1,((rd B (w64 (D - 1)) Z17).2++(rd B (w64 (D+1)) Z17).2))) D Z17).2).size:Int))++(rd (B.set (w64 (D - 1)).toNat ((rd B (w64 (D - 1)) Z17).1,((rd B (w64 (D - 1)) Z17).2++(rd B (w64 (D+1)) Z17).2))) (w64 (D+1)) Z17).2))) (w64 (D+1)) (1:Int) []).bind fun r4=>kn C r4.1 (w64 (D+1)) true) else (kn C B (w64 (D+1)) ac))) else (kn C B (w64 (D+1)) ac)) else (kn C B (w64 (D+1)) ac)) else (bl C B ac)
def MS:FS1 β:=FXs (fR n aH) n eL (some tH) none [(3,tS)] [262112,262113,131057]
theorem aB2 (C:Z11) (B:List Z26) (D:Int) (ac:Bool):MS n aH (pI C B D ac) cx=YJ n aH (fun C B D ac=>cx.nrm (pI C B D ac)) (fun C B ac=>cx.ex 3 (sR C B ac)) C B D ac:=by kernel_rfl
def g137_35L (n:Nat) (aH:bW) (bl:Z11→List Z26→Bool→Option β):Nat→Z11→List Z26→Int→Bool→Option β
  | 0,_,_,_,_=>none
  | m+1,C,B,D,ac=>YJ n aH (g137_35L n aH bl m) bl C B D ac
def UM (bl:Z11→List Z26→Bool→Option β) (C:Z11) (B:List Z26) (D:Int) (ac:Bool):Option β:=g137_35L n aH bl n C B D ac
def N6 (s:FState) (cx:Cx β):Option β:=bQ (fun again s=>MS n aH s {cx with nrm:=again}) n s
theorem M1 (n:Nat) (aH:bW) (cx:Cx β):∀(m:Nat) (C:Z11) (B:List Z26) (D:Int) (ac:Bool),bQ (fun again s=>MS n aH s {cx with nrm:=again}) m (pI C B D ac)=g137_35L n aH (fun C B ac=>cx.ex 3 (sR C B ac)) m C B D ac:=by
  intro m
  induction m with
  | zero=>intros;rfl
  | succ m ih=>intros;simp only [bQ,g137_35L,aB2,ih]
theorem aO8 (C:Z11) (B:List Z26) (D:Int) (ac:Bool):N6 n aH (pI C B D ac) cx=UM n aH (fun C B ac=>cx.ex 3 (sR C B ac)) C B D ac:=M1 n aH cx n C B D ac
def zD (kn:Z11→List Z26→Bool→Option β) (C:Z11) (B:List Z26) (D:Int) (ac:Bool):Option β:=UM n aH kn C B D ac
def M4 (s:FState) (cx:Cx β):Option β:=N6 n aH s {cx with ex:=fun j s=>bif Nat.beq j 3 then cx.nrm s else cx.ex j s}
theorem aF8 (C:Z11) (B:List Z26) (D:Int) (ac:Bool):M4 n aH (pI C B D ac) cx=zD n aH (fun C B ac=>cx.nrm (sR C B ac)) C B D ac:=aO8 n aH _ C B D ac
def tM (n:Nat) (aH:bW) (kr:List Z26→Option β) (C:Z11) (B:List Z26) (ac:Bool):Option β:=bif ac then ((aH (C,(B,()))).bind fun V=>kr V.1) else (kr B)
def J9:FS1 β:=FXs (fR n aH) n eL none (some sC) [] [65532,65533,65534,65535]
theorem aI7 (C:Z11) (B:List Z26) (ac:Bool):J9 n aH (sR C B ac) cx=tM n aH (fun x4=>cx.ret (bD5 x4)) C B ac:=by kernel_rfl
def FJ (kr:List Z26→Option β) (C:Z11) (B:List Z26):Option β:=aV1 n aH (fun C B D T E x9 W=>SV n aH (fun C B=>EW n aH (fun C B=>BD n aH (fun C B D ac=>zD n aH (fun C B ac=>tM n aH kr C B ac) C B D ac) C B) C B) C B D T E x9 W) C B
def xV (s:FState) (cx:Cx β):Option β:=bA6 n aH s {cx with nrm:=fun s=>YT n aH s {cx with nrm:=fun s=>G9 n aH s {cx with nrm:=fun s=>I5 n aH s {cx with nrm:=fun s=>M4 n aH s {cx with nrm:=fun s=>J9 n aH s cx}}}}}
theorem w8 (C:Z11) (B:List Z26):xV n aH (WL C B) cx=FJ n aH (fun x4=>cx.ret (bD5 x4)) C B:=by simp only [xV,FJ,bZ1,j5,aS8,U0,aF8,aI7]
def TC (C:Z11) (B:List Z26):Option (DenR [.rw Z22 115]):=FJ n aH (fun x4=>some (x4,())) C B
def bD2 (d:DenA kJ):Option (DenR hQ):=TC n aH d.1 d.2.1
def dO5:Sk:=(.nd (.fin none none none [] .leaf) (.nd (.fin none none none [] .leaf) (.nd (.fin none none none [] .leaf) (.nd (.fin none none none [] .leaf) (.nd (.fin none none none [] .leaf) (.nd (.fin none none none [] .leaf) (.nd (.fin none none none [] .leaf) (.nd (.fin none (some cX) none [] .leaf) (.nd (.nd (.nd (.nd (.nd (.fin none none none [(0,tB)] .leaf) (.fin none (some cX) none [(0,tB)] .leaf)) (.nd (.nd (.fin none (some M7) none [] .leaf) (.nd (.nd (.fin none (some B5) none [] .leaf) (.nd (.nd (.fin none none none [(2,cX)] .leaf) (.nd (.fin none none none [(2,cX)] .leaf) (.nd (.fin none none none [(2,cX)] .leaf) (.fin none none none [(2,cX)] .leaf)))) (.nd (.fin none (some D7) none [] .leaf) (.nd (.nd (.fin none none none [(2,cX)] .leaf) (.nd (.fin none none none [(2,cX)] .leaf) (.nd (.fin none none none [(2,cX)] .leaf) (.fin none none none [(2,cX)] .leaf)))) (.nd (.fin none (some N4) none [] .leaf) (.nd (.nd (.nd (.fin none (some J6) none [] .leaf) (.nd (.nd (.nd (.fin none none none [] .leaf) (.fin none (some cX) none [] .leaf)) (.nd (.nd (.fin none none none [] .leaf) (.fin none (some OV) none [] .leaf)) (.nd (.fin none none none [] .leaf) (.nd (.nd (.fin none none none [] .leaf) (.fin none (some NX) none [] .leaf)) (.nd (.fin none none none [] .leaf) (.fin none (some uF) none [] .leaf)))))) (.nd (.fin none none none [] .leaf) (.fin none (some uF) none [] .leaf)))) (.nd (.fin none none none [(2,cX)] .leaf) (.nd (.fin none none none [(2,cX)] .leaf) (.nd (.fin none none none [(2,cX)] .leaf) (.nd (.fin none none none [(2,cX)] .leaf) (.fin none none none [(2,cX)] .leaf)))))) (.fin none (some cX) none [] .leaf))))))) .leaf)) .leaf)) .leaf) .leaf) (.nd (.nd (.fin none none none [] .leaf) (.fin none (some tB) none [] .leaf)) (.nd (.fin none none none [] .leaf) (.nd (.fin none (some tH) none [] .leaf) (.nd (.nd (.nd (.nd (.nd (.fin none none none [(3,tS)] .leaf) (.fin none none none [(3,tS)] .leaf)) (.fin none (some tH) none [(3,tS)] .leaf)) .leaf) .leaf) (.nd (.nd (.fin none none (some sC) [] .leaf) (.fin none none (some sC) [] .leaf)) (.nd (.fin none none (some sC) [] .leaf) (.fin none none (some sC) [] .leaf))))))))))))))))
theorem cO9 (s:FState) (cx:Cx β):FX (fR n aH) n eL dO5 s cx=xV n aH s cx:=by kernel_rfl
theorem cA1 (h137:Fit Tryd.prog 137 (aP kJ hQ aH)):Fit Tryd.prog 137 (aP kJ hQ (bD2 n aH)):=
  cH (Γ:=Γ0) (l:=dH1 n aH) (n:=n) (sk:=dO5) (ts:=[(4,none)]) (fn:=Tryd.f137) (c:=eL) (by kernel_rfl) (by kernel_rfl) (by unfold aS;kernel_rfl) cF ⟨cM5 n,zC n,F2 n,LB n,G8 n,h137,trivial⟩ aN (by kernel_rfl) (by kernel_rfl) (Nat.le_of_ble_eq_true (by kernel_rfl)) (Nat.le_of_ble_eq_true (by kernel_rfl)) (by kernel_rfl) (by kernel_rfl)
    (fun d=>(cO9 n aH _ _).trans (Eq.trans (b:=xV n aH (WL d.1 d.2.1) (cN (fR n aH) hQ [(4,none)])) (by kernel_rfl) ((w8 n aH _ d.1 d.2.1).trans (by kernel_rfl))))
def nJ (n:Nat):Nat→(DenA kJ→Option (DenR hQ))
  | 0=>(fun _=>none)
  | m+1=>(bD2 n (nJ n m))
theorem yO (n:Nat):∀m:Nat,Fit Tryd.prog 137 (aP kJ hQ (nJ n m))
  | 0=>nI (by unfold aS;kernel_rfl)
  | m+1=>cA1 n (nJ n m) (yO n m)
end
section
variable (n:Nat) (cx:Cx β)
def dF5 (d:DenA kJ):Option (DenR hQ):=(nJ n n) d
def bQ3 (a0:AK.den (.pro Z1 106)) (a1:AK.den (.rw Z22 115)):Option (DenR hQ):=dF5 n (a0,(a1,()))
def aD6:Spec:=aP kJ hQ (dF5 n)
theorem ZA:Fit Tryd.prog 137 (aD6 n):=(yO n n)
def aW4 (C:Z11) (J R:BA):FState:=⟨aI [(0,.ptr 0 0 0),(1,.dat .str J),(2,.dat .str R)],aE [(0,.row Z1 106 false [C])]⟩
def eF8 (T:Int):FState:=⟨aI [(6,.dat (.int .i64) T)],aE []⟩
def yL:List NE:=[.keep 6]
def dC8:List (Nat×Spec):=[(135,PU n)]
def z7:Ctx:={Γ0 with calls:=lkS (dC8 n)}
def aM8:Code:=fb Tryd.f163
def u9 (kr:Int→Option β) (C:Z11) (J R:BA):Option β:=kK J<|kK R<|(F9 n (bS J) (bS R)).bind fun V=>kr V.1
def WE:FS1 β:=FXs (z7 n) n aM8 none (some yL) [] [2,6,7]
theorem cJ6 (C:Z11) (J R:BA):WE n (aW4 C J R) cx=u9 n (fun T=>cx.ret (eF8 T)) C J R:=by kernel_rfl
def eH6 (C:Z11) (J R:BA):Option (DenR [.dat (.int .i64)]):=u9 n (fun T=>some (T,())) C J R
def eB2:List AK:=[.pro Z1 106,.dat .str,.dat .str]
def aO7:List RK:=[.dat (.int .i64)]
def eX4 (d:DenA eB2):Option (DenR aO7):=eH6 n d.1 d.2.1 d.2.2.1
def cO4:Spec:=aP eB2 aO7 (eX4 n)
def dH2:Sk:=(.nd (.fin none none (some yL) [] .leaf) (.nd (.fin none none (some yL) [] .leaf) (.fin none none (some yL) [] .leaf)))
theorem cP6 (s:FState) (cx:Cx β):FX (z7 n) n aM8 dH2 s cx=WE n s cx:=by kernel_rfl
theorem dN4:Fit Tryd.prog 163 (cO4 n):=
  cH (Γ:=Γ0) (l:=dC8 n) (n:=n) (sk:=dH2) (ts:=[(6,none)]) (fn:=Tryd.f163) (c:=aM8) (by kernel_rfl) (by kernel_rfl) (by unfold aS;kernel_rfl) cF ⟨LB n,trivial⟩ aN (by kernel_rfl) (by kernel_rfl) (Nat.le_of_ble_eq_true (by kernel_rfl)) (Nat.le_of_ble_eq_true (by kernel_rfl)) (by kernel_rfl) (by kernel_rfl)
    (fun d=>(cP6 n _ _).trans (Eq.trans (b:=WE n (aW4 d.1 d.2.1 d.2.2.1) (cN (z7 n) aO7 [(6,none)])) (by kernel_rfl) ((cJ6 n _ d.1 d.2.1 d.2.2.1).trans (by kernel_rfl))))
def dX5:List AK:=[.dat .str]
def dA2:List RK:=[.dat (.int .i32),.dat (.int .i64)]
def eO0 (n:Nat) (Y:BA):Option (DenR [.dat (.int .i32),.dat (.int .i64)]):=if Y.size≤9223372036854775807 then some (((Lib.decodeLastL Y.data.toList).1:Int),(((Lib.decodeLastL Y.data.toList).2:Int),())) else none
def fA9 (d:DenA dX5):Option (DenR dA2):=eO0 n d.1
def dT1:Spec:=aP dX5 dA2 (fA9 n)
theorem eE4:Fit Tryd.prog 184 (dT1 n):=zJ (by unfold aS;kernel_rfl) rfl fun d x w vs hG ha hx=>by
  obtain ⟨v,vs',o1,o2,rfl,_,⟨_,cs,h1,h2⟩,h3,_⟩:=ha
  obtain ⟨s,u⟩:=d
  subst h3
  have h1:cs=[Value.string s]:=h1
  subst h1
  simp [K.isPair] at h2
  subst h2
  obtain ⟨hs,hx⟩:=bN hx
  cases hx
  exact (Tryd.utf8_DecodeLastRuneInString s w hs (UZ hG)).mono fun e w' ⟨he,hb⟩=>⟨[.int .i32 (Lib.decodeLastL s.data.toList).1,.int .i64 (Lib.decodeLastL s.data.toList).2],he,⟨_,_,[],[],rfl,rfl,⟨rfl,_,rfl,rfl⟩,⟨_,_,[],[],rfl,rfl,⟨rfl,_,rfl,rfl⟩,rfl,rfl⟩⟩,hb⟩
def dL7:List AK:=[.dat .str]
def dZ8:List RK:=[.dat (.int .i32),.dat (.int .i64)]
def cI5 (n:Nat) (Y:BA):Option (DenR [.dat (.int .i32),.dat (.int .i64)]):=some (((Lib.decodeGo Y).1:Int),(((Lib.decodeGo Y).2:Int),()))
def fD8 (d:DenA dL7):Option (DenR dZ8):=cI5 n d.1
def aL8:Spec:=aP dL7 dZ8 (fD8 n)
theorem P7:Fit Tryd.prog 165 (aL8 n):=zJ (by unfold aS;kernel_rfl) rfl fun d x w vs hG ha hx=>by
  obtain ⟨v,vs',o1,o2,rfl,_,⟨_,cs,h1,h2⟩,h3,_⟩:=ha
  obtain ⟨s,u⟩:=d
  subst h3
  have h1:cs=[Value.string s]:=h1
  subst h1
  simp [K.isPair] at h2
  subst h2
  cases hx
  exact (Tryd.utf8_DecodeRuneInString s w (UZ hG)).mono fun e w' ⟨he,hb⟩=>⟨[.int .i32 (Lib.decodeGo s).1,.int .i64 (Lib.decodeGo s).2],he,⟨_,_,[],[],rfl,rfl,⟨rfl,_,rfl,rfl⟩,⟨_,_,[],[],rfl,rfl,⟨rfl,_,rfl,rfl⟩,rfl,rfl⟩⟩,hb⟩
def bK3 (Y:Int):FState:=⟨aI [(0,.dat (.int .i32) Y)],aE []⟩
def eL2 (R:Bool):FState:=⟨aI [(2,.dat .bool R)],aE []⟩
def AO:List NE:=[.keep 2]
def dX9 (n:Nat):List (Nat×Spec):=[]
def z8:Ctx:={Γ0 with calls:=lkS (dX9 n)}
def aD7:Code:=fb Tryd.f185
def X1 (n:Nat) (kr:Bool→Option β) (Y:Int):Option β:=bif (decide ((97:Int)≤Y)) then (bif (decide (Y≤(122:Int))) then (kr false) else (bif (decide ((65:Int)≤Y)) then (bif (decide (Y≤(90:Int))) then (kr false) else (bif (decide ((48:Int)≤Y)) then (kr (!(decide (Y≤(57:Int))))) else (kr true))) else (bif (decide ((48:Int)≤Y)) then (kr (!(decide (Y≤(57:Int))))) else (kr true)))) else (bif (decide ((65:Int)≤Y)) then (bif (decide (Y≤(90:Int))) then (kr false) else (bif (decide ((48:Int)≤Y)) then (kr (!(decide (Y≤(57:Int))))) else (kr true))) else (bif (decide ((48:Int)≤Y)) then (kr (!(decide (Y≤(57:Int))))) else (kr true)))
def SO:FS1 β:=FXs (z8 n) n aD7 none (some AO) [] [2,6,7]
theorem cB3 (Y:Int):SO n (bK3 Y) cx=X1 n (fun R=>cx.ret (eL2 R)) Y:=by kernel_rfl
def cT6 (Y:Int):Option (DenR [.dat .bool]):=X1 n (fun R=>some (R,())) Y
def eB0:List AK:=[.dat (.int .i32)]
def Y7:List RK:=[.dat .bool]
def fD7 (d:DenA eB0):Option (DenR Y7):=cT6 n d.1
def dY7:Spec:=aP eB0 Y7 (fD7 n)
def cO1:Sk:=(.nd (.fin none none (some AO) [] .leaf) (.nd (.fin none none (some AO) [] .leaf) (.fin none none (some AO) [] .leaf)))
theorem dD4 (s:FState) (cx:Cx β):FX (z8 n) n aD7 cO1 s cx=SO n s cx:=by kernel_rfl
theorem dW2:Fit Tryd.prog 185 (dY7 n):=
  cH (Γ:=Γ0) (l:=dX9 n) (n:=n) (sk:=cO1) (ts:=[(2,none)]) (fn:=Tryd.f185) (c:=aD7) (by kernel_rfl) (by kernel_rfl) (by unfold aS;kernel_rfl) cF trivial aN (by kernel_rfl) (by kernel_rfl) (Nat.le_of_ble_eq_true (by kernel_rfl)) (Nat.le_of_ble_eq_true (by kernel_rfl)) (by kernel_rfl) (by kernel_rfl)
    (fun d=>(dD4 n _ _).trans (Eq.trans (b:=SO n (bK3 d.1) (cN (z8 n) Y7 [(2,none)])) (by kernel_rfl) ((cB3 n _ d.1).trans (by kernel_rfl))))
def bA8 (Y:Int):FState:=⟨aI [(0,.dat (.int .i32) Y)],aE []⟩
def eF3 (R:Bool):FState:=⟨aI [(2,.dat .bool R)],aE []⟩
def AX:List NE:=[.keep 2]
def cY5 (n:Nat):List (Nat×Spec):=[]
def aJ6:Ctx:={Γ0 with calls:=lkS (cY5 n)}
def aU3:Code:=fb Tryd.f186
def aS0 (n:Nat) (kr:Bool→Option β) (Y:Int):Option β:=bif (Y==(9:Int)) then (kr true) else (bif (Y==(10:Int)) then (kr true) else (bif (Y==(12:Int)) then (kr true) else (bif (Y==(13:Int)) then (kr true) else (kr (Y==(32:Int))))))
def SQ:FS1 β:=FXs (aJ6 n) n aU3 none (some AX) [] [2,6,7]
theorem cH8 (Y:Int):SQ n (bA8 Y) cx=aS0 n (fun R=>cx.ret (eF3 R)) Y:=by kernel_rfl
def dQ6 (Y:Int):Option (DenR [.dat .bool]):=aS0 n (fun R=>some (R,())) Y
def dF9:List AK:=[.dat (.int .i32)]
def aU7:List RK:=[.dat .bool]
def eX5 (d:DenA dF9):Option (DenR aU7):=dQ6 n d.1
def dV7:Spec:=aP dF9 aU7 (eX5 n)
def eD0:Sk:=(.nd (.fin none none (some AX) [] .leaf) (.nd (.fin none none (some AX) [] .leaf) (.fin none none (some AX) [] .leaf)))
theorem dJ6 (s:FState) (cx:Cx β):FX (aJ6 n) n aU3 eD0 s cx=SQ n s cx:=by kernel_rfl
theorem cW4:Fit Tryd.prog 186 (dV7 n):=
  cH (Γ:=Γ0) (l:=cY5 n) (n:=n) (sk:=eD0) (ts:=[(2,none)]) (fn:=Tryd.f186) (c:=aU3) (by kernel_rfl) (by kernel_rfl) (by unfold aS;kernel_rfl) cF trivial aN (by kernel_rfl) (by kernel_rfl) (Nat.le_of_ble_eq_true (by kernel_rfl)) (Nat.le_of_ble_eq_true (by kernel_rfl)) (by kernel_rfl) (by kernel_rfl)
    (fun d=>(dJ6 n _ _).trans (Eq.trans (b:=SQ n (bA8 d.1) (cN (aJ6 n) aU7 [(2,none)])) (by kernel_rfl) ((cH8 n _ d.1).trans (by kernel_rfl))))
def bH1 (Y:Int):FState:=⟨aI [(0,.dat (.int .i32) Y)],aE []⟩
def eK3 (R:Bool):FState:=⟨aI [(2,.dat .bool R)],aE []⟩
def BT:List NE:=[.keep 2]
def dY9 (n:Nat):List (Nat×Spec):=[]
def aL3:Ctx:={Γ0 with calls:=lkS (dY9 n)}
def aV5:Code:=fb Tryd.f187
def c8 (n:Nat) (kr:Bool→Option β) (Y:Int):Option β:=bif (Y==(13:Int)) then (kr true) else (kr (Y==(10:Int)))
def TX:FS1 β:=FXs (aL3 n) n aV5 none (some BT) [] [2,6,7]
theorem bT6 (Y:Int):TX n (bH1 Y) cx=c8 n (fun R=>cx.ret (eK3 R)) Y:=by kernel_rfl
def cU6 (Y:Int):Option (DenR [.dat .bool]):=c8 n (fun R=>some (R,())) Y
def dE3:List AK:=[.dat (.int .i32)]
def aC4:List RK:=[.dat .bool]
def fC0 (d:DenA dE3):Option (DenR aC4):=cU6 n d.1
def dZ9:Spec:=aP dE3 aC4 (fC0 n)
def eE1:Sk:=(.nd (.fin none none (some BT) [] .leaf) (.nd (.fin none none (some BT) [] .leaf) (.fin none none (some BT) [] .leaf)))
theorem cY2 (s:FState) (cx:Cx β):FX (aL3 n) n aV5 eE1 s cx=TX n s cx:=by kernel_rfl
theorem dO6:Fit Tryd.prog 187 (dZ9 n):=
  cH (Γ:=Γ0) (l:=dY9 n) (n:=n) (sk:=eE1) (ts:=[(2,none)]) (fn:=Tryd.f187) (c:=aV5) (by kernel_rfl) (by kernel_rfl) (by unfold aS;kernel_rfl) cF trivial aN (by kernel_rfl) (by kernel_rfl) (Nat.le_of_ble_eq_true (by kernel_rfl)) (Nat.le_of_ble_eq_true (by kernel_rfl)) (by kernel_rfl) (by kernel_rfl)
    (fun d=>(cY2 n _ _).trans (Eq.trans (b:=TX n (bH1 d.1) (cN (aL3 n) aC4 [(2,none)])) (by kernel_rfl) ((bT6 n _ d.1).trans (by kernel_rfl))))
def bN8 (Y:BA):FState:=⟨aI [(0,.dat .str Y)],aE []⟩
def eO4 (R:Bool):FState:=⟨aI [(2,.dat .bool R)],aE []⟩
def BJ:List NE:=[.keep 2]
def cY3:List (Nat×Spec):=[(158,aN3 n)]
def W8:Ctx:={Γ0 with calls:=lkS (cY3 n)}
def X2:Code:=fb Tryd.f188
def aS2 (kr:Bool→Option β) (Y:BA):Option β:=(aI5 n Y (⟨#[10,10]⟩:BA)).bind fun V=>bif V.1 then (kr true) else ((aI5 n Y (⟨#[10,13,10]⟩:BA)).bind fun r2=>kr r2.1)
def TP:FS1 β:=FXs (W8 n) n X2 none (some BJ) [] [2,6,7]
theorem bQ7 (Y:BA):TP n (bN8 Y) cx=aS2 n (fun R=>cx.ret (eO4 R)) Y:=by kernel_rfl
def dH4 (Y:BA):Option (DenR [.dat .bool]):=aS2 n (fun R=>some (R,())) Y
def cX2:List AK:=[.dat .str]
def j4:List RK:=[.dat .bool]
def eW7 (d:DenA cX2):Option (DenR j4):=dH4 n d.1
def dK6:Spec:=aP cX2 j4 (eW7 n)
def eA6:Sk:=(.nd (.fin none none (some BJ) [] .leaf) (.nd (.fin none none (some BJ) [] .leaf) (.fin none none (some BJ) [] .leaf)))
theorem cW2 (s:FState) (cx:Cx β):FX (W8 n) n X2 eA6 s cx=TP n s cx:=by kernel_rfl
theorem dC4:Fit Tryd.prog 188 (dK6 n):=
  cH (Γ:=Γ0) (l:=cY3 n) (n:=n) (sk:=eA6) (ts:=[(2,none)]) (fn:=Tryd.f188) (c:=X2) (by kernel_rfl) (by kernel_rfl) (by unfold aS;kernel_rfl) cF ⟨G8 n,trivial⟩ aN (by kernel_rfl) (by kernel_rfl) (Nat.le_of_ble_eq_true (by kernel_rfl)) (Nat.le_of_ble_eq_true (by kernel_rfl)) (by kernel_rfl) (by kernel_rfl)
    (fun d=>(cW2 n _ _).trans (Eq.trans (b:=TP n (bN8 d.1) (cN (W8 n) j4 [(2,none)])) (by kernel_rfl) ((bQ7 n _ d.1).trans (by kernel_rfl))))
def TB (Y J:BA):FState:=⟨aI [(0,.dat .str Y),(1,.dat .str J)],aE []⟩
def YE (v4:Int):FState:=⟨aI [(4,.dat (.int .i64) v4)],aE []⟩
def gA:List NE:=[.keep 4]
def bN6 (Y J:BA) (D E:Int) (F I H:Bool):FState:=⟨aI [(0,.dat .str Y),(1,.dat .str J),(5,.dat (.int .i32) D),(7,.dat (.int .i32) E),(9,.dat .bool F),(10,.dat .bool I),(11,.dat .bool H)],aE []⟩
def S3:List NE:=[.keep 0,.keep 1,.keep 5,.keep 7,.keep 9,.keep 10,.keep 11]
def bP4 (Y J:BA) (D E:Int) (F I H N:Bool):FState:=⟨aI [(0,.dat .str Y),(1,.dat .str J),(5,.dat (.int .i32) D),(7,.dat (.int .i32) E),(9,.dat .bool F),(10,.dat .bool I),(11,.dat .bool H),(12,.dat .bool N)],aE []⟩
def A5:List NE:=[.keep 0,.keep 1,.keep 5,.keep 7,.keep 9,.keep 10,.keep 11,.keep 12]
def bP2 (Y J:BA) (E:Int) (F I H N q:Bool):FState:=⟨aI [(0,.dat .str Y),(1,.dat .str J),(7,.dat (.int .i32) E),(9,.dat .bool F),(10,.dat .bool I),(11,.dat .bool H),(12,.dat .bool N),(13,.dat .bool q)],aE []⟩
def C1:List NE:=[.keep 0,.keep 1,.keep 7,.keep 9,.keep 10,.keep 11,.keep 12,.keep 13]
def aW6 (Y J:BA) (F I H N q ac:Bool):FState:=⟨aI [(0,.dat .str Y),(1,.dat .str J),(9,.dat .bool F),(10,.dat .bool I),(11,.dat .bool H),(12,.dat .bool N),(13,.dat .bool q),(14,.dat .bool ac)],aE []⟩
def L4:List NE:=[.keep 0,.keep 1,.keep 9,.keep 10,.keep 11,.keep 12,.keep 13,.keep 14]
def aZ5 (J:BA) (F I H N q ac U:Bool):FState:=⟨aI [(1,.dat .str J),(9,.dat .bool F),(10,.dat .bool I),(11,.dat .bool H),(12,.dat .bool N),(13,.dat .bool q),(14,.dat .bool ac),(15,.dat .bool U)],aE []⟩
def F4:List NE:=[.keep 1,.keep 9,.keep 10,.keep 11,.keep 12,.keep 13,.keep 14,.keep 15]
def bL0 (F I H N q ac U Z:Bool):FState:=⟨aI [(9,.dat .bool F),(10,.dat .bool I),(11,.dat .bool H),(12,.dat .bool N),(13,.dat .bool q),(14,.dat .bool ac),(15,.dat .bool U),(16,.dat .bool Z)],aE []⟩
def O7:List NE:=[.keep 9,.keep 10,.keep 11,.keep 12,.keep 13,.keep 14,.keep 15,.keep 16]
def cQ4:List (Nat×Spec):=[(165,aL8 n),(184,dT1 n),(185,dY7 n),(186,dV7 n),(187,dZ9 n),(188,dK6 n)]
def qM:Ctx:={Γ0 with calls:=lkS (cQ4 n)}
def qK:Code:=fb Tryd.f164
def aE0 (kn:BA→BA→Int→Int→Bool→Bool→Bool→Option β) (kr:Int→Option β) (Y J:BA):Option β:=bif ((Y.size:Int)==(0:Int)) then (kr (6:Int)) else (bif ((J.size:Int)==(0:Int)) then (kr (6:Int)) else ((eO0 n Y).bind fun V=>(cI5 n J).bind fun r2=>(cT6 n V.1).bind fun r3=>(cT6 n r2.1).bind fun r4=>bif r3.1 then ((dQ6 n V.1).bind fun r5=>kn Y J V.1 r2.1 r3.1 r4.1 r5.1) else (kn Y J V.1 r2.1 r3.1 r4.1 false)))
def bJ4:FS1 β:=FXs (qM n) n qK (some S3) (some gA) [] [2,12,13,14,30,62,126,254]
theorem bZ8 (Y J:BA):bJ4 n (TB Y J) cx=aE0 n (fun Y J D E F I H=>cx.nrm (bN6 Y J D E F I H)) (fun v4=>cx.ret (YE v4)) Y J:=by kernel_rfl
def aV7 (kn:BA→BA→Int→Int→Bool→Bool→Bool→Bool→Option β) (Y J:BA) (D E:Int) (F I H:Bool):Option β:=bif I then ((dQ6 n E).bind fun V=>kn Y J D E F I H V.1) else (kn Y J D E F I H false)
def bD8:FS1 β:=FXs (qM n) n qK (some A5) none [] [510]
theorem bS3 (Y J:BA) (D E:Int) (F I H:Bool):bD8 n (bN6 Y J D E F I H) cx=aV7 n (fun Y J D E F I H N=>cx.nrm (bP4 Y J D E F I H N)) Y J D E F I H:=by kernel_rfl
def aJ8 (kn:BA→BA→Int→Bool→Bool→Bool→Bool→Bool→Option β) (Y J:BA) (D E:Int) (F I H N:Bool):Option β:=bif H then ((cU6 n D).bind fun V=>kn Y J E F I H N V.1) else (kn Y J E F I H N false)
def bO2:FS1 β:=FXs (qM n) n qK (some C1) none [] [1022]
theorem cF5 (Y J:BA) (D E:Int) (F I H N:Bool):bO2 n (bP4 Y J D E F I H N) cx=aJ8 n (fun Y J E F I H N q=>cx.nrm (bP2 Y J E F I H N q)) Y J D E F I H N:=by kernel_rfl
def aJ4 (kn:BA→BA→Bool→Bool→Bool→Bool→Bool→Bool→Option β) (Y J:BA) (E:Int) (F I H N q:Bool):Option β:=bif N then ((cU6 n E).bind fun V=>kn Y J F I H N q V.1) else (kn Y J F I H N q false)
def bL6:FS1 β:=FXs (qM n) n qK (some L4) none [] [2046]
theorem cB6 (Y J:BA) (E:Int) (F I H N q:Bool):bL6 n (bP2 Y J E F I H N q) cx=aJ4 n (fun Y J F I H N q ac=>cx.nrm (aW6 Y J F I H N q ac)) Y J E F I H N q:=by kernel_rfl
def q8 (kn:BA→Bool→Bool→Bool→Bool→Bool→Bool→Bool→Option β) (Y J:BA) (F I H N q ac:Bool):Option β:=bif q then ((dH4 n Y).bind fun V=>kn J F I H N q ac V.1) else (kn J F I H N q ac false)
def bF5:FS1 β:=FXs (qM n) n qK (some F4) none [] [4094]
theorem cF0 (Y J:BA) (F I H N q ac:Bool):bF5 n (aW6 Y J F I H N q ac) cx=q8 n (fun J F I H N q ac U=>cx.nrm (aZ5 J F I H N q ac U)) Y J F I H N q ac:=by kernel_rfl
def aF9 (kn:Bool→Bool→Bool→Bool→Bool→Bool→Bool→Bool→Option β) (J:BA) (F I H N q ac U:Bool):Option β:=bif ac then ((dH4 n J).bind fun V=>kn F I H N q ac U V.1) else (kn F I H N q ac U false)
def bG5:FS1 β:=FXs (qM n) n qK (some O7) none [] [8190]
theorem cA7 (J:BA) (F I H N q ac U:Bool):bG5 n (aZ5 J F I H N q ac U) cx=aF9 n (fun F I H N q ac U Z=>cx.nrm (bL0 F I H N q ac U Z)) J F I H N q ac U:=by kernel_rfl
def aV8 (n:Nat) (kr:Int→Option β) (F I H N q ac U Z:Bool):Option β:=bif U then (kr (5:Int)) else (bif Z then (kr (5:Int)) else (bif q then (kr (4:Int)) else (bif ac then (kr (4:Int)) else (bif F then (bif (!H) then (bif N then (kr (3:Int)) else (bif H then (kr (2:Int)) else (bif N then (kr (2:Int)) else (bif F then (kr (1:Int)) else (bif I then (kr (1:Int)) else (kr (0:Int))))))) else (bif H then (kr (2:Int)) else (bif N then (kr (2:Int)) else (bif F then (kr (1:Int)) else (bif I then (kr (1:Int)) else (kr (0:Int))))))) else (bif H then (kr (2:Int)) else (bif N then (kr (2:Int)) else (bif F then (kr (1:Int)) else (bif I then (kr (1:Int)) else (kr (0:Int))))))))))
def bF1:FS1 β:=FXs (qM n) n qK none (some gA) [] [32764,32765,32766,32767]
theorem bX5 (F I H N q ac U Z:Bool):bF1 n (bL0 F I H N q ac U Z) cx=aV8 n (fun v4=>cx.ret (YE v4)) F I H N q ac U Z:=by kernel_rfl
def UP (kr:Int→Option β) (Y J:BA):Option β:=aE0 n (fun Y J D E F I H=>aV7 n (fun Y J D E F I H N=>aJ8 n (fun Y J E F I H N q=>aJ4 n (fun Y J F I H N q ac=>q8 n (fun J F I H N q ac U=>aF9 n (fun F I H N q ac U Z=>aV8 n kr F I H N q ac U Z) J F I H N q ac U) Y J F I H N q ac) Y J E F I H N q) Y J D E F I H N) Y J D E F I H) kr Y J
def FI (s:FState) (cx:Cx β):Option β:=bJ4 n s {cx with nrm:=fun s=>bD8 n s {cx with nrm:=fun s=>bO2 n s {cx with nrm:=fun s=>bL6 n s {cx with nrm:=fun s=>bF5 n s {cx with nrm:=fun s=>bG5 n s {cx with nrm:=fun s=>bF1 n s cx}}}}}}
theorem bV2 (Y J:BA):FI n (TB Y J) cx=UP n (fun v4=>cx.ret (YE v4)) Y J:=by simp only [FI,UP,bZ8,bS3,cF5,cB6,cF0,cA7,bX5]
def u4 (Y J:BA):Option (DenR [.dat (.int .i64)]):=UP n (fun v4=>some (v4,())) Y J
def dG2:List AK:=[.dat .str,.dat .str]
def aA5:List RK:=[.dat (.int .i64)]
def eY4 (d:DenA dG2):Option (DenR aA5):=u4 n d.1 d.2.1
def dG8:Spec:=aP dG2 aA5 (eY4 n)
def cM7:Sk:=(.nd (.fin none none (some gA) [] .leaf) (.nd (.nd (.fin none none (some gA) [] .leaf) (.fin none none (some gA) [] .leaf)) (.nd (.fin none none (some gA) [] .leaf) (.nd (.fin none none (some gA) [] .leaf) (.nd (.fin none none (some gA) [] .leaf) (.nd (.fin none none (some gA) [] .leaf) (.nd (.fin none (some S3) (some gA) [] .leaf) (.nd (.fin none (some A5) none [] .leaf) (.nd (.fin none (some C1) none [] .leaf) (.nd (.fin none (some L4) none [] .leaf) (.nd (.fin none (some F4) none [] .leaf) (.nd (.fin none (some O7) none [] .leaf) (.nd (.nd (.fin none none (some gA) [] .leaf) (.fin none none (some gA) [] .leaf)) (.nd (.fin none none (some gA) [] .leaf) (.fin none none (some gA) [] .leaf)))))))))))))))
theorem cW5 (s:FState) (cx:Cx β):FX (qM n) n qK cM7 s cx=FI n s cx:=by kernel_rfl
theorem dX3:Fit Tryd.prog 164 (dG8 n):=
  cH (Γ:=Γ0) (l:=cQ4 n) (n:=n) (sk:=cM7) (ts:=[(4,none)]) (fn:=Tryd.f164) (c:=qK) (by kernel_rfl) (by kernel_rfl) (by unfold aS;kernel_rfl) cF ⟨P7 n,eE4 n,dW2 n,cW4 n,dO6 n,dC4 n,trivial⟩ aN (by kernel_rfl) (by kernel_rfl) (Nat.le_of_ble_eq_true (by kernel_rfl)) (Nat.le_of_ble_eq_true (by kernel_rfl)) (by kernel_rfl) (by kernel_rfl)
    (fun d=>(cW5 n _ _).trans (Eq.trans (b:=FI n (TB d.1 d.2.1) (cN (qM n) aA5 [(4,none)])) (by kernel_rfl) ((bV2 n _ d.1 d.2.1).trans (by kernel_rfl))))
end
end
end Go.Proofs.YthkiaiilpaojnaaDoorZF
