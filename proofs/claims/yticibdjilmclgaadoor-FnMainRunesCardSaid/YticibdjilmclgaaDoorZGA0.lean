import Derived.Test.YticibdjilmclgaaDoorZFT
import Derived.Test.YticibdjilmclgaaDoorZFE
namespace Go.Proofs.YticibdjilmclgaaDoorZF
noncomputable section
open Go Go.Proofs
set_option linter.unusedVariables false
set_option maxRecDepth 100000
variable {β:Type}
def cF7 (Y:BA):FState:=⟨aG [(0,.dat .str Y)],aD []⟩
def eT7 (L:List Int):FState:=⟨aG [(2,.sl 2 none false)],aD [(2,.row (.int .i32) 21 true L)]⟩
def FA:List NE:=[.row 2 (.int .i32) 21 true]
def eP5 (n:Nat):List (Nat×Spec):=[]
section
variable (n:Nat) (cx:Cx β)
def cQ7:Ctx:={Γ0 with calls:=lkS (eP5 n)}
def cR0:Code:=fb Tryd.f20
def aQ6 (n:Nat) (kr:List Int→Option β) (Y:BA):Option β:=kD Y<|kr (bP Y)
def o5:FS1 β:=FXs (cQ7 n) n cR0 none (some FA) [] [2,6,7]
theorem dH8 (Y:BA):o5 n (cF7 Y) cx=aQ6 n (fun L=>cx.ret (eT7 L)) Y:=by kernel_rfl
def g20 (Y:BA):Option (DenR [.rw (.int .i32) 21]):=aQ6 n (fun L=>some (L,())) Y
def eK3:List AK:=[.dat .str]
def bI2:List RK:=[.rw (.int .i32) 21]
def fC8 (d:DenA eK3):Option (DenR bI2):=g20 n d.1
def cN0:Spec:=aM eK3 bI2 (fC8 n)
def eS3:Sk:=(.nd (.fin none none (some FA) [] .leaf) (.nd (.fin none none (some FA) [] .leaf) (.fin none none (some FA) [] .leaf)))
theorem dU4 (s:FState) (cx:Cx β):FX (cQ7 n) n cR0 eS3 s cx=o5 n s cx:=by kernel_rfl
theorem t7:Fit Tryd.prog 20 (cN0 n):=
  cD (Γ:=Γ0) (l:=eP5 n) (n:=n) (sk:=eS3) (ts:=[(2,none)]) (fn:=Tryd.f20) (c:=cR0) (by kernel_rfl) (by kernel_rfl) (by unfold aO;kernel_rfl) cB trivial aH (by kernel_rfl) (by kernel_rfl) (Nat.le_of_ble_eq_true (by kernel_rfl)) (Nat.le_of_ble_eq_true (by kernel_rfl)) (by kernel_rfl) (by kernel_rfl)
    (fun d=>(dU4 n _ _).trans (Eq.trans (b:=o5 n (cF7 d.1) (cG (cQ7 n) bI2 [(2,none)])) (by kernel_rfl) ((dH8 n _ d.1).trans (by kernel_rfl))))
def cW6 (Y:BA) (J:Int):FState:=⟨aG [(0,.dat .str Y),(1,.dat (.int .i64) J)],aD []⟩
def eT9 (v4:BA):FState:=⟨aG [(4,.dat .str v4)],aD []⟩
def wB:List NE:=[.keep 4]
def eA5:List (Nat×Spec):=[(20,cN0 n)]
def cJ4:Ctx:={Γ0 with calls:=lkS (eA5 n)}
def cB4:Code:=fb Tryd.f13
def bZ2 (kr:BA→Option β) (Y:BA) (J:Int):Option β:=(g20 n Y).bind fun V=>bnd (0:Int) (LI (V.1.length:Int) J) (V.1.length:Int)<|kr (runesBytes (cut V.1 (0:Int) ((0:Int)+((LI (V.1.length:Int) J) - (0:Int)))))
def q9:FS1 β:=FXs (cJ4 n) n cB4 none (some wB) [] [2,6,14,15]
theorem dB1 (Y:BA) (J:Int):q9 n (cW6 Y J) cx=bZ2 n (fun v4=>cx.ret (eT9 v4)) Y J:=by kernel_rfl
def g13 (Y:BA) (J:Int):Option (DenR [.dat .str]):=bZ2 n (fun v4=>some (v4,())) Y J
def eE8:List AK:=[.dat .str,.dat (.int .i64)]
def bX7:List RK:=[.dat .str]
def fB0 (d:DenA eE8):Option (DenR bX7):=g13 n d.1 d.2.1
def eE7:Spec:=aM eE8 bX7 (fB0 n)
def eI7:Sk:=(.nd (.fin none none (some wB) [] .leaf) (.nd (.fin none none (some wB) [] .leaf) (.nd (.fin none none (some wB) [] .leaf) (.fin none none (some wB) [] .leaf))))
theorem dR4 (s:FState) (cx:Cx β):FX (cJ4 n) n cB4 eI7 s cx=q9 n s cx:=by kernel_rfl
theorem dU5:Fit Tryd.prog 13 (eE7 n):=
  cD (Γ:=Γ0) (l:=eA5 n) (n:=n) (sk:=eI7) (ts:=[(4,none)]) (fn:=Tryd.f13) (c:=cB4) (by kernel_rfl) (by kernel_rfl) (by unfold aO;kernel_rfl) cB ⟨t7 n,trivial⟩ aH (by kernel_rfl) (by kernel_rfl) (Nat.le_of_ble_eq_true (by kernel_rfl)) (Nat.le_of_ble_eq_true (by kernel_rfl)) (by kernel_rfl) (by kernel_rfl)
    (fun d=>(dR4 n _ _).trans (Eq.trans (b:=q9 n (cW6 d.1 d.2.1) (cG (cJ4 n) bX7 [(4,none)])) (by kernel_rfl) ((dB1 n _ d.1 d.2.1).trans (by kernel_rfl))))
def cZ6 (Y J R v3:Int):FState:=⟨aG [(0,.dat (.int .i64) Y),(1,.dat (.int .i64) J),(2,.dat (.int .i64) R),(3,.dat (.int .i64) v3)],aD []⟩
def eU2 (I:Int):FState:=⟨aG [(8,.dat (.int .i64) I)],aD []⟩
def sF:List NE:=[.keep 8]
def eG1 (n:Nat):List (Nat×Spec):=[]
def cY1:Ctx:={Γ0 with calls:=lkS (eG1 n)}
def bW0:Code:=fb Tryd.f65
def dD6 (n:Nat) (kr:Int→Option β) (Y J R v3:Int):Option β:=bif (decide (Y < J)) then (kr v3) else (bif (decide (Y>R)) then (kr v3) else (kr Y))
def i7:FS1 β:=FXs (cY1 n) n bW0 none (some sF) [] [2,12,13,14,15]
theorem cB3 (Y J R v3:Int):i7 n (cZ6 Y J R v3) cx=dD6 n (fun I=>cx.ret (eU2 I)) Y J R v3:=by kernel_rfl
def g65 (Y J R v3:Int):Option (DenR [.dat (.int .i64)]):=dD6 n (fun I=>some (I,())) Y J R v3
def eS0:List AK:=[.dat (.int .i64),.dat (.int .i64),.dat (.int .i64),.dat (.int .i64)]
def dH4:List RK:=[.dat (.int .i64)]
def fD7 (d:DenA eS0):Option (DenR dH4):=g65 n d.1 d.2.1 d.2.2.1 d.2.2.2.1
def eK1:Spec:=aM eS0 dH4 (fD7 n)
def eQ0:Sk:=(.nd (.fin none none (some sF) [] .leaf) (.nd (.nd (.fin none none (some sF) [] .leaf) (.fin none none (some sF) [] .leaf)) (.nd (.fin none none (some sF) [] .leaf) (.fin none none (some sF) [] .leaf))))
theorem dV2 (s:FState) (cx:Cx β):FX (cY1 n) n bW0 eQ0 s cx=i7 n s cx:=by kernel_rfl
theorem dW9:Fit Tryd.prog 65 (eK1 n):=
  cD (Γ:=Γ0) (l:=eG1 n) (n:=n) (sk:=eQ0) (ts:=[(8,none)]) (fn:=Tryd.f65) (c:=bW0) (by kernel_rfl) (by kernel_rfl) (by unfold aO;kernel_rfl) cB trivial aH (by kernel_rfl) (by kernel_rfl) (Nat.le_of_ble_eq_true (by kernel_rfl)) (Nat.le_of_ble_eq_true (by kernel_rfl)) (by kernel_rfl) (by kernel_rfl)
    (fun d=>(dV2 n _ _).trans (Eq.trans (b:=i7 n (cZ6 d.1 d.2.1 d.2.2.1 d.2.2.2.1) (cG (cY1 n) dH4 [(8,none)])) (by kernel_rfl) ((cB3 n _ d.1 d.2.1 d.2.2.1 d.2.2.2.1).trans (by kernel_rfl))))
def dI6 (Y:Nat):FState:=⟨aG [(0,.dat (.flt .f64) Y)],aD []⟩
def eX7 (R:Nat):FState:=⟨aG [(2,.dat (.flt .f64) R)],aD []⟩
def sR:List NE:=[.keep 2]
def eJ4 (n:Nat):List (Nat×Spec):=[]
def bP7:Ctx:={Γ0 with calls:=lkS (eJ4 n)}
def dA1:Code:=fb Tryd.f66
def dM1 (n:Nat) (kr:Nat→Option β) (Y:Nat):Option β:=bif ((fGt .f64 Y (0:Nat))||(fEq .f64 Y (0:Nat))) then (bif ((fLt .f64 Y (4607182418800017408:Nat))||(fEq .f64 Y (4607182418800017408:Nat))) then (kr Y) else (kr (4602678819172646912:Nat))) else (kr (4602678819172646912:Nat))
def V7:FS1 β:=FXs (bP7 n) n dA1 none (some sR) [] [2,12,13,14,15]
theorem cP6 (Y:Nat):V7 n (dI6 Y) cx=dM1 n (fun R=>cx.ret (eX7 R)) Y:=by kernel_rfl
def g66 (n Y:Nat):Option (DenR [.dat (.flt .f64)]):=dM1 n (fun R=>some (R,())) Y
def eC4:List AK:=[.dat (.flt .f64)]
def cI1:List RK:=[.dat (.flt .f64)]
def fG3 (d:DenA eC4):Option (DenR cI1):=g66 n d.1
def eN9:Spec:=aM eC4 cI1 (fG3 n)
def eJ3:Sk:=(.nd (.fin none none (some sR) [] .leaf) (.nd (.nd (.fin none none (some sR) [] .leaf) (.fin none none (some sR) [] .leaf)) (.nd (.fin none none (some sR) [] .leaf) (.fin none none (some sR) [] .leaf))))
theorem dP4 (s:FState) (cx:Cx β):FX (bP7 n) n dA1 eJ3 s cx=V7 n s cx:=by kernel_rfl
theorem dX7:Fit Tryd.prog 66 (eN9 n):=
  cD (Γ:=Γ0) (l:=eJ4 n) (n:=n) (sk:=eJ3) (ts:=[(2,none)]) (fn:=Tryd.f66) (c:=dA1) (by kernel_rfl) (by kernel_rfl) (by unfold aO;kernel_rfl) cB trivial aH (by kernel_rfl) (by kernel_rfl) (Nat.le_of_ble_eq_true (by kernel_rfl)) (Nat.le_of_ble_eq_true (by kernel_rfl)) (by kernel_rfl) (by kernel_rfl)
    (fun d=>(dP4 n _ _).trans (Eq.trans (b:=V7 n (dI6 d.1) (cG (bP7 n) cI1 [(2,none)])) (by kernel_rfl) ((cP6 n _ d.1).trans (by kernel_rfl))))
def bQ2 (Y:Z9):FState:=⟨aG [(0,.dat Z2 Y)],aD []⟩
def eS8 (p2:Z11):FState:=⟨aG [(2,.ptr 2 0 0)],aD [(2,.row Z1 74 true [p2])]⟩
def qC:List NE:=[.ptr 2 Z1 74 true]
def eL0:List (Nat×Spec):=[(65,eK1 n),(66,eN9 n)]
def dD1:Ctx:={Γ0 with calls:=lkS (eL0 n)}
def cW5:Code:=fb Tryd.f50
def dI7 (kr:Z11→Option β) (Y:Z9):Option β:=(g65 n Y.2.1 (0:Int) (1000:Int) (4:Int)).bind fun V=>(g65 n Y.2.2.1 (0:Int) (1048576:Int) (1000:Int)).bind fun r2=>(g66 n Y.2.2.2.1).bind fun r3=>(g66 n Y.2.2.2.2.1).bind fun r4=>(g65 n Y.2.2.2.2.2.1 (1:Int) (8:Int) (4:Int)).bind fun r5=>(g65 n Y.2.2.2.2.2.2 (32:Int) (62:Int) (32:Int)).bind fun r6=>bif Y.1 then (kr ((1:Int),(V.1,(r2.1,(r4.1,(r5.1,(r6.1,r3.1))))))) else (kr ((0:Int),(V.1,(r2.1,(r4.1,(r5.1,(r6.1,r3.1)))))))
def L5:FS1 β:=FXs (dD1 n) n cW5 none (some qC) [] [2,6,28,29,30,31]
theorem bN2 (Y:Z9):L5 n (bQ2 Y) cx=dI7 n (fun p2=>cx.ret (eS8 p2)) Y:=by kernel_rfl
def g50 (Y:Z9):Option (DenR [.ptr Z1 74]):=dI7 n (fun p2=>some (p2,())) Y
def eN8:List AK:=[.dat Z2]
def cQ3:List RK:=[.ptr Z1 74]
def fF2 (d:DenA eN8):Option (DenR cQ3):=g50 n d.1
def bV1:Spec:=aM eN8 cQ3 (fF2 n)
def eG7:Sk:=(.nd (.fin none none (some qC) [] .leaf) (.nd (.fin none none (some qC) [] .leaf) (.nd (.nd (.fin none none (some qC) [] .leaf) (.fin none none (some qC) [] .leaf)) (.nd (.fin none none (some qC) [] .leaf) (.fin none none (some qC) [] .leaf)))))
theorem dZ6 (s:FState) (cx:Cx β):FX (dD1 n) n cW5 eG7 s cx=L5 n s cx:=by kernel_rfl
theorem aC8:Fit Tryd.prog 50 (bV1 n):=
  cD (Γ:=Γ0) (l:=eL0 n) (n:=n) (sk:=eG7) (ts:=[(2,none)]) (fn:=Tryd.f50) (c:=cW5) (by kernel_rfl) (by kernel_rfl) (by unfold aO;kernel_rfl) cB ⟨dW9 n,dX7 n,trivial⟩ aH (by kernel_rfl) (by kernel_rfl) (Nat.le_of_ble_eq_true (by kernel_rfl)) (Nat.le_of_ble_eq_true (by kernel_rfl)) (by kernel_rfl) (by kernel_rfl)
    (fun d=>(dZ6 n _ _).trans (Eq.trans (b:=L5 n (bQ2 d.1) (cG (dD1 n) cQ3 [(2,none)])) (by kernel_rfl) ((bN2 n _ d.1).trans (by kernel_rfl))))
def dF0 (M:List Int):FState:=⟨aG [(0,.sl 0 none false)],aD [(0,.row (.int .i32) 21 false M)]⟩
def eX5 (L:List Int):FState:=⟨aG [(2,.sl 2 none false)],aD [(2,.row (.int .i32) 21 true L)]⟩
def FM:List NE:=[.row 2 (.int .i32) 21 true]
def eF5 (n:Nat):List (Nat×Spec):=[]
def bY2:Ctx:={Γ0 with calls:=lkS (eF5 n)}
def dB5:Code:=fb Tryd.f54
def cG6 (n:Nat) (kr:List Int→Option β) (M:List Int):Option β:=cJ (([]:List Int).length+M.length)<|kr (([]:List Int)++M)
def n5:FS1 β:=FXs (bY2 n) n dB5 none (some FM) [] [2,6,7]
theorem cC9 (M:List Int):n5 n (dF0 M) cx=cG6 n (fun L=>cx.ret (eX5 L)) M:=by kernel_rfl
def g54 (M:List Int):Option (DenR [.rw (.int .i32) 21]):=cG6 n (fun L=>some (L,())) M
def eJ6:List AK:=[.ro (.int .i32) 21]
def bQ1:List RK:=[.rw (.int .i32) 21]
def fE0 (d:DenA eJ6):Option (DenR bQ1):=g54 n d.1
def eP1:Spec:=aM eJ6 bQ1 (fE0 n)
def eM1:Sk:=(.nd (.fin none none (some FM) [] .leaf) (.nd (.fin none none (some FM) [] .leaf) (.fin none none (some FM) [] .leaf)))
theorem dX9 (s:FState) (cx:Cx β):FX (bY2 n) n dB5 eM1 s cx=n5 n s cx:=by kernel_rfl
theorem dV3:Fit Tryd.prog 54 (eP1 n):=
  cD (Γ:=Γ0) (l:=eF5 n) (n:=n) (sk:=eM1) (ts:=[(2,none)]) (fn:=Tryd.f54) (c:=dB5) (by kernel_rfl) (by kernel_rfl) (by unfold aO;kernel_rfl) cB trivial aH (by kernel_rfl) (by kernel_rfl) (Nat.le_of_ble_eq_true (by kernel_rfl)) (Nat.le_of_ble_eq_true (by kernel_rfl)) (by kernel_rfl) (by kernel_rfl)
    (fun d=>(dX9 n _ _).trans (Eq.trans (b:=n5 n (dF0 d.1) (cG (bY2 n) bQ1 [(2,none)])) (by kernel_rfl) ((cC9 n _ d.1).trans (by kernel_rfl))))
def Y7 (M B:List Int):FState:=⟨aG [(0,.sl 0 none false),(1,.sl 1 none false)],aD [(0,.row (.int .i32) 21 false M),(1,.row (.int .i32) 21 false B)]⟩
def uN (v4:Bool):FState:=⟨aG [(4,.dat .bool v4)],aD []⟩
def iW:List NE:=[.keep 4]
def zU (B Q:List Int) (Z ac:Int):FState:=⟨aG [(1,.sl 1 none false),(12,.sl 12 none false),(13,.dat (.int .i64) Z),(14,.dat (.int .i64) ac)],aD [(1,.row (.int .i32) 21 false B),(12,.row (.int .i32) 21 false Q)]⟩
def DY:List NE:=[.row 1 (.int .i32) 21 false,.row 12 (.int .i32) 21 false,.keep 13,.keep 14]
def JX:FState:=⟨aG [],aD []⟩
def xG:List NE:=[]
def eB5 (n:Nat):List (Nat×Spec):=[]
def ZQ:Ctx:={Γ0 with calls:=lkS (eB5 n)}
def B9:Code:=fb Tryd.f79
def dD5 (n:Nat) (kn:List Int→List Int→Int→Int→Option β) (kr:Bool→Option β) (M B:List Int):Option β:=bif ((M.length:Int)!=(B.length:Int)) then (kr false) else (kn B M (M.length:Int) (0:Int))
def bO2:FS1 β:=FXs (ZQ n) n B9 (some DY) (some iW) [] [2,12,13,28]
theorem cZ9 (M B:List Int):bO2 n (Y7 M B) cx=dD5 n (fun B Q Z ac=>cx.nrm (zU B Q Z ac)) (fun v4=>cx.ret (uN v4)) M B:=by kernel_rfl
def aM8 (n:Nat) (kn:List Int→List Int→Int→Int→Option β) (kr:Bool→Option β) (ae:Option β) (B Q:List Int) (Z ac:Int):Option β:=bif (decide (ac < Z)) then (idx ac (Q.length:Int)<|idx ac (B.length:Int)<|bif ((rd Q ac (0:Int))!=(rd B ac (0:Int))) then (kr false) else (kn B Q Z (w64 (ac+1)))) else ae
def b7:FS1 β:=FXs (ZQ n) n B9 (some DY) (some iW) [(0,xG)] [232,466,934,935]
theorem cQ9 (B Q:List Int) (Z ac:Int):b7 n (zU B Q Z ac) cx=aM8 n (fun B Q Z ac=>cx.nrm (zU B Q Z ac)) (fun v4=>cx.ret (uN v4)) (cx.ex 0 JX) B Q Z ac:=by kernel_rfl
def g79_3L (n:Nat) (kr:Bool→Option β) (ae:Option β):Nat→List Int→List Int→Int→Int→Option β
  | 0,_,_,_,_=>none
  | m+1,B,Q,Z,ac=>aM8 n (g79_3L n kr ae m) kr ae B Q Z ac
def dL7 (kr:Bool→Option β) (ae:Option β) (B Q:List Int) (Z ac:Int):Option β:=g79_3L n kr ae n B Q Z ac
def bQ6 (s:FState) (cx:Cx β):Option β:=bK (fun again s=>b7 n s {cx with nrm:=again}) n s
theorem aX8 (n:Nat) (cx:Cx β):∀(m:Nat) (B Q:List Int) (Z ac:Int),bK (fun again s=>b7 n s {cx with nrm:=again}) m (zU B Q Z ac)=g79_3L n (fun v4=>cx.ret (uN v4)) (cx.ex 0 JX) m B Q Z ac:=by
  intro m
  induction m with
  | zero=>intros;rfl
  | succ m ih=>intros;simp only [bK,g79_3L,cQ9,ih]
theorem bP4 (B Q:List Int) (Z ac:Int):bQ6 n (zU B Q Z ac) cx=dL7 n (fun v4=>cx.ret (uN v4)) (cx.ex 0 JX) B Q Z ac:=aX8 n cx n B Q Z ac
def dE2 (kn:Option β) (kr:Bool→Option β) (B Q:List Int) (Z ac:Int):Option β:=dL7 n kr kn B Q Z ac
def dJ9 (s:FState) (cx:Cx β):Option β:=bQ6 n s {cx with ex:=fun j s=>bif Nat.beq j 0 then cx.nrm s else cx.ex j s}
theorem dF7 (B Q:List Int) (Z ac:Int):dJ9 n (zU B Q Z ac) cx=dE2 n (cx.nrm JX) (fun v4=>cx.ret (uN v4)) B Q Z ac:=bP4 n _ B Q Z ac
def cE9 (n:Nat) (kr:Bool→Option β):Option β:=kr true
def cG7:FS1 β:=FXs (ZQ n) n B9 none (some iW) [] [30,31]
theorem cF4:cG7 n JX cx=cE9 n (fun v4=>cx.ret (uN v4)):=by kernel_rfl
def aF1 (kr:Bool→Option β) (M B:List Int):Option β:=dD5 n (fun B Q Z ac=>dE2 n (cE9 n kr) kr B Q Z ac) kr M B
def SM (s:FState) (cx:Cx β):Option β:=bO2 n s {cx with nrm:=fun s=>dJ9 n s {cx with nrm:=fun s=>cG7 n s cx}}
theorem cS1 (M B:List Int):SM n (Y7 M B) cx=aF1 n (fun v4=>cx.ret (uN v4)) M B:=by simp only [SM,aF1,cZ9,dF7,cF4]
def g79 (M B:List Int):Option (DenR [.dat .bool]):=aF1 n (fun v4=>some (v4,())) M B
def eB8:List AK:=[.ro (.int .i32) 21,.ro (.int .i32) 21]
def dA4:List RK:=[.dat .bool]
def fF8 (d:DenA eB8):Option (DenR dA4):=g79 n d.1 d.2.1
def cX3:Spec:=aM eB8 dA4 (fF8 n)
def eN1:Sk:=(.nd (.fin none none (some iW) [] .leaf) (.nd (.nd (.fin none none (some iW) [] .leaf) (.fin none none (some iW) [] .leaf)) (.nd (.nd (.fin none (some DY) (some iW) [] .leaf) (.nd (.nd (.nd (.fin none none (some iW) [(0,xG)] .leaf) (.nd (.fin none none (some iW) [(0,xG)] .leaf) (.nd (.fin none none (some iW) [(0,xG)] .leaf) (.fin none (some DY) (some iW) [(0,xG)] .leaf)))) .leaf) .leaf)) (.nd (.fin none none (some iW) [] .leaf) (.fin none none (some iW) [] .leaf)))))
theorem dT0 (s:FState) (cx:Cx β):FX (ZQ n) n B9 eN1 s cx=SM n s cx:=by kernel_rfl
theorem aM6:Fit Tryd.prog 79 (cX3 n):=
  cD (Γ:=Γ0) (l:=eB5 n) (n:=n) (sk:=eN1) (ts:=[(4,none)]) (fn:=Tryd.f79) (c:=B9) (by kernel_rfl) (by kernel_rfl) (by unfold aO;kernel_rfl) cB trivial aH (by kernel_rfl) (by kernel_rfl) (Nat.le_of_ble_eq_true (by kernel_rfl)) (Nat.le_of_ble_eq_true (by kernel_rfl)) (by kernel_rfl) (by kernel_rfl)
    (fun d=>(dT0 n _ _).trans (Eq.trans (b:=SM n (Y7 d.1 d.2.1) (cG (ZQ n) dA4 [(4,none)])) (by kernel_rfl) ((cS1 n _ d.1 d.2.1).trans (by kernel_rfl))))
def W8 (M B:List Int):FState:=⟨aG [(0,.sl 0 none false),(1,.sl 1 none false)],aD [(0,.row (.int .i32) 21 false M),(1,.row (.int .i32) 21 false B)]⟩
def AP (v4:Int):FState:=⟨aG [(4,.dat (.int .i64) v4)],aD []⟩
def nM:List NE:=[.keep 4]
def BG (M B:List Int) (D:Int):FState:=⟨aG [(0,.sl 0 none false),(1,.sl 1 none false),(5,.dat (.int .i64) D)],aD [(0,.row (.int .i32) 21 false M),(1,.row (.int .i32) 21 false B)]⟩
def FH:List NE:=[.row 0 (.int .i32) 21 false,.row 1 (.int .i32) 21 false,.keep 5]
def JW (D:Int):FState:=⟨aG [(5,.dat (.int .i64) D)],aD []⟩
def zJ:List NE:=[.keep 5]
def eG8 (n:Nat):List (Nat×Spec):=[]
def VB:Ctx:={Γ0 with calls:=lkS (eG8 n)}
def XV:Code:=fb Tryd.f80
def eQ9 (n:Nat) (kn:List Int→List Int→Int→Option β) (M B:List Int):Option β:=kn M B (0:Int)
def bI7:FS1 β:=FXs (VB n) n XV (some FH) none [] [2,6]
theorem cF5 (M B:List Int):bI7 n (W8 M B) cx=eQ9 n (fun M B D=>cx.nrm (BG M B D)) M B:=by kernel_rfl
def bM5 (n:Nat) (kn:List Int→List Int→Int→Option β) (kr ae:Int→Option β) (M B:List Int) (D:Int):Option β:=bif (decide (D < (M.length:Int))) then (bif (decide (D < (B.length:Int))) then (idx D (M.length:Int)<|idx D (B.length:Int)<|bif ((rd M D (0:Int))!=(rd B D (0:Int))) then (kr D) else (kn M B (w64 (D+1)))) else (ae D)) else (ae D)
def X2:FS1 β:=FXs (VB n) n XV (some FH) (some nM) [(0,zJ)] [224,225,226,227]
theorem dI1 (M B:List Int) (D:Int):X2 n (BG M B D) cx=bM5 n (fun M B D=>cx.nrm (BG M B D)) (fun v4=>cx.ret (AP v4)) (fun D=>cx.ex 0 (JW D)) M B D:=by kernel_rfl
def g80_3L (n:Nat) (kr:Int→Option β) (ae:Int→Option β):Nat→List Int→List Int→Int→Option β
  | 0,_,_,_=>none
  | m+1,M,B,D=>bM5 n (g80_3L n kr ae m) kr ae M B D
def eB6 (kr ae:Int→Option β) (M B:List Int) (D:Int):Option β:=g80_3L n kr ae n M B D
def bP8 (s:FState) (cx:Cx β):Option β:=bK (fun again s=>X2 n s {cx with nrm:=again}) n s
theorem aW0 (n:Nat) (cx:Cx β):∀(m:Nat) (M B:List Int) (D:Int),bK (fun again s=>X2 n s {cx with nrm:=again}) m (BG M B D)=g80_3L n (fun v4=>cx.ret (AP v4)) (fun D=>cx.ex 0 (JW D)) m M B D:=by
  intro m
  induction m with
  | zero=>intros;rfl
  | succ m ih=>intros;simp only [bK,g80_3L,dI1,ih]
theorem bK7 (M B:List Int) (D:Int):bP8 n (BG M B D) cx=eB6 n (fun v4=>cx.ret (AP v4)) (fun D=>cx.ex 0 (JW D)) M B D:=aW0 n cx n M B D
def eE6 (kn kr:Int→Option β) (M B:List Int) (D:Int):Option β:=eB6 n kr kn M B D
def cV6 (s:FState) (cx:Cx β):Option β:=bP8 n s {cx with ex:=fun j s=>bif Nat.beq j 0 then cx.nrm s else cx.ex j s}
theorem dM9 (M B:List Int) (D:Int):cV6 n (BG M B D) cx=eE6 n (fun D=>cx.nrm (JW D)) (fun v4=>cx.ret (AP v4)) M B D:=bK7 n _ M B D
def eG0 (n:Nat) (kr:Int→Option β) (D:Int):Option β:=kr D
def dL2:FS1 β:=FXs (VB n) n XV none (some nM) [] [30,31]
theorem bU2 (D:Int):dL2 n (JW D) cx=eG0 n (fun v4=>cx.ret (AP v4)) D:=by kernel_rfl
def bN7 (kr:Int→Option β) (M B:List Int):Option β:=eQ9 n (fun M B D=>eE6 n (fun D=>eG0 n kr D) kr M B D) M B
def OK (s:FState) (cx:Cx β):Option β:=bI7 n s {cx with nrm:=fun s=>cV6 n s {cx with nrm:=fun s=>dL2 n s cx}}
theorem bV6 (M B:List Int):OK n (W8 M B) cx=bN7 n (fun v4=>cx.ret (AP v4)) M B:=by simp only [OK,bN7,cF5,dM9,bU2]
def g80 (M B:List Int):Option (DenR [.dat (.int .i64)]):=bN7 n (fun v4=>some (v4,())) M B
def eH2:List AK:=[.ro (.int .i32) 21,.ro (.int .i32) 21]
def bT7:List RK:=[.dat (.int .i64)]
def fF5 (d:DenA eH2):Option (DenR bT7):=g80 n d.1 d.2.1
def cO5:Spec:=aM eH2 bT7 (fF5 n)
def eR8:Sk:=(.nd (.fin none none none [] .leaf) (.nd (.fin none (some FH) none [] .leaf) (.nd (.nd (.nd (.nd (.nd (.fin none none (some nM) [(0,zJ)] .leaf) (.fin none none (some nM) [(0,zJ)] .leaf)) (.nd (.fin none none (some nM) [(0,zJ)] .leaf) (.fin none (some FH) (some nM) [(0,zJ)] .leaf))) .leaf) .leaf) (.nd (.fin none none (some nM) [] .leaf) (.fin none none (some nM) [] .leaf)))))
theorem dZ5 (s:FState) (cx:Cx β):FX (VB n) n XV eR8 s cx=OK n s cx:=by kernel_rfl
theorem aJ1:Fit Tryd.prog 80 (cO5 n):=
  cD (Γ:=Γ0) (l:=eG8 n) (n:=n) (sk:=eR8) (ts:=[(4,none)]) (fn:=Tryd.f80) (c:=XV) (by kernel_rfl) (by kernel_rfl) (by unfold aO;kernel_rfl) cB trivial aH (by kernel_rfl) (by kernel_rfl) (Nat.le_of_ble_eq_true (by kernel_rfl)) (Nat.le_of_ble_eq_true (by kernel_rfl)) (by kernel_rfl) (by kernel_rfl)
    (fun d=>(dZ5 n _ _).trans (Eq.trans (b:=OK n (W8 d.1 d.2.1) (cG (VB n) bT7 [(4,none)])) (by kernel_rfl) ((bV6 n _ d.1 d.2.1).trans (by kernel_rfl))))
def o9 (M B:List Int):FState:=⟨aG [(0,.sl 0 none false),(1,.sl 1 none false)],aD [(0,.row (.int .i32) 21 false M),(1,.row (.int .i32) 21 false B)]⟩
def JE (v4:Int):FState:=⟨aG [(4,.dat (.int .i64) v4)],aD []⟩
def QV:List NE:=[.keep 4]
def AW (M B:List Int) (D T F:Int):FState:=⟨aG [(0,.sl 0 none false),(1,.sl 1 none false),(5,.dat (.int .i64) D),(6,.dat (.int .i64) T),(7,.dat (.int .i64) F)],aD [(0,.row (.int .i32) 21 false M),(1,.row (.int .i32) 21 false B)]⟩
def CW:List NE:=[.row 0 (.int .i32) 21 false,.row 1 (.int .i32) 21 false,.keep 5,.keep 6,.keep 7]
def eH7 (n:Nat):List (Nat×Spec):=[]
def aK3:Ctx:={Γ0 with calls:=lkS (eH7 n)}
def aN0:Code:=fb Tryd.f81
def eN5 (n:Nat) (kn:List Int→List Int→Int→Int→Int→Option β) (M B:List Int):Option β:=kn M B (M.length:Int) (B.length:Int) (0:Int)
def bM0:FS1 β:=FXs (aK3 n) n aN0 (some CW) none [] [2,6,14,30]
theorem bI8 (M B:List Int):bM0 n (o9 M B) cx=eN5 n (fun M B D T F=>cx.nrm (AW M B D T F)) M B:=by kernel_rfl
def bW8 (n:Nat) (kn:List Int→List Int→Int→Int→Int→Option β) (kr:Int→Option β) (M B:List Int) (D T F:Int):Option β:=bif (decide ((w64 (D - 1)) < (0:Int))) then (kr F) else (bif (decide ((w64 (T - 1)) < (0:Int))) then (kr F) else (idx (w64 (D - 1)) (M.length:Int)<|idx (w64 (T - 1)) (B.length:Int)<|bif ((rd M (w64 (D - 1)) (0:Int))!=(rd B (w64 (T - 1)) (0:Int))) then (kr F) else (kn M B (w64 (D - 1)) (w64 (T - 1)) (w64 (F+1)))))
def R3:FS1 β:=FXs (aK3 n) n aN0 (some CW) (some QV) [] [248,249]
theorem bI9 (M B:List Int) (D T F:Int):R3 n (AW M B D T F) cx=bW8 n (fun M B D T F=>cx.nrm (AW M B D T F)) (fun v4=>cx.ret (JE v4)) M B D T F:=by kernel_rfl
def g81_3L (n:Nat) (kr:Int→Option β):Nat→List Int→List Int→Int→Int→Int→Option β
  | 0,_,_,_,_,_=>none
  | m+1,M,B,D,T,F=>bW8 n (g81_3L n kr m) kr M B D T F
def eD7 (kr:Int→Option β) (M B:List Int) (D T F:Int):Option β:=g81_3L n kr n M B D T F
def bL9 (s:FState) (cx:Cx β):Option β:=bK (fun again s=>R3 n s {cx with nrm:=again}) n s
theorem bD3 (n:Nat) (cx:Cx β):∀(m:Nat) (M B:List Int) (D T F:Int),bK (fun again s=>R3 n s {cx with nrm:=again}) m (AW M B D T F)=g81_3L n (fun v4=>cx.ret (JE v4)) m M B D T F:=by
  intro m
  induction m with
  | zero=>intros;rfl
  | succ m ih=>intros;simp only [bK,g81_3L,bI9,ih]
theorem bM4 (M B:List Int) (D T F:Int):bL9 n (AW M B D T F) cx=eD7 n (fun v4=>cx.ret (JE v4)) M B D T F:=bD3 n cx n M B D T F
def eB1 (kr:Int→Option β) (M B:List Int) (D T F:Int):Option β:=eD7 n kr M B D T F
def dA5 (s:FState) (cx:Cx β):Option β:=bL9 n s {cx with ex:=fun j s=>bif Nat.beq j 0 then cx.nrm s else cx.ex j s}
theorem bL4 (M B:List Int) (D T F:Int):dA5 n (AW M B D T F) cx=eB1 n (fun v4=>cx.ret (JE v4)) M B D T F:=bM4 n _ M B D T F
def cN6 (kr:Int→Option β) (M B:List Int):Option β:=eN5 n (fun M B D T F=>eB1 n kr M B D T F) M B
def NW (s:FState) (cx:Cx β):Option β:=bM0 n s {cx with nrm:=fun s=>dA5 n s cx}
theorem bT5 (M B:List Int):NW n (o9 M B) cx=cN6 n (fun v4=>cx.ret (JE v4)) M B:=by simp only [NW,cN6,bI8,bL4]
def g81 (M B:List Int):Option (DenR [.dat (.int .i64)]):=cN6 n (fun v4=>some (v4,())) M B
def eO8:List AK:=[.ro (.int .i32) 21,.ro (.int .i32) 21]
def cA5:List RK:=[.dat (.int .i64)]
def fB4 (d:DenA eO8):Option (DenR cA5):=g81 n d.1 d.2.1
def aC3:Spec:=aM eO8 cA5 (fB4 n)
def eR1:Sk:=(.nd (.fin none none none [] .leaf) (.nd (.fin none none none [] .leaf) (.nd (.fin none none none [] .leaf) (.nd (.fin none (some CW) none [] .leaf) (.nd (.nd (.nd (.fin none none (some QV) [] .leaf) (.fin none (some CW) (some QV) [] .leaf)) .leaf) .leaf)))))
theorem dO3 (s:FState) (cx:Cx β):FX (aK3 n) n aN0 eR1 s cx=NW n s cx:=by kernel_rfl
theorem QM:Fit Tryd.prog 81 (aC3 n):=
  cD (Γ:=Γ0) (l:=eH7 n) (n:=n) (sk:=eR1) (ts:=[(4,none)]) (fn:=Tryd.f81) (c:=aN0) (by kernel_rfl) (by kernel_rfl) (by unfold aO;kernel_rfl) cB trivial aH (by kernel_rfl) (by kernel_rfl) (Nat.le_of_ble_eq_true (by kernel_rfl)) (Nat.le_of_ble_eq_true (by kernel_rfl)) (by kernel_rfl) (by kernel_rfl)
    (fun d=>(dO3 n _ _).trans (Eq.trans (b:=NW n (o9 d.1 d.2.1) (cG (aK3 n) cA5 [(4,none)])) (by kernel_rfl) ((bT5 n _ d.1 d.2.1).trans (by kernel_rfl))))
def E4 (M:List Z28) (J R:Int) (y:List Z28):FState:=⟨aG [(0,.sl 0 none false),(1,.dat (.int .i64) J),(2,.dat (.int .i64) R),(3,.sl 3 none false)],aD [(0,.row Z25 81 true M),(3,.row Z25 81 false y)]⟩
def AA (X:List Z28):FState:=⟨aG [(8,.sl 8 none false)],aD [(8,.row Z25 81 true X)]⟩
def iV:List NE:=[.row 8 Z25 81 true]
def II (M:List Z28) (J R:Int) (y:List Z28) (be:Bool):FState:=⟨aG [(0,.sl 0 none false),(1,.dat (.int .i64) J),(2,.dat (.int .i64) R),(3,.sl 3 none false),(26,.dat .bool be)],aD [(0,.row Z25 81 true M),(3,.row Z25 81 false y)]⟩
def aC6:List NE:=[.row 0 Z25 81 true,.keep 1,.keep 2,.row 3 Z25 81 false,.keep 26]
def rE (M:List Z28) (J R:Int) (y:List Z28):FState:=⟨aG [(0,.sl 0 none false),(1,.dat (.int .i64) J),(2,.dat (.int .i64) R),(3,.sl 3 none false)],aD [(0,.row Z25 81 true M),(3,.row Z25 81 false y)]⟩
def sN:List NE:=[.row 0 Z25 81 true,.keep 1,.keep 2,.row 3 Z25 81 false]
def BB (M:List Z28) (E ba bb bc aq:Int):FState:=⟨aG [(0,.sl 0 none false),(9,.dat (.int .i64) E),(10,.sl 0 (some (ba,bb)) false),(55,.dat (.int .i64) bc),(56,.dat (.int .i64) aq)],aD [(0,.row Z25 81 true M)]⟩
def DB:List NE:=[.row 0 Z25 81 true,.keep 9,.row 10 Z25 81 true,.keep 55,.keep 56]
def GB (M:List Z28) (E:Int):FState:=⟨aG [(0,.sl 0 none false),(9,.dat (.int .i64) E)],aD [(0,.row Z25 81 true M)]⟩
def xR:List NE:=[.row 0 Z25 81 true,.keep 9]
def AF (M:List Z28) (J R:Int) (y:List Z28) (N:Int):FState:=⟨aG [(0,.sl 0 none false),(1,.dat (.int .i64) J),(2,.dat (.int .i64) R),(3,.sl 3 none false),(12,.dat (.int .i64) N)],aD [(0,.row Z25 81 true M),(3,.row Z25 81 false y)]⟩
def DT:List NE:=[.row 0 Z25 81 true,.keep 1,.keep 2,.row 3 Z25 81 false,.keep 12]
def eJ1 (n:Nat):List (Nat×Spec):=[]
def tT:Ctx:={Γ0 with calls:=lkS (eJ1 n)}
def qU:Code:=fb Tryd.f71
def cN3 (n:Nat) (kn:List Z28→Int→Int→List Z28→Bool→Option β) (kr:List Z28→Option β) (M:List Z28) (J R:Int) (y:List Z28):Option β:=bif ((y.length:Int)==R) then (bnd J (M.length:Int) (M.length:Int)<|kr (bE M (J+(0:Int)) ((M.length:Int) - J) y)) else (kn M J R y (decide ((y.length:Int) < R)))
def cS2:FS1 β:=FXs (tT n) n qU (some aC6) (some iV) [] [2,12,13,28]
theorem cL0 (M:List Z28) (J R:Int) (y:List Z28):cS2 n (E4 M J R y) cx=cN3 n (fun M J R y be=>cx.nrm (II M J R y be)) (fun X=>cx.ret (AA X)) M J R y:=by kernel_rfl
def bS3 (n:Nat) (kn:List Z28→Int→Int→Int→Int→Int→Option β) (M:List Z28) (J R:Int) (y:List Z28) (be:Bool):Option β:=bnd J (M.length:Int) (M.length:Int)<|bnd (w64 (J+(y.length:Int))) ((bE M (J+(0:Int)) ((M.length:Int) - J) y).length:Int) ((bE M (J+(0:Int)) ((M.length:Int) - J) y).length:Int)<|bnd (w64 (J+R)) ((bE M (J+(0:Int)) ((M.length:Int) - J) y).length:Int) ((bE M (J+(0:Int)) ((M.length:Int) - J) y).length:Int)<|bnd (w64 ((w64 (((bE (bE M (J+(0:Int)) ((M.length:Int) - J) y) ((w64 (J+(y.length:Int)))+(0:Int)) (((bE M (J+(0:Int)) ((M.length:Int) - J) y).length:Int) - (w64 (J+(y.length:Int)))) (cut (bE M (J+(0:Int)) ((M.length:Int) - J) y) (w64 (J+R)) ((w64 (J+R))+(((bE M (J+(0:Int)) ((M.length:Int) - J) y).length:Int) - (w64 (J+R)))))).length:Int) - R))+(y.length:Int))) ((bE (bE M (J+(0:Int)) ((M.length:Int) - J) y) ((w64 (J+(y.length:Int)))+(0:Int)) (((bE M (J+(0:Int)) ((M.length:Int) - J) y).length:Int) - (w64 (J+(y.length:Int)))) (cut (bE M (J+(0:Int)) ((M.length:Int) - J) y) (w64 (J+R)) ((w64 (J+R))+(((bE M (J+(0:Int)) ((M.length:Int) - J) y).length:Int) - (w64 (J+R)))))).length:Int) ((bE (bE M (J+(0:Int)) ((M.length:Int) - J) y) ((w64 (J+(y.length:Int)))+(0:Int)) (((bE M (J+(0:Int)) ((M.length:Int) - J) y).length:Int) - (w64 (J+(y.length:Int)))) (cut (bE M (J+(0:Int)) ((M.length:Int) - J) y) (w64 (J+R)) ((w64 (J+R))+(((bE M (J+(0:Int)) ((M.length:Int) - J) y).length:Int) - (w64 (J+R)))))).length:Int)<|kn (bE (bE M (J+(0:Int)) ((M.length:Int) - J) y) ((w64 (J+(y.length:Int)))+(0:Int)) (((bE M (J+(0:Int)) ((M.length:Int) - J) y).length:Int) - (w64 (J+(y.length:Int)))) (cut (bE M (J+(0:Int)) ((M.length:Int) - J) y) (w64 (J+R)) ((w64 (J+R))+(((bE M (J+(0:Int)) ((M.length:Int) - J) y).length:Int) - (w64 (J+R)))))) (w64 ((w64 (((bE (bE M (J+(0:Int)) ((M.length:Int) - J) y) ((w64 (J+(y.length:Int)))+(0:Int)) (((bE M (J+(0:Int)) ((M.length:Int) - J) y).length:Int) - (w64 (J+(y.length:Int)))) (cut (bE M (J+(0:Int)) ((M.length:Int) - J) y) (w64 (J+R)) ((w64 (J+R))+(((bE M (J+(0:Int)) ((M.length:Int) - J) y).length:Int) - (w64 (J+R)))))).length:Int) - R))+(y.length:Int))) (w64 ((w64 (((bE (bE M (J+(0:Int)) ((M.length:Int) - J) y) ((w64 (J+(y.length:Int)))+(0:Int)) (((bE M (J+(0:Int)) ((M.length:Int) - J) y).length:Int) - (w64 (J+(y.length:Int)))) (cut (bE M (J+(0:Int)) ((M.length:Int) - J) y) (w64 (J+R)) ((w64 (J+R))+(((bE M (J+(0:Int)) ((M.length:Int) - J) y).length:Int) - (w64 (J+R)))))).length:Int) - R))+(y.length:Int))) (((bE (bE M (J+(0:Int)) ((M.length:Int) - J) y) ((w64 (J+(y.length:Int)))+(0:Int)) (((bE M (J+(0:Int)) ((M.length:Int) - J) y).length:Int) - (w64 (J+(y.length:Int)))) (cut (bE M (J+(0:Int)) ((M.length:Int) - J) y) (w64 (J+R)) ((w64 (J+R))+(((bE M (J+(0:Int)) ((M.length:Int) - J) y).length:Int) - (w64 (J+R)))))).length:Int) - (w64 ((w64 (((bE (bE M (J+(0:Int)) ((M.length:Int) - J) y) ((w64 (J+(y.length:Int)))+(0:Int)) (((bE M (J+(0:Int)) ((M.length:Int) - J) y).length:Int) - (w64 (J+(y.length:Int)))) (cut (bE M (J+(0:Int)) ((M.length:Int) - J) y) (w64 (J+R)) ((w64 (J+R))+(((bE M (J+(0:Int)) ((M.length:Int) - J) y).length:Int) - (w64 (J+R)))))).length:Int) - R))+(y.length:Int)))) (((bE (bE M (J+(0:Int)) ((M.length:Int) - J) y) ((w64 (J+(y.length:Int)))+(0:Int)) (((bE M (J+(0:Int)) ((M.length:Int) - J) y).length:Int) - (w64 (J+(y.length:Int)))) (cut (bE M (J+(0:Int)) ((M.length:Int) - J) y) (w64 (J+R)) ((w64 (J+R))+(((bE M (J+(0:Int)) ((M.length:Int) - J) y).length:Int) - (w64 (J+R)))))).length:Int) - (w64 ((w64 (((bE (bE M (J+(0:Int)) ((M.length:Int) - J) y) ((w64 (J+(y.length:Int)))+(0:Int)) (((bE M (J+(0:Int)) ((M.length:Int) - J) y).length:Int) - (w64 (J+(y.length:Int)))) (cut (bE M (J+(0:Int)) ((M.length:Int) - J) y) (w64 (J+R)) ((w64 (J+R))+(((bE M (J+(0:Int)) ((M.length:Int) - J) y).length:Int) - (w64 (J+R)))))).length:Int) - R))+(y.length:Int)))) (0:Int)
def bZ8:FS1 β:=FXs (tT n) n qU (some DB) none [] [116,234,470,942,3772]
theorem cE0 (M:List Z28) (J R:Int) (y:List Z28) (be:Bool):bZ8 n (II M J R y be) cx=bS3 n (fun M E ba bb bc aq=>cx.nrm (BB M E ba bb bc aq)) M J R y be:=by kernel_rfl
def z6 (n:Nat) (kn:List Z28→Int→Int→Int→Int→Int→Option β) (ae:List Z28→Int→Option β) (M:List Z28) (E ba bb bc aq:Int):Option β:=bif (decide (aq < bc)) then (idx aq bb<|kn (M.set (ba+aq).toNat Z18) E ba bb bc (w64 (aq+1))) else (ae M E)
def Q0:FS1 β:=FXs (tT n) n qU (some DB) none [(0,xR)] [30184,60370,120742,120743]
theorem dJ8 (M:List Z28) (E ba bb bc aq:Int):Q0 n (BB M E ba bb bc aq) cx=z6 n (fun M E ba bb bc aq=>cx.nrm (BB M E ba bb bc aq)) (fun M E=>cx.ex 0 (GB M E)) M E ba bb bc aq:=by kernel_rfl
def g71_4L (n:Nat) (ae:List Z28→Int→Option β):Nat→List Z28→Int→Int→Int→Int→Int→Option β
  | 0,_,_,_,_,_,_=>none
  | m+1,M,E,ba,bb,bc,aq=>z6 n (g71_4L n ae m) ae M E ba bb bc aq
def bJ9 (ae:List Z28→Int→Option β) (M:List Z28) (E ba bb bc aq:Int):Option β:=g71_4L n ae n M E ba bb bc aq
def bN8 (s:FState) (cx:Cx β):Option β:=bK (fun again s=>Q0 n s {cx with nrm:=again}) n s
theorem aV7 (n:Nat) (cx:Cx β):∀(m:Nat) (M:List Z28) (E ba bb bc aq:Int),bK (fun again s=>Q0 n s {cx with nrm:=again}) m (BB M E ba bb bc aq)=g71_4L n (fun M E=>cx.ex 0 (GB M E)) m M E ba bb bc aq:=by
  intro m
  induction m with
  | zero=>intros;rfl
  | succ m ih=>intros;simp only [bK,g71_4L,dJ8,ih]
theorem bW6 (M:List Z28) (E ba bb bc aq:Int):bN8 n (BB M E ba bb bc aq) cx=bJ9 n (fun M E=>cx.ex 0 (GB M E)) M E ba bb bc aq:=aV7 n cx n M E ba bb bc aq
def cQ0 (kn:List Z28→Int→Option β) (M:List Z28) (E ba bb bc aq:Int):Option β:=bJ9 n kn M E ba bb bc aq
def bU6 (s:FState) (cx:Cx β):Option β:=bN8 n s {cx with ex:=fun j s=>bif Nat.beq j 0 then cx.nrm s else cx.ex j s}
theorem cX4 (M:List Z28) (E ba bb bc aq:Int):bU6 n (BB M E ba bb bc aq) cx=cQ0 n (fun M E=>cx.nrm (GB M E)) M E ba bb bc aq:=bW6 n _ M E ba bb bc aq
def aP9 (n:Nat) (kr:List Z28→Option β) (M:List Z28) (E:Int):Option β:=bnd (0:Int) E (M.length:Int)<|kr (cut M (0:Int) ((0:Int)+(E - (0:Int))))
def bR4:FS1 β:=FXs (tT n) n qU none (some iV) [] [3774,3775]
theorem cX7 (M:List Z28) (E:Int):bR4 n (GB M E) cx=aP9 n (fun X=>cx.ret (AA X)) M E:=by kernel_rfl
def y8 (kr:List Z28→Option β) (M:List Z28) (J R:Int) (y:List Z28) (be:Bool):Option β:=bS3 n (fun M E ba bb bc aq=>cQ0 n (fun M E=>aP9 n kr M E) M E ba bb bc aq) M J R y be
def K5 (s:FState) (cx:Cx β):Option β:=bZ8 n s {cx with nrm:=fun s=>bU6 n s {cx with nrm:=fun s=>bR4 n s cx}}
theorem bQ3 (M:List Z28) (J R:Int) (y:List Z28) (be:Bool):K5 n (II M J R y be) cx=y8 n (fun X=>cx.ret (AA X)) M J R y be:=by simp only [K5,y8,cE0,cX4,cX7]
def cD3 (n:Nat) (kn:List Z28→Int→Int→List Z28→Option β) (M:List Z28) (J R:Int) (y:List Z28) (be:Bool):Option β:=kn M J R y
def bV7:FS1 β:=FXs (tT n) n qU (some sN) none [] [59]
theorem bH5 (M:List Z28) (J R:Int) (y:List Z28) (be:Bool):bV7 n (II M J R y be) cx=cD3 n (fun M J R y=>cx.nrm (rE M J R y)) M J R y be:=by kernel_rfl
def aB8 (kn:List Z28→Int→Int→List Z28→Option β) (kr:List Z28→Option β) (M:List Z28) (J R:Int) (y:List Z28) (be:Bool):Option β:=bif be then y8 n kr M J R y be else cD3 n kn M J R y be
def Q2 (s:FState) (cx:Cx β):Option β:=asBool (ev s (kO (nav qU [1,1,0,1]))) fun t=>cond t (K5 n s cx) (bV7 n s cx)
theorem cE3 (M:List Z28) (J R:Int) (y:List Z28) (be:Bool):Q2 n (II M J R y be) cx=aB8 n (fun M J R y=>cx.nrm (rE M J R y)) (fun X=>cx.ret (AA X)) M J R y be:=by
  simp only [Q2,aB8,bQ3,bH5]
  kernel_rfl
def d9 (n:Nat) (kn:List Z28→Int→Int→List Z28→Int→Option β) (M:List Z28) (J R:Int) (y:List Z28):Option β:=kn M J R y (w64 ((w64 ((M.length:Int) - R))+(y.length:Int)))
def aD6:FS1 β:=FXs (tT n) n qU (some DT) none [] [30]
theorem bC5 (M:List Z28) (J R:Int) (y:List Z28):aD6 n (rE M J R y) cx=d9 n (fun M J R y N=>cx.nrm (AF M J R y N)) M J R y:=by kernel_rfl
def QO (n:Nat) (kn:List Z28→Int→Int→List Z28→Int→Option β) (ap:List Z28→Int→Int→List Z28→Option β) (M:List Z28) (J R:Int) (y:List Z28) (N:Int):Option β:=bif (decide ((M.length:Int) < N)) then (cJ (M.length+[Z18].length)<|kn (M++[Z18]) J R y N) else (ap M J R y)
def QP:FS1 β:=FXs (tT n) n qU (some DT) none [(2,sN)] [992,993,497]
theorem aT4 (M:List Z28) (J R:Int) (y:List Z28) (N:Int):QP n (AF M J R y N) cx=QO n (fun M J R y N=>cx.nrm (AF M J R y N)) (fun M J R y=>cx.ex 2 (rE M J R y)) M J R y N:=by kernel_rfl
def g71_12L (n:Nat) (ap:List Z28→Int→Int→List Z28→Option β):Nat→List Z28→Int→Int→List Z28→Int→Option β
  | 0,_,_,_,_,_=>none
  | m+1,M,J,R,y,N=>QO n (g71_12L n ap m) ap M J R y N
def E8 (ap:List Z28→Int→Int→List Z28→Option β) (M:List Z28) (J R:Int) (y:List Z28) (N:Int):Option β:=g71_12L n ap n M J R y N
def aG6 (s:FState) (cx:Cx β):Option β:=bK (fun again s=>QP n s {cx with nrm:=again}) n s
theorem V5 (n:Nat) (cx:Cx β):∀(m:Nat) (M:List Z28) (J R:Int) (y:List Z28) (N:Int),bK (fun again s=>QP n s {cx with nrm:=again}) m (AF M J R y N)=g71_12L n (fun M J R y=>cx.ex 2 (rE M J R y)) m M J R y N:=by
  intro m
  induction m with
  | zero=>intros;rfl
  | succ m ih=>intros;simp only [bK,g71_12L,aT4,ih]
theorem aV1 (M:List Z28) (J R:Int) (y:List Z28) (N:Int):aG6 n (AF M J R y N) cx=E8 n (fun M J R y=>cx.ex 2 (rE M J R y)) M J R y N:=V5 n cx n M J R y N
def R0 (kn:List Z28→Int→Int→List Z28→Option β) (M:List Z28) (J R:Int) (y:List Z28) (N:Int):Option β:=E8 n kn M J R y N
def aA7 (s:FState) (cx:Cx β):Option β:=aG6 n s {cx with ex:=fun j s=>bif Nat.beq j 2 then cx.nrm s else cx.ex j s}
theorem aR7 (M:List Z28) (J R:Int) (y:List Z28) (N:Int):aA7 n (AF M J R y N) cx=R0 n (fun M J R y=>cx.nrm (rE M J R y)) M J R y N:=aV1 n _ M J R y N
def OZ (n:Nat) (kr:List Z28→Option β) (M:List Z28) (J R:Int) (y:List Z28):Option β:=bnd (w64 (J+(y.length:Int))) (M.length:Int) (M.length:Int)<|bnd (w64 (J+R)) (M.length:Int) (M.length:Int)<|bnd J ((bE M ((w64 (J+(y.length:Int)))+(0:Int)) ((M.length:Int) - (w64 (J+(y.length:Int)))) (cut M (w64 (J+R)) ((w64 (J+R))+((M.length:Int) - (w64 (J+R)))))).length:Int) ((bE M ((w64 (J+(y.length:Int)))+(0:Int)) ((M.length:Int) - (w64 (J+(y.length:Int)))) (cut M (w64 (J+R)) ((w64 (J+R))+((M.length:Int) - (w64 (J+R)))))).length:Int)<|kr (bE (bE M ((w64 (J+(y.length:Int)))+(0:Int)) ((M.length:Int) - (w64 (J+(y.length:Int)))) (cut M (w64 (J+R)) ((w64 (J+R))+((M.length:Int) - (w64 (J+R)))))) (J+(0:Int)) (((bE M ((w64 (J+(y.length:Int)))+(0:Int)) ((M.length:Int) - (w64 (J+(y.length:Int)))) (cut M (w64 (J+R)) ((w64 (J+R))+((M.length:Int) - (w64 (J+R)))))).length:Int) - J) y)
def u7:FS1 β:=FXs (tT n) n qU none (some iV) [] [126,254,510,511]
theorem aS0 (M:List Z28) (J R:Int) (y:List Z28):u7 n (rE M J R y) cx=OZ n (fun X=>cx.ret (AA X)) M J R y:=by kernel_rfl
def TZ (kr:List Z28→Option β) (M:List Z28) (J R:Int) (y:List Z28):Option β:=cN3 n (fun M J R y be=>aB8 n (fun M J R y=>d9 n (fun M J R y N=>R0 n (fun M J R y=>OZ n kr M J R y) M J R y N) M J R y) kr M J R y be) kr M J R y
def EG (s:FState) (cx:Cx β):Option β:=cS2 n s {cx with nrm:=fun s=>Q2 n s {cx with nrm:=fun s=>aD6 n s {cx with nrm:=fun s=>aA7 n s {cx with nrm:=fun s=>u7 n s cx}}}}
theorem aT2 (M:List Z28) (J R:Int) (y:List Z28):EG n (E4 M J R y) cx=TZ n (fun X=>cx.ret (AA X)) M J R y:=by simp only [EG,TZ,cL0,cE3,bC5,aR7,aS0]
def g71 (M:List Z28) (J R:Int) (y:List Z28):Option (DenR [.rw Z25 81]):=TZ n (fun X=>some (X,())) M J R y
def eA3:List AK:=[.rw Z25 81,.dat (.int .i64),.dat (.int .i64),.ro Z25 81]
def cK1:List RK:=[.rw Z25 81]
def fG6 (d:DenA eA3):Option (DenR cK1):=g71 n d.1 d.2.1 d.2.2.1 d.2.2.2.1
def XA:Spec:=aM eA3 cK1 (fG6 n)
def eO4:Sk:=(.nd (.fin none none (some iV) [] .leaf) (.nd (.nd (.fin none none (some iV) [] .leaf) (.fin none none (some iV) [] .leaf)) (.nd (.nd (.fin none (some aC6) (some iV) [] .leaf) (.nd (.nd (.fin none none none [] .leaf) (.nd (.fin none none none [] .leaf) (.nd (.fin none none none [] .leaf) (.nd (.fin none none none [] .leaf) (.nd (.nd (.fin none (some DB) none [] .leaf) (.nd (.nd (.nd (.fin none none none [(0,xR)] .leaf) (.nd (.fin none none none [(0,xR)] .leaf) (.nd (.fin none none none [(0,xR)] .leaf) (.fin none (some DB) none [(0,xR)] .leaf)))) .leaf) .leaf)) (.nd (.fin none none (some iV) [] .leaf) (.fin none none (some iV) [] .leaf))))))) (.fin none (some sN) none [] .leaf))) (.nd (.fin none (some DT) none [] .leaf) (.nd (.nd (.nd (.nd (.nd (.fin none none none [(2,sN)] .leaf) (.fin none none none [(2,sN)] .leaf)) (.fin none (some DT) none [(2,sN)] .leaf)) .leaf) .leaf) (.nd (.fin none none (some iV) [] .leaf) (.nd (.fin none none (some iV) [] .leaf) (.nd (.fin none none (some iV) [] .leaf) (.fin none none (some iV) [] .leaf)))))))))
theorem dW8 (s:FState) (cx:Cx β):FX (tT n) n qU eO4 s cx=EG n s cx:=by kernel_rfl
theorem DS:Fit Tryd.prog 71 (XA n):=
  cD (Γ:=Γ0) (l:=eJ1 n) (n:=n) (sk:=eO4) (ts:=[(8,none)]) (fn:=Tryd.f71) (c:=qU) (by kernel_rfl) (by kernel_rfl) (by unfold aO;kernel_rfl) cB trivial aH (by kernel_rfl) (by kernel_rfl) (Nat.le_of_ble_eq_true (by kernel_rfl)) (Nat.le_of_ble_eq_true (by kernel_rfl)) (by kernel_rfl) (by kernel_rfl)
    (fun d=>(dW8 n _ _).trans (Eq.trans (b:=EG n (E4 d.1 d.2.1 d.2.2.1 d.2.2.2.1) (cG (tT n) cK1 [(8,none)])) (by kernel_rfl) ((aT2 n _ d.1 d.2.1 d.2.2.1 d.2.2.2.1).trans (by kernel_rfl))))
def aF6 (Y J:BA):FState:=⟨aG [(0,.dat .str Y),(1,.dat .str J)],aD []⟩
def dZ1 (v4:Bool):FState:=⟨aG [(4,.dat .bool v4)],aD []⟩
def zA:List NE:=[.keep 4]
def cF3 (n:Nat):List (Nat×Spec):=[]
def j7:Ctx:={Γ0 with calls:=lkS (cF3 n)}
def T2:Code:=fb Tryd.f111
def I8 (n:Nat) (kr:Bool→Option β) (Y J:BA):Option β:=bif (decide ((Y.size:Int)≥(J.size:Int))) then (bnd (w64 ((Y.size:Int) - (J.size:Int))) (Y.size:Int) (Y.size:Int)<|kr (dY (bA Y (w64 ((Y.size:Int) - (J.size:Int))) (Y.size:Int)) J)) else (kr false)
def UO:FS1 β:=FXs (j7 n) n T2 none (some zA) [] [2,6,7]
theorem bA9 (Y J:BA):UO n (aF6 Y J) cx=I8 n (fun v4=>cx.ret (dZ1 v4)) Y J:=by kernel_rfl
def eY4 (Y J:BA):Option (DenR [.dat .bool]):=I8 n (fun v4=>some (v4,())) Y J
def cZ8:List AK:=[.dat .str,.dat .str]
def K8:List RK:=[.dat .bool]
def eV6 (d:DenA cZ8):Option (DenR K8):=eY4 n d.1 d.2.1
def bS1:Spec:=aM cZ8 K8 (eV6 n)
def bG9:Sk:=(.nd (.fin none none (some zA) [] .leaf) (.nd (.fin none none (some zA) [] .leaf) (.fin none none (some zA) [] .leaf)))
theorem dM7 (s:FState) (cx:Cx β):FX (j7 n) n T2 bG9 s cx=UO n s cx:=by kernel_rfl
theorem dK5:Fit Tryd.prog 111 (bS1 n):=
  cD (Γ:=Γ0) (l:=cF3 n) (n:=n) (sk:=bG9) (ts:=[(4,none)]) (fn:=Tryd.f111) (c:=T2) (by kernel_rfl) (by kernel_rfl) (by unfold aO;kernel_rfl) cB trivial aH (by kernel_rfl) (by kernel_rfl) (Nat.le_of_ble_eq_true (by kernel_rfl)) (Nat.le_of_ble_eq_true (by kernel_rfl)) (by kernel_rfl) (by kernel_rfl)
    (fun d=>(dM7 n _ _).trans (Eq.trans (b:=UO n (aF6 d.1 d.2.1) (cG (j7 n) K8 [(4,none)])) (by kernel_rfl) ((bA9 n _ d.1 d.2.1).trans (by kernel_rfl))))
def bI6 (Y J:BA):FState:=⟨aG [(0,.dat .str Y),(1,.dat .str J)],aD []⟩
def eW7 (v4:Bool):FState:=⟨aG [(4,.dat .bool v4)],aD []⟩
def FK:List NE:=[.keep 4]
def eK6:List (Nat×Spec):=[(111,bS1 n)]
def bV3:Ctx:={Γ0 with calls:=lkS (eK6 n)}
def bM6:Code:=fb Tryd.f91
def cO9 (kr:Bool→Option β) (Y J:BA):Option β:=(eY4 n Y J).bind fun V=>kr V.1
def P4:FS1 β:=FXs (bV3 n) n bM6 none (some FK) [] [2,6,7]
theorem bV4 (Y J:BA):P4 n (bI6 Y J) cx=cO9 n (fun v4=>cx.ret (eW7 v4)) Y J:=by kernel_rfl
def g91 (Y J:BA):Option (DenR [.dat .bool]):=cO9 n (fun v4=>some (v4,())) Y J
def eF9:List AK:=[.dat .str,.dat .str]
def cM8:List RK:=[.dat .bool]
def fE9 (d:DenA eF9):Option (DenR cM8):=g91 n d.1 d.2.1
def cS8:Spec:=aM eF9 cM8 (fE9 n)
def eE5:Sk:=(.nd (.fin none none (some FK) [] .leaf) (.nd (.fin none none (some FK) [] .leaf) (.fin none none (some FK) [] .leaf)))
theorem dU2 (s:FState) (cx:Cx β):FX (bV3 n) n bM6 eE5 s cx=P4 n s cx:=by kernel_rfl
theorem aF8:Fit Tryd.prog 91 (cS8 n):=
  cD (Γ:=Γ0) (l:=eK6 n) (n:=n) (sk:=eE5) (ts:=[(4,none)]) (fn:=Tryd.f91) (c:=bM6) (by kernel_rfl) (by kernel_rfl) (by unfold aO;kernel_rfl) cB ⟨dK5 n,trivial⟩ aH (by kernel_rfl) (by kernel_rfl) (Nat.le_of_ble_eq_true (by kernel_rfl)) (Nat.le_of_ble_eq_true (by kernel_rfl)) (by kernel_rfl) (by kernel_rfl)
    (fun d=>(dU2 n _ _).trans (Eq.trans (b:=P4 n (bI6 d.1 d.2.1) (cG (bV3 n) cM8 [(4,none)])) (by kernel_rfl) ((bV4 n _ d.1 d.2.1).trans (by kernel_rfl))))
def z8 (Y J:BA):FState:=⟨aG [(0,.dat .str Y),(1,.dat .str J)],aD []⟩
def dV1 (v4:Bool):FState:=⟨aG [(4,.dat .bool v4)],aD []⟩
def wW:List NE:=[.keep 4]
def bZ4 (n:Nat):List (Nat×Spec):=[]
def J7:Ctx:={Γ0 with calls:=lkS (bZ4 n)}
def a8:Code:=fb Tryd.f112
def R4 (n:Nat) (kr:Bool→Option β) (Y J:BA):Option β:=bif (decide ((Y.size:Int)≥(J.size:Int))) then (bnd (0:Int) (J.size:Int) (Y.size:Int)<|kr (dY (bA Y (0:Int) (J.size:Int)) J)) else (kr false)
def RZ:FS1 β:=FXs (J7 n) n a8 none (some wW) [] [2,6,7]
theorem bA5 (Y J:BA):RZ n (z8 Y J) cx=R4 n (fun v4=>cx.ret (dV1 v4)) Y J:=by kernel_rfl
def eW6 (Y J:BA):Option (DenR [.dat .bool]):=R4 n (fun v4=>some (v4,())) Y J
def dG9:List AK:=[.dat .str,.dat .str]
def m6:List RK:=[.dat .bool]
def eT5 (d:DenA dG9):Option (DenR m6):=eW6 n d.1 d.2.1
def cB6:Spec:=aM dG9 m6 (eT5 n)
def cL6:Sk:=(.nd (.fin none none (some wW) [] .leaf) (.nd (.fin none none (some wW) [] .leaf) (.fin none none (some wW) [] .leaf)))
theorem cR1 (s:FState) (cx:Cx β):FX (J7 n) n a8 cL6 s cx=RZ n s cx:=by kernel_rfl
theorem cG4:Fit Tryd.prog 112 (cB6 n):=
  cD (Γ:=Γ0) (l:=bZ4 n) (n:=n) (sk:=cL6) (ts:=[(4,none)]) (fn:=Tryd.f112) (c:=a8) (by kernel_rfl) (by kernel_rfl) (by unfold aO;kernel_rfl) cB trivial aH (by kernel_rfl) (by kernel_rfl) (Nat.le_of_ble_eq_true (by kernel_rfl)) (Nat.le_of_ble_eq_true (by kernel_rfl)) (by kernel_rfl) (by kernel_rfl)
    (fun d=>(cR1 n _ _).trans (Eq.trans (b:=RZ n (z8 d.1 d.2.1) (cG (J7 n) m6 [(4,none)])) (by kernel_rfl) ((bA5 n _ d.1 d.2.1).trans (by kernel_rfl))))
def bZ1 (Y J:BA):FState:=⟨aG [(0,.dat .str Y),(1,.dat .str J)],aD []⟩
def eV2 (v4:Bool):FState:=⟨aG [(4,.dat .bool v4)],aD []⟩
def FQ:List NE:=[.keep 4]
def eN3:List (Nat×Spec):=[(112,cB6 n)]
def bG2:Ctx:={Γ0 with calls:=lkS (eN3 n)}
def bW5:Code:=fb Tryd.f92
def dA8 (kr:Bool→Option β) (Y J:BA):Option β:=(eW6 n Y J).bind fun V=>kr V.1
def b9:FS1 β:=FXs (bG2 n) n bW5 none (some FQ) [] [2,6,7]
theorem cT0 (Y J:BA):b9 n (bZ1 Y J) cx=dA8 n (fun v4=>cx.ret (eV2 v4)) Y J:=by kernel_rfl
def g92 (Y J:BA):Option (DenR [.dat .bool]):=dA8 n (fun v4=>some (v4,())) Y J
def eL5:List AK:=[.dat .str,.dat .str]
def cH2:List RK:=[.dat .bool]
def fC2 (d:DenA eL5):Option (DenR cH2):=g92 n d.1 d.2.1
def eG5:Spec:=aM eL5 cH2 (fC2 n)
def eO6:Sk:=(.nd (.fin none none (some FQ) [] .leaf) (.nd (.fin none none (some FQ) [] .leaf) (.fin none none (some FQ) [] .leaf)))
theorem dQ0 (s:FState) (cx:Cx β):FX (bG2 n) n bW5 eO6 s cx=b9 n s cx:=by kernel_rfl
theorem dZ3:Fit Tryd.prog 92 (eG5 n):=
  cD (Γ:=Γ0) (l:=eN3 n) (n:=n) (sk:=eO6) (ts:=[(4,none)]) (fn:=Tryd.f92) (c:=bW5) (by kernel_rfl) (by kernel_rfl) (by unfold aO;kernel_rfl) cB ⟨cG4 n,trivial⟩ aH (by kernel_rfl) (by kernel_rfl) (Nat.le_of_ble_eq_true (by kernel_rfl)) (Nat.le_of_ble_eq_true (by kernel_rfl)) (by kernel_rfl) (by kernel_rfl)
    (fun d=>(dQ0 n _ _).trans (Eq.trans (b:=b9 n (bZ1 d.1 d.2.1) (cG (bG2 n) cH2 [(4,none)])) (by kernel_rfl) ((cT0 n _ d.1 d.2.1).trans (by kernel_rfl))))
def nL:List AK:=[.pro Z1 74,.rw Z25 81]
def kG:List RK:=[.rw Z25 81]
abbrev Q73:=DenA nL→Option (DenR kG)
def P5 (C:Z11) (B:List Z28):FState:=⟨aG [(0,.ptr 0 0 0),(1,.sl 1 none false)],aD [(0,.row Z1 74 false [C]),(1,.row Z25 81 true B)]⟩
def bH7 (x4:List Z28):FState:=⟨aG [(4,.sl 4 none false)],aD [(4,.row Z25 81 true x4)]⟩
def wU:List NE:=[.row 4 Z25 81 true]
def cY (C:Z11) (B:List Z28) (D T F:Int) (x9 W:List Int):FState:=⟨aG [(0,.ptr 0 0 0),(1,.sl 1 none false),(5,.dat (.int .i64) D),(6,.dat (.int .i64) T),(7,.dat (.int .i64) F),(9,.sl 9 none false),(10,.sl 10 none false)],aD [(0,.row Z1 74 false [C]),(1,.row Z25 81 true B),(9,.row (.int .i32) 21 true x9),(10,.row (.int .i32) 21 true W)]⟩
def dD:List NE:=[.ptr 0 Z1 74 false,.row 1 Z25 81 true,.keep 5,.keep 6,.keep 7,.row 9 (.int .i32) 21 true,.row 10 (.int .i32) 21 true]
def rC (C:Z11) (B:List Z28):FState:=⟨aG [(0,.ptr 0 0 0),(1,.sl 1 none false)],aD [(0,.row Z1 74 false [C]),(1,.row Z25 81 true B)]⟩
def wD:List NE:=[.ptr 0 Z1 74 false,.row 1 Z25 81 true]
def TW (C:Z11) (B:List Z28) (D T F:Int) (x9 W:List Int) (ak:Int):FState:=⟨aG [(0,.ptr 0 0 0),(1,.sl 1 none false),(5,.dat (.int .i64) D),(6,.dat (.int .i64) T),(7,.dat (.int .i64) F),(9,.sl 9 none false),(10,.sl 10 none false),(27,.dat (.int .i8) ak)],aD [(0,.row Z1 74 false [C]),(1,.row Z25 81 true B),(9,.row (.int .i32) 21 true x9),(10,.row (.int .i32) 21 true W)]⟩
def aI3:List NE:=[.ptr 0 Z1 74 false,.row 1 Z25 81 true,.keep 5,.keep 6,.keep 7,.row 9 (.int .i32) 21 true,.row 10 (.int .i32) 21 true,.keep 27]
def HF (C:Z11) (B:List Z28) (D T F:Int) (x9 W:List Int) (ak:Int) (aa:Bool):FState:=⟨aG [(0,.ptr 0 0 0),(1,.sl 1 none false),(5,.dat (.int .i64) D),(6,.dat (.int .i64) T),(7,.dat (.int .i64) F),(9,.sl 9 none false),(10,.sl 10 none false),(27,.dat (.int .i8) ak),(28,.dat .bool aa)],aD [(0,.row Z1 74 false [C]),(1,.row Z25 81 true B),(9,.row (.int .i32) 21 true x9),(10,.row (.int .i32) 21 true W)]⟩
def aJ7:List NE:=[.ptr 0 Z1 74 false,.row 1 Z25 81 true,.keep 5,.keep 6,.keep 7,.row 9 (.int .i32) 21 true,.row 10 (.int .i32) 21 true,.keep 27,.keep 28]
def GV (C:Z11) (B:List Z28) (D T F:Int) (x9 W:List Int) (ak:Int) (bf:Bool):FState:=⟨aG [(0,.ptr 0 0 0),(1,.sl 1 none false),(5,.dat (.int .i64) D),(6,.dat (.int .i64) T),(7,.dat (.int .i64) F),(9,.sl 9 none false),(10,.sl 10 none false),(27,.dat (.int .i8) ak),(42,.dat .bool bf)],aD [(0,.row Z1 74 false [C]),(1,.row Z25 81 true B),(9,.row (.int .i32) 21 true x9),(10,.row (.int .i32) 21 true W)]⟩
def aG9:List NE:=[.ptr 0 Z1 74 false,.row 1 Z25 81 true,.keep 5,.keep 6,.keep 7,.row 9 (.int .i32) 21 true,.row 10 (.int .i32) 21 true,.keep 27,.keep 42]
def JT (C:Z11) (B:List Z28) (D T F:Int) (x9 W:List Int) (aq:Bool):FState:=⟨aG [(0,.ptr 0 0 0),(1,.sl 1 none false),(5,.dat (.int .i64) D),(6,.dat (.int .i64) T),(7,.dat (.int .i64) F),(9,.sl 9 none false),(10,.sl 10 none false),(56,.dat .bool aq)],aD [(0,.row Z1 74 false [C]),(1,.row Z25 81 true B),(9,.row (.int .i32) 21 true x9),(10,.row (.int .i32) 21 true W)]⟩
def aB3:List NE:=[.ptr 0 Z1 74 false,.row 1 Z25 81 true,.keep 5,.keep 6,.keep 7,.row 9 (.int .i32) 21 true,.row 10 (.int .i32) 21 true,.keep 56]
def HG (C:Z11) (B:List Z28) (D T F:Int) (x9 W:List Int) (ar:Bool):FState:=⟨aG [(0,.ptr 0 0 0),(1,.sl 1 none false),(5,.dat (.int .i64) D),(6,.dat (.int .i64) T),(7,.dat (.int .i64) F),(9,.sl 9 none false),(10,.sl 10 none false),(61,.dat .bool ar)],aD [(0,.row Z1 74 false [C]),(1,.row Z25 81 true B),(9,.row (.int .i32) 21 true x9),(10,.row (.int .i32) 21 true W)]⟩
def aF5:List NE:=[.ptr 0 Z1 74 false,.row 1 Z25 81 true,.keep 5,.keep 6,.keep 7,.row 9 (.int .i32) 21 true,.row 10 (.int .i32) 21 true,.keep 61]
def xZ (C:Z11) (B:List Z28) (D:Int):FState:=⟨aG [(0,.ptr 0 0 0),(1,.sl 1 none false),(5,.dat (.int .i64) D)],aD [(0,.row Z1 74 false [C]),(1,.row Z25 81 true B)]⟩
def wL:List NE:=[.ptr 0 Z1 74 false,.row 1 Z25 81 true,.keep 5]
def aG2 (C:Z11) (B:List Z28) (D T F:Int):FState:=⟨aG [(0,.ptr 0 0 0),(1,.sl 1 none false),(5,.dat (.int .i64) D),(6,.dat (.int .i64) T),(7,.dat (.int .i64) F)],aD [(0,.row Z1 74 false [C]),(1,.row Z25 81 true B)]⟩
def YH:List NE:=[.ptr 0 Z1 74 false,.row 1 Z25 81 true,.keep 5,.keep 6,.keep 7]
def aA9 (C:Z11) (B:List Z28) (D F:Int):FState:=⟨aG [(0,.ptr 0 0 0),(1,.sl 1 none false),(5,.dat (.int .i64) D),(7,.dat (.int .i64) F)],aD [(0,.row Z1 74 false [C]),(1,.row Z25 81 true B)]⟩
def D7:List NE:=[.ptr 0 Z1 74 false,.row 1 Z25 81 true,.keep 5,.keep 7]
def tJ (C:Z11) (B:List Z28) (D:Int) (ac:Bool):FState:=⟨aG [(0,.ptr 0 0 0),(1,.sl 1 none false),(5,.dat (.int .i64) D),(14,.dat .bool ac)],aD [(0,.row Z1 74 false [C]),(1,.row Z25 81 true B)]⟩
def yV:List NE:=[.ptr 0 Z1 74 false,.row 1 Z25 81 true,.keep 5,.keep 14]
def wH (C:Z11) (B:List Z28) (ac:Bool):FState:=⟨aG [(0,.ptr 0 0 0),(1,.sl 1 none false),(14,.dat .bool ac)],aD [(0,.row Z1 74 false [C]),(1,.row Z25 81 true B)]⟩
def wN:List NE:=[.ptr 0 Z1 74 false,.row 1 Z25 81 true,.keep 14]
end
section
variable (n:Nat) (q73:Q73) (cx:Cx β)
def eN2:List (Nat×Spec):=[(71,XA n),(80,cO5 n),(81,aC3 n),(91,cS8 n),(92,eG5 n),(73,aM nL kG q73)]
def iY:Ctx:={Γ0 with calls:=lkS (eN2 n q73)}
def gG:Code:=fb Tryd.f73
def cQ8 (n:Nat) (q73:Q73) (kn:Z11→List Z28→Int→Int→Int→List Int→List Int→Option β) (C:Z11) (B:List Z28):Option β:=cJ (B.length+[Z18].length)<|kn C (B++[Z18]) (0:Int) (0:Int) (0:Int) [] []
def cD8:FS1 β:=FXs (iY n q73) n gG (some dD) none [] [2,6,14,30,62,126,254,510]
theorem dL6 (C:Z11) (B:List Z28):cD8 n q73 (P5 C B) cx=cQ8 n q73 (fun C B D T F x9 W=>cx.nrm (cY C B D T F x9 W)) C B:=by kernel_rfl
def aM9 (n:Nat) (q73:Q73) (kn:Z11→List Z28→Int→Int→Int→List Int→List Int→Option β) (ae:Z11→List Z28→Option β) (C:Z11) (B:List Z28) (D T F:Int) (x9 W:List Int):Option β:=bif (decide (D < (B.length:Int))) then (kn C B D T F x9 W) else (ae C B)
def bV9:FS1 β:=FXs (iY n q73) n gG (some dD) none [(0,wD)] [16352,16353]
theorem cU1 (C:Z11) (B:List Z28) (D T F:Int) (x9 W:List Int):bV9 n q73 (cY C B D T F x9 W) cx=aM9 n q73 (fun C B D T F x9 W=>cx.nrm (cY C B D T F x9 W)) (fun C B=>cx.ex 0 (rC C B)) C B D T F x9 W:=by kernel_rfl
def cI3 (n:Nat) (q73:Q73) (kn:Z11→List Z28→Int→Int→Int→List Int→List Int→Int→Option β) (C:Z11) (B:List Z28) (D T F:Int) (x9 W:List Int):Option β:=idx D (B.length:Int)<|kn C B D T F x9 W ((rd B D Z18).1)
def bP2:FS1 β:=FXs (iY n q73) n gG (some aI3) none [] [32708]
theorem bO3 (C:Z11) (B:List Z28) (D T F:Int) (x9 W:List Int):bP2 n q73 (cY C B D T F x9 W) cx=cI3 n q73 (fun C B D T F x9 W ak=>cx.nrm (TW C B D T F x9 W ak)) C B D T F x9 W:=by kernel_rfl
def bI4 (n:Nat) (q73:Q73) (kn:Z11→List Z28→Int→Int→Int→List Int→List Int→Int→Bool→Option β) (C:Z11) (B:List Z28) (D T F:Int) (x9 W:List Int) (ak:Int):Option β:=kn C B D T F x9 W ak (ak==(1:Int))
def bS4:FS1 β:=FXs (iY n q73) n gG (some aJ7) none [] [130836]
theorem dC6 (C:Z11) (B:List Z28) (D T F:Int) (x9 W:List Int) (ak:Int):bS4 n q73 (TW C B D T F x9 W ak) cx=bI4 n q73 (fun C B D T F x9 W ak aa=>cx.nrm (HF C B D T F x9 W ak aa)) C B D T F x9 W ak:=by kernel_rfl
def cW4 (n:Nat) (q73:Q73) (ap:Z11→List Z28→Int→Int→Int→List Int→List Int→Option β) (C:Z11) (B:List Z28) (D T F:Int) (x9 W:List Int) (ak:Int) (aa:Bool):Option β:=idx D (B.length:Int)<|kD ((rd B D Z18).2)<|cJ (W.length+(bP ((rd B D Z18).2)).length)<|ap C B (w64 (D+1)) T (w64 (F+1)) x9 (W++(bP ((rd B D Z18).2)))
def cZ7:FS1 β:=FXs (iY n q73) n gG none none [(2,dD)] [523348,1046698,2093398,2093399]
theorem dG3 (C:Z11) (B:List Z28) (D T F:Int) (x9 W:List Int) (ak:Int) (aa:Bool):cZ7 n q73 (HF C B D T F x9 W ak aa) cx=cW4 n q73 (fun C B D T F x9 W=>cx.ex 2 (cY C B D T F x9 W)) C B D T F x9 W ak aa:=by kernel_rfl
def cT6 (n:Nat) (q73:Q73) (kn:Z11→List Z28→Int→Int→Int→List Int→List Int→Int→Bool→Option β) (C:Z11) (B:List Z28) (D T F:Int) (x9 W:List Int) (ak:Int) (aa:Bool):Option β:=kn C B D T F x9 W ak (ak==(-1:Int))
def dD9:FS1 β:=FXs (iY n q73) n gG (some aG9) none [] [523350]
theorem dC2 (C:Z11) (B:List Z28) (D T F:Int) (x9 W:List Int) (ak:Int) (aa:Bool):dD9 n q73 (HF C B D T F x9 W ak aa) cx=cT6 n q73 (fun C B D T F x9 W ak bf=>cx.nrm (GV C B D T F x9 W ak bf)) C B D T F x9 W ak aa:=by kernel_rfl
def bY3 (n:Nat) (q73:Q73) (ap:Z11→List Z28→Int→Int→Int→List Int→List Int→Option β) (C:Z11) (B:List Z28) (D T F:Int) (x9 W:List Int) (ak:Int) (bf:Bool):Option β:=idx D (B.length:Int)<|kD ((rd B D Z18).2)<|cJ (x9.length+(bP ((rd B D Z18).2)).length)<|ap C B (w64 (D+1)) (w64 (T+1)) F (x9++(bP ((rd B D Z18).2))) W
def bX9:FS1 β:=FXs (iY n q73) n gG none none [(2,dD)] [2093404,4186810,8373622,8373623]
theorem dB6 (C:Z11) (B:List Z28) (D T F:Int) (x9 W:List Int) (ak:Int) (bf:Bool):bX9 n q73 (GV C B D T F x9 W ak bf) cx=bY3 n q73 (fun C B D T F x9 W=>cx.ex 2 (cY C B D T F x9 W)) C B D T F x9 W ak bf:=by kernel_rfl
def cJ7 (n:Nat) (q73:Q73) (kn:Z11→List Z28→Int→Int→Int→List Int→List Int→Bool→Option β) (C:Z11) (B:List Z28) (D T F:Int) (x9 W:List Int) (ak:Int) (bf:Bool):Option β:=kn C B D T F x9 W (ak==(0:Int))
def bO8:FS1 β:=FXs (iY n q73) n gG (some aB3) none [] [2093406]
theorem cT8 (C:Z11) (B:List Z28) (D T F:Int) (x9 W:List Int) (ak:Int) (bf:Bool):bO8 n q73 (GV C B D T F x9 W ak bf) cx=cJ7 n q73 (fun C B D T F x9 W aq=>cx.nrm (JT C B D T F x9 W aq)) C B D T F x9 W ak bf:=by kernel_rfl
def cJ3 (n:Nat) (q73:Q73) (kn:Z11→List Z28→Int→Int→Int→List Int→List Int→Bool→Option β) (C:Z11) (B:List Z28) (D T F:Int) (x9 W:List Int) (aq:Bool):Option β:=kn C B D T F x9 W (decide ((w64 (T+F))>(1:Int)))
def dG8:FS1 β:=FXs (iY n q73) n gG (some aF5) none [] [16747256]
theorem cH7 (C:Z11) (B:List Z28) (D T F:Int) (x9 W:List Int) (aq:Bool):dG8 n q73 (JT C B D T F x9 W aq) cx=cJ3 n q73 (fun C B D T F x9 W ar=>cx.nrm (HG C B D T F x9 W ar)) C B D T F x9 W aq:=by kernel_rfl
def AU (n:Nat) (q73:Q73) (kn:Z11→List Z28→Int→Int→Int→List Int→List Int→Option β) (C:Z11) (B:List Z28) (D T F:Int) (x9 W:List Int) (ar:Bool):Option β:=bif (T !=(0:Int)) then (bif (F !=(0:Int)) then ((g80 n W x9).bind fun V=>bif (V.1 !=(0:Int)) then (bif (decide ((w64 ((w64 (D - T)) - F))>(0:Int))) then (idx (w64 ((w64 ((w64 (D - T)) - F)) - (1:Int))) (B.length:Int)<|bif ((rd B (w64 ((w64 ((w64 (D - T)) - F)) - (1:Int))) Z18).1==(0:Int)) then (idx (w64 ((w64 ((w64 (D - T)) - F)) - (1:Int))) (B.length:Int)<|bnd (0:Int) V.1 (W.length:Int)<|cJ (((rd B (w64 ((w64 ((w64 (D - T)) - F)) - (1:Int))) Z18).2).size+(runesBytes (cut W (0:Int) ((0:Int)+(V.1 - (0:Int))))).size)<|idx (w64 ((w64 ((w64 (D - T)) - F)) - (1:Int))) (B.length:Int)<|bnd V.1 (W.length:Int) (W.length:Int)<|bnd V.1 (x9.length:Int) (x9.length:Int)<|(g81 n (cut W V.1 (V.1+((W.length:Int) - V.1))) (cut x9 V.1 (V.1+((x9.length:Int) - V.1)))).bind fun r2=>bif (r2.1 !=(0:Int)) then (bnd (w64 (((W.length:Int) - V.1) - r2.1)) ((W.length:Int) - V.1) ((W.length:Int) - V.1)<|idx D ((B.set (w64 ((w64 ((w64 (D - T)) - F)) - (1:Int))).toNat ((rd B (w64 ((w64 ((w64 (D - T)) - F)) - (1:Int))) Z18).1,((rd B (w64 ((w64 ((w64 (D - T)) - F)) - (1:Int))) Z18).2++(runesBytes (cut W (0:Int) ((0:Int)+(V.1 - (0:Int)))))))).length:Int)<|cJ ((runesBytes (cut W (V.1+(w64 (((W.length:Int) - V.1) - r2.1))) ((V.1+(w64 (((W.length:Int) - V.1) - r2.1)))+(((W.length:Int) - V.1) - (w64 (((W.length:Int) - V.1) - r2.1)))))).size+((rd (B.set (w64 ((w64 ((w64 (D - T)) - F)) - (1:Int))).toNat ((rd B (w64 ((w64 ((w64 (D - T)) - F)) - (1:Int))) Z18).1,((rd B (w64 ((w64 ((w64 (D - T)) - F)) - (1:Int))) Z18).2++(runesBytes (cut W (0:Int) ((0:Int)+(V.1 - (0:Int)))))))) D Z18).2).size)<|idx D ((B.set (w64 ((w64 ((w64 (D - T)) - F)) - (1:Int))).toNat ((rd B (w64 ((w64 ((w64 (D - T)) - F)) - (1:Int))) Z18).1,((rd B (w64 ((w64 ((w64 (D - T)) - F)) - (1:Int))) Z18).2++(runesBytes (cut W (0:Int) ((0:Int)+(V.1 - (0:Int)))))))).length:Int)<|bnd (0:Int) (w64 (((W.length:Int) - V.1) - r2.1)) ((W.length:Int) - V.1)<|bnd (0:Int) (w64 (((x9.length:Int) - V.1) - r2.1)) ((x9.length:Int) - V.1)<|kn C ((B.set (w64 ((w64 ((w64 (D - T)) - F)) - (1:Int))).toNat ((rd B (w64 ((w64 ((w64 (D - T)) - F)) - (1:Int))) Z18).1,((rd B (w64 ((w64 ((w64 (D - T)) - F)) - (1:Int))) Z18).2++(runesBytes (cut W (0:Int) ((0:Int)+(V.1 - (0:Int)))))))).set D.toNat ((rd (B.set (w64 ((w64 ((w64 (D - T)) - F)) - (1:Int))).toNat ((rd B (w64 ((w64 ((w64 (D - T)) - F)) - (1:Int))) Z18).1,((rd B (w64 ((w64 ((w64 (D - T)) - F)) - (1:Int))) Z18).2++(runesBytes (cut W (0:Int) ((0:Int)+(V.1 - (0:Int)))))))) D Z18).1,((runesBytes (cut W (V.1+(w64 (((W.length:Int) - V.1) - r2.1))) ((V.1+(w64 (((W.length:Int) - V.1) - r2.1)))+(((W.length:Int) - V.1) - (w64 (((W.length:Int) - V.1) - r2.1))))))++(rd (B.set (w64 ((w64 ((w64 (D - T)) - F)) - (1:Int))).toNat ((rd B (w64 ((w64 ((w64 (D - T)) - F)) - (1:Int))) Z18).1,((rd B (w64 ((w64 ((w64 (D - T)) - F)) - (1:Int))) Z18).2++(runesBytes (cut W (0:Int) ((0:Int)+(V.1 - (0:Int)))))))) D Z18).2))) D T F (cut x9 (V.1+(0:Int)) ((V.1+(0:Int))+((w64 (((x9.length:Int) - V.1) - r2.1)) - (0:Int)))) (cut W (V.1+(0:Int)) ((V.1+(0:Int))+((w64 (((W.length:Int) - V.1) - r2.1)) - (0:Int))))) else (kn C (B.set (w64 ((w64 ((w64 (D - T)) - F)) - (1:Int))).toNat ((rd B (w64 ((w64 ((w64 (D - T)) - F)) - (1:Int))) Z18).1,((rd B (w64 ((w64 ((w64 (D - T)) - F)) - (1:Int))) Z18).2++(runesBytes (cut W (0:Int) ((0:Int)+(V.1 - (0:Int)))))))) D T F (cut x9 V.1 (V.1+((x9.length:Int) - V.1))) (cut W V.1 (V.1+((W.length:Int) - V.1))))) else (bnd (0:Int) V.1 (W.length:Int)<|cJ ([((0:Int),(runesBytes (cut W (0:Int) ((0:Int)+(V.1 - (0:Int))))))].length+B.length)<|bnd V.1 (W.length:Int) (W.length:Int)<|bnd V.1 (x9.length:Int) (x9.length:Int)<|(g81 n (cut W V.1 (V.1+((W.length:Int) - V.1))) (cut x9 V.1 (V.1+((x9.length:Int) - V.1)))).bind fun r3=>bif (r3.1 !=(0:Int)) then (bnd (w64 (((W.length:Int) - V.1) - r3.1)) ((W.length:Int) - V.1) ((W.length:Int) - V.1)<|idx (w64 (D+1)) (([((0:Int),(runesBytes (cut W (0:Int) ((0:Int)+(V.1 - (0:Int))))))]++B).length:Int)<|cJ ((runesBytes (cut W (V.1+(w64 (((W.length:Int) - V.1) - r3.1))) ((V.1+(w64 (((W.length:Int) - V.1) - r3.1)))+(((W.length:Int) - V.1) - (w64 (((W.length:Int) - V.1) - r3.1)))))).size+((rd ([((0:Int),(runesBytes (cut W (0:Int) ((0:Int)+(V.1 - (0:Int))))))]++B) (w64 (D+1)) Z18).2).size)<|idx (w64 (D+1)) (([((0:Int),(runesBytes (cut W (0:Int) ((0:Int)+(V.1 - (0:Int))))))]++B).length:Int)<|bnd (0:Int) (w64 (((W.length:Int) - V.1) - r3.1)) ((W.length:Int) - V.1)<|bnd (0:Int) (w64 (((x9.length:Int) - V.1) - r3.1)) ((x9.length:Int) - V.1)<|kn C (([((0:Int),(runesBytes (cut W (0:Int) ((0:Int)+(V.1 - (0:Int))))))]++B).set (w64 (D+1)).toNat ((rd ([((0:Int),(runesBytes (cut W (0:Int) ((0:Int)+(V.1 - (0:Int))))))]++B) (w64 (D+1)) Z18).1,((runesBytes (cut W (V.1+(w64 (((W.length:Int) - V.1) - r3.1))) ((V.1+(w64 (((W.length:Int) - V.1) - r3.1)))+(((W.length:Int) - V.1) - (w64 (((W.length:Int) - V.1) - r3.1))))))++(rd ([((0:Int),(runesBytes (cut W (0:Int) ((0:Int)+(V.1 - (0:Int))))))]++B) (w64 (D+1)) Z18).2))) (w64 (D+1)) T F (cut x9 (V.1+(0:Int)) ((V.1+(0:Int))+((w64 (((x9.length:Int) - V.1) - r3.1)) - (0:Int)))) (cut W (V.1+(0:Int)) ((V.1+(0:Int))+((w64 (((W.length:Int) - V.1) - r3.1)) - (0:Int))))) else (kn C ([((0:Int),(runesBytes (cut W (0:Int) ((0:Int)+(V.1 - (0:Int))))))]++B) (w64 (D+1)) T F (cut x9 V.1 (V.1+((x9.length:Int) - V.1))) (cut W V.1 (V.1+((W.length:Int) - V.1)))))) else (bnd (0:Int) V.1 (W.length:Int)<|cJ ([((0:Int),(runesBytes (cut W (0:Int) ((0:Int)+(V.1 - (0:Int))))))].length+B.length)<|bnd V.1 (W.length:Int) (W.length:Int)<|bnd V.1 (x9.length:Int) (x9.length:Int)<|(g81 n (cut W V.1 (V.1+((W.length:Int) - V.1))) (cut x9 V.1 (V.1+((x9.length:Int) - V.1)))).bind fun r4=>bif (r4.1 !=(0:Int)) then (bnd (w64 (((W.length:Int) - V.1) - r4.1)) ((W.length:Int) - V.1) ((W.length:Int) - V.1)<|idx (w64 (D+1)) (([((0:Int),(runesBytes (cut W (0:Int) ((0:Int)+(V.1 - (0:Int))))))]++B).length:Int)<|cJ ((runesBytes (cut W (V.1+(w64 (((W.length:Int) - V.1) - r4.1))) ((V.1+(w64 (((W.length:Int) - V.1) - r4.1)))+(((W.length:Int) - V.1) - (w64 (((W.length:Int) - V.1) - r4.1)))))).size+((rd ([((0:Int),(runesBytes (cut W (0:Int) ((0:Int)+(V.1 - (0:Int))))))]++B) (w64 (D+1)) Z18).2).size)<|idx (w64 (D+1)) (([((0:Int),(runesBytes (cut W (0:Int) ((0:Int)+(V.1 - (0:Int))))))]++B).length:Int)<|bnd (0:Int) (w64 (((W.length:Int) - V.1) - r4.1)) ((W.length:Int) - V.1)<|bnd (0:Int) (w64 (((x9.length:Int) - V.1) - r4.1)) ((x9.length:Int) - V.1)<|kn C (([((0:Int),(runesBytes (cut W (0:Int) ((0:Int)+(V.1 - (0:Int))))))]++B).set (w64 (D+1)).toNat ((rd ([((0:Int),(runesBytes (cut W (0:Int) ((0:Int)+(V.1 - (0:Int))))))]++B) (w64 (D+1)) Z18).1,((runesBytes (cut W (V.1+(w64 (((W.length:Int) - V.1) - r4.1))) ((V.1+(w64 (((W.length:Int) - V.1) - r4.1)))+(((W.length:Int) - V.1) - (w64 (((W.length:Int) - V.1) - r4.1))))))++(rd ([((0:Int),(runesBytes (cut W (0:Int) ((0:Int)+(V.1 - (0:Int))))))]++B) (w64 (D+1)) Z18).2))) (w64 (D+1)) T F (cut x9 (V.1+(0:Int)) ((V.1+(0:Int))+((w64 (((x9.length:Int) - V.1) - r4.1)) - (0:Int)))) (cut W (V.1+(0:Int)) ((V.1+(0:Int))+((w64 (((W.length:Int) - V.1) - r4.1)) - (0:Int))))) else (kn C ([((0:Int),(runesBytes (cut W (0:Int) ((0:Int)+(V.1 - (0:Int))))))]++B) (w64 (D+1)) T F (cut x9 V.1 (V.1+((x9.length:Int) - V.1))) (cut W V.1 (V.1+((W.length:Int) - V.1)))))) else ((g81 n W x9).bind fun r5=>bif (r5.1 !=(0:Int)) then (bnd (w64 ((W.length:Int) - r5.1)) (W.length:Int) (W.length:Int)<|idx D (B.length:Int)<|cJ ((runesBytes (cut W (w64 ((W.length:Int) - r5.1)) ((w64 ((W.length:Int) - r5.1))+((W.length:Int) - (w64 ((W.length:Int) - r5.1)))))).size+((rd B D Z18).2).size)<|idx D (B.length:Int)<|bnd (0:Int) (w64 ((W.length:Int) - r5.1)) (W.length:Int)<|bnd (0:Int) (w64 ((x9.length:Int) - r5.1)) (x9.length:Int)<|kn C (B.set D.toNat ((rd B D Z18).1,((runesBytes (cut W (w64 ((W.length:Int) - r5.1)) ((w64 ((W.length:Int) - r5.1))+((W.length:Int) - (w64 ((W.length:Int) - r5.1))))))++(rd B D Z18).2))) D T F (cut x9 (0:Int) ((0:Int)+((w64 ((x9.length:Int) - r5.1)) - (0:Int)))) (cut W (0:Int) ((0:Int)+((w64 ((W.length:Int) - r5.1)) - (0:Int))))) else (kn C B D T F x9 W))) else (kn C B D T F x9 W)) else (kn C B D T F x9 W)
def aI5:FS1 β:=FXs (iY n q73) n gG (some dD) none [] [133978056,133978057]
theorem aY2 (C:Z11) (B:List Z28) (D T F:Int) (x9 W:List Int) (ar:Bool):aI5 n q73 (HG C B D T F x9 W ar) cx=AU n q73 (fun C B D T F x9 W=>cx.nrm (cY C B D T F x9 W)) C B D T F x9 W ar:=by kernel_rfl
def GJ (n:Nat) (q73:Q73) (kn:Z11→List Z28→Int→Int→Int→Option β) (C:Z11) (B:List Z28) (D T F:Int) (x9 W:List Int):Option β:=bif (T==(0:Int)) then ((g71 n B (w64 (D - F)) (w64 (T+F)) [((1:Int),(runesBytes W))]).bind fun V=>kn C V.1 D T F) else (bif (F==(0:Int)) then ((g71 n B (w64 (D - T)) (w64 (T+F)) [((-1:Int),(runesBytes x9))]).bind fun r2=>kn C r2.1 D T F) else ((g71 n B (w64 ((w64 (D - T)) - F)) (w64 (T+F)) [((-1:Int),(runesBytes x9)),((1:Int),(runesBytes W))]).bind fun r3=>kn C r3.1 D T F))
def aO7:FS1 β:=FXs (iY n q73) n gG (some YH) none [] [267956116,267956117]
theorem aW4 (C:Z11) (B:List Z28) (D T F:Int) (x9 W:List Int):aO7 n q73 (cY C B D T F x9 W) cx=GJ n q73 (fun C B D T F=>cx.nrm (aG2 C B D T F)) C B D T F x9 W:=by kernel_rfl
def HL (n:Nat) (q73:Q73) (kn:Z11→List Z28→Int→Int→Option β) (C:Z11) (B:List Z28) (D T F:Int):Option β:=bif (T !=(0:Int)) then (kn C B (w64 ((w64 ((w64 ((w64 (D - T)) - F))+(1:Int)))+(1:Int))) F) else (kn C B (w64 ((w64 ((w64 (D - T)) - F))+(1:Int))) F)
def aO5:FS1 β:=FXs (iY n q73) n gG (some D7) none [] [267956118,1071824476,1071824477]
theorem aS4 (C:Z11) (B:List Z28) (D T F:Int):aO5 n q73 (aG2 C B D T F) cx=HL n q73 (fun C B D F=>cx.nrm (aA9 C B D F)) C B D T F:=by kernel_rfl
def IY (n:Nat) (q73:Q73) (kn:Z11→List Z28→Int→Option β) (C:Z11) (B:List Z28) (D F:Int):Option β:=bif (F !=(0:Int)) then (kn C B (w64 (D+1))) else (kn C B D)
def aF2:FS1 β:=FXs (iY n q73) n gG (some wL) none [] [1071824478,1071824479]
theorem aY7 (C:Z11) (B:List Z28) (D F:Int):aF2 n q73 (aA9 C B D F) cx=IY n q73 (fun C B D=>cx.nrm (xZ C B D)) C B D F:=by kernel_rfl
def HM (kn:Z11→List Z28→Int→Option β) (C:Z11) (B:List Z28) (D T F:Int) (x9 W:List Int) (ar:Bool):Option β:=AU n q73 (fun C B D T F x9 W=>GJ n q73 (fun C B D T F=>HL n q73 (fun C B D F=>IY n q73 kn C B D F) C B D T F) C B D T F x9 W) C B D T F x9 W ar
def UK (s:FState) (cx:Cx β):Option β:=aI5 n q73 s {cx with nrm:=fun s=>aO7 n q73 s {cx with nrm:=fun s=>aO5 n q73 s {cx with nrm:=fun s=>aF2 n q73 s cx}}}
theorem bB6 (C:Z11) (B:List Z28) (D T F:Int) (x9 W:List Int) (ar:Bool):UK n q73 (HG C B D T F x9 W ar) cx=HM n q73 (fun C B D=>cx.nrm (xZ C B D)) C B D T F x9 W ar:=by simp only [UK,HM,aY2,aW4,aS4,aY7]
def M3 (n:Nat) (q73:Q73) (kn:Z11→List Z28→Int→Option β) (C:Z11) (B:List Z28) (D T F:Int) (x9 W:List Int) (ar:Bool):Option β:=bif (D !=(0:Int)) then (idx (w64 (D - 1)) (B.length:Int)<|bif ((rd B (w64 (D - 1)) Z18).1==(0:Int)) then (idx (w64 (D - 1)) (B.length:Int)<|idx D (B.length:Int)<|cJ (((rd B (w64 (D - 1)) Z18).2).size+((rd B D Z18).2).size)<|idx (w64 (D - 1)) (B.length:Int)<|bnd (0:Int) D ((B.set (w64 (D - 1)).toNat ((rd B (w64 (D - 1)) Z18).1,((rd B (w64 (D - 1)) Z18).2++(rd B D Z18).2))).length:Int)<|bnd (w64 (D+1)) ((B.set (w64 (D - 1)).toNat ((rd B (w64 (D - 1)) Z18).1,((rd B (w64 (D - 1)) Z18).2++(rd B D Z18).2))).length:Int) ((B.set (w64 (D - 1)).toNat ((rd B (w64 (D - 1)) Z18).1,((rd B (w64 (D - 1)) Z18).2++(rd B D Z18).2))).length:Int)<|cJ ((cut (B.set (w64 (D - 1)).toNat ((rd B (w64 (D - 1)) Z18).1,((rd B (w64 (D - 1)) Z18).2++(rd B D Z18).2))) (0:Int) ((0:Int)+(D - (0:Int)))).length+(cut (B.set (w64 (D - 1)).toNat ((rd B (w64 (D - 1)) Z18).1,((rd B (w64 (D - 1)) Z18).2++(rd B D Z18).2))) (w64 (D+1)) ((w64 (D+1))+(((B.set (w64 (D - 1)).toNat ((rd B (w64 (D - 1)) Z18).1,((rd B (w64 (D - 1)) Z18).2++(rd B D Z18).2))).length:Int) - (w64 (D+1))))).length)<|kn C ((cut (B.set (w64 (D - 1)).toNat ((rd B (w64 (D - 1)) Z18).1,((rd B (w64 (D - 1)) Z18).2++(rd B D Z18).2))) (0:Int) ((0:Int)+(D - (0:Int))))++(cut (B.set (w64 (D - 1)).toNat ((rd B (w64 (D - 1)) Z18).1,((rd B (w64 (D - 1)) Z18).2++(rd B D Z18).2))) (w64 (D+1)) ((w64 (D+1))+(((B.set (w64 (D - 1)).toNat ((rd B (w64 (D - 1)) Z18).1,((rd B (w64 (D - 1)) Z18).2++(rd B D Z18).2))).length:Int) - (w64 (D+1)))))) D) else (kn C B (w64 (D+1)))) else (kn C B (w64 (D+1)))
def u4:FS1 β:=FXs (iY n q73) n gG (some wL) none [] [66989030,66989031]
theorem aZ9 (C:Z11) (B:List Z28) (D T F:Int) (x9 W:List Int) (ar:Bool):u4 n q73 (HG C B D T F x9 W ar) cx=M3 n q73 (fun C B D=>cx.nrm (xZ C B D)) C B D T F x9 W ar:=by kernel_rfl
def TN (kn:Z11→List Z28→Int→Option β) (C:Z11) (B:List Z28) (D T F:Int) (x9 W:List Int) (ar:Bool):Option β:=bif ar then HM n q73 kn C B D T F x9 W ar else M3 n q73 kn C B D T F x9 W ar
def OU (s:FState) (cx:Cx β):Option β:=asBool (ev s (kO (nav gG [1,1,1,1,1,1,1,1,0,0,0,1,0,1,0,1,1,1,1,1,0,0,1]))) fun t=>cond t (UK n q73 s cx) (u4 n q73 s cx)
theorem aW7 (C:Z11) (B:List Z28) (D T F:Int) (x9 W:List Int) (ar:Bool):OU n q73 (HG C B D T F x9 W ar) cx=TN n q73 (fun C B D=>cx.nrm (xZ C B D)) C B D T F x9 W ar:=by
  simp only [OU,TN,bB6,aZ9]
  kernel_rfl
def PE (n:Nat) (q73:Q73) (ap:Z11→List Z28→Int→Int→Int→List Int→List Int→Option β) (C:Z11) (B:List Z28) (D:Int):Option β:=ap C B D (0:Int) (0:Int) [] []
def aA4:FS1 β:=FXs (iY n q73) n gG none none [(2,dD)] [16747258,33494518,66989038,133978078,133978079]
theorem bF4 (C:Z11) (B:List Z28) (D:Int):aA4 n q73 (xZ C B D) cx=PE n q73 (fun C B D T F x9 W=>cx.ex 2 (cY C B D T F x9 W)) C B D:=by kernel_rfl
def SX (ap:Z11→List Z28→Int→Int→Int→List Int→List Int→Option β) (C:Z11) (B:List Z28) (D T F:Int) (x9 W:List Int) (aq:Bool):Option β:=cJ3 n q73 (fun C B D T F x9 W ar=>TN n q73 (fun C B D=>PE n q73 ap C B D) C B D T F x9 W ar) C B D T F x9 W aq
def QZ (s:FState) (cx:Cx β):Option β:=dG8 n q73 s {cx with nrm:=fun s=>OU n q73 s {cx with nrm:=fun s=>aA4 n q73 s cx}}
theorem aW1 (C:Z11) (B:List Z28) (D T F:Int) (x9 W:List Int) (aq:Bool):QZ n q73 (JT C B D T F x9 W aq) cx=SX n q73 (fun C B D T F x9 W=>cx.ex 2 (cY C B D T F x9 W)) C B D T F x9 W aq:=by simp only [QZ,SX,cH7,aW7,bF4]
def cO1 (n:Nat) (q73:Q73) (kn:Z11→List Z28→Int→Int→Int→List Int→List Int→Option β) (C:Z11) (B:List Z28) (D T F:Int) (x9 W:List Int) (aq:Bool):Option β:=kn C B D T F x9 W
def aJ3:FS1 β:=FXs (iY n q73) n gG (some dD) none [] [4186815]
theorem aT6 (C:Z11) (B:List Z28) (D T F:Int) (x9 W:List Int) (aq:Bool):aJ3 n q73 (JT C B D T F x9 W aq) cx=cO1 n q73 (fun C B D T F x9 W=>cx.nrm (cY C B D T F x9 W)) C B D T F x9 W aq:=by kernel_rfl
def PS (kn ap:Z11→List Z28→Int→Int→Int→List Int→List Int→Option β) (C:Z11) (B:List Z28) (D T F:Int) (x9 W:List Int) (aq:Bool):Option β:=bif aq then SX n q73 ap C B D T F x9 W aq else cO1 n q73 kn C B D T F x9 W aq
def PM (s:FState) (cx:Cx β):Option β:=asBool (ev s (kO (nav gG [1,1,1,1,1,1,1,1,0,0,0,1,0,1,0,1,1,1,1,1]))) fun t=>cond t (QZ n q73 s cx) (aJ3 n q73 s cx)
theorem aZ3 (C:Z11) (B:List Z28) (D T F:Int) (x9 W:List Int) (aq:Bool):PM n q73 (JT C B D T F x9 W aq) cx=PS n q73 (fun C B D T F x9 W=>cx.nrm (cY C B D T F x9 W)) (fun C B D T F x9 W=>cx.ex 2 (cY C B D T F x9 W)) C B D T F x9 W aq:=by
  simp only [PM,PS,aW1,aT6]
  kernel_rfl
def TA (kn ap:Z11→List Z28→Int→Int→Int→List Int→List Int→Option β) (C:Z11) (B:List Z28) (D T F:Int) (x9 W:List Int) (ak:Int) (bf:Bool):Option β:=cJ7 n q73 (fun C B D T F x9 W aq=>PS n q73 kn ap C B D T F x9 W aq) C B D T F x9 W ak bf
def RA (s:FState) (cx:Cx β):Option β:=bO8 n q73 s {cx with nrm:=fun s=>PM n q73 s cx}
theorem aU9 (C:Z11) (B:List Z28) (D T F:Int) (x9 W:List Int) (ak:Int) (bf:Bool):RA n q73 (GV C B D T F x9 W ak bf) cx=TA n q73 (fun C B D T F x9 W=>cx.nrm (cY C B D T F x9 W)) (fun C B D T F x9 W=>cx.ex 2 (cY C B D T F x9 W)) C B D T F x9 W ak bf:=by simp only [RA,TA,cT8,aZ3]
def OQ (kn ap:Z11→List Z28→Int→Int→Int→List Int→List Int→Option β) (C:Z11) (B:List Z28) (D T F:Int) (x9 W:List Int) (ak:Int) (bf:Bool):Option β:=bif bf then bY3 n q73 ap C B D T F x9 W ak bf else TA n q73 kn ap C B D T F x9 W ak bf
def QH (s:FState) (cx:Cx β):Option β:=asBool (ev s (kO (nav gG [1,1,1,1,1,1,1,1,0,0,0,1,0,1,0,1,1,1]))) fun t=>cond t (bX9 n q73 s cx) (RA n q73 s cx)
theorem bC7 (C:Z11) (B:List Z28) (D T F:Int) (x9 W:List Int) (ak:Int) (bf:Bool):QH n q73 (GV C B D T F x9 W ak bf) cx=OQ n q73 (fun C B D T F x9 W=>cx.nrm (cY C B D T F x9 W)) (fun C B D T F x9 W=>cx.ex 2 (cY C B D T F x9 W)) C B D T F x9 W ak bf:=by
  simp only [QH,OQ,dB6,aU9]
  kernel_rfl
def RQ (kn ap:Z11→List Z28→Int→Int→Int→List Int→List Int→Option β) (C:Z11) (B:List Z28) (D T F:Int) (x9 W:List Int) (ak:Int) (aa:Bool):Option β:=cT6 n q73 (fun C B D T F x9 W ak bf=>OQ n q73 kn ap C B D T F x9 W ak bf) C B D T F x9 W ak aa
def SJ (s:FState) (cx:Cx β):Option β:=dD9 n q73 s {cx with nrm:=fun s=>QH n q73 s cx}
theorem aT5 (C:Z11) (B:List Z28) (D T F:Int) (x9 W:List Int) (ak:Int) (aa:Bool):SJ n q73 (HF C B D T F x9 W ak aa) cx=RQ n q73 (fun C B D T F x9 W=>cx.nrm (cY C B D T F x9 W)) (fun C B D T F x9 W=>cx.ex 2 (cY C B D T F x9 W)) C B D T F x9 W ak aa:=by simp only [SJ,RQ,dC2,bC7]
def QW (kn ap:Z11→List Z28→Int→Int→Int→List Int→List Int→Option β) (C:Z11) (B:List Z28) (D T F:Int) (x9 W:List Int) (ak:Int) (aa:Bool):Option β:=bif aa then cW4 n q73 ap C B D T F x9 W ak aa else RQ n q73 kn ap C B D T F x9 W ak aa
def SZ (s:FState) (cx:Cx β):Option β:=asBool (ev s (kO (nav gG [1,1,1,1,1,1,1,1,0,0,0,1,0,1,0,1]))) fun t=>cond t (cZ7 n q73 s cx) (SJ n q73 s cx)
theorem bB8 (C:Z11) (B:List Z28) (D T F:Int) (x9 W:List Int) (ak:Int) (aa:Bool):SZ n q73 (HF C B D T F x9 W ak aa) cx=QW n q73 (fun C B D T F x9 W=>cx.nrm (cY C B D T F x9 W)) (fun C B D T F x9 W=>cx.ex 2 (cY C B D T F x9 W)) C B D T F x9 W ak aa:=by
  simp only [SZ,QW,dG3,aT5]
  kernel_rfl
def TU (kn ap:Z11→List Z28→Int→Int→Int→List Int→List Int→Option β) (C:Z11) (B:List Z28) (D T F:Int) (x9 W:List Int) (ak:Int):Option β:=bI4 n q73 (fun C B D T F x9 W ak aa=>QW n q73 kn ap C B D T F x9 W ak aa) C B D T F x9 W ak
def OC (s:FState) (cx:Cx β):Option β:=bS4 n q73 s {cx with nrm:=fun s=>SZ n q73 s cx}
theorem bF3 (C:Z11) (B:List Z28) (D T F:Int) (x9 W:List Int) (ak:Int):OC n q73 (TW C B D T F x9 W ak) cx=TU n q73 (fun C B D T F x9 W=>cx.nrm (cY C B D T F x9 W)) (fun C B D T F x9 W=>cx.ex 2 (cY C B D T F x9 W)) C B D T F x9 W ak:=by simp only [OC,TU,dC6,bB8]
def O9 (kn:Z11→List Z28→Int→Int→Int→List Int→List Int→Option β) (C:Z11) (B:List Z28) (D T F:Int) (x9 W:List Int) (ak:Int):Option β:=TU n q73 kn kn C B D T F x9 W ak
def aK0 (s:FState) (cx:Cx β):Option β:=OC n q73 s {cx with ex:=fun j s=>bif Nat.beq j 2 then cx.nrm s else cx.ex j s}
theorem aY1 (C:Z11) (B:List Z28) (D T F:Int) (x9 W:List Int) (ak:Int):aK0 n q73 (TW C B D T F x9 W ak) cx=O9 n q73 (fun C B D T F x9 W=>cx.nrm (cY C B D T F x9 W)) C B D T F x9 W ak:=bF3 n q73 _ C B D T F x9 W ak
def UI (kn:Z11→List Z28→Int→Int→Int→List Int→List Int→Option β) (C:Z11) (B:List Z28) (D T F:Int) (x9 W:List Int):Option β:=cI3 n q73 (fun C B D T F x9 W ak=>O9 n q73 kn C B D T F x9 W ak) C B D T F x9 W
def SN (s:FState) (cx:Cx β):Option β:=bP2 n q73 s {cx with nrm:=fun s=>aK0 n q73 s cx}
theorem aW8 (C:Z11) (B:List Z28) (D T F:Int) (x9 W:List Int):SN n q73 (cY C B D T F x9 W) cx=UI n q73 (fun C B D T F x9 W=>cx.nrm (cY C B D T F x9 W)) C B D T F x9 W:=by simp only [SN,UI,bO3,aY1]
def U8 (kn:Z11→List Z28→Int→Int→Int→List Int→List Int→Option β) (C:Z11) (B:List Z28) (D T F:Int) (x9 W:List Int):Option β:=UI n q73 kn C B D T F x9 W
def aP0 (s:FState) (cx:Cx β):Option β:=SN n q73 s {cx with ex:=fun j s=>bif Nat.beq j 1 then cx.nrm s else cx.ex j s}
theorem aR3 (C:Z11) (B:List Z28) (D T F:Int) (x9 W:List Int):aP0 n q73 (cY C B D T F x9 W) cx=U8 n q73 (fun C B D T F x9 W=>cx.nrm (cY C B D T F x9 W)) C B D T F x9 W:=aW8 n q73 _ C B D T F x9 W
def IR (kn:Z11→List Z28→Int→Int→Int→List Int→List Int→Option β) (ae:Z11→List Z28→Option β) (C:Z11) (B:List Z28) (D T F:Int) (x9 W:List Int):Option β:=aM9 n q73 (fun C B D T F x9 W=>U8 n q73 kn C B D T F x9 W) ae C B D T F x9 W
def FR (s:FState) (cx:Cx β):Option β:=bV9 n q73 s {cx with nrm:=fun s=>aP0 n q73 s cx}
theorem aU3 (C:Z11) (B:List Z28) (D T F:Int) (x9 W:List Int):FR n q73 (cY C B D T F x9 W) cx=IR n q73 (fun C B D T F x9 W=>cx.nrm (cY C B D T F x9 W)) (fun C B=>cx.ex 0 (rC C B)) C B D T F x9 W:=by simp only [FR,IR,cU1,aR3]
def g73_30L (n:Nat) (q73:Q73) (ae:Z11→List Z28→Option β):Nat→Z11→List Z28→Int→Int→Int→List Int→List Int→Option β
  | 0,_,_,_,_,_,_,_=>none
  | m+1,C,B,D,T,F,x9,W=>IR n q73 (g73_30L n q73 ae m) ae C B D T F x9 W
def F1 (ae:Z11→List Z28→Option β) (C:Z11) (B:List Z28) (D T F:Int) (x9 W:List Int):Option β:=g73_30L n q73 ae n C B D T F x9 W
def aK8 (s:FState) (cx:Cx β):Option β:=bK (fun again s=>FR n q73 s {cx with nrm:=again}) n s
theorem f8 (n:Nat) (q73:Q73) (cx:Cx β):∀(m:Nat) (C:Z11) (B:List Z28) (D T F:Int) (x9 W:List Int),bK (fun again s=>FR n q73 s {cx with nrm:=again}) m (cY C B D T F x9 W)=g73_30L n q73 (fun C B=>cx.ex 0 (rC C B)) m C B D T F x9 W:=by
  intro m
  induction m with
  | zero=>intros;rfl
  | succ m ih=>intros;simp only [bK,g73_30L,aU3,ih]
theorem aS6 (C:Z11) (B:List Z28) (D T F:Int) (x9 W:List Int):aK8 n q73 (cY C B D T F x9 W) cx=F1 n q73 (fun C B=>cx.ex 0 (rC C B)) C B D T F x9 W:=f8 n q73 cx n C B D T F x9 W
def M8 (kn:Z11→List Z28→Option β) (C:Z11) (B:List Z28) (D T F:Int) (x9 W:List Int):Option β:=F1 n q73 kn C B D T F x9 W
def s8 (s:FState) (cx:Cx β):Option β:=aK8 n q73 s {cx with ex:=fun j s=>bif Nat.beq j 0 then cx.nrm s else cx.ex j s}
theorem aV0 (C:Z11) (B:List Z28) (D T F:Int) (x9 W:List Int):s8 n q73 (cY C B D T F x9 W) cx=M8 n q73 (fun C B=>cx.nrm (rC C B)) C B D T F x9 W:=aS6 n q73 _ C B D T F x9 W
def UN (n:Nat) (q73:Q73) (kn:Z11→List Z28→Option β) (C:Z11) (B:List Z28):Option β:=idx (w64 ((B.length:Int) - 1)) (B.length:Int)<|bif ((((rd B (w64 ((B.length:Int) - 1)) Z18).2).size:Int)==(0:Int)) then (bnd (0:Int) (w64 ((B.length:Int) - 1)) (B.length:Int)<|kn C (cut B (0:Int) ((0:Int)+((w64 ((B.length:Int) - 1)) - (0:Int))))) else (kn C B)
def aH8:FS1 β:=FXs (iY n q73) n gG (some wD) none [] [4092,4093]
theorem bE9 (C:Z11) (B:List Z28):aH8 n q73 (rC C B) cx=UN n q73 (fun C B=>cx.nrm (rC C B)) C B:=by kernel_rfl
def IZ (n:Nat) (q73:Q73) (kn:Z11→List Z28→Int→Bool→Option β) (C:Z11) (B:List Z28):Option β:=kn C B (1:Int) false
def aB7:FS1 β:=FXs (iY n q73) n gG (some yV) none [] [4094,8190]
theorem aZ1 (C:Z11) (B:List Z28):aB7 n q73 (rC C B) cx=IZ n q73 (fun C B D ac=>cx.nrm (tJ C B D ac)) C B:=by kernel_rfl
def Y3 (n:Nat) (q73:Q73) (kn:Z11→List Z28→Int→Bool→Option β) (bl:Z11→List Z28→Bool→Option β) (C:Z11) (B:List Z28) (D:Int) (ac:Bool):Option β:=bif (decide (D < (w64 ((B.length:Int) - 1)))) then (idx (w64 (D - 1)) (B.length:Int)<|bif ((rd B (w64 (D - 1)) Z18).1==(0:Int)) then (idx (w64 (D+1)) (B.length:Int)<|bif ((rd B (w64 (D+1)) Z18).1==(0:Int)) then (idx D (B.length:Int)<|idx (w64 (D - 1)) (B.length:Int)<|(g91 n ((rd B D Z18).2) ((rd B (w64 (D - 1)) Z18).2)).bind fun V=>bif V.1 then (idx (w64 (D - 1)) (B.length:Int)<|idx D (B.length:Int)<|idx D (B.length:Int)<|idx (w64 (D - 1)) (B.length:Int)<|bnd (0:Int) (w64 ((((rd B D Z18).2).size:Int) - (((rd B (w64 (D - 1)) Z18).2).size:Int))) (((rd B D Z18).2).size:Int)<|cJ (((rd B (w64 (D - 1)) Z18).2).size+(bA ((rd B D Z18).2) (0:Int) (w64 ((((rd B D Z18).2).size:Int) - (((rd B (w64 (D - 1)) Z18).2).size:Int)))).size)<|idx D (B.length:Int)<|idx (w64 (D - 1)) ((B.set D.toNat ((rd B D Z18).1,((rd B (w64 (D - 1)) Z18).2++(bA ((rd B D Z18).2) (0:Int) (w64 ((((rd B D Z18).2).size:Int) - (((rd B (w64 (D - 1)) Z18).2).size:Int))))))).length:Int)<|idx (w64 (D+1)) ((B.set D.toNat ((rd B D Z18).1,((rd B (w64 (D - 1)) Z18).2++(bA ((rd B D Z18).2) (0:Int) (w64 ((((rd B D Z18).2).size:Int) - (((rd B (w64 (D - 1)) Z18).2).size:Int))))))).length:Int)<|cJ (((rd (B.set D.toNat ((rd B D Z18).1,((rd B (w64 (D - 1)) Z18).2++(bA ((rd B D Z18).2) (0:Int) (w64 ((((rd B D Z18).2).size:Int) - (((rd B (w64 (D - 1)) Z18).2).size:Int))))))) (w64 (D - 1)) Z18).2).size+((rd (B.set D.toNat ((rd B D Z18).1,((rd B (w64 (D - 1)) Z18).2++(bA ((rd B D Z18).2) (0:Int) (w64 ((((rd B D Z18).2).size:Int) - (((rd B (w64 (D - 1)) Z18).2).size:Int))))))) (w64 (D+1)) Z18).2).size)<|idx (w64 (D+1)) ((B.set D.toNat ((rd B D Z18).1,((rd B (w64 (D - 1)) Z18).2++(bA ((rd B D Z18).2) (0:Int) (w64 ((((rd B D Z18).2).size:Int) - (((rd B (w64 (D - 1)) Z18).2).size:Int))))))).length:Int)<|(g71 n ((B.set D.toNat ((rd B D Z18).1,((rd B (w64 (D - 1)) Z18).2++(bA ((rd B D Z18).2) (0:Int) (w64 ((((rd B D Z18).2).size:Int) - (((rd B (w64 (D - 1)) Z18).2).size:Int))))))).set (w64 (D+1)).toNat ((rd (B.set D.toNat ((rd B D Z18).1,((rd B (w64 (D - 1)) Z18).2++(bA ((rd B D Z18).2) (0:Int) (w64 ((((rd B D Z18).2).size:Int) - (((rd B (w64 (D - 1)) Z18).2).size:Int))))))) (w64 (D+1)) Z18).1,((rd (B.set D.toNat ((rd B D Z18).1,((rd B (w64 (D - 1)) Z18).2++(bA ((rd B D Z18).2) (0:Int) (w64 ((((rd B D Z18).2).size:Int) - (((rd B (w64 (D - 1)) Z18).2).size:Int))))))) (w64 (D - 1)) Z18).2++(rd (B.set D.toNat ((rd B D Z18).1,((rd B (w64 (D - 1)) Z18).2++(bA ((rd B D Z18).2) (0:Int) (w64 ((((rd B D Z18).2).size:Int) - (((rd B (w64 (D - 1)) Z18).2).size:Int))))))) (w64 (D+1)) Z18).2))) (w64 (D - 1)) (1:Int) []).bind fun r2=>kn C r2.1 (w64 (D+1)) true) else (idx D (B.length:Int)<|idx (w64 (D+1)) (B.length:Int)<|(g92 n ((rd B D Z18).2) ((rd B (w64 (D+1)) Z18).2)).bind fun r3=>bif r3.1 then (idx (w64 (D - 1)) (B.length:Int)<|idx (w64 (D+1)) (B.length:Int)<|cJ (((rd B (w64 (D - 1)) Z18).2).size+((rd B (w64 (D+1)) Z18).2).size)<|idx (w64 (D - 1)) (B.length:Int)<|idx D ((B.set (w64 (D - 1)).toNat ((rd B (w64 (D - 1)) Z18).1,((rd B (w64 (D - 1)) Z18).2++(rd B (w64 (D+1)) Z18).2))).length:Int)<|idx (w64 (D+1)) ((B.set (w64 (D - 1)).toNat ((rd B (w64 (D - 1)) Z18).1,((rd B (w64 (D - 1)) Z18).2++(rd B (w64 (D+1)) Z18).2))).length:Int)<|bnd (((rd (B.set (w64 (D - 1)).toNat ((rd B (w64 (D - 1)) Z18).1,((rd B (w64 (D - 1)) Z18).2++(rd B (w64 (D+1)) Z18).2))) (w64 (D+1)) Z18).2).size:Int) (((rd (B.set (w64 (D - 1)).toNat ((rd B (w64 (D - 1)) Z18).1,((rd B (w64 (D - 1)) Z18).2++(rd B (w64 (D+1)) Z18).2))) D Z18).2).size:Int) (((rd (B.set (w64 (D - 1)).toNat ((rd B (w64 (D - 1)) Z18).1,((rd B (w64 (D - 1)) Z18).2++(rd B (w64 (D+1)) Z18).2))) D Z18).2).size:Int)<|idx (w64 (D+1)) ((B.set (w64 (D - 1)).toNat ((rd B (w64 (D - 1)) Z18).1,((rd B (w64 (D - 1)) Z18).2++(rd B (w64 (D+1)) Z18).2))).length:Int)<|cJ ((bA ((rd (B.set (w64 (D - 1)).toNat ((rd B (w64 (D - 1)) Z18).1,((rd B (w64 (D - 1)) Z18).2++(rd B (w64 (D+1)) Z18).2))) D Z18).2) (((rd (B.set (w64 (D - 1)).toNat ((rd B (w64 (D - 1)) Z18).1,((rd B (w64 (D - 1)) Z18).2++(rd B (w64 (D+1)) Z18).2))) (w64 (D+1)) Z18).2).size:Int) (((rd (B.set (w64 (D - 1)).toNat ((rd B (w64 (D - 1)) Z18).1,((rd B (w64 (D - 1)) Z18).2++(rd B (w64 (D+1)) Z18).2))) D Z18).2).size:Int)).size+((rd (B.set (w64 (D - 1)).toNat ((rd B (w64 (D - 1)) Z18).1,((rd B (w64 (D - 1)) Z18).2++(rd B (w64 (D+1)) Z18).2))) (w64 (D+1)) Z18).2).size)<|idx D ((B.set (w64 (D - 1)).toNat ((rd B (w64 (D - 1)) Z18).1,((rd B (w64 (D - 1)) Z18).2++(rd B (w64 (D+1)) Z18).2))).length:Int)<|(g71 n ((B.set (w64 (D - 1)).toNat ((rd B (w64 (D - 1)) Z18).1,((rd B (w64 (D - 1)) Z18).2++(rd B (w64 (D+1)) Z18).2))).set D.toNat ((rd (B.set (w64 (D - 1)).toNat ((rd B (w64 (D - 1)) Z18).1,((rd B (w64 (D - 1)) Z18).2++(rd B (w64 (D+1)) Z18).2))) D Z18).1,((bA ((rd (B.set (w64 (D - 1)).toNat ((rd B (w64 (D - 1)) Z18).1,((rd B (w64 (D - 1)) Z18).2++(rd B (w64 (D+1)) Z18).2))) D Z18).2) (((rd (B.set (w64 (D - 1)).toNat ((rd B (w64 (D - 1)) Z18).1,((rd B (w64 (D - 1)) Z18).2++(rd B (w64 (D+1)) Z18).2))) (w64 (D+1)) Z18).2).size:Int) (((rd (B.set (w64 (D - 1)).toNat ((rd B (w64 (D - 1)) Z18).1,((rd B (w64 (D - 1)) Z18).2++(rd B (w64 (D+1)) Z18).2))) D Z18).2).size:Int))++(rd (B.set (w64 (D - 1)).toNat ((rd B (w64 (D - 1)) Z18).1,((rd B (w64 (D - 1)) Z18).2++(rd B (w64 (D+1)) Z18).2))) (w64 (D+1)) Z18).2))) (w64 (D+1)) (1:Int) []).bind fun r4=>kn C r4.1 (w64 (D+1)) true) else (kn C B (w64 (D+1)) ac))) else (kn C B (w64 (D+1)) ac)) else (kn C B (w64 (D+1)) ac)) else (bl C B ac)
def QE:FS1 β:=FXs (iY n q73) n gG (some yV) none [(3,wN)] [262112,262113,131057]
theorem bA1 (C:Z11) (B:List Z28) (D:Int) (ac:Bool):QE n q73 (tJ C B D ac) cx=Y3 n q73 (fun C B D ac=>cx.nrm (tJ C B D ac)) (fun C B ac=>cx.ex 3 (wH C B ac)) C B D ac:=by kernel_rfl
def g73_35L (n:Nat) (q73:Q73) (bl:Z11→List Z28→Bool→Option β):Nat→Z11→List Z28→Int→Bool→Option β
  | 0,_,_,_,_=>none
  | m+1,C,B,D,ac=>Y3 n q73 (g73_35L n q73 bl m) bl C B D ac
def S8 (bl:Z11→List Z28→Bool→Option β) (C:Z11) (B:List Z28) (D:Int) (ac:Bool):Option β:=g73_35L n q73 bl n C B D ac
def aM2 (s:FState) (cx:Cx β):Option β:=bK (fun again s=>QE n q73 s {cx with nrm:=again}) n s
theorem m8 (n:Nat) (q73:Q73) (cx:Cx β):∀(m:Nat) (C:Z11) (B:List Z28) (D:Int) (ac:Bool),bK (fun again s=>QE n q73 s {cx with nrm:=again}) m (tJ C B D ac)=g73_35L n q73 (fun C B ac=>cx.ex 3 (wH C B ac)) m C B D ac:=by
  intro m
  induction m with
  | zero=>intros;rfl
  | succ m ih=>intros;simp only [bK,g73_35L,bA1,ih]
theorem aR5 (C:Z11) (B:List Z28) (D:Int) (ac:Bool):aM2 n q73 (tJ C B D ac) cx=S8 n q73 (fun C B ac=>cx.ex 3 (wH C B ac)) C B D ac:=m8 n q73 cx n C B D ac
def KH (kn:Z11→List Z28→Bool→Option β) (C:Z11) (B:List Z28) (D:Int) (ac:Bool):Option β:=S8 n q73 kn C B D ac
def aN2 (s:FState) (cx:Cx β):Option β:=aM2 n q73 s {cx with ex:=fun j s=>bif Nat.beq j 3 then cx.nrm s else cx.ex j s}
theorem bD9 (C:Z11) (B:List Z28) (D:Int) (ac:Bool):aN2 n q73 (tJ C B D ac) cx=KH n q73 (fun C B ac=>cx.nrm (wH C B ac)) C B D ac:=aR5 n q73 _ C B D ac
def AS (n:Nat) (q73:Q73) (kr:List Z28→Option β) (C:Z11) (B:List Z28) (ac:Bool):Option β:=bif ac then ((q73 (C,(B,()))).bind fun V=>kr V.1) else (kr B)
def aA2:FS1 β:=FXs (iY n q73) n gG none (some wU) [] [65532,65533,65534,65535]
theorem bD2 (C:Z11) (B:List Z28) (ac:Bool):aA2 n q73 (wH C B ac) cx=AS n q73 (fun x4=>cx.ret (bH7 x4)) C B ac:=by kernel_rfl
def RL (kr:List Z28→Option β) (C:Z11) (B:List Z28):Option β:=cQ8 n q73 (fun C B D T F x9 W=>M8 n q73 (fun C B=>UN n q73 (fun C B=>IZ n q73 (fun C B D ac=>KH n q73 (fun C B ac=>AS n q73 kr C B ac) C B D ac) C B) C B) C B D T F x9 W) C B
def FL (s:FState) (cx:Cx β):Option β:=cD8 n q73 s {cx with nrm:=fun s=>s8 n q73 s {cx with nrm:=fun s=>aH8 n q73 s {cx with nrm:=fun s=>aB7 n q73 s {cx with nrm:=fun s=>aN2 n q73 s {cx with nrm:=fun s=>aA2 n q73 s cx}}}}}
theorem bD7 (C:Z11) (B:List Z28):FL n q73 (P5 C B) cx=RL n q73 (fun x4=>cx.ret (bH7 x4)) C B:=by simp only [FL,RL,dL6,aV0,bE9,aZ1,bD9,bD2]
def aA5 (C:Z11) (B:List Z28):Option (DenR [.rw Z25 81]):=RL n q73 (fun x4=>some (x4,())) C B
def cE5 (d:DenA nL):Option (DenR kG):=aA5 n q73 d.1 d.2.1
def eC0:Sk:=(.nd (.fin none none none [] .leaf) (.nd (.fin none none none [] .leaf) (.nd (.fin none none none [] .leaf) (.nd (.fin none none none [] .leaf) (.nd (.fin none none none [] .leaf) (.nd (.fin none none none [] .leaf) (.nd (.fin none none none [] .leaf) (.nd (.fin none (some dD) none [] .leaf) (.nd (.nd (.nd (.nd (.nd (.fin none none none [(0,wD)] .leaf) (.fin none (some dD) none [(0,wD)] .leaf)) (.nd (.nd (.fin none (some aI3) none [] .leaf) (.nd (.nd (.fin none (some aJ7) none [] .leaf) (.nd (.nd (.fin none none none [(2,dD)] .leaf) (.nd (.fin none none none [(2,dD)] .leaf) (.nd (.fin none none none [(2,dD)] .leaf) (.fin none none none [(2,dD)] .leaf)))) (.nd (.fin none (some aG9) none [] .leaf) (.nd (.nd (.fin none none none [(2,dD)] .leaf) (.nd (.fin none none none [(2,dD)] .leaf) (.nd (.fin none none none [(2,dD)] .leaf) (.fin none none none [(2,dD)] .leaf)))) (.nd (.fin none (some aB3) none [] .leaf) (.nd (.nd (.nd (.fin none (some aF5) none [] .leaf) (.nd (.nd (.nd (.fin none none none [] .leaf) (.fin none (some dD) none [] .leaf)) (.nd (.nd (.fin none none none [] .leaf) (.fin none (some YH) none [] .leaf)) (.nd (.fin none none none [] .leaf) (.nd (.nd (.fin none none none [] .leaf) (.fin none (some D7) none [] .leaf)) (.nd (.fin none none none [] .leaf) (.fin none (some wL) none [] .leaf)))))) (.nd (.fin none none none [] .leaf) (.fin none (some wL) none [] .leaf)))) (.nd (.fin none none none [(2,dD)] .leaf) (.nd (.fin none none none [(2,dD)] .leaf) (.nd (.fin none none none [(2,dD)] .leaf) (.nd (.fin none none none [(2,dD)] .leaf) (.fin none none none [(2,dD)] .leaf)))))) (.fin none (some dD) none [] .leaf))))))) .leaf)) .leaf)) .leaf) .leaf) (.nd (.nd (.fin none none none [] .leaf) (.fin none (some wD) none [] .leaf)) (.nd (.fin none none none [] .leaf) (.nd (.fin none (some yV) none [] .leaf) (.nd (.nd (.nd (.nd (.nd (.fin none none none [(3,wN)] .leaf) (.fin none none none [(3,wN)] .leaf)) (.fin none (some yV) none [(3,wN)] .leaf)) .leaf) .leaf) (.nd (.nd (.fin none none (some wU) [] .leaf) (.fin none none (some wU) [] .leaf)) (.nd (.fin none none (some wU) [] .leaf) (.fin none none (some wU) [] .leaf))))))))))))))))
theorem dS0 (s:FState) (cx:Cx β):FX (iY n q73) n gG eC0 s cx=FL n q73 s cx:=by kernel_rfl
theorem bW9 (h73:Fit Tryd.prog 73 (aM nL kG q73)):Fit Tryd.prog 73 (aM nL kG (cE5 n q73)):=
  cD (Γ:=Γ0) (l:=eN2 n q73) (n:=n) (sk:=eC0) (ts:=[(4,none)]) (fn:=Tryd.f73) (c:=gG) (by kernel_rfl) (by kernel_rfl) (by unfold aO;kernel_rfl) cB ⟨DS n,aJ1 n,QM n,aF8 n,dZ3 n,h73,trivial⟩ aH (by kernel_rfl) (by kernel_rfl) (Nat.le_of_ble_eq_true (by kernel_rfl)) (Nat.le_of_ble_eq_true (by kernel_rfl)) (by kernel_rfl) (by kernel_rfl)
    (fun d=>(dS0 n q73 _ _).trans (Eq.trans (b:=FL n q73 (P5 d.1 d.2.1) (cG (iY n q73) kG [(4,none)])) (by kernel_rfl) ((bD7 n q73 _ d.1 d.2.1).trans (by kernel_rfl))))
def pF (n:Nat):Nat→(DenA nL→Option (DenR kG))
  | 0=>(fun _=>none)
  | m+1=>(cE5 n (pF n m))
theorem BR (n:Nat):∀m:Nat,Fit Tryd.prog 73 (aM nL kG (pF n m))
  | 0=>mY (by unfold aO;kernel_rfl)
  | m+1=>bW9 n (pF n m) (BR n m)
end
section
variable (n:Nat) (cx:Cx β)
def eF3 (d:DenA nL):Option (DenR kG):=(pF n n) d
def g73 (a0:AK.den (.pro Z1 74)) (a1:AK.den (.rw Z25 81)):Option (DenR kG):=eF3 n (a0,(a1,()))
def dI3:Spec:=aM nL kG (eF3 n)
theorem aP5:Fit Tryd.prog 73 (dI3 n):=(BR n n)
def OB (M B:List Int):FState:=⟨aG [(0,.sl 0 none false),(1,.sl 1 none false)],aD [(0,.row (.int .i32) 21 false M),(1,.row (.int .i32) 21 false B)]⟩
def sQ (v4:Int):FState:=⟨aG [(4,.dat (.int .i64) v4)],aD []⟩
def lF:List NE:=[.keep 4]
def sK (M B:List Int) (D T:Int):FState:=⟨aG [(0,.sl 0 none false),(1,.sl 1 none false),(5,.dat (.int .i64) D),(6,.dat (.int .i64) T)],aD [(0,.row (.int .i32) 21 false M),(1,.row (.int .i32) 21 false B)]⟩
def zK:List NE:=[.row 0 (.int .i32) 21 false,.row 1 (.int .i32) 21 false,.keep 5,.keep 6]
def yN:FState:=⟨aG [],aD []⟩
def rV:List NE:=[]
def dA6:List (Nat×Spec):=[(79,cX3 n)]
def HJ:Ctx:={Γ0 with calls:=lkS (dA6 n)}
def IJ:Code:=fb Tryd.f101
def X9 (n:Nat) (kn:List Int→List Int→Int→Int→Option β) (M B:List Int):Option β:=kn M B (w64 ((M.length:Int) - (B.length:Int))) (0:Int)
def aJ6:FS1 β:=FXs (HJ n) n IJ (some zK) none [] [2,6,28]
theorem aY8 (M B:List Int):aJ6 n (OB M B) cx=X9 n (fun M B D T=>cx.nrm (sK M B D T)) M B:=by kernel_rfl
def G4 (kn:List Int→List Int→Int→Int→Option β) (kr:Int→Option β) (ae:Option β) (M B:List Int) (D T:Int):Option β:=bif (decide (T≤D)) then (bnd T (w64 (T+(B.length:Int))) (M.length:Int)<|(g79 n (cut M T (w64 (T+(B.length:Int)))) B).bind fun V=>bif V.1 then (kr T) else (kn M B D (w64 (T+1)))) else ae
def QY:FS1 β:=FXs (HJ n) n IJ (some zK) (some lF) [(0,rV)] [464,465,466,467]
theorem aX4 (M B:List Int) (D T:Int):QY n (sK M B D T) cx=G4 n (fun M B D T=>cx.nrm (sK M B D T)) (fun v4=>cx.ret (sQ v4)) (cx.ex 0 yN) M B D T:=by kernel_rfl
def g101_3L (n:Nat) (kr:Int→Option β) (ae:Option β):Nat→List Int→List Int→Int→Int→Option β
  | 0,_,_,_,_=>none
  | m+1,M,B,D,T=>G4 n (g101_3L n kr ae m) kr ae M B D T
def V8 (kr:Int→Option β) (ae:Option β) (M B:List Int) (D T:Int):Option β:=g101_3L n kr ae n M B D T
def w9 (s:FState) (cx:Cx β):Option β:=bK (fun again s=>QY n s {cx with nrm:=again}) n s
theorem R6 (n:Nat) (cx:Cx β):∀(m:Nat) (M B:List Int) (D T:Int),bK (fun again s=>QY n s {cx with nrm:=again}) m (sK M B D T)=g101_3L n (fun v4=>cx.ret (sQ v4)) (cx.ex 0 yN) m M B D T:=by
  intro m
  induction m with
  | zero=>intros;rfl
  | succ m ih=>intros;simp only [bK,g101_3L,aX4,ih]
theorem aZ2 (M B:List Int) (D T:Int):w9 n (sK M B D T) cx=V8 n (fun v4=>cx.ret (sQ v4)) (cx.ex 0 yN) M B D T:=R6 n cx n M B D T
def p5 (kn:Option β) (kr:Int→Option β) (M B:List Int) (D T:Int):Option β:=V8 n kr kn M B D T
def y4 (s:FState) (cx:Cx β):Option β:=w9 n s {cx with ex:=fun j s=>bif Nat.beq j 0 then cx.nrm s else cx.ex j s}
theorem bC9 (M B:List Int) (D T:Int):y4 n (sK M B D T) cx=p5 n (cx.nrm yN) (fun v4=>cx.ret (sQ v4)) M B D T:=aZ2 n _ M B D T
def X0 (n:Nat) (kr:Int→Option β):Option β:=kr (-1:Int)
def aO4:FS1 β:=FXs (HJ n) n IJ none (some lF) [] [30,31]
theorem aU8:aO4 n yN cx=X0 n (fun v4=>cx.ret (sQ v4)):=by kernel_rfl
def TX (kr:Int→Option β) (M B:List Int):Option β:=X9 n (fun M B D T=>p5 n (X0 n kr) kr M B D T) M B
def EF (s:FState) (cx:Cx β):Option β:=aJ6 n s {cx with nrm:=fun s=>y4 n s {cx with nrm:=fun s=>aO4 n s cx}}
theorem bB9 (M B:List Int):EF n (OB M B) cx=TX n (fun v4=>cx.ret (sQ v4)) M B:=by simp only [EF,TX,aY8,bC9,aU8]
def bY9 (M B:List Int):Option (DenR [.dat (.int .i64)]):=TX n (fun v4=>some (v4,())) M B
def bN9:List AK:=[.ro (.int .i32) 21,.ro (.int .i32) 21]
def c7:List RK:=[.dat (.int .i64)]
def eY5 (d:DenA bN9):Option (DenR c7):=bY9 n d.1 d.2.1
def cN1:Spec:=aM bN9 c7 (eY5 n)
def bH6:Sk:=(.nd (.fin none none none [] .leaf) (.nd (.fin none none none [] .leaf) (.nd (.nd (.fin none (some zK) none [] .leaf) (.nd (.nd (.nd (.nd (.fin none none (some lF) [(0,rV)] .leaf) (.fin none none (some lF) [(0,rV)] .leaf)) (.nd (.fin none none (some lF) [(0,rV)] .leaf) (.fin none (some zK) (some lF) [(0,rV)] .leaf))) .leaf) .leaf)) (.nd (.fin none none (some lF) [] .leaf) (.fin none none (some lF) [] .leaf)))))
theorem cZ1 (s:FState) (cx:Cx β):FX (HJ n) n IJ bH6 s cx=EF n s cx:=by kernel_rfl
theorem dC7:Fit Tryd.prog 101 (cN1 n):=
  cD (Γ:=Γ0) (l:=dA6 n) (n:=n) (sk:=bH6) (ts:=[(4,none)]) (fn:=Tryd.f101) (c:=IJ) (by kernel_rfl) (by kernel_rfl) (by unfold aO;kernel_rfl) cB ⟨aM6 n,trivial⟩ aH (by kernel_rfl) (by kernel_rfl) (Nat.le_of_ble_eq_true (by kernel_rfl)) (Nat.le_of_ble_eq_true (by kernel_rfl)) (by kernel_rfl) (by kernel_rfl)
    (fun d=>(cZ1 n _ _).trans (Eq.trans (b:=EF n (OB d.1 d.2.1) (cG (HJ n) c7 [(4,none)])) (by kernel_rfl) ((bB9 n _ d.1 d.2.1).trans (by kernel_rfl))))
def cF8:List AK:=[.pro Z1 74,.ro (.int .i32) 21,.ro (.int .i32) 21,.dat (.int .i64)]
def bU0:List RK:=[.rw (.sl 21 (.int .i32)) 32]
def fF7 (n:Nat) (Y:Z11) (J R:List Int) (v3:Int):Option (DenR [.rw (.sl 21 (.int .i32)) 32]):=none
def eW5 (n:Nat) (d:DenA cF8):Option (DenR bU0):=none
def bJ1:Spec:=aM cF8 bU0 (eW5 n)
theorem bL7:Fit Tryd.prog 120 (bJ1 n):=mY (by unfold aO;kernel_rfl)
def UC (C:Z11) (B L:List Int):FState:=⟨aG [(0,.ptr 0 0 0),(1,.sl 1 none false),(2,.sl 2 none false)],aD [(0,.row Z1 74 false [C]),(1,.row (.int .i32) 21 false B),(2,.row (.int .i32) 21 false L)]⟩
def RO:FState:=⟨aG [(6,.nsl)],aD []⟩
def dL:List NE:=[.keep 6]
def aD0 (C:Z11) (B L x7 X:List Int):FState:=⟨aG [(0,.ptr 0 0 0),(1,.sl 1 none false),(2,.sl 2 none false),(7,.sl 7 none false),(8,.sl 8 none false)],aD [(0,.row Z1 74 false [C]),(1,.row (.int .i32) 21 false B),(2,.row (.int .i32) 21 false L),(7,.row (.int .i32) 21 false x7),(8,.row (.int .i32) 21 false X)]⟩
def VI:List NE:=[.ptr 0 Z1 74 false,.row 1 (.int .i32) 21 false,.row 2 (.int .i32) 21 false,.row 7 (.int .i32) 21 false,.row 8 (.int .i32) 21 false]
def dG0:List (Nat×Spec):=[(120,bJ1 n)]
def PN:Ctx:={Γ0 with calls:=lkS (dG0 n)}
def OW:Code:=fb Tryd.f102
def T9 (n:Nat) (kn:Z11→List Int→List Int→List Int→List Int→Option β) (kr:Option β) (C:Z11) (B L:List Int):Option β:=bif (decide (C.1≤(0:Int))) then kr else (bif (decide ((B.length:Int)>(L.length:Int))) then (kn C B L B L) else (kn C B L L B))
def aL2:FS1 β:=FXs (PN n) n OW (some VI) (some dL) [] [2,12,13,14,60,61]
theorem bE1 (C:Z11) (B L:List Int):aL2 n (UC C B L) cx=T9 n (fun C B L x7 X=>cx.nrm (aD0 C B L x7 X)) (cx.ret RO) C B L:=by kernel_rfl
def bU8 (kr:Option β) (C:Z11) (B L x7 X:List Int):Option β:=bif (decide ((x7.length:Int) < (4:Int))) then kr else (bif (decide ((w64 ((X.length:Int) * 2)) < (x7.length:Int))) then kr else (onS (floatBits .quo .f64 (floatOfInt .f64 (w64 ((x7.length:Int)+3))) (4616189618054758400:Nat)) fun V=>onS (floatToIntVal .f64 V .i64) fun r2=>(fF7 n C x7 X r2).bind fun r3=>onS (floatBits .quo .f64 (floatOfInt .f64 (w64 ((x7.length:Int)+1))) (4611686018427387904:Nat)) fun r4=>onS (floatToIntVal .f64 r4 .i64) fun r5=>(fF7 n C x7 X r5).bind fun r6=>none))
def t8:FS1 β:=FXs (PN n) n OW none (some dL) [] [124,125,126,254,510,2044,2045,4092,4093,4094,4095]
theorem aY4 (C:Z11) (B L x7 X:List Int):t8 n (aD0 C B L x7 X) cx=bU8 n (cx.ret RO) C B L x7 X:=by kernel_rfl
def OH (kr:Option β) (C:Z11) (B L:List Int):Option β:=T9 n (fun C B L x7 X=>bU8 n kr C B L x7 X) kr C B L
def EX (s:FState) (cx:Cx β):Option β:=aL2 n s {cx with nrm:=fun s=>t8 n s cx}
theorem aW6 (C:Z11) (B L:List Int):EX n (UC C B L) cx=OH n (cx.ret RO) C B L:=by simp only [EX,OH,bE1,aY4]
def dO1 (C:Z11) (B L:List Int):Option (DenR [.nsl]):=OH n (some ((),())) C B L
def bN5:List AK:=[.pro Z1 74,.ro (.int .i32) 21,.ro (.int .i32) 21]
def T6:List RK:=[.nsl]
def eW9 (d:DenA bN5):Option (DenR T6):=dO1 n d.1 d.2.1 d.2.2.1
def cP3:Spec:=aM bN5 T6 (eW9 n)
def bJ7:Sk:=(.nd (.fin none none (some dL) [] .leaf) (.nd (.nd (.fin none none (some dL) [] .leaf) (.fin none none (some dL) [] .leaf)) (.nd (.fin none none (some dL) [] .leaf) (.nd (.nd (.fin none none (some dL) [] .leaf) (.fin none (some VI) (some dL) [] .leaf)) (.nd (.nd (.fin none none (some dL) [] .leaf) (.fin none none (some dL) [] .leaf)) (.nd (.fin none none (some dL) [] .leaf) (.nd (.fin none none (some dL) [] .leaf) (.nd (.fin none none (some dL) [] .leaf) (.nd (.nd (.fin none none (some dL) [] .leaf) (.fin none none (some dL) [] .leaf)) (.nd (.nd (.fin none none (some dL) [] .leaf) (.fin none none (some dL) [] .leaf)) (.nd (.fin none none (some dL) [] .leaf) (.fin none none (some dL) [] .leaf))))))))))))
theorem cH5 (s:FState) (cx:Cx β):FX (PN n) n OW bJ7 s cx=EX n s cx:=by kernel_rfl
theorem bT2:Fit Tryd.prog 102 (cP3 n):=
  cD (Γ:=Γ0) (l:=dG0 n) (n:=n) (sk:=bJ7) (ts:=[(6,none)]) (fn:=Tryd.f102) (c:=OW) (by kernel_rfl) (by kernel_rfl) (by unfold aO;kernel_rfl) cB ⟨bL7 n,trivial⟩ aH (by kernel_rfl) (by kernel_rfl) (Nat.le_of_ble_eq_true (by kernel_rfl)) (Nat.le_of_ble_eq_true (by kernel_rfl)) (by kernel_rfl) (by kernel_rfl)
    (fun d=>(cH5 n _ _).trans (Eq.trans (b:=EX n (UC d.1 d.2.1 d.2.2.1) (cG (PN n) T6 [(6,none)])) (by kernel_rfl) ((aW6 n _ d.1 d.2.1 d.2.2.1).trans (by kernel_rfl))))
def T8 (Y J:BA):FState:=⟨aG [(0,.dat .str Y),(1,.dat .str J)],aD []⟩
def zL (v4:Int):FState:=⟨aG [(4,.dat (.int .i64) v4)],aD []⟩
def nG:List NE:=[.keep 4]
def AB (Y J:BA) (D:Int):FState:=⟨aG [(0,.dat .str Y),(1,.dat .str J),(5,.dat (.int .i64) D)],aD []⟩
def EO:List NE:=[.keep 0,.keep 1,.keep 5]
def GC:FState:=⟨aG [],aD []⟩
def wG:List NE:=[]
def eL2 (n:Nat):List (Nat×Spec):=[]
def A2:Ctx:={Γ0 with calls:=lkS (eL2 n)}
def WW:Code:=fb Tryd.f94
def aO6 (n:Nat) (kn:BA→BA→Int→Option β) (Y J:BA):Option β:=kn Y J (0:Int)
def bN1:FS1 β:=FXs (A2 n) n WW (some EO) none [] [2,12]
theorem dG1 (Y J:BA):bN1 n (T8 Y J) cx=aO6 n (fun Y J D=>cx.nrm (AB Y J D)) Y J:=by kernel_rfl
def NL (n:Nat) (kn:BA→BA→Int→Option β) (kr:Int→Option β) (ae:Option β) (Y J:BA) (D:Int):Option β:=bif (decide ((w64 (D+(J.size:Int)))≤(Y.size:Int))) then (bnd D (w64 (D+(J.size:Int))) (Y.size:Int)<|bif (dY (bA Y D (w64 (D+(J.size:Int)))) J) then (kr D) else (kn Y J (w64 (D+1)))) else ae
def S5:FS1 β:=FXs (A2 n) n WW (some EO) (some nG) [(0,wG)] [208,209,210,211]
theorem dJ2 (Y J:BA) (D:Int):S5 n (AB Y J D) cx=NL n (fun Y J D=>cx.nrm (AB Y J D)) (fun v4=>cx.ret (zL v4)) (cx.ex 0 GC) Y J D:=by kernel_rfl
def g94_3L (n:Nat) (kr:Int→Option β) (ae:Option β):Nat→BA→BA→Int→Option β
  | 0,_,_,_=>none
  | m+1,Y,J,D=>NL n (g94_3L n kr ae m) kr ae Y J D
def aK6 (kr:Int→Option β) (ae:Option β) (Y J:BA) (D:Int):Option β:=g94_3L n kr ae n Y J D
def cM7 (s:FState) (cx:Cx β):Option β:=bK (fun again s=>S5 n s {cx with nrm:=again}) n s
theorem bD6 (n:Nat) (cx:Cx β):∀(m:Nat) (Y J:BA) (D:Int),bK (fun again s=>S5 n s {cx with nrm:=again}) m (AB Y J D)=g94_3L n (fun v4=>cx.ret (zL v4)) (cx.ex 0 GC) m Y J D:=by
  intro m
  induction m with
  | zero=>intros;rfl
  | succ m ih=>intros;simp only [bK,g94_3L,dJ2,ih]
theorem dI2 (Y J:BA) (D:Int):cM7 n (AB Y J D) cx=aK6 n (fun v4=>cx.ret (zL v4)) (cx.ex 0 GC) Y J D:=bD6 n cx n Y J D
def aL0 (kn:Option β) (kr:Int→Option β) (Y J:BA) (D:Int):Option β:=aK6 n kr kn Y J D
def cW3 (s:FState) (cx:Cx β):Option β:=cM7 n s {cx with ex:=fun j s=>bif Nat.beq j 0 then cx.nrm s else cx.ex j s}
theorem bZ7 (Y J:BA) (D:Int):cW3 n (AB Y J D) cx=aL0 n (cx.nrm GC) (fun v4=>cx.ret (zL v4)) Y J D:=dI2 n _ Y J D
def aI4 (n:Nat) (kr:Int→Option β):Option β:=kr (-1:Int)
def dM5:FS1 β:=FXs (A2 n) n WW none (some nG) [] [14,15]
theorem bJ0:dM5 n GC cx=aI4 n (fun v4=>cx.ret (zL v4)):=by kernel_rfl
def A5 (kr:Int→Option β) (Y J:BA):Option β:=aO6 n (fun Y J D=>aL0 n (aI4 n kr) kr Y J D) Y J
def ON (s:FState) (cx:Cx β):Option β:=bN1 n s {cx with nrm:=fun s=>cW3 n s {cx with nrm:=fun s=>dM5 n s cx}}
theorem cI4 (Y J:BA):ON n (T8 Y J) cx=A5 n (fun v4=>cx.ret (zL v4)) Y J:=by simp only [ON,A5,dG1,bZ7,bJ0]
def g94 (Y J:BA):Option (DenR [.dat (.int .i64)]):=A5 n (fun v4=>some (v4,())) Y J
def eE9:List AK:=[.dat .str,.dat .str]
def cY2:List RK:=[.dat (.int .i64)]
def fC5 (d:DenA eE9):Option (DenR cY2):=g94 n d.1 d.2.1
def cR6:Spec:=aM eE9 cY2 (fC5 n)
def eM4:Sk:=(.nd (.fin none none none [] .leaf) (.nd (.nd (.fin none (some EO) none [] .leaf) (.nd (.nd (.nd (.nd (.fin none none (some nG) [(0,wG)] .leaf) (.fin none none (some nG) [(0,wG)] .leaf)) (.nd (.fin none none (some nG) [(0,wG)] .leaf) (.fin none (some EO) (some nG) [(0,wG)] .leaf))) .leaf) .leaf)) (.nd (.fin none none (some nG) [] .leaf) (.fin none none (some nG) [] .leaf))))
theorem dT2 (s:FState) (cx:Cx β):FX (A2 n) n WW eM4 s cx=ON n s cx:=by kernel_rfl
theorem aD8:Fit Tryd.prog 94 (cR6 n):=
  cD (Γ:=Γ0) (l:=eL2 n) (n:=n) (sk:=eM4) (ts:=[(4,none)]) (fn:=Tryd.f94) (c:=WW) (by kernel_rfl) (by kernel_rfl) (by unfold aO;kernel_rfl) cB trivial aH (by kernel_rfl) (by kernel_rfl) (Nat.le_of_ble_eq_true (by kernel_rfl)) (Nat.le_of_ble_eq_true (by kernel_rfl)) (by kernel_rfl) (by kernel_rfl)
    (fun d=>(dT2 n _ _).trans (Eq.trans (b:=ON n (T8 d.1 d.2.1) (cG (A2 n) cY2 [(4,none)])) (by kernel_rfl) ((cI4 n _ d.1 d.2.1).trans (by kernel_rfl))))
def bW1 (Y J:BA) (R:Int):FState:=⟨aG [(0,.dat .str Y),(1,.dat .str J),(2,.dat (.int .i64) R)],aD []⟩
def eX9 (T:Int):FState:=⟨aG [(6,.dat (.int .i64) T)],aD []⟩
def kM:List NE:=[.keep 6]
def eD6:List (Nat×Spec):=[(94,cR6 n)]
def cN7:Ctx:={Γ0 with calls:=lkS (eD6 n)}
def bP0:Code:=fb Tryd.f95
def cT7 (kr:Int→Option β) (Y J:BA) (R:Int):Option β:=bif (decide (R>(w64 ((Y.size:Int) - 1)))) then (kr (-1:Int)) else (bif (decide (R≤(0:Int))) then ((g94 n Y J).bind fun V=>kr V.1) else (bnd R (Y.size:Int) (Y.size:Int)<|(g94 n (bA Y R (Y.size:Int)) J).bind fun r2=>bif (r2.1==(-1:Int)) then (kr (-1:Int)) else (kr (w64 (r2.1+R)))))
def Y5:FS1 β:=FXs (cN7 n) n bP0 none (some kM) [] [2,12,13,28,29,30,124,125,126,127]
theorem cB5 (Y J:BA) (R:Int):Y5 n (bW1 Y J R) cx=cT7 n (fun T=>cx.ret (eX9 T)) Y J R:=by kernel_rfl
def g95 (Y J:BA) (R:Int):Option (DenR [.dat (.int .i64)]):=cT7 n (fun T=>some (T,())) Y J R
def eK4:List AK:=[.dat .str,.dat .str,.dat (.int .i64)]
def cE2:List RK:=[.dat (.int .i64)]
def fH7 (d:DenA eK4):Option (DenR cE2):=g95 n d.1 d.2.1 d.2.2.1
def eM2:Spec:=aM eK4 cE2 (fH7 n)
def eS5:Sk:=(.nd (.fin none none (some kM) [] .leaf) (.nd (.nd (.fin none none (some kM) [] .leaf) (.fin none none (some kM) [] .leaf)) (.nd (.nd (.fin none none (some kM) [] .leaf) (.fin none none (some kM) [] .leaf)) (.nd (.fin none none (some kM) [] .leaf) (.nd (.nd (.fin none none (some kM) [] .leaf) (.fin none none (some kM) [] .leaf)) (.nd (.fin none none (some kM) [] .leaf) (.fin none none (some kM) [] .leaf)))))))
theorem dT4 (s:FState) (cx:Cx β):FX (cN7 n) n bP0 eS5 s cx=Y5 n s cx:=by kernel_rfl
theorem dV9:Fit Tryd.prog 95 (eM2 n):=
  cD (Γ:=Γ0) (l:=eD6 n) (n:=n) (sk:=eS5) (ts:=[(6,none)]) (fn:=Tryd.f95) (c:=bP0) (by kernel_rfl) (by kernel_rfl) (by unfold aO;kernel_rfl) cB ⟨aD8 n,trivial⟩ aH (by kernel_rfl) (by kernel_rfl) (Nat.le_of_ble_eq_true (by kernel_rfl)) (Nat.le_of_ble_eq_true (by kernel_rfl)) (by kernel_rfl) (by kernel_rfl)
    (fun d=>(dT4 n _ _).trans (Eq.trans (b:=Y5 n (bW1 d.1 d.2.1 d.2.2.1) (cG (cN7 n) cE2 [(6,none)])) (by kernel_rfl) ((cB5 n _ d.1 d.2.1 d.2.2.1).trans (by kernel_rfl))))
def HQ (C:Z11) (J:BA) (aj:List BA) (m3:List Z29):FState:=⟨aG [(0,.ptr 0 0 0),(1,.dat .str J),(2,.cp 2 0),(1000002,.sl 1000002 none false),(3,.mp 3)],aD [(0,.row Z1 74 false [C]),(2,.cell (.sl 9 .str) 40),(1000002,.row .str 9 true aj),(3,.mapo .str (.int .i64) m3)]⟩
def aC5:List NE:=[.ptr 0 Z1 74 false,.keep 1,.cell 2 (.sl 9 .str) 40,.row 1000002 .str 9 true,.mp 3 .str (.int .i64)]
def bQ9 (aj:List BA) (m3:List Z29) (X:List Int):FState:=⟨aG [(2,.cp 2 0),(1000002,.sl 1000002 none false),(3,.mp 3),(8,.sl 8 none false)],aD [(2,.cell (.sl 9 .str) 40),(1000002,.row .str 9 true aj),(3,.mapo .str (.int .i64) m3),(8,.row (.int .u32) 105 true X)]⟩
def PT:List NE:=[.cell 2 (.sl 9 .str) 40,.row 1000002 .str 9 true,.mp 3 .str (.int .i64),.row 8 (.int .u32) 105 true]
def zV (J:BA) (aj:List BA) (m3:List Z29) (E H:Int) (ag:List Int):FState:=⟨aG [(1,.dat .str J),(2,.cp 2 0),(1000002,.sl 1000002 none false),(3,.mp 3),(9,.dat (.int .i64) E),(10,.dat (.int .i64) H),(11,.sl 11 none false)],aD [(2,.cell (.sl 9 .str) 40),(1000002,.row .str 9 true aj),(3,.mapo .str (.int .i64) m3),(11,.row (.int .u32) 105 true ag)]⟩
def CT:List NE:=[.keep 1,.cell 2 (.sl 9 .str) 40,.row 1000002 .str 9 true,.mp 3 .str (.int .i64),.keep 9,.keep 10,.row 11 (.int .u32) 105 true]
def KS (aj:List BA) (m3:List Z29) (ag:List Int):FState:=⟨aG [(2,.cp 2 0),(1000002,.sl 1000002 none false),(3,.mp 3),(11,.sl 11 none false)],aD [(2,.cell (.sl 9 .str) 40),(1000002,.row .str 9 true aj),(3,.mapo .str (.int .i64) m3),(11,.row (.int .u32) 105 true ag)]⟩
def DZ:List NE:=[.cell 2 (.sl 9 .str) 40,.row 1000002 .str 9 true,.mp 3 .str (.int .i64),.row 11 (.int .u32) 105 true]
def dZ8:List (Nat×Spec):=[(95,eM2 n)]
def MW:Ctx:={Γ0 with calls:=lkS (dZ8 n)}
def XL:Code:=fb Tryd.f75
def cM2 (n:Nat) (kn:BA→List BA→List Z29→Int→Int→List Int→Option β) (C:Z11) (J:BA) (aj:List BA) (m3:List Z29):Option β:=kn J aj m3 (0:Int) (-1:Int) ([]:List Int)
def cE7:FS1 β:=FXs (MW n) n XL (some CT) none [] [2,6,14,30]
theorem cP1 (C:Z11) (J:BA) (aj:List BA) (m3:List Z29):cE7 n (HQ C J aj m3) cx=cM2 n (fun J aj m3 E H ag=>cx.nrm (zV J aj m3 E H ag)) C J aj m3:=by kernel_rfl
def cS6 (kn:BA→List BA→List Z29→Int→Int→List Int→Option β) (ae:List BA→List Z29→List Int→Option β) (J:BA) (aj:List BA) (m3:List Z29) (E H:Int) (ag:List Int):Option β:=bif (decide (H < (w64 ((J.size:Int) - 1)))) then ((g95 n J (⟨#[10]⟩:BA) E).bind fun V=>bif (V.1==(-1:Int)) then (bnd E (w64 ((w64 ((J.size:Int) - 1))+(1:Int))) (J.size:Int)<|bif (fZ (a:= .str) (b:=(.int .i64)) (bA J E (w64 ((w64 ((J.size:Int) - 1))+(1:Int)))) m3).isSome then (cJ (ag.length+[(IntKind.u32.wrap (((fZ (a:= .str) (b:=(.int .i64)) (bA J E (w64 ((w64 ((J.size:Int) - 1))+(1:Int)))) m3).getD (0:Int))))].length)<|kn J aj m3 (w64 ((w64 ((J.size:Int) - 1))+(1:Int))) (w64 ((J.size:Int) - 1)) (ag++[(IntKind.u32.wrap (((fZ (a:= .str) (b:=(.int .i64)) (bA J E (w64 ((w64 ((J.size:Int) - 1))+(1:Int)))) m3).getD (0:Int))))])) else (cJ (aj.length+[(bA J E (w64 ((w64 ((J.size:Int) - 1))+(1:Int))))].length)<|cJ (ag.length+[(IntKind.u32.wrap ((w64 (((aj++[(bA J E (w64 ((w64 ((J.size:Int) - 1))+(1:Int))))]).length:Int) - (1:Int)))))].length)<|kn J (aj++[(bA J E (w64 ((w64 ((J.size:Int) - 1))+(1:Int))))]) (pO (a:= .str) (b:=(.int .i64)) (bA J E (w64 ((w64 ((J.size:Int) - 1))+(1:Int)))) (w64 (((aj++[(bA J E (w64 ((w64 ((J.size:Int) - 1))+(1:Int))))]).length:Int) - (1:Int))) m3) (w64 ((w64 ((J.size:Int) - 1))+(1:Int))) (w64 ((J.size:Int) - 1)) (ag++[(IntKind.u32.wrap ((w64 (((aj++[(bA J E (w64 ((w64 ((J.size:Int) - 1))+(1:Int))))]).length:Int) - (1:Int)))))]))) else (bnd E (w64 (V.1+1)) (J.size:Int)<|bif (fZ (a:= .str) (b:=(.int .i64)) (bA J E (w64 (V.1+1))) m3).isSome then (cJ (ag.length+[(IntKind.u32.wrap (((fZ (a:= .str) (b:=(.int .i64)) (bA J E (w64 (V.1+1))) m3).getD (0:Int))))].length)<|kn J aj m3 (w64 (V.1+1)) V.1 (ag++[(IntKind.u32.wrap (((fZ (a:= .str) (b:=(.int .i64)) (bA J E (w64 (V.1+1))) m3).getD (0:Int))))])) else (cJ (aj.length+[(bA J E (w64 (V.1+1)))].length)<|cJ (ag.length+[(IntKind.u32.wrap ((w64 (((aj++[(bA J E (w64 (V.1+1)))]).length:Int) - (1:Int)))))].length)<|kn J (aj++[(bA J E (w64 (V.1+1)))]) (pO (a:= .str) (b:=(.int .i64)) (bA J E (w64 (V.1+1))) (w64 (((aj++[(bA J E (w64 (V.1+1)))]).length:Int) - (1:Int))) m3) (w64 (V.1+1)) V.1 (ag++[(IntKind.u32.wrap ((w64 (((aj++[(bA J E (w64 (V.1+1)))]).length:Int) - (1:Int)))))])))) else (ae aj m3 ag)
def W1:FS1 β:=FXs (MW n) n XL (some CT) none [(0,DZ)] [992,993,497]
theorem cB2 (J:BA) (aj:List BA) (m3:List Z29) (E H:Int) (ag:List Int):W1 n (zV J aj m3 E H ag) cx=cS6 n (fun J aj m3 E H ag=>cx.nrm (zV J aj m3 E H ag)) (fun aj m3 ag=>cx.ex 0 (KS aj m3 ag)) J aj m3 E H ag:=by kernel_rfl
def g75_3L (n:Nat) (ae:List BA→List Z29→List Int→Option β):Nat→BA→List BA→List Z29→Int→Int→List Int→Option β
  | 0,_,_,_,_,_,_=>none
  | m+1,J,aj,m3,E,H,ag=>cS6 n (g75_3L n ae m) ae J aj m3 E H ag
def cL4 (ae:List BA→List Z29→List Int→Option β) (J:BA) (aj:List BA) (m3:List Z29) (E H:Int) (ag:List Int):Option β:=g75_3L n ae n J aj m3 E H ag
def cP0 (s:FState) (cx:Cx β):Option β:=bK (fun again s=>W1 n s {cx with nrm:=again}) n s
theorem bB0 (n:Nat) (cx:Cx β):∀(m:Nat) (J:BA) (aj:List BA) (m3:List Z29) (E H:Int) (ag:List Int),bK (fun again s=>W1 n s {cx with nrm:=again}) m (zV J aj m3 E H ag)=g75_3L n (fun aj m3 ag=>cx.ex 0 (KS aj m3 ag)) m J aj m3 E H ag:=by
  intro m
  induction m with
  | zero=>intros;rfl
  | succ m ih=>intros;simp only [bK,g75_3L,cB2,ih]
theorem bZ6 (J:BA) (aj:List BA) (m3:List Z29) (E H:Int) (ag:List Int):cP0 n (zV J aj m3 E H ag) cx=cL4 n (fun aj m3 ag=>cx.ex 0 (KS aj m3 ag)) J aj m3 E H ag:=bB0 n cx n J aj m3 E H ag
def bG5 (kn:List BA→List Z29→List Int→Option β) (J:BA) (aj:List BA) (m3:List Z29) (E H:Int) (ag:List Int):Option β:=cL4 n kn J aj m3 E H ag
def cJ8 (s:FState) (cx:Cx β):Option β:=cP0 n s {cx with ex:=fun j s=>bif Nat.beq j 0 then cx.nrm s else cx.ex j s}
theorem bX0 (J:BA) (aj:List BA) (m3:List Z29) (E H:Int) (ag:List Int):cJ8 n (zV J aj m3 E H ag) cx=bG5 n (fun aj m3 ag=>cx.nrm (KS aj m3 ag)) J aj m3 E H ag:=bZ6 n _ J aj m3 E H ag
def cC7 (n:Nat) (kr:List BA→List Z29→List Int→Option β) (aj:List BA) (m3:List Z29) (ag:List Int):Option β:=kr aj m3 ag
def dM6:FS1 β:=FXs (MW n) n XL none (some PT) [] [126,127]
theorem dJ3 (aj:List BA) (m3:List Z29) (ag:List Int):dM6 n (KS aj m3 ag) cx=cC7 n (fun aj m3 X=>cx.ret (bQ9 aj m3 X)) aj m3 ag:=by kernel_rfl
def aN5 (kr:List BA→List Z29→List Int→Option β) (C:Z11) (J:BA) (aj:List BA) (m3:List Z29):Option β:=cM2 n (fun J aj m3 E H ag=>bG5 n (fun aj m3 ag=>cC7 n kr aj m3 ag) J aj m3 E H ag) C J aj m3
def OL (s:FState) (cx:Cx β):Option β:=cE7 n s {cx with nrm:=fun s=>cJ8 n s {cx with nrm:=fun s=>dM6 n s cx}}
theorem bL3 (C:Z11) (J:BA) (aj:List BA) (m3:List Z29):OL n (HQ C J aj m3) cx=aN5 n (fun aj m3 X=>cx.ret (bQ9 aj m3 X)) C J aj m3:=by simp only [OL,aN5,cP1,bX0,dJ3]
def g75 (C:Z11) (J:BA) (aj:List BA) (m3:List Z29):Option (DenR [.rw (.int .u32) 105]×DenR (bI [.pro Z1 74,.dat .str,.cel (.sl 9 .str) 40,.mp .str (.int .i64)])):=aN5 n (fun aj m3 X=>some ((X,()),(aj,(m3,())))) C J aj m3
def tY:List AK:=[.pro Z1 74,.dat .str,.cel (.sl 9 .str) 40,.mp .str (.int .i64)]
def cA8:List RK:=[.rw (.int .u32) 105]
def fE3 (d:DenA tY):Option (DenR cA8×DenR (bI tY)):=g75 n d.1 d.2.1 d.2.2.1 d.2.2.2.1
def eR6:Spec:=nU tY cA8 (fE3 n)
def eE0:Sk:=(.nd (.fin none none none [] .leaf) (.nd (.fin none none none [] .leaf) (.nd (.fin none none none [] .leaf) (.nd (.fin none (some CT) none [] .leaf) (.nd (.nd (.nd (.nd (.nd (.fin none none none [(0,DZ)] .leaf) (.fin none none none [(0,DZ)] .leaf)) (.fin none (some CT) none [(0,DZ)] .leaf)) .leaf) .leaf) (.nd (.fin none none (some PT) [] .leaf) (.fin none none (some PT) [] .leaf)))))))
theorem dN2 (s:FState) (cx:Cx β):FX (MW n) n XL eE0 s cx=OL n s cx:=by kernel_rfl
theorem dP3 (d:DenA tY) (β:Type) (κ:FState→Option β):dI 0 0 (bI tY) (gA tY 0) (toB tY d) (lU tY d) (fun s=>qR (MW n) aC5 (qG tY 0 s) κ)=κ (HQ d.1 d.2.1 d.2.2.1 d.2.2.2.1):=by kernel_rfl
theorem dW0:Fit Tryd.prog 75 (eR6 n):=
  RX (Γ:=Γ0) (l:=dZ8 n) (n:=n) (sk:=eE0) (nf:=aC5) (m:=fun d=>HQ d.1 d.2.1 d.2.2.1 d.2.2.2.1) (ts:=[(8,none)]) (fn:=Tryd.f75) (c:=XL) (by kernel_rfl) (by kernel_rfl) (by unfold aO;kernel_rfl) cB ⟨dV9 n,trivial⟩ aH (by kernel_rfl) (by kernel_rfl) (Nat.le_of_ble_eq_true (by kernel_rfl)) (Nat.le_of_ble_eq_true (by kernel_rfl)) (by kernel_rfl) (by kernel_rfl) (dP3 n)
    (fun d=>(dN2 n _ _).trans (Eq.trans (b:=OL n (HQ d.1 d.2.1 d.2.2.1 d.2.2.2.1) (rF (MW n) tY cA8 [(8,none)])) (by kernel_rfl) ((bL3 n _ d.1 d.2.1 d.2.2.1 d.2.2.2.1).trans (by kernel_rfl))))
def aG5 (Y J R:Int):FState:=⟨aG [(0,.dat (.int .u32) Y),(1,.dat (.int .u8) J),(2,.dat (.int .u8) R)],aD []⟩
def dV0 (T:Int):FState:=⟨aG [(6,.dat (.int .u8) T)],aD []⟩
def xT:List NE:=[.keep 6]
def cK6 (n:Nat):List (Nat×Spec):=[]
def X6:Ctx:={Γ0 with calls:=lkS (cK6 n)}
def o8:Code:=fb Tryd.f116
def M2 (n:Nat) (kr:Int→Option β) (Y J R:Int):Option β:=dT6 R<|dT6 J<|kr (IntKind.u8.wrap ((dW .u32 (eQ .u32 Y R) (IntKind.u32.wrap ((pJ .u32 (1:Int) J) - (1:Int))))))
def SP:FS1 β:=FXs (X6 n) n o8 none (some xT) [] [2,6,7]
theorem bA2 (Y J R:Int):SP n (aG5 Y J R) cx=M2 n (fun T=>cx.ret (dV0 T)) Y J R:=by kernel_rfl
def vJ (Y J R:Int):Option (DenR [.dat (.int .u8)]):=M2 n (fun T=>some (T,())) Y J R
def bM2:List AK:=[.dat (.int .u32),.dat (.int .u8),.dat (.int .u8)]
def O2:List RK:=[.dat (.int .u8)]
def eY7 (d:DenA bM2):Option (DenR O2):=vJ n d.1 d.2.1 d.2.2.1
def bX8:Spec:=aM bM2 O2 (eY7 n)
def cZ2:Sk:=(.nd (.fin none none (some xT) [] .leaf) (.nd (.fin none none (some xT) [] .leaf) (.fin none none (some xT) [] .leaf)))
theorem bG6 (s:FState) (cx:Cx β):FX (X6 n) n o8 cZ2 s cx=SP n s cx:=by kernel_rfl
theorem cI6:Fit Tryd.prog 116 (bX8 n):=
  cD (Γ:=Γ0) (l:=cK6 n) (n:=n) (sk:=cZ2) (ts:=[(6,none)]) (fn:=Tryd.f116) (c:=o8) (by kernel_rfl) (by kernel_rfl) (by unfold aO;kernel_rfl) cB trivial aH (by kernel_rfl) (by kernel_rfl) (Nat.le_of_ble_eq_true (by kernel_rfl)) (Nat.le_of_ble_eq_true (by kernel_rfl)) (by kernel_rfl) (by kernel_rfl)
    (fun d=>(bG6 n _ _).trans (Eq.trans (b:=SP n (aG5 d.1 d.2.1 d.2.2.1) (cG (X6 n) O2 [(6,none)])) (by kernel_rfl) ((bA2 n _ d.1 d.2.1 d.2.2.1).trans (by kernel_rfl))))
def dC8:List AK:=[.ro (.int .u8) 5]
def cT5:List RK:=[.dat (.int .i32),.dat (.int .i64)]
def CK (n:Nat) (Y:List Int):Option (DenR [.dat (.int .i32),.dat (.int .i64)]):=if Y≠[]∧∀x∈Y,0≤x∧x < 256 then some (((Lib.decodeGo (strOfNums Y)).1:Int),(((Lib.decodeGo (strOfNums Y)).2:Int),())) else none
def eU8 (d:DenA dC8):Option (DenR cT5):=CK n d.1
def cQ6:Spec:=aM dC8 cT5 (eU8 n)
theorem cO7:Fit Tryd.prog 115 (cQ6 n):=VC (by unfold aO;kernel_rfl) rfl fun d x w A vs hG ha hx=>by
  obtain ⟨v,vs',o1,o2,rfl,_,⟨_,ad,cap,rfl,hle,hne⟩,h3,_⟩:=ha
  obtain ⟨xs,u⟩:=d
  subst h3
  obtain ⟨hc,hx⟩:=bJ hx
  cases hx
  obtain ⟨b,off,rfl,hb,hrow⟩:=hne hc.1
  have key:=Tryd.utf8_DecodeRune (strOfNums xs) b off cap w (TO hG) (P0 hc.2 hrow)
  rw [gF] at key
  exact key.mono fun e w' ⟨he,hb⟩=>⟨[.int .i32 (Lib.decodeGo (strOfNums xs)).1,.int .i64 (Lib.decodeGo (strOfNums xs)).2],he,⟨_,_,[],[],rfl,rfl,⟨rfl,_,rfl,rfl⟩,⟨_,_,[],[],rfl,rfl,⟨rfl,_,rfl,rfl⟩,rfl,rfl⟩⟩,hb⟩
def cK2 (Y:Int):FState:=⟨aG [(0,.dat (.int .u32) Y)],aD []⟩
def eU6 (R:Int):FState:=⟨aG [(2,.dat (.int .i32) R)],aD []⟩
def kK:List NE:=[.keep 2]
def eD3:List (Nat×Spec):=[(115,cQ6 n),(116,bX8 n)]
def bS8:Ctx:={Γ0 with calls:=lkS (eD3 n)}
def cK7:Code:=fb Tryd.f96
def dH3 (kr:Int→Option β) (Y:Int):Option β:=bif (decide (Y < (128:Int))) then (kr (IntKind.i32.wrap (Y))) else (bif (decide (Y < (2048:Int))) then ((vJ n Y (5:Int) (6:Int)).bind fun V=>(vJ n Y (6:Int) (0:Int)).bind fun r2=>(CK n [(orI .u8 (192:Int) V.1),(orI .u8 (128:Int) r2.1)]).bind fun r3=>bif (r3.2.1 !=(2:Int)) then none else (bif (r3.1==(65533:Int)) then none else (kr r3.1))) else (bif (decide (Y < (63485:Int))) then (bif (decide (Y≥(55296:Int))) then ((vJ n (IntKind.u32.wrap (Y+(2048:Int))) (4:Int) (12:Int)).bind fun r4=>(vJ n (IntKind.u32.wrap (Y+(2048:Int))) (6:Int) (6:Int)).bind fun r5=>(vJ n (IntKind.u32.wrap (Y+(2048:Int))) (6:Int) (0:Int)).bind fun r6=>(CK n [(orI .u8 (224:Int) r4.1),(orI .u8 (128:Int) r5.1),(orI .u8 (128:Int) r6.1)]).bind fun r7=>bif (r7.2.1 !=(3:Int)) then none else (bif (r7.1==(65533:Int)) then none else (kr r7.1))) else ((vJ n Y (4:Int) (12:Int)).bind fun r8=>(vJ n Y (6:Int) (6:Int)).bind fun r9=>(vJ n Y (6:Int) (0:Int)).bind fun bq=>(CK n [(orI .u8 (224:Int) r8.1),(orI .u8 (128:Int) r9.1),(orI .u8 (128:Int) bq.1)]).bind fun aw=>bif (aw.2.1 !=(3:Int)) then none else (bif (aw.1==(65533:Int)) then none else (kr aw.1)))) else (bif (decide (Y < (2095101:Int))) then ((vJ n (IntKind.u32.wrap (Y+(2051:Int))) (3:Int) (18:Int)).bind fun bt=>(vJ n (IntKind.u32.wrap (Y+(2051:Int))) (6:Int) (12:Int)).bind fun bs=>(vJ n (IntKind.u32.wrap (Y+(2051:Int))) (6:Int) (6:Int)).bind fun ay=>(vJ n (IntKind.u32.wrap (Y+(2051:Int))) (6:Int) (0:Int)).bind fun bv=>(CK n [(orI .u8 (240:Int) bt.1),(orI .u8 (128:Int) bs.1),(orI .u8 (128:Int) ay.1),(orI .u8 (128:Int) bv.1)]).bind fun bu=>bif (bu.2.1 !=(4:Int)) then none else (bif (bu.1==(65533:Int)) then none else (kr bu.1))) else none)))
def Y4:FS1 β:=FXs (bS8 n) n cK7 none (some kK) [] [2,12,13,28,29,60,61,124,125,63]
theorem dD4 (Y:Int):Y4 n (cK2 Y) cx=dH3 n (fun R=>cx.ret (eU6 R)) Y:=by kernel_rfl
def g96 (Y:Int):Option (DenR [.dat (.int .i32)]):=dH3 n (fun R=>some (R,())) Y
def eP2:List AK:=[.dat (.int .u32)]
def cI7:List RK:=[.dat (.int .i32)]
def fA2 (d:DenA eP2):Option (DenR cI7):=g96 n d.1
def eN4:Spec:=aM eP2 cI7 (fA2 n)
def eD0:Sk:=(.nd (.fin none none (some kK) [] .leaf) (.nd (.nd (.fin none none (some kK) [] .leaf) (.fin none none (some kK) [] .leaf)) (.nd (.nd (.fin none none (some kK) [] .leaf) (.fin none none (some kK) [] .leaf)) (.nd (.nd (.fin none none (some kK) [] .leaf) (.fin none none (some kK) [] .leaf)) (.nd (.nd (.fin none none (some kK) [] .leaf) (.fin none none (some kK) [] .leaf)) (.fin none none (some kK) [] .leaf))))))
theorem dZ2 (s:FState) (cx:Cx β):FX (bS8 n) n cK7 eD0 s cx=Y4 n s cx:=by kernel_rfl
theorem dZ0:Fit Tryd.prog 96 (eN4 n):=
  cD (Γ:=Γ0) (l:=eD3 n) (n:=n) (sk:=eD0) (ts:=[(2,none)]) (fn:=Tryd.f96) (c:=cK7) (by kernel_rfl) (by kernel_rfl) (by unfold aO;kernel_rfl) cB ⟨cO7 n,cI6 n,trivial⟩ aH (by kernel_rfl) (by kernel_rfl) (Nat.le_of_ble_eq_true (by kernel_rfl)) (Nat.le_of_ble_eq_true (by kernel_rfl)) (by kernel_rfl) (by kernel_rfl)
    (fun d=>(dZ2 n _ _).trans (Eq.trans (b:=Y4 n (cK2 d.1) (cG (bS8 n) cI7 [(2,none)])) (by kernel_rfl) ((dD4 n _ d.1).trans (by kernel_rfl))))
def I3 (M:List Int):FState:=⟨aG [(0,.sl 0 none false)],aD [(0,.row (.int .u32) 105 false M)]⟩
def g7 (R:BA):FState:=⟨aG [(2,.dat .str R)],aD []⟩
def mB:List NE:=[.keep 2]
def AG (y W:List Int) (G N:Int):FState:=⟨aG [(3,.sl 3 none false),(10,.sl 10 none false),(11,.dat (.int .i64) G),(12,.dat (.int .i64) N)],aD [(3,.row (.int .i32) 21 true y),(10,.row (.int .u32) 105 false W)]⟩
def CU:List NE:=[.row 3 (.int .i32) 21 true,.row 10 (.int .u32) 105 false,.keep 11,.keep 12]
def JV (y:List Int):FState:=⟨aG [(3,.sl 3 none false)],aD [(3,.row (.int .i32) 21 true y)]⟩
def xK:List NE:=[.row 3 (.int .i32) 21 true]
def eD9:List (Nat×Spec):=[(96,eN4 n)]
def ZR:Ctx:={Γ0 with calls:=lkS (eD9 n)}
def B6:Code:=fb Tryd.f76
def cW1 (n:Nat) (kn:List Int→List Int→Int→Int→Option β) (kr:BA→Option β) (M:List Int):Option β:=bif ((M.length:Int)==(0:Int)) then (kr (⟨#[]⟩:BA)) else (kn ([]:List Int) M (M.length:Int) (0:Int))
def bP9:FS1 β:=FXs (ZR n) n B6 (some CU) (some mB) [] [2,12,13,14,60]
theorem dK0 (M:List Int):bP9 n (I3 M) cx=cW1 n (fun y W G N=>cx.nrm (AG y W G N)) (fun R=>cx.ret (g7 R)) M:=by kernel_rfl
def aH6 (kn:List Int→List Int→Int→Int→Option β) (ae:List Int→Option β) (y W:List Int) (G N:Int):Option β:=bif (decide (N < G)) then (idx N (W.length:Int)<|(g96 n (rd W N (0:Int))).bind fun V=>cJ (y.length+[V.1].length)<|kn (y++[V.1]) W G (w64 (N+1))) else (ae y)
def V4:FS1 β:=FXs (ZR n) n B6 (some CU) none [(0,xK)] [488,978,1958,1959]
theorem bX5 (y W:List Int) (G N:Int):V4 n (AG y W G N) cx=aH6 n (fun y W G N=>cx.nrm (AG y W G N)) (fun y=>cx.ex 0 (JV y)) y W G N:=by kernel_rfl
def g76_3L (n:Nat) (ae:List Int→Option β):Nat→List Int→List Int→Int→Int→Option β
  | 0,_,_,_,_=>none
  | m+1,y,W,G,N=>aH6 n (g76_3L n ae m) ae y W G N
def cK8 (ae:List Int→Option β) (y W:List Int) (G N:Int):Option β:=g76_3L n ae n y W G N
def bS7 (s:FState) (cx:Cx β):Option β:=bK (fun again s=>V4 n s {cx with nrm:=again}) n s
theorem bD4 (n:Nat) (cx:Cx β):∀(m:Nat) (y W:List Int) (G N:Int),bK (fun again s=>V4 n s {cx with nrm:=again}) m (AG y W G N)=g76_3L n (fun y=>cx.ex 0 (JV y)) m y W G N:=by
  intro m
  induction m with
  | zero=>intros;rfl
  | succ m ih=>intros;simp only [bK,g76_3L,bX5,ih]
theorem dM4 (y W:List Int) (G N:Int):bS7 n (AG y W G N) cx=cK8 n (fun y=>cx.ex 0 (JV y)) y W G N:=bD4 n cx n y W G N
def bJ2 (kn:List Int→Option β) (y W:List Int) (G N:Int):Option β:=cK8 n kn y W G N
def cA6 (s:FState) (cx:Cx β):Option β:=bS7 n s {cx with ex:=fun j s=>bif Nat.beq j 0 then cx.nrm s else cx.ex j s}
theorem cJ9 (y W:List Int) (G N:Int):cA6 n (AG y W G N) cx=bJ2 n (fun y=>cx.nrm (JV y)) y W G N:=dM4 n _ y W G N
def cJ5 (n:Nat) (kr:BA→Option β) (y:List Int):Option β:=kr (runesBytes y)
def dL4:FS1 β:=FXs (ZR n) n B6 none (some mB) [] [62,63]
theorem dL9 (y:List Int):dL4 n (JV y) cx=cJ5 n (fun R=>cx.ret (g7 R)) y:=by kernel_rfl
def aH5 (kr:BA→Option β) (M:List Int):Option β:=cW1 n (fun y W G N=>bJ2 n (fun y=>cJ5 n kr y) y W G N) kr M
def QQ (s:FState) (cx:Cx β):Option β:=bP9 n s {cx with nrm:=fun s=>cA6 n s {cx with nrm:=fun s=>dL4 n s cx}}
theorem bM3 (M:List Int):QQ n (I3 M) cx=aH5 n (fun R=>cx.ret (g7 R)) M:=by simp only [QQ,aH5,dK0,cJ9,dL9]
def g76 (M:List Int):Option (DenR [.dat .str]):=aH5 n (fun R=>some (R,())) M
def eL6:List AK:=[.ro (.int .u32) 105]
def cK4:List RK:=[.dat .str]
def eZ5 (d:DenA eL6):Option (DenR cK4):=g76 n d.1
def eR4:Spec:=aM eL6 cK4 (eZ5 n)
def eQ7:Sk:=(.nd (.fin none none (some mB) [] .leaf) (.nd (.nd (.fin none none (some mB) [] .leaf) (.fin none none (some mB) [] .leaf)) (.nd (.fin none none (some mB) [] .leaf) (.nd (.nd (.fin none (some CU) (some mB) [] .leaf) (.nd (.nd (.nd (.fin none none none [(0,xK)] .leaf) (.nd (.fin none none none [(0,xK)] .leaf) (.nd (.fin none none none [(0,xK)] .leaf) (.fin none (some CU) none [(0,xK)] .leaf)))) .leaf) .leaf)) (.nd (.fin none none (some mB) [] .leaf) (.fin none none (some mB) [] .leaf))))))
theorem dN7 (s:FState) (cx:Cx β):FX (ZR n) n B6 eQ7 s cx=QQ n s cx:=by kernel_rfl
theorem dN9:Fit Tryd.prog 76 (eR4 n):=
  cD (Γ:=Γ0) (l:=eD9 n) (n:=n) (sk:=eQ7) (ts:=[(2,none)]) (fn:=Tryd.f76) (c:=B6) (by kernel_rfl) (by kernel_rfl) (by unfold aO;kernel_rfl) cB ⟨dZ0 n,trivial⟩ aH (by kernel_rfl) (by kernel_rfl) (Nat.le_of_ble_eq_true (by kernel_rfl)) (Nat.le_of_ble_eq_true (by kernel_rfl)) (by kernel_rfl) (by kernel_rfl)
    (fun d=>(dN7 n _ _).trans (Eq.trans (b:=QQ n (I3 d.1) (cG (ZR n) cK4 [(2,none)])) (by kernel_rfl) ((bM3 n _ d.1).trans (by kernel_rfl))))
def bO1 (C:Z11) (J R:BA):FState:=⟨aG [(0,.ptr 0 0 0),(1,.dat .str J),(2,.dat .str R)],aD [(0,.row Z1 74 false [C])]⟩
def eV1 (T F:BA) (X:List BA):FState:=⟨aG [(6,.dat .str T),(7,.dat .str F),(8,.sl 8 none false)],aD [(8,.row .str 9 true X)]⟩
def nS:List NE:=[.keep 6,.keep 7,.row 8 .str 9 true]
def eK5:List (Nat×Spec):=[(75,eR6 n),(76,eR4 n)]
def cH9:Ctx:={Γ0 with calls:=lkS (eK5 n),cel:=[9]}
def cA2:Code:=fb Tryd.f59
def cU6 (kr:BA→BA→List BA→Option β) (C:Z11) (J R:BA):Option β:=(g75 n C J [(⟨#[]⟩:BA)] ([]:List Z29)).bind fun V=>(g75 n C R V.2.1 V.2.2.1).bind fun r2=>(g76 n V.1.1).bind fun r3=>(g76 n r2.1.1).bind fun r4=>kr r3.1 r4.1 r2.2.1
def d5:FS1 β:=FXs (cH9 n) n cA2 none (some nS) [] [2,6,14,30,62,126,127]
theorem bY7 (C:Z11) (J R:BA):d5 n (bO1 C J R) cx=cU6 n (fun T F X=>cx.ret (eV1 T F X)) C J R:=by kernel_rfl
def g59 (C:Z11) (J R:BA):Option (DenR [.dat .str,.dat .str,.rw .str 9]):=cU6 n (fun T F X=>some (T,(F,(X,())))) C J R
def eS4:List AK:=[.pro Z1 74,.dat .str,.dat .str]
def bU3:List RK:=[.dat .str,.dat .str,.rw .str 9]
def fD9 (d:DenA eS4):Option (DenR bU3):=g59 n d.1 d.2.1 d.2.2.1
def eL9:Spec:=aM eS4 bU3 (fD9 n)
def eO2:Sk:=(.nd (.fin none none (some nS) [] .leaf) (.nd (.fin none none (some nS) [] .leaf) (.nd (.fin none none (some nS) [] .leaf) (.nd (.fin none none (some nS) [] .leaf) (.nd (.fin none none (some nS) [] .leaf) (.nd (.fin none none (some nS) [] .leaf) (.fin none none (some nS) [] .leaf)))))))
theorem dQ3 (s:FState) (cx:Cx β):FX (cH9 n) n cA2 eO2 s cx=d5 n s cx:=by kernel_rfl
theorem dV6:Fit Tryd.prog 59 (eL9 n):=
  cD (Γ:={Γ0 with cel:=[9]}) (l:=eK5 n) (n:=n) (sk:=eO2) (ts:=[(6,none),(7,none),(8,none)]) (fn:=Tryd.f59) (c:=cA2) (by kernel_rfl) (by kernel_rfl) (by unfold aO;kernel_rfl) (eY2 cB [9]) ⟨dW0 n,dN9 n,trivial⟩ aH (by kernel_rfl) (by kernel_rfl) (Nat.le_of_ble_eq_true (by kernel_rfl)) (Nat.le_of_ble_eq_true (by kernel_rfl)) (by kernel_rfl) (by kernel_rfl)
    (fun d=>(dQ3 n _ _).trans (Eq.trans (b:=d5 n (bO1 d.1 d.2.1 d.2.2.1) (cG (cH9 n) bU3 [(6,none),(7,none),(8,none)])) (by kernel_rfl) ((bY7 n _ d.1 d.2.1 d.2.2.1).trans (by kernel_rfl))))
def cY9 (C:Z11) (J R:BA):FState:=⟨aG [(0,.ptr 0 0 0),(1,.dat .str J),(2,.dat .str R)],aD [(0,.row Z1 74 false [C])]⟩
def eY3 (z x7:List Int) (X:List BA):FState:=⟨aG [(6,.sl 6 none false),(7,.sl 7 none false),(8,.sl 8 none false)],aD [(6,.row (.int .i32) 21 true z),(7,.row (.int .i32) 21 true x7),(8,.row .str 9 true X)]⟩
def yL:List NE:=[.row 6 (.int .i32) 21 true,.row 7 (.int .i32) 21 true,.row 8 .str 9 true]
def eM8:List (Nat×Spec):=[(59,eL9 n)]
def bO0:Ctx:={Γ0 with calls:=lkS (eM8 n)}
def bK2:Code:=fb Tryd.f43
def bR1 (kr:List Int→List Int→List BA→Option β) (C:Z11) (J R:BA):Option β:=(g59 n C J R).bind fun V=>kD V.1<|kD V.2.1<|kr (bP V.1) (bP V.2.1) V.2.2.1
def N9:FS1 β:=FXs (bO0 n) n bK2 none (some yL) [] [2,6,14,15]
theorem cY6 (C:Z11) (J R:BA):N9 n (cY9 C J R) cx=bR1 n (fun z x7 X=>cx.ret (eY3 z x7 X)) C J R:=by kernel_rfl
def g43 (C:Z11) (J R:BA):Option (DenR [.rw (.int .i32) 21,.rw (.int .i32) 21,.rw .str 9]):=bR1 n (fun z x7 X=>some (z,(x7,(X,())))) C J R
def eD2:List AK:=[.pro Z1 74,.dat .str,.dat .str]
def dB9:List RK:=[.rw (.int .i32) 21,.rw (.int .i32) 21,.rw .str 9]
def fG0 (d:DenA eD2):Option (DenR dB9):=g43 n d.1 d.2.1 d.2.2.1
def eI9:Spec:=aM eD2 dB9 (fG0 n)
def eB2:Sk:=(.nd (.fin none none (some yL) [] .leaf) (.nd (.fin none none (some yL) [] .leaf) (.nd (.fin none none (some yL) [] .leaf) (.fin none none (some yL) [] .leaf))))
theorem dR7 (s:FState) (cx:Cx β):FX (bO0 n) n bK2 eB2 s cx=N9 n s cx:=by kernel_rfl
theorem dW4:Fit Tryd.prog 43 (eI9 n):=
  cD (Γ:=Γ0) (l:=eM8 n) (n:=n) (sk:=eB2) (ts:=[(6,none),(7,none),(8,none)]) (fn:=Tryd.f43) (c:=bK2) (by kernel_rfl) (by kernel_rfl) (by unfold aO;kernel_rfl) cB ⟨dV6 n,trivial⟩ aH (by kernel_rfl) (by kernel_rfl) (Nat.le_of_ble_eq_true (by kernel_rfl)) (Nat.le_of_ble_eq_true (by kernel_rfl)) (by kernel_rfl) (by kernel_rfl)
    (fun d=>(dR7 n _ _).trans (Eq.trans (b:=N9 n (cY9 d.1 d.2.1 d.2.2.1) (cG (bO0 n) dB9 [(6,none),(7,none),(8,none)])) (by kernel_rfl) ((cY6 n _ d.1 d.2.1 d.2.2.1).trans (by kernel_rfl))))
def xX (M:List Int) (J:Int):FState:=⟨aG [(0,.sl 0 none false),(1,.dat (.int .i32) J)],aD [(0,.row (.int .u8) 5 true M)]⟩
def UT:List NE:=[.row 0 (.int .u8) 5 true,.keep 1]
def RG (M:List Int) (v4:Int):FState:=⟨aG [(0,.sl 0 none false),(4,.dat (.int .i64) v4)],aD [(0,.row (.int .u8) 5 true M)]⟩
def HX:List NE:=[.row 0 (.int .u8) 5 true,.keep 4]
def NX (M:List Int) (J D:Int):FState:=⟨aG [(0,.sl 0 none false),(1,.dat (.int .i32) J),(5,.dat (.int .u32) D)],aD [(0,.row (.int .u8) 5 true M)]⟩
def YK:List NE:=[.row 0 (.int .u8) 5 true,.keep 1,.keep 5]
def dD7 (n:Nat):List (Nat×Spec):=[]
def IH:Ctx:={Γ0 with calls:=lkS (dD7 n)}
def SD:Code:=fb Tryd.f117
def KJ (n:Nat) (kn:List Int→Int→Int→Option β) (M:List Int) (J:Int):Option β:=kn M J (IntKind.u32.wrap (J))
def aN6:FS1 β:=FXs (IH n) n SD (some YK) none [] [2,6]
theorem aT9 (M:List Int) (J:Int):aN6 n (xX M J) cx=KJ n (fun M J D=>cx.nrm (NX M J D)) M J:=by kernel_rfl
def FT (n:Nat) (kr:List Int→Int→Option β) (M:List Int) (J D:Int):Option β:=bif (decide (D≤(2047:Int))) then (idx (1:Int) (M.length:Int)<|idx (0:Int) (M.length:Int)<|idx (1:Int) ((M.set (0:Int).toNat (orI .u8 (192:Int) (IntKind.u8.wrap ((eQ .i32 J (6:Int)))))).length:Int)<|kr ((M.set (0:Int).toNat (orI .u8 (192:Int) (IntKind.u8.wrap ((eQ .i32 J (6:Int)))))).set (1:Int).toNat (orI .u8 (128:Int) (dW .u8 (IntKind.u8.wrap (J)) (63:Int)))) (2:Int)) else (bif (decide (D < (55296:Int))) then (bif (decide (D < (55296:Int))) then (idx (2:Int) (M.length:Int)<|idx (0:Int) (M.length:Int)<|idx (1:Int) ((M.set (0:Int).toNat (orI .u8 (224:Int) (IntKind.u8.wrap ((eQ .i32 J (12:Int)))))).length:Int)<|idx (2:Int) (((M.set (0:Int).toNat (orI .u8 (224:Int) (IntKind.u8.wrap ((eQ .i32 J (12:Int)))))).set (1:Int).toNat (orI .u8 (128:Int) (dW .u8 (IntKind.u8.wrap ((eQ .i32 J (6:Int)))) (63:Int)))).length:Int)<|kr (((M.set (0:Int).toNat (orI .u8 (224:Int) (IntKind.u8.wrap ((eQ .i32 J (12:Int)))))).set (1:Int).toNat (orI .u8 (128:Int) (dW .u8 (IntKind.u8.wrap ((eQ .i32 J (6:Int)))) (63:Int)))).set (2:Int).toNat (orI .u8 (128:Int) (dW .u8 (IntKind.u8.wrap (J)) (63:Int)))) (3:Int)) else (bif (decide (D>(65535:Int))) then (bif (decide (D≤(1114111:Int))) then (idx (3:Int) (M.length:Int)<|idx (0:Int) (M.length:Int)<|idx (1:Int) ((M.set (0:Int).toNat (orI .u8 (240:Int) (IntKind.u8.wrap ((eQ .i32 J (18:Int)))))).length:Int)<|idx (2:Int) (((M.set (0:Int).toNat (orI .u8 (240:Int) (IntKind.u8.wrap ((eQ .i32 J (18:Int)))))).set (1:Int).toNat (orI .u8 (128:Int) (dW .u8 (IntKind.u8.wrap ((eQ .i32 J (12:Int)))) (63:Int)))).length:Int)<|idx (3:Int) ((((M.set (0:Int).toNat (orI .u8 (240:Int) (IntKind.u8.wrap ((eQ .i32 J (18:Int)))))).set (1:Int).toNat (orI .u8 (128:Int) (dW .u8 (IntKind.u8.wrap ((eQ .i32 J (12:Int)))) (63:Int)))).set (2:Int).toNat (orI .u8 (128:Int) (dW .u8 (IntKind.u8.wrap ((eQ .i32 J (6:Int)))) (63:Int)))).length:Int)<|kr ((((M.set (0:Int).toNat (orI .u8 (240:Int) (IntKind.u8.wrap ((eQ .i32 J (18:Int)))))).set (1:Int).toNat (orI .u8 (128:Int) (dW .u8 (IntKind.u8.wrap ((eQ .i32 J (12:Int)))) (63:Int)))).set (2:Int).toNat (orI .u8 (128:Int) (dW .u8 (IntKind.u8.wrap ((eQ .i32 J (6:Int)))) (63:Int)))).set (3:Int).toNat (orI .u8 (128:Int) (dW .u8 (IntKind.u8.wrap (J)) (63:Int)))) (4:Int)) else (idx (2:Int) (M.length:Int)<|idx (0:Int) (M.length:Int)<|idx (1:Int) ((M.set (0:Int).toNat (239:Int)).length:Int)<|idx (2:Int) (((M.set (0:Int).toNat (239:Int)).set (1:Int).toNat (191:Int)).length:Int)<|kr (((M.set (0:Int).toNat (239:Int)).set (1:Int).toNat (191:Int)).set (2:Int).toNat (189:Int)) (3:Int))) else (idx (2:Int) (M.length:Int)<|idx (0:Int) (M.length:Int)<|idx (1:Int) ((M.set (0:Int).toNat (239:Int)).length:Int)<|idx (2:Int) (((M.set (0:Int).toNat (239:Int)).set (1:Int).toNat (191:Int)).length:Int)<|kr (((M.set (0:Int).toNat (239:Int)).set (1:Int).toNat (191:Int)).set (2:Int).toNat (189:Int)) (3:Int)))) else (bif (decide ((57343:Int) < D)) then (bif (decide (D≤(65535:Int))) then (idx (2:Int) (M.length:Int)<|idx (0:Int) (M.length:Int)<|idx (1:Int) ((M.set (0:Int).toNat (orI .u8 (224:Int) (IntKind.u8.wrap ((eQ .i32 J (12:Int)))))).length:Int)<|idx (2:Int) (((M.set (0:Int).toNat (orI .u8 (224:Int) (IntKind.u8.wrap ((eQ .i32 J (12:Int)))))).set (1:Int).toNat (orI .u8 (128:Int) (dW .u8 (IntKind.u8.wrap ((eQ .i32 J (6:Int)))) (63:Int)))).length:Int)<|kr (((M.set (0:Int).toNat (orI .u8 (224:Int) (IntKind.u8.wrap ((eQ .i32 J (12:Int)))))).set (1:Int).toNat (orI .u8 (128:Int) (dW .u8 (IntKind.u8.wrap ((eQ .i32 J (6:Int)))) (63:Int)))).set (2:Int).toNat (orI .u8 (128:Int) (dW .u8 (IntKind.u8.wrap (J)) (63:Int)))) (3:Int)) else (bif (decide (D>(65535:Int))) then (bif (decide (D≤(1114111:Int))) then (idx (3:Int) (M.length:Int)<|idx (0:Int) (M.length:Int)<|idx (1:Int) ((M.set (0:Int).toNat (orI .u8 (240:Int) (IntKind.u8.wrap ((eQ .i32 J (18:Int)))))).length:Int)<|idx (2:Int) (((M.set (0:Int).toNat (orI .u8 (240:Int) (IntKind.u8.wrap ((eQ .i32 J (18:Int)))))).set (1:Int).toNat (orI .u8 (128:Int) (dW .u8 (IntKind.u8.wrap ((eQ .i32 J (12:Int)))) (63:Int)))).length:Int)<|idx (3:Int) ((((M.set (0:Int).toNat (orI .u8 (240:Int) (IntKind.u8.wrap ((eQ .i32 J (18:Int)))))).set (1:Int).toNat (orI .u8 (128:Int) (dW .u8 (IntKind.u8.wrap ((eQ .i32 J (12:Int)))) (63:Int)))).set (2:Int).toNat (orI .u8 (128:Int) (dW .u8 (IntKind.u8.wrap ((eQ .i32 J (6:Int)))) (63:Int)))).length:Int)<|kr ((((M.set (0:Int).toNat (orI .u8 (240:Int) (IntKind.u8.wrap ((eQ .i32 J (18:Int)))))).set (1:Int).toNat (orI .u8 (128:Int) (dW .u8 (IntKind.u8.wrap ((eQ .i32 J (12:Int)))) (63:Int)))).set (2:Int).toNat (orI .u8 (128:Int) (dW .u8 (IntKind.u8.wrap ((eQ .i32 J (6:Int)))) (63:Int)))).set (3:Int).toNat (orI .u8 (128:Int) (dW .u8 (IntKind.u8.wrap (J)) (63:Int)))) (4:Int)) else (idx (2:Int) (M.length:Int)<|idx (0:Int) (M.length:Int)<|idx (1:Int) ((M.set (0:Int).toNat (239:Int)).length:Int)<|idx (2:Int) (((M.set (0:Int).toNat (239:Int)).set (1:Int).toNat (191:Int)).length:Int)<|kr (((M.set (0:Int).toNat (239:Int)).set (1:Int).toNat (191:Int)).set (2:Int).toNat (189:Int)) (3:Int))) else (idx (2:Int) (M.length:Int)<|idx (0:Int) (M.length:Int)<|idx (1:Int) ((M.set (0:Int).toNat (239:Int)).length:Int)<|idx (2:Int) (((M.set (0:Int).toNat (239:Int)).set (1:Int).toNat (191:Int)).length:Int)<|kr (((M.set (0:Int).toNat (239:Int)).set (1:Int).toNat (191:Int)).set (2:Int).toNat (189:Int)) (3:Int)))) else (bif (decide (D>(65535:Int))) then (bif (decide (D≤(1114111:Int))) then (idx (3:Int) (M.length:Int)<|idx (0:Int) (M.length:Int)<|idx (1:Int) ((M.set (0:Int).toNat (orI .u8 (240:Int) (IntKind.u8.wrap ((eQ .i32 J (18:Int)))))).length:Int)<|idx (2:Int) (((M.set (0:Int).toNat (orI .u8 (240:Int) (IntKind.u8.wrap ((eQ .i32 J (18:Int)))))).set (1:Int).toNat (orI .u8 (128:Int) (dW .u8 (IntKind.u8.wrap ((eQ .i32 J (12:Int)))) (63:Int)))).length:Int)<|idx (3:Int) ((((M.set (0:Int).toNat (orI .u8 (240:Int) (IntKind.u8.wrap ((eQ .i32 J (18:Int)))))).set (1:Int).toNat (orI .u8 (128:Int) (dW .u8 (IntKind.u8.wrap ((eQ .i32 J (12:Int)))) (63:Int)))).set (2:Int).toNat (orI .u8 (128:Int) (dW .u8 (IntKind.u8.wrap ((eQ .i32 J (6:Int)))) (63:Int)))).length:Int)<|kr ((((M.set (0:Int).toNat (orI .u8 (240:Int) (IntKind.u8.wrap ((eQ .i32 J (18:Int)))))).set (1:Int).toNat (orI .u8 (128:Int) (dW .u8 (IntKind.u8.wrap ((eQ .i32 J (12:Int)))) (63:Int)))).set (2:Int).toNat (orI .u8 (128:Int) (dW .u8 (IntKind.u8.wrap ((eQ .i32 J (6:Int)))) (63:Int)))).set (3:Int).toNat (orI .u8 (128:Int) (dW .u8 (IntKind.u8.wrap (J)) (63:Int)))) (4:Int)) else (idx (2:Int) (M.length:Int)<|idx (0:Int) (M.length:Int)<|idx (1:Int) ((M.set (0:Int).toNat (239:Int)).length:Int)<|idx (2:Int) (((M.set (0:Int).toNat (239:Int)).set (1:Int).toNat (191:Int)).length:Int)<|kr (((M.set (0:Int).toNat (239:Int)).set (1:Int).toNat (191:Int)).set (2:Int).toNat (189:Int)) (3:Int))) else (idx (2:Int) (M.length:Int)<|idx (0:Int) (M.length:Int)<|idx (1:Int) ((M.set (0:Int).toNat (239:Int)).length:Int)<|idx (2:Int) (((M.set (0:Int).toNat (239:Int)).set (1:Int).toNat (191:Int)).length:Int)<|kr (((M.set (0:Int).toNat (239:Int)).set (1:Int).toNat (191:Int)).set (2:Int).toNat (189:Int)) (3:Int)))))
def aE9:FS1 β:=FXs (IH n) n SD none (some HX) [] [28,29]
theorem bE3 (M:List Int) (J D:Int):aE9 n (NX M J D) cx=FT n (fun M v4=>cx.ret (RG M v4)) M J D:=by kernel_rfl
def IT (kr:List Int→Int→Option β) (M:List Int) (J D:Int):Option β:=FT n kr M J D
def u5 (s:FState) (cx:Cx β):Option β:=aE9 n s {cx with ex:=fun j s=>bif Nat.beq j 0 then cx.nrm s else cx.ex j s}
theorem aV5 (M:List Int) (J D:Int):u5 n (NX M J D) cx=IT n (fun M v4=>cx.ret (RG M v4)) M J D:=bE3 n _ M J D
def AX (kr:List Int→Int→Option β) (M:List Int) (J:Int):Option β:=KJ n (fun M J D=>IT n kr M J D) M J
def FG (s:FState) (cx:Cx β):Option β:=aN6 n s {cx with nrm:=fun s=>u5 n s cx}
theorem aU4 (M:List Int) (J:Int):FG n (xX M J) cx=AX n (fun M v4=>cx.ret (RG M v4)) M J:=by simp only [FG,AX,aT9,aV5]
def dB7 (M:List Int) (J:Int):Option (DenR [.dat (.int .i64)]×DenR (bI [.io (.int .u8) 5,.dat (.int .i32)])):=AX n (fun M v4=>some ((v4,()),(M,()))) M J
def oB:List AK:=[.io (.int .u8) 5,.dat (.int .i32)]
def M4:List RK:=[.dat (.int .i64)]
def eZ2 (d:DenA oB):Option (DenR M4×DenR (bI oB)):=dB7 n d.1 d.2.1
def bV2:Spec:=nU oB M4 (eZ2 n)
def dK8:Sk:=(.nd (.fin none none none [] .leaf) (.nd (.fin none (some YK) none [] .leaf) (.nd (.nd (.fin none none (some HX) [] .leaf) (.fin none none (some HX) [] .leaf)) .leaf)))
theorem cE8 (s:FState) (cx:Cx β):FX (IH n) n SD dK8 s cx=FG n s cx:=by kernel_rfl
theorem bS5 (d:DenA oB) (β:Type) (κ:FState→Option β):dI 0 0 (bI oB) (gA oB 0) (toB oB d) (lU oB d) (fun s=>qR (IH n) UT (qG oB 0 s) κ)=κ (xX d.1 d.2.1):=by kernel_rfl
theorem bL2:Fit Tryd.prog 117 (bV2 n):=
  RX (Γ:=Γ0) (l:=dD7 n) (n:=n) (sk:=dK8) (nf:=UT) (m:=fun d=>xX d.1 d.2.1) (ts:=[(4,none)]) (fn:=Tryd.f117) (c:=SD) (by kernel_rfl) (by kernel_rfl) (by unfold aO;kernel_rfl) cB trivial aH (by kernel_rfl) (by kernel_rfl) (Nat.le_of_ble_eq_true (by kernel_rfl)) (Nat.le_of_ble_eq_true (by kernel_rfl)) (by kernel_rfl) (by kernel_rfl) (bS5 n)
    (fun d=>(cE8 n _ _).trans (Eq.trans (b:=FG n (xX d.1 d.2.1) (rF (IH n) oB M4 [(4,none)])) (by kernel_rfl) ((aU4 n _ d.1 d.2.1).trans (by kernel_rfl))))
def SI (M:List Int) (J:Int):FState:=⟨aG [(0,.sl 0 none false),(1,.dat (.int .i32) J)],aD [(0,.row (.int .u8) 5 true M)]⟩
def aA0:List NE:=[.row 0 (.int .u8) 5 true,.keep 1]
def eX0 (M:List Int) (v4:Int):FState:=⟨aG [(0,.sl 0 none false),(4,.dat (.int .i64) v4)],aD [(0,.row (.int .u8) 5 true M)]⟩
def sD:List NE:=[.row 0 (.int .u8) 5 true,.keep 4]
def eB7:List (Nat×Spec):=[(117,bV2 n)]
def u9:Ctx:={Γ0 with calls:=lkS (eB7 n)}
def cS9:Code:=fb Tryd.f97
def UZ (kr:List Int→Int→Option β) (M:List Int) (J:Int):Option β:=bif (decide ((IntKind.u32.wrap (J))≤(127:Int))) then (idx (0:Int) (M.length:Int)<|kr (M.set (0:Int).toNat (IntKind.u8.wrap (J))) (1:Int)) else ((dB7 n M J).bind fun V=>kr V.2.1 V.1.1)
def S6:FS1 β:=FXs (u9 n) n cS9 none (some sD) [] [2,12,13,14,15]
theorem dC1 (M:List Int) (J:Int):S6 n (SI M J) cx=UZ n (fun M v4=>cx.ret (eX0 M v4)) M J:=by kernel_rfl
def g97 (M:List Int) (J:Int):Option (DenR [.dat (.int .i64)]×DenR (bI [.io (.int .u8) 5,.dat (.int .i32)])):=UZ n (fun M v4=>some ((v4,()),(M,()))) M J
def uA:List AK:=[.io (.int .u8) 5,.dat (.int .i32)]
def bN0:List RK:=[.dat (.int .i64)]
def fA4 (d:DenA uA):Option (DenR bN0×DenR (bI uA)):=g97 n d.1 d.2.1
def eI8:Spec:=nU uA bN0 (fA4 n)
def eG3:Sk:=(.nd (.fin none none (some sD) [] .leaf) (.nd (.nd (.fin none none (some sD) [] .leaf) (.fin none none (some sD) [] .leaf)) (.nd (.fin none none (some sD) [] .leaf) (.fin none none (some sD) [] .leaf))))
theorem dQ6 (s:FState) (cx:Cx β):FX (u9 n) n cS9 eG3 s cx=S6 n s cx:=by kernel_rfl
theorem dT3 (d:DenA uA) (β:Type) (κ:FState→Option β):dI 0 0 (bI uA) (gA uA 0) (toB uA d) (lU uA d) (fun s=>qR (u9 n) aA0 (qG uA 0 s) κ)=κ (SI d.1 d.2.1):=by kernel_rfl
theorem dO0:Fit Tryd.prog 97 (eI8 n):=
  RX (Γ:=Γ0) (l:=eB7 n) (n:=n) (sk:=eG3) (nf:=aA0) (m:=fun d=>SI d.1 d.2.1) (ts:=[(4,none)]) (fn:=Tryd.f97) (c:=cS9) (by kernel_rfl) (by kernel_rfl) (by unfold aO;kernel_rfl) cB ⟨bL2 n,trivial⟩ aH (by kernel_rfl) (by kernel_rfl) (Nat.le_of_ble_eq_true (by kernel_rfl)) (Nat.le_of_ble_eq_true (by kernel_rfl)) (by kernel_rfl) (by kernel_rfl) (dT3 n)
    (fun d=>(dQ6 n _ _).trans (Eq.trans (b:=S6 n (SI d.1 d.2.1) (rF (u9 n) uA bN0 [(4,none)])) (by kernel_rfl) ((dC1 n _ d.1 d.2.1).trans (by kernel_rfl))))
def bY1 (Y:Int):FState:=⟨aG [(0,.dat (.int .i32) Y)],aD []⟩
def eW3 (R:Int):FState:=⟨aG [(2,.dat (.int .u32) R)],aD []⟩
def iD:List NE:=[.keep 2]
def eN7:List (Nat×Spec):=[(97,eI8 n)]
def bK8:Ctx:={Γ0 with calls:=lkS (eN7 n)}
def bY8:Code:=fb Tryd.f77
def bS0 (kr:Int→Option β) (Y:Int):Option β:=bif (decide ((IntKind.u32.wrap (Y)) < (128:Int))) then (kr (IntKind.u32.wrap (Y))) else ((g97 n [(0:Int),(0:Int),(0:Int),(0:Int)] Y).bind fun V=>bif (V.1.1==(2:Int)) then (idx (0:Int) (V.2.1.length:Int)<|idx (1:Int) (V.2.1.length:Int)<|kr (orI .u32 (pJ .u32 (IntKind.u32.wrap ((dW .u8 (rd V.2.1 (0:Int) (0:Int)) (31:Int)))) (6:Int)) (IntKind.u32.wrap ((dW .u8 (rd V.2.1 (1:Int) (0:Int)) (63:Int)))))) else (bif (V.1.1==(3:Int)) then (idx (0:Int) (V.2.1.length:Int)<|idx (1:Int) (V.2.1.length:Int)<|idx (2:Int) (V.2.1.length:Int)<|bif (decide ((orI .u32 (orI .u32 (pJ .u32 (IntKind.u32.wrap ((dW .u8 (rd V.2.1 (0:Int) (0:Int)) (15:Int)))) (12:Int)) (pJ .u32 (IntKind.u32.wrap ((dW .u8 (rd V.2.1 (1:Int) (0:Int)) (63:Int)))) (6:Int))) (IntKind.u32.wrap ((dW .u8 (rd V.2.1 (2:Int) (0:Int)) (63:Int)))))≥(57343:Int))) then (kr (IntKind.u32.wrap ((orI .u32 (orI .u32 (pJ .u32 (IntKind.u32.wrap ((dW .u8 (rd V.2.1 (0:Int) (0:Int)) (15:Int)))) (12:Int)) (pJ .u32 (IntKind.u32.wrap ((dW .u8 (rd V.2.1 (1:Int) (0:Int)) (63:Int)))) (6:Int))) (IntKind.u32.wrap ((dW .u8 (rd V.2.1 (2:Int) (0:Int)) (63:Int))))) - (2048:Int)))) else (kr (orI .u32 (orI .u32 (pJ .u32 (IntKind.u32.wrap ((dW .u8 (rd V.2.1 (0:Int) (0:Int)) (15:Int)))) (12:Int)) (pJ .u32 (IntKind.u32.wrap ((dW .u8 (rd V.2.1 (1:Int) (0:Int)) (63:Int)))) (6:Int))) (IntKind.u32.wrap ((dW .u8 (rd V.2.1 (2:Int) (0:Int)) (63:Int))))))) else (bif (V.1.1==(4:Int)) then (idx (0:Int) (V.2.1.length:Int)<|idx (1:Int) (V.2.1.length:Int)<|idx (2:Int) (V.2.1.length:Int)<|idx (3:Int) (V.2.1.length:Int)<|kr (IntKind.u32.wrap ((IntKind.u32.wrap ((orI .u32 (orI .u32 (orI .u32 (pJ .u32 (IntKind.u32.wrap ((dW .u8 (rd V.2.1 (0:Int) (0:Int)) (7:Int)))) (18:Int)) (pJ .u32 (IntKind.u32.wrap ((dW .u8 (rd V.2.1 (1:Int) (0:Int)) (63:Int)))) (12:Int))) (pJ .u32 (IntKind.u32.wrap ((dW .u8 (rd V.2.1 (2:Int) (0:Int)) (63:Int)))) (6:Int))) (IntKind.u32.wrap ((dW .u8 (rd V.2.1 (3:Int) (0:Int)) (63:Int))))) - (2048:Int))) - (3:Int)))) else none)))
def X8:FS1 β:=FXs (bK8 n) n bY8 none (some iD) [] [2,6,28,29,30,62,252,253,508,509,1020,1021,511]
theorem cC6 (Y:Int):X8 n (bY1 Y) cx=bS0 n (fun R=>cx.ret (eW3 R)) Y:=by kernel_rfl
def g77 (Y:Int):Option (DenR [.dat (.int .u32)]):=bS0 n (fun R=>some (R,())) Y
def eG9:List AK:=[.dat (.int .i32)]
def bL5:List RK:=[.dat (.int .u32)]
def fH6 (d:DenA eG9):Option (DenR bL5):=g77 n d.1
def eL3:Spec:=aM eG9 bL5 (fH6 n)
def eC2:Sk:=(.nd (.fin none none (some iD) [] .leaf) (.nd (.fin none none (some iD) [] .leaf) (.nd (.nd (.fin none none (some iD) [] .leaf) (.fin none none (some iD) [] .leaf)) (.nd (.fin none none (some iD) [] .leaf) (.nd (.fin none none (some iD) [] .leaf) (.nd (.nd (.fin none none (some iD) [] .leaf) (.fin none none (some iD) [] .leaf)) (.nd (.nd (.fin none none (some iD) [] .leaf) (.fin none none (some iD) [] .leaf)) (.nd (.nd (.fin none none (some iD) [] .leaf) (.fin none none (some iD) [] .leaf)) (.fin none none (some iD) [] .leaf)))))))))
theorem dS4 (s:FState) (cx:Cx β):FX (bK8 n) n bY8 eC2 s cx=X8 n s cx:=by kernel_rfl
theorem dV7:Fit Tryd.prog 77 (eL3 n):=
  cD (Γ:=Γ0) (l:=eN7 n) (n:=n) (sk:=eC2) (ts:=[(2,none)]) (fn:=Tryd.f77) (c:=bY8) (by kernel_rfl) (by kernel_rfl) (by unfold aO;kernel_rfl) cB ⟨dO0 n,trivial⟩ aH (by kernel_rfl) (by kernel_rfl) (Nat.le_of_ble_eq_true (by kernel_rfl)) (Nat.le_of_ble_eq_true (by kernel_rfl)) (by kernel_rfl) (by kernel_rfl)
    (fun d=>(dS4 n _ _).trans (Eq.trans (b:=X8 n (bY1 d.1) (cG (bK8 n) bL5 [(2,none)])) (by kernel_rfl) ((cC6 n _ d.1).trans (by kernel_rfl))))
def eE2:List AK:=[.ro .str 9,.dat .str]
def eF8:List RK:=[.dat .str]
def g78 (n:Nat) (Y:List BA) (J:BA):Option (DenR [.dat .str]):=if Y.length≤140737488355328∧(Lib.join (Y.map (·.data.toList)) J.data.toList).length≤140737488355328 then some (⟨(Lib.join (Y.map (·.data.toList)) J.data.toList).toArray⟩,()) else none
def fF0 (d:DenA eE2):Option (DenR eF8):=g78 n d.1 d.2.1
def eM3:Spec:=aM eE2 eF8 (fF0 n)
theorem dP8:Fit Tryd.prog 78 (eM3 n):=VC (by unfold aO;kernel_rfl) rfl fun d x w A vs hG ha hx=>by
  obtain ⟨v,vs',o1,o2,rfl,_,⟨_,ad,cap,rfl,hle,hne⟩,v',vs2,o3,o4,rfl,_,⟨_,cs,h1,h2⟩,h3,_⟩:=ha
  obtain ⟨xs,sep,u⟩:=d
  subst h3
  have h1:cs=[Value.string sep]:=h1
  subst h1
  simp [K.isPair] at h2
  subst h2
  obtain ⟨hc,hx⟩:=bJ hx
  cases hx
  by_cases h0:xs=[]
  · subst h0
    exact (Tryd.strings_Join_none ad cap sep w).mono fun e w' ⟨he,hw⟩=>⟨[.string ⟨#[]⟩],he,⟨_,_,[],[],rfl,rfl,⟨rfl,_,rfl,rfl⟩,rfl,rfl⟩,hw ▸ Go.RowKit.Below.refl _ _⟩
  · obtain ⟨b,off,rfl,hb,hrow⟩:=hne h0
    exact (Tryd.strings_Join b off cap xs sep w (E7 hrow) (hrow.lt h0) hc.1 hle hc.2).mono fun e w' ⟨he,hb⟩=>⟨[_],he,⟨_,_,[],[],rfl,rfl,⟨rfl,_,rfl,rfl⟩,rfl,rfl⟩,hb⟩
def a7 (C:Z11) (B:List Z28) (L:List BA):FState:=⟨aG [(0,.ptr 0 0 0),(1,.sl 1 none false),(2,.sl 2 none false)],aD [(0,.row Z1 74 false [C]),(1,.row Z25 81 false B),(2,.row .str 9 false L)]⟩
def bU9 (z:List Z28):FState:=⟨aG [(6,.sl 6 none false)],aD [(6,.row Z25 81 true z)]⟩
def QR:List NE:=[.row 6 Z25 81 true]
def jA (L:List BA) (x7 af:List Z28) (P O:Int):FState:=⟨aG [(2,.sl 2 none false),(7,.sl 7 none false),(17,.sl 17 none false),(18,.dat (.int .i64) P),(19,.dat (.int .i64) O)],aD [(2,.row .str 9 false L),(7,.row Z25 81 true x7),(17,.row Z25 81 false af)]⟩
def nR:List NE:=[.row 2 .str 9 false,.row 7 Z25 81 true,.row 17 Z25 81 false,.keep 18,.keep 19]
def AM (x7:List Z28):FState:=⟨aG [(7,.sl 7 none false)],aD [(7,.row Z25 81 true x7)]⟩
def TF:List NE:=[.row 7 Z25 81 true]
def AI (L:List BA) (x7:List Z28) (p9:Z28) (ag:List BA) (af:List Z28) (P O:Int) (az:List Int) (ah ai:Int):FState:=⟨aG [(2,.sl 2 none false),(7,.sl 7 none false),(9,.ptr 9 0 0),(11,.sl 11 none false),(17,.sl 17 none false),(18,.dat (.int .i64) P),(19,.dat (.int .i64) O),(29,.sl 29 none false),(30,.dat (.int .i64) ah),(31,.dat (.int .i64) ai)],aD [(2,.row .str 9 false L),(7,.row Z25 81 true x7),(9,.row Z25 81 true [p9]),(11,.row .str 9 true ag),(17,.row Z25 81 false af),(29,.row (.int .i32) 21 true az)]⟩
def EM:List NE:=[.row 2 .str 9 false,.row 7 Z25 81 true,.ptr 9 Z25 81 true,.row 11 .str 9 true,.row 17 Z25 81 false,.keep 18,.keep 19,.row 29 (.int .i32) 21 true,.keep 30,.keep 31]
def GD (L:List BA) (x7:List Z28) (p9:Z28) (ag:List BA) (af:List Z28) (P O:Int):FState:=⟨aG [(2,.sl 2 none false),(7,.sl 7 none false),(9,.ptr 9 0 0),(11,.sl 11 none false),(17,.sl 17 none false),(18,.dat (.int .i64) P),(19,.dat (.int .i64) O)],aD [(2,.row .str 9 false L),(7,.row Z25 81 true x7),(9,.row Z25 81 true [p9]),(11,.row .str 9 true ag),(17,.row Z25 81 false af)]⟩
def vT:List NE:=[.row 2 .str 9 false,.row 7 Z25 81 true,.ptr 9 Z25 81 true,.row 11 .str 9 true,.row 17 Z25 81 false,.keep 18,.keep 19]
def eM9:List (Nat×Spec):=[(77,eL3 n),(78,eM3 n)]
def zE:Ctx:={Γ0 with calls:=lkS (eM9 n)}
def vR:Code:=fb Tryd.f61
def cS3 (n:Nat) (kn:List BA→List Z28→List Z28→Int→Int→Option β) (C:Z11) (B:List Z28) (L:List BA):Option β:=bnd 0 (0:Int) (B.length:Int)<|tQ (B.length:Int)<|kn L (List.replicate (0:Int).toNat Z18) B (B.length:Int) (0:Int)
def cV2:FS1 β:=FXs (zE n) n vR (some nR) none [] [2,6,28]
theorem cC5 (C:Z11) (B:List Z28) (L:List BA):cV2 n (a7 C B L) cx=cS3 n (fun L x7 af P O=>cx.nrm (jA L x7 af P O)) C B L:=by kernel_rfl
def u3 (n:Nat) (kn:List BA→List Z28→List Z28→Int→Int→Option β) (ae:List Z28→Option β) (L:List BA) (x7 af:List Z28) (P O:Int):Option β:=bif (decide (O < P)) then (kn L x7 af P O) else (ae x7)
def bT1:FS1 β:=FXs (zE n) n vR (some nR) none [(0,TF)] [232,466]
theorem dF3 (L:List BA) (x7 af:List Z28) (P O:Int):bT1 n (jA L x7 af P O) cx=u3 n (fun L x7 af P O=>cx.nrm (jA L x7 af P O)) (fun x7=>cx.ex 0 (AM x7)) L x7 af P O:=by kernel_rfl
def dC5 (n:Nat) (kn:List BA→List Z28→Z28→List BA→List Z28→Int→Int→List Int→Int→Int→Option β) (L:List BA) (x7 af:List Z28) (P O:Int):Option β:=idx O (af.length:Int)<|kD ((rd [(rd af O Z18)] (0:Int) Z18).2)<|bnd 0 ((bP ((rd [(rd af O Z18)] (0:Int) Z18).2)).length:Int) ((bP ((rd [(rd af O Z18)] (0:Int) Z18).2)).length:Int)<|tQ ((bP ((rd [(rd af O Z18)] (0:Int) Z18).2)).length:Int)<|kn L x7 (rd af O Z18) (List.replicate ((bP ((rd [(rd af O Z18)] (0:Int) Z18).2)).length:Int).toNat (⟨#[]⟩:BA)) af P O (bP ((rd [(rd af O Z18)] (0:Int) Z18).2)) ((bP ((rd [(rd af O Z18)] (0:Int) Z18).2)).length:Int) (0:Int)
def bT0:FS1 β:=FXs (zE n) n vR (some EM) none [] [3736,7474,14950,59804]
theorem bH1 (L:List BA) (x7 af:List Z28) (P O:Int):bT0 n (jA L x7 af P O) cx=dC5 n (fun L x7 p9 ag af P O az ah ai=>cx.nrm (AI L x7 p9 ag af P O az ah ai)) L x7 af P O:=by kernel_rfl
def aB1 (kn:List BA→List Z28→Z28→List BA→List Z28→Int→Int→List Int→Int→Int→Option β) (ap:List BA→List Z28→Z28→List BA→List Z28→Int→Int→Option β) (L:List BA) (x7:List Z28) (p9:Z28) (ag:List BA) (af:List Z28) (P O:Int) (az:List Int) (ah ai:Int):Option β:=bif (decide (ai < ah)) then (idx ai (az.length:Int)<|(g77 n (rd az ai (0:Int))).bind fun V=>idx V.1 (L.length:Int)<|idx ai (ag.length:Int)<|kn L x7 p9 (ag.set ai.toNat (rd L V.1 (⟨#[]⟩:BA))) af P O az ah (w64 (ai+1))) else (ap L x7 p9 ag af P O)
def U4:FS1 β:=FXs (zE n) n vR (some EM) none [(2,vT)] [478440,956882,1913766,1913767]
theorem cD2 (L:List BA) (x7:List Z28) (p9:Z28) (ag:List BA) (af:List Z28) (P O:Int) (az:List Int) (ah ai:Int):U4 n (AI L x7 p9 ag af P O az ah ai) cx=aB1 n (fun L x7 p9 ag af P O az ah ai=>cx.nrm (AI L x7 p9 ag af P O az ah ai)) (fun L x7 p9 ag af P O=>cx.ex 2 (GD L x7 p9 ag af P O)) L x7 p9 ag af P O az ah ai:=by kernel_rfl
def g61_5L (n:Nat) (ap:List BA→List Z28→Z28→List BA→List Z28→Int→Int→Option β):Nat→List BA→List Z28→Z28→List BA→List Z28→Int→Int→List Int→Int→Int→Option β
  | 0,_,_,_,_,_,_,_,_,_,_=>none
  | m+1,L,x7,p9,ag,af,P,O,az,ah,ai=>aB1 n (g61_5L n ap m) ap L x7 p9 ag af P O az ah ai
def bY5 (ap:List BA→List Z28→Z28→List BA→List Z28→Int→Int→Option β) (L:List BA) (x7:List Z28) (p9:Z28) (ag:List BA) (af:List Z28) (P O:Int) (az:List Int) (ah ai:Int):Option β:=g61_5L n ap n L x7 p9 ag af P O az ah ai
def bW2 (s:FState) (cx:Cx β):Option β:=bK (fun again s=>U4 n s {cx with nrm:=again}) n s
theorem aY5 (n:Nat) (cx:Cx β):∀(m:Nat) (L:List BA) (x7:List Z28) (p9:Z28) (ag:List BA) (af:List Z28) (P O:Int) (az:List Int) (ah ai:Int),bK (fun again s=>U4 n s {cx with nrm:=again}) m (AI L x7 p9 ag af P O az ah ai)=g61_5L n (fun L x7 p9 ag af P O=>cx.ex 2 (GD L x7 p9 ag af P O)) m L x7 p9 ag af P O az ah ai:=by
  intro m
  induction m with
  | zero=>intros;rfl
  | succ m ih=>intros;simp only [bK,g61_5L,cD2,ih]
theorem dE1 (L:List BA) (x7:List Z28) (p9:Z28) (ag:List BA) (af:List Z28) (P O:Int) (az:List Int) (ah ai:Int):bW2 n (AI L x7 p9 ag af P O az ah ai) cx=bY5 n (fun L x7 p9 ag af P O=>cx.ex 2 (GD L x7 p9 ag af P O)) L x7 p9 ag af P O az ah ai:=aY5 n cx n L x7 p9 ag af P O az ah ai
def bN3 (kn:List BA→List Z28→Z28→List BA→List Z28→Int→Int→Option β) (L:List BA) (x7:List Z28) (p9:Z28) (ag:List BA) (af:List Z28) (P O:Int) (az:List Int) (ah ai:Int):Option β:=bY5 n kn L x7 p9 ag af P O az ah ai
def cE4 (s:FState) (cx:Cx β):Option β:=bW2 n s {cx with ex:=fun j s=>bif Nat.beq j 2 then cx.nrm s else cx.ex j s}
theorem cS4 (L:List BA) (x7:List Z28) (p9:Z28) (ag:List BA) (af:List Z28) (P O:Int) (az:List Int) (ah ai:Int):cE4 n (AI L x7 p9 ag af P O az ah ai) cx=bN3 n (fun L x7 p9 ag af P O=>cx.nrm (GD L x7 p9 ag af P O)) L x7 p9 ag af P O az ah ai:=dE1 n _ L x7 p9 ag af P O az ah ai
def cF1 (kn:List BA→List Z28→List Z28→Int→Int→Option β) (L:List BA) (x7:List Z28) (p9:Z28) (ag:List BA) (af:List Z28) (P O:Int):Option β:=(g78 n ag (⟨#[]⟩:BA)).bind fun V=>cJ (x7.length+[(p9.1,V.1)].length)<|kn L (x7++[(p9.1,V.1)]) af P O
def cZ3:FS1 β:=FXs (zE n) n vR (some nR) none [] [59806,59807]
theorem cL7 (L:List BA) (x7:List Z28) (p9:Z28) (ag:List BA) (af:List Z28) (P O:Int):cZ3 n (GD L x7 p9 ag af P O) cx=cF1 n (fun L x7 af P O=>cx.nrm (jA L x7 af P O)) L x7 p9 ag af P O:=by kernel_rfl
def aE0 (kn:List BA→List Z28→List Z28→Int→Int→Option β) (L:List BA) (x7 af:List Z28) (P O:Int):Option β:=dC5 n (fun L x7 p9 ag af P O az ah ai=>bN3 n (fun L x7 p9 ag af P O=>cF1 n kn L x7 p9 ag af P O) L x7 p9 ag af P O az ah ai) L x7 af P O
def d4 (s:FState) (cx:Cx β):Option β:=bT0 n s {cx with nrm:=fun s=>cE4 n s {cx with nrm:=fun s=>cZ3 n s cx}}
theorem cS0 (L:List BA) (x7 af:List Z28) (P O:Int):d4 n (jA L x7 af P O) cx=aE0 n (fun L x7 af P O=>cx.nrm (jA L x7 af P O)) L x7 af P O:=by simp only [d4,aE0,bH1,cS4,cL7]
def bO7 (kn:List BA→List Z28→List Z28→Int→Int→Option β) (L:List BA) (x7 af:List Z28) (P O:Int):Option β:=aE0 n kn L x7 af P O
def dI9 (s:FState) (cx:Cx β):Option β:=d4 n s {cx with ex:=fun j s=>bif Nat.beq j 1 then cx.nrm s else cx.ex j s}
theorem bR3 (L:List BA) (x7 af:List Z28) (P O:Int):dI9 n (jA L x7 af P O) cx=bO7 n (fun L x7 af P O=>cx.nrm (jA L x7 af P O)) L x7 af P O:=cS0 n _ L x7 af P O
def U2 (n:Nat) (kn:List BA→List Z28→List Z28→Int→Int→Option β) (L:List BA) (x7 af:List Z28) (P O:Int):Option β:=kn L x7 af P (w64 (O+1))
def u0:FS1 β:=FXs (zE n) n vR (some nR) none [] [935]
theorem bB5 (L:List BA) (x7 af:List Z28) (P O:Int):u0 n (jA L x7 af P O) cx=U2 n (fun L x7 af P O=>cx.nrm (jA L x7 af P O)) L x7 af P O:=by kernel_rfl
def KV (kn:List BA→List Z28→List Z28→Int→Int→Option β) (ae:List Z28→Option β) (L:List BA) (x7 af:List Z28) (P O:Int):Option β:=u3 n (fun L x7 af P O=>bO7 n (fun L x7 af P O=>U2 n kn L x7 af P O) L x7 af P O) ae L x7 af P O
def DA (s:FState) (cx:Cx β):Option β:=bT1 n s {cx with nrm:=fun s=>dI9 n s {cx with nrm:=fun s=>u0 n s cx}}
theorem aS2 (L:List BA) (x7 af:List Z28) (P O:Int):DA n (jA L x7 af P O) cx=KV n (fun L x7 af P O=>cx.nrm (jA L x7 af P O)) (fun x7=>cx.ex 0 (AM x7)) L x7 af P O:=by simp only [DA,KV,dF3,bR3,bB5]
def g61_12L (n:Nat) (ae:List Z28→Option β):Nat→List BA→List Z28→List Z28→Int→Int→Option β
  | 0,_,_,_,_,_=>none
  | m+1,L,x7,af,P,O=>KV n (g61_12L n ae m) ae L x7 af P O
def V9 (ae:List Z28→Option β) (L:List BA) (x7 af:List Z28) (P O:Int):Option β:=g61_12L n ae n L x7 af P O
def aB2 (s:FState) (cx:Cx β):Option β:=bK (fun again s=>DA n s {cx with nrm:=again}) n s
theorem e9 (n:Nat) (cx:Cx β):∀(m:Nat) (L:List BA) (x7 af:List Z28) (P O:Int),bK (fun again s=>DA n s {cx with nrm:=again}) m (jA L x7 af P O)=g61_12L n (fun x7=>cx.ex 0 (AM x7)) m L x7 af P O:=by
  intro m
  induction m with
  | zero=>intros;rfl
  | succ m ih=>intros;simp only [bK,g61_12L,aS2,ih]
theorem aX1 (L:List BA) (x7 af:List Z28) (P O:Int):aB2 n (jA L x7 af P O) cx=V9 n (fun x7=>cx.ex 0 (AM x7)) L x7 af P O:=e9 n cx n L x7 af P O
def F2 (kn:List Z28→Option β) (L:List BA) (x7 af:List Z28) (P O:Int):Option β:=V9 n kn L x7 af P O
def aA1 (s:FState) (cx:Cx β):Option β:=aB2 n s {cx with ex:=fun j s=>bif Nat.beq j 0 then cx.nrm s else cx.ex j s}
theorem aR1 (L:List BA) (x7 af:List Z28) (P O:Int):aA1 n (jA L x7 af P O) cx=F2 n (fun x7=>cx.nrm (AM x7)) L x7 af P O:=aX1 n _ L x7 af P O
def h9 (n:Nat) (kr:List Z28→Option β) (x7:List Z28):Option β:=kr x7
def aN9:FS1 β:=FXs (zE n) n vR none (some QR) [] [30,31]
theorem bB4 (x7:List Z28):aN9 n (AM x7) cx=h9 n (fun z=>cx.ret (bU9 z)) x7:=by kernel_rfl
def QC (kr:List Z28→Option β) (C:Z11) (B:List Z28) (L:List BA):Option β:=cS3 n (fun L x7 af P O=>F2 n (fun x7=>h9 n kr x7) L x7 af P O) C B L
def DR (s:FState) (cx:Cx β):Option β:=cV2 n s {cx with nrm:=fun s=>aA1 n s {cx with nrm:=fun s=>aN9 n s cx}}
theorem aY9 (C:Z11) (B:List Z28) (L:List BA):DR n (a7 C B L) cx=QC n (fun z=>cx.ret (bU9 z)) C B L:=by simp only [DR,QC,cC5,aR1,bB4]
def g61 (C:Z11) (B:List Z28) (L:List BA):Option (DenR [.rw Z25 81]):=QC n (fun z=>some (z,())) C B L
def eD4:List AK:=[.pro Z1 74,.ro Z25 81,.ro .str 9]
def dB2:List RK:=[.rw Z25 81]
def fD1 (d:DenA eD4):Option (DenR dB2):=g61 n d.1 d.2.1 d.2.2.1
def eP6:Spec:=aM eD4 dB2 (fD1 n)
def eR2:Sk:=(.nd (.fin none none none [] .leaf) (.nd (.fin none none none [] .leaf) (.nd (.nd (.fin none (some nR) none [] .leaf) (.nd (.nd (.nd (.fin none none none [(0,TF)] .leaf) (.nd (.fin none (some nR) none [(0,TF)] .leaf) (.nd (.nd (.nd (.fin none none none [] .leaf) (.nd (.fin none none none [] .leaf) (.nd (.fin none none none [] .leaf) (.nd (.nd (.fin none (some EM) none [] .leaf) (.nd (.nd (.nd (.fin none none none [(2,vT)] .leaf) (.nd (.fin none none none [(2,vT)] .leaf) (.nd (.fin none none none [(2,vT)] .leaf) (.fin none (some EM) none [(2,vT)] .leaf)))) .leaf) .leaf)) (.nd (.fin none none none [] .leaf) (.fin none (some nR) none [] .leaf)))))) .leaf) (.fin none (some nR) none [] .leaf)))) .leaf) .leaf)) (.nd (.fin none none (some QR) [] .leaf) (.fin none none (some QR) [] .leaf)))))
theorem dO9 (s:FState) (cx:Cx β):FX (zE n) n vR eR2 s cx=DR n s cx:=by kernel_rfl
theorem dP5:Fit Tryd.prog 61 (eP6 n):=
  cD (Γ:=Γ0) (l:=eM9 n) (n:=n) (sk:=eR2) (ts:=[(6,none)]) (fn:=Tryd.f61) (c:=vR) (by kernel_rfl) (by kernel_rfl) (by unfold aO;kernel_rfl) cB ⟨dV7 n,dP8 n,trivial⟩ aH (by kernel_rfl) (by kernel_rfl) (Nat.le_of_ble_eq_true (by kernel_rfl)) (Nat.le_of_ble_eq_true (by kernel_rfl)) (by kernel_rfl) (by kernel_rfl)
    (fun d=>(dO9 n _ _).trans (Eq.trans (b:=DR n (a7 d.1 d.2.1 d.2.2.1) (cG (zE n) dB2 [(6,none)])) (by kernel_rfl) ((aY9 n _ d.1 d.2.1 d.2.2.1).trans (by kernel_rfl))))
def N6 (Y:BA):FState:=⟨aG [(0,.dat .str Y)],aD []⟩
def uR (R:Int):FState:=⟨aG [(2,.dat (.int .i64) R)],aD []⟩
def qA:List NE:=[.keep 2]
def BE (R:Int) (s4:BA) (i4:Nat):FState:=⟨aG [(2,.dat (.int .i64) R),(4,.it 4)],aD [(4,.siter s4 i4)]⟩
def CZ:List NE:=[.keep 2,.it 4]
def eI2 (n:Nat):List (Nat×Spec):=[]
def WU:Ctx:={Γ0 with calls:=lkS (eI2 n)}
def VO:Code:=fb Tryd.f62
def cD6 (n:Nat) (kn:Int→BA→Nat→Option β) (Y:BA):Option β:=kn (0:Int) Y 0
def dL1:FS1 β:=FXs (WU n) n VO (some CZ) none [] [2,12]
theorem cG8 (Y:BA):dL1 n (N6 Y) cx=cD6 n (fun R s4 i4=>cx.nrm (BE R s4 i4)) Y:=by kernel_rfl
def aF4 (n:Nat) (kn:Int→BA→Nat→Option β) (ae:Int→Option β) (R:Int) (s4:BA) (i4:Nat):Option β:=bif Nat.blt i4 s4.size then (kn (w64 (R+1)) s4 (i4+(Utf8.decode s4 i4).2)) else (ae R)
def F3:FS1 β:=FXs (WU n) n VO (some CZ) none [(0,qA)] [104,210,211]
theorem cF2 (R:Int) (s4:BA) (i4:Nat):F3 n (BE R s4 i4) cx=aF4 n (fun R s4 i4=>cx.nrm (BE R s4 i4)) (fun R=>cx.ex 0 (uR R)) R s4 i4:=by kernel_rfl
def g62_3L (n:Nat) (ae:Int→Option β):Nat→Int→BA→Nat→Option β
  | 0,_,_,_=>none
  | m+1,R,s4,i4=>aF4 n (g62_3L n ae m) ae R s4 i4
def dJ4 (ae:Int→Option β) (R:Int) (s4:BA) (i4:Nat):Option β:=g62_3L n ae n R s4 i4
def cA9 (s:FState) (cx:Cx β):Option β:=bK (fun again s=>F3 n s {cx with nrm:=again}) n s
theorem aU6 (n:Nat) (cx:Cx β):∀(m:Nat) (R:Int) (s4:BA) (i4:Nat),bK (fun again s=>F3 n s {cx with nrm:=again}) m (BE R s4 i4)=g62_3L n (fun R=>cx.ex 0 (uR R)) m R s4 i4:=by
  intro m
  induction m with
  | zero=>intros;rfl
  | succ m ih=>intros;simp only [bK,g62_3L,cF2,ih]
theorem cW9 (R:Int) (s4:BA) (i4:Nat):cA9 n (BE R s4 i4) cx=dJ4 n (fun R=>cx.ex 0 (uR R)) R s4 i4:=aU6 n cx n R s4 i4
def bG8 (kn:Int→Option β) (R:Int) (s4:BA) (i4:Nat):Option β:=dJ4 n kn R s4 i4
def dL0 (s:FState) (cx:Cx β):Option β:=cA9 n s {cx with ex:=fun j s=>bif Nat.beq j 0 then cx.nrm s else cx.ex j s}
theorem bO6 (R:Int) (s4:BA) (i4:Nat):dL0 n (BE R s4 i4) cx=bG8 n (fun R=>cx.nrm (uR R)) R s4 i4:=cW9 n _ R s4 i4
def dG5 (n:Nat) (kr:Int→Option β) (R:Int):Option β:=kr R
def cM9:FS1 β:=FXs (WU n) n VO none (some qA) [] [14,15]
theorem cG9 (R:Int):cM9 n (uR R) cx=dG5 n (fun R=>cx.ret (uR R)) R:=by kernel_rfl
def aJ8 (kr:Int→Option β) (Y:BA):Option β:=cD6 n (fun R s4 i4=>bG8 n (fun R=>dG5 n kr R) R s4 i4) Y
def TY (s:FState) (cx:Cx β):Option β:=dL1 n s {cx with nrm:=fun s=>dL0 n s {cx with nrm:=fun s=>cM9 n s cx}}
theorem cX2 (Y:BA):TY n (N6 Y) cx=aJ8 n (fun R=>cx.ret (uR R)) Y:=by simp only [TY,aJ8,cG8,bO6,cG9]
def g62 (Y:BA):Option (DenR [.dat (.int .i64)]):=aJ8 n (fun R=>some (R,())) Y
def eH8:List AK:=[.dat .str]
def dJ5:List RK:=[.dat (.int .i64)]
def fE8 (d:DenA eH8):Option (DenR dJ5):=g62 n d.1
def eC3:Spec:=aM eH8 dJ5 (fE8 n)
def eC5:Sk:=(.nd (.fin none none none [] .leaf) (.nd (.nd (.fin none (some CZ) none [] .leaf) (.nd (.nd (.nd (.fin none none none [(0,qA)] .leaf) (.nd (.fin none none none [(0,qA)] .leaf) (.fin none (some CZ) none [(0,qA)] .leaf))) .leaf) .leaf)) (.nd (.fin none none (some qA) [] .leaf) (.fin none none (some qA) [] .leaf))))
theorem dY6 (s:FState) (cx:Cx β):FX (WU n) n VO eC5 s cx=TY n s cx:=by kernel_rfl
theorem dQ8:Fit Tryd.prog 62 (eC3 n):=
  cD (Γ:=Γ0) (l:=eI2 n) (n:=n) (sk:=eC5) (ts:=[(2,none)]) (fn:=Tryd.f62) (c:=VO) (by kernel_rfl) (by kernel_rfl) (by unfold aO;kernel_rfl) cB trivial aH (by kernel_rfl) (by kernel_rfl) (Nat.le_of_ble_eq_true (by kernel_rfl)) (Nat.le_of_ble_eq_true (by kernel_rfl)) (by kernel_rfl) (by kernel_rfl)
    (fun d=>(dY6 n _ _).trans (Eq.trans (b:=TY n (N6 d.1) (cG (WU n) dJ5 [(2,none)])) (by kernel_rfl) ((cX2 n _ d.1).trans (by kernel_rfl))))
theorem eV5 (a b:Nat) (w:World):(callFunc 89 #[.float .f64 a,.float .f64 b]).run Tryd.prog w= .ok (.value (.float .f64 (TE a b))) w:=by
  rw [run_callFunc_extern (fn:=Tryd.f89) (e:=Extern.MathDim.pick "math.archMax" false .gt) (by rfl) (by rfl) (by rfl) (by kernel_rfl) (by kernel_rfl)]
  rfl
attribute [local go_sem] eV5
theorem aU5 (a0 a1:Nat) (w:World):Calls Tryd.prog 72 #[.float .f64 a0,.float .f64 a1] w fun e w'=>e= .returned (.float .f64 (TE a0 a1))∧w'=w:=by
  go_enter Tryd.func72,Tryd.ntmps72
  go_wp2
  go_ret
  exact ⟨rfl,rfl⟩
def eS2:List AK:=[.dat (.flt .f64),.dat (.flt .f64)]
def eG2:List RK:=[.dat (.flt .f64)]
def g72 (n Y J:Nat):Option (DenR [.dat (.flt .f64)]):=some (TE Y J,())
def fB2 (d:DenA eS2):Option (DenR eG2):=g72 n d.1 d.2.1
def eC6:Spec:=aM eS2 eG2 (fB2 n)
theorem dW2:Fit Tryd.prog 72 (eC6 n):=vV (by unfold aO;kernel_rfl) rfl fun d x w vs hG ha hx=>by
  obtain ⟨v,vs1,o1,o2,rfl,_,⟨_,cs,h1,h2⟩,v',vs2,o3,o4,rfl,_,⟨_,cs',h3,h4⟩,h5,_⟩:=ha
  obtain ⟨a,b,u⟩:=d
  subst h5
  have h1:cs=[Value.float .f64 a]:=h1
  have h3:cs'=[Value.float .f64 b]:=h3
  subst h1
  subst h3
  simp [K.isPair] at h2 h4
  subst h2
  subst h4
  cases hx
  exact (aU5 a b w).mono fun e w' ⟨he,hw⟩=>⟨[.float .f64 (TE a b)],he,⟨_,_,[],[],rfl,rfl,⟨rfl,_,rfl,rfl⟩,rfl,rfl⟩,by rw [hw];exact ⟨rfl,rfl,rfl,Nat.le_refl _,fun _ _=>rfl⟩⟩
def bH2 (C:Z11) (J R:BA):FState:=⟨aG [(0,.ptr 0 0 0),(1,.dat .str J),(2,.dat .str R)],aD [(0,.row Z1 74 false [C])]⟩
def eV4 (T:Int):FState:=⟨aG [(6,.dat (.int .i64) T)],aD []⟩
def DG:List NE:=[.keep 6]
def eD1:List (Nat×Spec):=[(81,aC3 n)]
def bI3:Ctx:={Γ0 with calls:=lkS (eD1 n)}
def bH8:Code:=fb Tryd.f68
def cV4 (kr:Int→Option β) (C:Z11) (J R:BA):Option β:=kD J<|kD R<|(g81 n (bP J) (bP R)).bind fun V=>kr V.1
def g9:FS1 β:=FXs (bI3 n) n bH8 none (some DG) [] [2,6,7]
theorem bJ5 (C:Z11) (J R:BA):g9 n (bH2 C J R) cx=cV4 n (fun T=>cx.ret (eV4 T)) C J R:=by kernel_rfl
def g68 (C:Z11) (J R:BA):Option (DenR [.dat (.int .i64)]):=cV4 n (fun T=>some (T,())) C J R
def eA8:List AK:=[.pro Z1 74,.dat .str,.dat .str]
def bW7:List RK:=[.dat (.int .i64)]
def eZ6 (d:DenA eA8):Option (DenR bW7):=g68 n d.1 d.2.1 d.2.2.1
def eJ0:Spec:=aM eA8 bW7 (eZ6 n)
def eP9:Sk:=(.nd (.fin none none (some DG) [] .leaf) (.nd (.fin none none (some DG) [] .leaf) (.fin none none (some DG) [] .leaf)))
theorem dS5 (s:FState) (cx:Cx β):FX (bI3 n) n bH8 eP9 s cx=g9 n s cx:=by kernel_rfl
theorem dV8:Fit Tryd.prog 68 (eJ0 n):=
  cD (Γ:=Γ0) (l:=eD1 n) (n:=n) (sk:=eP9) (ts:=[(6,none)]) (fn:=Tryd.f68) (c:=bH8) (by kernel_rfl) (by kernel_rfl) (by unfold aO;kernel_rfl) cB ⟨QM n,trivial⟩ aH (by kernel_rfl) (by kernel_rfl) (Nat.le_of_ble_eq_true (by kernel_rfl)) (Nat.le_of_ble_eq_true (by kernel_rfl)) (by kernel_rfl) (by kernel_rfl)
    (fun d=>(dS5 n _ _).trans (Eq.trans (b:=g9 n (bH2 d.1 d.2.1 d.2.2.1) (cG (bI3 n) bW7 [(6,none)])) (by kernel_rfl) ((bJ5 n _ d.1 d.2.1 d.2.2.1).trans (by kernel_rfl))))
def eR7:List AK:=[.dat .str]
def eP3:List RK:=[.dat (.int .i32),.dat (.int .i64)]
def g83 (n:Nat) (Y:BA):Option (DenR [.dat (.int .i32),.dat (.int .i64)]):=if Y.size≤9223372036854775807 then some (((Lib.decodeLastL Y.data.toList).1:Int),(((Lib.decodeLastL Y.data.toList).2:Int),())) else none
def fF4 (d:DenA eR7):Option (DenR eP3):=g83 n d.1
def eO3:Spec:=aM eR7 eP3 (fF4 n)
theorem dN3:Fit Tryd.prog 83 (eO3 n):=vV (by unfold aO;kernel_rfl) rfl fun d x w vs hG ha hx=>by
  obtain ⟨v,vs',o1,o2,rfl,_,⟨_,cs,h1,h2⟩,h3,_⟩:=ha
  obtain ⟨s,u⟩:=d
  subst h3
  have h1:cs=[Value.string s]:=h1
  subst h1
  simp [K.isPair] at h2
  subst h2
  obtain ⟨hs,hx⟩:=bJ hx
  cases hx
  exact (Tryd.utf8_DecodeLastRuneInString s w hs (TO hG)).mono fun e w' ⟨he,hb⟩=>⟨[.int .i32 (Lib.decodeLastL s.data.toList).1,.int .i64 (Lib.decodeLastL s.data.toList).2],he,⟨_,_,[],[],rfl,rfl,⟨rfl,_,rfl,rfl⟩,⟨_,_,[],[],rfl,rfl,⟨rfl,_,rfl,rfl⟩,rfl,rfl⟩⟩,hb⟩
def eQ1:List AK:=[.dat .str]
def eL4:List RK:=[.dat (.int .i32),.dat (.int .i64)]
def g70 (n:Nat) (Y:BA):Option (DenR [.dat (.int .i32),.dat (.int .i64)]):=some (((Lib.decodeGo Y).1:Int),(((Lib.decodeGo Y).2:Int),()))
def fC6 (d:DenA eQ1):Option (DenR eL4):=g70 n d.1
def bM9:Spec:=aM eQ1 eL4 (fC6 n)
theorem aK4:Fit Tryd.prog 70 (bM9 n):=vV (by unfold aO;kernel_rfl) rfl fun d x w vs hG ha hx=>by
  obtain ⟨v,vs',o1,o2,rfl,_,⟨_,cs,h1,h2⟩,h3,_⟩:=ha
  obtain ⟨s,u⟩:=d
  subst h3
  have h1:cs=[Value.string s]:=h1
  subst h1
  simp [K.isPair] at h2
  subst h2
  cases hx
  exact (Tryd.utf8_DecodeRuneInString s w (TO hG)).mono fun e w' ⟨he,hb⟩=>⟨[.int .i32 (Lib.decodeGo s).1,.int .i64 (Lib.decodeGo s).2],he,⟨_,_,[],[],rfl,rfl,⟨rfl,_,rfl,rfl⟩,⟨_,_,[],[],rfl,rfl,⟨rfl,_,rfl,rfl⟩,rfl,rfl⟩⟩,hb⟩
def cY7 (Y:Int):FState:=⟨aG [(0,.dat (.int .i32) Y)],aD []⟩
def eV7 (R:Bool):FState:=⟨aG [(2,.dat .bool R)],aD []⟩
def FP:List NE:=[.keep 2]
def eM6 (n:Nat):List (Nat×Spec):=[]
def dI0:Ctx:={Γ0 with calls:=lkS (eM6 n)}
def dB4:Code:=fb Tryd.f84
def bS2 (n:Nat) (kr:Bool→Option β) (Y:Int):Option β:=bif (decide ((97:Int)≤Y)) then (bif (decide (Y≤(122:Int))) then (kr false) else (bif (decide ((65:Int)≤Y)) then (bif (decide (Y≤(90:Int))) then (kr false) else (bif (decide ((48:Int)≤Y)) then (kr (!(decide (Y≤(57:Int))))) else (kr true))) else (bif (decide ((48:Int)≤Y)) then (kr (!(decide (Y≤(57:Int))))) else (kr true)))) else (bif (decide ((65:Int)≤Y)) then (bif (decide (Y≤(90:Int))) then (kr false) else (bif (decide ((48:Int)≤Y)) then (kr (!(decide (Y≤(57:Int))))) else (kr true))) else (bif (decide ((48:Int)≤Y)) then (kr (!(decide (Y≤(57:Int))))) else (kr true)))
def H6:FS1 β:=FXs (dI0 n) n dB4 none (some FP) [] [2,6,7]
theorem bP3 (Y:Int):H6 n (cY7 Y) cx=bS2 n (fun R=>cx.ret (eV7 R)) Y:=by kernel_rfl
def g84 (Y:Int):Option (DenR [.dat .bool]):=bS2 n (fun R=>some (R,())) Y
def eI6:List AK:=[.dat (.int .i32)]
def bJ6:List RK:=[.dat .bool]
def fA1 (d:DenA eI6):Option (DenR bJ6):=g84 n d.1
def eJ9:Spec:=aM eI6 bJ6 (fA1 n)
def eQ5:Sk:=(.nd (.fin none none (some FP) [] .leaf) (.nd (.fin none none (some FP) [] .leaf) (.fin none none (some FP) [] .leaf)))
theorem dX6 (s:FState) (cx:Cx β):FX (dI0 n) n dB4 eQ5 s cx=H6 n s cx:=by kernel_rfl
theorem dN4:Fit Tryd.prog 84 (eJ9 n):=
  cD (Γ:=Γ0) (l:=eM6 n) (n:=n) (sk:=eQ5) (ts:=[(2,none)]) (fn:=Tryd.f84) (c:=dB4) (by kernel_rfl) (by kernel_rfl) (by unfold aO;kernel_rfl) cB trivial aH (by kernel_rfl) (by kernel_rfl) (Nat.le_of_ble_eq_true (by kernel_rfl)) (Nat.le_of_ble_eq_true (by kernel_rfl)) (by kernel_rfl) (by kernel_rfl)
    (fun d=>(dX6 n _ _).trans (Eq.trans (b:=H6 n (cY7 d.1) (cG (dI0 n) bJ6 [(2,none)])) (by kernel_rfl) ((bP3 n _ d.1).trans (by kernel_rfl))))
def cN8 (Y:Int):FState:=⟨aG [(0,.dat (.int .i32) Y)],aD []⟩
def eU5 (R:Bool):FState:=⟨aG [(2,.dat .bool R)],aD []⟩
def EB:List NE:=[.keep 2]
def eH1 (n:Nat):List (Nat×Spec):=[]
def dM3:Ctx:={Γ0 with calls:=lkS (eH1 n)}
def cU2:Code:=fb Tryd.f85
def cO8 (n:Nat) (kr:Bool→Option β) (Y:Int):Option β:=bif (Y==(9:Int)) then (kr true) else (bif (Y==(10:Int)) then (kr true) else (bif (Y==(12:Int)) then (kr true) else (bif (Y==(13:Int)) then (kr true) else (kr (Y==(32:Int))))))
def Y0:FS1 β:=FXs (dM3 n) n cU2 none (some EB) [] [2,6,7]
theorem cM0 (Y:Int):Y0 n (cN8 Y) cx=cO8 n (fun R=>cx.ret (eU5 R)) Y:=by kernel_rfl
def g85 (Y:Int):Option (DenR [.dat .bool]):=cO8 n (fun R=>some (R,())) Y
def eR0:List AK:=[.dat (.int .i32)]
def dL3:List RK:=[.dat .bool]
def fE2 (d:DenA eR0):Option (DenR dL3):=g85 n d.1
def eH6:Spec:=aM eR0 dL3 (fE2 n)
def eA2:Sk:=(.nd (.fin none none (some EB) [] .leaf) (.nd (.fin none none (some EB) [] .leaf) (.fin none none (some EB) [] .leaf)))
theorem dR6 (s:FState) (cx:Cx β):FX (dM3 n) n cU2 eA2 s cx=Y0 n s cx:=by kernel_rfl
theorem dY2:Fit Tryd.prog 85 (eH6 n):=
  cD (Γ:=Γ0) (l:=eH1 n) (n:=n) (sk:=eA2) (ts:=[(2,none)]) (fn:=Tryd.f85) (c:=cU2) (by kernel_rfl) (by kernel_rfl) (by unfold aO;kernel_rfl) cB trivial aH (by kernel_rfl) (by kernel_rfl) (Nat.le_of_ble_eq_true (by kernel_rfl)) (Nat.le_of_ble_eq_true (by kernel_rfl)) (by kernel_rfl) (by kernel_rfl)
    (fun d=>(dR6 n _ _).trans (Eq.trans (b:=Y0 n (cN8 d.1) (cG (dM3 n) dL3 [(2,none)])) (by kernel_rfl) ((cM0 n _ d.1).trans (by kernel_rfl))))
def bU1 (Y:Int):FState:=⟨aG [(0,.dat (.int .i32) Y)],aD []⟩
def eZ3 (R:Bool):FState:=⟨aG [(2,.dat .bool R)],aD []⟩
def CR:List NE:=[.keep 2]
def eO0 (n:Nat):List (Nat×Spec):=[]
def cD9:Ctx:={Γ0 with calls:=lkS (eO0 n)}
def bO9:Code:=fb Tryd.f86
def dJ7 (n:Nat) (kr:Bool→Option β) (Y:Int):Option β:=bif (Y==(13:Int)) then (kr true) else (kr (Y==(10:Int)))
def l5:FS1 β:=FXs (cD9 n) n bO9 none (some CR) [] [2,6,7]
theorem bH3 (Y:Int):l5 n (bU1 Y) cx=dJ7 n (fun R=>cx.ret (eZ3 R)) Y:=by kernel_rfl
def g86 (Y:Int):Option (DenR [.dat .bool]):=dJ7 n (fun R=>some (R,())) Y
def eP0:List AK:=[.dat (.int .i32)]
def cC0:List RK:=[.dat .bool]
def fH5 (d:DenA eP0):Option (DenR cC0):=g86 n d.1
def eB3:Spec:=aM eP0 cC0 (fH5 n)
def eP8:Sk:=(.nd (.fin none none (some CR) [] .leaf) (.nd (.fin none none (some CR) [] .leaf) (.fin none none (some CR) [] .leaf)))
theorem dP1 (s:FState) (cx:Cx β):FX (cD9 n) n bO9 eP8 s cx=l5 n s cx:=by kernel_rfl
theorem dU1:Fit Tryd.prog 86 (eB3 n):=
  cD (Γ:=Γ0) (l:=eO0 n) (n:=n) (sk:=eP8) (ts:=[(2,none)]) (fn:=Tryd.f86) (c:=bO9) (by kernel_rfl) (by kernel_rfl) (by unfold aO;kernel_rfl) cB trivial aH (by kernel_rfl) (by kernel_rfl) (Nat.le_of_ble_eq_true (by kernel_rfl)) (Nat.le_of_ble_eq_true (by kernel_rfl)) (by kernel_rfl) (by kernel_rfl)
    (fun d=>(dP1 n _ _).trans (Eq.trans (b:=l5 n (bU1 d.1) (cG (cD9 n) cC0 [(2,none)])) (by kernel_rfl) ((bH3 n _ d.1).trans (by kernel_rfl))))
def cZ0 (Y:BA):FState:=⟨aG [(0,.dat .str Y)],aD []⟩
def eX4 (R:Bool):FState:=⟨aG [(2,.dat .bool R)],aD []⟩
def DI:List NE:=[.keep 2]
def eB4:List (Nat×Spec):=[(91,cS8 n)]
def bT8:Ctx:={Γ0 with calls:=lkS (eB4 n)}
def cB8:Code:=fb Tryd.f87
def dB8 (kr:Bool→Option β) (Y:BA):Option β:=(g91 n Y (⟨#[10,10]⟩:BA)).bind fun V=>bif V.1 then (kr true) else ((g91 n Y (⟨#[10,13,10]⟩:BA)).bind fun r2=>kr r2.1)
def T7:FS1 β:=FXs (bT8 n) n cB8 none (some DI) [] [2,6,7]
theorem bU5 (Y:BA):T7 n (cZ0 Y) cx=dB8 n (fun R=>cx.ret (eX4 R)) Y:=by kernel_rfl
def g87 (Y:BA):Option (DenR [.dat .bool]):=dB8 n (fun R=>some (R,())) Y
def eB0:List AK:=[.dat .str]
def bZ5:List RK:=[.dat .bool]
def fB6 (d:DenA eB0):Option (DenR bZ5):=g87 n d.1
def eH4:Spec:=aM eB0 bZ5 (fB6 n)
def eF7:Sk:=(.nd (.fin none none (some DI) [] .leaf) (.nd (.fin none none (some DI) [] .leaf) (.fin none none (some DI) [] .leaf)))
theorem dR3 (s:FState) (cx:Cx β):FX (bT8 n) n cB8 eF7 s cx=T7 n s cx:=by kernel_rfl
theorem dX3:Fit Tryd.prog 87 (eH4 n):=
  cD (Γ:=Γ0) (l:=eB4 n) (n:=n) (sk:=eF7) (ts:=[(2,none)]) (fn:=Tryd.f87) (c:=cB8) (by kernel_rfl) (by kernel_rfl) (by unfold aO;kernel_rfl) cB ⟨aF8 n,trivial⟩ aH (by kernel_rfl) (by kernel_rfl) (Nat.le_of_ble_eq_true (by kernel_rfl)) (Nat.le_of_ble_eq_true (by kernel_rfl)) (by kernel_rfl) (by kernel_rfl)
    (fun d=>(dR3 n _ _).trans (Eq.trans (b:=T7 n (cZ0 d.1) (cG (bT8 n) bZ5 [(2,none)])) (by kernel_rfl) ((bU5 n _ d.1).trans (by kernel_rfl))))
def V6 (Y J:BA):FState:=⟨aG [(0,.dat .str Y),(1,.dat .str J)],aD []⟩
def K3 (v4:Int):FState:=⟨aG [(4,.dat (.int .i64) v4)],aD []⟩
def iB:List NE:=[.keep 4]
def cH8 (Y J:BA) (D F:Int) (E H G:Bool):FState:=⟨aG [(0,.dat .str Y),(1,.dat .str J),(5,.dat (.int .i32) D),(7,.dat (.int .i32) F),(9,.dat .bool E),(10,.dat .bool H),(11,.dat .bool G)],aD []⟩
def aG7:List NE:=[.keep 0,.keep 1,.keep 5,.keep 7,.keep 9,.keep 10,.keep 11]
def bP5 (Y J:BA) (D F:Int) (E H G N:Bool):FState:=⟨aG [(0,.dat .str Y),(1,.dat .str J),(5,.dat (.int .i32) D),(7,.dat (.int .i32) F),(9,.dat .bool E),(10,.dat .bool H),(11,.dat .bool G),(12,.dat .bool N)],aD []⟩
def aH4:List NE:=[.keep 0,.keep 1,.keep 5,.keep 7,.keep 9,.keep 10,.keep 11,.keep 12]
def bZ9 (Y J:BA) (F:Int) (E H G N Z:Bool):FState:=⟨aG [(0,.dat .str Y),(1,.dat .str J),(7,.dat (.int .i32) F),(9,.dat .bool E),(10,.dat .bool H),(11,.dat .bool G),(12,.dat .bool N),(13,.dat .bool Z)],aD []⟩
def aO9:List NE:=[.keep 0,.keep 1,.keep 7,.keep 9,.keep 10,.keep 11,.keep 12,.keep 13]
def dM2 (Y J:BA) (E H G N Z ac:Bool):FState:=⟨aG [(0,.dat .str Y),(1,.dat .str J),(9,.dat .bool E),(10,.dat .bool H),(11,.dat .bool G),(12,.dat .bool N),(13,.dat .bool Z),(14,.dat .bool ac)],aD []⟩
def aO0:List NE:=[.keep 0,.keep 1,.keep 9,.keep 10,.keep 11,.keep 12,.keep 13,.keep 14]
def bX2 (J:BA) (E H G N Z ac U:Bool):FState:=⟨aG [(1,.dat .str J),(9,.dat .bool E),(10,.dat .bool H),(11,.dat .bool G),(12,.dat .bool N),(13,.dat .bool Z),(14,.dat .bool ac),(15,.dat .bool U)],aD []⟩
def aF0:List NE:=[.keep 1,.keep 9,.keep 10,.keep 11,.keep 12,.keep 13,.keep 14,.keep 15]
def bG7 (E H G N Z ac U h:Bool):FState:=⟨aG [(9,.dat .bool E),(10,.dat .bool H),(11,.dat .bool G),(12,.dat .bool N),(13,.dat .bool Z),(14,.dat .bool ac),(15,.dat .bool U),(16,.dat .bool h)],aD []⟩
def aL8:List NE:=[.keep 9,.keep 10,.keep 11,.keep 12,.keep 13,.keep 14,.keep 15,.keep 16]
def eQ8:List (Nat×Spec):=[(70,bM9 n),(83,eO3 n),(84,eJ9 n),(85,eH6 n),(86,eB3 n),(87,eH4 n)]
def yR:Ctx:={Γ0 with calls:=lkS (eQ8 n)}
def vQ:Code:=fb Tryd.f69
def dH6 (kn:BA→BA→Int→Int→Bool→Bool→Bool→Option β) (kr:Int→Option β) (Y J:BA):Option β:=bif ((Y.size:Int)==(0:Int)) then (kr (6:Int)) else (bif ((J.size:Int)==(0:Int)) then (kr (6:Int)) else ((g83 n Y).bind fun V=>(g70 n J).bind fun r2=>(g84 n V.1).bind fun r3=>(g84 n r2.1).bind fun r4=>bif r3.1 then ((g85 n V.1).bind fun r5=>kn Y J V.1 r2.1 r3.1 r4.1 r5.1) else (kn Y J V.1 r2.1 r3.1 r4.1 false)))
def bI1:FS1 β:=FXs (yR n) n vQ (some aG7) (some iB) [] [2,12,13,14,30,62,126,254]
theorem bQ5 (Y J:BA):bI1 n (V6 Y J) cx=dH6 n (fun Y J D F E H G=>cx.nrm (cH8 Y J D F E H G)) (fun v4=>cx.ret (K3 v4)) Y J:=by kernel_rfl
def cC8 (kn:BA→BA→Int→Int→Bool→Bool→Bool→Bool→Option β) (Y J:BA) (D F:Int) (E H G:Bool):Option β:=bif H then ((g85 n F).bind fun V=>kn Y J D F E H G V.1) else (kn Y J D F E H G false)
def cA4:FS1 β:=FXs (yR n) n vQ (some aH4) none [] [510]
theorem dD2 (Y J:BA) (D F:Int) (E H G:Bool):cA4 n (cH8 Y J D F E H G) cx=cC8 n (fun Y J D F E H G N=>cx.nrm (bP5 Y J D F E H G N)) Y J D F E H G:=by kernel_rfl
def bP1 (kn:BA→BA→Int→Bool→Bool→Bool→Bool→Bool→Option β) (Y J:BA) (D F:Int) (E H G N:Bool):Option β:=bif G then ((g86 n D).bind fun V=>kn Y J F E H G N V.1) else (kn Y J F E H G N false)
def bT9:FS1 β:=FXs (yR n) n vQ (some aO9) none [] [1022]
theorem bS9 (Y J:BA) (D F:Int) (E H G N:Bool):bT9 n (bP5 Y J D F E H G N) cx=bP1 n (fun Y J F E H G N Z=>cx.nrm (bZ9 Y J F E H G N Z)) Y J D F E H G N:=by kernel_rfl
def dN1 (kn:BA→BA→Bool→Bool→Bool→Bool→Bool→Bool→Option β) (Y J:BA) (F:Int) (E H G N Z:Bool):Option β:=bif N then ((g86 n F).bind fun V=>kn Y J E H G N Z V.1) else (kn Y J E H G N Z false)
def dA3:FS1 β:=FXs (yR n) n vQ (some aO0) none [] [2046]
theorem dH0 (Y J:BA) (F:Int) (E H G N Z:Bool):dA3 n (bZ9 Y J F E H G N Z) cx=dN1 n (fun Y J E H G N Z ac=>cx.nrm (dM2 Y J E H G N Z ac)) Y J F E H G N Z:=by kernel_rfl
def cS7 (kn:BA→Bool→Bool→Bool→Bool→Bool→Bool→Bool→Option β) (Y J:BA) (E H G N Z ac:Bool):Option β:=bif Z then ((g87 n Y).bind fun V=>kn J E H G N Z ac V.1) else (kn J E H G N Z ac false)
def bP6:FS1 β:=FXs (yR n) n vQ (some aF0) none [] [4094]
theorem cO2 (Y J:BA) (E H G N Z ac:Bool):bP6 n (dM2 Y J E H G N Z ac) cx=cS7 n (fun J E H G N Z ac U=>cx.nrm (bX2 J E H G N Z ac U)) Y J E H G N Z ac:=by kernel_rfl
def dA7 (kn:Bool→Bool→Bool→Bool→Bool→Bool→Bool→Bool→Option β) (J:BA) (E H G N Z ac U:Bool):Option β:=bif ac then ((g87 n J).bind fun V=>kn E H G N Z ac U V.1) else (kn E H G N Z ac U false)
def cC3:FS1 β:=FXs (yR n) n vQ (some aL8) none [] [8190]
theorem cX9 (J:BA) (E H G N Z ac U:Bool):cC3 n (bX2 J E H G N Z ac U) cx=dA7 n (fun E H G N Z ac U h=>cx.nrm (bG7 E H G N Z ac U h)) J E H G N Z ac U:=by kernel_rfl
def bG4 (n:Nat) (kr:Int→Option β) (E H G N Z ac U h:Bool):Option β:=bif U then (kr (5:Int)) else (bif h then (kr (5:Int)) else (bif Z then (kr (4:Int)) else (bif ac then (kr (4:Int)) else (bif E then (bif (!G) then (bif N then (kr (3:Int)) else (bif G then (kr (2:Int)) else (bif N then (kr (2:Int)) else (bif E then (kr (1:Int)) else (bif H then (kr (1:Int)) else (kr (0:Int))))))) else (bif G then (kr (2:Int)) else (bif N then (kr (2:Int)) else (bif E then (kr (1:Int)) else (bif H then (kr (1:Int)) else (kr (0:Int))))))) else (bif G then (kr (2:Int)) else (bif N then (kr (2:Int)) else (bif E then (kr (1:Int)) else (bif H then (kr (1:Int)) else (kr (0:Int))))))))))
def dK1:FS1 β:=FXs (yR n) n vQ none (some iB) [] [32764,32765,32766,32767]
theorem bK4 (E H G N Z ac U h:Bool):dK1 n (bG7 E H G N Z ac U h) cx=bG4 n (fun v4=>cx.ret (K3 v4)) E H G N Z ac U h:=by kernel_rfl
def aH9 (kr:Int→Option β) (Y J:BA):Option β:=dH6 n (fun Y J D F E H G=>cC8 n (fun Y J D F E H G N=>bP1 n (fun Y J F E H G N Z=>dN1 n (fun Y J E H G N Z ac=>cS7 n (fun J E H G N Z ac U=>dA7 n (fun E H G N Z ac U h=>bG4 n kr E H G N Z ac U h) J E H G N Z ac U) Y J E H G N Z ac) Y J F E H G N Z) Y J D F E H G N) Y J D F E H G) kr Y J
def PH (s:FState) (cx:Cx β):Option β:=bI1 n s {cx with nrm:=fun s=>cA4 n s {cx with nrm:=fun s=>bT9 n s {cx with nrm:=fun s=>dA3 n s {cx with nrm:=fun s=>bP6 n s {cx with nrm:=fun s=>cC3 n s {cx with nrm:=fun s=>dK1 n s cx}}}}}}
theorem dC3 (Y J:BA):PH n (V6 Y J) cx=aH9 n (fun v4=>cx.ret (K3 v4)) Y J:=by simp only [PH,aH9,bQ5,dD2,bS9,dH0,cO2,cX9,bK4]
def g69 (Y J:BA):Option (DenR [.dat (.int .i64)]):=aH9 n (fun v4=>some (v4,())) Y J
def eQ3:List AK:=[.dat .str,.dat .str]
def dE7:List RK:=[.dat (.int .i64)]
def fG8 (d:DenA eQ3):Option (DenR dE7):=g69 n d.1 d.2.1
def eE1:Spec:=aM eQ3 dE7 (fG8 n)
def eN0:Sk:=(.nd (.fin none none (some iB) [] .leaf) (.nd (.nd (.fin none none (some iB) [] .leaf) (.fin none none (some iB) [] .leaf)) (.nd (.fin none none (some iB) [] .leaf) (.nd (.fin none none (some iB) [] .leaf) (.nd (.fin none none (some iB) [] .leaf) (.nd (.fin none none (some iB) [] .leaf) (.nd (.fin none (some aG7) (some iB) [] .leaf) (.nd (.fin none (some aH4) none [] .leaf) (.nd (.fin none (some aO9) none [] .leaf) (.nd (.fin none (some aO0) none [] .leaf) (.nd (.fin none (some aF0) none [] .leaf) (.nd (.fin none (some aL8) none [] .leaf) (.nd (.nd (.fin none none (some iB) [] .leaf) (.fin none none (some iB) [] .leaf)) (.nd (.fin none none (some iB) [] .leaf) (.fin none none (some iB) [] .leaf)))))))))))))))
theorem dR9 (s:FState) (cx:Cx β):FX (yR n) n vQ eN0 s cx=PH n s cx:=by kernel_rfl
theorem dP9:Fit Tryd.prog 69 (eE1 n):=
  cD (Γ:=Γ0) (l:=eQ8 n) (n:=n) (sk:=eN0) (ts:=[(4,none)]) (fn:=Tryd.f69) (c:=vQ) (by kernel_rfl) (by kernel_rfl) (by unfold aO;kernel_rfl) cB ⟨aK4 n,dN3 n,dN4 n,dY2 n,dU1 n,dX3 n,trivial⟩ aH (by kernel_rfl) (by kernel_rfl) (Nat.le_of_ble_eq_true (by kernel_rfl)) (Nat.le_of_ble_eq_true (by kernel_rfl)) (by kernel_rfl) (by kernel_rfl)
    (fun d=>(dR9 n _ _).trans (Eq.trans (b:=PH n (V6 d.1 d.2.1) (cG (yR n) dE7 [(4,none)])) (by kernel_rfl) ((dC3 n _ d.1 d.2.1).trans (by kernel_rfl))))
end
end
end Go.Proofs.YticibdjilmclgaaDoorZF
