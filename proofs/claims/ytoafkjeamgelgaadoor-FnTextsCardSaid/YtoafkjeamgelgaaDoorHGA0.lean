import Derived.Test.YtoafkjeamgelgaaDoorHFT
import Derived.Test.YtoafkjeamgelgaaDoorHFE
namespace Go.Proofs.YtoafkjeamgelgaaDoorHF
noncomputable section
open Go Go.Proofs
set_option linter.unusedVariables false
set_option maxRecDepth 100000
variable {β:Type}
def AM (S:Z17):FState:=⟨aX [(0,.dat Z14 S)],aG []⟩
def LD (M:Bool):FState:=⟨aX [(2,.dat .bool M)],aG []⟩
def hK:List NE:=[.keep 2]
def IS (n:Nat):List (Nat×bF):=[]
section
variable (n:Nat) (cx:Cx β)
def DG:Ctx:={Γ0 with calls:=lkS (IS n)}
def CT:Code:=fb Tryd.f35
def CK (n:Nat) (kr:Bool→Option β) (S:Z17):Option β:=bif (decide ((S.2.size:Int)>(2147483647:Int))) then (kr false) else (kr true)
def uX:FS1 β:=FXs (DG n) n CT none (some hK) [] [2,12,13,14,15]
theorem GD (S:Z17):uX n (AM S) cx=CK n (fun M=>cx.ret (LD M)) S:=by kernel_rfl
def g35 (S:Z17):Option (DenR [.dat .bool]):=CK n (fun M=>some (M,())) S
def KI:List AK:=[.dat Z14]
def AQ:List RK:=[.dat .bool]
def MY (d:DenA KI):Option (DenR AQ):=g35 n d.1
def JN:bF:=bT KI AQ (MY n)
def JX:Sk:=(.nd (.fin none none (some hK) [] .leaf) (.nd (.nd (.fin none none (some hK) [] .leaf) (.fin none none (some hK) [] .leaf)) (.nd (.fin none none (some hK) [] .leaf) (.fin none none (some hK) [] .leaf))))
theorem GY (s:FState) (cx:Cx β):FX (DG n) n CT JX s cx=uX n s cx:=by kernel_rfl
theorem IB:Fit Tryd.prog 35 (JN n):=
  cZ (Γ:=Γ0) (l:=IS n) (n:=n) (sk:=JX) (ts:=[(2,none)]) (fn:=Tryd.f35) (c:=CT) (by kernel_rfl) (by kernel_rfl) (by unfold aZ;kernel_rfl) tab_ok trivial aT (by kernel_rfl) (by kernel_rfl) (Nat.le_of_ble_eq_true (by kernel_rfl)) (Nat.le_of_ble_eq_true (by kernel_rfl)) (by kernel_rfl) (by kernel_rfl)
    (fun d=>(GY n _ _).trans (Eq.trans (b:=uX n (AM d.1) (dQ (DG n) AQ [(2,none)])) (by kernel_rfl) ((GD n _ d.1).trans (by kernel_rfl))))
def wV (A:List Z17):FState:=⟨aX [(0,.sl 0 none false)],aG [(0,.row Z14 34 false A)]⟩
def iR (M:Bool):FState:=⟨aX [(2,.dat .bool M)],aG []⟩
def cT:List NE:=[.keep 2]
def kL (E:List Z17) (J D:Int):FState:=⟨aX [(8,.sl 8 none false),(9,.dat (.int .i64) J),(10,.dat (.int .i64) D)],aG [(8,.row Z14 34 false E)]⟩
def mK:List NE:=[.row 8 Z14 34 false,.keep 9,.keep 10]
def nO:FState:=⟨aX [],aG []⟩
def jC:List NE:=[]
def II:List (Nat×bF):=[(35,JN n)]
def uL:Ctx:={Γ0 with calls:=lkS (II n)}
def tY:Code:=fb Tryd.f14
def DE (n:Nat) (kn:List Z17→Int→Int→Option β) (kr:Bool→Option β) (A:List Z17):Option β:=bif (decide ((A.length:Int)>(2147483647:Int))) then (kr false) else (kn A (A.length:Int) (0:Int))
def GP:FS1 β:=FXs (uL n) n tY (some mK) (some cT) [] [2,12,13,28]
theorem DU (A:List Z17):GP n (wV A) cx=DE n (fun E J D=>cx.nrm (kL E J D)) (fun M=>cx.ret (iR M)) A:=by kernel_rfl
def xT (kn:List Z17→Int→Int→Option β) (kr:Bool→Option β) (P:Option β) (E:List Z17) (J D:Int):Option β:=bif (decide (D < J)) then (idx D (E.length:Int)<|(g35 n (rd [(rd E D Z10)] (0:Int) Z10)).bind fun V=>bif (!V.1) then (kr false) else (kn E J (w64 (D+1)))) else P
def vP:FS1 β:=FXs (uL n) n tY (some mK) (some cT) [(0,jC)] [232,466,934,935]
theorem EP (E:List Z17) (J D:Int):vP n (kL E J D) cx=xT n (fun E J D=>cx.nrm (kL E J D)) (fun M=>cx.ret (iR M)) (cx.ex 0 nO) E J D:=by kernel_rfl
def g14_3L (n:Nat) (kr:Bool→Option β) (P:Option β):Nat→List Z17→Int→Int→Option β
  | 0,_,_,_=>none
  | m+1,E,J,D=>xT n (g14_3L n kr P m) kr P E J D
def IN (kr:Bool→Option β) (P:Option β) (E:List Z17) (J D:Int):Option β:=g14_3L n kr P n E J D
def zX (s:FState) (cx:Cx β):Option β:=cA (fun again s=>vP n s {cx with nrm:=again}) n s
theorem yX (n:Nat) (cx:Cx β):∀(m:Nat) (E:List Z17) (J D:Int),cA (fun again s=>vP n s {cx with nrm:=again}) m (kL E J D)=g14_3L n (fun M=>cx.ret (iR M)) (cx.ex 0 nO) m E J D:=by
  intro m
  induction m with
  | zero=>intros;rfl
  | succ m ih=>intros;simp only [cA,g14_3L,EP,ih]
theorem EG (E:List Z17) (J D:Int):zX n (kL E J D) cx=IN n (fun M=>cx.ret (iR M)) (cx.ex 0 nO) E J D:=yX n cx n E J D
def JF (kn:Option β) (kr:Bool→Option β) (E:List Z17) (J D:Int):Option β:=IN n kr kn E J D
def EV (s:FState) (cx:Cx β):Option β:=zX n s {cx with ex:=fun j s=>bif Nat.beq j 0 then cx.nrm s else cx.ex j s}
theorem AP (E:List Z17) (J D:Int):EV n (kL E J D) cx=JF n (cx.nrm nO) (fun M=>cx.ret (iR M)) E J D:=EG n _ E J D
def qA (n:Nat) (kr:Bool→Option β):Option β:=kr true
def DI:FS1 β:=FXs (uL n) n tY none (some cT) [] [30,31]
theorem EK:DI n nO cx=qA n (fun M=>cx.ret (iR M)):=by kernel_rfl
def xL (kr:Bool→Option β) (A:List Z17):Option β:=DE n (fun E J D=>JF n (qA n kr) kr E J D) kr A
def qM (s:FState) (cx:Cx β):Option β:=GP n s {cx with nrm:=fun s=>EV n s {cx with nrm:=fun s=>DI n s cx}}
theorem EJ (A:List Z17):qM n (wV A) cx=xL n (fun M=>cx.ret (iR M)) A:=by simp only [qM,xL,DU,AP,EK]
def g14 (A:List Z17):Option (DenR [.dat .bool]):=xL n (fun M=>some (M,())) A
def JB:List AK:=[.ro Z14 34]
def CA:List RK:=[.dat .bool]
def MW (d:DenA JB):Option (DenR CA):=g14 n d.1
def KX:bF:=bT JB CA (MW n)
def KF:Sk:=(.nd (.fin none none (some cT) [] .leaf) (.nd (.nd (.fin none none (some cT) [] .leaf) (.fin none none (some cT) [] .leaf)) (.nd (.nd (.fin none (some mK) (some cT) [] .leaf) (.nd (.nd (.nd (.fin none none (some cT) [(0,jC)] .leaf) (.nd (.fin none none (some cT) [(0,jC)] .leaf) (.nd (.fin none none (some cT) [(0,jC)] .leaf) (.fin none (some mK) (some cT) [(0,jC)] .leaf)))) .leaf) .leaf)) (.nd (.fin none none (some cT) [] .leaf) (.fin none none (some cT) [] .leaf)))))
theorem IC (s:FState) (cx:Cx β):FX (uL n) n tY KF s cx=qM n s cx:=by kernel_rfl
theorem IA:Fit Tryd.prog 14 (KX n):=
  cZ (Γ:=Γ0) (l:=II n) (n:=n) (sk:=KF) (ts:=[(2,none)]) (fn:=Tryd.f14) (c:=tY) (by kernel_rfl) (by kernel_rfl) (by unfold aZ;kernel_rfl) tab_ok ⟨IB n,trivial⟩ aT (by kernel_rfl) (by kernel_rfl) (Nat.le_of_ble_eq_true (by kernel_rfl)) (Nat.le_of_ble_eq_true (by kernel_rfl)) (by kernel_rfl) (by kernel_rfl)
    (fun d=>(IC n _ _).trans (Eq.trans (b:=qM n (wV d.1) (dQ (uL n) CA [(2,none)])) (by kernel_rfl) ((EJ n _ d.1).trans (by kernel_rfl))))
def EY (S:BA):FState:=⟨aX [(0,.dat .str S)],aG []⟩
def LG (Y:List Int):FState:=⟨aX [(2,.sl 2 none false)],aG [(2,.row (.int .i32) 21 true Y)]⟩
def mF:List NE:=[.row 2 (.int .i32) 21 true]
def IT (n:Nat):List (Nat×bF):=[]
def ED:Ctx:={Γ0 with calls:=lkS (IT n)}
def FY:Code:=fb Tryd.f51
def AY (n:Nat) (kr:List Int→Option β) (S:BA):Option β:=wA S<|kr (bI S)
def vA:FS1 β:=FXs (ED n) n FY none (some mF) [] [2,6,7]
theorem AX (S:BA):vA n (EY S) cx=AY n (fun Y=>cx.ret (LG Y)) S:=by kernel_rfl
def g51 (S:BA):Option (DenR [.rw (.int .i32) 21]):=AY n (fun Y=>some (Y,())) S
def KO:List AK:=[.dat .str]
def BC:List RK:=[.rw (.int .i32) 21]
def MX (d:DenA KO):Option (DenR BC):=g51 n d.1
def JY:bF:=bT KO BC (MX n)
def LA:Sk:=(.nd (.fin none none (some mF) [] .leaf) (.nd (.fin none none (some mF) [] .leaf) (.fin none none (some mF) [] .leaf)))
theorem HI (s:FState) (cx:Cx β):FX (ED n) n FY LA s cx=vA n s cx:=by kernel_rfl
theorem HU:Fit Tryd.prog 51 (JY n):=
  cZ (Γ:=Γ0) (l:=IT n) (n:=n) (sk:=LA) (ts:=[(2,none)]) (fn:=Tryd.f51) (c:=FY) (by kernel_rfl) (by kernel_rfl) (by unfold aZ;kernel_rfl) tab_ok trivial aT (by kernel_rfl) (by kernel_rfl) (Nat.le_of_ble_eq_true (by kernel_rfl)) (Nat.le_of_ble_eq_true (by kernel_rfl)) (by kernel_rfl) (by kernel_rfl)
    (fun d=>(HI n _ _).trans (Eq.trans (b:=vA n (EY d.1) (dQ (ED n) BC [(2,none)])) (by kernel_rfl) ((AX n _ d.1).trans (by kernel_rfl))))
def CX (S:BA) (N:Int):FState:=⟨aX [(0,.dat .str S),(1,.dat (.int .i64) N)],aG []⟩
def LR (X:BA):FState:=⟨aX [(4,.dat .str X)],aG []⟩
def jL:List NE:=[.keep 4]
def KP:List (Nat×bF):=[(51,JY n)]
def CW:Ctx:={Γ0 with calls:=lkS (KP n)}
def DS:Code:=fb Tryd.f36
def CN (kr:BA→Option β) (S:BA) (N:Int):Option β:=(g51 n S).bind fun V=>bnd (0:Int) (oW (V.1.length:Int) N) (V.1.length:Int)<|kr (runesBytes (cut V.1 (0:Int) ((0:Int)+((oW (V.1.length:Int) N) - (0:Int)))))
def wL:FS1 β:=FXs (CW n) n DS none (some jL) [] [2,6,14,15]
theorem BO (S:BA) (N:Int):wL n (CX S N) cx=CN n (fun X=>cx.ret (LR X)) S N:=by kernel_rfl
def g36 (S:BA) (N:Int):Option (DenR [.dat .str]):=CN n (fun X=>some (X,())) S N
def KM:List AK:=[.dat .str,.dat (.int .i64)]
def BL:List RK:=[.dat .str]
def MC (d:DenA KM):Option (DenR BL):=g36 n d.1 d.2.1
def IV:bF:=bT KM BL (MC n)
def JQ:Sk:=(.nd (.fin none none (some jL) [] .leaf) (.nd (.fin none none (some jL) [] .leaf) (.nd (.fin none none (some jL) [] .leaf) (.fin none none (some jL) [] .leaf))))
theorem GT (s:FState) (cx:Cx β):FX (CW n) n DS JQ s cx=wL n s cx:=by kernel_rfl
theorem HC:Fit Tryd.prog 36 (IV n):=
  cZ (Γ:=Γ0) (l:=KP n) (n:=n) (sk:=JQ) (ts:=[(4,none)]) (fn:=Tryd.f36) (c:=DS) (by kernel_rfl) (by kernel_rfl) (by unfold aZ;kernel_rfl) tab_ok ⟨HU n,trivial⟩ aT (by kernel_rfl) (by kernel_rfl) (Nat.le_of_ble_eq_true (by kernel_rfl)) (Nat.le_of_ble_eq_true (by kernel_rfl)) (by kernel_rfl) (by kernel_rfl)
    (fun d=>(GT n _ _).trans (Eq.trans (b:=wL n (CX d.1 d.2.1) (dQ (CW n) BL [(4,none)])) (by kernel_rfl) ((BO n _ d.1 d.2.1).trans (by kernel_rfl))))
def vS (A:List Z17) (N:Int):FState:=⟨aX [(0,.sl 0 none false),(1,.dat (.int .i64) N)],aG [(0,.row Z14 34 false A)]⟩
def EF (g:List Z17):FState:=⟨aX [(4,.sl 4 none false)],aG [(4,.row Z14 34 true g)]⟩
def qT:List NE:=[.row 4 Z14 34 true]
def kU (A:List Z17) (N:Int) (O:List Z17) (Q:Int):FState:=⟨aX [(0,.sl 0 none false),(1,.dat (.int .i64) N),(5,.sl 5 none false),(6,.dat (.int .i64) Q)],aG [(0,.row Z14 34 false A),(5,.row Z14 34 true O)]⟩
def mH:List NE:=[.row 0 Z14 34 false,.keep 1,.row 5 Z14 34 true,.keep 6]
def mV (O:List Z17):FState:=⟨aX [(5,.sl 5 none false)],aG [(5,.row Z14 34 true O)]⟩
def kJ:List NE:=[.row 5 Z14 34 true]
def JW:List (Nat×bF):=[(36,IV n)]
def sZ:Ctx:={Γ0 with calls:=lkS (JW n)}
def tD:Code:=fb Tryd.f15
def FJ (n:Nat) (kn:List Z17→Int→List Z17→Int→Option β) (A:List Z17) (N:Int):Option β:=kn A N [] (0:Int)
def DB:FS1 β:=FXs (sZ n) n tD (some mH) none [] [2,6,28]
theorem EO (A:List Z17) (N:Int):DB n (vS A N) cx=FJ n (fun A N O Q=>cx.nrm (kU A N O Q)) A N:=by kernel_rfl
def yE (kn:List Z17→Int→List Z17→Int→Option β) (P:List Z17→Option β) (A:List Z17) (N:Int) (O:List Z17) (Q:Int):Option β:=bif (decide (Q < (A.length:Int))) then (bif (decide (Q < N)) then (idx Q (A.length:Int)<|bif ((((rd A Q Z10).1).tmod (3:Int))==(2:Int)) then (idx Q (A.length:Int)<|(g36 n ((rd A Q Z10).2) (30:Int)).bind fun V=>eI (O.length+[((w64 ((w64 (0 - (((rd A Q Z10).1).tmod (3:Int)))).tdiv (2:Int))),V.1)].length)<|kn A N (O++[((w64 ((w64 (0 - (((rd A Q Z10).1).tmod (3:Int)))).tdiv (2:Int))),V.1)]) (w64 (Q+1))) else (bif ((((rd A Q Z10).1).tmod (3:Int))==(-2:Int)) then (idx Q (A.length:Int)<|(g36 n ((rd A Q Z10).2) (30:Int)).bind fun Z=>eI (O.length+[((w64 ((w64 (0 - (((rd A Q Z10).1).tmod (3:Int)))).tdiv (2:Int))),Z.1)].length)<|kn A N (O++[((w64 ((w64 (0 - (((rd A Q Z10).1).tmod (3:Int)))).tdiv (2:Int))),Z.1)]) (w64 (Q+1))) else (idx Q (A.length:Int)<|(g36 n ((rd A Q Z10).2) (30:Int)).bind fun a=>eI (O.length+[((((rd A Q Z10).1).tmod (3:Int)),a.1)].length)<|kn A N (O++[((((rd A Q Z10).1).tmod (3:Int)),a.1)]) (w64 (Q+1))))) else (P O)) else (P O)
def wF:FS1 β:=FXs (sZ n) n tD (some mH) none [(0,kJ)] [464,465,466,467]
theorem BZ (A:List Z17) (N:Int) (O:List Z17) (Q:Int):wF n (kU A N O Q) cx=yE n (fun A N O Q=>cx.nrm (kU A N O Q)) (fun O=>cx.ex 0 (mV O)) A N O Q:=by kernel_rfl
def g15_3L (n:Nat) (P:List Z17→Option β):Nat→List Z17→Int→List Z17→Int→Option β
  | 0,_,_,_,_=>none
  | m+1,A,N,O,Q=>yE n (g15_3L n P m) P A N O Q
def EA (P:List Z17→Option β) (A:List Z17) (N:Int) (O:List Z17) (Q:Int):Option β:=g15_3L n P n A N O Q
def EX (s:FState) (cx:Cx β):Option β:=cA (fun again s=>wF n s {cx with nrm:=again}) n s
theorem zN (n:Nat) (cx:Cx β):∀(m:Nat) (A:List Z17) (N:Int) (O:List Z17) (Q:Int),cA (fun again s=>wF n s {cx with nrm:=again}) m (kU A N O Q)=g15_3L n (fun O=>cx.ex 0 (mV O)) m A N O Q:=by
  intro m
  induction m with
  | zero=>intros;rfl
  | succ m ih=>intros;simp only [cA,g15_3L,BZ,ih]
theorem DC (A:List Z17) (N:Int) (O:List Z17) (Q:Int):EX n (kU A N O Q) cx=EA n (fun O=>cx.ex 0 (mV O)) A N O Q:=zN n cx n A N O Q
def BY (kn:List Z17→Option β) (A:List Z17) (N:Int) (O:List Z17) (Q:Int):Option β:=EA n kn A N O Q
def GI (s:FState) (cx:Cx β):Option β:=EX n s {cx with ex:=fun j s=>bif Nat.beq j 0 then cx.nrm s else cx.ex j s}
theorem DF (A:List Z17) (N:Int) (O:List Z17) (Q:Int):GI n (kU A N O Q) cx=BY n (fun O=>cx.nrm (mV O)) A N O Q:=DC n _ A N O Q
def CZ (n:Nat) (kr:List Z17→Option β) (O:List Z17):Option β:=kr O
def FU:FS1 β:=FXs (sZ n) n tD none (some qT) [] [30,31]
theorem AF (O:List Z17):FU n (mV O) cx=CZ n (fun g=>cx.ret (EF g)) O:=by kernel_rfl
def xV (kr:List Z17→Option β) (A:List Z17) (N:Int):Option β:=FJ n (fun A N O Q=>BY n (fun O=>CZ n kr O) A N O Q) A N
def rF (s:FState) (cx:Cx β):Option β:=DB n s {cx with nrm:=fun s=>GI n s {cx with nrm:=fun s=>FU n s cx}}
theorem GO (A:List Z17) (N:Int):rF n (vS A N) cx=xV n (fun g=>cx.ret (EF g)) A N:=by simp only [rF,xV,EO,DF,AF]
def g15 (A:List Z17) (N:Int):Option (DenR [.rw Z14 34]):=xV n (fun g=>some (g,())) A N
def KS:List AK:=[.ro Z14 34,.dat (.int .i64)]
def GG:List RK:=[.rw Z14 34]
def MZ (d:DenA KS):Option (DenR GG):=g15 n d.1 d.2.1
def KQ:bF:=bT KS GG (MZ n)
def IR:Sk:=(.nd (.fin none none none [] .leaf) (.nd (.fin none none none [] .leaf) (.nd (.nd (.fin none (some mH) none [] .leaf) (.nd (.nd (.nd (.nd (.fin none none none [(0,kJ)] .leaf) (.fin none none none [(0,kJ)] .leaf)) (.nd (.fin none none none [(0,kJ)] .leaf) (.fin none (some mH) none [(0,kJ)] .leaf))) .leaf) .leaf)) (.nd (.fin none none (some qT) [] .leaf) (.fin none none (some qT) [] .leaf)))))
theorem HP (s:FState) (cx:Cx β):FX (sZ n) n tD IR s cx=rF n s cx:=by kernel_rfl
theorem HN:Fit Tryd.prog 15 (KQ n):=
  cZ (Γ:=Γ0) (l:=JW n) (n:=n) (sk:=IR) (ts:=[(4,none)]) (fn:=Tryd.f15) (c:=tD) (by kernel_rfl) (by kernel_rfl) (by unfold aZ;kernel_rfl) tab_ok ⟨HC n,trivial⟩ aT (by kernel_rfl) (by kernel_rfl) (Nat.le_of_ble_eq_true (by kernel_rfl)) (Nat.le_of_ble_eq_true (by kernel_rfl)) (by kernel_rfl) (by kernel_rfl)
    (fun d=>(HP n _ _).trans (Eq.trans (b:=rF n (vS d.1 d.2.1) (dQ (sZ n) GG [(4,none)])) (by kernel_rfl) ((GO n _ d.1 d.2.1).trans (by kernel_rfl))))
def FF:FState:=⟨aX [],aG []⟩
def LS (U:Z6):FState:=⟨aX [(0,.ptr 0 0 0)],aG [(0,.row Z1 66 true [U])]⟩
def mJ:List NE:=[.ptr 0 Z1 66 true]
def KZ (n:Nat):List (Nat×bF):=[]
def BI:Ctx:={Γ0 with calls:=lkS (KZ n)}
def AT:Code:=fb Tryd.f37
def IQ (n:Nat) (kr:Z6→Option β):Option β:=kr ((1000000000:Int),((4:Int),((1000:Int),((4602678819172646912:Nat),((4:Int),((32:Int),(4602678819172646912:Nat)))))))
def vM:FS1 β:=FXs (BI n) n AT none (some mJ) [] [2,6,7]
theorem CO:vM n FF cx=IQ n (fun U=>cx.ret (LS U)):=by kernel_rfl
def g37:Option (DenR [.ptr Z1 66]):=IQ n (fun U=>some (U,()))
def JJ:List AK:=[]
def DM:List RK:=[.ptr Z1 66]
def ND (d:DenA JJ):Option (DenR DM):=g37 n
def EW:bF:=bT JJ DM (ND n)
def KR:Sk:=(.nd (.fin none none (some mJ) [] .leaf) (.nd (.fin none none (some mJ) [] .leaf) (.fin none none (some mJ) [] .leaf)))
theorem HH (s:FState) (cx:Cx β):FX (BI n) n AT KR s cx=vM n s cx:=by kernel_rfl
theorem yK:Fit Tryd.prog 37 (EW n):=
  cZ (Γ:=Γ0) (l:=KZ n) (n:=n) (sk:=KR) (ts:=[(0,none)]) (fn:=Tryd.f37) (c:=AT) (by kernel_rfl) (by kernel_rfl) (by unfold aZ;kernel_rfl) tab_ok trivial aT (by kernel_rfl) (by kernel_rfl) (Nat.le_of_ble_eq_true (by kernel_rfl)) (Nat.le_of_ble_eq_true (by kernel_rfl)) (by kernel_rfl) (by kernel_rfl)
    (fun d=>(HH n _ _).trans (Eq.trans (b:=vM n (FF) (dQ (BI n) DM [(0,none)])) (by kernel_rfl) ((CO n _).trans (by kernel_rfl))))
def FE (S:Int):FState:=⟨aX [(0,.dat (.int .i64) S)],aG []⟩
def LT (M:Int):FState:=⟨aX [(2,.dat (.int .i8) M)],aG []⟩
def gV:List NE:=[.keep 2]
def KJ (n:Nat):List (Nat×bF):=[]
def EB:Ctx:={Γ0 with calls:=lkS (KJ n)}
def AH:Code:=fb Tryd.f54
def IL (n:Nat) (kr:Int→Option β) (S:Int):Option β:=bif (S==(-1:Int)) then (kr (-1:Int)) else (bif (S==(1:Int)) then (kr (1:Int)) else (kr (0:Int)))
def vE:FS1 β:=FXs (EB n) n AH none (some gV) [] [2,12,13,14,15]
theorem DZ (S:Int):vE n (FE S) cx=IL n (fun M=>cx.ret (LT M)) S:=by kernel_rfl
def g54 (S:Int):Option (DenR [.dat (.int .i8)]):=IL n (fun M=>some (M,())) S
def JR:List AK:=[.dat (.int .i64)]
def FA:List RK:=[.dat (.int .i8)]
def MA (d:DenA JR):Option (DenR FA):=g54 n d.1
def IX:bF:=bT JR FA (MA n)
def JL:Sk:=(.nd (.fin none none (some gV) [] .leaf) (.nd (.nd (.fin none none (some gV) [] .leaf) (.fin none none (some gV) [] .leaf)) (.nd (.fin none none (some gV) [] .leaf) (.fin none none (some gV) [] .leaf))))
theorem HM (s:FState) (cx:Cx β):FX (EB n) n AH JL s cx=vE n s cx:=by kernel_rfl
theorem GX:Fit Tryd.prog 54 (IX n):=
  cZ (Γ:=Γ0) (l:=KJ n) (n:=n) (sk:=JL) (ts:=[(2,none)]) (fn:=Tryd.f54) (c:=AH) (by kernel_rfl) (by kernel_rfl) (by unfold aZ;kernel_rfl) tab_ok trivial aT (by kernel_rfl) (by kernel_rfl) (Nat.le_of_ble_eq_true (by kernel_rfl)) (Nat.le_of_ble_eq_true (by kernel_rfl)) (by kernel_rfl) (by kernel_rfl)
    (fun d=>(HM n _ _).trans (Eq.trans (b:=vE n (FE d.1) (dQ (EB n) FA [(2,none)])) (by kernel_rfl) ((DZ n _ d.1).trans (by kernel_rfl))))
def wG (A:List Z17):FState:=⟨aX [(0,.sl 0 none false)],aG [(0,.row Z14 34 false A)]⟩
def GF (Y:List Z17):FState:=⟨aX [(2,.sl 2 none false)],aG [(2,.row Z15 73 true Y)]⟩
def qU:List NE:=[.row 2 Z15 73 true]
def lA (R C:List Z17) (L B:Int):FState:=⟨aX [(3,.sl 3 none false),(6,.sl 6 none false),(7,.dat (.int .i64) L),(8,.dat (.int .i64) B)],aG [(3,.row Z15 73 true R),(6,.row Z14 34 false C)]⟩
def mG:List NE:=[.row 3 Z15 73 true,.row 6 Z14 34 false,.keep 7,.keep 8]
def oQ (R:List Z17):FState:=⟨aX [(3,.sl 3 none false)],aG [(3,.row Z15 73 true R)]⟩
def jI:List NE:=[.row 3 Z15 73 true]
def JE:List (Nat×bF):=[(54,IX n)]
def uD:Ctx:={Γ0 with calls:=lkS (JE n)}
def uN:Code:=fb Tryd.f39
def EC (n:Nat) (kn:List Z17→List Z17→Int→Int→Option β) (A:List Z17):Option β:=kn [] A (A.length:Int) (0:Int)
def EI:FS1 β:=FXs (uD n) n uN (some mG) none [] [2,6,28]
theorem DO (A:List Z17):EI n (wG A) cx=EC n (fun R C L B=>cx.nrm (lA R C L B)) A:=by kernel_rfl
def xQ (kn:List Z17→List Z17→Int→Int→Option β) (P:List Z17→Option β) (R C:List Z17) (L B:Int):Option β:=bif (decide (B < L)) then (idx B (C.length:Int)<|(g54 n ((rd [(rd C B Z10)] (0:Int) Z10).1)).bind fun V=>eI (R.length+[(V.1,(rd [(rd C B Z10)] (0:Int) Z10).2)].length)<|kn (R++[(V.1,(rd [(rd C B Z10)] (0:Int) Z10).2)]) C L (w64 (B+1))) else (P R)
def vX:FS1 β:=FXs (uD n) n uN (some mG) none [(0,jI)] [232,466,934,935]
theorem CU (R C:List Z17) (L B:Int):vX n (lA R C L B) cx=xQ n (fun R C L B=>cx.nrm (lA R C L B)) (fun R=>cx.ex 0 (oQ R)) R C L B:=by kernel_rfl
def g39_3L (n:Nat) (P:List Z17→Option β):Nat→List Z17→List Z17→Int→Int→Option β
  | 0,_,_,_,_=>none
  | m+1,R,C,L,B=>xQ n (g39_3L n P m) P R C L B
def CB (P:List Z17→Option β) (R C:List Z17) (L B:Int):Option β:=g39_3L n P n R C L B
def CD (s:FState) (cx:Cx β):Option β:=cA (fun again s=>vX n s {cx with nrm:=again}) n s
theorem zO (n:Nat) (cx:Cx β):∀(m:Nat) (R C:List Z17) (L B:Int),cA (fun again s=>vX n s {cx with nrm:=again}) m (lA R C L B)=g39_3L n (fun R=>cx.ex 0 (oQ R)) m R C L B:=by
  intro m
  induction m with
  | zero=>intros;rfl
  | succ m ih=>intros;simp only [cA,g39_3L,CU,ih]
theorem AA (R C:List Z17) (L B:Int):CD n (lA R C L B) cx=CB n (fun R=>cx.ex 0 (oQ R)) R C L B:=zO n cx n R C L B
def EE (kn:List Z17→Option β) (R C:List Z17) (L B:Int):Option β:=CB n kn R C L B
def DK (s:FState) (cx:Cx β):Option β:=CD n s {cx with ex:=fun j s=>bif Nat.beq j 0 then cx.nrm s else cx.ex j s}
theorem CH (R C:List Z17) (L B:Int):DK n (lA R C L B) cx=EE n (fun R=>cx.nrm (oQ R)) R C L B:=AA n _ R C L B
def CI (n:Nat) (kr:List Z17→Option β) (R:List Z17):Option β:=kr R
def FM:FS1 β:=FXs (uD n) n uN none (some qU) [] [30,31]
theorem DL (R:List Z17):FM n (oQ R) cx=CI n (fun Y=>cx.ret (GF Y)) R:=by kernel_rfl
def xG (kr:List Z17→Option β) (A:List Z17):Option β:=EC n (fun R C L B=>EE n (fun R=>CI n kr R) R C L B) A
def sH (s:FState) (cx:Cx β):Option β:=EI n s {cx with nrm:=fun s=>DK n s {cx with nrm:=fun s=>FM n s cx}}
theorem CY (A:List Z17):sH n (wG A) cx=xG n (fun Y=>cx.ret (GF Y)) A:=by simp only [sH,xG,DO,CH,DL]
def g39 (A:List Z17):Option (DenR [.rw Z15 73]):=xG n (fun Y=>some (Y,())) A
def JG:List AK:=[.ro Z14 34]
def AJ:List RK:=[.rw Z15 73]
def NI (d:DenA JG):Option (DenR AJ):=g39 n d.1
def CC:bF:=bT JG AJ (NI n)
def KW:Sk:=(.nd (.fin none none none [] .leaf) (.nd (.fin none none none [] .leaf) (.nd (.nd (.fin none (some mG) none [] .leaf) (.nd (.nd (.nd (.fin none none none [(0,jI)] .leaf) (.nd (.fin none none none [(0,jI)] .leaf) (.nd (.fin none none none [(0,jI)] .leaf) (.fin none (some mG) none [(0,jI)] .leaf)))) .leaf) .leaf)) (.nd (.fin none none (some qU) [] .leaf) (.fin none none (some qU) [] .leaf)))))
theorem GU (s:FState) (cx:Cx β):FX (uD n) n uN KW s cx=sH n s cx:=by kernel_rfl
theorem yI:Fit Tryd.prog 39 (CC n):=
  cZ (Γ:=Γ0) (l:=JE n) (n:=n) (sk:=KW) (ts:=[(2,none)]) (fn:=Tryd.f39) (c:=uN) (by kernel_rfl) (by kernel_rfl) (by unfold aZ;kernel_rfl) tab_ok ⟨GX n,trivial⟩ aT (by kernel_rfl) (by kernel_rfl) (Nat.le_of_ble_eq_true (by kernel_rfl)) (Nat.le_of_ble_eq_true (by kernel_rfl)) (by kernel_rfl) (by kernel_rfl)
    (fun d=>(GU n _ _).trans (Eq.trans (b:=sH n (wG d.1) (dQ (uD n) AJ [(2,none)])) (by kernel_rfl) ((CY n _ d.1).trans (by kernel_rfl))))
def xI:List AK:=[.cel Z5 70,.dat .str]
def GL:List RK:=[.dat (.int .i64),.dat .err]
def g52 (n:Nat) (S:List Int×(Int×Int)) (N:BA):Option (DenR GL×DenR (aQ xI)):=eJ S N
def MJ (d:DenA xI):Option (DenR GL×DenR (aQ xI)):=g52 n d.1 d.2.1
def ER:bF:=eU xI GL (MJ n)
theorem xY:Fit Tryd.prog 52 (ER n):=zT (T:=70) (e:=5) Tryd.laysM178 (by kernel_rfl) (by unfold aZ;kernel_rfl) (tab_ok.kt 70 _ (by kernel_rfl)) (tab_ok.kt 5 _ (by kernel_rfl))
def yH:List AK:=[.cel Z5 70]
def CV:List RK:=[.dat .str]
def g53 (n:Nat) (S:List Int×(Int×Int)):Option (DenR CV×DenR (aQ yH)):=dS S
def NF (d:DenA yH):Option (DenR CV×DenR (aQ yH)):=g53 n d.1
def DR:bF:=eU yH CV (NF n)
theorem xZ:Fit Tryd.prog 53 (DR n):=vF (T:=70) (e:=5) Tryd.laysM182 (by kernel_rfl) (by unfold aZ;kernel_rfl) (tab_ok.kt 70 _ (by kernel_rfl)) (tab_ok.kt 5 _ (by kernel_rfl))
def vH (U:Z6) (W:List Z17):FState:=⟨aX [(0,.ptr 0 0 0),(1,.sl 1 none false)],aG [(0,.row Z1 66 false [U]),(1,.row Z15 73 false W)]⟩
def DW (X:BA):FState:=⟨aX [(4,.dat .str X)],aG []⟩
def sI:List NE:=[.keep 4]
def lC (G:List Int) (H I:Int) (E:List Z17) (J D:Int):FState:=⟨aX [(5,.cp 5 0),(1000005,.sl 1000005 none false),(2000005,.dat (.int .i64) H),(3000005,.dat (.int .i8) I),(8,.sl 8 none false),(9,.dat (.int .i64) J),(10,.dat (.int .i64) D)],aG [(5,.cell Z5 70),(1000005,.row (.int .u8) 5 true G),(8,.row Z15 73 false E)]⟩
def mC:List NE:=[.cell 5 Z5 70,.row 1000005 (.int .u8) 5 true,.keep 2000005,.keep 3000005,.row 8 Z15 73 false,.keep 9,.keep 10]
def oN (G:List Int) (H I:Int):FState:=⟨aX [(5,.cp 5 0),(1000005,.sl 1000005 none false),(2000005,.dat (.int .i64) H),(3000005,.dat (.int .i8) I)],aG [(5,.cell Z5 70),(1000005,.row (.int .u8) 5 true G)]⟩
def jH:List NE:=[.cell 5 Z5 70,.row 1000005 (.int .u8) 5 true,.keep 2000005,.keep 3000005]
def JS:List (Nat×bF):=[(52,ER n),(53,DR n)]
def sW:Ctx:={Γ0 with calls:=lkS (JS n),cel:=[5]}
def uQ:Code:=fb Tryd.f38
def AC (n:Nat) (kn:List Int→Int→Int→List Z17→Int→Int→Option β) (U:Z6) (W:List Z17):Option β:=kn [] (0:Int) (0:Int) W (W.length:Int) (0:Int)
def CL:FS1 β:=FXs (sW n) n uQ (some mC) none [] [2,6,28]
theorem EN (U:Z6) (W:List Z17):CL n (vH U W) cx=AC n (fun G H I E J D=>cx.nrm (lC G H I E J D)) U W:=by kernel_rfl
def yL (kn:List Int→Int→Int→List Z17→Int→Int→Option β) (P:List Int→Int→Int→Option β) (G:List Int) (H I:Int) (E:List Z17) (J D:Int):Option β:=bif (decide (D < J)) then (idx D (E.length:Int)<|bif ((rd [(rd E D Z10)] (0:Int) Z10).1 !=(1:Int)) then ((g52 n (G,(H,I)) ((rd [(rd E D Z10)] (0:Int) Z10).2)).bind fun V=>kn V.2.1.1 V.2.1.2.1 V.2.1.2.2 E J (w64 (D+1))) else (kn G H I E J (w64 (D+1)))) else (P G H I)
def wU:FS1 β:=FXs (sW n) n uQ (some mC) none [(0,jH)] [232,466,934,935]
theorem GS (G:List Int) (H I:Int) (E:List Z17) (J D:Int):wU n (lC G H I E J D) cx=yL n (fun G H I E J D=>cx.nrm (lC G H I E J D)) (fun G H I=>cx.ex 0 (oN G H I)) G H I E J D:=by kernel_rfl
def g38_3L (n:Nat) (P:List Int→Int→Int→Option β):Nat→List Int→Int→Int→List Z17→Int→Int→Option β
  | 0,_,_,_,_,_,_=>none
  | m+1,G,H,I,E,J,D=>yL n (g38_3L n P m) P G H I E J D
def GC (P:List Int→Int→Int→Option β) (G:List Int) (H I:Int) (E:List Z17) (J D:Int):Option β:=g38_3L n P n G H I E J D
def GR (s:FState) (cx:Cx β):Option β:=cA (fun again s=>wU n s {cx with nrm:=again}) n s
theorem zG (n:Nat) (cx:Cx β):∀(m:Nat) (G:List Int) (H I:Int) (E:List Z17) (J D:Int),cA (fun again s=>wU n s {cx with nrm:=again}) m (lC G H I E J D)=g38_3L n (fun G H I=>cx.ex 0 (oN G H I)) m G H I E J D:=by
  intro m
  induction m with
  | zero=>intros;rfl
  | succ m ih=>intros;simp only [cA,g38_3L,GS,ih]
theorem ES (G:List Int) (H I:Int) (E:List Z17) (J D:Int):GR n (lC G H I E J D) cx=GC n (fun G H I=>cx.ex 0 (oN G H I)) G H I E J D:=zG n cx n G H I E J D
def BW (kn:List Int→Int→Int→Option β) (G:List Int) (H I:Int) (E:List Z17) (J D:Int):Option β:=GC n kn G H I E J D
def FH (s:FState) (cx:Cx β):Option β:=GR n s {cx with ex:=fun j s=>bif Nat.beq j 0 then cx.nrm s else cx.ex j s}
theorem DN (G:List Int) (H I:Int) (E:List Z17) (J D:Int):FH n (lC G H I E J D) cx=BW n (fun G H I=>cx.nrm (oN G H I)) G H I E J D:=ES n _ G H I E J D
def xX (kr:BA→Option β) (G:List Int) (H I:Int):Option β:=(g53 n (G,(H,I))).bind fun V=>kr V.1.1
def CG:FS1 β:=FXs (sW n) n uQ none (some sI) [] [30,31]
theorem GK (G:List Int) (H I:Int):CG n (oN G H I) cx=xX n (fun X=>cx.ret (DW X)) G H I:=by kernel_rfl
def yF (kr:BA→Option β) (U:Z6) (W:List Z17):Option β:=AC n (fun G H I E J D=>BW n (fun G H I=>xX n kr G H I) G H I E J D) U W
def rM (s:FState) (cx:Cx β):Option β:=CL n s {cx with nrm:=fun s=>FH n s {cx with nrm:=fun s=>CG n s cx}}
theorem DV (U:Z6) (W:List Z17):rM n (vH U W) cx=yF n (fun X=>cx.ret (DW X)) U W:=by simp only [rM,yF,EN,DN,GK]
def g38 (U:Z6) (W:List Z17):Option (DenR [.dat .str]):=yF n (fun X=>some (X,())) U W
def IO:List AK:=[.pro Z1 66,.ro Z15 73]
def yD:List RK:=[.dat .str]
def MQ (d:DenA IO):Option (DenR yD):=g38 n d.1 d.2.1
def JH:bF:=bT IO yD (MQ n)
def KU:Sk:=(.nd (.fin none none none [] .leaf) (.nd (.fin none none none [] .leaf) (.nd (.nd (.fin none (some mC) none [] .leaf) (.nd (.nd (.nd (.fin none none none [(0,jH)] .leaf) (.nd (.fin none none none [(0,jH)] .leaf) (.nd (.fin none none none [(0,jH)] .leaf) (.fin none (some mC) none [(0,jH)] .leaf)))) .leaf) .leaf)) (.nd (.fin none none (some sI) [] .leaf) (.fin none none (some sI) [] .leaf)))))
theorem GZ (s:FState) (cx:Cx β):FX (sW n) n uQ KU s cx=rM n s cx:=by kernel_rfl
theorem IH:Fit Tryd.prog 38 (JH n):=
  cZ (Γ:={Γ0 with cel:=[5]}) (l:=JS n) (n:=n) (sk:=KU) (ts:=[(4,none)]) (fn:=Tryd.f38) (c:=uQ) (by kernel_rfl) (by kernel_rfl) (by unfold aZ;kernel_rfl) (GJ tab_ok [5]) ⟨xY n,xZ n,trivial⟩ aT (by kernel_rfl) (by kernel_rfl) (Nat.le_of_ble_eq_true (by kernel_rfl)) (Nat.le_of_ble_eq_true (by kernel_rfl)) (by kernel_rfl) (by kernel_rfl)
    (fun d=>(GZ n _ _).trans (Eq.trans (b:=rM n (vH d.1 d.2.1) (dQ (sW n) yD [(4,none)])) (by kernel_rfl) ((DV n _ d.1 d.2.1).trans (by kernel_rfl))))
def GB (A:List Z17):FState:=⟨aX [(0,.sl 0 none false)],aG [(0,.row Z14 34 false A)]⟩
def LE (M:BA):FState:=⟨aX [(2,.dat .str M)],aG []⟩
def mI:List NE:=[.keep 2]
def IW:List (Nat×bF):=[(37,EW n),(38,JH n),(39,CC n)]
def BM:Ctx:={Γ0 with calls:=lkS (IW n)}
def CF:Code:=fb Tryd.f16
def BR (kr:BA→Option β) (A:List Z17):Option β:=(g37 n).bind fun V=>(g39 n A).bind fun Z=>(g38 n V.1 Z.1).bind fun a=>kr a.1
def uT:FS1 β:=FXs (BM n) n CF none (some mI) [] [2,6,7]
theorem AU (A:List Z17):uT n (GB A) cx=BR n (fun M=>cx.ret (LE M)) A:=by kernel_rfl
def g16 (A:List Z17):Option (DenR [.dat .str]):=BR n (fun M=>some (M,())) A
def IZ:List AK:=[.ro Z14 34]
def EZ:List RK:=[.dat .str]
def ME (d:DenA IZ):Option (DenR EZ):=g16 n d.1
def IY:bF:=bT IZ EZ (ME n)
def IK:Sk:=(.nd (.fin none none (some mI) [] .leaf) (.nd (.fin none none (some mI) [] .leaf) (.fin none none (some mI) [] .leaf)))
theorem HS (s:FState) (cx:Cx β):FX (BM n) n CF IK s cx=uT n s cx:=by kernel_rfl
theorem HZ:Fit Tryd.prog 16 (IY n):=
  cZ (Γ:=Γ0) (l:=IW n) (n:=n) (sk:=IK) (ts:=[(2,none)]) (fn:=Tryd.f16) (c:=CF) (by kernel_rfl) (by kernel_rfl) (by unfold aZ;kernel_rfl) tab_ok ⟨yK n,IH n,yI n,trivial⟩ aT (by kernel_rfl) (by kernel_rfl) (Nat.le_of_ble_eq_true (by kernel_rfl)) (Nat.le_of_ble_eq_true (by kernel_rfl)) (by kernel_rfl) (by kernel_rfl)
    (fun d=>(HS n _ _).trans (Eq.trans (b:=uT n (GB d.1) (dQ (BM n) EZ [(2,none)])) (by kernel_rfl) ((AU n _ d.1).trans (by kernel_rfl))))
def wK (A:List Z17):FState:=⟨aX [(0,.sl 0 none false)],aG [(0,.row Z14 34 false A)]⟩
def CM (M:BA):FState:=⟨aX [(2,.dat .str M)],aG []⟩
def qW:List NE:=[.keep 2]
def kM (F:BA) (C:List Z17) (L B:Int):FState:=⟨aX [(3,.dat .str F),(6,.sl 6 none false),(7,.dat (.int .i64) L),(8,.dat (.int .i64) B)],aG [(6,.row Z14 34 false C)]⟩
def mB:List NE:=[.keep 3,.row 6 Z14 34 false,.keep 7,.keep 8]
def oM (F:BA):FState:=⟨aX [(3,.dat .str F)],aG []⟩
def kI:List NE:=[.keep 3]
def JV (n:Nat):List (Nat×bF):=[]
def tU:Ctx:={Γ0 with calls:=lkS (JV n)}
def sY:Code:=fb Tryd.f17
def JP (n:Nat) (kn:BA→List Z17→Int→Int→Option β) (A:List Z17):Option β:=kn (⟨#[]⟩:BA) A (A.length:Int) (0:Int)
def FW:FS1 β:=FXs (tU n) n sY (some mB) none [] [2,6,28]
theorem DP (A:List Z17):FW n (wK A) cx=JP n (fun F C L B=>cx.nrm (kM F C L B)) A:=by kernel_rfl
def xM (n:Nat) (kn:BA→List Z17→Int→Int→Option β) (P:BA→Option β) (F:BA) (C:List Z17) (L B:Int):Option β:=bif (decide (B < L)) then (idx B (C.length:Int)<|bif ((rd [(rd C B Z10)] (0:Int) Z10).1 !=(1:Int)) then (eI (F.size+((rd [(rd C B Z10)] (0:Int) Z10).2).size)<|kn (F++(rd [(rd C B Z10)] (0:Int) Z10).2) C L (w64 (B+1))) else (kn F C L (w64 (B+1)))) else (P F)
def vJ:FS1 β:=FXs (tU n) n sY (some mB) none [(0,kI)] [232,466,934,935]
theorem FN (F:BA) (C:List Z17) (L B:Int):vJ n (kM F C L B) cx=xM n (fun F C L B=>cx.nrm (kM F C L B)) (fun F=>cx.ex 0 (oM F)) F C L B:=by kernel_rfl
def g17_3L (n:Nat) (P:BA→Option β):Nat→BA→List Z17→Int→Int→Option β
  | 0,_,_,_,_=>none
  | m+1,F,C,L,B=>xM n (g17_3L n P m) P F C L B
def JI (P:BA→Option β) (F:BA) (C:List Z17) (L B:Int):Option β:=g17_3L n P n F C L B
def FS (s:FState) (cx:Cx β):Option β:=cA (fun again s=>vJ n s {cx with nrm:=again}) n s
theorem yT (n:Nat) (cx:Cx β):∀(m:Nat) (F:BA) (C:List Z17) (L B:Int),cA (fun again s=>vJ n s {cx with nrm:=again}) m (kM F C L B)=g17_3L n (fun F=>cx.ex 0 (oM F)) m F C L B:=by
  intro m
  induction m with
  | zero=>intros;rfl
  | succ m ih=>intros;simp only [cA,g17_3L,FN,ih]
theorem FG (F:BA) (C:List Z17) (L B:Int):FS n (kM F C L B) cx=JI n (fun F=>cx.ex 0 (oM F)) F C L B:=yT n cx n F C L B
def JK (kn:BA→Option β) (F:BA) (C:List Z17) (L B:Int):Option β:=JI n kn F C L B
def FC (s:FState) (cx:Cx β):Option β:=FS n s {cx with ex:=fun j s=>bif Nat.beq j 0 then cx.nrm s else cx.ex j s}
theorem AI (F:BA) (C:List Z17) (L B:Int):FC n (kM F C L B) cx=JK n (fun F=>cx.nrm (oM F)) F C L B:=FG n _ F C L B
def JM (n:Nat) (kr:BA→Option β) (F:BA):Option β:=kr F
def FP:FS1 β:=FXs (tU n) n sY none (some qW) [] [30,31]
theorem BJ (F:BA):FP n (oM F) cx=JM n (fun M=>cx.ret (CM M)) F:=by kernel_rfl
def BS (kr:BA→Option β) (A:List Z17):Option β:=JP n (fun F C L B=>JK n (fun F=>JM n kr F) F C L B) A
def sC (s:FState) (cx:Cx β):Option β:=FW n s {cx with nrm:=fun s=>FC n s {cx with nrm:=fun s=>FP n s cx}}
theorem FI (A:List Z17):sC n (wK A) cx=BS n (fun M=>cx.ret (CM M)) A:=by simp only [sC,BS,DP,AI,BJ]
def g17 (A:List Z17):Option (DenR [.dat .str]):=BS n (fun M=>some (M,())) A
def KN:List AK:=[.ro Z14 34]
def AL:List RK:=[.dat .str]
def MG (d:DenA KN):Option (DenR AL):=g17 n d.1
def JO:bF:=bT KN AL (MG n)
def KY:Sk:=(.nd (.fin none none none [] .leaf) (.nd (.fin none none none [] .leaf) (.nd (.nd (.fin none (some mB) none [] .leaf) (.nd (.nd (.nd (.fin none none none [(0,kI)] .leaf) (.nd (.fin none none none [(0,kI)] .leaf) (.nd (.fin none none none [(0,kI)] .leaf) (.fin none (some mB) none [(0,kI)] .leaf)))) .leaf) .leaf)) (.nd (.fin none none (some qW) [] .leaf) (.fin none none (some qW) [] .leaf)))))
theorem GV (s:FState) (cx:Cx β):FX (tU n) n sY KY s cx=sC n s cx:=by kernel_rfl
theorem HW:Fit Tryd.prog 17 (JO n):=
  cZ (Γ:=Γ0) (l:=JV n) (n:=n) (sk:=KY) (ts:=[(2,none)]) (fn:=Tryd.f17) (c:=sY) (by kernel_rfl) (by kernel_rfl) (by unfold aZ;kernel_rfl) tab_ok trivial aT (by kernel_rfl) (by kernel_rfl) (Nat.le_of_ble_eq_true (by kernel_rfl)) (Nat.le_of_ble_eq_true (by kernel_rfl)) (by kernel_rfl) (by kernel_rfl)
    (fun d=>(GV n _ _).trans (Eq.trans (b:=sC n (wK d.1) (dQ (tU n) AL [(2,none)])) (by kernel_rfl) ((FI n _ d.1).trans (by kernel_rfl))))
def wH (U:Z6) (W:List Z17):FState:=⟨aX [(0,.ptr 0 0 0),(1,.sl 1 none false)],aG [(0,.row Z1 66 false [U]),(1,.row Z15 73 false W)]⟩
def DH (X:BA):FState:=⟨aX [(4,.dat .str X)],aG []⟩
def rB:List NE:=[.keep 4]
def lB (G:List Int) (H I:Int) (E:List Z17) (J D:Int):FState:=⟨aX [(5,.cp 5 0),(1000005,.sl 1000005 none false),(2000005,.dat (.int .i64) H),(3000005,.dat (.int .i8) I),(8,.sl 8 none false),(9,.dat (.int .i64) J),(10,.dat (.int .i64) D)],aG [(5,.cell Z5 70),(1000005,.row (.int .u8) 5 true G),(8,.row Z15 73 false E)]⟩
def mE:List NE:=[.cell 5 Z5 70,.row 1000005 (.int .u8) 5 true,.keep 2000005,.keep 3000005,.row 8 Z15 73 false,.keep 9,.keep 10]
def oJ (G:List Int) (H I:Int):FState:=⟨aX [(5,.cp 5 0),(1000005,.sl 1000005 none false),(2000005,.dat (.int .i64) H),(3000005,.dat (.int .i8) I)],aG [(5,.cell Z5 70),(1000005,.row (.int .u8) 5 true G)]⟩
def kG:List NE:=[.cell 5 Z5 70,.row 1000005 (.int .u8) 5 true,.keep 2000005,.keep 3000005]
def KL:List (Nat×bF):=[(52,ER n),(53,DR n)]
def tX:Ctx:={Γ0 with calls:=lkS (KL n),cel:=[5]}
def tM:Code:=fb Tryd.f40
def zZ (n:Nat) (kn:List Int→Int→Int→List Z17→Int→Int→Option β) (U:Z6) (W:List Z17):Option β:=kn [] (0:Int) (0:Int) W (W.length:Int) (0:Int)
def AV:FS1 β:=FXs (tX n) n tM (some mE) none [] [2,6,28]
theorem BU (U:Z6) (W:List Z17):AV n (wH U W) cx=zZ n (fun G H I E J D=>cx.nrm (lB G H I E J D)) U W:=by kernel_rfl
def xF (kn:List Int→Int→Int→List Z17→Int→Int→Option β) (P:List Int→Int→Int→Option β) (G:List Int) (H I:Int) (E:List Z17) (J D:Int):Option β:=bif (decide (D < J)) then (idx D (E.length:Int)<|bif ((rd [(rd E D Z10)] (0:Int) Z10).1 !=(-1:Int)) then ((g52 n (G,(H,I)) ((rd [(rd E D Z10)] (0:Int) Z10).2)).bind fun V=>kn V.2.1.1 V.2.1.2.1 V.2.1.2.2 E J (w64 (D+1))) else (kn G H I E J (w64 (D+1)))) else (P G H I)
def wN:FS1 β:=FXs (tX n) n tM (some mE) none [(0,kG)] [232,466,934,935]
theorem FR (G:List Int) (H I:Int) (E:List Z17) (J D:Int):wN n (lB G H I E J D) cx=xF n (fun G H I E J D=>cx.nrm (lB G H I E J D)) (fun G H I=>cx.ex 0 (oJ G H I)) G H I E J D:=by kernel_rfl
def g40_3L (n:Nat) (P:List Int→Int→Int→Option β):Nat→List Int→Int→Int→List Z17→Int→Int→Option β
  | 0,_,_,_,_,_,_=>none
  | m+1,G,H,I,E,J,D=>xF n (g40_3L n P m) P G H I E J D
def GQ (P:List Int→Int→Int→Option β) (G:List Int) (H I:Int) (E:List Z17) (J D:Int):Option β:=g40_3L n P n G H I E J D
def BX (s:FState) (cx:Cx β):Option β:=cA (fun again s=>wN n s {cx with nrm:=again}) n s
theorem zL (n:Nat) (cx:Cx β):∀(m:Nat) (G:List Int) (H I:Int) (E:List Z17) (J D:Int),cA (fun again s=>wN n s {cx with nrm:=again}) m (lB G H I E J D)=g40_3L n (fun G H I=>cx.ex 0 (oJ G H I)) m G H I E J D:=by
  intro m
  induction m with
  | zero=>intros;rfl
  | succ m ih=>intros;simp only [cA,g40_3L,FR,ih]
theorem AN (G:List Int) (H I:Int) (E:List Z17) (J D:Int):BX n (lB G H I E J D) cx=GQ n (fun G H I=>cx.ex 0 (oJ G H I)) G H I E J D:=zL n cx n G H I E J D
def CP (kn:List Int→Int→Int→Option β) (G:List Int) (H I:Int) (E:List Z17) (J D:Int):Option β:=GQ n kn G H I E J D
def DQ (s:FState) (cx:Cx β):Option β:=BX n s {cx with ex:=fun j s=>bif Nat.beq j 0 then cx.nrm s else cx.ex j s}
theorem DA (G:List Int) (H I:Int) (E:List Z17) (J D:Int):DQ n (lB G H I E J D) cx=CP n (fun G H I=>cx.nrm (oJ G H I)) G H I E J D:=AN n _ G H I E J D
def xW (kr:BA→Option β) (G:List Int) (H I:Int):Option β:=(g53 n (G,(H,I))).bind fun V=>kr V.1.1
def zY:FS1 β:=FXs (tX n) n tM none (some rB) [] [30,31]
theorem CQ (G:List Int) (H I:Int):zY n (oJ G H I) cx=xW n (fun X=>cx.ret (DH X)) G H I:=by kernel_rfl
def xP (kr:BA→Option β) (U:Z6) (W:List Z17):Option β:=zZ n (fun G H I E J D=>CP n (fun G H I=>xW n kr G H I) G H I E J D) U W
def qY (s:FState) (cx:Cx β):Option β:=AV n s {cx with nrm:=fun s=>DQ n s {cx with nrm:=fun s=>zY n s cx}}
theorem AD (U:Z6) (W:List Z17):qY n (wH U W) cx=xP n (fun X=>cx.ret (DH X)) U W:=by simp only [qY,xP,BU,DA,CQ]
def g40 (U:Z6) (W:List Z17):Option (DenR [.dat .str]):=xP n (fun X=>some (X,())) U W
def KD:List AK:=[.pro Z1 66,.ro Z15 73]
def yC:List RK:=[.dat .str]
def NH (d:DenA KD):Option (DenR yC):=g40 n d.1 d.2.1
def KE:bF:=bT KD yC (NH n)
def IP:Sk:=(.nd (.fin none none none [] .leaf) (.nd (.fin none none none [] .leaf) (.nd (.nd (.fin none (some mE) none [] .leaf) (.nd (.nd (.nd (.fin none none none [(0,kG)] .leaf) (.nd (.fin none none none [(0,kG)] .leaf) (.nd (.fin none none none [(0,kG)] .leaf) (.fin none (some mE) none [(0,kG)] .leaf)))) .leaf) .leaf)) (.nd (.fin none none (some rB) [] .leaf) (.fin none none (some rB) [] .leaf)))))
theorem HD (s:FState) (cx:Cx β):FX (tX n) n tM IP s cx=qY n s cx:=by kernel_rfl
theorem HF:Fit Tryd.prog 40 (KE n):=
  cZ (Γ:={Γ0 with cel:=[5]}) (l:=KL n) (n:=n) (sk:=IP) (ts:=[(4,none)]) (fn:=Tryd.f40) (c:=tM) (by kernel_rfl) (by kernel_rfl) (by unfold aZ;kernel_rfl) (GJ tab_ok [5]) ⟨xY n,xZ n,trivial⟩ aT (by kernel_rfl) (by kernel_rfl) (Nat.le_of_ble_eq_true (by kernel_rfl)) (Nat.le_of_ble_eq_true (by kernel_rfl)) (by kernel_rfl) (by kernel_rfl)
    (fun d=>(HD n _ _).trans (Eq.trans (b:=qY n (wH d.1 d.2.1) (dQ (tX n) yC [(4,none)])) (by kernel_rfl) ((AD n _ d.1 d.2.1).trans (by kernel_rfl))))
def AW (A:List Z17):FState:=⟨aX [(0,.sl 0 none false)],aG [(0,.row Z14 34 false A)]⟩
def LH (M:BA):FState:=⟨aX [(2,.dat .str M)],aG []⟩
def mL:List NE:=[.keep 2]
def KG:List (Nat×bF):=[(37,EW n),(39,CC n),(40,KE n)]
def CJ:Ctx:={Γ0 with calls:=lkS (KG n)}
def CR:Code:=fb Tryd.f18
def DX (kr:BA→Option β) (A:List Z17):Option β:=(g37 n).bind fun V=>(g39 n A).bind fun Z=>(g40 n V.1 Z.1).bind fun a=>kr a.1
def vC:FS1 β:=FXs (CJ n) n CR none (some mL) [] [2,6,7]
theorem GM (A:List Z17):vC n (AW A) cx=DX n (fun M=>cx.ret (LH M)) A:=by kernel_rfl
def g18 (A:List Z17):Option (DenR [.dat .str]):=DX n (fun M=>some (M,())) A
def JZ:List AK:=[.ro Z14 34]
def DT:List RK:=[.dat .str]
def MS (d:DenA JZ):Option (DenR DT):=g18 n d.1
def JU:bF:=bT JZ DT (MS n)
def IM:Sk:=(.nd (.fin none none (some mL) [] .leaf) (.nd (.fin none none (some mL) [] .leaf) (.fin none none (some mL) [] .leaf)))
theorem HY (s:FState) (cx:Cx β):FX (CJ n) n CR IM s cx=vC n s cx:=by kernel_rfl
theorem HT:Fit Tryd.prog 18 (JU n):=
  cZ (Γ:=Γ0) (l:=KG n) (n:=n) (sk:=IM) (ts:=[(2,none)]) (fn:=Tryd.f18) (c:=CR) (by kernel_rfl) (by kernel_rfl) (by unfold aZ;kernel_rfl) tab_ok ⟨yK n,yI n,HF n,trivial⟩ aT (by kernel_rfl) (by kernel_rfl) (Nat.le_of_ble_eq_true (by kernel_rfl)) (Nat.le_of_ble_eq_true (by kernel_rfl)) (by kernel_rfl) (by kernel_rfl)
    (fun d=>(HY n _ _).trans (Eq.trans (b:=vC n (AW d.1) (dQ (CJ n) DT [(2,none)])) (by kernel_rfl) ((GM n _ d.1).trans (by kernel_rfl))))
def vW (A:List Z17):FState:=⟨aX [(0,.sl 0 none false)],aG [(0,.row Z14 34 false A)]⟩
def EM (M:BA):FState:=⟨aX [(2,.dat .str M)],aG []⟩
def rP:List NE:=[.keep 2]
def kR (F:BA) (C:List Z17) (L B:Int):FState:=⟨aX [(3,.dat .str F),(6,.sl 6 none false),(7,.dat (.int .i64) L),(8,.dat (.int .i64) B)],aG [(6,.row Z14 34 false C)]⟩
def mM:List NE:=[.keep 3,.row 6 Z14 34 false,.keep 7,.keep 8]
def mW (F:BA):FState:=⟨aX [(3,.dat .str F)],aG []⟩
def jT:List NE:=[.keep 3]
def KC (n:Nat):List (Nat×bF):=[]
def tE:Ctx:={Γ0 with calls:=lkS (KC n)}
def tH:Code:=fb Tryd.f19
def LB (n:Nat) (kn:BA→List Z17→Int→Int→Option β) (A:List Z17):Option β:=kn (⟨#[]⟩:BA) A (A.length:Int) (0:Int)
def ET:FS1 β:=FXs (tE n) n tH (some mM) none [] [2,6,28]
theorem FT (A:List Z17):ET n (vW A) cx=LB n (fun F C L B=>cx.nrm (kR F C L B)) A:=by kernel_rfl
def xO (n:Nat) (kn:BA→List Z17→Int→Int→Option β) (P:BA→Option β) (F:BA) (C:List Z17) (L B:Int):Option β:=bif (decide (B < L)) then (idx B (C.length:Int)<|bif ((rd [(rd C B Z10)] (0:Int) Z10).1 !=(-1:Int)) then (eI (F.size+((rd [(rd C B Z10)] (0:Int) Z10).2).size)<|kn (F++(rd [(rd C B Z10)] (0:Int) Z10).2) C L (w64 (B+1))) else (kn F C L (w64 (B+1)))) else (P F)
def vG:FS1 β:=FXs (tE n) n tH (some mM) none [(0,jT)] [232,466,934,935]
theorem DY (F:BA) (C:List Z17) (L B:Int):vG n (kR F C L B) cx=xO n (fun F C L B=>cx.nrm (kR F C L B)) (fun F=>cx.ex 0 (mW F)) F C L B:=by kernel_rfl
def g19_3L (n:Nat) (P:BA→Option β):Nat→BA→List Z17→Int→Int→Option β
  | 0,_,_,_,_=>none
  | m+1,F,C,L,B=>xO n (g19_3L n P m) P F C L B
def KH (P:BA→Option β) (F:BA) (C:List Z17) (L B:Int):Option β:=g19_3L n P n F C L B
def DD (s:FState) (cx:Cx β):Option β:=cA (fun again s=>vG n s {cx with nrm:=again}) n s
theorem yY (n:Nat) (cx:Cx β):∀(m:Nat) (F:BA) (C:List Z17) (L B:Int),cA (fun again s=>vG n s {cx with nrm:=again}) m (kR F C L B)=g19_3L n (fun F=>cx.ex 0 (mW F)) m F C L B:=by
  intro m
  induction m with
  | zero=>intros;rfl
  | succ m ih=>intros;simp only [cA,g19_3L,DY,ih]
theorem AB (F:BA) (C:List Z17) (L B:Int):DD n (kR F C L B) cx=KH n (fun F=>cx.ex 0 (mW F)) F C L B:=yY n cx n F C L B
def KV (kn:BA→Option β) (F:BA) (C:List Z17) (L B:Int):Option β:=KH n kn F C L B
def GE (s:FState) (cx:Cx β):Option β:=DD n s {cx with ex:=fun j s=>bif Nat.beq j 0 then cx.nrm s else cx.ex j s}
theorem CE (F:BA) (C:List Z17) (L B:Int):GE n (kR F C L B) cx=KV n (fun F=>cx.nrm (mW F)) F C L B:=AB n _ F C L B
def KK (n:Nat) (kr:BA→Option β) (F:BA):Option β:=kr F
def BH:FS1 β:=FXs (tE n) n tH none (some rP) [] [30,31]
theorem BF (F:BA):BH n (mW F) cx=KK n (fun M=>cx.ret (EM M)) F:=by kernel_rfl
def BN (kr:BA→Option β) (A:List Z17):Option β:=LB n (fun F C L B=>KV n (fun F=>KK n kr F) F C L B) A
def qK (s:FState) (cx:Cx β):Option β:=ET n s {cx with nrm:=fun s=>GE n s {cx with nrm:=fun s=>BH n s cx}}
theorem AO (A:List Z17):qK n (vW A) cx=BN n (fun M=>cx.ret (EM M)) A:=by simp only [qK,BN,FT,CE,BF]
def g19 (A:List Z17):Option (DenR [.dat .str]):=BN n (fun M=>some (M,())) A
def KA:List AK:=[.ro Z14 34]
def BQ:List RK:=[.dat .str]
def NA (d:DenA KA):Option (DenR BQ):=g19 n d.1
def JD:bF:=bT KA BQ (NA n)
def IU:Sk:=(.nd (.fin none none none [] .leaf) (.nd (.fin none none none [] .leaf) (.nd (.nd (.fin none (some mM) none [] .leaf) (.nd (.nd (.nd (.fin none none none [(0,jT)] .leaf) (.nd (.fin none none none [(0,jT)] .leaf) (.nd (.fin none none none [(0,jT)] .leaf) (.fin none (some mM) none [(0,jT)] .leaf)))) .leaf) .leaf)) (.nd (.fin none none (some rP) [] .leaf) (.fin none none (some rP) [] .leaf)))))
theorem HJ (s:FState) (cx:Cx β):FX (tE n) n tH IU s cx=qK n s cx:=by kernel_rfl
theorem HB:Fit Tryd.prog 19 (JD n):=
  cZ (Γ:=Γ0) (l:=KC n) (n:=n) (sk:=IU) (ts:=[(2,none)]) (fn:=Tryd.f19) (c:=tH) (by kernel_rfl) (by kernel_rfl) (by unfold aZ;kernel_rfl) tab_ok trivial aT (by kernel_rfl) (by kernel_rfl) (Nat.le_of_ble_eq_true (by kernel_rfl)) (Nat.le_of_ble_eq_true (by kernel_rfl)) (by kernel_rfl) (by kernel_rfl)
    (fun d=>(HJ n _ _).trans (Eq.trans (b:=qK n (vW d.1) (dQ (tE n) BQ [(2,none)])) (by kernel_rfl) ((AO n _ d.1).trans (by kernel_rfl))))
def KB (A:List Z17):FState:=⟨aX [(0,.sl 0 none false)],aG [(0,.row Z14 34 false A)]⟩
def MV (M:Bool):FState:=⟨aX [(2,.dat .bool M)],aG []⟩
def gI:List NE:=[.keep 2]
def ML:List (Nat×bF):=[(14,KX n),(15,KQ n),(16,IY n),(17,JO n),(18,JU n),(19,JD n)]
def LJ:Ctx:={Γ0 with calls:=lkS (ML n)}
def LU:Code:=fb Tryd.f5
def LP (kr:Bool→Option β) (A:List Z17):Option β:=(g14 n A).bind fun V=>bif (!V.1) then (kr true) else ((g15 n A (20:Int)).bind fun Z=>(g16 n Z.1).bind fun a=>(g17 n Z.1).bind fun h=>bif (eW a.1 h.1) then ((g18 n Z.1).bind fun k=>(g19 n Z.1).bind fun o=>bif (eW k.1 o.1) then ((g16 n [((-1:Int),(⟨#[97]⟩:BA)),((1:Int),(⟨#[98]⟩:BA))]).bind fun p=>bif (eW p.1 (⟨#[97]⟩:BA)) then ((g18 n [((-1:Int),(⟨#[97]⟩:BA)),((1:Int),(⟨#[98]⟩:BA))]).bind fun q=>kr (eW q.1 (⟨#[98]⟩:BA))) else (kr false)) else (kr false)) else (kr false))
def BE:FS1 β:=FXs (LJ n) n LU none (some gI) [] [2,12,13,14,30,62,63]
theorem HA (A:List Z17):BE n (KB A) cx=LP n (fun M=>cx.ret (MV M)) A:=by kernel_rfl
def g5 (A:List Z17):Option (DenR [.dat .bool]):=LP n (fun M=>some (M,())) A
def g5_A:List AK:=[.ro Z14 34]
def LI:List RK:=[.dat .bool]
def LK (d:DenA g5_A):Option (DenR LI):=g5 n d.1
def NQ:bF:=bT g5_A LI (LK n)
def NJ:Sk:=(.nd (.fin none none (some gI) [] .leaf) (.nd (.nd (.fin none none (some gI) [] .leaf) (.fin none none (some gI) [] .leaf)) (.nd (.fin none none (some gI) [] .leaf) (.nd (.fin none none (some gI) [] .leaf) (.nd (.fin none none (some gI) [] .leaf) (.fin none none (some gI) [] .leaf))))))
theorem LL (s:FState) (cx:Cx β):FX (LJ n) n LU NJ s cx=BE n s cx:=by kernel_rfl
theorem LF:Fit Tryd.prog 5 (NQ n):=
  cZ (Γ:=Γ0) (l:=ML n) (n:=n) (sk:=NJ) (ts:=[(2,none)]) (fn:=Tryd.f5) (c:=LU) (by kernel_rfl) (by kernel_rfl) (by unfold aZ;kernel_rfl) tab_ok ⟨IA n,HN n,HZ n,HW n,HT n,HB n,trivial⟩ aT (by kernel_rfl) (by kernel_rfl) (Nat.le_of_ble_eq_true (by kernel_rfl)) (Nat.le_of_ble_eq_true (by kernel_rfl)) (by kernel_rfl) (by kernel_rfl)
    (fun d=>(LL n _ _).trans (Eq.trans (b:=BE n (KB d.1) (dQ (LJ n) LI [(2,none)])) (by kernel_rfl) ((HA n _ d.1).trans (by kernel_rfl))))
end
end
end Go.Proofs.YtoafkjeamgelgaaDoorHF
