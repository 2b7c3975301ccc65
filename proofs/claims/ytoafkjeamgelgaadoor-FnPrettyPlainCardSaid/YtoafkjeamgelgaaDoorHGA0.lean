import Derived.Test.YtoafkjeamgelgaaDoorHFT
import Derived.Test.YtoafkjeamgelgaaDoorHFE
namespace Go.Proofs.YtoafkjeamgelgaaDoorHF
noncomputable section
open Go Go.Proofs
set_option linter.unusedVariables false
set_option maxRecDepth 100000
variable {β:Type}
def OQ (A:Z16):FState:=⟨aQ [(0,.dat Z13 A)],aF []⟩
def WG (J:Bool):FState:=⟨aQ [(2,.dat .bool J)],aF []⟩
def jE:List NE:=[.keep 2]
def TY (n:Nat):List (Nat×bJ):=[]
section
variable (n:Nat) (cx:Cx β)
def KR:Ctx:={Γ0 with calls:=lkS (TY n)}
def JM:Code:=fb Tryd.f35
def MF (n:Nat) (kr:Bool→Option β) (A:Z16):Option β:=bif (decide ((A.2.size:Int)>(2147483647:Int))) then (kr false) else (kr true)
def zP:FS1 β:=FXs (KR n) n JM none (some jE) [] [2,12,13,14,15]
theorem QN (A:Z16):zP n (OQ A) cx=MF n (fun J=>cx.ret (WG J)) A:=by kernel_rfl
def g35 (A:Z16):Option (DenR [.dat .bool]):=MF n (fun J=>some (J,())) A
def SY:List AK:=[.dat Z13]
def QL:List RK:=[.dat .bool]
def XX (d:DenA SY):Option (DenR QL):=g35 n d.1
def VD:bJ:=bX SY QL (XX n)
def TE:Sk:=(.nd (.fin none none (some jE) [] .leaf) (.nd (.nd (.fin none none (some jE) [] .leaf) (.fin none none (some jE) [] .leaf)) (.nd (.fin none none (some jE) [] .leaf) (.fin none none (some jE) [] .leaf))))
theorem SS (s:FState) (cx:Cx β):FX (KR n) n JM TE s cx=zP n s cx:=by kernel_rfl
theorem QX:Fit Tryd.prog 35 (VD n):=
  dI (Γ:=Γ0) (l:=TY n) (n:=n) (sk:=TE) (ts:=[(2,none)]) (fn:=Tryd.f35) (c:=JM) (by kernel_rfl) (by kernel_rfl) (by unfold bC;kernel_rfl) tab_ok trivial aT (by kernel_rfl) (by kernel_rfl) (Nat.le_of_ble_eq_true (by kernel_rfl)) (Nat.le_of_ble_eq_true (by kernel_rfl)) (by kernel_rfl) (by kernel_rfl)
    (fun d=>(SS n _ _).trans (Eq.trans (b:=zP n (OQ d.1) (eC (KR n) QL [(2,none)])) (by kernel_rfl) ((QN n _ d.1).trans (by kernel_rfl))))
def zG (N:List Z16):FState:=⟨aQ [(0,.sl 0 none false)],aF [(0,.row Z13 34 false N)]⟩
def jT (J:Bool):FState:=⟨aQ [(2,.dat .bool J)],aF []⟩
def dC:List NE:=[.keep 2]
def mI (v:List Z16) (M u:Int):FState:=⟨aQ [(8,.sl 8 none false),(9,.dat (.int .i64) M),(10,.dat (.int .i64) u)],aF [(8,.row Z13 34 false v)]⟩
def oF:List NE:=[.row 8 Z13 34 false,.keep 9,.keep 10]
def qV:FState:=⟨aQ [],aF []⟩
def lG:List NE:=[]
def TP:List (Nat×bJ):=[(35,VD n)]
def wM:Ctx:={Γ0 with calls:=lkS (TP n)}
def xV:Code:=fb Tryd.f14
def NZ (n:Nat) (kn:List Z16→Int→Int→Option β) (kr:Bool→Option β) (N:List Z16):Option β:=bif (decide ((N.length:Int)>(2147483647:Int))) then (kr false) else (kn N (N.length:Int) (0:Int))
def KE:FS1 β:=FXs (wM n) n xV (some oF) (some dC) [] [2,12,13,28]
theorem LH (N:List Z16):KE n (zG N) cx=NZ n (fun v M u=>cx.nrm (mI v M u)) (fun J=>cx.ret (jT J)) N:=by kernel_rfl
def BY (kn:List Z16→Int→Int→Option β) (kr:Bool→Option β) (X:Option β) (v:List Z16) (M u:Int):Option β:=bif (decide (u < M)) then (idx u (v.length:Int)<|(g35 n (rd [(rd v u Z10)] (0:Int) Z10)).bind fun Z=>bif (!Z.1) then (kr false) else (kn v M (w64 (u+1)))) else X
def yF:FS1 β:=FXs (wM n) n xV (some oF) (some dC) [(0,lG)] [232,466,934,935]
theorem MT (v:List Z16) (M u:Int):yF n (mI v M u) cx=BY n (fun v M u=>cx.nrm (mI v M u)) (fun J=>cx.ret (jT J)) (cx.ex 0 qV) v M u:=by kernel_rfl
def g14_3L (n:Nat) (kr:Bool→Option β) (X:Option β):Nat→List Z16→Int→Int→Option β
  | 0,_,_,_=>none
  | m+1,v,M,u=>BY n (g14_3L n kr X m) kr X v M u
def TR (kr:Bool→Option β) (X:Option β) (v:List Z16) (M u:Int):Option β:=g14_3L n kr X n v M u
def JL (s:FState) (cx:Cx β):Option β:=bD (fun again s=>yF n s {cx with nrm:=again}) n s
theorem GO (n:Nat) (cx:Cx β):∀(m:Nat) (v:List Z16) (M u:Int),bD (fun again s=>yF n s {cx with nrm:=again}) m (mI v M u)=g14_3L n (fun J=>cx.ret (jT J)) (cx.ex 0 qV) m v M u:=by
  intro m
  induction m with
  | zero=>intros;rfl
  | succ m ih=>intros;simp only [bD,g14_3L,MT,ih]
theorem OY (v:List Z16) (M u:Int):JL n (mI v M u) cx=TR n (fun J=>cx.ret (jT J)) (cx.ex 0 qV) v M u:=GO n cx n v M u
def UP (kn:Option β) (kr:Bool→Option β) (v:List Z16) (M u:Int):Option β:=TR n kr kn v M u
def IC (s:FState) (cx:Cx β):Option β:=JL n s {cx with ex:=fun j s=>bif Nat.beq j 0 then cx.nrm s else cx.ex j s}
theorem QA (v:List Z16) (M u:Int):IC n (mI v M u) cx=UP n (cx.nrm qV) (fun J=>cx.ret (jT J)) v M u:=OY n _ v M u
def rZ (n:Nat) (kr:Bool→Option β):Option β:=kr true
def LX:FS1 β:=FXs (wM n) n xV none (some dC) [] [30,31]
theorem JU:LX n qV cx=rZ n (fun J=>cx.ret (jT J)):=by kernel_rfl
def CG (kr:Bool→Option β) (N:List Z16):Option β:=NZ n (fun v M u=>UP n (rZ n kr) kr v M u) kr N
def uR (s:FState) (cx:Cx β):Option β:=KE n s {cx with nrm:=fun s=>IC n s {cx with nrm:=fun s=>LX n s cx}}
theorem HS (N:List Z16):uR n (zG N) cx=CG n (fun J=>cx.ret (jT J)) N:=by simp only [uR,CG,LH,QA,JU]
def g14 (N:List Z16):Option (DenR [.dat .bool]):=CG n (fun J=>some (J,())) N
def UM:List AK:=[.ro Z13 34]
def IW:List RK:=[.dat .bool]
def YH (d:DenA UM):Option (DenR IW):=g14 n d.1
def UT:bJ:=bX UM IW (YH n)
def UW:Sk:=(.nd (.fin none none (some dC) [] .leaf) (.nd (.nd (.fin none none (some dC) [] .leaf) (.fin none none (some dC) [] .leaf)) (.nd (.nd (.fin none (some oF) (some dC) [] .leaf) (.nd (.nd (.nd (.fin none none (some dC) [(0,lG)] .leaf) (.nd (.fin none none (some dC) [(0,lG)] .leaf) (.nd (.fin none none (some dC) [(0,lG)] .leaf) (.fin none (some oF) (some dC) [(0,lG)] .leaf)))) .leaf) .leaf)) (.nd (.fin none none (some dC) [] .leaf) (.fin none none (some dC) [] .leaf)))))
theorem QS (s:FState) (cx:Cx β):FX (wM n) n xV UW s cx=uR n s cx:=by kernel_rfl
theorem QP:Fit Tryd.prog 14 (UT n):=
  dI (Γ:=Γ0) (l:=TP n) (n:=n) (sk:=UW) (ts:=[(2,none)]) (fn:=Tryd.f14) (c:=xV) (by kernel_rfl) (by kernel_rfl) (by unfold bC;kernel_rfl) tab_ok ⟨QX n,trivial⟩ aT (by kernel_rfl) (by kernel_rfl) (Nat.le_of_ble_eq_true (by kernel_rfl)) (Nat.le_of_ble_eq_true (by kernel_rfl)) (by kernel_rfl) (by kernel_rfl)
    (fun d=>(QS n _ _).trans (Eq.trans (b:=uR n (zG d.1) (eC (wM n) IW [(2,none)])) (by kernel_rfl) ((HS n _ d.1).trans (by kernel_rfl))))
def IR (A:BA):FState:=⟨aQ [(0,.dat .str A)],aF []⟩
def WU (x2:List Int):FState:=⟨aQ [(2,.sl 2 none false)],aF [(2,.row (.int .i32) 21 true x2)]⟩
def oC:List NE:=[.row 2 (.int .i32) 21 true]
def TS (n:Nat):List (Nat×bJ):=[]
def PX:Ctx:={Γ0 with calls:=lkS (TS n)}
def QI:Code:=fb Tryd.f51
def MJ (n:Nat) (kr:List Int→Option β) (A:BA):Option β:=zB A<|kr (bN A)
def zI:FS1 β:=FXs (PX n) n QI none (some oC) [] [2,6,7]
theorem LO (A:BA):zI n (IR A) cx=MJ n (fun x2=>cx.ret (WU x2)) A:=by kernel_rfl
def g51 (A:BA):Option (DenR [.rw (.int .i32) 21]):=MJ n (fun x2=>some (x2,())) A
def TB:List AK:=[.dat .str]
def PC:List RK:=[.rw (.int .i32) 21]
def XR (d:DenA TB):Option (DenR PC):=g51 n d.1
def UJ:bJ:=bX TB PC (XR n)
def UF:Sk:=(.nd (.fin none none (some oC) [] .leaf) (.nd (.fin none none (some oC) [] .leaf) (.fin none none (some oC) [] .leaf)))
theorem SG (s:FState) (cx:Cx β):FX (PX n) n QI UF s cx=zI n s cx:=by kernel_rfl
theorem SC:Fit Tryd.prog 51 (UJ n):=
  dI (Γ:=Γ0) (l:=TS n) (n:=n) (sk:=UF) (ts:=[(2,none)]) (fn:=Tryd.f51) (c:=QI) (by kernel_rfl) (by kernel_rfl) (by unfold bC;kernel_rfl) tab_ok trivial aT (by kernel_rfl) (by kernel_rfl) (Nat.le_of_ble_eq_true (by kernel_rfl)) (Nat.le_of_ble_eq_true (by kernel_rfl)) (by kernel_rfl) (by kernel_rfl)
    (fun d=>(SG n _ _).trans (Eq.trans (b:=zI n (IR d.1) (eC (PX n) PC [(2,none)])) (by kernel_rfl) ((LO n _ d.1).trans (by kernel_rfl))))
def IE (A:BA) (O:Int):FState:=⟨aQ [(0,.dat .str A),(1,.dat (.int .i64) O)],aF []⟩
def WM (P:BA):FState:=⟨aQ [(4,.dat .str P)],aF []⟩
def lD:List NE:=[.keep 4]
def UK:List (Nat×bJ):=[(51,UJ n)]
def NN:Ctx:={Γ0 with calls:=lkS (UK n)}
def PP:Code:=fb Tryd.f36
def NX (kr:BA→Option β) (A:BA) (O:Int):Option β:=(g51 n A).bind fun Z=>bnd (0:Int) (rG (Z.1.length:Int) O) (Z.1.length:Int)<|kr (runesBytes (cut Z.1 (0:Int) ((0:Int)+((rG (Z.1.length:Int) O) - (0:Int)))))
def BB:FS1 β:=FXs (NN n) n PP none (some lD) [] [2,6,14,15]
theorem MM (A:BA) (O:Int):BB n (IE A O) cx=NX n (fun P=>cx.ret (WM P)) A O:=by kernel_rfl
def g36 (A:BA) (O:Int):Option (DenR [.dat .str]):=NX n (fun P=>some (P,())) A O
def VY:List AK:=[.dat .str,.dat (.int .i64)]
def IG:List RK:=[.dat .str]
def YE (d:DenA VY):Option (DenR IG):=g36 n d.1 d.2.1
def TK:bJ:=bX VY IG (YE n)
def UD:Sk:=(.nd (.fin none none (some lD) [] .leaf) (.nd (.fin none none (some lD) [] .leaf) (.nd (.fin none none (some lD) [] .leaf) (.fin none none (some lD) [] .leaf))))
theorem SN (s:FState) (cx:Cx β):FX (NN n) n PP UD s cx=BB n s cx:=by kernel_rfl
theorem RL:Fit Tryd.prog 36 (TK n):=
  dI (Γ:=Γ0) (l:=UK n) (n:=n) (sk:=UD) (ts:=[(4,none)]) (fn:=Tryd.f36) (c:=PP) (by kernel_rfl) (by kernel_rfl) (by unfold bC;kernel_rfl) tab_ok ⟨SC n,trivial⟩ aT (by kernel_rfl) (by kernel_rfl) (Nat.le_of_ble_eq_true (by kernel_rfl)) (Nat.le_of_ble_eq_true (by kernel_rfl)) (by kernel_rfl) (by kernel_rfl)
    (fun d=>(SN n _ _).trans (Eq.trans (b:=BB n (IE d.1 d.2.1) (eC (NN n) IG [(4,none)])) (by kernel_rfl) ((MM n _ d.1 d.2.1).trans (by kernel_rfl))))
def AS (N:List Z16) (O:Int):FState:=⟨aQ [(0,.sl 0 none false),(1,.dat (.int .i64) O)],aF [(0,.row Z13 34 false N)]⟩
def IJ (x4:List Z16):FState:=⟨aQ [(4,.sl 4 none false)],aF [(4,.row Z13 34 true x4)]⟩
def vD:List NE:=[.row 4 Z13 34 true]
def mS (N:List Z16) (O:Int) (Q:List Z16) (S:Int):FState:=⟨aQ [(0,.sl 0 none false),(1,.dat (.int .i64) O),(5,.sl 5 none false),(6,.dat (.int .i64) S)],aF [(0,.row Z13 34 false N),(5,.row Z13 34 true Q)]⟩
def oR:List NE:=[.row 0 Z13 34 false,.keep 1,.row 5 Z13 34 true,.keep 6]
def qF (Q:List Z16):FState:=⟨aQ [(5,.sl 5 none false)],aF [(5,.row Z13 34 true Q)]⟩
def kO:List NE:=[.row 5 Z13 34 true]
def TA:List (Nat×bJ):=[(36,TK n)]
def vY:Ctx:={Γ0 with calls:=lkS (TA n)}
def yB:Code:=fb Tryd.f15
def NV (n:Nat) (kn:List Z16→Int→List Z16→Int→Option β) (N:List Z16) (O:Int):Option β:=kn N O [] (0:Int)
def JY:FS1 β:=FXs (vY n) n yB (some oR) none [] [2,6,28]
theorem PF (N:List Z16) (O:Int):JY n (AS N O) cx=NV n (fun N O Q S=>cx.nrm (mS N O Q S)) N O:=by kernel_rfl
def DC (kn:List Z16→Int→List Z16→Int→Option β) (X:List Z16→Option β) (N:List Z16) (O:Int) (Q:List Z16) (S:Int):Option β:=bif (decide (S < (N.length:Int))) then (bif (decide (S < O)) then (idx S (N.length:Int)<|bif ((((rd N S Z10).1).tmod (3:Int))==(2:Int)) then (idx S (N.length:Int)<|(g36 n ((rd N S Z10).2) (30:Int)).bind fun Z=>dS (Q.length+[((w64 ((w64 (0 - (((rd N S Z10).1).tmod (3:Int)))).tdiv (2:Int))),Z.1)].length)<|kn N O (Q++[((w64 ((w64 (0 - (((rd N S Z10).1).tmod (3:Int)))).tdiv (2:Int))),Z.1)]) (w64 (S+1))) else (bif ((((rd N S Z10).1).tmod (3:Int))==(-2:Int)) then (idx S (N.length:Int)<|(g36 n ((rd N S Z10).2) (30:Int)).bind fun r2=>dS (Q.length+[((w64 ((w64 (0 - (((rd N S Z10).1).tmod (3:Int)))).tdiv (2:Int))),r2.1)].length)<|kn N O (Q++[((w64 ((w64 (0 - (((rd N S Z10).1).tmod (3:Int)))).tdiv (2:Int))),r2.1)]) (w64 (S+1))) else (idx S (N.length:Int)<|(g36 n ((rd N S Z10).2) (30:Int)).bind fun r3=>dS (Q.length+[((((rd N S Z10).1).tmod (3:Int)),r3.1)].length)<|kn N O (Q++[((((rd N S Z10).1).tmod (3:Int)),r3.1)]) (w64 (S+1))))) else (X Q)) else (X Q)
def AT:FS1 β:=FXs (vY n) n yB (some oR) none [(0,kO)] [464,465,466,467]
theorem QE (N:List Z16) (O:Int) (Q:List Z16) (S:Int):AT n (mS N O Q S) cx=DC n (fun N O Q S=>cx.nrm (mS N O Q S)) (fun Q=>cx.ex 0 (qF Q)) N O Q S:=by kernel_rfl
def g15_3L (n:Nat) (X:List Z16→Option β):Nat→List Z16→Int→List Z16→Int→Option β
  | 0,_,_,_,_=>none
  | m+1,N,O,Q,S=>DC n (g15_3L n X m) X N O Q S
def NL (X:List Z16→Option β) (N:List Z16) (O:Int) (Q:List Z16) (S:Int):Option β:=g15_3L n X n N O Q S
def JJ (s:FState) (cx:Cx β):Option β:=bD (fun again s=>AT n s {cx with nrm:=again}) n s
theorem EM (n:Nat) (cx:Cx β):∀(m:Nat) (N:List Z16) (O:Int) (Q:List Z16) (S:Int),bD (fun again s=>AT n s {cx with nrm:=again}) m (mS N O Q S)=g15_3L n (fun Q=>cx.ex 0 (qF Q)) m N O Q S:=by
  intro m
  induction m with
  | zero=>intros;rfl
  | succ m ih=>intros;simp only [bD,g15_3L,QE,ih]
theorem LS (N:List Z16) (O:Int) (Q:List Z16) (S:Int):JJ n (mS N O Q S) cx=NL n (fun Q=>cx.ex 0 (qF Q)) N O Q S:=EM n cx n N O Q S
def PG (kn:List Z16→Option β) (N:List Z16) (O:Int) (Q:List Z16) (S:Int):Option β:=NL n kn N O Q S
def PR (s:FState) (cx:Cx β):Option β:=JJ n s {cx with ex:=fun j s=>bif Nat.beq j 0 then cx.nrm s else cx.ex j s}
theorem QM (N:List Z16) (O:Int) (Q:List Z16) (S:Int):PR n (mS N O Q S) cx=PG n (fun Q=>cx.nrm (qF Q)) N O Q S:=LS n _ N O Q S
def OW (n:Nat) (kr:List Z16→Option β) (Q:List Z16):Option β:=kr Q
def MK:FS1 β:=FXs (vY n) n yB none (some vD) [] [30,31]
theorem NC (Q:List Z16):MK n (qF Q) cx=OW n (fun x4=>cx.ret (IJ x4)) Q:=by kernel_rfl
def EH (kr:List Z16→Option β) (N:List Z16) (O:Int):Option β:=NV n (fun N O Q S=>PG n (fun Q=>OW n kr Q) N O Q S) N O
def tX (s:FState) (cx:Cx β):Option β:=JY n s {cx with nrm:=fun s=>PR n s {cx with nrm:=fun s=>MK n s cx}}
theorem QF (N:List Z16) (O:Int):tX n (AS N O) cx=EH n (fun x4=>cx.ret (IJ x4)) N O:=by simp only [tX,EH,PF,QM,NC]
def g15 (N:List Z16) (O:Int):Option (DenR [.rw Z13 34]):=EH n (fun x4=>some (x4,())) N O
def TD:List AK:=[.ro Z13 34,.dat (.int .i64)]
def JB:List RK:=[.rw Z13 34]
def XP (d:DenA TD):Option (DenR JB):=g15 n d.1 d.2.1
def VE:bJ:=bX TD JB (XP n)
def UC:Sk:=(.nd (.fin none none none [] .leaf) (.nd (.fin none none none [] .leaf) (.nd (.nd (.fin none (some oR) none [] .leaf) (.nd (.nd (.nd (.nd (.fin none none none [(0,kO)] .leaf) (.fin none none none [(0,kO)] .leaf)) (.nd (.fin none none none [(0,kO)] .leaf) (.fin none (some oR) none [(0,kO)] .leaf))) .leaf) .leaf)) (.nd (.fin none none (some vD) [] .leaf) (.fin none none (some vD) [] .leaf)))))
theorem SI (s:FState) (cx:Cx β):FX (vY n) n yB UC s cx=tX n s cx:=by kernel_rfl
theorem RG:Fit Tryd.prog 15 (VE n):=
  dI (Γ:=Γ0) (l:=TA n) (n:=n) (sk:=UC) (ts:=[(4,none)]) (fn:=Tryd.f15) (c:=yB) (by kernel_rfl) (by kernel_rfl) (by unfold bC;kernel_rfl) tab_ok ⟨RL n,trivial⟩ aT (by kernel_rfl) (by kernel_rfl) (Nat.le_of_ble_eq_true (by kernel_rfl)) (Nat.le_of_ble_eq_true (by kernel_rfl)) (by kernel_rfl) (by kernel_rfl)
    (fun d=>(SI n _ _).trans (Eq.trans (b:=tX n (AS d.1 d.2.1) (eC (vY n) JB [(4,none)])) (by kernel_rfl) ((QF n _ d.1 d.2.1).trans (by kernel_rfl))))
def zV (N:List Z16):FState:=⟨aQ [(0,.sl 0 none false)],aF [(0,.row Z13 34 false N)]⟩
def MA (x2:List Z16):FState:=⟨aQ [(2,.sl 2 none false)],aF [(2,.row Z13 34 true x2)]⟩
def vX:List NE:=[.row 2 Z13 34 true]
def lW (G R:List Z16) (C M:Int):FState:=⟨aQ [(3,.sl 3 none false),(7,.sl 7 none false),(8,.dat (.int .i64) C),(9,.dat (.int .i64) M)],aF [(3,.row Z13 34 true G),(7,.row Z13 34 true R)]⟩
def oJ:List NE:=[.row 3 Z13 34 true,.row 7 Z13 34 true,.keep 8,.keep 9]
def qJ (G:List Z16):FState:=⟨aQ [(3,.sl 3 none false)],aF [(3,.row Z13 34 true G)]⟩
def lE:List NE:=[.row 3 Z13 34 true]
def TI:List (Nat×bJ):=[(15,VE n)]
def wG:Ctx:={Γ0 with calls:=lkS (TI n)}
def yD:Code:=fb Tryd.f22
def KG (kn:List Z16→List Z16→Int→Int→Option β) (N:List Z16):Option β:=(g15 n N (40:Int)).bind fun Z=>kn [] Z.1 (Z.1.length:Int) (0:Int)
def PA:FS1 β:=FXs (wG n) n yD (some oJ) none [] [2,6,28]
theorem IF (N:List Z16):PA n (zV N) cx=KG n (fun G R C M=>cx.nrm (lW G R C M)) N:=by kernel_rfl
def CF (n:Nat) (kn:List Z16→List Z16→Int→Int→Option β) (X:List Z16→Option β) (G R:List Z16) (C M:Int):Option β:=bif (decide (M < C)) then (idx M (R.length:Int)<|bif (!fE ((rd [(rd R M Z10)] (0:Int) Z10).2) (⟨#[]⟩:BA)) then (dS (G.length+[(rd [(rd R M Z10)] (0:Int) Z10)].length)<|kn (G++[(rd [(rd R M Z10)] (0:Int) Z10)]) R C (w64 (M+1))) else (kn G R C (w64 (M+1)))) else (X G)
def yV:FS1 β:=FXs (wG n) n yD (some oJ) none [(0,lE)] [232,466,934,935]
theorem PN (G R:List Z16) (C M:Int):yV n (lW G R C M) cx=CF n (fun G R C M=>cx.nrm (lW G R C M)) (fun G=>cx.ex 0 (qJ G)) G R C M:=by kernel_rfl
def g22_3L (n:Nat) (X:List Z16→Option β):Nat→List Z16→List Z16→Int→Int→Option β
  | 0,_,_,_,_=>none
  | m+1,G,R,C,M=>CF n (g22_3L n X m) X G R C M
def OO (X:List Z16→Option β) (G R:List Z16) (C M:Int):Option β:=g22_3L n X n G R C M
def MG (s:FState) (cx:Cx β):Option β:=bD (fun again s=>yV n s {cx with nrm:=again}) n s
theorem EP (n:Nat) (cx:Cx β):∀(m:Nat) (G R:List Z16) (C M:Int),bD (fun again s=>yV n s {cx with nrm:=again}) m (lW G R C M)=g22_3L n (fun G=>cx.ex 0 (qJ G)) m G R C M:=by
  intro m
  induction m with
  | zero=>intros;rfl
  | succ m ih=>intros;simp only [bD,g22_3L,PN,ih]
theorem KL (G R:List Z16) (C M:Int):MG n (lW G R C M) cx=OO n (fun G=>cx.ex 0 (qJ G)) G R C M:=EP n cx n G R C M
def KY (kn:List Z16→Option β) (G R:List Z16) (C M:Int):Option β:=OO n kn G R C M
def JF (s:FState) (cx:Cx β):Option β:=MG n s {cx with ex:=fun j s=>bif Nat.beq j 0 then cx.nrm s else cx.ex j s}
theorem IX (G R:List Z16) (C M:Int):JF n (lW G R C M) cx=KY n (fun G=>cx.nrm (qJ G)) G R C M:=KL n _ G R C M
def NB (n:Nat) (kr:List Z16→Option β) (G:List Z16):Option β:=kr G
def OE:FS1 β:=FXs (wG n) n yD none (some vX) [] [30,31]
theorem OB (G:List Z16):OE n (qJ G) cx=NB n (fun x2=>cx.ret (MA x2)) G:=by kernel_rfl
def DS (kr:List Z16→Option β) (N:List Z16):Option β:=KG n (fun G R C M=>KY n (fun G=>NB n kr G) G R C M) N
def vS (s:FState) (cx:Cx β):Option β:=PA n s {cx with nrm:=fun s=>JF n s {cx with nrm:=fun s=>OE n s cx}}
theorem KK (N:List Z16):vS n (zV N) cx=DS n (fun x2=>cx.ret (MA x2)) N:=by simp only [vS,DS,IF,IX,OB]
def g22 (N:List Z16):Option (DenR [.rw Z13 34]):=DS n (fun x2=>some (x2,())) N
def US:List AK:=[.ro Z13 34]
def ON:List RK:=[.rw Z13 34]
def XE (d:DenA US):Option (DenR ON):=g22 n d.1
def UI:bJ:=bX US ON (XE n)
def UN:Sk:=(.nd (.fin none none none [] .leaf) (.nd (.fin none none none [] .leaf) (.nd (.nd (.fin none (some oJ) none [] .leaf) (.nd (.nd (.nd (.fin none none none [(0,lE)] .leaf) (.nd (.fin none none none [(0,lE)] .leaf) (.nd (.fin none none none [(0,lE)] .leaf) (.fin none (some oJ) none [(0,lE)] .leaf)))) .leaf) .leaf)) (.nd (.fin none none (some vX) [] .leaf) (.fin none none (some vX) [] .leaf)))))
theorem RH (s:FState) (cx:Cx β):FX (wG n) n yD UN s cx=vS n s cx:=by kernel_rfl
theorem RY:Fit Tryd.prog 22 (UI n):=
  dI (Γ:=Γ0) (l:=TI n) (n:=n) (sk:=UN) (ts:=[(2,none)]) (fn:=Tryd.f22) (c:=yD) (by kernel_rfl) (by kernel_rfl) (by unfold bC;kernel_rfl) tab_ok ⟨RG n,trivial⟩ aT (by kernel_rfl) (by kernel_rfl) (Nat.le_of_ble_eq_true (by kernel_rfl)) (Nat.le_of_ble_eq_true (by kernel_rfl)) (by kernel_rfl) (by kernel_rfl)
    (fun d=>(RH n _ _).trans (Eq.trans (b:=vS n (zV d.1) (eC (wG n) ON [(2,none)])) (by kernel_rfl) ((KK n _ d.1).trans (by kernel_rfl))))
def BL (N:List Z16):FState:=⟨aQ [(0,.sl 0 none false)],aF [(0,.row Z13 34 false N)]⟩
def iH (J L:Bool):FState:=⟨aQ [(2,.dat .bool J),(3,.dat .bool L)],aF []⟩
def iT:List NE:=[.keep 2,.keep 3]
def cL (J L:Bool) (R:List Z16) (C M:Int):FState:=⟨aQ [(2,.dat .bool J),(3,.dat .bool L),(7,.sl 7 none false),(8,.dat (.int .i64) C),(9,.dat (.int .i64) M)],aF [(7,.row Z13 34 false R)]⟩
def eL:List NE:=[.keep 2,.keep 3,.row 7 Z13 34 false,.keep 8,.keep 9]
def fV (J L:Bool) (Y:Z16) (R:List Z16) (C M V B:Int):FState:=⟨aQ [(2,.dat .bool J),(3,.dat .bool L),(5,.ptr 5 0 0),(7,.sl 7 none false),(8,.dat (.int .i64) C),(9,.dat (.int .i64) M),(15,.dat (.int .i64) V),(16,.dat (.int .i64) B)],aF [(5,.row Z13 34 true [Y]),(7,.row Z13 34 false R)]⟩
def jB:List NE:=[.keep 2,.keep 3,.ptr 5 Z13 34 true,.row 7 Z13 34 false,.keep 8,.keep 9,.keep 15,.keep 16]
def UA (n:Nat):List (Nat×bJ):=[]
def lM:Ctx:={Γ0 with calls:=lkS (UA n)}
def lJ:Code:=fb Tryd.f26
def ML (n:Nat) (kn:Bool→Bool→List Z16→Int→Int→Option β) (N:List Z16):Option β:=kn false false N (N.length:Int) (0:Int)
def JX:FS1 β:=FXs (lM n) n lJ (some eL) none [] [2,12]
theorem IA (N:List Z16):JX n (BL N) cx=ML n (fun J L R C M=>cx.nrm (cL J L R C M)) N:=by kernel_rfl
def ED (n:Nat) (kn:Bool→Bool→List Z16→Int→Int→Option β) (X:Bool→Bool→Option β) (J L:Bool) (R:List Z16) (C M:Int):Option β:=bif (decide (M < C)) then (kn J L R C M) else (X J L)
def LP:FS1 β:=FXs (lM n) n lJ (some eL) none [(0,iT)] [104,210]
theorem KU (J L:Bool) (R:List Z16) (C M:Int):LP n (cL J L R C M) cx=ED n (fun J L R C M=>cx.nrm (cL J L R C M)) (fun J L=>cx.ex 0 (iH J L)) J L R C M:=by kernel_rfl
def HP (n:Nat) (kn:Bool→Bool→Z16→List Z16→Int→Int→Int→Int→Option β) (J L:Bool) (R:List Z16) (C M:Int):Option β:=idx M (R.length:Int)<|kn J L (rd R M Z10) R C M (((rd [(rd R M Z10)] (0:Int) Z10).2).size:Int) (0:Int)
def OT:FS1 β:=FXs (lM n) n lJ (some jB) none [] [1688,3378]
theorem KB (J L:Bool) (R:List Z16) (C M:Int):OT n (cL J L R C M) cx=HP n (fun J L Y R C M V B=>cx.nrm (fV J L Y R C M V B)) J L R C M:=by kernel_rfl
def DM (n:Nat) (kn:Bool→Bool→Z16→List Z16→Int→Int→Int→Int→Option β) (ad:Bool→Bool→List Z16→Int→Int→Option β) (J L:Bool) (Y:Z16) (R:List Z16) (C M V B:Int):Option β:=bif (decide (B < V)) then (bif J then (bif L then (kn true true Y R C M V B) else (idx B (Y.2.size:Int)<|kn true ((byteAt Y.2 B)==(27:Int)) Y R C M V B)) else (idx B (Y.2.size:Int)<|bif L then (kn ((byteAt Y.2 B)==(10:Int)) true Y R C M V B) else (idx B (Y.2.size:Int)<|kn ((byteAt Y.2 B)==(10:Int)) ((byteAt Y.2 B)==(27:Int)) Y R C M V B))) else (ad J L R C M)
def IM:FS1 β:=FXs (lM n) n lJ (some jB) none [(2,eL)] [27032,54066,108134]
theorem LL (J L:Bool) (Y:Z16) (R:List Z16) (C M V B:Int):IM n (fV J L Y R C M V B) cx=DM n (fun J L Y R C M V B=>cx.nrm (fV J L Y R C M V B)) (fun J L R C M=>cx.ex 2 (cL J L R C M)) J L Y R C M V B:=by kernel_rfl
def PY (n:Nat) (kn:Bool→Bool→Z16→List Z16→Int→Int→Int→Int→Option β) (J L:Bool) (Y:Z16) (R:List Z16) (C M V B:Int):Option β:=kn J L Y R C M V (w64 (B+1))
def QG:FS1 β:=FXs (lM n) n lJ (some jB) none [] [108135]
theorem IU (J L:Bool) (Y:Z16) (R:List Z16) (C M V B:Int):QG n (fV J L Y R C M V B) cx=PY n (fun J L Y R C M V B=>cx.nrm (fV J L Y R C M V B)) J L Y R C M V B:=by kernel_rfl
def wX (kn:Bool→Bool→Z16→List Z16→Int→Int→Int→Int→Option β) (ad:Bool→Bool→List Z16→Int→Int→Option β) (J L:Bool) (Y:Z16) (R:List Z16) (C M V B:Int):Option β:=DM n (fun J L Y R C M V B=>PY n kn J L Y R C M V B) ad J L Y R C M V B
def vJ (s:FState) (cx:Cx β):Option β:=IM n s {cx with nrm:=fun s=>QG n s cx}
theorem JP (J L:Bool) (Y:Z16) (R:List Z16) (C M V B:Int):vJ n (fV J L Y R C M V B) cx=wX n (fun J L Y R C M V B=>cx.nrm (fV J L Y R C M V B)) (fun J L R C M=>cx.ex 2 (cL J L R C M)) J L Y R C M V B:=by simp only [vJ,wX,LL,IU]
def g26_7L (n:Nat) (ad:Bool→Bool→List Z16→Int→Int→Option β):Nat→Bool→Bool→Z16→List Z16→Int→Int→Int→Int→Option β
  | 0,_,_,_,_,_,_,_,_=>none
  | m+1,J,L,Y,R,C,M,V,B=>wX n (g26_7L n ad m) ad J L Y R C M V B
def PE (ad:Bool→Bool→List Z16→Int→Int→Option β) (J L:Bool) (Y:Z16) (R:List Z16) (C M V B:Int):Option β:=g26_7L n ad n J L Y R C M V B
def IZ (s:FState) (cx:Cx β):Option β:=bD (fun again s=>vJ n s {cx with nrm:=again}) n s
theorem GX (n:Nat) (cx:Cx β):∀(m:Nat) (J L:Bool) (Y:Z16) (R:List Z16) (C M V B:Int),bD (fun again s=>vJ n s {cx with nrm:=again}) m (fV J L Y R C M V B)=g26_7L n (fun J L R C M=>cx.ex 2 (cL J L R C M)) m J L Y R C M V B:=by
  intro m
  induction m with
  | zero=>intros;rfl
  | succ m ih=>intros;simp only [bD,g26_7L,JP,ih]
theorem KC (J L:Bool) (Y:Z16) (R:List Z16) (C M V B:Int):IZ n (fV J L Y R C M V B) cx=PE n (fun J L R C M=>cx.ex 2 (cL J L R C M)) J L Y R C M V B:=GX n cx n J L Y R C M V B
def LW (kn:Bool→Bool→List Z16→Int→Int→Option β) (J L:Bool) (Y:Z16) (R:List Z16) (C M V B:Int):Option β:=PE n kn J L Y R C M V B
def KX (s:FState) (cx:Cx β):Option β:=IZ n s {cx with ex:=fun j s=>bif Nat.beq j 2 then cx.nrm s else cx.ex j s}
theorem NS (J L:Bool) (Y:Z16) (R:List Z16) (C M V B:Int):KX n (fV J L Y R C M V B) cx=LW n (fun J L R C M=>cx.nrm (cL J L R C M)) J L Y R C M V B:=KC n _ J L Y R C M V B
def DO (kn:Bool→Bool→List Z16→Int→Int→Option β) (J L:Bool) (R:List Z16) (C M:Int):Option β:=HP n (fun J L Y R C M V B=>LW n kn J L Y R C M V B) J L R C M
def zD (s:FState) (cx:Cx β):Option β:=OT n s {cx with nrm:=fun s=>KX n s cx}
theorem LE (J L:Bool) (R:List Z16) (C M:Int):zD n (cL J L R C M) cx=DO n (fun J L R C M=>cx.nrm (cL J L R C M)) J L R C M:=by simp only [zD,DO,KB,NS]
def AG (kn:Bool→Bool→List Z16→Int→Int→Option β) (J L:Bool) (R:List Z16) (C M:Int):Option β:=DO n kn J L R C M
def DW (s:FState) (cx:Cx β):Option β:=zD n s {cx with ex:=fun j s=>bif Nat.beq j 1 then cx.nrm s else cx.ex j s}
theorem ER (J L:Bool) (R:List Z16) (C M:Int):DW n (cL J L R C M) cx=AG n (fun J L R C M=>cx.nrm (cL J L R C M)) J L R C M:=LE n _ J L R C M
def zU (n:Nat) (kn:Bool→Bool→List Z16→Int→Int→Option β) (J L:Bool) (R:List Z16) (C M:Int):Option β:=kn J L R C (w64 (M+1))
def BW:FS1 β:=FXs (lM n) n lJ (some eL) none [] [423]
theorem FF (J L:Bool) (R:List Z16) (C M:Int):BW n (cL J L R C M) cx=zU n (fun J L R C M=>cx.nrm (cL J L R C M)) J L R C M:=by kernel_rfl
def qI (kn:Bool→Bool→List Z16→Int→Int→Option β) (X:Bool→Bool→Option β) (J L:Bool) (R:List Z16) (C M:Int):Option β:=ED n (fun J L R C M=>AG n (fun J L R C M=>zU n kn J L R C M) J L R C M) X J L R C M
def oB (s:FState) (cx:Cx β):Option β:=LP n s {cx with nrm:=fun s=>DW n s {cx with nrm:=fun s=>BW n s cx}}
theorem EX (J L:Bool) (R:List Z16) (C M:Int):oB n (cL J L R C M) cx=qI n (fun J L R C M=>cx.nrm (cL J L R C M)) (fun J L=>cx.ex 0 (iH J L)) J L R C M:=by simp only [oB,qI,KU,ER,FF]
def g26_13L (n:Nat) (X:Bool→Bool→Option β):Nat→Bool→Bool→List Z16→Int→Int→Option β
  | 0,_,_,_,_,_=>none
  | m+1,J,L,R,C,M=>qI n (g26_13L n X m) X J L R C M
def yP (X:Bool→Bool→Option β) (J L:Bool) (R:List Z16) (C M:Int):Option β:=g26_13L n X n J L R C M
def CH (s:FState) (cx:Cx β):Option β:=bD (fun again s=>oB n s {cx with nrm:=again}) n s
theorem yO (n:Nat) (cx:Cx β):∀(m:Nat) (J L:Bool) (R:List Z16) (C M:Int),bD (fun again s=>oB n s {cx with nrm:=again}) m (cL J L R C M)=g26_13L n (fun J L=>cx.ex 0 (iH J L)) m J L R C M:=by
  intro m
  induction m with
  | zero=>intros;rfl
  | succ m ih=>intros;simp only [bD,g26_13L,EX,ih]
theorem FL (J L:Bool) (R:List Z16) (C M:Int):CH n (cL J L R C M) cx=yP n (fun J L=>cx.ex 0 (iH J L)) J L R C M:=yO n cx n J L R C M
def zS (kn:Bool→Bool→Option β) (J L:Bool) (R:List Z16) (C M:Int):Option β:=yP n kn J L R C M
def DZ (s:FState) (cx:Cx β):Option β:=CH n s {cx with ex:=fun j s=>bif Nat.beq j 0 then cx.nrm s else cx.ex j s}
theorem GY (J L:Bool) (R:List Z16) (C M:Int):DZ n (cL J L R C M) cx=zS n (fun J L=>cx.nrm (iH J L)) J L R C M:=FL n _ J L R C M
def AO (n:Nat) (kr:Bool→Bool→Option β) (J L:Bool):Option β:=kr J L
def DA:FS1 β:=FXs (lM n) n lJ none (some iT) [] [14,15]
theorem HG (J L:Bool):DA n (iH J L) cx=AO n (fun J L=>cx.ret (iH J L)) J L:=by kernel_rfl
def vT (kr:Bool→Bool→Option β) (N:List Z16):Option β:=ML n (fun J L R C M=>zS n (fun J L=>AO n kr J L) J L R C M) N
def oA (s:FState) (cx:Cx β):Option β:=JX n s {cx with nrm:=fun s=>DZ n s {cx with nrm:=fun s=>DA n s cx}}
theorem FB (N:List Z16):oA n (BL N) cx=vT n (fun J L=>cx.ret (iH J L)) N:=by simp only [oA,vT,IA,GY,HG]
def g26 (N:List Z16):Option (DenR [.dat .bool,.dat .bool]):=vT n (fun J L=>some (J,(L,()))) N
def UE:List AK:=[.ro Z13 34]
def QD:List RK:=[.dat .bool,.dat .bool]
def XD (d:DenA UE):Option (DenR QD):=g26 n d.1
def TJ:bJ:=bX UE QD (XD n)
def VH:Sk:=(.nd (.fin none none none [] .leaf) (.nd (.nd (.fin none (some eL) none [] .leaf) (.nd (.nd (.nd (.fin none none none [(0,iT)] .leaf) (.nd (.fin none (some eL) none [(0,iT)] .leaf) (.nd (.nd (.nd (.fin none none none [] .leaf) (.nd (.fin none (some jB) none [] .leaf) (.nd (.nd (.nd (.fin none none none [(2,eL)] .leaf) (.nd (.fin none none none [(2,eL)] .leaf) (.nd (.fin none (some jB) none [(2,eL)] .leaf) (.fin none (some jB) none [] .leaf)))) .leaf) .leaf))) .leaf) (.fin none (some eL) none [] .leaf)))) .leaf) .leaf)) (.nd (.fin none none (some iT) [] .leaf) (.fin none none (some iT) [] .leaf))))
theorem RD (s:FState) (cx:Cx β):FX (lM n) n lJ VH s cx=oA n s cx:=by kernel_rfl
theorem RC:Fit Tryd.prog 26 (TJ n):=
  dI (Γ:=Γ0) (l:=UA n) (n:=n) (sk:=VH) (ts:=[(2,none),(3,none)]) (fn:=Tryd.f26) (c:=lJ) (by kernel_rfl) (by kernel_rfl) (by unfold bC;kernel_rfl) tab_ok trivial aT (by kernel_rfl) (by kernel_rfl) (Nat.le_of_ble_eq_true (by kernel_rfl)) (Nat.le_of_ble_eq_true (by kernel_rfl)) (by kernel_rfl) (by kernel_rfl)
    (fun d=>(RD n _ _).trans (Eq.trans (b:=oA n (BL d.1) (eC (lM n) QD [(2,none),(3,none)])) (by kernel_rfl) ((FB n _ d.1).trans (by kernel_rfl))))
def IQ:FState:=⟨aQ [],aF []⟩
def WV (p0:Z6):FState:=⟨aQ [(0,.ptr 0 0 0)],aF [(0,.row Z1 66 true [p0])]⟩
def nY:List NE:=[.ptr 0 Z1 66 true]
def VU (n:Nat):List (Nat×bJ):=[]
def JN:Ctx:={Γ0 with calls:=lkS (VU n)}
def KZ:Code:=fb Tryd.f37
def VZ (n:Nat) (kr:Z6→Option β):Option β:=kr ((1000000000:Int),((4:Int),((1000:Int),((4602678819172646912:Nat),((4:Int),((32:Int),(4602678819172646912:Nat)))))))
def yH:FS1 β:=FXs (JN n) n KZ none (some nY) [] [2,6,7]
theorem HV:yH n IQ cx=VZ n (fun p0=>cx.ret (WV p0)):=by kernel_rfl
def g37:Option (DenR [.ptr Z1 66]):=VZ n (fun p0=>some (p0,()))
def VI:List AK:=[]
def LQ:List RK:=[.ptr Z1 66]
def XV (d:DenA VI):Option (DenR LQ):=g37 n
def VF:bJ:=bX VI LQ (XV n)
def TU:Sk:=(.nd (.fin none none (some nY) [] .leaf) (.nd (.fin none none (some nY) [] .leaf) (.fin none none (some nY) [] .leaf)))
theorem SV (s:FState) (cx:Cx β):FX (JN n) n KZ TU s cx=yH n s cx:=by kernel_rfl
theorem SP:Fit Tryd.prog 37 (VF n):=
  dI (Γ:=Γ0) (l:=VU n) (n:=n) (sk:=TU) (ts:=[(0,none)]) (fn:=Tryd.f37) (c:=KZ) (by kernel_rfl) (by kernel_rfl) (by unfold bC;kernel_rfl) tab_ok trivial aT (by kernel_rfl) (by kernel_rfl) (Nat.le_of_ble_eq_true (by kernel_rfl)) (Nat.le_of_ble_eq_true (by kernel_rfl)) (by kernel_rfl) (by kernel_rfl)
    (fun d=>(SV n _ _).trans (Eq.trans (b:=yH n (IQ) (eC (JN n) LQ [(0,none)])) (by kernel_rfl) ((HV n _).trans (by kernel_rfl))))
def MS (A:Int):FState:=⟨aQ [(0,.dat (.int .i64) A)],aF []⟩
def WQ (J:Int):FState:=⟨aQ [(2,.dat (.int .i8) J)],aF []⟩
def iX:List NE:=[.keep 2]
def TG (n:Nat):List (Nat×bJ):=[]
def KJ:Ctx:={Γ0 with calls:=lkS (TG n)}
def HQ:Code:=fb Tryd.f54
def UU (n:Nat) (kr:Int→Option β) (A:Int):Option β:=bif (A==(-1:Int)) then (kr (-1:Int)) else (bif (A==(1:Int)) then (kr (1:Int)) else (kr (0:Int)))
def AE:FS1 β:=FXs (KJ n) n HQ none (some iX) [] [2,12,13,14,15]
theorem PS (A:Int):AE n (MS A) cx=UU n (fun J=>cx.ret (WQ J)) A:=by kernel_rfl
def g54 (A:Int):Option (DenR [.dat (.int .i8)]):=UU n (fun J=>some (J,())) A
def VV:List AK:=[.dat (.int .i64)]
def NQ:List RK:=[.dat (.int .i8)]
def XL (d:DenA VV):Option (DenR NQ):=g54 n d.1
def UG:bJ:=bX VV NQ (XL n)
def UZ:Sk:=(.nd (.fin none none (some iX) [] .leaf) (.nd (.nd (.fin none none (some iX) [] .leaf) (.fin none none (some iX) [] .leaf)) (.nd (.fin none none (some iX) [] .leaf) (.fin none none (some iX) [] .leaf))))
theorem RQ (s:FState) (cx:Cx β):FX (KJ n) n HQ UZ s cx=AE n s cx:=by kernel_rfl
theorem SW:Fit Tryd.prog 54 (UG n):=
  dI (Γ:=Γ0) (l:=TG n) (n:=n) (sk:=UZ) (ts:=[(2,none)]) (fn:=Tryd.f54) (c:=HQ) (by kernel_rfl) (by kernel_rfl) (by unfold bC;kernel_rfl) tab_ok trivial aT (by kernel_rfl) (by kernel_rfl) (Nat.le_of_ble_eq_true (by kernel_rfl)) (Nat.le_of_ble_eq_true (by kernel_rfl)) (by kernel_rfl) (by kernel_rfl)
    (fun d=>(RQ n _ _).trans (Eq.trans (b:=AE n (MS d.1) (eC (KJ n) NQ [(2,none)])) (by kernel_rfl) ((PS n _ d.1).trans (by kernel_rfl))))
def yN (N:List Z16):FState:=⟨aQ [(0,.sl 0 none false)],aF [(0,.row Z13 34 false N)]⟩
def PD (x2:List Z16):FState:=⟨aQ [(2,.sl 2 none false)],aF [(2,.row Z14 73 true x2)]⟩
def vF:List NE:=[.row 2 Z14 73 true]
def mQ (G k:List Z16) (y C:Int):FState:=⟨aQ [(3,.sl 3 none false),(6,.sl 6 none false),(7,.dat (.int .i64) y),(8,.dat (.int .i64) C)],aF [(3,.row Z14 73 true G),(6,.row Z13 34 false k)]⟩
def oL:List NE:=[.row 3 Z14 73 true,.row 6 Z13 34 false,.keep 7,.keep 8]
def qK (G:List Z16):FState:=⟨aQ [(3,.sl 3 none false)],aF [(3,.row Z14 73 true G)]⟩
def kW:List NE:=[.row 3 Z14 73 true]
def TF:List (Nat×bJ):=[(54,UG n)]
def wJ:Ctx:={Γ0 with calls:=lkS (TF n)}
def wL:Code:=fb Tryd.f39
def II (n:Nat) (kn:List Z16→List Z16→Int→Int→Option β) (N:List Z16):Option β:=kn [] N (N.length:Int) (0:Int)
def HO:FS1 β:=FXs (wJ n) n wL (some oL) none [] [2,6,28]
theorem NF (N:List Z16):HO n (yN N) cx=II n (fun G k y C=>cx.nrm (mQ G k y C)) N:=by kernel_rfl
def EC (kn:List Z16→List Z16→Int→Int→Option β) (X:List Z16→Option β) (G k:List Z16) (y C:Int):Option β:=bif (decide (C < y)) then (idx C (k.length:Int)<|(g54 n ((rd [(rd k C Z10)] (0:Int) Z10).1)).bind fun Z=>dS (G.length+[(Z.1,(rd [(rd k C Z10)] (0:Int) Z10).2)].length)<|kn (G++[(Z.1,(rd [(rd k C Z10)] (0:Int) Z10).2)]) k y (w64 (C+1))) else (X G)
def yJ:FS1 β:=FXs (wJ n) n wL (some oL) none [(0,kW)] [232,466,934,935]
theorem PO (G k:List Z16) (y C:Int):yJ n (mQ G k y C) cx=EC n (fun G k y C=>cx.nrm (mQ G k y C)) (fun G=>cx.ex 0 (qK G)) G k y C:=by kernel_rfl
def g39_3L (n:Nat) (X:List Z16→Option β):Nat→List Z16→List Z16→Int→Int→Option β
  | 0,_,_,_,_=>none
  | m+1,G,k,y,C=>EC n (g39_3L n X m) X G k y C
def LF (X:List Z16→Option β) (G k:List Z16) (y C:Int):Option β:=g39_3L n X n G k y C
def HZ (s:FState) (cx:Cx β):Option β:=bD (fun again s=>yJ n s {cx with nrm:=again}) n s
theorem FK (n:Nat) (cx:Cx β):∀(m:Nat) (G k:List Z16) (y C:Int),bD (fun again s=>yJ n s {cx with nrm:=again}) m (mQ G k y C)=g39_3L n (fun G=>cx.ex 0 (qK G)) m G k y C:=by
  intro m
  induction m with
  | zero=>intros;rfl
  | succ m ih=>intros;simp only [bD,g39_3L,PO,ih]
theorem KH (G k:List Z16) (y C:Int):HZ n (mQ G k y C) cx=LF n (fun G=>cx.ex 0 (qK G)) G k y C:=FK n cx n G k y C
def PJ (kn:List Z16→Option β) (G k:List Z16) (y C:Int):Option β:=LF n kn G k y C
def KS (s:FState) (cx:Cx β):Option β:=HZ n s {cx with ex:=fun j s=>bif Nat.beq j 0 then cx.nrm s else cx.ex j s}
theorem ND (G k:List Z16) (y C:Int):KS n (mQ G k y C) cx=PJ n (fun G=>cx.nrm (qK G)) G k y C:=KH n _ G k y C
def MU (n:Nat) (kr:List Z16→Option β) (G:List Z16):Option β:=kr G
def OC:FS1 β:=FXs (wJ n) n wL none (some vF) [] [30,31]
theorem JW (G:List Z16):OC n (qK G) cx=MU n (fun x2=>cx.ret (PD x2)) G:=by kernel_rfl
def EE (kr:List Z16→Option β) (N:List Z16):Option β:=II n (fun G k y C=>PJ n (fun G=>MU n kr G) G k y C) N
def uW (s:FState) (cx:Cx β):Option β:=HO n s {cx with nrm:=fun s=>KS n s {cx with nrm:=fun s=>OC n s cx}}
theorem NJ (N:List Z16):uW n (yN N) cx=EE n (fun x2=>cx.ret (PD x2)) N:=by simp only [uW,EE,NF,ND,JW]
def g39 (N:List Z16):Option (DenR [.rw Z14 73]):=EE n (fun x2=>some (x2,())) N
def TV:List AK:=[.ro Z13 34]
def KO:List RK:=[.rw Z14 73]
def XO (d:DenA TV):Option (DenR KO):=g39 n d.1
def VM:bJ:=bX TV KO (XO n)
def TW:Sk:=(.nd (.fin none none none [] .leaf) (.nd (.fin none none none [] .leaf) (.nd (.nd (.fin none (some oL) none [] .leaf) (.nd (.nd (.nd (.fin none none none [(0,kW)] .leaf) (.nd (.fin none none none [(0,kW)] .leaf) (.nd (.fin none none none [(0,kW)] .leaf) (.fin none (some oL) none [(0,kW)] .leaf)))) .leaf) .leaf)) (.nd (.fin none none (some vF) [] .leaf) (.fin none none (some vF) [] .leaf)))))
theorem SK (s:FState) (cx:Cx β):FX (wJ n) n wL TW s cx=uW n s cx:=by kernel_rfl
theorem SL:Fit Tryd.prog 39 (VM n):=
  dI (Γ:=Γ0) (l:=TF n) (n:=n) (sk:=TW) (ts:=[(2,none)]) (fn:=Tryd.f39) (c:=wL) (by kernel_rfl) (by kernel_rfl) (by unfold bC;kernel_rfl) tab_ok ⟨SW n,trivial⟩ aT (by kernel_rfl) (by kernel_rfl) (Nat.le_of_ble_eq_true (by kernel_rfl)) (Nat.le_of_ble_eq_true (by kernel_rfl)) (by kernel_rfl) (by kernel_rfl)
    (fun d=>(SK n _ _).trans (Eq.trans (b:=uW n (yN d.1) (eC (wJ n) KO [(2,none)])) (by kernel_rfl) ((NJ n _ d.1).trans (by kernel_rfl))))
def zE (A O:BA):FState:=⟨aQ [(0,.dat .str A),(1,.dat .str O)],aF []⟩
def lU (P:Int):FState:=⟨aQ [(4,.dat (.int .i64) P)],aF []⟩
def fP:List NE:=[.keep 4]
def mD (A O:BA) (U:Int):FState:=⟨aQ [(0,.dat .str A),(1,.dat .str O),(5,.dat (.int .i64) U)],aF []⟩
def oH:List NE:=[.keep 0,.keep 1,.keep 5]
def qL:FState:=⟨aQ [],aF []⟩
def lN:List NE:=[]
def UO (n:Nat):List (Nat×bJ):=[]
def wZ:Ctx:={Γ0 with calls:=lkS (UO n)}
def wV:Code:=fb Tryd.f72
def QJ (n:Nat) (kn:BA→BA→Int→Option β) (A O:BA):Option β:=kn A O (0:Int)
def MQ:FS1 β:=FXs (wZ n) n wV (some oH) none [] [2,12]
theorem IS (A O:BA):MQ n (zE A O) cx=QJ n (fun A O U=>cx.nrm (mD A O U)) A O:=by kernel_rfl
def CI (n:Nat) (kn:BA→BA→Int→Option β) (kr:Int→Option β) (X:Option β) (A O:BA) (U:Int):Option β:=bif (decide ((w64 (U+(O.size:Int)))≤(A.size:Int))) then (bnd U (w64 (U+(O.size:Int))) (A.size:Int)<|bif (fE (dY A U (w64 (U+(O.size:Int)))) O) then (kr U) else (kn A O (w64 (U+1)))) else X
def yI:FS1 β:=FXs (wZ n) n wV (some oH) (some fP) [(0,lN)] [208,209,210,211]
theorem HX (A O:BA) (U:Int):yI n (mD A O U) cx=CI n (fun A O U=>cx.nrm (mD A O U)) (fun P=>cx.ret (lU P)) (cx.ex 0 qL) A O U:=by kernel_rfl
def g72_3L (n:Nat) (kr:Int→Option β) (X:Option β):Nat→BA→BA→Int→Option β
  | 0,_,_,_=>none
  | m+1,A,O,U=>CI n (g72_3L n kr X m) kr X A O U
def PL (kr:Int→Option β) (X:Option β) (A O:BA) (U:Int):Option β:=g72_3L n kr X n A O U
def QH (s:FState) (cx:Cx β):Option β:=bD (fun again s=>yI n s {cx with nrm:=again}) n s
theorem HF (n:Nat) (cx:Cx β):∀(m:Nat) (A O:BA) (U:Int),bD (fun again s=>yI n s {cx with nrm:=again}) m (mD A O U)=g72_3L n (fun P=>cx.ret (lU P)) (cx.ex 0 qL) m A O U:=by
  intro m
  induction m with
  | zero=>intros;rfl
  | succ m ih=>intros;simp only [bD,g72_3L,HX,ih]
theorem NU (A O:BA) (U:Int):QH n (mD A O U) cx=PL n (fun P=>cx.ret (lU P)) (cx.ex 0 qL) A O U:=HF n cx n A O U
def LA (kn:Option β) (kr:Int→Option β) (A O:BA) (U:Int):Option β:=PL n kr kn A O U
def IO (s:FState) (cx:Cx β):Option β:=QH n s {cx with ex:=fun j s=>bif Nat.beq j 0 then cx.nrm s else cx.ex j s}
theorem MY (A O:BA) (U:Int):IO n (mD A O U) cx=LA n (cx.nrm qL) (fun P=>cx.ret (lU P)) A O U:=NU n _ A O U
def QB (n:Nat) (kr:Int→Option β):Option β:=kr (-1:Int)
def OA:FS1 β:=FXs (wZ n) n wV none (some fP) [] [14,15]
theorem IV:OA n qL cx=QB n (fun P=>cx.ret (lU P)):=by kernel_rfl
def BV (kr:Int→Option β) (A O:BA):Option β:=QJ n (fun A O U=>LA n (QB n kr) kr A O U) A O
def tZ (s:FState) (cx:Cx β):Option β:=MQ n s {cx with nrm:=fun s=>IO n s {cx with nrm:=fun s=>OA n s cx}}
theorem LK (A O:BA):tZ n (zE A O) cx=BV n (fun P=>cx.ret (lU P)) A O:=by simp only [tZ,BV,IS,MY,IV]
def g72 (A O:BA):Option (DenR [.dat (.int .i64)]):=BV n (fun P=>some (P,())) A O
def VL:List AK:=[.dat .str,.dat .str]
def PT:List RK:=[.dat (.int .i64)]
def YF (d:DenA VL):Option (DenR PT):=g72 n d.1 d.2.1
def TN:bJ:=bX VL PT (YF n)
def TX:Sk:=(.nd (.fin none none none [] .leaf) (.nd (.nd (.fin none (some oH) none [] .leaf) (.nd (.nd (.nd (.nd (.fin none none (some fP) [(0,lN)] .leaf) (.fin none none (some fP) [(0,lN)] .leaf)) (.nd (.fin none none (some fP) [(0,lN)] .leaf) (.fin none (some oH) (some fP) [(0,lN)] .leaf))) .leaf) .leaf)) (.nd (.fin none none (some fP) [] .leaf) (.fin none none (some fP) [] .leaf))))
theorem QO (s:FState) (cx:Cx β):FX (wZ n) n wV TX s cx=tZ n s cx:=by kernel_rfl
theorem RO:Fit Tryd.prog 72 (TN n):=
  dI (Γ:=Γ0) (l:=UO n) (n:=n) (sk:=TX) (ts:=[(4,none)]) (fn:=Tryd.f72) (c:=wV) (by kernel_rfl) (by kernel_rfl) (by unfold bC;kernel_rfl) tab_ok trivial aT (by kernel_rfl) (by kernel_rfl) (Nat.le_of_ble_eq_true (by kernel_rfl)) (Nat.le_of_ble_eq_true (by kernel_rfl)) (by kernel_rfl) (by kernel_rfl)
    (fun d=>(QO n _ _).trans (Eq.trans (b:=tZ n (zE d.1 d.2.1) (eC (wZ n) PT [(4,none)])) (by kernel_rfl) ((LK n _ d.1 d.2.1).trans (by kernel_rfl))))
def yT (A O:BA):FState:=⟨aQ [(0,.dat .str A),(1,.dat .str O)],aF []⟩
def iN (x4:List BA):FState:=⟨aQ [(4,.sl 4 none false)],aF [(4,.row .str 9 true x4)]⟩
def gU:List NE:=[.row 4 .str 9 true]
def pX (A O:BA) (Q:List BA) (ab:Bool):FState:=⟨aQ [(0,.dat .str A),(1,.dat .str O),(5,.sl 5 none false),(11,.dat .bool ab)],aF [(5,.row .str 9 true Q)]⟩
def DF:List NE:=[.keep 0,.keep 1,.row 5 .str 9 true,.keep 11]
def kA (A O:BA) (Q:List BA):FState:=⟨aQ [(0,.dat .str A),(1,.dat .str O),(5,.sl 5 none false)],aF [(5,.row .str 9 true Q)]⟩
def oP:List NE:=[.keep 0,.keep 1,.row 5 .str 9 true]
def mO (A:BA) (Q:List BA) (S:Int) (o:BA) (a:Nat):FState:=⟨aQ [(0,.dat .str A),(5,.sl 5 none false),(6,.dat (.int .i64) S),(13,.it 13)],aF [(5,.row .str 9 true Q),(13,.siter o a)]⟩
def oK:List NE:=[.keep 0,.row 5 .str 9 true,.keep 6,.it 13]
def qG (A:BA) (Q:List BA) (S:Int):FState:=⟨aQ [(0,.dat .str A),(5,.sl 5 none false),(6,.dat (.int .i64) S)],aF [(5,.row .str 9 true Q)]⟩
def oN:List NE:=[.keep 0,.row 5 .str 9 true,.keep 6]
def VS:List (Nat×bJ):=[(72,TN n)]
def nH:Ctx:={Γ0 with calls:=lkS (VS n)}
def kZ:Code:=fb Tryd.f59
def KP (n:Nat) (kn:BA→BA→List BA→Bool→Option β) (A O:BA):Option β:=kn A O [] ((O.size:Int)==(0:Int))
def LR:FS1 β:=FXs (nH n) n kZ (some DF) none [] [2,6,28]
theorem JT (A O:BA):LR n (yT A O) cx=KP n (fun A O Q ab=>cx.nrm (pX A O Q ab)) A O:=by kernel_rfl
def VC (n:Nat) (kn:BA→List BA→Int→BA→Nat→Option β) (A O:BA) (Q:List BA) (ab:Bool):Option β:=kn A Q (0:Int) A 0
def JZ:FS1 β:=FXs (nH n) n kZ (some oK) none [] [116,468]
theorem NH (A O:BA) (Q:List BA) (ab:Bool):JZ n (pX A O Q ab) cx=VC n (fun A Q S o a=>cx.nrm (mO A Q S o a)) A O Q ab:=by kernel_rfl
def UQ (n:Nat) (kn:BA→List BA→Int→BA→Nat→Option β) (X:BA→List BA→Int→Option β) (A:BA) (Q:List BA) (S:Int) (o:BA) (a:Nat):Option β:=bif Nat.blt a o.size then (bif (decide ((a:Int)>(0:Int))) then (bnd S (a:Int) (A.size:Int)<|dS (Q.length+[(dY A S (a:Int))].length)<|kn A (Q++[(dY A S (a:Int))]) (a:Int) o (a+(Utf8.decode o a).2)) else (kn A Q S o (a+(Utf8.decode o a).2))) else (X A Q S)
def AN:FS1 β:=FXs (nH n) n kZ (some oK) none [(0,oN)] [3752,7506,7507]
theorem NM (A:BA) (Q:List BA) (S:Int) (o:BA) (a:Nat):AN n (mO A Q S o a) cx=UQ n (fun A Q S o a=>cx.nrm (mO A Q S o a)) (fun A Q S=>cx.ex 0 (qG A Q S)) A Q S o a:=by kernel_rfl
def tI (n:Nat) (X:BA→List BA→Int→Option β):Nat→BA→List BA→Int→BA→Nat→Option β
  | 0,_,_,_,_,_=>none
  | m+1,A,Q,S,o,a=>UQ n (tI n X m) X A Q S o a
def SX (X:BA→List BA→Int→Option β) (A:BA) (Q:List BA) (S:Int) (o:BA) (a:Nat):Option β:=tI n X n A Q S o a
def JO (s:FState) (cx:Cx β):Option β:=bD (fun again s=>AN n s {cx with nrm:=again}) n s
theorem HL (n:Nat) (cx:Cx β):∀(m:Nat) (A:BA) (Q:List BA) (S:Int) (o:BA) (a:Nat),bD (fun again s=>AN n s {cx with nrm:=again}) m (mO A Q S o a)=tI n (fun A Q S=>cx.ex 0 (qG A Q S)) m A Q S o a:=by
  intro m
  induction m with
  | zero=>intros;rfl
  | succ m ih=>intros;simp only [bD,tI,NM,ih]
theorem JV (A:BA) (Q:List BA) (S:Int) (o:BA) (a:Nat):JO n (mO A Q S o a) cx=SX n (fun A Q S=>cx.ex 0 (qG A Q S)) A Q S o a:=HL n cx n A Q S o a
def TL (kn:BA→List BA→Int→Option β) (A:BA) (Q:List BA) (S:Int) (o:BA) (a:Nat):Option β:=SX n kn A Q S o a
def JQ (s:FState) (cx:Cx β):Option β:=JO n s {cx with ex:=fun j s=>bif Nat.beq j 0 then cx.nrm s else cx.ex j s}
theorem KI (A:BA) (Q:List BA) (S:Int) (o:BA) (a:Nat):JQ n (mO A Q S o a) cx=TL n (fun A Q S=>cx.nrm (qG A Q S)) A Q S o a:=JV n _ A Q S o a
def VR (n:Nat) (kr:List BA→Option β) (A:BA) (Q:List BA) (S:Int):Option β:=bif (decide ((A.size:Int)>(0:Int))) then (bnd S (A.size:Int) (A.size:Int)<|dS (Q.length+[(dY A S (A.size:Int))].length)<|kr (Q++[(dY A S (A.size:Int))])) else (kr Q)
def IB:FS1 β:=FXs (nH n) n kZ none (some gU) [] [940,941,942,943]
theorem MW (A:BA) (Q:List BA) (S:Int):IB n (qG A Q S) cx=VR n (fun x4=>cx.ret (iN x4)) A Q S:=by kernel_rfl
def NO (kr:List BA→Option β) (A O:BA) (Q:List BA) (ab:Bool):Option β:=VC n (fun A Q S o a=>TL n (fun A Q S=>VR n kr A Q S) A Q S o a) A O Q ab
def zK (s:FState) (cx:Cx β):Option β:=JZ n s {cx with nrm:=fun s=>JQ n s {cx with nrm:=fun s=>IB n s cx}}
theorem IK (A O:BA) (Q:List BA) (ab:Bool):zK n (pX A O Q ab) cx=NO n (fun x4=>cx.ret (iN x4)) A O Q ab:=by simp only [zK,NO,NH,KI,MW]
def MC (n:Nat) (kn:BA→BA→List BA→Option β) (A O:BA) (Q:List BA) (ab:Bool):Option β:=kn A O Q
def IL:FS1 β:=FXs (nH n) n kZ (some oP) none [] [59]
theorem OV (A O:BA) (Q:List BA) (ab:Bool):IL n (pX A O Q ab) cx=MC n (fun A O Q=>cx.nrm (kA A O Q)) A O Q ab:=by kernel_rfl
def CB (kn:BA→BA→List BA→Option β) (kr:List BA→Option β) (A O:BA) (Q:List BA) (ab:Bool):Option β:=bif ab then NO n kr A O Q ab else MC n kn A O Q ab
def zJ (s:FState) (cx:Cx β):Option β:=asBool (ev s (vE (nav kZ [1,1,0,1]))) fun t=>cond t (zK n s cx) (IL n s cx)
theorem PV (A O:BA) (Q:List BA) (ab:Bool):zJ n (pX A O Q ab) cx=CB n (fun A O Q=>cx.nrm (kA A O Q)) (fun x4=>cx.ret (iN x4)) A O Q ab:=by
  simp only [zJ,CB,IK,OV]
  kernel_rfl
def vA (kn:BA→BA→List BA→Option β) (kr:List BA→Option β) (A O:BA) (Q:List BA):Option β:=(g72 n A O).bind fun Z=>bif (decide (Z.1 < (0:Int))) then (dS (Q.length+[A].length)<|kr (Q++[A])) else (bnd (0:Int) Z.1 (A.size:Int)<|dS (Q.length+[(dY A (0:Int) Z.1)].length)<|bnd (w64 (Z.1+(O.size:Int))) (A.size:Int) (A.size:Int)<|kn (dY A (w64 (Z.1+(O.size:Int))) (A.size:Int)) O (Q++[(dY A (0:Int) Z.1)]))
def vP:FS1 β:=FXs (nH n) n kZ (some oP) (some gU) [] [60]
theorem HA (A O:BA) (Q:List BA):vP n (kA A O Q) cx=vA n (fun A O Q=>cx.nrm (kA A O Q)) (fun x4=>cx.ret (iN x4)) A O Q:=by kernel_rfl
def g59_11L (n:Nat) (kr:List BA→Option β):Nat→BA→BA→List BA→Option β
  | 0,_,_,_=>none
  | m+1,A,O,Q=>vA n (g59_11L n kr m) kr A O Q
def yK (kr:List BA→Option β) (A O:BA) (Q:List BA):Option β:=g59_11L n kr n A O Q
def DV (s:FState) (cx:Cx β):Option β:=bD (fun again s=>vP n s {cx with nrm:=again}) n s
theorem AU (n:Nat) (cx:Cx β):∀(m:Nat) (A O:BA) (Q:List BA),bD (fun again s=>vP n s {cx with nrm:=again}) m (kA A O Q)=g59_11L n (fun x4=>cx.ret (iN x4)) m A O Q:=by
  intro m
  induction m with
  | zero=>intros;rfl
  | succ m ih=>intros;simp only [bD,g59_11L,HA,ih]
theorem GQ (A O:BA) (Q:List BA):DV n (kA A O Q) cx=yK n (fun x4=>cx.ret (iN x4)) A O Q:=AU n cx n A O Q
def yZ (kr:List BA→Option β) (A O:BA) (Q:List BA):Option β:=yK n kr A O Q
def CK (s:FState) (cx:Cx β):Option β:=DV n s {cx with ex:=fun j s=>bif Nat.beq j 2 then cx.nrm s else cx.ex j s}
theorem FN (A O:BA) (Q:List BA):CK n (kA A O Q) cx=yZ n (fun x4=>cx.ret (iN x4)) A O Q:=GQ n _ A O Q
def tE (kr:List BA→Option β) (A O:BA):Option β:=KP n (fun A O Q ab=>CB n (fun A O Q=>yZ n kr A O Q) kr A O Q ab) A O
def oI (s:FState) (cx:Cx β):Option β:=LR n s {cx with nrm:=fun s=>zJ n s {cx with nrm:=fun s=>CK n s cx}}
theorem GA (A O:BA):oI n (yT A O) cx=tE n (fun x4=>cx.ret (iN x4)) A O:=by simp only [oI,tE,JT,PV,FN]
def g59 (A O:BA):Option (DenR [.rw .str 9]):=tE n (fun x4=>some (x4,())) A O
def VW:List AK:=[.dat .str,.dat .str]
def KM:List RK:=[.rw .str 9]
def XW (d:DenA VW):Option (DenR KM):=g59 n d.1 d.2.1
def TH:bJ:=bX VW KM (XW n)
def VT:Sk:=(.nd (.fin none none none [] .leaf) (.nd (.fin none none none [] .leaf) (.nd (.nd (.fin none (some DF) none [] .leaf) (.nd (.nd (.fin none none none [] .leaf) (.nd (.nd (.fin none (some oK) none [] .leaf) (.nd (.nd (.nd (.fin none none none [(0,oN)] .leaf) (.nd (.fin none none none [(0,oN)] .leaf) (.fin none (some oK) none [(0,oN)] .leaf))) .leaf) .leaf)) (.nd (.nd (.fin none none (some gU) [] .leaf) (.fin none none (some gU) [] .leaf)) (.nd (.fin none none (some gU) [] .leaf) (.fin none none (some gU) [] .leaf))))) (.fin none (some oP) none [] .leaf))) (.nd (.nd (.fin none (some oP) (some gU) [] .leaf) .leaf) .leaf))))
theorem RZ (s:FState) (cx:Cx β):FX (nH n) n kZ VT s cx=oI n s cx:=by kernel_rfl
theorem RR:Fit Tryd.prog 59 (TH n):=
  dI (Γ:=Γ0) (l:=VS n) (n:=n) (sk:=VT) (ts:=[(4,none)]) (fn:=Tryd.f59) (c:=kZ) (by kernel_rfl) (by kernel_rfl) (by unfold bC;kernel_rfl) tab_ok ⟨RO n,trivial⟩ aT (by kernel_rfl) (by kernel_rfl) (Nat.le_of_ble_eq_true (by kernel_rfl)) (Nat.le_of_ble_eq_true (by kernel_rfl)) (by kernel_rfl) (by kernel_rfl)
    (fun d=>(RZ n _ _).trans (Eq.trans (b:=oI n (yT d.1 d.2.1) (eC (nH n) KM [(4,none)])) (by kernel_rfl) ((GA n _ d.1 d.2.1).trans (by kernel_rfl))))
def EG:List AK:=[.cel Z5 70,.dat .str]
def OK:List RK:=[.dat (.int .i64),.dat .err]
def g52 (n:Nat) (A:List Int×(Int×Int)) (O:BA):Option (DenR OK×DenR (aS EG)):=fM A O
def XG (d:DenA EG):Option (DenR OK×DenR (aS EG)):=g52 n d.1 d.2.1
def VG:bJ:=fQ EG OK (XG n)
theorem SO:Fit Tryd.prog 52 (VG n):=HC (T:=70) (e:=5) Tryd.laysM178 (by kernel_rfl) (by unfold bC;kernel_rfl) (tab_ok.kt 70 _ (by kernel_rfl)) (tab_ok.kt 5 _ (by kernel_rfl))
def CU:List AK:=[.cel Z5 70]
def LV:List RK:=[.dat .str]
def g53 (n:Nat) (A:List Int×(Int×Int)):Option (DenR LV×DenR (aS CU)):=eJ A
def XC (d:DenA CU):Option (DenR LV×DenR (aS CU)):=g53 n d.1
def SZ:bJ:=fQ CU LV (XC n)
theorem QW:Fit Tryd.prog 53 (SZ n):=BP (T:=70) (e:=5) Tryd.laysM182 (by kernel_rfl) (by unfold bC;kernel_rfl) (tab_ok.kt 70 _ (by kernel_rfl)) (tab_ok.kt 5 _ (by kernel_rfl))
def zT (p0:Z6) (x1:List Z16):FState:=⟨aQ [(0,.ptr 0 0 0),(1,.sl 1 none false)],aF [(0,.row Z1 66 false [p0]),(1,.row Z14 73 false x1)]⟩
def IH (P:BA):FState:=⟨aQ [(4,.dat .str P)],aF []⟩
def tO:List NE:=[.keep 4]
def bI (D:List Int) (E F:Int) (I:List Z16) (B H:Int):FState:=⟨aQ [(5,.cp 5 0),(1000005,.sl 1000005 none false),(2000005,.dat (.int .i64) E),(3000005,.dat (.int .i8) F),(15,.sl 15 none false),(16,.dat (.int .i64) B),(17,.dat (.int .i64) H)],aF [(5,.cell Z5 70),(1000005,.row (.int .u8) 5 true D),(15,.row Z14 73 false I)]⟩
def cA:List NE:=[.cell 5 Z5 70,.row 1000005 (.int .u8) 5 true,.keep 2000005,.keep 3000005,.row 15 Z14 73 false,.keep 16,.keep 17]
def mH (D:List Int) (E F:Int):FState:=⟨aQ [(5,.cp 5 0),(1000005,.sl 1000005 none false),(2000005,.dat (.int .i64) E),(3000005,.dat (.int .i8) F)],aF [(5,.cell Z5 70),(1000005,.row (.int .u8) 5 true D)]⟩
def uC:List NE:=[.cell 5 Z5 70,.row 1000005 (.int .u8) 5 true,.keep 2000005,.keep 3000005]
def vI (D:List Int) (E F:Int) (C:BA) (I:List Z16) (B H W:Int):FState:=⟨aQ [(5,.cp 5 0),(1000005,.sl 1000005 none false),(2000005,.dat (.int .i64) E),(3000005,.dat (.int .i8) F),(8,.dat .str C),(15,.sl 15 none false),(16,.dat (.int .i64) B),(17,.dat (.int .i64) H),(24,.dat (.int .i8) W)],aF [(5,.cell Z5 70),(1000005,.row (.int .u8) 5 true D),(15,.row Z14 73 false I)]⟩
def CP:List NE:=[.cell 5 Z5 70,.row 1000005 (.int .u8) 5 true,.keep 2000005,.keep 3000005,.keep 8,.row 15 Z14 73 false,.keep 16,.keep 17,.keep 24]
def mL (D:List Int) (E F:Int) (C:BA) (I:List Z16) (B H W:Int) (z:Bool):FState:=⟨aQ [(5,.cp 5 0),(1000005,.sl 1000005 none false),(2000005,.dat (.int .i64) E),(3000005,.dat (.int .i8) F),(8,.dat .str C),(15,.sl 15 none false),(16,.dat (.int .i64) B),(17,.dat (.int .i64) H),(24,.dat (.int .i8) W),(25,.dat .bool z)],aF [(5,.cell Z5 70),(1000005,.row (.int .u8) 5 true D),(15,.row Z14 73 false I)]⟩
def EK:List NE:=[.cell 5 Z5 70,.row 1000005 (.int .u8) 5 true,.keep 2000005,.keep 3000005,.keep 8,.row 15 Z14 73 false,.keep 16,.keep 17,.keep 24,.keep 25]
def mB (D:List Int) (E F:Int) (p:List BA) (I:List Z16) (B H w g:Int):FState:=⟨aQ [(5,.cp 5 0),(1000005,.sl 1000005 none false),(2000005,.dat (.int .i64) E),(3000005,.dat (.int .i8) F),(9,.sl 9 none false),(15,.sl 15 none false),(16,.dat (.int .i64) B),(17,.dat (.int .i64) H),(29,.sl 9 none false),(30,.dat (.int .i64) w),(31,.dat (.int .i64) g)],aF [(5,.cell Z5 70),(1000005,.row (.int .u8) 5 true D),(9,.row .str 9 true p),(15,.row Z14 73 false I)]⟩
def oD:List NE:=[.cell 5 Z5 70,.row 1000005 (.int .u8) 5 true,.keep 2000005,.keep 3000005,.row 9 .str 9 true,.row 15 Z14 73 false,.keep 16,.keep 17,.row 29 .str 9 true,.keep 30,.keep 31]
def oW (D:List Int) (E F:Int) (C:BA) (I:List Z16) (B H W:Int) (ac:Bool):FState:=⟨aQ [(5,.cp 5 0),(1000005,.sl 1000005 none false),(2000005,.dat (.int .i64) E),(3000005,.dat (.int .i8) F),(8,.dat .str C),(15,.sl 15 none false),(16,.dat (.int .i64) B),(17,.dat (.int .i64) H),(24,.dat (.int .i8) W),(59,.dat .bool ac)],aF [(5,.cell Z5 70),(1000005,.row (.int .u8) 5 true D),(15,.row Z14 73 false I)]⟩
def EJ:List NE:=[.cell 5 Z5 70,.row 1000005 (.int .u8) 5 true,.keep 2000005,.keep 3000005,.keep 8,.row 15 Z14 73 false,.keep 16,.keep 17,.keep 24,.keep 59]
def iV (D:List Int) (E F:Int) (q:List BA) (I:List Z16) (B H x h:Int):FState:=⟨aQ [(5,.cp 5 0),(1000005,.sl 1000005 none false),(2000005,.dat (.int .i64) E),(3000005,.dat (.int .i8) F),(12,.sl 12 none false),(15,.sl 15 none false),(16,.dat (.int .i64) B),(17,.dat (.int .i64) H),(63,.sl 12 none false),(64,.dat (.int .i64) x),(65,.dat (.int .i64) h)],aF [(5,.cell Z5 70),(1000005,.row (.int .u8) 5 true D),(12,.row .str 9 true q),(15,.row Z14 73 false I)]⟩
def kM:List NE:=[.cell 5 Z5 70,.row 1000005 (.int .u8) 5 true,.keep 2000005,.keep 3000005,.row 12 .str 9 true,.row 15 Z14 73 false,.keep 16,.keep 17,.row 63 .str 9 true,.keep 64,.keep 65]
def UX:List (Nat×bJ):=[(52,VG n),(53,SZ n),(59,TH n)]
def fN:Ctx:={Γ0 with calls:=lkS (UX n),cel:=[5]}
def eT:Code:=fb Tryd.f48
def LU (n:Nat) (kn:List Int→Int→Int→List Z16→Int→Int→Option β) (p0:Z6) (x1:List Z16):Option β:=kn [] (0:Int) (0:Int) x1 (x1.length:Int) (0:Int)
def MD:FS1 β:=FXs (fN n) n eT (some cA) none [] [2,6,28]
theorem JG (p0:Z6) (x1:List Z16):MD n (zT p0 x1) cx=LU n (fun D E F I B H=>cx.nrm (bI D E F I B H)) p0 x1:=by kernel_rfl
def DJ (n:Nat) (kn:List Int→Int→Int→List Z16→Int→Int→Option β) (X:List Int→Int→Int→Option β) (D:List Int) (E F:Int) (I:List Z16) (B H:Int):Option β:=bif (decide (H < B)) then (kn D E F I B H) else (X D E F)
def LJ:FS1 β:=FXs (fN n) n eT (some cA) none [(0,uC)] [232,466]
theorem MR (D:List Int) (E F:Int) (I:List Z16) (B H:Int):LJ n (bI D E F I B H) cx=DJ n (fun D E F I B H=>cx.nrm (bI D E F I B H)) (fun D E F=>cx.ex 0 (mH D E F)) D E F I B H:=by kernel_rfl
def OZ (n:Nat) (kn:List Int→Int→Int→BA→List Z16→Int→Int→Int→Option β) (D:List Int) (E F:Int) (I:List Z16) (B H:Int):Option β:=idx H (I.length:Int)<|kn D E F ((rd [(rd I H Z10)] (0:Int) Z10).2) I B H ((rd [(rd I H Z10)] (0:Int) Z10).1)
def MV:FS1 β:=FXs (fN n) n eT (some CP) none [] [3736,7474,14950]
theorem LT (D:List Int) (E F:Int) (I:List Z16) (B H:Int):MV n (bI D E F I B H) cx=OZ n (fun D E F C I B H W=>cx.nrm (vI D E F C I B H W)) D E F I B H:=by kernel_rfl
def ME (n:Nat) (kn:List Int→Int→Int→BA→List Z16→Int→Int→Int→Bool→Option β) (D:List Int) (E F:Int) (C:BA) (I:List Z16) (B H W:Int):Option β:=kn D E F C I B H W (W==(1:Int))
def HU:FS1 β:=FXs (fN n) n eT (some EK) none [] [59804]
theorem ID (D:List Int) (E F:Int) (C:BA) (I:List Z16) (B H W:Int):HU n (vI D E F C I B H W) cx=ME n (fun D E F C I B H W z=>cx.nrm (mL D E F C I B H W z)) D E F C I B H W:=by kernel_rfl
def OG (kn:List Int→Int→Int→List BA→List Z16→Int→Int→Int→Int→Option β) (D:List Int) (E F:Int) (C:BA) (I:List Z16) (B H W:Int) (z:Bool):Option β:=(g59 n C (⟨#[10]⟩:BA)).bind fun Z=>kn D E F Z.1 I B H (Z.1.length:Int) (0:Int)
def OR:FS1 β:=FXs (fN n) n eT (some oD) none [] [239220,478442]
theorem PU (D:List Int) (E F:Int) (C:BA) (I:List Z16) (B H W:Int) (z:Bool):OR n (mL D E F C I B H W z) cx=OG n (fun D E F p I B H w g=>cx.nrm (mB D E F p I B H w g)) D E F C I B H W z:=by kernel_rfl
def DH (kn:List Int→Int→Int→List BA→List Z16→Int→Int→Int→Int→Option β) (ae:List Int→Int→Int→List Z16→Int→Int→Option β) (D:List Int) (E F:Int) (p:List BA) (I:List Z16) (B H w g:Int):Option β:=bif (decide (g < w)) then (idx g (p.length:Int)<|(g52 n (D,(E,F)) (⟨#[27,91,51,50,109]⟩:BA)).bind fun Z=>(g52 n (Z.2.1.1,(Z.2.1.2.1,Z.2.1.2.2)) (rd p g (⟨#[]⟩:BA))).bind fun r2=>bif (decide (g < (w64 ((p.length:Int) - 1)))) then ((g52 n (r2.2.1.1,(r2.2.1.2.1,r2.2.1.2.2)) (⟨#[27,91,48,109,10]⟩:BA)).bind fun r3=>kn r3.2.1.1 r3.2.1.2.1 r3.2.1.2.2 p I B H w (w64 (g+1))) else ((g52 n (r2.2.1.1,(r2.2.1.2.1,r2.2.1.2.2)) (⟨#[27,91,48,109]⟩:BA)).bind fun r4=>kn r4.2.1.1 r4.2.1.2.1 r4.2.1.2.2 p I B H w (w64 (g+1)))) else (ae D E F I B H)
def BK:FS1 β:=FXs (fN n) n eT (some oD) none [(3,cA)] [3827544,7655090,15310182,15310183]
theorem IN (D:List Int) (E F:Int) (p:List BA) (I:List Z16) (B H w g:Int):BK n (mB D E F p I B H w g) cx=DH n (fun D E F p I B H w g=>cx.nrm (mB D E F p I B H w g)) (fun D E F I B H=>cx.ex 3 (bI D E F I B H)) D E F p I B H w g:=by kernel_rfl
def g48_7L (n:Nat) (ae:List Int→Int→Int→List Z16→Int→Int→Option β):Nat→List Int→Int→Int→List BA→List Z16→Int→Int→Int→Int→Option β
  | 0,_,_,_,_,_,_,_,_,_=>none
  | m+1,D,E,F,p,I,B,H,w,g=>DH n (g48_7L n ae m) ae D E F p I B H w g
def HY (ae:List Int→Int→Int→List Z16→Int→Int→Option β) (D:List Int) (E F:Int) (p:List BA) (I:List Z16) (B H w g:Int):Option β:=g48_7L n ae n D E F p I B H w g
def KF (s:FState) (cx:Cx β):Option β:=bD (fun again s=>BK n s {cx with nrm:=again}) n s
theorem FD (n:Nat) (cx:Cx β):∀(m:Nat) (D:List Int) (E F:Int) (p:List BA) (I:List Z16) (B H w g:Int),bD (fun again s=>BK n s {cx with nrm:=again}) m (mB D E F p I B H w g)=g48_7L n (fun D E F I B H=>cx.ex 3 (bI D E F I B H)) m D E F p I B H w g:=by
  intro m
  induction m with
  | zero=>intros;rfl
  | succ m ih=>intros;simp only [bD,g48_7L,IN,ih]
theorem OM (D:List Int) (E F:Int) (p:List BA) (I:List Z16) (B H w g:Int):KF n (mB D E F p I B H w g) cx=HY n (fun D E F I B H=>cx.ex 3 (bI D E F I B H)) D E F p I B H w g:=FD n cx n D E F p I B H w g
def MZ (kn:List Int→Int→Int→List Z16→Int→Int→Option β) (D:List Int) (E F:Int) (p:List BA) (I:List Z16) (B H w g:Int):Option β:=HY n kn D E F p I B H w g
def NT (s:FState) (cx:Cx β):Option β:=KF n s {cx with ex:=fun j s=>bif Nat.beq j 3 then cx.nrm s else cx.ex j s}
theorem PQ (D:List Int) (E F:Int) (p:List BA) (I:List Z16) (B H w g:Int):NT n (mB D E F p I B H w g) cx=MZ n (fun D E F I B H=>cx.nrm (bI D E F I B H)) D E F p I B H w g:=OM n _ D E F p I B H w g
def xE (kn:List Int→Int→Int→List Z16→Int→Int→Option β) (D:List Int) (E F:Int) (C:BA) (I:List Z16) (B H W:Int) (z:Bool):Option β:=OG n (fun D E F p I B H w g=>MZ n kn D E F p I B H w g) D E F C I B H W z
def BT (s:FState) (cx:Cx β):Option β:=OR n s {cx with nrm:=fun s=>NT n s cx}
theorem MO (D:List Int) (E F:Int) (C:BA) (I:List Z16) (B H W:Int) (z:Bool):BT n (mL D E F C I B H W z) cx=xE n (fun D E F I B H=>cx.nrm (bI D E F I B H)) D E F C I B H W z:=by simp only [BT,xE,PU,PQ]
def tQ (n:Nat) (kn:List Int→Int→Int→BA→List Z16→Int→Int→Int→Bool→Option β) (D:List Int) (E F:Int) (C:BA) (I:List Z16) (B H W:Int) (z:Bool):Option β:=kn D E F C I B H W (W==(-1:Int))
def DR:FS1 β:=FXs (fN n) n eT (some EJ) none [] [239222]
theorem ES (D:List Int) (E F:Int) (C:BA) (I:List Z16) (B H W:Int) (z:Bool):DR n (mL D E F C I B H W z) cx=tQ n (fun D E F C I B H W ac=>cx.nrm (oW D E F C I B H W ac)) D E F C I B H W z:=by kernel_rfl
def AF (kn:List Int→Int→Int→List BA→List Z16→Int→Int→Int→Int→Option β) (D:List Int) (E F:Int) (C:BA) (I:List Z16) (B H W:Int) (ac:Bool):Option β:=(g59 n C (⟨#[10]⟩:BA)).bind fun Z=>kn D E F Z.1 I B H (Z.1.length:Int) (0:Int)
def CM:FS1 β:=FXs (fN n) n eT (some kM) none [] [956892,1913786]
theorem EV (D:List Int) (E F:Int) (C:BA) (I:List Z16) (B H W:Int) (ac:Bool):CM n (oW D E F C I B H W ac) cx=AF n (fun D E F q I B H x h=>cx.nrm (iV D E F q I B H x h)) D E F C I B H W ac:=by kernel_rfl
def uD (kn:List Int→Int→Int→List BA→List Z16→Int→Int→Int→Int→Option β) (af:List Int→Int→Int→List Z16→Int→Int→Option β) (D:List Int) (E F:Int) (q:List BA) (I:List Z16) (B H x h:Int):Option β:=bif (decide (h < x)) then (idx h (q.length:Int)<|(g52 n (D,(E,F)) (⟨#[27,91,51,49,109]⟩:BA)).bind fun Z=>(g52 n (Z.2.1.1,(Z.2.1.2.1,Z.2.1.2.2)) (rd q h (⟨#[]⟩:BA))).bind fun r2=>bif (decide (h < (w64 ((q.length:Int) - 1)))) then ((g52 n (r2.2.1.1,(r2.2.1.2.1,r2.2.1.2.2)) (⟨#[27,91,48,109,10]⟩:BA)).bind fun r3=>kn r3.2.1.1 r3.2.1.2.1 r3.2.1.2.2 q I B H x (w64 (h+1))) else ((g52 n (r2.2.1.1,(r2.2.1.2.1,r2.2.1.2.2)) (⟨#[27,91,48,109]⟩:BA)).bind fun r4=>kn r4.2.1.1 r4.2.1.2.1 r4.2.1.2.2 q I B H x (w64 (h+1)))) else (af D E F I B H)
def sZ:FS1 β:=FXs (fN n) n eT (some kM) none [(5,cA)] [15310296,30620594,61241190,61241191]
theorem FE (D:List Int) (E F:Int) (q:List BA) (I:List Z16) (B H x h:Int):sZ n (iV D E F q I B H x h) cx=uD n (fun D E F q I B H x h=>cx.nrm (iV D E F q I B H x h)) (fun D E F I B H=>cx.ex 5 (bI D E F I B H)) D E F q I B H x h:=by kernel_rfl
def g48_13L (n:Nat) (af:List Int→Int→Int→List Z16→Int→Int→Option β):Nat→List Int→Int→Int→List BA→List Z16→Int→Int→Int→Int→Option β
  | 0,_,_,_,_,_,_,_,_,_=>none
  | m+1,D,E,F,q,I,B,H,x,h=>uD n (g48_13L n af m) af D E F q I B H x h
def BU (af:List Int→Int→Int→List Z16→Int→Int→Option β) (D:List Int) (E F:Int) (q:List BA) (I:List Z16) (B H x h:Int):Option β:=g48_13L n af n D E F q I B H x h
def CV (s:FState) (cx:Cx β):Option β:=bD (fun again s=>sZ n s {cx with nrm:=again}) n s
theorem AI (n:Nat) (cx:Cx β):∀(m:Nat) (D:List Int) (E F:Int) (q:List BA) (I:List Z16) (B H x h:Int),bD (fun again s=>sZ n s {cx with nrm:=again}) m (iV D E F q I B H x h)=g48_13L n (fun D E F I B H=>cx.ex 5 (bI D E F I B H)) m D E F q I B H x h:=by
  intro m
  induction m with
  | zero=>intros;rfl
  | succ m ih=>intros;simp only [bD,g48_13L,FE,ih]
theorem GE (D:List Int) (E F:Int) (q:List BA) (I:List Z16) (B H x h:Int):CV n (iV D E F q I B H x h) cx=BU n (fun D E F I B H=>cx.ex 5 (bI D E F I B H)) D E F q I B H x h:=AI n cx n D E F q I B H x h
def AY (kn:List Int→Int→Int→List Z16→Int→Int→Option β) (D:List Int) (E F:Int) (q:List BA) (I:List Z16) (B H x h:Int):Option β:=BU n kn D E F q I B H x h
def CD (s:FState) (cx:Cx β):Option β:=CV n s {cx with ex:=fun j s=>bif Nat.beq j 5 then cx.nrm s else cx.ex j s}
theorem HJ (D:List Int) (E F:Int) (q:List BA) (I:List Z16) (B H x h:Int):CD n (iV D E F q I B H x h) cx=AY n (fun D E F I B H=>cx.nrm (bI D E F I B H)) D E F q I B H x h:=GE n _ D E F q I B H x h
def oY (kn:List Int→Int→Int→List Z16→Int→Int→Option β) (D:List Int) (E F:Int) (C:BA) (I:List Z16) (B H W:Int) (ac:Bool):Option β:=AF n (fun D E F q I B H x h=>AY n kn D E F q I B H x h) D E F C I B H W ac
def tA (s:FState) (cx:Cx β):Option β:=CM n s {cx with nrm:=fun s=>CD n s cx}
theorem GK (D:List Int) (E F:Int) (C:BA) (I:List Z16) (B H W:Int) (ac:Bool):tA n (oW D E F C I B H W ac) cx=oY n (fun D E F I B H=>cx.nrm (bI D E F I B H)) D E F C I B H W ac:=by simp only [tA,oY,EV,HJ]
def uG (kn:List Int→Int→Int→List Z16→Int→Int→Option β) (D:List Int) (E F:Int) (C:BA) (I:List Z16) (B H W:Int) (ac:Bool):Option β:=bif (W==(0:Int)) then ((g52 n (D,(E,F)) C).bind fun Z=>kn Z.2.1.1 Z.2.1.2.1 Z.2.1.2.2 I B H) else (kn D E F I B H)
def CX:FS1 β:=FXs (fN n) n eT (some cA) none [] [956894,956895]
theorem GH (D:List Int) (E F:Int) (C:BA) (I:List Z16) (B H W:Int) (ac:Bool):CX n (oW D E F C I B H W ac) cx=uG n (fun D E F I B H=>cx.nrm (bI D E F I B H)) D E F C I B H W ac:=by kernel_rfl
def pQ (kn:List Int→Int→Int→List Z16→Int→Int→Option β) (D:List Int) (E F:Int) (C:BA) (I:List Z16) (B H W:Int) (ac:Bool):Option β:=bif ac then oY n kn D E F C I B H W ac else uG n kn D E F C I B H W ac
def uV (s:FState) (cx:Cx β):Option β:=asBool (ev s (vE (nav eT [1,1,0,1,0,0,1,1,0,0,1,1,1,0,1,1,1]))) fun t=>cond t (tA n s cx) (CX n s cx)
theorem GN (D:List Int) (E F:Int) (C:BA) (I:List Z16) (B H W:Int) (ac:Bool):uV n (oW D E F C I B H W ac) cx=pQ n (fun D E F I B H=>cx.nrm (bI D E F I B H)) D E F C I B H W ac:=by
  simp only [uV,pQ,GK,GH]
  kernel_rfl
def jV (kn:List Int→Int→Int→List Z16→Int→Int→Option β) (D:List Int) (E F:Int) (C:BA) (I:List Z16) (B H W:Int) (z:Bool):Option β:=tQ n (fun D E F C I B H W ac=>pQ n kn D E F C I B H W ac) D E F C I B H W z
def uO (s:FState) (cx:Cx β):Option β:=DR n s {cx with nrm:=fun s=>uV n s cx}
theorem FU (D:List Int) (E F:Int) (C:BA) (I:List Z16) (B H W:Int) (z:Bool):uO n (mL D E F C I B H W z) cx=jV n (fun D E F I B H=>cx.nrm (bI D E F I B H)) D E F C I B H W z:=by simp only [uO,jV,ES,GN]
def uY (kn:List Int→Int→Int→List Z16→Int→Int→Option β) (D:List Int) (E F:Int) (C:BA) (I:List Z16) (B H W:Int) (z:Bool):Option β:=bif z then xE n kn D E F C I B H W z else jV n kn D E F C I B H W z
def vM (s:FState) (cx:Cx β):Option β:=asBool (ev s (vE (nav eT [1,1,0,1,0,0,1,1,0,0,1,1,1,0,1]))) fun t=>cond t (BT n s cx) (uO n s cx)
theorem HH (D:List Int) (E F:Int) (C:BA) (I:List Z16) (B H W:Int) (z:Bool):vM n (mL D E F C I B H W z) cx=uY n (fun D E F I B H=>cx.nrm (bI D E F I B H)) D E F C I B H W z:=by
  simp only [vM,uY,MO,FU]
  kernel_rfl
def uN (kn:List Int→Int→Int→List Z16→Int→Int→Option β) (D:List Int) (E F:Int) (C:BA) (I:List Z16) (B H W:Int):Option β:=ME n (fun D E F C I B H W z=>uY n kn D E F C I B H W z) D E F C I B H W
def vN (s:FState) (cx:Cx β):Option β:=HU n s {cx with nrm:=fun s=>vM n s cx}
theorem HB (D:List Int) (E F:Int) (C:BA) (I:List Z16) (B H W:Int):vN n (vI D E F C I B H W) cx=uN n (fun D E F I B H=>cx.nrm (bI D E F I B H)) D E F C I B H W:=by simp only [vN,uN,ID,HH]
def zF (kn:List Int→Int→Int→List Z16→Int→Int→Option β) (D:List Int) (E F:Int) (C:BA) (I:List Z16) (B H W:Int):Option β:=uN n kn D E F C I B H W
def BX (s:FState) (cx:Cx β):Option β:=vN n s {cx with ex:=fun j s=>bif Nat.beq j 2 then cx.nrm s else cx.ex j s}
theorem FG (D:List Int) (E F:Int) (C:BA) (I:List Z16) (B H W:Int):BX n (vI D E F C I B H W) cx=zF n (fun D E F I B H=>cx.nrm (bI D E F I B H)) D E F C I B H W:=HB n _ D E F C I B H W
def tU (kn:List Int→Int→Int→List Z16→Int→Int→Option β) (D:List Int) (E F:Int) (I:List Z16) (B H:Int):Option β:=OZ n (fun D E F C I B H W=>zF n kn D E F C I B H W) D E F I B H
def vB (s:FState) (cx:Cx β):Option β:=MV n s {cx with nrm:=fun s=>BX n s cx}
theorem FH (D:List Int) (E F:Int) (I:List Z16) (B H:Int):vB n (bI D E F I B H) cx=tU n (fun D E F I B H=>cx.nrm (bI D E F I B H)) D E F I B H:=by simp only [vB,tU,LT,FG]
def AR (kn:List Int→Int→Int→List Z16→Int→Int→Option β) (D:List Int) (E F:Int) (I:List Z16) (B H:Int):Option β:=tU n kn D E F I B H
def EI (s:FState) (cx:Cx β):Option β:=vB n s {cx with ex:=fun j s=>bif Nat.beq j 1 then cx.nrm s else cx.ex j s}
theorem FJ (D:List Int) (E F:Int) (I:List Z16) (B H:Int):EI n (bI D E F I B H) cx=AR n (fun D E F I B H=>cx.nrm (bI D E F I B H)) D E F I B H:=FH n _ D E F I B H
def kJ (n:Nat) (kn:List Int→Int→Int→List Z16→Int→Int→Option β) (D:List Int) (E F:Int) (I:List Z16) (B H:Int):Option β:=kn D E F I B (w64 (H+1))
def CJ:FS1 β:=FXs (fN n) n eT (some cA) none [] [935]
theorem HE (D:List Int) (E F:Int) (I:List Z16) (B H:Int):CJ n (bI D E F I B H) cx=kJ n (fun D E F I B H=>cx.nrm (bI D E F I B H)) D E F I B H:=by kernel_rfl
def pS (kn:List Int→Int→Int→List Z16→Int→Int→Option β) (X:List Int→Int→Int→Option β) (D:List Int) (E F:Int) (I:List Z16) (B H:Int):Option β:=DJ n (fun D E F I B H=>AR n (fun D E F I B H=>kJ n kn D E F I B H) D E F I B H) X D E F I B H
def nZ (s:FState) (cx:Cx β):Option β:=LJ n s {cx with nrm:=fun s=>EI n s {cx with nrm:=fun s=>CJ n s cx}}
theorem GG (D:List Int) (E F:Int) (I:List Z16) (B H:Int):nZ n (bI D E F I B H) cx=pS n (fun D E F I B H=>cx.nrm (bI D E F I B H)) (fun D E F=>cx.ex 0 (mH D E F)) D E F I B H:=by simp only [nZ,pS,MR,FJ,HE]
def g48_26L (n:Nat) (X:List Int→Int→Int→Option β):Nat→List Int→Int→Int→List Z16→Int→Int→Option β
  | 0,_,_,_,_,_,_=>none
  | m+1,D,E,F,I,B,H=>pS n (g48_26L n X m) X D E F I B H
def zH (X:List Int→Int→Int→Option β) (D:List Int) (E F:Int) (I:List Z16) (B H:Int):Option β:=g48_26L n X n D E F I B H
def DP (s:FState) (cx:Cx β):Option β:=bD (fun again s=>nZ n s {cx with nrm:=again}) n s
theorem AP (n:Nat) (cx:Cx β):∀(m:Nat) (D:List Int) (E F:Int) (I:List Z16) (B H:Int),bD (fun again s=>nZ n s {cx with nrm:=again}) m (bI D E F I B H)=g48_26L n (fun D E F=>cx.ex 0 (mH D E F)) m D E F I B H:=by
  intro m
  induction m with
  | zero=>intros;rfl
  | succ m ih=>intros;simp only [bD,g48_26L,GG,ih]
theorem HI (D:List Int) (E F:Int) (I:List Z16) (B H:Int):DP n (bI D E F I B H) cx=zH n (fun D E F=>cx.ex 0 (mH D E F)) D E F I B H:=AP n cx n D E F I B H
def zA (kn:List Int→Int→Int→Option β) (D:List Int) (E F:Int) (I:List Z16) (B H:Int):Option β:=zH n kn D E F I B H
def CZ (s:FState) (cx:Cx β):Option β:=DP n s {cx with ex:=fun j s=>bif Nat.beq j 0 then cx.nrm s else cx.ex j s}
theorem FZ (D:List Int) (E F:Int) (I:List Z16) (B H:Int):CZ n (bI D E F I B H) cx=zA n (fun D E F=>cx.nrm (mH D E F)) D E F I B H:=HI n _ D E F I B H
def mA (kr:BA→Option β) (D:List Int) (E F:Int):Option β:=(g53 n (D,(E,F))).bind fun Z=>kr Z.1.1
def CR:FS1 β:=FXs (fN n) n eT none (some tO) [] [30,31]
theorem GS (D:List Int) (E F:Int):CR n (mH D E F) cx=mA n (fun P=>cx.ret (IH P)) D E F:=by kernel_rfl
def uH (kr:BA→Option β) (p0:Z6) (x1:List Z16):Option β:=LU n (fun D E F I B H=>zA n (fun D E F=>mA n kr D E F) D E F I B H) p0 x1
def nW (s:FState) (cx:Cx β):Option β:=MD n s {cx with nrm:=fun s=>CZ n s {cx with nrm:=fun s=>CR n s cx}}
theorem GB (p0:Z6) (x1:List Z16):nW n (zT p0 x1) cx=uH n (fun P=>cx.ret (IH P)) p0 x1:=by simp only [nW,uH,JG,FZ,GS]
def g48 (p0:Z6) (x1:List Z16):Option (DenR [.dat .str]):=uH n (fun P=>some (P,())) p0 x1
def UV:List AK:=[.pro Z1 66,.ro Z14 73]
def rN:List RK:=[.dat .str]
def XS (d:DenA UV):Option (DenR rN):=g48 n d.1 d.2.1
def UB:bJ:=bX UV rN (XS n)
def VX:Sk:=(.nd (.fin none none none [] .leaf) (.nd (.fin none none none [] .leaf) (.nd (.nd (.fin none (some cA) none [] .leaf) (.nd (.nd (.nd (.fin none none none [(0,uC)] .leaf) (.nd (.fin none (some cA) none [(0,uC)] .leaf) (.nd (.nd (.nd (.fin none none none [] .leaf) (.nd (.fin none none none [] .leaf) (.nd (.fin none (some CP) none [] .leaf) (.nd (.nd (.fin none (some EK) none [] .leaf) (.nd (.nd (.fin none none none [] .leaf) (.nd (.fin none (some oD) none [] .leaf) (.nd (.nd (.nd (.fin none none none [(3,cA)] .leaf) (.nd (.fin none none none [(3,cA)] .leaf) (.nd (.fin none none none [(3,cA)] .leaf) (.fin none (some oD) none [(3,cA)] .leaf)))) .leaf) .leaf))) (.nd (.fin none (some EJ) none [] .leaf) (.nd (.nd (.fin none none none [] .leaf) (.nd (.fin none (some kM) none [] .leaf) (.nd (.nd (.nd (.fin none none none [(5,cA)] .leaf) (.nd (.fin none none none [(5,cA)] .leaf) (.nd (.fin none none none [(5,cA)] .leaf) (.fin none (some kM) none [(5,cA)] .leaf)))) .leaf) .leaf))) (.nd (.fin none none none [] .leaf) (.fin none (some cA) none [] .leaf)))))) .leaf)))) .leaf) (.fin none (some cA) none [] .leaf)))) .leaf) .leaf)) (.nd (.fin none none (some tO) [] .leaf) (.fin none none (some tO) [] .leaf)))))
theorem RB (s:FState) (cx:Cx β):FX (fN n) n eT VX s cx=nW n s cx:=by kernel_rfl
theorem SU:Fit Tryd.prog 48 (UB n):=
  dI (Γ:={Γ0 with cel:=[5]}) (l:=UX n) (n:=n) (sk:=VX) (ts:=[(4,none)]) (fn:=Tryd.f48) (c:=eT) (by kernel_rfl) (by kernel_rfl) (by unfold bC;kernel_rfl) (WA tab_ok [5]) ⟨SO n,QW n,RR n,trivial⟩ aT (by kernel_rfl) (by kernel_rfl) (Nat.le_of_ble_eq_true (by kernel_rfl)) (Nat.le_of_ble_eq_true (by kernel_rfl)) (by kernel_rfl) (by kernel_rfl)
    (fun d=>(RB n _ _).trans (Eq.trans (b:=nW n (zT d.1 d.2.1) (eC (fN n) rN [(4,none)])) (by kernel_rfl) ((GB n _ d.1 d.2.1).trans (by kernel_rfl))))
def KA (N:List Z16):FState:=⟨aQ [(0,.sl 0 none false)],aF [(0,.row Z13 34 false N)]⟩
def WY (J:BA):FState:=⟨aQ [(2,.dat .str J)],aF []⟩
def oE:List NE:=[.keep 2]
def VB:List (Nat×bJ):=[(37,VF n),(39,VM n),(48,UB n)]
def NW:Ctx:={Γ0 with calls:=lkS (VB n)}
def PH:Code:=fb Tryd.f28
def HT (kr:BA→Option β) (N:List Z16):Option β:=(g37 n).bind fun Z=>(g39 n N).bind fun r2=>(g48 n Z.1 r2.1).bind fun r3=>kr r3.1
def zO:FS1 β:=FXs (NW n) n PH none (some oE) [] [2,6,7]
theorem JR (N:List Z16):zO n (KA N) cx=HT n (fun J=>cx.ret (WY J)) N:=by kernel_rfl
def g28 (N:List Z16):Option (DenR [.dat .str]):=HT n (fun J=>some (J,())) N
def TZ:List AK:=[.ro Z13 34]
def MB:List RK:=[.dat .str]
def YJ (d:DenA TZ):Option (DenR MB):=g28 n d.1
def VK:bJ:=bX TZ MB (YJ n)
def UH:Sk:=(.nd (.fin none none (some oE) [] .leaf) (.nd (.fin none none (some oE) [] .leaf) (.fin none none (some oE) [] .leaf)))
theorem RU (s:FState) (cx:Cx β):FX (NW n) n PH UH s cx=zO n s cx:=by kernel_rfl
theorem RI:Fit Tryd.prog 28 (VK n):=
  dI (Γ:=Γ0) (l:=VB n) (n:=n) (sk:=UH) (ts:=[(2,none)]) (fn:=Tryd.f28) (c:=PH) (by kernel_rfl) (by kernel_rfl) (by unfold bC;kernel_rfl) tab_ok ⟨SP n,SL n,SU n,trivial⟩ aT (by kernel_rfl) (by kernel_rfl) (Nat.le_of_ble_eq_true (by kernel_rfl)) (Nat.le_of_ble_eq_true (by kernel_rfl)) (by kernel_rfl) (by kernel_rfl)
    (fun d=>(RU n _ _).trans (Eq.trans (b:=zO n (KA d.1) (eC (NW n) MB [(2,none)])) (by kernel_rfl) ((JR n _ d.1).trans (by kernel_rfl))))
def BC (A:BA):FState:=⟨aQ [(0,.dat .str A)],aF []⟩
def PB (J:BA):FState:=⟨aQ [(2,.dat .str J)],aF []⟩
def uP:List NE:=[.keep 2]
def cK (A:BA) (G:List Int) (P:Int):FState:=⟨aQ [(0,.dat .str A),(3,.sl 3 none false),(4,.dat (.int .i64) P)],aF [(3,.row (.int .u8) 5 true G)]⟩
def dE:List NE:=[.keep 0,.row 3 (.int .u8) 5 true,.keep 4]
def mN (G:List Int):FState:=⟨aQ [(3,.sl 3 none false)],aF [(3,.row (.int .u8) 5 true G)]⟩
def uX:List NE:=[.row 3 (.int .u8) 5 true]
def fI (A:BA) (G:List Int) (P U:Int):FState:=⟨aQ [(0,.dat .str A),(3,.sl 3 none false),(4,.dat (.int .i64) P),(5,.dat (.int .i64) U)],aF [(3,.row (.int .u8) 5 true G)]⟩
def fS:List NE:=[.keep 0,.row 3 (.int .u8) 5 true,.keep 4,.keep 5]
def TO (n:Nat):List (Nat×bJ):=[]
def jM:Ctx:={Γ0 with calls:=lkS (TO n)}
def jG:Code:=fb Tryd.f27
def KW (n:Nat) (kn:BA→List Int→Int→Option β) (A:BA):Option β:=kn A [] (0:Int)
def JI:FS1 β:=FXs (jM n) n jG (some dE) none [] [2,6,28]
theorem OS (A:BA):JI n (BC A) cx=KW n (fun A G P=>cx.nrm (cK A G P)) A:=by kernel_rfl
def xN (n:Nat) (kn:BA→List Int→Int→Option β) (X:List Int→Option β) (A:BA) (G:List Int) (P:Int):Option β:=bif (decide (P < (A.size:Int))) then (kn A G P) else (X G)
def JC:FS1 β:=FXs (jM n) n jG (some dE) none [(0,uX)] [464,465]
theorem IT (A:BA) (G:List Int) (P:Int):JC n (cK A G P) cx=xN n (fun A G P=>cx.nrm (cK A G P)) (fun G=>cx.ex 0 (mN G)) A G P:=by kernel_rfl
def DK (n:Nat) (kn:BA→List Int→Int→Int→Option β) (A:BA) (G:List Int) (P:Int):Option β:=kn A G P (w64 (P+2))
def IP:FS1 β:=FXs (jM n) n jG (some fS) none [] [1864]
theorem KN (A:BA) (G:List Int) (P:Int):IP n (cK A G P) cx=DK n (fun A G P U=>cx.nrm (fI A G P U)) A G P:=by kernel_rfl
def sM (n:Nat) (kn ad:BA→List Int→Int→Int→Option β) (A:BA) (G:List Int) (P U:Int):Option β:=bif (decide (U < (A.size:Int))) then (idx U (A.size:Int)<|bif (decide ((byteAt A U)≥(48:Int))) then (idx U (A.size:Int)<|bif (decide ((byteAt A U)≤(57:Int))) then (kn A G P (w64 (U+1))) else (ad A G P U)) else (ad A G P U)) else (ad A G P U)
def AW:FS1 β:=FXs (jM n) n jG (some fS) none [(2,fS)] [59680,59681,29841]
theorem MX (A:BA) (G:List Int) (P U:Int):AW n (fI A G P U) cx=sM n (fun A G P U=>cx.nrm (fI A G P U)) (fun A G P U=>cx.ex 2 (fI A G P U)) A G P U:=by kernel_rfl
def g27_5L (n:Nat) (ad:BA→List Int→Int→Int→Option β):Nat→BA→List Int→Int→Int→Option β
  | 0,_,_,_,_=>none
  | m+1,A,G,P,U=>sM n (g27_5L n ad m) ad A G P U
def DY (ad:BA→List Int→Int→Int→Option β) (A:BA) (G:List Int) (P U:Int):Option β:=g27_5L n ad n A G P U
def KD (s:FState) (cx:Cx β):Option β:=bD (fun again s=>AW n s {cx with nrm:=again}) n s
theorem GD (n:Nat) (cx:Cx β):∀(m:Nat) (A:BA) (G:List Int) (P U:Int),bD (fun again s=>AW n s {cx with nrm:=again}) m (fI A G P U)=g27_5L n (fun A G P U=>cx.ex 2 (fI A G P U)) m A G P U:=by
  intro m
  induction m with
  | zero=>intros;rfl
  | succ m ih=>intros;simp only [bD,g27_5L,MX,ih]
theorem OX (A:BA) (G:List Int) (P U:Int):KD n (fI A G P U) cx=DY n (fun A G P U=>cx.ex 2 (fI A G P U)) A G P U:=GD n cx n A G P U
def CA (kn:BA→List Int→Int→Int→Option β) (A:BA) (G:List Int) (P U:Int):Option β:=DY n kn A G P U
def OI (s:FState) (cx:Cx β):Option β:=KD n s {cx with ex:=fun j s=>bif Nat.beq j 2 then cx.nrm s else cx.ex j s}
theorem JK (A:BA) (G:List Int) (P U:Int):OI n (fI A G P U) cx=CA n (fun A G P U=>cx.nrm (fI A G P U)) A G P U:=OX n _ A G P U
def CW (n:Nat) (kn ag:BA→List Int→Int→Option β) (A:BA) (G:List Int) (P U:Int):Option β:=idx P (A.size:Int)<|bif ((byteAt A P)==(27:Int)) then (bif (decide ((w64 (P+1)) < (A.size:Int))) then (idx (w64 (P+1)) (A.size:Int)<|bif ((byteAt A (w64 (P+1)))==(91:Int)) then (bif (decide (U < (A.size:Int))) then (idx U (A.size:Int)<|bif ((byteAt A U)==(109:Int)) then (ag A G U) else (kn A G P)) else (kn A G P)) else (kn A G P)) else (kn A G P)) else (kn A G P)
def OL:FS1 β:=FXs (jM n) n jG (some dE) none [(1,dE)] [14924,14925]
theorem PZ (A:BA) (G:List Int) (P U:Int):OL n (fI A G P U) cx=CW n (fun A G P=>cx.nrm (cK A G P)) (fun A G P=>cx.ex 1 (cK A G P)) A G P U:=by kernel_rfl
def LD (n:Nat) (kn:BA→List Int→Int→Option β) (A:BA) (G:List Int) (P:Int):Option β:=idx P (A.size:Int)<|dS (G.length+[(byteAt A P)].length)<|kn A (G++[(byteAt A P)]) P
def NP:FS1 β:=FXs (jM n) n jG (some dE) none [] [7463]
theorem NK (A:BA) (G:List Int) (P:Int):NP n (cK A G P) cx=LD n (fun A G P=>cx.nrm (cK A G P)) A G P:=by kernel_rfl
def yA (kn ag:BA→List Int→Int→Option β) (A:BA) (G:List Int) (P:Int):Option β:=DK n (fun A G P U=>CA n (fun A G P U=>CW n (fun A G P=>LD n kn A G P) ag A G P U) A G P U) A G P
def yU (s:FState) (cx:Cx β):Option β:=IP n s {cx with nrm:=fun s=>OI n s {cx with nrm:=fun s=>OL n s {cx with nrm:=fun s=>NP n s cx}}}
theorem JD (A:BA) (G:List Int) (P:Int):yU n (cK A G P) cx=yA n (fun A G P=>cx.nrm (cK A G P)) (fun A G P=>cx.ex 1 (cK A G P)) A G P:=by simp only [yU,yA,KN,JK,PZ,NK]
def tL (kn:BA→List Int→Int→Option β) (A:BA) (G:List Int) (P:Int):Option β:=yA n kn kn A G P
def BZ (s:FState) (cx:Cx β):Option β:=yU n s {cx with ex:=fun j s=>bif Nat.beq j 1 then cx.nrm s else cx.ex j s}
theorem FI (A:BA) (G:List Int) (P:Int):BZ n (cK A G P) cx=tL n (fun A G P=>cx.nrm (cK A G P)) A G P:=JD n _ A G P
def vO (n:Nat) (kn:BA→List Int→Int→Option β) (A:BA) (G:List Int) (P:Int):Option β:=kn A G (w64 (P+1))
def DU:FS1 β:=FXs (jM n) n jG (some dE) none [] [467]
theorem FC (A:BA) (G:List Int) (P:Int):DU n (cK A G P) cx=vO n (fun A G P=>cx.nrm (cK A G P)) A G P:=by kernel_rfl
def mF (kn:BA→List Int→Int→Option β) (X:List Int→Option β) (A:BA) (G:List Int) (P:Int):Option β:=xN n (fun A G P=>tL n (fun A G P=>vO n kn A G P) A G P) X A G P
def oG (s:FState) (cx:Cx β):Option β:=JC n s {cx with nrm:=fun s=>BZ n s {cx with nrm:=fun s=>DU n s cx}}
theorem GC (A:BA) (G:List Int) (P:Int):oG n (cK A G P) cx=mF n (fun A G P=>cx.nrm (cK A G P)) (fun G=>cx.ex 0 (mN G)) A G P:=by simp only [oG,mF,IT,FI,FC]
def g27_13L (n:Nat) (X:List Int→Option β):Nat→BA→List Int→Int→Option β
  | 0,_,_,_=>none
  | m+1,A,G,P=>mF n (g27_13L n X m) X A G P
def BI (X:List Int→Option β) (A:BA) (G:List Int) (P:Int):Option β:=g27_13L n X n A G P
def CE (s:FState) (cx:Cx β):Option β:=bD (fun again s=>oG n s {cx with nrm:=again}) n s
theorem yG (n:Nat) (cx:Cx β):∀(m:Nat) (A:BA) (G:List Int) (P:Int),bD (fun again s=>oG n s {cx with nrm:=again}) m (cK A G P)=g27_13L n (fun G=>cx.ex 0 (mN G)) m A G P:=by
  intro m
  induction m with
  | zero=>intros;rfl
  | succ m ih=>intros;simp only [bD,g27_13L,GC,ih]
theorem HD (A:BA) (G:List Int) (P:Int):CE n (cK A G P) cx=BI n (fun G=>cx.ex 0 (mN G)) A G P:=yG n cx n A G P
def BR (kn:List Int→Option β) (A:BA) (G:List Int) (P:Int):Option β:=BI n kn A G P
def DG (s:FState) (cx:Cx β):Option β:=CE n s {cx with ex:=fun j s=>bif Nat.beq j 0 then cx.nrm s else cx.ex j s}
theorem GT (A:BA) (G:List Int) (P:Int):DG n (cK A G P) cx=BR n (fun G=>cx.nrm (mN G)) A G P:=HD n _ A G P
def AL (n:Nat) (kr:BA→Option β) (G:List Int):Option β:=kr (strOfNums G)
def DE:FS1 β:=FXs (jM n) n jG none (some uP) [] [30,31]
theorem FR (G:List Int):DE n (mN G) cx=AL n (fun J=>cx.ret (PB J)) G:=by kernel_rfl
def vW (kr:BA→Option β) (A:BA):Option β:=KW n (fun A G P=>BR n (fun G=>AL n kr G) A G P) A
def nX (s:FState) (cx:Cx β):Option β:=JI n s {cx with nrm:=fun s=>DG n s {cx with nrm:=fun s=>DE n s cx}}
theorem GR (A:BA):nX n (BC A) cx=vW n (fun J=>cx.ret (PB J)) A:=by simp only [nX,vW,OS,GT,FR]
def g27 (A:BA):Option (DenR [.dat .str]):=vW n (fun J=>some (J,())) A
def VN:List AK:=[.dat .str]
def LN:List RK:=[.dat .str]
def XF (d:DenA VN):Option (DenR LN):=g27 n d.1
def VA:bJ:=bX VN LN (XF n)
def VP:Sk:=(.nd (.fin none none none [] .leaf) (.nd (.fin none none none [] .leaf) (.nd (.nd (.fin none (some dE) none [] .leaf) (.nd (.nd (.nd (.nd (.fin none none none [(0,uX)] .leaf) (.fin none (some dE) none [(0,uX)] .leaf)) (.nd (.nd (.nd (.fin none (some fS) none [] .leaf) (.nd (.nd (.nd (.nd (.nd (.fin none none none [(2,fS)] .leaf) (.fin none none none [(2,fS)] .leaf)) (.fin none (some fS) none [(2,fS)] .leaf)) .leaf) .leaf) (.nd (.nd (.fin none none none [(1,dE)] .leaf) (.fin none (some dE) none [(1,dE)] .leaf)) (.fin none (some dE) none [] .leaf)))) .leaf) (.fin none (some dE) none [] .leaf))) .leaf) .leaf)) (.nd (.fin none none (some uP) [] .leaf) (.fin none none (some uP) [] .leaf)))))
theorem RA (s:FState) (cx:Cx β):FX (jM n) n jG VP s cx=nX n s cx:=by kernel_rfl
theorem SF:Fit Tryd.prog 27 (VA n):=
  dI (Γ:=Γ0) (l:=TO n) (n:=n) (sk:=VP) (ts:=[(2,none)]) (fn:=Tryd.f27) (c:=jG) (by kernel_rfl) (by kernel_rfl) (by unfold bC;kernel_rfl) tab_ok trivial aT (by kernel_rfl) (by kernel_rfl) (Nat.le_of_ble_eq_true (by kernel_rfl)) (Nat.le_of_ble_eq_true (by kernel_rfl)) (by kernel_rfl) (by kernel_rfl)
    (fun d=>(RA n _ _).trans (Eq.trans (b:=nX n (BC d.1) (eC (jM n) LN [(2,none)])) (by kernel_rfl) ((GR n _ d.1).trans (by kernel_rfl))))
def LB (N:List Z16):FState:=⟨aQ [(0,.sl 0 none false)],aF [(0,.row Z13 34 false N)]⟩
def HR (J:Bool):FState:=⟨aQ [(2,.dat .bool J)],aF []⟩
def fL:List NE:=[.keep 2]
def sK (N:List Z16) (L:BA) (aa V:Int):FState:=⟨aQ [(0,.sl 0 none false),(3,.dat .str L),(13,.sl 0 none false),(14,.dat (.int .i64) aa),(15,.dat (.int .i64) V)],aF [(0,.row Z13 34 true N)]⟩
def tT:List NE:=[.row 0 Z13 34 true,.keep 3,.row 13 Z13 34 true,.keep 14,.keep 15]
def xT (N:List Z16) (L:BA):FState:=⟨aQ [(0,.sl 0 none false),(3,.dat .str L)],aF [(0,.row Z13 34 true N)]⟩
def qT:List NE:=[.row 0 Z13 34 true,.keep 3]
def YC:List (Nat×bJ):=[(14,UT n),(22,UI n),(26,TJ n),(27,VA n),(28,VK n)]
def PK:Ctx:={Γ0 with calls:=lkS (YC n)}
def NA:Code:=fb Tryd.f8
def WC (kn:List Z16→BA→Int→Int→Option β) (kr:Bool→Option β) (N:List Z16):Option β:=(g14 n N).bind fun Z=>bif (!Z.1) then (kr true) else ((g22 n N).bind fun r2=>kn r2.1 (⟨#[]⟩:BA) (r2.1.length:Int) (0:Int))
def VQ:FS1 β:=FXs (PK n) n NA (some tT) (some fL) [] [2,12,13,14,30,124]
theorem SR (N:List Z16):VQ n (LB N) cx=WC n (fun N L aa V=>cx.nrm (sK N L aa V)) (fun J=>cx.ret (HR J)) N:=by kernel_rfl
def RM (n:Nat) (kn:List Z16→BA→Int→Int→Option β) (X:List Z16→BA→Option β) (N:List Z16) (L:BA) (aa V:Int):Option β:=bif (decide (V < aa)) then (idx V (N.length:Int)<|dS (L.size+((rd [(rd N V Z10)] (0:Int) Z10).2).size)<|kn N (L++(rd [(rd N V Z10)] (0:Int) Z10).2) aa (w64 (V+1))) else (X N L)
def PI:FS1 β:=FXs (PK n) n NA (some tT) none [(0,qT)] [1000,2002,4006,4007]
theorem QQ (N:List Z16) (L:BA) (aa V:Int):PI n (sK N L aa V) cx=RM n (fun N L aa V=>cx.nrm (sK N L aa V)) (fun N L=>cx.ex 0 (xT N L)) N L aa V:=by kernel_rfl
def g8_3L (n:Nat) (X:List Z16→BA→Option β):Nat→List Z16→BA→Int→Int→Option β
  | 0,_,_,_,_=>none
  | m+1,N,L,aa,V=>RM n (g8_3L n X m) X N L aa V
def WE (X:List Z16→BA→Option β) (N:List Z16) (L:BA) (aa V:Int):Option β:=g8_3L n X n N L aa V
def UR (s:FState) (cx:Cx β):Option β:=bD (fun again s=>PI n s {cx with nrm:=again}) n s
theorem MI (n:Nat) (cx:Cx β):∀(m:Nat) (N:List Z16) (L:BA) (aa V:Int),bD (fun again s=>PI n s {cx with nrm:=again}) m (sK N L aa V)=g8_3L n (fun N L=>cx.ex 0 (xT N L)) m N L aa V:=by
  intro m
  induction m with
  | zero=>intros;rfl
  | succ m ih=>intros;simp only [bD,g8_3L,QQ,ih]
theorem SH (N:List Z16) (L:BA) (aa V:Int):UR n (sK N L aa V) cx=WE n (fun N L=>cx.ex 0 (xT N L)) N L aa V:=MI n cx n N L aa V
def WJ (kn:List Z16→BA→Option β) (N:List Z16) (L:BA) (aa V:Int):Option β:=WE n kn N L aa V
def TC (s:FState) (cx:Cx β):Option β:=UR n s {cx with ex:=fun j s=>bif Nat.beq j 0 then cx.nrm s else cx.ex j s}
theorem RF (N:List Z16) (L:BA) (aa V:Int):TC n (sK N L aa V) cx=WJ n (fun N L=>cx.nrm (xT N L)) N L aa V:=SH n _ N L aa V
def NI (kr:Bool→Option β) (N:List Z16) (L:BA):Option β:=(g26 n N).bind fun Z=>bif Z.2.1 then (kr true) else ((g28 n N).bind fun r2=>(g27 n r2.1).bind fun r3=>kr (fE r3.1 L))
def TQ:FS1 β:=FXs (PK n) n NA none (some fL) [] [126,254,255]
theorem SQ (N:List Z16) (L:BA):TQ n (xT N L) cx=NI n (fun J=>cx.ret (HR J)) N L:=by kernel_rfl
def QZ (kr:Bool→Option β) (N:List Z16):Option β:=WC n (fun N L aa V=>WJ n (fun N L=>NI n kr N L) N L aa V) kr N
def DD (s:FState) (cx:Cx β):Option β:=VQ n s {cx with nrm:=fun s=>TC n s {cx with nrm:=fun s=>TQ n s cx}}
theorem RN (N:List Z16):DD n (LB N) cx=QZ n (fun J=>cx.ret (HR J)) N:=by simp only [DD,QZ,SR,RF,SQ]
def g8 (N:List Z16):Option (DenR [.dat .bool]):=QZ n (fun J=>some (J,())) N
def g8_A:List AK:=[.ro Z13 34]
def WN:List RK:=[.dat .bool]
def WZ (d:DenA g8_A):Option (DenR WN):=g8 n d.1
def YU:bJ:=bX g8_A WN (WZ n)
def XN:Sk:=(.nd (.fin none none (some fL) [] .leaf) (.nd (.nd (.fin none none (some fL) [] .leaf) (.fin none none (some fL) [] .leaf)) (.nd (.fin none none (some fL) [] .leaf) (.nd (.fin none none (some fL) [] .leaf) (.nd (.nd (.fin none (some tT) (some fL) [] .leaf) (.nd (.nd (.nd (.fin none none none [(0,qT)] .leaf) (.nd (.fin none none none [(0,qT)] .leaf) (.nd (.fin none none none [(0,qT)] .leaf) (.fin none (some tT) none [(0,qT)] .leaf)))) .leaf) .leaf)) (.nd (.fin none none (some fL) [] .leaf) (.nd (.fin none none (some fL) [] .leaf) (.fin none none (some fL) [] .leaf))))))))
theorem WH (s:FState) (cx:Cx β):FX (PK n) n NA XN s cx=DD n s cx:=by kernel_rfl
theorem WK:Fit Tryd.prog 8 (YU n):=
  dI (Γ:=Γ0) (l:=YC n) (n:=n) (sk:=XN) (ts:=[(2,none)]) (fn:=Tryd.f8) (c:=NA) (by kernel_rfl) (by kernel_rfl) (by unfold bC;kernel_rfl) tab_ok ⟨QP n,RY n,RC n,SF n,RI n,trivial⟩ aT (by kernel_rfl) (by kernel_rfl) (Nat.le_of_ble_eq_true (by kernel_rfl)) (Nat.le_of_ble_eq_true (by kernel_rfl)) (by kernel_rfl) (by kernel_rfl)
    (fun d=>(WH n _ _).trans (Eq.trans (b:=DD n (LB d.1) (eC (PK n) WN [(2,none)])) (by kernel_rfl) ((RN n _ d.1).trans (by kernel_rfl))))
end
end
end Go.Proofs.YtoafkjeamgelgaaDoorHF
