import Derived.Test.YtfnjlgflbenfoaaDoorHFT
import Derived.Test.YtfnjlgflbenfoaaDoorHFE
namespace Go.Proofs.YtfnjlgflbenfoaaDoorHF
noncomputable section
open Go Go.Proofs
set_option linter.unusedVariables false
set_option maxRecDepth 100000
variable {β:Type}
def HJ (H:Z16):FState:=⟨aQ [(0,.dat Z13 H)],aF []⟩
def TD (J:Bool):FState:=⟨aQ [(2,.dat .bool J)],aF []⟩
def iL:List NE:=[.keep 2]
def QL (n:Nat):List (Nat×bG):=[]
section
variable (n:Nat) (cx:Cx β)
def LR:Ctx:={Γ0 with calls:=lkS (QL n)}
def KP:Code:=fb Tryd.f26
def NL (n:Nat) (kr:Bool→Option β) (H:Z16):Option β:=bif (decide ((H.2.size:Int)>(2147483647:Int))) then (kr false) else (kr true)
def zU:FS1 β:=FXs (LR n) n KP none (some iL) [] [2,12,13,14,15]
theorem HU (H:Z16):zU n (HJ H) cx=NL n (fun J=>cx.ret (TD J)) H:=by kernel_rfl
def g26 (H:Z16):Option (DenR [.dat .bool]):=NL n (fun J=>some (J,())) H
def RH:List AK:=[.dat Z13]
def IO:List RK:=[.dat .bool]
def VJ (d:DenA RH):Option (DenR IO):=g26 n d.1
def QE:bG:=bU RH IO (VJ n)
def RO:Sk:=(.nd (.fin none none (some iL) [] .leaf) (.nd (.nd (.fin none none (some iL) [] .leaf) (.fin none none (some iL) [] .leaf)) (.nd (.fin none none (some iL) [] .leaf) (.fin none none (some iL) [] .leaf))))
theorem OE (s:FState) (cx:Cx β):FX (LR n) n KP RO s cx=zU n s cx:=by kernel_rfl
theorem OT:Fit Tryd.prog 26 (QE n):=
  dA (Γ:=Γ0) (l:=QL n) (n:=n) (sk:=RO) (ts:=[(2,none)]) (fn:=Tryd.f26) (c:=KP) (by kernel_rfl) (by kernel_rfl) (by unfold bA;kernel_rfl) tab_ok trivial aT (by kernel_rfl) (by kernel_rfl) (Nat.le_of_ble_eq_true (by kernel_rfl)) (Nat.le_of_ble_eq_true (by kernel_rfl)) (by kernel_rfl) (by kernel_rfl)
    (fun d=>(OE n _ _).trans (Eq.trans (b:=zU n (HJ d.1) (dP (LR n) IO [(2,none)])) (by kernel_rfl) ((HU n _ d.1).trans (by kernel_rfl))))
def GN (P:List Z16):FState:=⟨aQ [(0,.sl 0 none false)],aF [(0,.row Z13 45 false P)]⟩
def pE (J:Bool):FState:=⟨aQ [(2,.dat .bool J)],aF []⟩
def dZ:List NE:=[.keep 2]
def qS (v:List Z16) (L u:Int):FState:=⟨aQ [(8,.sl 8 none false),(9,.dat (.int .i64) L),(10,.dat (.int .i64) u)],aF [(8,.row Z13 45 false v)]⟩
def sG:List NE:=[.row 8 Z13 45 false,.keep 9,.keep 10]
def wD:FState:=⟨aQ [],aF []⟩
def pS:List NE:=[]
def VO:List (Nat×bG):=[(26,QE n)]
def JQ:Ctx:={Γ0 with calls:=lkS (VO n)}
def NM:Code:=fb Tryd.f9
def TM (n:Nat) (kn:List Z16→Int→Int→Option β) (kr:Bool→Option β) (P:List Z16):Option β:=bif (decide ((P.length:Int)>(2147483647:Int))) then (kr false) else (kn P (P.length:Int) (0:Int))
def QZ:FS1 β:=FXs (JQ n) n NM (some sG) (some dZ) [] [2,12,13,28]
theorem OX (P:List Z16):QZ n (GN P) cx=TM n (fun v L u=>cx.nrm (qS v L u)) (fun J=>cx.ret (pE J)) P:=by kernel_rfl
def PW (kn:List Z16→Int→Int→Option β) (kr:Bool→Option β) (V:Option β) (v:List Z16) (L u:Int):Option β:=bif (decide (u < L)) then (idx u (v.length:Int)<|(g26 n (rd [(rd v u Z10)] (0:Int) Z10)).bind fun Z=>bif (!Z.1) then (kr false) else (kn v L (w64 (u+1)))) else V
def JX:FS1 β:=FXs (JQ n) n NM (some sG) (some dZ) [(0,pS)] [232,466,934,935]
theorem OB (v:List Z16) (L u:Int):JX n (qS v L u) cx=PW n (fun v L u=>cx.nrm (qS v L u)) (fun J=>cx.ret (pE J)) (cx.ex 0 wD) v L u:=by kernel_rfl
def g9_3L (n:Nat) (kr:Bool→Option β) (V:Option β):Nat→List Z16→Int→Int→Option β
  | 0,_,_,_=>none
  | m+1,v,L,u=>PW n (g9_3L n kr V m) kr V v L u
def UV (kr:Bool→Option β) (V:Option β) (v:List Z16) (L u:Int):Option β:=g9_3L n kr V n v L u
def SF (s:FState) (cx:Cx β):Option β:=bC (fun again s=>JX n s {cx with nrm:=again}) n s
theorem IW (n:Nat) (cx:Cx β):∀(m:Nat) (v:List Z16) (L u:Int),bC (fun again s=>JX n s {cx with nrm:=again}) m (qS v L u)=g9_3L n (fun J=>cx.ret (pE J)) (cx.ex 0 wD) m v L u:=by
  intro m
  induction m with
  | zero=>intros;rfl
  | succ m ih=>intros;simp only [bC,g9_3L,OB,ih]
theorem PJ (v:List Z16) (L u:Int):SF n (qS v L u) cx=UV n (fun J=>cx.ret (pE J)) (cx.ex 0 wD) v L u:=IW n cx n v L u
def UQ (kn:Option β) (kr:Bool→Option β) (v:List Z16) (L u:Int):Option β:=UV n kr kn v L u
def QD (s:FState) (cx:Cx β):Option β:=SF n s {cx with ex:=fun j s=>bif Nat.beq j 0 then cx.nrm s else cx.ex j s}
theorem PV (v:List Z16) (L u:Int):QD n (qS v L u) cx=UQ n (cx.nrm wD) (fun J=>cx.ret (pE J)) v L u:=PJ n _ v L u
def DL (n:Nat) (kr:Bool→Option β):Option β:=kr true
def QM:FS1 β:=FXs (JQ n) n NM none (some dZ) [] [30,31]
theorem OL:QM n wD cx=DL n (fun J=>cx.ret (pE J)):=by kernel_rfl
def OQ (kr:Bool→Option β) (P:List Z16):Option β:=TM n (fun v L u=>UQ n (DL n kr) kr v L u) kr P
def BH (s:FState) (cx:Cx β):Option β:=QZ n s {cx with nrm:=fun s=>QD n s {cx with nrm:=fun s=>QM n s cx}}
theorem OC (P:List Z16):BH n (GN P) cx=OQ n (fun J=>cx.ret (pE J)) P:=by simp only [BH,OQ,OX,PV,OL]
def g9 (P:List Z16):Option (DenR [.dat .bool]):=OQ n (fun J=>some (J,())) P
def UW:List AK:=[.ro Z13 45]
def TH:List RK:=[.dat .bool]
def WA (d:DenA UW):Option (DenR TH):=g9 n d.1
def UT:bG:=bU UW TH (WA n)
def UH:Sk:=(.nd (.fin none none (some dZ) [] .leaf) (.nd (.nd (.fin none none (some dZ) [] .leaf) (.fin none none (some dZ) [] .leaf)) (.nd (.nd (.fin none (some sG) (some dZ) [] .leaf) (.nd (.nd (.nd (.fin none none (some dZ) [(0,pS)] .leaf) (.nd (.fin none none (some dZ) [(0,pS)] .leaf) (.nd (.fin none none (some dZ) [(0,pS)] .leaf) (.fin none (some sG) (some dZ) [(0,pS)] .leaf)))) .leaf) .leaf)) (.nd (.fin none none (some dZ) [] .leaf) (.fin none none (some dZ) [] .leaf)))))
theorem TE (s:FState) (cx:Cx β):FX (JQ n) n NM UH s cx=BH n s cx:=by kernel_rfl
theorem TX:Fit Tryd.prog 9 (UT n):=
  dA (Γ:=Γ0) (l:=VO n) (n:=n) (sk:=UH) (ts:=[(2,none)]) (fn:=Tryd.f9) (c:=NM) (by kernel_rfl) (by kernel_rfl) (by unfold bA;kernel_rfl) tab_ok ⟨OT n,trivial⟩ aT (by kernel_rfl) (by kernel_rfl) (Nat.le_of_ble_eq_true (by kernel_rfl)) (Nat.le_of_ble_eq_true (by kernel_rfl)) (by kernel_rfl) (by kernel_rfl)
    (fun d=>(TE n _ _).trans (Eq.trans (b:=BH n (GN d.1) (dP (JQ n) TH [(2,none)])) (by kernel_rfl) ((OC n _ d.1).trans (by kernel_rfl))))
def MY (H:BA):FState:=⟨aQ [(0,.dat .str H)],aF []⟩
def TR (x2:List Int):FState:=⟨aQ [(2,.sl 2 none false)],aF [(2,.row (.int .i32) 21 true x2)]⟩
def nH:List NE:=[.row 2 (.int .i32) 21 true]
def QX (n:Nat):List (Nat×bG):=[]
def GO:Ctx:={Γ0 with calls:=lkS (QX n)}
def LO:Code:=fb Tryd.f32
def IJ (n:Nat) (kr:List Int→Option β) (H:BA):Option β:=xF H<|kr (bK H)
def xL:FS1 β:=FXs (GO n) n LO none (some nH) [] [2,6,7]
theorem JS (H:BA):xL n (MY H) cx=IJ n (fun x2=>cx.ret (TR x2)) H:=by kernel_rfl
def g32 (H:BA):Option (DenR [.rw (.int .i32) 21]):=IJ n (fun x2=>some (x2,())) H
def RS:List AK:=[.dat .str]
def IY:List RK:=[.rw (.int .i32) 21]
def VA (d:DenA RS):Option (DenR IY):=g32 n d.1
def QW:bG:=bU RS IY (VA n)
def SQ:Sk:=(.nd (.fin none none (some nH) [] .leaf) (.nd (.fin none none (some nH) [] .leaf) (.fin none none (some nH) [] .leaf)))
theorem ON (s:FState) (cx:Cx β):FX (GO n) n LO SQ s cx=xL n s cx:=by kernel_rfl
theorem PE:Fit Tryd.prog 32 (QW n):=
  dA (Γ:=Γ0) (l:=QX n) (n:=n) (sk:=SQ) (ts:=[(2,none)]) (fn:=Tryd.f32) (c:=LO) (by kernel_rfl) (by kernel_rfl) (by unfold bA;kernel_rfl) tab_ok trivial aT (by kernel_rfl) (by kernel_rfl) (Nat.le_of_ble_eq_true (by kernel_rfl)) (Nat.le_of_ble_eq_true (by kernel_rfl)) (by kernel_rfl) (by kernel_rfl)
    (fun d=>(ON n _ _).trans (Eq.trans (b:=xL n (MY d.1) (dP (GO n) IY [(2,none)])) (by kernel_rfl) ((JS n _ d.1).trans (by kernel_rfl))))
def HQ (H:BA) (M:Int):FState:=⟨aQ [(0,.dat .str H),(1,.dat (.int .i64) M)],aF []⟩
def TN (z:BA):FState:=⟨aQ [(4,.dat .str z)],aF []⟩
def jU:List NE:=[.keep 4]
def RR:List (Nat×bG):=[(32,QW n)]
def IP:Ctx:={Γ0 with calls:=lkS (RR n)}
def MM:Code:=fb Tryd.f15
def JU (kr:BA→Option β) (H:BA) (M:Int):Option β:=(g32 n H).bind fun Z=>bnd (0:Int) (qL (Z.1.length:Int) M) (Z.1.length:Int)<|kr (runesBytes (cut Z.1 (0:Int) ((0:Int)+((qL (Z.1.length:Int) M) - (0:Int)))))
def zT:FS1 β:=FXs (IP n) n MM none (some jU) [] [2,6,14,15]
theorem HO (H:BA) (M:Int):zT n (HQ H M) cx=JU n (fun z=>cx.ret (TN z)) H M:=by kernel_rfl
def g15 (H:BA) (M:Int):Option (DenR [.dat .str]):=JU n (fun z=>some (z,())) H M
def QA:List AK:=[.dat .str,.dat (.int .i64)]
def NT:List RK:=[.dat .str]
def UZ (d:DenA QA):Option (DenR NT):=g15 n d.1 d.2.1
def SC:bG:=bU QA NT (UZ n)
def SW:Sk:=(.nd (.fin none none (some jU) [] .leaf) (.nd (.fin none none (some jU) [] .leaf) (.nd (.fin none none (some jU) [] .leaf) (.fin none none (some jU) [] .leaf))))
theorem OA (s:FState) (cx:Cx β):FX (IP n) n MM SW s cx=zT n s cx:=by kernel_rfl
theorem PD:Fit Tryd.prog 15 (SC n):=
  dA (Γ:=Γ0) (l:=RR n) (n:=n) (sk:=SW) (ts:=[(4,none)]) (fn:=Tryd.f15) (c:=MM) (by kernel_rfl) (by kernel_rfl) (by unfold bA;kernel_rfl) tab_ok ⟨PE n,trivial⟩ aT (by kernel_rfl) (by kernel_rfl) (Nat.le_of_ble_eq_true (by kernel_rfl)) (Nat.le_of_ble_eq_true (by kernel_rfl)) (by kernel_rfl) (by kernel_rfl)
    (fun d=>(OA n _ _).trans (Eq.trans (b:=zT n (HQ d.1 d.2.1) (dP (IP n) NT [(4,none)])) (by kernel_rfl) ((HO n _ d.1 d.2.1).trans (by kernel_rfl))))
def xE (P:List Z16) (M:Int):FState:=⟨aQ [(0,.sl 0 none false),(1,.dat (.int .i64) M)],aF [(0,.row Z13 45 false P)]⟩
def IX (x4:List Z16):FState:=⟨aQ [(4,.sl 4 none false)],aF [(4,.row Z13 45 true x4)]⟩
def sM:List NE:=[.row 4 Z13 45 true]
def lT (P:List Z16) (M:Int) (N:List Z16) (Q:Int):FState:=⟨aQ [(0,.sl 0 none false),(1,.dat (.int .i64) M),(5,.sl 5 none false),(6,.dat (.int .i64) Q)],aF [(0,.row Z13 45 false P),(5,.row Z13 45 true N)]⟩
def nF:List NE:=[.row 0 Z13 45 false,.keep 1,.row 5 Z13 45 true,.keep 6]
def qA (N:List Z16):FState:=⟨aQ [(5,.sl 5 none false)],aF [(5,.row Z13 45 true N)]⟩
def kX:List NE:=[.row 5 Z13 45 true]
def RE:List (Nat×bG):=[(15,SC n)]
def wB:Ctx:={Γ0 with calls:=lkS (RE n)}
def wJ:Code:=fb Tryd.f24
def KX (n:Nat) (kn:List Z16→Int→List Z16→Int→Option β) (P:List Z16) (M:Int):Option β:=kn P M [] (0:Int)
def KM:FS1 β:=FXs (wB n) n wJ (some nF) none [] [2,6,28]
theorem MT (P:List Z16) (M:Int):KM n (xE P M) cx=KX n (fun P M N Q=>cx.nrm (lT P M N Q)) P M:=by kernel_rfl
def AL (kn:List Z16→Int→List Z16→Int→Option β) (V:List Z16→Option β) (P:List Z16) (M:Int) (N:List Z16) (Q:Int):Option β:=bif (decide (Q < (P.length:Int))) then (bif (decide (Q < M)) then (idx Q (P.length:Int)<|bif ((((rd P Q Z10).1).tmod (3:Int))==(2:Int)) then (idx Q (P.length:Int)<|(g15 n ((rd P Q Z10).2) (30:Int)).bind fun Z=>cM (N.length+[((w64 ((w64 (0 - (((rd P Q Z10).1).tmod (3:Int)))).tdiv (2:Int))),Z.1)].length)<|kn P M (N++[((w64 ((w64 (0 - (((rd P Q Z10).1).tmod (3:Int)))).tdiv (2:Int))),Z.1)]) (w64 (Q+1))) else (bif ((((rd P Q Z10).1).tmod (3:Int))==(-2:Int)) then (idx Q (P.length:Int)<|(g15 n ((rd P Q Z10).2) (30:Int)).bind fun r2=>cM (N.length+[((w64 ((w64 (0 - (((rd P Q Z10).1).tmod (3:Int)))).tdiv (2:Int))),r2.1)].length)<|kn P M (N++[((w64 ((w64 (0 - (((rd P Q Z10).1).tmod (3:Int)))).tdiv (2:Int))),r2.1)]) (w64 (Q+1))) else (idx Q (P.length:Int)<|(g15 n ((rd P Q Z10).2) (30:Int)).bind fun r3=>cM (N.length+[((((rd P Q Z10).1).tmod (3:Int)),r3.1)].length)<|kn P M (N++[((((rd P Q Z10).1).tmod (3:Int)),r3.1)]) (w64 (Q+1))))) else (V N)) else (V N)
def xV:FS1 β:=FXs (wB n) n wJ (some nF) none [(0,kX)] [464,465,466,467]
theorem MW (P:List Z16) (M:Int) (N:List Z16) (Q:Int):xV n (lT P M N Q) cx=AL n (fun P M N Q=>cx.nrm (lT P M N Q)) (fun N=>cx.ex 0 (qA N)) P M N Q:=by kernel_rfl
def g24_3L (n:Nat) (V:List Z16→Option β):Nat→List Z16→Int→List Z16→Int→Option β
  | 0,_,_,_,_=>none
  | m+1,P,M,N,Q=>AL n (g24_3L n V m) V P M N Q
def IN (V:List Z16→Option β) (P:List Z16) (M:Int) (N:List Z16) (Q:Int):Option β:=g24_3L n V n P M N Q
def JL (s:FState) (cx:Cx β):Option β:=bC (fun again s=>xV n s {cx with nrm:=again}) n s
theorem EI (n:Nat) (cx:Cx β):∀(m:Nat) (P:List Z16) (M:Int) (N:List Z16) (Q:Int),bC (fun again s=>xV n s {cx with nrm:=again}) m (lT P M N Q)=g24_3L n (fun N=>cx.ex 0 (qA N)) m P M N Q:=by
  intro m
  induction m with
  | zero=>intros;rfl
  | succ m ih=>intros;simp only [bC,g24_3L,MW,ih]
theorem JK (P:List Z16) (M:Int) (N:List Z16) (Q:Int):JL n (lT P M N Q) cx=IN n (fun N=>cx.ex 0 (qA N)) P M N Q:=EI n cx n P M N Q
def GJ (kn:List Z16→Option β) (P:List Z16) (M:Int) (N:List Z16) (Q:Int):Option β:=IN n kn P M N Q
def NB (s:FState) (cx:Cx β):Option β:=JL n s {cx with ex:=fun j s=>bif Nat.beq j 0 then cx.nrm s else cx.ex j s}
theorem MU (P:List Z16) (M:Int) (N:List Z16) (Q:Int):NB n (lT P M N Q) cx=GJ n (fun N=>cx.nrm (qA N)) P M N Q:=JK n _ P M N Q
def GH (n:Nat) (kr:List Z16→Option β) (N:List Z16):Option β:=kr N
def KH:FS1 β:=FXs (wB n) n wJ none (some sM) [] [30,31]
theorem GA (N:List Z16):KH n (qA N) cx=GH n (fun x4=>cx.ret (IX x4)) N:=by kernel_rfl
def AW (kr:List Z16→Option β) (P:List Z16) (M:Int):Option β:=KX n (fun P M N Q=>GJ n (fun N=>GH n kr N) P M N Q) P M
def sB (s:FState) (cx:Cx β):Option β:=KM n s {cx with nrm:=fun s=>NB n s {cx with nrm:=fun s=>KH n s cx}}
theorem HR (P:List Z16) (M:Int):sB n (xE P M) cx=AW n (fun x4=>cx.ret (IX x4)) P M:=by simp only [sB,AW,MT,MU,GA]
def g24 (P:List Z16) (M:Int):Option (DenR [.rw Z13 45]):=AW n (fun x4=>some (x4,())) P M
def SM:List AK:=[.ro Z13 45,.dat (.int .i64)]
def JT:List RK:=[.rw Z13 45]
def UO (d:DenA SM):Option (DenR JT):=g24 n d.1 d.2.1
def RG:bG:=bU SM JT (UO n)
def RU:Sk:=(.nd (.fin none none none [] .leaf) (.nd (.fin none none none [] .leaf) (.nd (.nd (.fin none (some nF) none [] .leaf) (.nd (.nd (.nd (.nd (.fin none none none [(0,kX)] .leaf) (.fin none none none [(0,kX)] .leaf)) (.nd (.fin none none none [(0,kX)] .leaf) (.fin none (some nF) none [(0,kX)] .leaf))) .leaf) .leaf)) (.nd (.fin none none (some sM) [] .leaf) (.fin none none (some sM) [] .leaf)))))
theorem PI (s:FState) (cx:Cx β):FX (wB n) n wJ RU s cx=sB n s cx:=by kernel_rfl
theorem OW:Fit Tryd.prog 24 (RG n):=
  dA (Γ:=Γ0) (l:=RE n) (n:=n) (sk:=RU) (ts:=[(4,none)]) (fn:=Tryd.f24) (c:=wJ) (by kernel_rfl) (by kernel_rfl) (by unfold bA;kernel_rfl) tab_ok ⟨PD n,trivial⟩ aT (by kernel_rfl) (by kernel_rfl) (Nat.le_of_ble_eq_true (by kernel_rfl)) (Nat.le_of_ble_eq_true (by kernel_rfl)) (by kernel_rfl) (by kernel_rfl)
    (fun d=>(PI n _ _).trans (Eq.trans (b:=sB n (xE d.1 d.2.1) (dP (wB n) JT [(4,none)])) (by kernel_rfl) ((HR n _ d.1 d.2.1).trans (by kernel_rfl))))
def yS (P:List Z16):FState:=⟨aQ [(0,.sl 0 none false)],aF [(0,.row Z13 45 false P)]⟩
def KY (x2:List Z16):FState:=⟨aQ [(2,.sl 2 none false)],aF [(2,.row Z13 45 true x2)]⟩
def sF:List NE:=[.row 2 Z13 45 true]
def lX (R O:List Z16) (A L:Int):FState:=⟨aQ [(3,.sl 3 none false),(7,.sl 7 none false),(8,.dat (.int .i64) A),(9,.dat (.int .i64) L)],aF [(3,.row Z13 45 true R),(7,.row Z13 45 true O)]⟩
def nL:List NE:=[.row 3 Z13 45 true,.row 7 Z13 45 true,.keep 8,.keep 9]
def nY (R:List Z16):FState:=⟨aQ [(3,.sl 3 none false)],aF [(3,.row Z13 45 true R)]⟩
def kP:List NE:=[.row 3 Z13 45 true]
def RB:List (Nat×bG):=[(24,RG n)]
def vW:Ctx:={Γ0 with calls:=lkS (RB n)}
def wO:Code:=fb Tryd.f10
def KO (kn:List Z16→List Z16→Int→Int→Option β) (P:List Z16):Option β:=(g24 n P (40:Int)).bind fun Z=>kn [] Z.1 (Z.1.length:Int) (0:Int)
def JB:FS1 β:=FXs (vW n) n wO (some nL) none [] [2,6,28]
theorem MS (P:List Z16):JB n (yS P) cx=KO n (fun R O A L=>cx.nrm (lX R O A L)) P:=by kernel_rfl
def AY (n:Nat) (kn:List Z16→List Z16→Int→Int→Option β) (V:List Z16→Option β) (R O:List Z16) (A L:Int):Option β:=bif (decide (L < A)) then (idx L (O.length:Int)<|bif (!fA ((rd [(rd O L Z10)] (0:Int) Z10).2) (⟨#[]⟩:BA)) then (cM (R.length+[(rd [(rd O L Z10)] (0:Int) Z10)].length)<|kn (R++[(rd [(rd O L Z10)] (0:Int) Z10)]) O A (w64 (L+1))) else (kn R O A (w64 (L+1)))) else (V R)
def xM:FS1 β:=FXs (vW n) n wO (some nL) none [(0,kP)] [232,466,934,935]
theorem ID (R O:List Z16) (A L:Int):xM n (lX R O A L) cx=AY n (fun R O A L=>cx.nrm (lX R O A L)) (fun R=>cx.ex 0 (nY R)) R O A L:=by kernel_rfl
def g10_3L (n:Nat) (V:List Z16→Option β):Nat→List Z16→List Z16→Int→Int→Option β
  | 0,_,_,_,_=>none
  | m+1,R,O,A,L=>AY n (g10_3L n V m) V R O A L
def IR (V:List Z16→Option β) (R O:List Z16) (A L:Int):Option β:=g10_3L n V n R O A L
def FM (s:FState) (cx:Cx β):Option β:=bC (fun again s=>xM n s {cx with nrm:=again}) n s
theorem EE (n:Nat) (cx:Cx β):∀(m:Nat) (R O:List Z16) (A L:Int),bC (fun again s=>xM n s {cx with nrm:=again}) m (lX R O A L)=g10_3L n (fun R=>cx.ex 0 (nY R)) m R O A L:=by
  intro m
  induction m with
  | zero=>intros;rfl
  | succ m ih=>intros;simp only [bC,g10_3L,ID,ih]
theorem KR (R O:List Z16) (A L:Int):FM n (lX R O A L) cx=IR n (fun R=>cx.ex 0 (nY R)) R O A L:=EE n cx n R O A L
def KU (kn:List Z16→Option β) (R O:List Z16) (A L:Int):Option β:=IR n kn R O A L
def HP (s:FState) (cx:Cx β):Option β:=FM n s {cx with ex:=fun j s=>bif Nat.beq j 0 then cx.nrm s else cx.ex j s}
theorem KZ (R O:List Z16) (A L:Int):HP n (lX R O A L) cx=KU n (fun R=>cx.nrm (nY R)) R O A L:=KR n _ R O A L
def LQ (n:Nat) (kr:List Z16→Option β) (R:List Z16):Option β:=kr R
def HN:FS1 β:=FXs (vW n) n wO none (some sF) [] [30,31]
theorem LP (R:List Z16):HN n (nY R) cx=LQ n (fun x2=>cx.ret (KY x2)) R:=by kernel_rfl
def CK (kr:List Z16→Option β) (P:List Z16):Option β:=KO n (fun R O A L=>KU n (fun R=>LQ n kr R) R O A L) P
def uC (s:FState) (cx:Cx β):Option β:=JB n s {cx with nrm:=fun s=>HP n s {cx with nrm:=fun s=>HN n s cx}}
theorem IQ (P:List Z16):uC n (yS P) cx=CK n (fun x2=>cx.ret (KY x2)) P:=by simp only [uC,CK,MS,KZ,LP]
def g10 (P:List Z16):Option (DenR [.rw Z13 45]):=CK n (fun x2=>some (x2,())) P
def RJ:List AK:=[.ro Z13 45]
def GC:List RK:=[.rw Z13 45]
def UC (d:DenA RJ):Option (DenR GC):=g10 n d.1
def QU:bG:=bU RJ GC (UC n)
def QO:Sk:=(.nd (.fin none none none [] .leaf) (.nd (.fin none none none [] .leaf) (.nd (.nd (.fin none (some nL) none [] .leaf) (.nd (.nd (.nd (.fin none none none [(0,kP)] .leaf) (.nd (.fin none none none [(0,kP)] .leaf) (.nd (.fin none none none [(0,kP)] .leaf) (.fin none (some nL) none [(0,kP)] .leaf)))) .leaf) .leaf)) (.nd (.fin none none (some sF) [] .leaf) (.fin none none (some sF) [] .leaf)))))
theorem OR (s:FState) (cx:Cx β):FX (vW n) n wO QO s cx=uC n s cx:=by kernel_rfl
theorem PC:Fit Tryd.prog 10 (QU n):=
  dA (Γ:=Γ0) (l:=RB n) (n:=n) (sk:=QO) (ts:=[(2,none)]) (fn:=Tryd.f10) (c:=wO) (by kernel_rfl) (by kernel_rfl) (by unfold bA;kernel_rfl) tab_ok ⟨OW n,trivial⟩ aT (by kernel_rfl) (by kernel_rfl) (Nat.le_of_ble_eq_true (by kernel_rfl)) (Nat.le_of_ble_eq_true (by kernel_rfl)) (by kernel_rfl) (by kernel_rfl)
    (fun d=>(OR n _ _).trans (Eq.trans (b:=uC n (yS d.1) (dP (vW n) GC [(2,none)])) (by kernel_rfl) ((IQ n _ d.1).trans (by kernel_rfl))))
def xO (P:List Z16):FState:=⟨aQ [(0,.sl 0 none false)],aF [(0,.row Z13 45 false P)]⟩
def hQ (J I:Bool):FState:=⟨aQ [(2,.dat .bool J),(3,.dat .bool I)],aF []⟩
def iD:List NE:=[.keep 2,.keep 3]
def cF (J I:Bool) (O:List Z16) (A L:Int):FState:=⟨aQ [(2,.dat .bool J),(3,.dat .bool I),(7,.sl 7 none false),(8,.dat (.int .i64) A),(9,.dat (.int .i64) L)],aF [(7,.row Z13 45 false O)]⟩
def eB:List NE:=[.keep 2,.keep 3,.row 7 Z13 45 false,.keep 8,.keep 9]
def fN (J I:Bool) (X:Z16) (O:List Z16) (A L Y B:Int):FState:=⟨aQ [(2,.dat .bool J),(3,.dat .bool I),(5,.ptr 5 0 0),(7,.sl 7 none false),(8,.dat (.int .i64) A),(9,.dat (.int .i64) L),(15,.dat (.int .i64) Y),(16,.dat (.int .i64) B)],aF [(5,.row Z13 45 true [X]),(7,.row Z13 45 false O)]⟩
def iI:List NE:=[.keep 2,.keep 3,.ptr 5 Z13 45 true,.row 7 Z13 45 false,.keep 8,.keep 9,.keep 15,.keep 16]
def QH (n:Nat):List (Nat×bG):=[]
def kZ:Ctx:={Γ0 with calls:=lkS (QH n)}
def kO:Code:=fb Tryd.f11
def JD (n:Nat) (kn:Bool→Bool→List Z16→Int→Int→Option β) (P:List Z16):Option β:=kn false false P (P.length:Int) (0:Int)
def GR:FS1 β:=FXs (kZ n) n kO (some eB) none [] [2,12]
theorem GT (P:List Z16):GR n (xO P) cx=JD n (fun J I O A L=>cx.nrm (cF J I O A L)) P:=by kernel_rfl
def CO (n:Nat) (kn:Bool→Bool→List Z16→Int→Int→Option β) (V:Bool→Bool→Option β) (J I:Bool) (O:List Z16) (A L:Int):Option β:=bif (decide (L < A)) then (kn J I O A L) else (V J I)
def GK:FS1 β:=FXs (kZ n) n kO (some eB) none [(0,iD)] [104,210]
theorem HX (J I:Bool) (O:List Z16) (A L:Int):GK n (cF J I O A L) cx=CO n (fun J I O A L=>cx.nrm (cF J I O A L)) (fun J I=>cx.ex 0 (hQ J I)) J I O A L:=by kernel_rfl
def MZ (n:Nat) (kn:Bool→Bool→Z16→List Z16→Int→Int→Int→Int→Option β) (J I:Bool) (O:List Z16) (A L:Int):Option β:=idx L (O.length:Int)<|kn J I (rd O L Z10) O A L (((rd [(rd O L Z10)] (0:Int) Z10).2).size:Int) (0:Int)
def IB:FS1 β:=FXs (kZ n) n kO (some iI) none [] [1688,3378]
theorem LX (J I:Bool) (O:List Z16) (A L:Int):IB n (cF J I O A L) cx=MZ n (fun J I X O A L Y B=>cx.nrm (fN J I X O A L Y B)) J I O A L:=by kernel_rfl
def BF (n:Nat) (kn:Bool→Bool→Z16→List Z16→Int→Int→Int→Int→Option β) (ac:Bool→Bool→List Z16→Int→Int→Option β) (J I:Bool) (X:Z16) (O:List Z16) (A L Y B:Int):Option β:=bif (decide (B < Y)) then (bif J then (bif I then (kn true true X O A L Y B) else (idx B (X.2.size:Int)<|kn true ((byteAt X.2 B)==(27:Int)) X O A L Y B)) else (idx B (X.2.size:Int)<|bif I then (kn ((byteAt X.2 B)==(10:Int)) true X O A L Y B) else (idx B (X.2.size:Int)<|kn ((byteAt X.2 B)==(10:Int)) ((byteAt X.2 B)==(27:Int)) X O A L Y B))) else (ac J I O A L)
def HH:FS1 β:=FXs (kZ n) n kO (some iI) none [(2,eB)] [27032,54066,108134]
theorem LH (J I:Bool) (X:Z16) (O:List Z16) (A L Y B:Int):HH n (fN J I X O A L Y B) cx=BF n (fun J I X O A L Y B=>cx.nrm (fN J I X O A L Y B)) (fun J I O A L=>cx.ex 2 (cF J I O A L)) J I X O A L Y B:=by kernel_rfl
def HF (n:Nat) (kn:Bool→Bool→Z16→List Z16→Int→Int→Int→Int→Option β) (J I:Bool) (X:Z16) (O:List Z16) (A L Y B:Int):Option β:=kn J I X O A L Y (w64 (B+1))
def LS:FS1 β:=FXs (kZ n) n kO (some iI) none [] [108135]
theorem LI (J I:Bool) (X:Z16) (O:List Z16) (A L Y B:Int):LS n (fN J I X O A L Y B) cx=HF n (fun J I X O A L Y B=>cx.nrm (fN J I X O A L Y B)) J I X O A L Y B:=by kernel_rfl
def vH (kn:Bool→Bool→Z16→List Z16→Int→Int→Int→Int→Option β) (ac:Bool→Bool→List Z16→Int→Int→Option β) (J I:Bool) (X:Z16) (O:List Z16) (A L Y B:Int):Option β:=BF n (fun J I X O A L Y B=>HF n kn J I X O A L Y B) ac J I X O A L Y B
def tM (s:FState) (cx:Cx β):Option β:=HH n s {cx with nrm:=fun s=>LS n s cx}
theorem MI (J I:Bool) (X:Z16) (O:List Z16) (A L Y B:Int):tM n (fN J I X O A L Y B) cx=vH n (fun J I X O A L Y B=>cx.nrm (fN J I X O A L Y B)) (fun J I O A L=>cx.ex 2 (cF J I O A L)) J I X O A L Y B:=by simp only [tM,vH,LH,LI]
def g11_7L (n:Nat) (ac:Bool→Bool→List Z16→Int→Int→Option β):Nat→Bool→Bool→Z16→List Z16→Int→Int→Int→Int→Option β
  | 0,_,_,_,_,_,_,_,_=>none
  | m+1,J,I,X,O,A,L,Y,B=>vH n (g11_7L n ac m) ac J I X O A L Y B
def MD (ac:Bool→Bool→List Z16→Int→Int→Option β) (J I:Bool) (X:Z16) (O:List Z16) (A L Y B:Int):Option β:=g11_7L n ac n J I X O A L Y B
def GF (s:FState) (cx:Cx β):Option β:=bC (fun again s=>tM n s {cx with nrm:=again}) n s
theorem CZ (n:Nat) (cx:Cx β):∀(m:Nat) (J I:Bool) (X:Z16) (O:List Z16) (A L Y B:Int),bC (fun again s=>tM n s {cx with nrm:=again}) m (fN J I X O A L Y B)=g11_7L n (fun J I O A L=>cx.ex 2 (cF J I O A L)) m J I X O A L Y B:=by
  intro m
  induction m with
  | zero=>intros;rfl
  | succ m ih=>intros;simp only [bC,g11_7L,MI,ih]
theorem GP (J I:Bool) (X:Z16) (O:List Z16) (A L Y B:Int):GF n (fN J I X O A L Y B) cx=MD n (fun J I O A L=>cx.ex 2 (cF J I O A L)) J I X O A L Y B:=CZ n cx n J I X O A L Y B
def HW (kn:Bool→Bool→List Z16→Int→Int→Option β) (J I:Bool) (X:Z16) (O:List Z16) (A L Y B:Int):Option β:=MD n kn J I X O A L Y B
def KN (s:FState) (cx:Cx β):Option β:=GF n s {cx with ex:=fun j s=>bif Nat.beq j 2 then cx.nrm s else cx.ex j s}
theorem KF (J I:Bool) (X:Z16) (O:List Z16) (A L Y B:Int):KN n (fN J I X O A L Y B) cx=HW n (fun J I O A L=>cx.nrm (cF J I O A L)) J I X O A L Y B:=GP n _ J I X O A L Y B
def BK (kn:Bool→Bool→List Z16→Int→Int→Option β) (J I:Bool) (O:List Z16) (A L:Int):Option β:=MZ n (fun J I X O A L Y B=>HW n kn J I X O A L Y B) J I O A L
def yN (s:FState) (cx:Cx β):Option β:=IB n s {cx with nrm:=fun s=>KN n s cx}
theorem LG (J I:Bool) (O:List Z16) (A L:Int):yN n (cF J I O A L) cx=BK n (fun J I O A L=>cx.nrm (cF J I O A L)) J I O A L:=by simp only [yN,BK,LX,KF]
def zR (kn:Bool→Bool→List Z16→Int→Int→Option β) (J I:Bool) (O:List Z16) (A L:Int):Option β:=BK n kn J I O A L
def AR (s:FState) (cx:Cx β):Option β:=yN n s {cx with ex:=fun j s=>bif Nat.beq j 1 then cx.nrm s else cx.ex j s}
theorem ER (J I:Bool) (O:List Z16) (A L:Int):AR n (cF J I O A L) cx=zR n (fun J I O A L=>cx.nrm (cF J I O A L)) J I O A L:=LG n _ J I O A L
def zH (n:Nat) (kn:Bool→Bool→List Z16→Int→Int→Option β) (J I:Bool) (O:List Z16) (A L:Int):Option β:=kn J I O A (w64 (L+1))
def CH:FS1 β:=FXs (kZ n) n kO (some eB) none [] [423]
theorem DV (J I:Bool) (O:List Z16) (A L:Int):CH n (cF J I O A L) cx=zH n (fun J I O A L=>cx.nrm (cF J I O A L)) J I O A L:=by kernel_rfl
def pF (kn:Bool→Bool→List Z16→Int→Int→Option β) (V:Bool→Bool→Option β) (J I:Bool) (O:List Z16) (A L:Int):Option β:=CO n (fun J I O A L=>zR n (fun J I O A L=>zH n kn J I O A L) J I O A L) V J I O A L
def nS (s:FState) (cx:Cx β):Option β:=GK n s {cx with nrm:=fun s=>AR n s {cx with nrm:=fun s=>CH n s cx}}
theorem DK (J I:Bool) (O:List Z16) (A L:Int):nS n (cF J I O A L) cx=pF n (fun J I O A L=>cx.nrm (cF J I O A L)) (fun J I=>cx.ex 0 (hQ J I)) J I O A L:=by simp only [nS,pF,HX,ER,DV]
def g11_13L (n:Nat) (V:Bool→Bool→Option β):Nat→Bool→Bool→List Z16→Int→Int→Option β
  | 0,_,_,_,_,_=>none
  | m+1,J,I,O,A,L=>pF n (g11_13L n V m) V J I O A L
def AE (V:Bool→Bool→Option β) (J I:Bool) (O:List Z16) (A L:Int):Option β:=g11_13L n V n J I O A L
def CC (s:FState) (cx:Cx β):Option β:=bC (fun again s=>nS n s {cx with nrm:=again}) n s
theorem xU (n:Nat) (cx:Cx β):∀(m:Nat) (J I:Bool) (O:List Z16) (A L:Int),bC (fun again s=>nS n s {cx with nrm:=again}) m (cF J I O A L)=g11_13L n (fun J I=>cx.ex 0 (hQ J I)) m J I O A L:=by
  intro m
  induction m with
  | zero=>intros;rfl
  | succ m ih=>intros;simp only [bC,g11_13L,DK,ih]
theorem DI (J I:Bool) (O:List Z16) (A L:Int):CC n (cF J I O A L) cx=AE n (fun J I=>cx.ex 0 (hQ J I)) J I O A L:=xU n cx n J I O A L
def xK (kn:Bool→Bool→Option β) (J I:Bool) (O:List Z16) (A L:Int):Option β:=AE n kn J I O A L
def CF (s:FState) (cx:Cx β):Option β:=CC n s {cx with ex:=fun j s=>bif Nat.beq j 0 then cx.nrm s else cx.ex j s}
theorem DF (J I:Bool) (O:List Z16) (A L:Int):CF n (cF J I O A L) cx=xK n (fun J I=>cx.nrm (hQ J I)) J I O A L:=DI n _ J I O A L
def AC (n:Nat) (kr:Bool→Bool→Option β) (J I:Bool):Option β:=kr J I
def BI:FS1 β:=FXs (kZ n) n kO none (some iD) [] [14,15]
theorem DO (J I:Bool):BI n (hQ J I) cx=AC n (fun J I=>cx.ret (hQ J I)) J I:=by kernel_rfl
def sJ (kr:Bool→Bool→Option β) (P:List Z16):Option β:=JD n (fun J I O A L=>xK n (fun J I=>AC n kr J I) J I O A L) P
def nA (s:FState) (cx:Cx β):Option β:=GR n s {cx with nrm:=fun s=>CF n s {cx with nrm:=fun s=>BI n s cx}}
theorem FH (P:List Z16):nA n (xO P) cx=sJ n (fun J I=>cx.ret (hQ J I)) P:=by simp only [nA,sJ,GT,DF,DO]
def g11 (P:List Z16):Option (DenR [.dat .bool,.dat .bool]):=sJ n (fun J I=>some (J,(I,()))) P
def QF:List AK:=[.ro Z13 45]
def MH:List RK:=[.dat .bool,.dat .bool]
def US (d:DenA QF):Option (DenR MH):=g11 n d.1
def ST:bG:=bU QF MH (US n)
def SK:Sk:=(.nd (.fin none none none [] .leaf) (.nd (.nd (.fin none (some eB) none [] .leaf) (.nd (.nd (.nd (.fin none none none [(0,iD)] .leaf) (.nd (.fin none (some eB) none [(0,iD)] .leaf) (.nd (.nd (.nd (.fin none none none [] .leaf) (.nd (.fin none (some iI) none [] .leaf) (.nd (.nd (.nd (.fin none none none [(2,eB)] .leaf) (.nd (.fin none none none [(2,eB)] .leaf) (.nd (.fin none (some iI) none [(2,eB)] .leaf) (.fin none (some iI) none [] .leaf)))) .leaf) .leaf))) .leaf) (.fin none (some eB) none [] .leaf)))) .leaf) .leaf)) (.nd (.fin none none (some iD) [] .leaf) (.fin none none (some iD) [] .leaf))))
theorem OV (s:FState) (cx:Cx β):FX (kZ n) n kO SK s cx=nA n s cx:=by kernel_rfl
theorem PT:Fit Tryd.prog 11 (ST n):=
  dA (Γ:=Γ0) (l:=QH n) (n:=n) (sk:=SK) (ts:=[(2,none),(3,none)]) (fn:=Tryd.f11) (c:=kO) (by kernel_rfl) (by kernel_rfl) (by unfold bA;kernel_rfl) tab_ok trivial aT (by kernel_rfl) (by kernel_rfl) (Nat.le_of_ble_eq_true (by kernel_rfl)) (Nat.le_of_ble_eq_true (by kernel_rfl)) (by kernel_rfl) (by kernel_rfl)
    (fun d=>(OV n _ _).trans (Eq.trans (b:=nA n (xO d.1) (dP (kZ n) MH [(2,none),(3,none)])) (by kernel_rfl) ((FH n _ d.1).trans (by kernel_rfl))))
def FY:FState:=⟨aQ [],aF []⟩
def TV (p0:Z6):FState:=⟨aQ [(0,.ptr 0 0 0)],aF [(0,.row Z1 70 true [p0])]⟩
def nB:List NE:=[.ptr 0 Z1 70 true]
def RL (n:Nat):List (Nat×bG):=[]
def GE:Ctx:={Γ0 with calls:=lkS (RL n)}
def NI:Code:=fb Tryd.f27
def RZ (n:Nat) (kr:Z6→Option β):Option β:=kr ((1000000000:Int),((4:Int),((1000:Int),((4602678819172646912:Nat),((4:Int),((32:Int),(4602678819172646912:Nat)))))))
def yG:FS1 β:=FXs (GE n) n NI none (some nB) [] [2,6,7]
theorem NQ:yG n FY cx=RZ n (fun p0=>cx.ret (TV p0)):=by kernel_rfl
def g27:Option (DenR [.ptr Z1 70]):=RZ n (fun p0=>some (p0,()))
def SN:List AK:=[]
def MR:List RK:=[.ptr Z1 70]
def UL (d:DenA SN):Option (DenR MR):=g27 n
def QR:bG:=bU SN MR (UL n)
def RI:Sk:=(.nd (.fin none none (some nB) [] .leaf) (.nd (.fin none none (some nB) [] .leaf) (.fin none none (some nB) [] .leaf)))
theorem NX (s:FState) (cx:Cx β):FX (GE n) n NI RI s cx=yG n s cx:=by kernel_rfl
theorem PA:Fit Tryd.prog 27 (QR n):=
  dA (Γ:=Γ0) (l:=RL n) (n:=n) (sk:=RI) (ts:=[(0,none)]) (fn:=Tryd.f27) (c:=NI) (by kernel_rfl) (by kernel_rfl) (by unfold bA;kernel_rfl) tab_ok trivial aT (by kernel_rfl) (by kernel_rfl) (Nat.le_of_ble_eq_true (by kernel_rfl)) (Nat.le_of_ble_eq_true (by kernel_rfl)) (by kernel_rfl) (by kernel_rfl)
    (fun d=>(NX n _ _).trans (Eq.trans (b:=yG n (FY) (dP (GE n) MR [(0,none)])) (by kernel_rfl) ((NQ n _).trans (by kernel_rfl))))
def JJ (H:Int):FState:=⟨aQ [(0,.dat (.int .i64) H)],aF []⟩
def TF (J:Int):FState:=⟨aQ [(2,.dat (.int .i8) J)],aF []⟩
def iH:List NE:=[.keep 2]
def RD (n:Nat):List (Nat×bG):=[]
def FU:Ctx:={Γ0 with calls:=lkS (RD n)}
def HS:Code:=fb Tryd.f30
def RP (n:Nat) (kr:Int→Option β) (H:Int):Option β:=bif (H==(-1:Int)) then (kr (-1:Int)) else (bif (H==(1:Int)) then (kr (1:Int)) else (kr (0:Int)))
def yT:FS1 β:=FXs (FU n) n HS none (some iH) [] [2,12,13,14,15]
theorem LM (H:Int):yT n (JJ H) cx=RP n (fun J=>cx.ret (TF J)) H:=by kernel_rfl
def g30 (H:Int):Option (DenR [.dat (.int .i8)]):=RP n (fun J=>some (J,())) H
def PZ:List AK:=[.dat (.int .i64)]
def NA:List RK:=[.dat (.int .i8)]
def UX (d:DenA PZ):Option (DenR NA):=g30 n d.1
def SJ:bG:=bU PZ NA (UX n)
def QJ:Sk:=(.nd (.fin none none (some iH) [] .leaf) (.nd (.nd (.fin none none (some iH) [] .leaf) (.fin none none (some iH) [] .leaf)) (.nd (.fin none none (some iH) [] .leaf) (.fin none none (some iH) [] .leaf))))
theorem OZ (s:FState) (cx:Cx β):FX (FU n) n HS QJ s cx=yT n s cx:=by kernel_rfl
theorem PS:Fit Tryd.prog 30 (SJ n):=
  dA (Γ:=Γ0) (l:=RD n) (n:=n) (sk:=QJ) (ts:=[(2,none)]) (fn:=Tryd.f30) (c:=HS) (by kernel_rfl) (by kernel_rfl) (by unfold bA;kernel_rfl) tab_ok trivial aT (by kernel_rfl) (by kernel_rfl) (Nat.le_of_ble_eq_true (by kernel_rfl)) (Nat.le_of_ble_eq_true (by kernel_rfl)) (by kernel_rfl) (by kernel_rfl)
    (fun d=>(OZ n _ _).trans (Eq.trans (b:=yT n (JJ d.1) (dP (FU n) NA [(2,none)])) (by kernel_rfl) ((LM n _ d.1).trans (by kernel_rfl))))
def xP (P:List Z16):FState:=⟨aQ [(0,.sl 0 none false)],aF [(0,.row Z13 45 false P)]⟩
def HK (x2:List Z16):FState:=⟨aQ [(2,.sl 2 none false)],aF [(2,.row Z14 75 true x2)]⟩
def sN:List NE:=[.row 2 Z14 75 true]
def lU (R U:List Z16) (W A:Int):FState:=⟨aQ [(3,.sl 3 none false),(6,.sl 6 none false),(7,.dat (.int .i64) W),(8,.dat (.int .i64) A)],aF [(3,.row Z14 75 true R),(6,.row Z13 45 false U)]⟩
def nI:List NE:=[.row 3 Z14 75 true,.row 6 Z13 45 false,.keep 7,.keep 8]
def nV (R:List Z16):FState:=⟨aQ [(3,.sl 3 none false)],aF [(3,.row Z14 75 true R)]⟩
def kG:List NE:=[.row 3 Z14 75 true]
def QS:List (Nat×bG):=[(30,SJ n)]
def wV:Ctx:={Γ0 with calls:=lkS (QS n)}
def vM:Code:=fb Tryd.f29
def NO (n:Nat) (kn:List Z16→List Z16→Int→Int→Option β) (P:List Z16):Option β:=kn [] P (P.length:Int) (0:Int)
def JR:FS1 β:=FXs (wV n) n vM (some nI) none [] [2,6,28]
theorem KC (P:List Z16):JR n (xP P) cx=NO n (fun R U W A=>cx.nrm (lU R U W A)) P:=by kernel_rfl
def CE (kn:List Z16→List Z16→Int→Int→Option β) (V:List Z16→Option β) (R U:List Z16) (W A:Int):Option β:=bif (decide (A < W)) then (idx A (U.length:Int)<|(g30 n ((rd [(rd U A Z10)] (0:Int) Z10).1)).bind fun Z=>cM (R.length+[(Z.1,(rd [(rd U A Z10)] (0:Int) Z10).2)].length)<|kn (R++[(Z.1,(rd [(rd U A Z10)] (0:Int) Z10).2)]) U W (w64 (A+1))) else (V R)
def zQ:FS1 β:=FXs (wV n) n vM (some nI) none [(0,kG)] [232,466,934,935]
theorem FT (R U:List Z16) (W A:Int):zQ n (lU R U W A) cx=CE n (fun R U W A=>cx.nrm (lU R U W A)) (fun R=>cx.ex 0 (nV R)) R U W A:=by kernel_rfl
def g29_3L (n:Nat) (V:List Z16→Option β):Nat→List Z16→List Z16→Int→Int→Option β
  | 0,_,_,_,_=>none
  | m+1,R,U,W,A=>CE n (g29_3L n V m) V R U W A
def KD (V:List Z16→Option β) (R U:List Z16) (W A:Int):Option β:=g29_3L n V n R U W A
def HZ (s:FState) (cx:Cx β):Option β:=bC (fun again s=>zQ n s {cx with nrm:=again}) n s
theorem DB (n:Nat) (cx:Cx β):∀(m:Nat) (R U:List Z16) (W A:Int),bC (fun again s=>zQ n s {cx with nrm:=again}) m (lU R U W A)=g29_3L n (fun R=>cx.ex 0 (nV R)) m R U W A:=by
  intro m
  induction m with
  | zero=>intros;rfl
  | succ m ih=>intros;simp only [bC,g29_3L,FT,ih]
theorem FP (R U:List Z16) (W A:Int):HZ n (lU R U W A) cx=KD n (fun R=>cx.ex 0 (nV R)) R U W A:=DB n cx n R U W A
def FR (kn:List Z16→Option β) (R U:List Z16) (W A:Int):Option β:=KD n kn R U W A
def IS (s:FState) (cx:Cx β):Option β:=HZ n s {cx with ex:=fun j s=>bif Nat.beq j 0 then cx.nrm s else cx.ex j s}
theorem KE (R U:List Z16) (W A:Int):IS n (lU R U W A) cx=FR n (fun R=>cx.nrm (nV R)) R U W A:=FP n _ R U W A
def LN (n:Nat) (kr:List Z16→Option β) (R:List Z16):Option β:=kr R
def LZ:FS1 β:=FXs (wV n) n vM none (some sN) [] [30,31]
theorem NC (R:List Z16):LZ n (nV R) cx=LN n (fun x2=>cx.ret (HK x2)) R:=by kernel_rfl
def AN (kr:List Z16→Option β) (P:List Z16):Option β:=NO n (fun R U W A=>FR n (fun R=>LN n kr R) R U W A) P
def tV (s:FState) (cx:Cx β):Option β:=JR n s {cx with nrm:=fun s=>IS n s {cx with nrm:=fun s=>LZ n s cx}}
theorem FL (P:List Z16):tV n (xP P) cx=AN n (fun x2=>cx.ret (HK x2)) P:=by simp only [tV,AN,KC,KE,NC]
def g29 (P:List Z16):Option (DenR [.rw Z14 75]):=AN n (fun x2=>some (x2,())) P
def RA:List AK:=[.ro Z13 45]
def LA:List RK:=[.rw Z14 75]
def VG (d:DenA RA):Option (DenR LA):=g29 n d.1
def SH:bG:=bU RA LA (VG n)
def RX:Sk:=(.nd (.fin none none none [] .leaf) (.nd (.fin none none none [] .leaf) (.nd (.nd (.fin none (some nI) none [] .leaf) (.nd (.nd (.nd (.fin none none none [(0,kG)] .leaf) (.nd (.fin none none none [(0,kG)] .leaf) (.nd (.fin none none none [(0,kG)] .leaf) (.fin none (some nI) none [(0,kG)] .leaf)))) .leaf) .leaf)) (.nd (.fin none none (some sN) [] .leaf) (.fin none none (some sN) [] .leaf)))))
theorem PF (s:FState) (cx:Cx β):FX (wV n) n vM RX s cx=tV n s cx:=by kernel_rfl
theorem OP:Fit Tryd.prog 29 (SH n):=
  dA (Γ:=Γ0) (l:=QS n) (n:=n) (sk:=RX) (ts:=[(2,none)]) (fn:=Tryd.f29) (c:=vM) (by kernel_rfl) (by kernel_rfl) (by unfold bA;kernel_rfl) tab_ok ⟨PS n,trivial⟩ aT (by kernel_rfl) (by kernel_rfl) (Nat.le_of_ble_eq_true (by kernel_rfl)) (Nat.le_of_ble_eq_true (by kernel_rfl)) (by kernel_rfl) (by kernel_rfl)
    (fun d=>(PF n _ _).trans (Eq.trans (b:=tV n (xP d.1) (dP (wV n) LA [(2,none)])) (by kernel_rfl) ((FL n _ d.1).trans (by kernel_rfl))))
def yF (H M:BA):FState:=⟨aQ [(0,.dat .str H),(1,.dat .str M)],aF []⟩
def lM (z:Int):FState:=⟨aQ [(4,.dat (.int .i64) z)],aF []⟩
def fE:List NE:=[.keep 4]
def lV (H M:BA) (g:Int):FState:=⟨aQ [(0,.dat .str H),(1,.dat .str M),(5,.dat (.int .i64) g)],aF []⟩
def nE:List NE:=[.keep 0,.keep 1,.keep 5]
def nW:FState:=⟨aQ [],aF []⟩
def kM:List NE:=[]
def RN (n:Nat):List (Nat×bG):=[]
def wE:Ctx:={Γ0 with calls:=lkS (RN n)}
def uV:Code:=fb Tryd.f56
def FJ (n:Nat) (kn:BA→BA→Int→Option β) (H M:BA):Option β:=kn H M (0:Int)
def IZ:FS1 β:=FXs (wE n) n uV (some nE) none [] [2,12]
theorem JV (H M:BA):IZ n (yF H M) cx=FJ n (fun H M g=>cx.nrm (lV H M g)) H M:=by kernel_rfl
def CR (n:Nat) (kn:BA→BA→Int→Option β) (kr:Int→Option β) (V:Option β) (H M:BA) (g:Int):Option β:=bif (decide ((w64 (g+(M.size:Int)))≤(H.size:Int))) then (bnd g (w64 (g+(M.size:Int))) (H.size:Int)<|bif (fA (jE H g (w64 (g+(M.size:Int)))) M) then (kr g) else (kn H M (w64 (g+1)))) else V
def yQ:FS1 β:=FXs (wE n) n uV (some nE) (some fE) [(0,kM)] [208,209,210,211]
theorem IF (H M:BA) (g:Int):yQ n (lV H M g) cx=CR n (fun H M g=>cx.nrm (lV H M g)) (fun z=>cx.ret (lM z)) (cx.ex 0 nW) H M g:=by kernel_rfl
def g56_3L (n:Nat) (kr:Int→Option β) (V:Option β):Nat→BA→BA→Int→Option β
  | 0,_,_,_=>none
  | m+1,H,M,g=>CR n (g56_3L n kr V m) kr V H M g
def HL (kr:Int→Option β) (V:Option β) (H M:BA) (g:Int):Option β:=g56_3L n kr V n H M g
def ML (s:FState) (cx:Cx β):Option β:=bC (fun again s=>yQ n s {cx with nrm:=again}) n s
theorem DY (n:Nat) (cx:Cx β):∀(m:Nat) (H M:BA) (g:Int),bC (fun again s=>yQ n s {cx with nrm:=again}) m (lV H M g)=g56_3L n (fun z=>cx.ret (lM z)) (cx.ex 0 nW) m H M g:=by
  intro m
  induction m with
  | zero=>intros;rfl
  | succ m ih=>intros;simp only [bC,g56_3L,IF,ih]
theorem KS (H M:BA) (g:Int):ML n (lV H M g) cx=HL n (fun z=>cx.ret (lM z)) (cx.ex 0 nW) H M g:=DY n cx n H M g
def KW (kn:Option β) (kr:Int→Option β) (H M:BA) (g:Int):Option β:=HL n kr kn H M g
def NF (s:FState) (cx:Cx β):Option β:=ML n s {cx with ex:=fun j s=>bif Nat.beq j 0 then cx.nrm s else cx.ex j s}
theorem GS (H M:BA) (g:Int):NF n (lV H M g) cx=KW n (cx.nrm nW) (fun z=>cx.ret (lM z)) H M g:=KS n _ H M g
def IT (n:Nat) (kr:Int→Option β):Option β:=kr (-1:Int)
def JZ:FS1 β:=FXs (wE n) n uV none (some fE) [] [14,15]
theorem IU:JZ n nW cx=IT n (fun z=>cx.ret (lM z)):=by kernel_rfl
def CD (kr:Int→Option β) (H M:BA):Option β:=FJ n (fun H M g=>KW n (IT n kr) kr H M g) H M
def uK (s:FState) (cx:Cx β):Option β:=IZ n s {cx with nrm:=fun s=>NF n s {cx with nrm:=fun s=>JZ n s cx}}
theorem FK (H M:BA):uK n (yF H M) cx=CD n (fun z=>cx.ret (lM z)) H M:=by simp only [uK,CD,JV,GS,IU]
def g56 (H M:BA):Option (DenR [.dat (.int .i64)]):=CD n (fun z=>some (z,())) H M
def SV:List AK:=[.dat .str,.dat .str]
def GG:List RK:=[.dat (.int .i64)]
def UY (d:DenA SV):Option (DenR GG):=g56 n d.1 d.2.1
def QG:bG:=bU SV GG (UY n)
def QI:Sk:=(.nd (.fin none none none [] .leaf) (.nd (.nd (.fin none (some nE) none [] .leaf) (.nd (.nd (.nd (.nd (.fin none none (some fE) [(0,kM)] .leaf) (.fin none none (some fE) [(0,kM)] .leaf)) (.nd (.fin none none (some fE) [(0,kM)] .leaf) (.fin none (some nE) (some fE) [(0,kM)] .leaf))) .leaf) .leaf)) (.nd (.fin none none (some fE) [] .leaf) (.fin none none (some fE) [] .leaf))))
theorem OJ (s:FState) (cx:Cx β):FX (wE n) n uV QI s cx=uK n s cx:=by kernel_rfl
theorem PR:Fit Tryd.prog 56 (QG n):=
  dA (Γ:=Γ0) (l:=RN n) (n:=n) (sk:=QI) (ts:=[(4,none)]) (fn:=Tryd.f56) (c:=uV) (by kernel_rfl) (by kernel_rfl) (by unfold bA;kernel_rfl) tab_ok trivial aT (by kernel_rfl) (by kernel_rfl) (Nat.le_of_ble_eq_true (by kernel_rfl)) (Nat.le_of_ble_eq_true (by kernel_rfl)) (by kernel_rfl) (by kernel_rfl)
    (fun d=>(OJ n _ _).trans (Eq.trans (b:=uK n (yF d.1 d.2.1) (dP (wE n) GG [(4,none)])) (by kernel_rfl) ((FK n _ d.1 d.2.1).trans (by kernel_rfl))))
def yM (H M:BA):FState:=⟨aQ [(0,.dat .str H),(1,.dat .str M)],aF []⟩
def gQ (x4:List BA):FState:=⟨aQ [(4,.sl 4 none false)],aF [(4,.row .str 9 true x4)]⟩
def fY:List NE:=[.row 4 .str 9 true]
def oH (H M:BA) (N:List BA) (aa:Bool):FState:=⟨aQ [(0,.dat .str H),(1,.dat .str M),(5,.sl 5 none false),(11,.dat .bool aa)],aF [(5,.row .str 9 true N)]⟩
def BC:List NE:=[.keep 0,.keep 1,.row 5 .str 9 true,.keep 11]
def jK (H M:BA) (N:List BA):FState:=⟨aQ [(0,.dat .str H),(1,.dat .str M),(5,.sl 5 none false)],aF [(5,.row .str 9 true N)]⟩
def nK:List NE:=[.keep 0,.keep 1,.row 5 .str 9 true]
def lG (H:BA) (N:List BA) (Q:Int) (o:BA) (a:Nat):FState:=⟨aQ [(0,.dat .str H),(5,.sl 5 none false),(6,.dat (.int .i64) Q),(13,.it 13)],aF [(5,.row .str 9 true N),(13,.siter o a)]⟩
def nC:List NE:=[.keep 0,.row 5 .str 9 true,.keep 6,.it 13]
def pK (H:BA) (N:List BA) (Q:Int):FState:=⟨aQ [(0,.dat .str H),(5,.sl 5 none false),(6,.dat (.int .i64) Q)],aF [(5,.row .str 9 true N)]⟩
def nO:List NE:=[.keep 0,.row 5 .str 9 true,.keep 6]
def RT:List (Nat×bG):=[(56,QG n)]
def mG:Ctx:={Γ0 with calls:=lkS (RT n)}
def kN:Code:=fb Tryd.f42
def MG (n:Nat) (kn:BA→BA→List BA→Bool→Option β) (H M:BA):Option β:=kn H M [] ((M.size:Int)==(0:Int))
def JM:FS1 β:=FXs (mG n) n kN (some BC) none [] [2,6,28]
theorem MC (H M:BA):JM n (yM H M) cx=MG n (fun H M N aa=>cx.nrm (oH H M N aa)) H M:=by kernel_rfl
def SX (n:Nat) (kn:BA→List BA→Int→BA→Nat→Option β) (H M:BA) (N:List BA) (aa:Bool):Option β:=kn H N (0:Int) H 0
def KV:FS1 β:=FXs (mG n) n kN (some nC) none [] [116,468]
theorem KI (H M:BA) (N:List BA) (aa:Bool):KV n (oH H M N aa) cx=SX n (fun H N Q o a=>cx.nrm (lG H N Q o a)) H M N aa:=by kernel_rfl
def SS (n:Nat) (kn:BA→List BA→Int→BA→Nat→Option β) (V:BA→List BA→Int→Option β) (H:BA) (N:List BA) (Q:Int) (o:BA) (a:Nat):Option β:=bif Nat.blt a o.size then (bif (decide ((a:Int)>(0:Int))) then (bnd Q (a:Int) (H.size:Int)<|cM (N.length+[(jE H Q (a:Int))].length)<|kn H (N++[(jE H Q (a:Int))]) (a:Int) o (a+(Utf8.decode o a).2)) else (kn H N Q o (a+(Utf8.decode o a).2))) else (V H N Q)
def zV:FS1 β:=FXs (mG n) n kN (some nC) none [(0,nO)] [3752,7506,7507]
theorem JO (H:BA) (N:List BA) (Q:Int) (o:BA) (a:Nat):zV n (lG H N Q o a) cx=SS n (fun H N Q o a=>cx.nrm (lG H N Q o a)) (fun H N Q=>cx.ex 0 (pK H N Q)) H N Q o a:=by kernel_rfl
def uF (n:Nat) (V:BA→List BA→Int→Option β):Nat→BA→List BA→Int→BA→Nat→Option β
  | 0,_,_,_,_,_=>none
  | m+1,H,N,Q,o,a=>SS n (uF n V m) V H N Q o a
def RQ (V:BA→List BA→Int→Option β) (H:BA) (N:List BA) (Q:Int) (o:BA) (a:Nat):Option β:=uF n V n H N Q o a
def JN (s:FState) (cx:Cx β):Option β:=bC (fun again s=>zV n s {cx with nrm:=again}) n s
theorem DA (n:Nat) (cx:Cx β):∀(m:Nat) (H:BA) (N:List BA) (Q:Int) (o:BA) (a:Nat),bC (fun again s=>zV n s {cx with nrm:=again}) m (lG H N Q o a)=uF n (fun H N Q=>cx.ex 0 (pK H N Q)) m H N Q o a:=by
  intro m
  induction m with
  | zero=>intros;rfl
  | succ m ih=>intros;simp only [bC,uF,JO,ih]
theorem IM (H:BA) (N:List BA) (Q:Int) (o:BA) (a:Nat):JN n (lG H N Q o a) cx=RQ n (fun H N Q=>cx.ex 0 (pK H N Q)) H N Q o a:=DA n cx n H N Q o a
def QQ (kn:BA→List BA→Int→Option β) (H:BA) (N:List BA) (Q:Int) (o:BA) (a:Nat):Option β:=RQ n kn H N Q o a
def NP (s:FState) (cx:Cx β):Option β:=JN n s {cx with ex:=fun j s=>bif Nat.beq j 0 then cx.nrm s else cx.ex j s}
theorem LV (H:BA) (N:List BA) (Q:Int) (o:BA) (a:Nat):NP n (lG H N Q o a) cx=QQ n (fun H N Q=>cx.nrm (pK H N Q)) H N Q o a:=IM n _ H N Q o a
def RM (n:Nat) (kr:List BA→Option β) (H:BA) (N:List BA) (Q:Int):Option β:=bif (decide ((H.size:Int)>(0:Int))) then (bnd Q (H.size:Int) (H.size:Int)<|cM (N.length+[(jE H Q (H.size:Int))].length)<|kr (N++[(jE H Q (H.size:Int))])) else (kr N)
def NK:FS1 β:=FXs (mG n) n kN none (some fY) [] [940,941,942,943]
theorem KJ (H:BA) (N:List BA) (Q:Int):NK n (pK H N Q) cx=RM n (fun x4=>cx.ret (gQ x4)) H N Q:=by kernel_rfl
def JW (kr:List BA→Option β) (H M:BA) (N:List BA) (aa:Bool):Option β:=SX n (fun H N Q o a=>QQ n (fun H N Q=>RM n kr H N Q) H N Q o a) H M N aa
def yY (s:FState) (cx:Cx β):Option β:=KV n s {cx with nrm:=fun s=>NP n s {cx with nrm:=fun s=>NK n s cx}}
theorem HV (H M:BA) (N:List BA) (aa:Bool):yY n (oH H M N aa) cx=JW n (fun x4=>cx.ret (gQ x4)) H M N aa:=by simp only [yY,JW,KI,LV,KJ]
def HT (n:Nat) (kn:BA→BA→List BA→Option β) (H M:BA) (N:List BA) (aa:Bool):Option β:=kn H M N
def IA:FS1 β:=FXs (mG n) n kN (some nK) none [] [59]
theorem HC (H M:BA) (N:List BA) (aa:Bool):IA n (oH H M N aa) cx=HT n (fun H M N=>cx.nrm (jK H M N)) H M N aa:=by kernel_rfl
def BU (kn:BA→BA→List BA→Option β) (kr:List BA→Option β) (H M:BA) (N:List BA) (aa:Bool):Option β:=bif aa then JW n kr H M N aa else HT n kn H M N aa
def yO (s:FState) (cx:Cx β):Option β:=asBool (ev s (sQ (nav kN [1,1,0,1]))) fun t=>cond t (yY n s cx) (IA n s cx)
theorem LK (H M:BA) (N:List BA) (aa:Bool):yO n (oH H M N aa) cx=BU n (fun H M N=>cx.nrm (jK H M N)) (fun x4=>cx.ret (gQ x4)) H M N aa:=by
  simp only [yO,BU,HV,HC]
  kernel_rfl
def yW (kn:BA→BA→List BA→Option β) (kr:List BA→Option β) (H M:BA) (N:List BA):Option β:=(g56 n H M).bind fun Z=>bif (decide (Z.1 < (0:Int))) then (cM (N.length+[H].length)<|kr (N++[H])) else (bnd (0:Int) Z.1 (H.size:Int)<|cM (N.length+[(jE H (0:Int) Z.1)].length)<|bnd (w64 (Z.1+(M.size:Int))) (H.size:Int) (H.size:Int)<|kn (jE H (w64 (Z.1+(M.size:Int))) (H.size:Int)) M (N++[(jE H (0:Int) Z.1)]))
def uP:FS1 β:=FXs (mG n) n kN (some nK) (some fY) [] [60]
theorem FA (H M:BA) (N:List BA):uP n (jK H M N) cx=yW n (fun H M N=>cx.nrm (jK H M N)) (fun x4=>cx.ret (gQ x4)) H M N:=by kernel_rfl
def g42_11L (n:Nat) (kr:List BA→Option β):Nat→BA→BA→List BA→Option β
  | 0,_,_,_=>none
  | m+1,H,M,N=>yW n (g42_11L n kr m) kr H M N
def yK (kr:List BA→Option β) (H M:BA) (N:List BA):Option β:=g42_11L n kr n H M N
def BV (s:FState) (cx:Cx β):Option β:=bC (fun again s=>uP n s {cx with nrm:=again}) n s
theorem yB (n:Nat) (cx:Cx β):∀(m:Nat) (H M:BA) (N:List BA),bC (fun again s=>uP n s {cx with nrm:=again}) m (jK H M N)=g42_11L n (fun x4=>cx.ret (gQ x4)) m H M N:=by
  intro m
  induction m with
  | zero=>intros;rfl
  | succ m ih=>intros;simp only [bC,g42_11L,FA,ih]
theorem EW (H M:BA) (N:List BA):BV n (jK H M N) cx=yK n (fun x4=>cx.ret (gQ x4)) H M N:=yB n cx n H M N
def xY (kr:List BA→Option β) (H M:BA) (N:List BA):Option β:=yK n kr H M N
def AX (s:FState) (cx:Cx β):Option β:=BV n s {cx with ex:=fun j s=>bif Nat.beq j 2 then cx.nrm s else cx.ex j s}
theorem ET (H M:BA) (N:List BA):AX n (jK H M N) cx=xY n (fun x4=>cx.ret (gQ x4)) H M N:=EW n _ H M N
def tU (kr:List BA→Option β) (H M:BA):Option β:=MG n (fun H M N aa=>BU n (fun H M N=>xY n kr H M N) kr H M N aa) H M
def nP (s:FState) (cx:Cx β):Option β:=JM n s {cx with nrm:=fun s=>yO n s {cx with nrm:=fun s=>AX n s cx}}
theorem DQ (H M:BA):nP n (yM H M) cx=tU n (fun x4=>cx.ret (gQ x4)) H M:=by simp only [nP,tU,MC,LK,ET]
def g42 (H M:BA):Option (DenR [.rw .str 9]):=tU n (fun x4=>some (x4,())) H M
def RW:List AK:=[.dat .str,.dat .str]
def JH:List RK:=[.rw .str 9]
def UB (d:DenA RW):Option (DenR JH):=g42 n d.1 d.2.1
def SB:bG:=bU RW JH (UB n)
def QV:Sk:=(.nd (.fin none none none [] .leaf) (.nd (.fin none none none [] .leaf) (.nd (.nd (.fin none (some BC) none [] .leaf) (.nd (.nd (.fin none none none [] .leaf) (.nd (.nd (.fin none (some nC) none [] .leaf) (.nd (.nd (.nd (.fin none none none [(0,nO)] .leaf) (.nd (.fin none none none [(0,nO)] .leaf) (.fin none (some nC) none [(0,nO)] .leaf))) .leaf) .leaf)) (.nd (.nd (.fin none none (some fY) [] .leaf) (.fin none none (some fY) [] .leaf)) (.nd (.fin none none (some fY) [] .leaf) (.fin none none (some fY) [] .leaf))))) (.fin none (some nK) none [] .leaf))) (.nd (.nd (.fin none (some nK) (some fY) [] .leaf) .leaf) .leaf))))
theorem PO (s:FState) (cx:Cx β):FX (mG n) n kN QV s cx=nP n s cx:=by kernel_rfl
theorem OU:Fit Tryd.prog 42 (SB n):=
  dA (Γ:=Γ0) (l:=RT n) (n:=n) (sk:=QV) (ts:=[(4,none)]) (fn:=Tryd.f42) (c:=kN) (by kernel_rfl) (by kernel_rfl) (by unfold bA;kernel_rfl) tab_ok ⟨PR n,trivial⟩ aT (by kernel_rfl) (by kernel_rfl) (Nat.le_of_ble_eq_true (by kernel_rfl)) (Nat.le_of_ble_eq_true (by kernel_rfl)) (by kernel_rfl) (by kernel_rfl)
    (fun d=>(PO n _ _).trans (Eq.trans (b:=nP n (yM d.1 d.2.1) (dP (mG n) JH [(4,none)])) (by kernel_rfl) ((DQ n _ d.1 d.2.1).trans (by kernel_rfl))))
def BL:List AK:=[.cel Z5 73,.dat .str]
def FS:List RK:=[.dat (.int .i64),.dat .err]
def g43 (n:Nat) (H:List Int×(Int×Int)) (M:BA):Option (DenR FS×DenR (aS BL)):=eV H M
def VI (d:DenA BL):Option (DenR FS×DenR (aS BL)):=g43 n d.1 d.2.1
def RF:bG:=fF BL FS (VI n)
theorem NZ:Fit Tryd.prog 43 (RF n):=CW (T:=73) (e:=5) Tryd.laysM178 (by kernel_rfl) (by unfold bA;kernel_rfl) (tab_ok.kt 73 _ (by kernel_rfl)) (tab_ok.kt 5 _ (by kernel_rfl))
def AT:List AK:=[.cel Z5 73]
def IG:List RK:=[.dat .str]
def g44 (n:Nat) (H:List Int×(Int×Int)):Option (DenR IG×DenR (aS AT)):=dX H
def UM (d:DenA AT):Option (DenR IG×DenR (aS AT)):=g44 n d.1
def SA:bG:=fF AT IG (UM n)
theorem PG:Fit Tryd.prog 44 (SA n):=AG (T:=73) (e:=5) Tryd.laysM182 (by kernel_rfl) (by unfold bA;kernel_rfl) (tab_ok.kt 73 _ (by kernel_rfl)) (tab_ok.kt 5 _ (by kernel_rfl))
def xT (p0:Z6) (x1:List Z16):FState:=⟨aQ [(0,.ptr 0 0 0),(1,.sl 1 none false)],aF [(0,.row Z1 70 false [p0]),(1,.row Z14 75 false x1)]⟩
def LD (z:BA):FState:=⟨aQ [(4,.dat .str z)],aF []⟩
def tN:List NE:=[.keep 4]
def bF (C:List Int) (D E:Int) (G:List Z16) (B F:Int):FState:=⟨aQ [(5,.cp 5 0),(1000005,.sl 1000005 none false),(2000005,.dat (.int .i64) D),(3000005,.dat (.int .i8) E),(15,.sl 15 none false),(16,.dat (.int .i64) B),(17,.dat (.int .i64) F)],aF [(5,.cell Z5 73),(1000005,.row (.int .u8) 5 true C),(15,.row Z14 75 false G)]⟩
def bW:List NE:=[.cell 5 Z5 73,.row 1000005 (.int .u8) 5 true,.keep 2000005,.keep 3000005,.row 15 Z14 75 false,.keep 16,.keep 17]
def lF (C:List Int) (D E:Int):FState:=⟨aQ [(5,.cp 5 0),(1000005,.sl 1000005 none false),(2000005,.dat (.int .i64) D),(3000005,.dat (.int .i8) E)],aF [(5,.cell Z5 73),(1000005,.row (.int .u8) 5 true C)]⟩
def uT:List NE:=[.cell 5 Z5 73,.row 1000005 (.int .u8) 5 true,.keep 2000005,.keep 3000005]
def sC (C:List Int) (D E:Int) (A:BA) (G:List Z16) (B F S:Int):FState:=⟨aQ [(5,.cp 5 0),(1000005,.sl 1000005 none false),(2000005,.dat (.int .i64) D),(3000005,.dat (.int .i8) E),(8,.dat .str A),(15,.sl 15 none false),(16,.dat (.int .i64) B),(17,.dat (.int .i64) F),(24,.dat (.int .i8) S)],aF [(5,.cell Z5 73),(1000005,.row (.int .u8) 5 true C),(15,.row Z14 75 false G)]⟩
def BQ:List NE:=[.cell 5 Z5 73,.row 1000005 (.int .u8) 5 true,.keep 2000005,.keep 3000005,.keep 8,.row 15 Z14 75 false,.keep 16,.keep 17,.keep 24]
def lW (C:List Int) (D E:Int) (A:BA) (G:List Z16) (B F S:Int) (y:Bool):FState:=⟨aQ [(5,.cp 5 0),(1000005,.sl 1000005 none false),(2000005,.dat (.int .i64) D),(3000005,.dat (.int .i8) E),(8,.dat .str A),(15,.sl 15 none false),(16,.dat (.int .i64) B),(17,.dat (.int .i64) F),(24,.dat (.int .i8) S),(25,.dat .bool y)],aF [(5,.cell Z5 73),(1000005,.row (.int .u8) 5 true C),(15,.row Z14 75 false G)]⟩
def BM:List NE:=[.cell 5 Z5 73,.row 1000005 (.int .u8) 5 true,.keep 2000005,.keep 3000005,.keep 8,.row 15 Z14 75 false,.keep 16,.keep 17,.keep 24,.keep 25]
def lN (C:List Int) (D E:Int) (p:List BA) (G:List Z16) (B F w h:Int):FState:=⟨aQ [(5,.cp 5 0),(1000005,.sl 1000005 none false),(2000005,.dat (.int .i64) D),(3000005,.dat (.int .i8) E),(9,.sl 9 none false),(15,.sl 15 none false),(16,.dat (.int .i64) B),(17,.dat (.int .i64) F),(29,.sl 9 none false),(30,.dat (.int .i64) w),(31,.dat (.int .i64) h)],aF [(5,.cell Z5 73),(1000005,.row (.int .u8) 5 true C),(9,.row .str 9 true p),(15,.row Z14 75 false G)]⟩
def nU:List NE:=[.cell 5 Z5 73,.row 1000005 (.int .u8) 5 true,.keep 2000005,.keep 3000005,.row 9 .str 9 true,.row 15 Z14 75 false,.keep 16,.keep 17,.row 29 .str 9 true,.keep 30,.keep 31]
def oA (C:List Int) (D E:Int) (A:BA) (G:List Z16) (B F S:Int) (ab:Bool):FState:=⟨aQ [(5,.cp 5 0),(1000005,.sl 1000005 none false),(2000005,.dat (.int .i64) D),(3000005,.dat (.int .i8) E),(8,.dat .str A),(15,.sl 15 none false),(16,.dat (.int .i64) B),(17,.dat (.int .i64) F),(24,.dat (.int .i8) S),(59,.dat .bool ab)],aF [(5,.cell Z5 73),(1000005,.row (.int .u8) 5 true C),(15,.row Z14 75 false G)]⟩
def CB:List NE:=[.cell 5 Z5 73,.row 1000005 (.int .u8) 5 true,.keep 2000005,.keep 3000005,.keep 8,.row 15 Z14 75 false,.keep 16,.keep 17,.keep 24,.keep 59]
def iF (C:List Int) (D E:Int) (q:List BA) (G:List Z16) (B F x k:Int):FState:=⟨aQ [(5,.cp 5 0),(1000005,.sl 1000005 none false),(2000005,.dat (.int .i64) D),(3000005,.dat (.int .i8) E),(12,.sl 12 none false),(15,.sl 15 none false),(16,.dat (.int .i64) B),(17,.dat (.int .i64) F),(63,.sl 12 none false),(64,.dat (.int .i64) x),(65,.dat (.int .i64) k)],aF [(5,.cell Z5 73),(1000005,.row (.int .u8) 5 true C),(12,.row .str 9 true q),(15,.row Z14 75 false G)]⟩
def kF:List NE:=[.cell 5 Z5 73,.row 1000005 (.int .u8) 5 true,.keep 2000005,.keep 3000005,.row 12 .str 9 true,.row 15 Z14 75 false,.keep 16,.keep 17,.row 63 .str 9 true,.keep 64,.keep 65]
def QP:List (Nat×bG):=[(42,SB n),(43,RF n),(44,SA n)]
def fG:Ctx:={Γ0 with calls:=lkS (QP n),cel:=[5]}
def eI:Code:=fb Tryd.f28
def GY (n:Nat) (kn:List Int→Int→Int→List Z16→Int→Int→Option β) (p0:Z6) (x1:List Z16):Option β:=kn [] (0:Int) (0:Int) x1 (x1.length:Int) (0:Int)
def MJ:FS1 β:=FXs (fG n) n eI (some bW) none [] [2,6,28]
theorem JI (p0:Z6) (x1:List Z16):MJ n (xT p0 x1) cx=GY n (fun C D E G B F=>cx.nrm (bF C D E G B F)) p0 x1:=by kernel_rfl
def CA (n:Nat) (kn:List Int→Int→Int→List Z16→Int→Int→Option β) (V:List Int→Int→Int→Option β) (C:List Int) (D E:Int) (G:List Z16) (B F:Int):Option β:=bif (decide (F < B)) then (kn C D E G B F) else (V C D E)
def HA:FS1 β:=FXs (fG n) n eI (some bW) none [(0,uT)] [232,466]
theorem FZ (C:List Int) (D E:Int) (G:List Z16) (B F:Int):HA n (bF C D E G B F) cx=CA n (fun C D E G B F=>cx.nrm (bF C D E G B F)) (fun C D E=>cx.ex 0 (lF C D E)) C D E G B F:=by kernel_rfl
def FQ (n:Nat) (kn:List Int→Int→Int→BA→List Z16→Int→Int→Int→Option β) (C:List Int) (D E:Int) (G:List Z16) (B F:Int):Option β:=idx F (G.length:Int)<|kn C D E ((rd [(rd G F Z10)] (0:Int) Z10).2) G B F ((rd [(rd G F Z10)] (0:Int) Z10).1)
def JG:FS1 β:=FXs (fG n) n eI (some BQ) none [] [3736,7474,14950]
theorem LF (C:List Int) (D E:Int) (G:List Z16) (B F:Int):JG n (bF C D E G B F) cx=FQ n (fun C D E A G B F S=>cx.nrm (sC C D E A G B F S)) C D E G B F:=by kernel_rfl
def FN (n:Nat) (kn:List Int→Int→Int→BA→List Z16→Int→Int→Int→Bool→Option β) (C:List Int) (D E:Int) (A:BA) (G:List Z16) (B F S:Int):Option β:=kn C D E A G B F S (S==(1:Int))
def IV:FS1 β:=FXs (fG n) n eI (some BM) none [] [59804]
theorem LE (C:List Int) (D E:Int) (A:BA) (G:List Z16) (B F S:Int):IV n (sC C D E A G B F S) cx=FN n (fun C D E A G B F S y=>cx.nrm (lW C D E A G B F S y)) C D E A G B F S:=by kernel_rfl
def JP (kn:List Int→Int→Int→List BA→List Z16→Int→Int→Int→Int→Option β) (C:List Int) (D E:Int) (A:BA) (G:List Z16) (B F S:Int) (y:Bool):Option β:=(g42 n A (⟨#[10]⟩:BA)).bind fun Z=>kn C D E Z.1 G B F (Z.1.length:Int) (0:Int)
def MN:FS1 β:=FXs (fG n) n eI (some nU) none [] [239220,478442]
theorem JF (C:List Int) (D E:Int) (A:BA) (G:List Z16) (B F S:Int) (y:Bool):MN n (lW C D E A G B F S y) cx=JP n (fun C D E p G B F w h=>cx.nrm (lN C D E p G B F w h)) C D E A G B F S y:=by kernel_rfl
def AZ (kn:List Int→Int→Int→List BA→List Z16→Int→Int→Int→Int→Option β) (ad:List Int→Int→Int→List Z16→Int→Int→Option β) (C:List Int) (D E:Int) (p:List BA) (G:List Z16) (B F w h:Int):Option β:=bif (decide (h < w)) then (idx h (p.length:Int)<|(g43 n (C,(D,E)) (⟨#[27,91,51,50,109]⟩:BA)).bind fun Z=>(g43 n (Z.2.1.1,(Z.2.1.2.1,Z.2.1.2.2)) (rd p h (⟨#[]⟩:BA))).bind fun r2=>bif (decide (h < (w64 ((p.length:Int) - 1)))) then ((g43 n (r2.2.1.1,(r2.2.1.2.1,r2.2.1.2.2)) (⟨#[27,91,48,109,10]⟩:BA)).bind fun r3=>kn r3.2.1.1 r3.2.1.2.1 r3.2.1.2.2 p G B F w (w64 (h+1))) else ((g43 n (r2.2.1.1,(r2.2.1.2.1,r2.2.1.2.2)) (⟨#[27,91,48,109]⟩:BA)).bind fun r4=>kn r4.2.1.1 r4.2.1.2.1 r4.2.1.2.2 p G B F w (w64 (h+1)))) else (ad C D E G B F)
def yH:FS1 β:=FXs (fG n) n eI (some nU) none [(3,bW)] [3827544,7655090,15310182,15310183]
theorem GU (C:List Int) (D E:Int) (p:List BA) (G:List Z16) (B F w h:Int):yH n (lN C D E p G B F w h) cx=AZ n (fun C D E p G B F w h=>cx.nrm (lN C D E p G B F w h)) (fun C D E G B F=>cx.ex 3 (bF C D E G B F)) C D E p G B F w h:=by kernel_rfl
def g28_7L (n:Nat) (ad:List Int→Int→Int→List Z16→Int→Int→Option β):Nat→List Int→Int→Int→List BA→List Z16→Int→Int→Int→Int→Option β
  | 0,_,_,_,_,_,_,_,_,_=>none
  | m+1,C,D,E,p,G,B,F,w,h=>AZ n (g28_7L n ad m) ad C D E p G B F w h
def HE (ad:List Int→Int→Int→List Z16→Int→Int→Option β) (C:List Int) (D E:Int) (p:List BA) (G:List Z16) (B F w h:Int):Option β:=g28_7L n ad n C D E p G B F w h
def KA (s:FState) (cx:Cx β):Option β:=bC (fun again s=>yH n s {cx with nrm:=again}) n s
theorem DJ (n:Nat) (cx:Cx β):∀(m:Nat) (C:List Int) (D E:Int) (p:List BA) (G:List Z16) (B F w h:Int),bC (fun again s=>yH n s {cx with nrm:=again}) m (lN C D E p G B F w h)=g28_7L n (fun C D E G B F=>cx.ex 3 (bF C D E G B F)) m C D E p G B F w h:=by
  intro m
  induction m with
  | zero=>intros;rfl
  | succ m ih=>intros;simp only [bC,g28_7L,GU,ih]
theorem KL (C:List Int) (D E:Int) (p:List BA) (G:List Z16) (B F w h:Int):KA n (lN C D E p G B F w h) cx=HE n (fun C D E G B F=>cx.ex 3 (bF C D E G B F)) C D E p G B F w h:=DJ n cx n C D E p G B F w h
def MX (kn:List Int→Int→Int→List Z16→Int→Int→Option β) (C:List Int) (D E:Int) (p:List BA) (G:List Z16) (B F w h:Int):Option β:=HE n kn C D E p G B F w h
def MF (s:FState) (cx:Cx β):Option β:=KA n s {cx with ex:=fun j s=>bif Nat.beq j 3 then cx.nrm s else cx.ex j s}
theorem MK (C:List Int) (D E:Int) (p:List BA) (G:List Z16) (B F w h:Int):MF n (lN C D E p G B F w h) cx=MX n (fun C D E G B F=>cx.nrm (bF C D E G B F)) C D E p G B F w h:=KL n _ C D E p G B F w h
def uY (kn:List Int→Int→Int→List Z16→Int→Int→Option β) (C:List Int) (D E:Int) (A:BA) (G:List Z16) (B F S:Int) (y:Bool):Option β:=JP n (fun C D E p G B F w h=>MX n kn C D E p G B F w h) C D E A G B F S y
def zL (s:FState) (cx:Cx β):Option β:=MN n s {cx with nrm:=fun s=>MF n s cx}
theorem KK (C:List Int) (D E:Int) (A:BA) (G:List Z16) (B F S:Int) (y:Bool):zL n (lW C D E A G B F S y) cx=uY n (fun C D E G B F=>cx.nrm (bF C D E G B F)) C D E A G B F S y:=by simp only [zL,uY,JF,MK]
def sH (n:Nat) (kn:List Int→Int→Int→BA→List Z16→Int→Int→Int→Bool→Option β) (C:List Int) (D E:Int) (A:BA) (G:List Z16) (B F S:Int) (y:Bool):Option β:=kn C D E A G B F S (S==(-1:Int))
def CS:FS1 β:=FXs (fG n) n eI (some CB) none [] [239222]
theorem DM (C:List Int) (D E:Int) (A:BA) (G:List Z16) (B F S:Int) (y:Bool):CS n (lW C D E A G B F S y) cx=sH n (fun C D E A G B F S ab=>cx.nrm (oA C D E A G B F S ab)) C D E A G B F S y:=by kernel_rfl
def xW (kn:List Int→Int→Int→List BA→List Z16→Int→Int→Int→Int→Option β) (C:List Int) (D E:Int) (A:BA) (G:List Z16) (B F S:Int) (ab:Bool):Option β:=(g42 n A (⟨#[10]⟩:BA)).bind fun Z=>kn C D E Z.1 G B F (Z.1.length:Int) (0:Int)
def CI:FS1 β:=FXs (fG n) n eI (some kF) none [] [956892,1913786]
theorem DT (C:List Int) (D E:Int) (A:BA) (G:List Z16) (B F S:Int) (ab:Bool):CI n (oA C D E A G B F S ab) cx=xW n (fun C D E q G B F x k=>cx.nrm (iF C D E q G B F x k)) C D E A G B F S ab:=by kernel_rfl
def uL (kn:List Int→Int→Int→List BA→List Z16→Int→Int→Int→Int→Option β) (ae:List Int→Int→Int→List Z16→Int→Int→Option β) (C:List Int) (D E:Int) (q:List BA) (G:List Z16) (B F x k:Int):Option β:=bif (decide (k < x)) then (idx k (q.length:Int)<|(g43 n (C,(D,E)) (⟨#[27,91,51,49,109]⟩:BA)).bind fun Z=>(g43 n (Z.2.1.1,(Z.2.1.2.1,Z.2.1.2.2)) (rd q k (⟨#[]⟩:BA))).bind fun r2=>bif (decide (k < (w64 ((q.length:Int) - 1)))) then ((g43 n (r2.2.1.1,(r2.2.1.2.1,r2.2.1.2.2)) (⟨#[27,91,48,109,10]⟩:BA)).bind fun r3=>kn r3.2.1.1 r3.2.1.2.1 r3.2.1.2.2 q G B F x (w64 (k+1))) else ((g43 n (r2.2.1.1,(r2.2.1.2.1,r2.2.1.2.2)) (⟨#[27,91,48,109]⟩:BA)).bind fun r4=>kn r4.2.1.1 r4.2.1.2.1 r4.2.1.2.2 q G B F x (w64 (k+1)))) else (ae C D E G B F)
def tL:FS1 β:=FXs (fG n) n eI (some kF) none [(5,bW)] [15310296,30620594,61241190,61241191]
theorem EB (C:List Int) (D E:Int) (q:List BA) (G:List Z16) (B F x k:Int):tL n (iF C D E q G B F x k) cx=uL n (fun C D E q G B F x k=>cx.nrm (iF C D E q G B F x k)) (fun C D E G B F=>cx.ex 5 (bF C D E G B F)) C D E q G B F x k:=by kernel_rfl
def g28_13L (n:Nat) (ae:List Int→Int→Int→List Z16→Int→Int→Option β):Nat→List Int→Int→Int→List BA→List Z16→Int→Int→Int→Int→Option β
  | 0,_,_,_,_,_,_,_,_,_=>none
  | m+1,C,D,E,q,G,B,F,x,k=>uL n (g28_13L n ae m) ae C D E q G B F x k
def yL (ae:List Int→Int→Int→List Z16→Int→Int→Option β) (C:List Int) (D E:Int) (q:List BA) (G:List Z16) (B F x k:Int):Option β:=g28_13L n ae n C D E q G B F x k
def AJ (s:FState) (cx:Cx β):Option β:=bC (fun again s=>tL n s {cx with nrm:=again}) n s
theorem yZ (n:Nat) (cx:Cx β):∀(m:Nat) (C:List Int) (D E:Int) (q:List BA) (G:List Z16) (B F x k:Int),bC (fun again s=>tL n s {cx with nrm:=again}) m (iF C D E q G B F x k)=g28_13L n (fun C D E G B F=>cx.ex 5 (bF C D E G B F)) m C D E q G B F x k:=by
  intro m
  induction m with
  | zero=>intros;rfl
  | succ m ih=>intros;simp only [bC,g28_13L,EB,ih]
theorem EV (C:List Int) (D E:Int) (q:List BA) (G:List Z16) (B F x k:Int):AJ n (iF C D E q G B F x k) cx=yL n (fun C D E G B F=>cx.ex 5 (bF C D E G B F)) C D E q G B F x k:=yZ n cx n C D E q G B F x k
def zX (kn:List Int→Int→Int→List Z16→Int→Int→Option β) (C:List Int) (D E:Int) (q:List BA) (G:List Z16) (B F x k:Int):Option β:=yL n kn C D E q G B F x k
def BE (s:FState) (cx:Cx β):Option β:=AJ n s {cx with ex:=fun j s=>bif Nat.beq j 5 then cx.nrm s else cx.ex j s}
theorem EJ (C:List Int) (D E:Int) (q:List BA) (G:List Z16) (B F x k:Int):BE n (iF C D E q G B F x k) cx=zX n (fun C D E G B F=>cx.nrm (bF C D E G B F)) C D E q G B F x k:=EV n _ C D E q G B F x k
def oM (kn:List Int→Int→Int→List Z16→Int→Int→Option β) (C:List Int) (D E:Int) (A:BA) (G:List Z16) (B F S:Int) (ab:Bool):Option β:=xW n (fun C D E q G B F x k=>zX n kn C D E q G B F x k) C D E A G B F S ab
def tD (s:FState) (cx:Cx β):Option β:=CI n s {cx with nrm:=fun s=>BE n s cx}
theorem CV (C:List Int) (D E:Int) (A:BA) (G:List Z16) (B F S:Int) (ab:Bool):tD n (oA C D E A G B F S ab) cx=oM n (fun C D E G B F=>cx.nrm (bF C D E G B F)) C D E A G B F S ab:=by simp only [tD,oM,DT,EJ]
def tR (kn:List Int→Int→Int→List Z16→Int→Int→Option β) (C:List Int) (D E:Int) (A:BA) (G:List Z16) (B F S:Int) (ab:Bool):Option β:=bif (S==(0:Int)) then ((g43 n (C,(D,E)) A).bind fun Z=>kn Z.2.1.1 Z.2.1.2.1 Z.2.1.2.2 G B F) else (kn C D E G B F)
def BW:FS1 β:=FXs (fG n) n eI (some bW) none [] [956894,956895]
theorem FE (C:List Int) (D E:Int) (A:BA) (G:List Z16) (B F S:Int) (ab:Bool):BW n (oA C D E A G B F S ab) cx=tR n (fun C D E G B F=>cx.nrm (bF C D E G B F)) C D E A G B F S ab:=by kernel_rfl
def pH (kn:List Int→Int→Int→List Z16→Int→Int→Option β) (C:List Int) (D E:Int) (A:BA) (G:List Z16) (B F S:Int) (ab:Bool):Option β:=bif ab then oM n kn C D E A G B F S ab else tR n kn C D E A G B F S ab
def tF (s:FState) (cx:Cx β):Option β:=asBool (ev s (sQ (nav eI [1,1,0,1,0,0,1,1,0,0,1,1,1,0,1,1,1]))) fun t=>cond t (tD n s cx) (BW n s cx)
theorem CU (C:List Int) (D E:Int) (A:BA) (G:List Z16) (B F S:Int) (ab:Bool):tF n (oA C D E A G B F S ab) cx=pH n (fun C D E G B F=>cx.nrm (bF C D E G B F)) C D E A G B F S ab:=by
  simp only [tF,pH,CV,FE]
  kernel_rfl
def jN (kn:List Int→Int→Int→List Z16→Int→Int→Option β) (C:List Int) (D E:Int) (A:BA) (G:List Z16) (B F S:Int) (y:Bool):Option β:=sH n (fun C D E A G B F S ab=>pH n kn C D E A G B F S ab) C D E A G B F S y
def tO (s:FState) (cx:Cx β):Option β:=CS n s {cx with nrm:=fun s=>tF n s cx}
theorem EO (C:List Int) (D E:Int) (A:BA) (G:List Z16) (B F S:Int) (y:Bool):tO n (lW C D E A G B F S y) cx=jN n (fun C D E G B F=>cx.nrm (bF C D E G B F)) C D E A G B F S y:=by simp only [tO,jN,DM,CU]
def uM (kn:List Int→Int→Int→List Z16→Int→Int→Option β) (C:List Int) (D E:Int) (A:BA) (G:List Z16) (B F S:Int) (y:Bool):Option β:=bif y then uY n kn C D E A G B F S y else jN n kn C D E A G B F S y
def uG (s:FState) (cx:Cx β):Option β:=asBool (ev s (sQ (nav eI [1,1,0,1,0,0,1,1,0,0,1,1,1,0,1]))) fun t=>cond t (zL n s cx) (tO n s cx)
theorem DR (C:List Int) (D E:Int) (A:BA) (G:List Z16) (B F S:Int) (y:Bool):uG n (lW C D E A G B F S y) cx=uM n (fun C D E G B F=>cx.nrm (bF C D E G B F)) C D E A G B F S y:=by
  simp only [uG,uM,KK,EO]
  kernel_rfl
def sD (kn:List Int→Int→Int→List Z16→Int→Int→Option β) (C:List Int) (D E:Int) (A:BA) (G:List Z16) (B F S:Int):Option β:=FN n (fun C D E A G B F S y=>uM n kn C D E A G B F S y) C D E A G B F S
def tY (s:FState) (cx:Cx β):Option β:=IV n s {cx with nrm:=fun s=>uG n s cx}
theorem DN (C:List Int) (D E:Int) (A:BA) (G:List Z16) (B F S:Int):tY n (sC C D E A G B F S) cx=sD n (fun C D E G B F=>cx.nrm (bF C D E G B F)) C D E A G B F S:=by simp only [tY,sD,LE,DR]
def zM (kn:List Int→Int→Int→List Z16→Int→Int→Option β) (C:List Int) (D E:Int) (A:BA) (G:List Z16) (B F S:Int):Option β:=sD n kn C D E A G B F S
def BN (s:FState) (cx:Cx β):Option β:=tY n s {cx with ex:=fun j s=>bif Nat.beq j 2 then cx.nrm s else cx.ex j s}
theorem DG (C:List Int) (D E:Int) (A:BA) (G:List Z16) (B F S:Int):BN n (sC C D E A G B F S) cx=zM n (fun C D E G B F=>cx.nrm (bF C D E G B F)) C D E A G B F S:=DN n _ C D E A G B F S
def uN (kn:List Int→Int→Int→List Z16→Int→Int→Option β) (C:List Int) (D E:Int) (G:List Z16) (B F:Int):Option β:=FQ n (fun C D E A G B F S=>zM n kn C D E A G B F S) C D E G B F
def sL (s:FState) (cx:Cx β):Option β:=JG n s {cx with nrm:=fun s=>BN n s cx}
theorem EF (C:List Int) (D E:Int) (G:List Z16) (B F:Int):sL n (bF C D E G B F) cx=uN n (fun C D E G B F=>cx.nrm (bF C D E G B F)) C D E G B F:=by simp only [sL,uN,LF,DG]
def zG (kn:List Int→Int→Int→List Z16→Int→Int→Option β) (C:List Int) (D E:Int) (G:List Z16) (B F:Int):Option β:=uN n kn C D E G B F
def AS (s:FState) (cx:Cx β):Option β:=sL n s {cx with ex:=fun j s=>bif Nat.beq j 1 then cx.nrm s else cx.ex j s}
theorem FB (C:List Int) (D E:Int) (G:List Z16) (B F:Int):AS n (bF C D E G B F) cx=zG n (fun C D E G B F=>cx.nrm (bF C D E G B F)) C D E G B F:=EF n _ C D E G B F
def oU (n:Nat) (kn:List Int→Int→Int→List Z16→Int→Int→Option β) (C:List Int) (D E:Int) (G:List Z16) (B F:Int):Option β:=kn C D E G B (w64 (F+1))
def BY:FS1 β:=FXs (fG n) n eI (some bW) none [] [935]
theorem DH (C:List Int) (D E:Int) (G:List Z16) (B F:Int):BY n (bF C D E G B F) cx=oU n (fun C D E G B F=>cx.nrm (bF C D E G B F)) C D E G B F:=by kernel_rfl
def pP (kn:List Int→Int→Int→List Z16→Int→Int→Option β) (V:List Int→Int→Int→Option β) (C:List Int) (D E:Int) (G:List Z16) (B F:Int):Option β:=CA n (fun C D E G B F=>zG n (fun C D E G B F=>oU n kn C D E G B F) C D E G B F) V C D E G B F
def nN (s:FState) (cx:Cx β):Option β:=HA n s {cx with nrm:=fun s=>AS n s {cx with nrm:=fun s=>BY n s cx}}
theorem CT (C:List Int) (D E:Int) (G:List Z16) (B F:Int):nN n (bF C D E G B F) cx=pP n (fun C D E G B F=>cx.nrm (bF C D E G B F)) (fun C D E=>cx.ex 0 (lF C D E)) C D E G B F:=by simp only [nN,pP,FZ,FB,DH]
def g28_26L (n:Nat) (V:List Int→Int→Int→Option β):Nat→List Int→Int→Int→List Z16→Int→Int→Option β
  | 0,_,_,_,_,_,_=>none
  | m+1,C,D,E,G,B,F=>pP n (g28_26L n V m) V C D E G B F
def zB (V:List Int→Int→Int→Option β) (C:List Int) (D E:Int) (G:List Z16) (B F:Int):Option β:=g28_26L n V n C D E G B F
def CG (s:FState) (cx:Cx β):Option β:=bC (fun again s=>nN n s {cx with nrm:=again}) n s
theorem xZ (n:Nat) (cx:Cx β):∀(m:Nat) (C:List Int) (D E:Int) (G:List Z16) (B F:Int),bC (fun again s=>nN n s {cx with nrm:=again}) m (bF C D E G B F)=g28_26L n (fun C D E=>cx.ex 0 (lF C D E)) m C D E G B F:=by
  intro m
  induction m with
  | zero=>intros;rfl
  | succ m ih=>intros;simp only [bC,g28_26L,CT,ih]
theorem EK (C:List Int) (D E:Int) (G:List Z16) (B F:Int):CG n (bF C D E G B F) cx=zB n (fun C D E=>cx.ex 0 (lF C D E)) C D E G B F:=xZ n cx n C D E G B F
def yU (kn:List Int→Int→Int→Option β) (C:List Int) (D E:Int) (G:List Z16) (B F:Int):Option β:=zB n kn C D E G B F
def BT (s:FState) (cx:Cx β):Option β:=CG n s {cx with ex:=fun j s=>bif Nat.beq j 0 then cx.nrm s else cx.ex j s}
theorem DP (C:List Int) (D E:Int) (G:List Z16) (B F:Int):BT n (bF C D E G B F) cx=yU n (fun C D E=>cx.nrm (lF C D E)) C D E G B F:=EK n _ C D E G B F
def sS (kr:BA→Option β) (C:List Int) (D E:Int):Option β:=(g44 n (C,(D,E))).bind fun Z=>kr Z.1.1
def AU:FS1 β:=FXs (fG n) n eI none (some tN) [] [30,31]
theorem EL (C:List Int) (D E:Int):AU n (lF C D E) cx=sS n (fun z=>cx.ret (LD z)) C D E:=by kernel_rfl
def tP (kr:BA→Option β) (p0:Z6) (x1:List Z16):Option β:=GY n (fun C D E G B F=>yU n (fun C D E=>sS n kr C D E) C D E G B F) p0 x1
def nM (s:FState) (cx:Cx β):Option β:=MJ n s {cx with nrm:=fun s=>BT n s {cx with nrm:=fun s=>AU n s cx}}
theorem FD (p0:Z6) (x1:List Z16):nM n (xT p0 x1) cx=tP n (fun z=>cx.ret (LD z)) p0 x1:=by simp only [nM,tP,JI,DP,EL]
def g28 (p0:Z6) (x1:List Z16):Option (DenR [.dat .str]):=tP n (fun z=>some (z,())) p0 x1
def RY:List AK:=[.pro Z1 70,.ro Z14 75]
def BS:List RK:=[.dat .str]
def VQ (d:DenA RY):Option (DenR BS):=g28 n d.1 d.2.1
def SR:bG:=bU RY BS (VQ n)
def QY:Sk:=(.nd (.fin none none none [] .leaf) (.nd (.fin none none none [] .leaf) (.nd (.nd (.fin none (some bW) none [] .leaf) (.nd (.nd (.nd (.fin none none none [(0,uT)] .leaf) (.nd (.fin none (some bW) none [(0,uT)] .leaf) (.nd (.nd (.nd (.fin none none none [] .leaf) (.nd (.fin none none none [] .leaf) (.nd (.fin none (some BQ) none [] .leaf) (.nd (.nd (.fin none (some BM) none [] .leaf) (.nd (.nd (.fin none none none [] .leaf) (.nd (.fin none (some nU) none [] .leaf) (.nd (.nd (.nd (.fin none none none [(3,bW)] .leaf) (.nd (.fin none none none [(3,bW)] .leaf) (.nd (.fin none none none [(3,bW)] .leaf) (.fin none (some nU) none [(3,bW)] .leaf)))) .leaf) .leaf))) (.nd (.fin none (some CB) none [] .leaf) (.nd (.nd (.fin none none none [] .leaf) (.nd (.fin none (some kF) none [] .leaf) (.nd (.nd (.nd (.fin none none none [(5,bW)] .leaf) (.nd (.fin none none none [(5,bW)] .leaf) (.nd (.fin none none none [(5,bW)] .leaf) (.fin none (some kF) none [(5,bW)] .leaf)))) .leaf) .leaf))) (.nd (.fin none none none [] .leaf) (.fin none (some bW) none [] .leaf)))))) .leaf)))) .leaf) (.fin none (some bW) none [] .leaf)))) .leaf) .leaf)) (.nd (.fin none none (some tN) [] .leaf) (.fin none none (some tN) [] .leaf)))))
theorem PU (s:FState) (cx:Cx β):FX (fG n) n eI QY s cx=nM n s cx:=by kernel_rfl
theorem OD:Fit Tryd.prog 28 (SR n):=
  dA (Γ:={Γ0 with cel:=[5]}) (l:=QP n) (n:=n) (sk:=QY) (ts:=[(4,none)]) (fn:=Tryd.f28) (c:=eI) (by kernel_rfl) (by kernel_rfl) (by unfold bA;kernel_rfl) (TU tab_ok [5]) ⟨OU n,NZ n,PG n,trivial⟩ aT (by kernel_rfl) (by kernel_rfl) (Nat.le_of_ble_eq_true (by kernel_rfl)) (Nat.le_of_ble_eq_true (by kernel_rfl)) (by kernel_rfl) (by kernel_rfl)
    (fun d=>(PU n _ _).trans (Eq.trans (b:=nM n (xT d.1 d.2.1) (dP (fG n) BS [(4,none)])) (by kernel_rfl) ((FD n _ d.1 d.2.1).trans (by kernel_rfl))))
def LL (P:List Z16):FState:=⟨aQ [(0,.sl 0 none false)],aF [(0,.row Z13 45 false P)]⟩
def TL (J:BA):FState:=⟨aQ [(2,.dat .str J)],aF []⟩
def nQ:List NE:=[.keep 2]
def QB:List (Nat×bG):=[(27,QR n),(28,SR n),(29,SH n)]
def NS:Ctx:={Γ0 with calls:=lkS (QB n)}
def HM:Code:=fb Tryd.f12
def HD (kr:BA→Option β) (P:List Z16):Option β:=(g27 n).bind fun Z=>(g29 n P).bind fun r2=>(g28 n Z.1 r2.1).bind fun r3=>kr r3.1
def yX:FS1 β:=FXs (NS n) n HM none (some nQ) [] [2,6,7]
theorem LJ (P:List Z16):yX n (LL P) cx=HD n (fun J=>cx.ret (TL J)) P:=by kernel_rfl
def g12 (P:List Z16):Option (DenR [.dat .str]):=HD n (fun J=>some (J,())) P
def SO:List AK:=[.ro Z13 45]
def HB:List RK:=[.dat .str]
def UA (d:DenA SO):Option (DenR HB):=g12 n d.1
def SL:bG:=bU SO HB (UA n)
def QK:Sk:=(.nd (.fin none none (some nQ) [] .leaf) (.nd (.fin none none (some nQ) [] .leaf) (.fin none none (some nQ) [] .leaf)))
theorem OF (s:FState) (cx:Cx β):FX (NS n) n HM QK s cx=yX n s cx:=by kernel_rfl
theorem PN:Fit Tryd.prog 12 (SL n):=
  dA (Γ:=Γ0) (l:=QB n) (n:=n) (sk:=QK) (ts:=[(2,none)]) (fn:=Tryd.f12) (c:=HM) (by kernel_rfl) (by kernel_rfl) (by unfold bA;kernel_rfl) tab_ok ⟨PA n,OD n,OP n,trivial⟩ aT (by kernel_rfl) (by kernel_rfl) (Nat.le_of_ble_eq_true (by kernel_rfl)) (Nat.le_of_ble_eq_true (by kernel_rfl)) (by kernel_rfl) (by kernel_rfl)
    (fun d=>(OF n _ _).trans (Eq.trans (b:=yX n (LL d.1) (dP (NS n) HB [(2,none)])) (by kernel_rfl) ((LJ n _ d.1).trans (by kernel_rfl))))
def zY (P:List Z16):FState:=⟨aQ [(0,.sl 0 none false)],aF [(0,.row Z13 45 false P)]⟩
def IL (J:BA):FState:=⟨aQ [(2,.dat .str J)],aF []⟩
def tZ:List NE:=[.keep 2]
def lE (I:BA) (U:List Z16) (W A:Int):FState:=⟨aQ [(3,.dat .str I),(6,.sl 6 none false),(7,.dat (.int .i64) W),(8,.dat (.int .i64) A)],aF [(6,.row Z13 45 false U)]⟩
def nT:List NE:=[.keep 3,.row 6 Z13 45 false,.keep 7,.keep 8]
def oS (I:BA):FState:=⟨aQ [(3,.dat .str I)],aF []⟩
def kT:List NE:=[.keep 3]
def QC (n:Nat):List (Nat×bG):=[]
def vQ:Ctx:={Γ0 with calls:=lkS (QC n)}
def wQ:Code:=fb Tryd.f13
def MB (n:Nat) (kn:BA→List Z16→Int→Int→Option β) (P:List Z16):Option β:=kn (⟨#[]⟩:BA) P (P.length:Int) (0:Int)
def GL:FS1 β:=FXs (vQ n) n wQ (some nT) none [] [2,6,28]
theorem GB (P:List Z16):GL n (zY P) cx=MB n (fun I U W A=>cx.nrm (lE I U W A)) P:=by kernel_rfl
def BG (n:Nat) (kn:BA→List Z16→Int→Int→Option β) (V:BA→Option β) (I:BA) (U:List Z16) (W A:Int):Option β:=bif (decide (A < W)) then (idx A (U.length:Int)<|bif ((rd [(rd U A Z10)] (0:Int) Z10).1==(-1:Int)) then (cM ((⟨#[27,91,51,49,109]⟩:BA).size+((rd [(rd U A Z10)] (0:Int) Z10).2).size)<|cM (((⟨#[27,91,51,49,109]⟩:BA)++(rd [(rd U A Z10)] (0:Int) Z10).2).size+(⟨#[27,91,48,109]⟩:BA).size)<|cM (I.size+(((⟨#[27,91,51,49,109]⟩:BA)++(rd [(rd U A Z10)] (0:Int) Z10).2)++(⟨#[27,91,48,109]⟩:BA)).size)<|kn (I++(((⟨#[27,91,51,49,109]⟩:BA)++(rd [(rd U A Z10)] (0:Int) Z10).2)++(⟨#[27,91,48,109]⟩:BA))) U W (w64 (A+1))) else (bif ((rd [(rd U A Z10)] (0:Int) Z10).1==(1:Int)) then (cM ((⟨#[27,91,51,50,109]⟩:BA).size+((rd [(rd U A Z10)] (0:Int) Z10).2).size)<|cM (((⟨#[27,91,51,50,109]⟩:BA)++(rd [(rd U A Z10)] (0:Int) Z10).2).size+(⟨#[27,91,48,109]⟩:BA).size)<|cM (I.size+(((⟨#[27,91,51,50,109]⟩:BA)++(rd [(rd U A Z10)] (0:Int) Z10).2)++(⟨#[27,91,48,109]⟩:BA)).size)<|kn (I++(((⟨#[27,91,51,50,109]⟩:BA)++(rd [(rd U A Z10)] (0:Int) Z10).2)++(⟨#[27,91,48,109]⟩:BA))) U W (w64 (A+1))) else (cM (I.size+((rd [(rd U A Z10)] (0:Int) Z10).2).size)<|kn (I++(rd [(rd U A Z10)] (0:Int) Z10).2) U W (w64 (A+1))))) else (V I)
def zK:FS1 β:=FXs (vQ n) n wQ (some nT) none [(0,kT)] [232,466,934,935]
theorem GI (I:BA) (U:List Z16) (W A:Int):zK n (lE I U W A) cx=BG n (fun I U W A=>cx.nrm (lE I U W A)) (fun I=>cx.ex 0 (oS I)) I U W A:=by kernel_rfl
def g13_3L (n:Nat) (V:BA→Option β):Nat→BA→List Z16→Int→Int→Option β
  | 0,_,_,_,_=>none
  | m+1,I,U,W,A=>BG n (g13_3L n V m) V I U W A
def IH (V:BA→Option β) (I:BA) (U:List Z16) (W A:Int):Option β:=g13_3L n V n I U W A
def KB (s:FState) (cx:Cx β):Option β:=bC (fun again s=>zK n s {cx with nrm:=again}) n s
theorem EM (n:Nat) (cx:Cx β):∀(m:Nat) (I:BA) (U:List Z16) (W A:Int),bC (fun again s=>zK n s {cx with nrm:=again}) m (lE I U W A)=g13_3L n (fun I=>cx.ex 0 (oS I)) m I U W A:=by
  intro m
  induction m with
  | zero=>intros;rfl
  | succ m ih=>intros;simp only [bC,g13_3L,GI,ih]
theorem LB (I:BA) (U:List Z16) (W A:Int):KB n (lE I U W A) cx=IH n (fun I=>cx.ex 0 (oS I)) I U W A:=EM n cx n I U W A
def LU (kn:BA→Option β) (I:BA) (U:List Z16) (W A:Int):Option β:=IH n kn I U W A
def KG (s:FState) (cx:Cx β):Option β:=KB n s {cx with ex:=fun j s=>bif Nat.beq j 0 then cx.nrm s else cx.ex j s}
theorem GQ (I:BA) (U:List Z16) (W A:Int):KG n (lE I U W A) cx=LU n (fun I=>cx.nrm (oS I)) I U W A:=LB n _ I U W A
def GM (n:Nat) (kr:BA→Option β) (I:BA):Option β:=kr I
def LT:FS1 β:=FXs (vQ n) n wQ none (some tZ) [] [30,31]
theorem LW (I:BA):LT n (oS I) cx=GM n (fun J=>cx.ret (IL J)) I:=by kernel_rfl
def BJ (kr:BA→Option β) (P:List Z16):Option β:=MB n (fun I U W A=>LU n (fun I=>GM n kr I) I U W A) P
def uO (s:FState) (cx:Cx β):Option β:=GL n s {cx with nrm:=fun s=>KG n s {cx with nrm:=fun s=>LT n s cx}}
theorem GV (P:List Z16):uO n (zY P) cx=BJ n (fun J=>cx.ret (IL J)) P:=by simp only [uO,BJ,GB,GQ,LW]
def g13 (P:List Z16):Option (DenR [.dat .str]):=BJ n (fun J=>some (J,())) P
def RV:List AK:=[.ro Z13 45]
def NH:List RK:=[.dat .str]
def VN (d:DenA RV):Option (DenR NH):=g13 n d.1
def SD:bG:=bU RV NH (VN n)
def SP:Sk:=(.nd (.fin none none none [] .leaf) (.nd (.fin none none none [] .leaf) (.nd (.nd (.fin none (some nT) none [] .leaf) (.nd (.nd (.nd (.fin none none none [(0,kT)] .leaf) (.nd (.fin none none none [(0,kT)] .leaf) (.nd (.fin none none none [(0,kT)] .leaf) (.fin none (some nT) none [(0,kT)] .leaf)))) .leaf) .leaf)) (.nd (.fin none none (some tZ) [] .leaf) (.fin none none (some tZ) [] .leaf)))))
theorem OG (s:FState) (cx:Cx β):FX (vQ n) n wQ SP s cx=uO n s cx:=by kernel_rfl
theorem PB:Fit Tryd.prog 13 (SD n):=
  dA (Γ:=Γ0) (l:=QC n) (n:=n) (sk:=SP) (ts:=[(2,none)]) (fn:=Tryd.f13) (c:=wQ) (by kernel_rfl) (by kernel_rfl) (by unfold bA;kernel_rfl) tab_ok trivial aT (by kernel_rfl) (by kernel_rfl) (Nat.le_of_ble_eq_true (by kernel_rfl)) (Nat.le_of_ble_eq_true (by kernel_rfl)) (by kernel_rfl) (by kernel_rfl)
    (fun d=>(OG n _ _).trans (Eq.trans (b:=uO n (zY d.1) (dP (vQ n) NH [(2,none)])) (by kernel_rfl) ((GV n _ d.1).trans (by kernel_rfl))))
def RC (P:List Z16):FState:=⟨aQ [(0,.sl 0 none false)],aF [(0,.row Z13 45 false P)]⟩
def VE (J:Bool):FState:=⟨aQ [(2,.dat .bool J)],aF []⟩
def gR:List NE:=[.keep 2]
def UK:List (Nat×bG):=[(9,UT n),(10,QU n),(11,ST n),(12,SL n),(13,SD n)]
def SY:Ctx:={Γ0 with calls:=lkS (UK n)}
def TI:Code:=fb Tryd.f3
def TW (kr:Bool→Option β) (P:List Z16):Option β:=(g9 n P).bind fun Z=>bif (!Z.1) then (kr true) else ((g10 n P).bind fun r2=>(g11 n r2.1).bind fun r3=>bif r3.1 then (kr true) else ((g12 n r2.1).bind fun r4=>(g13 n r2.1).bind fun r5=>kr (fA r4.1 r5.1)))
def JY:FS1 β:=FXs (SY n) n TI none (some gR) [] [2,12,13,14,30,62,63]
theorem OY (P:List Z16):JY n (RC P) cx=TW n (fun J=>cx.ret (VE J)) P:=by kernel_rfl
def g3 (P:List Z16):Option (DenR [.dat .bool]):=TW n (fun J=>some (J,())) P
def g3_A:List AK:=[.ro Z13 45]
def TG:List RK:=[.dat .bool]
def TK (d:DenA g3_A):Option (DenR TG):=g3 n d.1
def VX:bG:=bU g3_A TG (TK n)
def UN:Sk:=(.nd (.fin none none (some gR) [] .leaf) (.nd (.nd (.fin none none (some gR) [] .leaf) (.fin none none (some gR) [] .leaf)) (.nd (.fin none none (some gR) [] .leaf) (.nd (.fin none none (some gR) [] .leaf) (.nd (.fin none none (some gR) [] .leaf) (.fin none none (some gR) [] .leaf))))))
theorem TO (s:FState) (cx:Cx β):FX (SY n) n TI UN s cx=JY n s cx:=by kernel_rfl
theorem TP:Fit Tryd.prog 3 (VX n):=
  dA (Γ:=Γ0) (l:=UK n) (n:=n) (sk:=UN) (ts:=[(2,none)]) (fn:=Tryd.f3) (c:=TI) (by kernel_rfl) (by kernel_rfl) (by unfold bA;kernel_rfl) tab_ok ⟨TX n,PC n,PT n,PN n,PB n,trivial⟩ aT (by kernel_rfl) (by kernel_rfl) (Nat.le_of_ble_eq_true (by kernel_rfl)) (Nat.le_of_ble_eq_true (by kernel_rfl)) (by kernel_rfl) (by kernel_rfl)
    (fun d=>(TO n _ _).trans (Eq.trans (b:=JY n (RC d.1) (dP (SY n) TG [(2,none)])) (by kernel_rfl) ((OY n _ d.1).trans (by kernel_rfl))))
end
end
end Go.Proofs.YtfnjlgflbenfoaaDoorHF
