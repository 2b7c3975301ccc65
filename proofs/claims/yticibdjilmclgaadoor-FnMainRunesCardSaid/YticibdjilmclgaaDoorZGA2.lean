import Derived.Test.YticibdjilmclgaaDoorZFT
import Derived.Test.YticibdjilmclgaaDoorZGA0
import Derived.Test.YticibdjilmclgaaDoorZGA1
namespace Go.Proofs.YticibdjilmclgaaDoorZF
noncomputable section
open Go Go.Proofs
set_option linter.unusedVariables false
set_option maxRecDepth 100000
variable {β:Type}
def g8 (M:List Z28):FState:=⟨aG [(0,.sl 0 none false)],aD [(0,.row Z25 81 false M)]⟩
def bR9 (L:List Z28):FState:=⟨aG [(2,.sl 2 none false)],aD [(2,.row Z23 31 true L)]⟩
def ST:List NE:=[.row 2 Z23 31 true]
def AR (y z:List Z28) (F I:Int):FState:=⟨aG [(3,.sl 3 none false),(6,.sl 6 none false),(7,.dat (.int .i64) F),(8,.dat (.int .i64) I)],aD [(3,.row Z23 31 true y),(6,.row Z25 81 false z)]⟩
def DN:List NE:=[.row 3 Z23 31 true,.row 6 Z25 81 false,.keep 7,.keep 8]
def GF (y:List Z28):FState:=⟨aG [(3,.sl 3 none false)],aD [(3,.row Z23 31 true y)]⟩
def yQ:List NE:=[.row 3 Z23 31 true]
def eJ5 (n:Nat):List (Nat×Spec):=[]
section
variable (n:Nat) (cx:Cx β)
def C6:Ctx:={Γ0 with calls:=lkS (eJ5 n)}
def XF:Code:=fb Tryd.f49
def cV7 (n:Nat) (kn:List Z28→List Z28→Int→Int→Option β) (M:List Z28):Option β:=kn [] M (M.length:Int) (0:Int)
def dG4:FS1 β:=FXs (C6 n) n XF (some DN) none [] [2,6,28]
theorem bQ4 (M:List Z28):dG4 n (g8 M) cx=cV7 n (fun y z F I=>cx.nrm (AR y z F I)) M:=by kernel_rfl
def aN7 (n:Nat) (kn:List Z28→List Z28→Int→Int→Option β) (ae:List Z28→Option β) (y z:List Z28) (F I:Int):Option β:=bif (decide (I < F)) then (idx I (z.length:Int)<|cJ (y.length+[((w64 ((rd [(rd z I Z18)] (0:Int) Z18).1)),(rd [(rd z I Z18)] (0:Int) Z18).2)].length)<|kn (y++[((w64 ((rd [(rd z I Z18)] (0:Int) Z18).1)),(rd [(rd z I Z18)] (0:Int) Z18).2)]) z F (w64 (I+1))) else (ae y)
def R7:FS1 β:=FXs (C6 n) n XF (some DN) none [(0,yQ)] [232,466,934,935]
theorem cM5 (y z:List Z28) (F I:Int):R7 n (AR y z F I) cx=aN7 n (fun y z F I=>cx.nrm (AR y z F I)) (fun y=>cx.ex 0 (GF y)) y z F I:=by kernel_rfl
def g49_3L (n:Nat) (ae:List Z28→Option β):Nat→List Z28→List Z28→Int→Int→Option β
  | 0,_,_,_,_=>none
  | m+1,y,z,F,I=>aN7 n (g49_3L n ae m) ae y z F I
def cH4 (ae:List Z28→Option β) (y z:List Z28) (F I:Int):Option β:=g49_3L n ae n y z F I
def cZ4 (s:FState) (cx:Cx β):Option β:=bK (fun again s=>R7 n s {cx with nrm:=again}) n s
theorem aX3 (n:Nat) (cx:Cx β):∀(m:Nat) (y z:List Z28) (F I:Int),bK (fun again s=>R7 n s {cx with nrm:=again}) m (AR y z F I)=g49_3L n (fun y=>cx.ex 0 (GF y)) m y z F I:=by
  intro m
  induction m with
  | zero=>intros;rfl
  | succ m ih=>intros;simp only [bK,g49_3L,cM5,ih]
theorem bH4 (y z:List Z28) (F I:Int):cZ4 n (AR y z F I) cx=cH4 n (fun y=>cx.ex 0 (GF y)) y z F I:=aX3 n cx n y z F I
def cA7 (kn:List Z28→Option β) (y z:List Z28) (F I:Int):Option β:=cH4 n kn y z F I
def bO4 (s:FState) (cx:Cx β):Option β:=cZ4 n s {cx with ex:=fun j s=>bif Nat.beq j 0 then cx.nrm s else cx.ex j s}
theorem cG5 (y z:List Z28) (F I:Int):bO4 n (AR y z F I) cx=cA7 n (fun y=>cx.nrm (GF y)) y z F I:=bH4 n _ y z F I
def cQ2 (n:Nat) (kr:List Z28→Option β) (y:List Z28):Option β:=kr y
def cN5:FS1 β:=FXs (C6 n) n XF none (some ST) [] [30,31]
theorem cR8 (y:List Z28):cN5 n (GF y) cx=cQ2 n (fun L=>cx.ret (bR9 L)) y:=by kernel_rfl
def aH7 (kr:List Z28→Option β) (M:List Z28):Option β:=cV7 n (fun y z F I=>cA7 n (fun y=>cQ2 n kr y) y z F I) M
def PQ (s:FState) (cx:Cx β):Option β:=dG4 n s {cx with nrm:=fun s=>bO4 n s {cx with nrm:=fun s=>cN5 n s cx}}
theorem cW7 (M:List Z28):PQ n (g8 M) cx=aH7 n (fun L=>cx.ret (bR9 L)) M:=by simp only [PQ,aH7,bQ4,cG5,cR8]
def g49 (M:List Z28):Option (DenR [.rw Z23 31]):=aH7 n (fun L=>some (L,())) M
def eF0:List AK:=[.ro Z25 81]
def cT1:List RK:=[.rw Z23 31]
def fD2 (d:DenA eF0):Option (DenR cT1):=g49 n d.1
def bL8:Spec:=aM eF0 cT1 (fD2 n)
def eH3:Sk:=(.nd (.fin none none none [] .leaf) (.nd (.fin none none none [] .leaf) (.nd (.nd (.fin none (some DN) none [] .leaf) (.nd (.nd (.nd (.fin none none none [(0,yQ)] .leaf) (.nd (.fin none none none [(0,yQ)] .leaf) (.nd (.fin none none none [(0,yQ)] .leaf) (.fin none (some DN) none [(0,yQ)] .leaf)))) .leaf) .leaf)) (.nd (.fin none none (some ST) [] .leaf) (.fin none none (some ST) [] .leaf)))))
theorem dU9 (s:FState) (cx:Cx β):FX (C6 n) n XF eH3 s cx=PQ n s cx:=by kernel_rfl
theorem aO8:Fit Tryd.prog 49 (bL8 n):=
  cD (Γ:=Γ0) (l:=eJ5 n) (n:=n) (sk:=eH3) (ts:=[(2,none)]) (fn:=Tryd.f49) (c:=XF) (by kernel_rfl) (by kernel_rfl) (by unfold aO;kernel_rfl) cB trivial aH (by kernel_rfl) (by kernel_rfl) (Nat.le_of_ble_eq_true (by kernel_rfl)) (Nat.le_of_ble_eq_true (by kernel_rfl)) (by kernel_rfl) (by kernel_rfl)
    (fun d=>(dU9 n _ _).trans (Eq.trans (b:=PQ n (g8 d.1) (cG (C6 n) cT1 [(2,none)])) (by kernel_rfl) ((cW7 n _ d.1).trans (by kernel_rfl))))
theorem cW0:dY0 Tryd.prog 52 2:=fun vs w hv=>by
  obtain ⟨C,p1,rfl⟩:=fE7 hv
  refine callsD_of_wpS (fn:=Tryd.f52) (c:=fb Tryd.f52) (by kernel_rfl) (by kernel_rfl) fun c₀ cs hu=>?_
  show Code.wpS Tryd.prog (.seq (nav (fb Tryd.f52) [0]) (.cond (.tmp 3) (nav (fb Tryd.f52) [1,0]) .skip)) _ _ _ _
  apply wpS_seq
  apply wpS_region
  simp [wpOpsS,go_sem,recoverD,hu,Exit.thenS]
  refine wpS_cond (t:=false) (by simp [Act.eval,Array.replicate]) ?_
  simp only [Bool.false_eq_true,if_false]
  refine wpS_of_wp (wp_skip ?_)
  cases c₀
  simp_all [bodyPostS,results]
def dC0 (Y:Z9) (B L:List Int) (v3:Bool):FState:=⟨aG [(0,.dat Z2 Y),(1,.sl 1 none false),(2,.sl 2 none false),(3,.dat .bool v3)],aD [(1,.row (.int .i32) 21 false B),(2,.row (.int .i32) 21 false L)]⟩
def E5 (p8:Z24) (p9:Int):FState:=⟨aG [(8,.ptr 8 0 0),(9,.ptr 9 0 0)],aD [(8,.row Z17 23 true [p8]),(9,.row (.int .i64) 3 true [p9])]⟩
def PP:List NE:=[.ptr 8 Z17 23 true,.ptr 9 (.int .i64) 3 true]
def HB (B L:List Int) (v3:Bool) (p4:Z9) (p8:Z24) (p9:Int):FState:=⟨aG [(1,.sl 1 none false),(2,.sl 2 none false),(3,.dat .bool v3),(4,.ptr 4 0 0),(8,.ptr 8 0 0),(9,.ptr 9 0 0)],aD [(1,.row (.int .i32) 21 false B),(2,.row (.int .i32) 21 false L),(4,.row Z2 54 true [p4]),(8,.row Z17 23 true [p8]),(9,.row (.int .i64) 3 true [p9])]⟩
def ER:List NE:=[.row 1 (.int .i32) 21 false,.row 2 (.int .i32) 21 false,.keep 3,.ptr 4 Z2 54 true,.ptr 8 Z17 23 true,.ptr 9 (.int .i64) 3 true]
def eO1:List (Nat×Spec):=[(49,bL8 n),(50,bV1 n),(53,cC2 n),(54,eP1 n)]
def xJ:Ctx:={Γ0 with calls:=lkS (eO1 n)}
def qO:Code:=fb Tryd.f39
def VE (n:Nat) (kn:List Int→List Int→Bool→Z9→Z24→Int→Option β) (Y:Z9) (B L:List Int) (v3:Bool):Option β:=kn B L v3 Y ([]:List Z28) (0:Int)
def cY3:FS1 β:=FXs (xJ n) n qO (some ER) none [] [2]
theorem cE6 (Y:Z9) (B L:List Int) (v3:Bool):cY3 n (dC0 Y B L v3) cx=VE n (fun B L v3 p4 p8 p9=>cx.nrm (HB B L v3 p4 p8 p9)) Y B L v3:=by kernel_rfl
def C8 (kr:Z24→Int→Option β) (B L:List Int) (v3:Bool) (p4:Z9) (p8:Z24) (p9:Int):Option β:=(g50 n p4).bind fun V=>(g54 n B).bind fun r2=>(g54 n L).bind fun r3=>(g53 n V.1 r2.1 r3.1 v3).bind fun r4=>(g49 n r4.1).bind fun r5=>kr r5.1 (0:Int)
def bK9:FS1 β:=FXs (xJ n) n qO none (some PP) [] [14,15]
theorem dK7 (B L:List Int) (v3:Bool) (p4:Z9) (p8:Z24) (p9:Int):bK9 n (HB B L v3 p4 p8 p9) cx=C8 n (fun p8 p9=>cx.ret (E5 p8 p9)) B L v3 p4 p8 p9:=by kernel_rfl
def g39 (Y:Z9) (B L:List Int) (v3:Bool):Option (DenR [.ro Z23 31,.dat (.int .i64)]):=VE n (fun B L v3 p4 p8 p9=>C8 n (fun p8 p9=>some (p8,(p9,()))) B L v3 p4 p8 p9) Y B L v3
def eC8:List AK:=[.dat Z2,.ro (.int .i32) 21,.ro (.int .i32) 21,.dat .bool]
def XY:List RK:=[.ro Z23 31,.dat (.int .i64)]
def fE6 (d:DenA eC8):Option (DenR XY):=g39 n d.1 d.2.1 d.2.2.1 d.2.2.2.1
def eK9:Spec:=aM eC8 XY (fE6 n)
def eZ0:Sk:=(.fin none (some ER) none [] .leaf)
def J9:Sk:=(.nd (.fin none none (some PP) [] .leaf) (.fin none none (some PP) [] .leaf))
def T3:Sk:=(.fin (some ER) none none [] J9)
theorem dY4 (s:FState) (cx:Cx β):FX (xJ n) n (nav qO [1,1]) J9 s cx=bK9 n s cx:=by kernel_rfl
theorem dR8 (κ:FState→Option β) (B L:List Int) (v3:Bool) (p4:Z9) (p8:Z24) (p9:Int):qR (xJ n) ER (FState.set (HB B L v3 p4 p8 p9) 10 .dead) κ=κ (HB B L v3 p4 p8 p9):=by kernel_rfl
theorem dO7 (B L:List Int) (v3:Bool) (p4:Z9) (p8:Z24) (p9:Int):FX (xJ n) n (nav qO [1,1]) T3 (FState.set (HB B L v3 p4 p8 p9) 10 .dead) cx=C8 n (fun p8 p9=>cx.ret (E5 p8 p9)) B L v3 p4 p8 p9:=
  (cW8 (c:=nav qO [1,1]) (k:=J9) (show nav qO [1,1]= .seq (nav qO [1,1,0]) (nav qO [1,1,1]) by kernel_rfl) rfl).trans ((dR8 n _ B L v3 p4 p8 p9).trans ((dY4 n _ _).trans (dK7 n cx B L v3 p4 p8 p9)))
theorem dO8:Fit Tryd.prog 39 (eK9 n):=
  BP (Γ:=Γ0) (l:=eO1 n) (n:=n) (sk0:=eZ0) (sk1:=T3) (ts:=[(8,some 23),(9,some 3)]) (fn:=Tryd.f39) (c:=qO) (c0:=nav qO [0]) (c1:=nav qO [1,1]) (tm:=10) (g:=52) (k:=2) (by kernel_rfl) (by kernel_rfl) (by kernel_rfl) (by unfold aO;kernel_rfl) cB ⟨aO8 n,aC8 n,aK5 n,dV3 n,trivial⟩ aH (by unfold aO;kernel_rfl) cW0 (by kernel_rfl) (by kernel_rfl) (by kernel_rfl) (Nat.le_of_ble_eq_true (by kernel_rfl)) (Nat.le_of_ble_eq_true (by kernel_rfl)) (Nat.le_of_ble_eq_true (by kernel_rfl)) (by kernel_rfl) (by kernel_rfl)
    (fun d=>Eq.trans (b:=cY3 n (dC0 d.1 d.2.1 d.2.2.1 d.2.2.2.1) ⟨fun s=>FX (xJ n) n (nav qO [1,1]) T3 (FState.set s 10 .dead) (cG (xJ n) XY [(8,some 23),(9,some 3)]),fun _=>none,fun _ _=>none⟩) (by kernel_rfl) ((cE6 n _ d.1 d.2.1 d.2.2.1 d.2.2.2.1).trans (Eq.trans (b:=VE n (fun B L v3 p4 p8 p9=>C8 n (fun p8 p9=>(cG (xJ n) XY [(8,some 23),(9,some 3)]).ret (E5 p8 p9)) B L v3 p4 p8 p9) d.1 d.2.1 d.2.2.1 d.2.2.2.1) (congrArg (fun k_=>VE n k_ d.1 d.2.1 d.2.2.1 d.2.2.2.1) (funext fun B=>(funext fun L=>(funext fun v3=>(funext fun p4=>(funext fun p8=>(funext fun p9=>dO7 n (cG (xJ n) XY [(8,some 23),(9,some 3)]) B L v3 p4 p8 p9))))))) (by kernel_rfl))))
def cY8 (M:List Z28) (J:Int):FState:=⟨aG [(0,.sl 0 none false),(1,.dat (.int .i64) J)],aD [(0,.row Z23 31 false M)]⟩
def eV0 (x4:List Z28):FState:=⟨aG [(4,.sl 4 none false)],aD [(4,.row Z23 31 false x4)]⟩
def sA:List NE:=[.row 4 Z23 31 false]
def eJ2 (n:Nat):List (Nat×Spec):=[]
def bR8:Ctx:={Γ0 with calls:=lkS (eJ2 n)}
def cT2:Code:=fb Tryd.f36
def eI5 (n:Nat) (kr:List Z28→Option β) (M:List Z28) (J:Int):Option β:=bif (J !=(0:Int)) then (kr [((1:Int),(⟨#[0,102,97,117,108,116]⟩:BA)),((1:Int),(⟨#[]⟩:BA))]) else (kr M)
def G5:FS1 β:=FXs (bR8 n) n cT2 none (some sA) [] [2,12,13,14,15]
theorem dJ0 (M:List Z28) (J:Int):G5 n (cY8 M J) cx=eI5 n (fun x4=>cx.ret (eV0 x4)) M J:=by kernel_rfl
def g36 (M:List Z28) (J:Int):Option (DenR [.ro Z23 31]):=eI5 n (fun x4=>some (x4,())) M J
def eG4:List AK:=[.ro Z23 31,.dat (.int .i64)]
def cH0:List RK:=[.ro Z23 31]
def fD5 (d:DenA eG4):Option (DenR cH0):=g36 n d.1 d.2.1
def cF6:Spec:=aM eG4 cH0 (fD5 n)
def eP7:Sk:=(.nd (.fin none none (some sA) [] .leaf) (.nd (.nd (.fin none none (some sA) [] .leaf) (.fin none none (some sA) [] .leaf)) (.nd (.fin none none (some sA) [] .leaf) (.fin none none (some sA) [] .leaf))))
theorem dO4 (s:FState) (cx:Cx β):FX (bR8 n) n cT2 eP7 s cx=G5 n s cx:=by kernel_rfl
theorem aE5:Fit Tryd.prog 36 (cF6 n):=
  cD (Γ:=Γ0) (l:=eJ2 n) (n:=n) (sk:=eP7) (ts:=[(4,none)]) (fn:=Tryd.f36) (c:=cT2) (by kernel_rfl) (by kernel_rfl) (by unfold aO;kernel_rfl) cB trivial aH (by kernel_rfl) (by kernel_rfl) (Nat.le_of_ble_eq_true (by kernel_rfl)) (Nat.le_of_ble_eq_true (by kernel_rfl)) (by kernel_rfl) (by kernel_rfl)
    (fun d=>(dO4 n _ _).trans (Eq.trans (b:=G5 n (cY8 d.1 d.2.1) (cG (bR8 n) cH0 [(4,none)])) (by kernel_rfl) ((dJ0 n _ d.1 d.2.1).trans (by kernel_rfl))))
def cP7 (M B:List Int) (R:Bool):FState:=⟨aG [(0,.sl 0 none false),(1,.sl 1 none false),(2,.dat .bool R)],aD [(0,.row (.int .i32) 21 false M),(1,.row (.int .i32) 21 false B)]⟩
def eX2 (z:List Z28):FState:=⟨aG [(6,.sl 6 none false)],aD [(6,.row Z23 31 false z)]⟩
def wR:List NE:=[.row 6 Z23 31 false]
def eC7:List (Nat×Spec):=[(36,cF6 n),(39,eK9 n)]
def cF0:Ctx:={Γ0 with calls:=lkS (eC7 n)}
def dH9:Code:=fb Tryd.f21
def cX6 (kr:List Z28→Option β) (M B:List Int) (R:Bool):Option β:=(g39 n (false,((0:Int),((0:Int),((0:Nat),((0:Nat),((0:Int),(0:Int))))))) M B R).bind fun V=>(g36 n V.1 V.2.1).bind fun r2=>kr r2.1
def F0:FS1 β:=FXs (cF0 n) n dH9 none (some wR) [] [2,6,14,15]
theorem bX4 (M B:List Int) (R:Bool):F0 n (cP7 M B R) cx=cX6 n (fun z=>cx.ret (eX2 z)) M B R:=by kernel_rfl
def g21 (M B:List Int) (R:Bool):Option (DenR [.ro Z23 31]):=cX6 n (fun z=>some (z,())) M B R
def eC9:List AK:=[.ro (.int .i32) 21,.ro (.int .i32) 21,.dat .bool]
def dF1:List RK:=[.ro Z23 31]
def fD8 (d:DenA eC9):Option (DenR dF1):=g21 n d.1 d.2.1 d.2.2.1
def eF4:Spec:=aM eC9 dF1 (fD8 n)
def eN6:Sk:=(.nd (.fin none none (some wR) [] .leaf) (.nd (.fin none none (some wR) [] .leaf) (.nd (.fin none none (some wR) [] .leaf) (.fin none none (some wR) [] .leaf))))
theorem dO6 (s:FState) (cx:Cx β):FX (cF0 n) n dH9 eN6 s cx=F0 n s cx:=by kernel_rfl
theorem dT1:Fit Tryd.prog 21 (eF4 n):=
  cD (Γ:=Γ0) (l:=eC7 n) (n:=n) (sk:=eN6) (ts:=[(6,none)]) (fn:=Tryd.f21) (c:=dH9) (by kernel_rfl) (by kernel_rfl) (by unfold aO;kernel_rfl) cB ⟨aE5 n,dO8 n,trivial⟩ aH (by kernel_rfl) (by kernel_rfl) (Nat.le_of_ble_eq_true (by kernel_rfl)) (Nat.le_of_ble_eq_true (by kernel_rfl)) (by kernel_rfl) (by kernel_rfl)
    (fun d=>(dO6 n _ _).trans (Eq.trans (b:=F0 n (cP7 d.1 d.2.1 d.2.2.1) (cG (cF0 n) dF1 [(6,none)])) (by kernel_rfl) ((bX4 n _ d.1 d.2.1 d.2.2.1).trans (by kernel_rfl))))
def cB1 (C:Z11) (J R:BA) (v3:Bool):FState:=⟨aG [(0,.ptr 0 0 0),(1,.dat .str J),(2,.dat .str R),(3,.dat .bool v3)],aD [(0,.row Z1 74 false [C])]⟩
def eW8 (X:List Z28):FState:=⟨aG [(8,.sl 8 none false)],aD [(8,.row Z25 81 true X)]⟩
def CX:List NE:=[.row 8 Z25 81 true]
def eI0:List (Nat×Spec):=[(53,cC2 n)]
def cX8:Ctx:={Γ0 with calls:=lkS (eI0 n)}
def bY4:Code:=fb Tryd.f51
def cU5 (kr:List Z28→Option β) (C:Z11) (J R:BA) (v3:Bool):Option β:=kD J<|kD R<|(g53 n C (bP J) (bP R) v3).bind fun V=>kr V.1
def J4:FS1 β:=FXs (cX8 n) n bY4 none (some CX) [] [2,6,7]
theorem bJ8 (C:Z11) (J R:BA) (v3:Bool):J4 n (cB1 C J R v3) cx=cU5 n (fun X=>cx.ret (eW8 X)) C J R v3:=by kernel_rfl
def g51 (C:Z11) (J R:BA) (v3:Bool):Option (DenR [.rw Z25 81]):=cU5 n (fun X=>some (X,())) C J R v3
def eI3:List AK:=[.pro Z1 74,.dat .str,.dat .str,.dat .bool]
def cE1:List RK:=[.rw Z25 81]
def fE5 (d:DenA eI3):Option (DenR cE1):=g51 n d.1 d.2.1 d.2.2.1 d.2.2.2.1
def eR5:Spec:=aM eI3 cE1 (fE5 n)
def eL7:Sk:=(.nd (.fin none none (some CX) [] .leaf) (.nd (.fin none none (some CX) [] .leaf) (.fin none none (some CX) [] .leaf)))
theorem dW3 (s:FState) (cx:Cx β):FX (cX8 n) n bY4 eL7 s cx=J4 n s cx:=by kernel_rfl
theorem dU8:Fit Tryd.prog 51 (eR5 n):=
  cD (Γ:=Γ0) (l:=eI0 n) (n:=n) (sk:=eL7) (ts:=[(8,none)]) (fn:=Tryd.f51) (c:=bY4) (by kernel_rfl) (by kernel_rfl) (by unfold aO;kernel_rfl) cB ⟨aK5 n,trivial⟩ aH (by kernel_rfl) (by kernel_rfl) (Nat.le_of_ble_eq_true (by kernel_rfl)) (Nat.le_of_ble_eq_true (by kernel_rfl)) (by kernel_rfl) (by kernel_rfl)
    (fun d=>(dW3 n _ _).trans (Eq.trans (b:=J4 n (cB1 d.1 d.2.1 d.2.2.1 d.2.2.2.1) (cG (cX8 n) cE1 [(8,none)])) (by kernel_rfl) ((bJ8 n _ d.1 d.2.1 d.2.2.1 d.2.2.2.1).trans (by kernel_rfl))))
theorem cW2:dY0 Tryd.prog 48 2:=fun vs w hv=>by
  obtain ⟨C,p1,rfl⟩:=fE7 hv
  refine callsD_of_wpS (fn:=Tryd.f48) (c:=fb Tryd.f48) (by kernel_rfl) (by kernel_rfl) fun c₀ cs hu=>?_
  show Code.wpS Tryd.prog (.seq (nav (fb Tryd.f48) [0]) (.cond (.tmp 3) (nav (fb Tryd.f48) [1,0]) .skip)) _ _ _ _
  apply wpS_seq
  apply wpS_region
  simp [wpOpsS,go_sem,recoverD,hu,Exit.thenS]
  refine wpS_cond (t:=false) (by simp [Act.eval,Array.replicate]) ?_
  simp only [Bool.false_eq_true,if_false]
  refine wpS_of_wp (wp_skip ?_)
  cases c₀
  simp_all [bodyPostS,results]
def cI8 (Y:Z9) (J R:BA) (v3:Bool):FState:=⟨aG [(0,.dat Z2 Y),(1,.dat .str J),(2,.dat .str R),(3,.dat .bool v3)],aD []⟩
def c9 (p8:Z24) (p9:Int):FState:=⟨aG [(8,.ptr 8 0 0),(9,.ptr 9 0 0)],aD [(8,.row Z17 23 true [p8]),(9,.row (.int .i64) 3 true [p9])]⟩
def UQ:List NE:=[.ptr 8 Z17 23 true,.ptr 9 (.int .i64) 3 true]
def JF (J R:BA) (v3:Bool) (p4:Z9) (p8:Z24) (p9:Int):FState:=⟨aG [(1,.dat .str J),(2,.dat .str R),(3,.dat .bool v3),(4,.ptr 4 0 0),(8,.ptr 8 0 0),(9,.ptr 9 0 0)],aD [(4,.row Z2 54 true [p4]),(8,.row Z17 23 true [p8]),(9,.row (.int .i64) 3 true [p9])]⟩
def DE:List NE:=[.keep 1,.keep 2,.keep 3,.ptr 4 Z2 54 true,.ptr 8 Z17 23 true,.ptr 9 (.int .i64) 3 true]
def eK7:List (Nat×Spec):=[(49,bL8 n),(50,bV1 n),(51,eR5 n)]
def wI:Ctx:={Γ0 with calls:=lkS (eK7 n)}
def qI:Code:=fb Tryd.f35
def VV (n:Nat) (kn:BA→BA→Bool→Z9→Z24→Int→Option β) (Y:Z9) (J R:BA) (v3:Bool):Option β:=kn J R v3 Y ([]:List Z28) (0:Int)
def cX1:FS1 β:=FXs (wI n) n qI (some DE) none [] [2]
theorem cN2 (Y:Z9) (J R:BA) (v3:Bool):cX1 n (cI8 Y J R v3) cx=VV n (fun J R v3 p4 p8 p9=>cx.nrm (JF J R v3 p4 p8 p9)) Y J R v3:=by kernel_rfl
def WR (kr:Z24→Int→Option β) (J R:BA) (v3:Bool) (p4:Z9) (p8:Z24) (p9:Int):Option β:=(g50 n p4).bind fun V=>(g51 n V.1 J R v3).bind fun r2=>(g49 n r2.1).bind fun r3=>kr r3.1 (0:Int)
def cL5:FS1 β:=FXs (wI n) n qI none (some UQ) [] [14,15]
theorem cG0 (J R:BA) (v3:Bool) (p4:Z9) (p8:Z24) (p9:Int):cL5 n (JF J R v3 p4 p8 p9) cx=WR n (fun p8 p9=>cx.ret (c9 p8 p9)) J R v3 p4 p8 p9:=by kernel_rfl
def g35 (Y:Z9) (J R:BA) (v3:Bool):Option (DenR [.ro Z23 31,.dat (.int .i64)]):=VV n (fun J R v3 p4 p8 p9=>WR n (fun p8 p9=>some (p8,(p9,()))) J R v3 p4 p8 p9) Y J R v3
def eK0:List AK:=[.dat Z2,.dat .str,.dat .str,.dat .bool]
def WS:List RK:=[.ro Z23 31,.dat (.int .i64)]
def fH4 (d:DenA eK0):Option (DenR WS):=g35 n d.1 d.2.1 d.2.2.1 d.2.2.2.1
def eF6:Spec:=aM eK0 WS (fH4 n)
def eV8:Sk:=(.fin none (some DE) none [] .leaf)
def d6:Sk:=(.nd (.fin none none (some UQ) [] .leaf) (.fin none none (some UQ) [] .leaf))
def Q1:Sk:=(.fin (some DE) none none [] d6)
theorem dU0 (s:FState) (cx:Cx β):FX (wI n) n (nav qI [1,1]) d6 s cx=cL5 n s cx:=by kernel_rfl
theorem dQ4 (κ:FState→Option β) (J R:BA) (v3:Bool) (p4:Z9) (p8:Z24) (p9:Int):qR (wI n) DE (FState.set (JF J R v3 p4 p8 p9) 10 .dead) κ=κ (JF J R v3 p4 p8 p9):=by kernel_rfl
theorem dT7 (J R:BA) (v3:Bool) (p4:Z9) (p8:Z24) (p9:Int):FX (wI n) n (nav qI [1,1]) Q1 (FState.set (JF J R v3 p4 p8 p9) 10 .dead) cx=WR n (fun p8 p9=>cx.ret (c9 p8 p9)) J R v3 p4 p8 p9:=
  (cW8 (c:=nav qI [1,1]) (k:=d6) (show nav qI [1,1]= .seq (nav qI [1,1,0]) (nav qI [1,1,1]) by kernel_rfl) rfl).trans ((dQ4 n _ J R v3 p4 p8 p9).trans ((dU0 n _ _).trans (cG0 n cx J R v3 p4 p8 p9)))
theorem dW7:Fit Tryd.prog 35 (eF6 n):=
  BP (Γ:=Γ0) (l:=eK7 n) (n:=n) (sk0:=eV8) (sk1:=Q1) (ts:=[(8,some 23),(9,some 3)]) (fn:=Tryd.f35) (c:=qI) (c0:=nav qI [0]) (c1:=nav qI [1,1]) (tm:=10) (g:=48) (k:=2) (by kernel_rfl) (by kernel_rfl) (by kernel_rfl) (by unfold aO;kernel_rfl) cB ⟨aO8 n,aC8 n,dU8 n,trivial⟩ aH (by unfold aO;kernel_rfl) cW2 (by kernel_rfl) (by kernel_rfl) (by kernel_rfl) (Nat.le_of_ble_eq_true (by kernel_rfl)) (Nat.le_of_ble_eq_true (by kernel_rfl)) (Nat.le_of_ble_eq_true (by kernel_rfl)) (by kernel_rfl) (by kernel_rfl)
    (fun d=>Eq.trans (b:=cX1 n (cI8 d.1 d.2.1 d.2.2.1 d.2.2.2.1) ⟨fun s=>FX (wI n) n (nav qI [1,1]) Q1 (FState.set s 10 .dead) (cG (wI n) WS [(8,some 23),(9,some 3)]),fun _=>none,fun _ _=>none⟩) (by kernel_rfl) ((cN2 n _ d.1 d.2.1 d.2.2.1 d.2.2.2.1).trans (Eq.trans (b:=VV n (fun J R v3 p4 p8 p9=>WR n (fun p8 p9=>(cG (wI n) WS [(8,some 23),(9,some 3)]).ret (c9 p8 p9)) J R v3 p4 p8 p9) d.1 d.2.1 d.2.2.1 d.2.2.2.1) (congrArg (fun k_=>VV n k_ d.1 d.2.1 d.2.2.1 d.2.2.2.1) (funext fun J=>(funext fun R=>(funext fun v3=>(funext fun p4=>(funext fun p8=>(funext fun p9=>dT7 n (cG (wI n) WS [(8,some 23),(9,some 3)]) J R v3 p4 p8 p9))))))) (by kernel_rfl))))
def bN4 (Y J:BA) (R:Bool):FState:=⟨aG [(0,.dat .str Y),(1,.dat .str J),(2,.dat .bool R)],aD []⟩
def eW2 (z:List Z28):FState:=⟨aG [(6,.sl 6 none false)],aD [(6,.row Z23 31 false z)]⟩
def wO:List NE:=[.row 6 Z23 31 false]
def eI1:List (Nat×Spec):=[(35,eF6 n),(36,cF6 n)]
def dE9:Ctx:={Γ0 with calls:=lkS (eI1 n)}
def bV5:Code:=fb Tryd.f14
def dM8 (kr:List Z28→Option β) (Y J:BA) (R:Bool):Option β:=(g35 n (false,((0:Int),((0:Int),((0:Nat),((0:Nat),((0:Int),(0:Int))))))) Y J R).bind fun V=>(g36 n V.1 V.2.1).bind fun r2=>kr r2.1
def T1:FS1 β:=FXs (dE9 n) n bV5 none (some wO) [] [2,6,14,15]
theorem bZ0 (Y J:BA) (R:Bool):T1 n (bN4 Y J R) cx=dM8 n (fun z=>cx.ret (eW2 z)) Y J R:=by kernel_rfl
def g14 (Y J:BA) (R:Bool):Option (DenR [.ro Z23 31]):=dM8 n (fun z=>some (z,())) Y J R
def eH0:List AK:=[.dat .str,.dat .str,.dat .bool]
def cL3:List RK:=[.ro Z23 31]
def fC4 (d:DenA eH0):Option (DenR cL3):=g14 n d.1 d.2.1 d.2.2.1
def eR9:Spec:=aM eH0 cL3 (fC4 n)
def eI4:Sk:=(.nd (.fin none none (some wO) [] .leaf) (.nd (.fin none none (some wO) [] .leaf) (.nd (.fin none none (some wO) [] .leaf) (.fin none none (some wO) [] .leaf))))
theorem dZ7 (s:FState) (cx:Cx β):FX (dE9 n) n bV5 eI4 s cx=T1 n s cx:=by kernel_rfl
theorem dX2:Fit Tryd.prog 14 (eR9 n):=
  cD (Γ:=Γ0) (l:=eI1 n) (n:=n) (sk:=eI4) (ts:=[(6,none)]) (fn:=Tryd.f14) (c:=bV5) (by kernel_rfl) (by kernel_rfl) (by unfold aO;kernel_rfl) cB ⟨dW7 n,aE5 n,trivial⟩ aH (by kernel_rfl) (by kernel_rfl) (Nat.le_of_ble_eq_true (by kernel_rfl)) (Nat.le_of_ble_eq_true (by kernel_rfl)) (by kernel_rfl) (by kernel_rfl)
    (fun d=>(dZ7 n _ _).trans (Eq.trans (b:=T1 n (bN4 d.1 d.2.1 d.2.2.1) (cG (dE9 n) cL3 [(6,none)])) (by kernel_rfl) ((bZ0 n _ d.1 d.2.1 d.2.2.1).trans (by kernel_rfl))))
def M9 (M B:List Z28):FState:=⟨aG [(0,.sl 0 none false),(1,.sl 1 none false)],aD [(0,.row Z23 31 false M),(1,.row Z23 31 false B)]⟩
def uV (v4:Bool):FState:=⟨aG [(4,.dat .bool v4)],aD []⟩
def iX:List NE:=[.keep 4]
def AY (M B:List Z28) (N Z:Int):FState:=⟨aG [(0,.sl 0 none false),(1,.sl 1 none false),(12,.dat (.int .i64) N),(13,.dat (.int .i64) Z)],aD [(0,.row Z23 31 false M),(1,.row Z23 31 false B)]⟩
def CV:List NE:=[.row 0 Z23 31 false,.row 1 Z23 31 false,.keep 12,.keep 13]
def JK:FState:=⟨aG [],aD []⟩
def wC:List NE:=[]
def eA9 (n:Nat):List (Nat×Spec):=[]
def YD:Ctx:={Γ0 with calls:=lkS (eA9 n)}
def XK:Code:=fb Tryd.f22
def cL2 (n:Nat) (kn:List Z28→List Z28→Int→Int→Option β) (kr:Bool→Option β) (M B:List Z28):Option β:=bif ((M.length:Int)!=(B.length:Int)) then (kr false) else (kn M B (M.length:Int) (0:Int))
def bZ3:FS1 β:=FXs (YD n) n XK (some CV) (some iX) [] [2,12,13,28]
theorem bR7 (M B:List Z28):bZ3 n (M9 M B) cx=cL2 n (fun M B N Z=>cx.nrm (AY M B N Z)) (fun v4=>cx.ret (uV v4)) M B:=by kernel_rfl
def aN1 (n:Nat) (kn:List Z28→List Z28→Int→Int→Option β) (kr:Bool→Option β) (ae:Option β) (M B:List Z28) (N Z:Int):Option β:=bif (decide (Z < N)) then (idx Z (M.length:Int)<|idx Z (B.length:Int)<|bif (!(((rd M Z Z18).1==(rd B Z Z18).1)&&(dY ((rd M Z Z18).2) ((rd B Z Z18).2)))) then (kr false) else (kn M B N (w64 (Z+1)))) else ae
def d8:FS1 β:=FXs (YD n) n XK (some CV) (some iX) [(0,wC)] [232,466,934,935]
theorem bK0 (M B:List Z28) (N Z:Int):d8 n (AY M B N Z) cx=aN1 n (fun M B N Z=>cx.nrm (AY M B N Z)) (fun v4=>cx.ret (uV v4)) (cx.ex 0 JK) M B N Z:=by kernel_rfl
def g22_3L (n:Nat) (kr:Bool→Option β) (ae:Option β):Nat→List Z28→List Z28→Int→Int→Option β
  | 0,_,_,_,_=>none
  | m+1,M,B,N,Z=>aN1 n (g22_3L n kr ae m) kr ae M B N Z
def eQ6 (kr:Bool→Option β) (ae:Option β) (M B:List Z28) (N Z:Int):Option β:=g22_3L n kr ae n M B N Z
def cD4 (s:FState) (cx:Cx β):Option β:=bK (fun again s=>d8 n s {cx with nrm:=again}) n s
theorem aR6 (n:Nat) (cx:Cx β):∀(m:Nat) (M B:List Z28) (N Z:Int),bK (fun again s=>d8 n s {cx with nrm:=again}) m (AY M B N Z)=g22_3L n (fun v4=>cx.ret (uV v4)) (cx.ex 0 JK) m M B N Z:=by
  intro m
  induction m with
  | zero=>intros;rfl
  | succ m ih=>intros;simp only [bK,g22_3L,bK0,ih]
theorem cR7 (M B:List Z28) (N Z:Int):cD4 n (AY M B N Z) cx=eQ6 n (fun v4=>cx.ret (uV v4)) (cx.ex 0 JK) M B N Z:=aR6 n cx n M B N Z
def eO7 (kn:Option β) (kr:Bool→Option β) (M B:List Z28) (N Z:Int):Option β:=eQ6 n kr kn M B N Z
def bQ8 (s:FState) (cx:Cx β):Option β:=cD4 n s {cx with ex:=fun j s=>bif Nat.beq j 0 then cx.nrm s else cx.ex j s}
theorem cR9 (M B:List Z28) (N Z:Int):bQ8 n (AY M B N Z) cx=eO7 n (cx.nrm JK) (fun v4=>cx.ret (uV v4)) M B N Z:=cR7 n _ M B N Z
def XO (n:Nat) (kr:Bool→Option β):Option β:=kr true
def cJ1:FS1 β:=FXs (YD n) n XK none (some iX) [] [30,31]
theorem bT6:cJ1 n JK cx=XO n (fun v4=>cx.ret (uV v4)):=by kernel_rfl
def aK2 (kr:Bool→Option β) (M B:List Z28):Option β:=cL2 n (fun M B N Z=>eO7 n (XO n kr) kr M B N Z) kr M B
def PB (s:FState) (cx:Cx β):Option β:=bZ3 n s {cx with nrm:=fun s=>bQ8 n s {cx with nrm:=fun s=>cJ1 n s cx}}
theorem bL1 (M B:List Z28):PB n (M9 M B) cx=aK2 n (fun v4=>cx.ret (uV v4)) M B:=by simp only [PB,aK2,bR7,cR9,bT6]
def g22 (M B:List Z28):Option (DenR [.dat .bool]):=aK2 n (fun v4=>some (v4,())) M B
def eA7:List AK:=[.ro Z23 31,.ro Z23 31]
def cD7:List RK:=[.dat .bool]
def fG4 (d:DenA eA7):Option (DenR cD7):=g22 n d.1 d.2.1
def eL1:Spec:=aM eA7 cD7 (fG4 n)
def eA0:Sk:=(.nd (.fin none none (some iX) [] .leaf) (.nd (.nd (.fin none none (some iX) [] .leaf) (.fin none none (some iX) [] .leaf)) (.nd (.nd (.fin none (some CV) (some iX) [] .leaf) (.nd (.nd (.nd (.fin none none (some iX) [(0,wC)] .leaf) (.nd (.fin none none (some iX) [(0,wC)] .leaf) (.nd (.fin none none (some iX) [(0,wC)] .leaf) (.fin none (some CV) (some iX) [(0,wC)] .leaf)))) .leaf) .leaf)) (.nd (.fin none none (some iX) [] .leaf) (.fin none none (some iX) [] .leaf)))))
theorem dW5 (s:FState) (cx:Cx β):FX (YD n) n XK eA0 s cx=PB n s cx:=by kernel_rfl
theorem dR2:Fit Tryd.prog 22 (eL1 n):=
  cD (Γ:=Γ0) (l:=eA9 n) (n:=n) (sk:=eA0) (ts:=[(4,none)]) (fn:=Tryd.f22) (c:=XK) (by kernel_rfl) (by kernel_rfl) (by unfold aO;kernel_rfl) cB trivial aH (by kernel_rfl) (by kernel_rfl) (Nat.le_of_ble_eq_true (by kernel_rfl)) (Nat.le_of_ble_eq_true (by kernel_rfl)) (by kernel_rfl) (by kernel_rfl)
    (fun d=>(dW5 n _ _).trans (Eq.trans (b:=PB n (M9 d.1 d.2.1) (cG (YD n) cD7 [(4,none)])) (by kernel_rfl) ((bL1 n _ d.1 d.2.1).trans (by kernel_rfl))))
def eQ4 (Y J:BA) (R:Bool):FState:=⟨aG [(0,.dat .str Y),(1,.dat .str J),(2,.dat .bool R)],aD []⟩
def fH1 (T:Bool):FState:=⟨aG [(6,.dat .bool T)],aD []⟩
def qV:List NE:=[.keep 6]
def fA3:List (Nat×Spec):=[(13,eE7 n),(14,eR9 n),(20,cN0 n),(21,eF4 n),(22,eL1 n)]
def eZ1:Ctx:={Γ0 with calls:=lkS (fA3 n)}
def eW4:Code:=fb Tryd.f6
def eY6 (kr:Bool→Option β) (Y J:BA) (R:Bool):Option β:=bif (decide ((Y.size:Int)>(2147483647:Int))) then (kr true) else (bif (decide ((J.size:Int)>(2147483647:Int))) then (kr true) else ((g13 n Y (200:Int)).bind fun V=>(g13 n J (200:Int)).bind fun r2=>(g20 n V.1).bind fun r3=>(g20 n r2.1).bind fun r4=>(g21 n r3.1 r4.1 R).bind fun r5=>(g14 n V.1 r2.1 R).bind fun r6=>(g22 n r5.1 r6.1).bind fun r7=>bif r7.1 then (bif (decide ((r5.1.length:Int)>(0:Int))) then (kr true) else (cJ (V.1.size+r2.1.size)<|kr (dY (V.1++r2.1) (⟨#[]⟩:BA)))) else (kr false)))
def bX1:FS1 β:=FXs (eZ1 n) n eW4 none (some qV) [] [2,12,13,14,30,62,63]
theorem dR0 (Y J:BA) (R:Bool):bX1 n (eQ4 Y J R) cx=eY6 n (fun T=>cx.ret (fH1 T)) Y J R:=by kernel_rfl
def g6 (Y J:BA) (R:Bool):Option (DenR [.dat .bool]):=eY6 n (fun T=>some (T,())) Y J R
def g6_A:List AK:=[.dat .str,.dat .str,.dat .bool]
def eX8:List RK:=[.dat .bool]
def eU3 (d:DenA g6_A):Option (DenR eX8):=g6 n d.1 d.2.1 d.2.2.1
def fI0:Spec:=aM g6_A eX8 (eU3 n)
def fA7:Sk:=(.nd (.fin none none (some qV) [] .leaf) (.nd (.nd (.fin none none (some qV) [] .leaf) (.fin none none (some qV) [] .leaf)) (.nd (.fin none none (some qV) [] .leaf) (.nd (.fin none none (some qV) [] .leaf) (.nd (.fin none none (some qV) [] .leaf) (.fin none none (some qV) [] .leaf))))))
theorem eY1 (s:FState) (cx:Cx β):FX (eZ1 n) n eW4 fA7 s cx=bX1 n s cx:=by kernel_rfl
theorem eT0:Fit Tryd.prog 6 (fI0 n):=
  cD (Γ:=Γ0) (l:=fA3 n) (n:=n) (sk:=fA7) (ts:=[(6,none)]) (fn:=Tryd.f6) (c:=eW4) (by kernel_rfl) (by kernel_rfl) (by unfold aO;kernel_rfl) cB ⟨dU5 n,dX2 n,t7 n,dT1 n,dR2 n,trivial⟩ aH (by kernel_rfl) (by kernel_rfl) (Nat.le_of_ble_eq_true (by kernel_rfl)) (Nat.le_of_ble_eq_true (by kernel_rfl)) (by kernel_rfl) (by kernel_rfl)
    (fun d=>(eY1 n _ _).trans (Eq.trans (b:=bX1 n (eQ4 d.1 d.2.1 d.2.2.1) (cG (eZ1 n) eX8 [(6,none)])) (by kernel_rfl) ((dR0 n _ d.1 d.2.1 d.2.2.1).trans (by kernel_rfl))))
end
end
end Go.Proofs.YticibdjilmclgaaDoorZF
