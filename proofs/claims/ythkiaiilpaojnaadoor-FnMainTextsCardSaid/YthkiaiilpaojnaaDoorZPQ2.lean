/- Plain statements about the printed functions. -/
import Derived.Test.YthkiaiilpaojnaaDoorZPQ0
import Derived.Test.YthkiaiilpaojnaaDoorZPQ1
import Derived.Test.YthkiaiilpaojnaaDoorZGA0
import Derived.Test.YthkiaiilpaojnaaDoorZFB
import Derived.Test.YthkiaiilpaojnaaDoorZGA2
namespace Go.Proofs.YthkiaiilpaojnaaDoorZF
open Go
set_option linter.unusedVariables false
set_option linter.unusedSimpArgs false
theorem cT2 {α γ:Type} (xs:List α) (f:α→γ) (e:γ) (i:Nat) (hi:i < xs.length):((xs.take i).map f++List.replicate (xs.length - i) e).set i (f xs[i])=(xs.take (i+1)).map f++List.replicate (xs.length - (i+1)) e:=by
 have hl:((xs.take i).map f).length=i:=by rw [List.length_map,List.length_take];omega
 obtain ⟨k,hk⟩:∃k,xs.length - i=k+1:=⟨xs.length - i - 1,by omega⟩
 rw [List.set_append_right _ _ (by omega),hl,Nat.sub_self,hk,List.replicate_succ,List.set_cons_zero,List.take_succ_eq_append_getElem hi,List.map_append,List.append_assoc,show xs.length - (i+1)=k by omega]
 rfl
def lns (arr:List BA) (js:List Nat):List BA:=js.map fun j=>arr.getD j (⟨#[]⟩:BA)
theorem aU2 (arr:List BA) (js:List Nat):(lns arr js).length=js.length:=by simp [lns]
theorem Pts.lns {arr:List BA} {js:List Nat} {L:List BA} (h:Pts arr js L):lns arr js=L:=by
 have e:(Go.Proofs.YthkiaiilpaojnaaDoorZF.lns arr js).map some=L.map some:=by
  rw [←show js.map (fun j=>arr[j]?)=L.map some from h]
  unfold Go.Proofs.YthkiaiilpaojnaaDoorZF.lns
  rw [List.map_map]
  refine List.map_congr_left fun j hj=>?_
  have hlt:=h.lt j hj
  show some (arr.getD j _)=arr[j]?
  rw [List.getD_eq_getElem?_getD,List.getElem?_eq_getElem hlt];rfl
 exact (List.map_inj_right (fun a b hab=>Option.some.inj hab)).1 e
theorem eE9 (n:Nat) (xs:List BA) (hl:xs.length≤1000000000) (hs:(cat xs).size≤1000000000):eL3 n xs (⟨#[]⟩:BA)=some (cat xs,()):=by
 unfold eL3
 have h:(Lib.join (xs.map (·.data.toList)) (⟨#[]⟩:BA).data.toList).length=(cat xs).size:=rfl
 rw [if_pos ⟨by omega,by rw [h];omega⟩]
 rfl
section
variable {n:Nat}
theorem fI3 (hB:(4611686018427387904:Nat)≤n) {β:Type} (kx2) (arr:List BA) (ha:arr.length≤1110016) (s p x17 v18 v19) (js:List Nat) (hl:js.length≤1000000) (hj:∀j∈js,j < arr.length) (M:Nat) (hM:js.length < M):
  g111_5L (β:=β) n kx2 M arr s p (List.replicate js.length (⟨#[]⟩:BA)) x17 v18 v19 (chs js) ((chs js).length:Int) 0=kx2 arr s p (lns arr js) x17 v18 v19:=by
 have hc:=lC js
 have key:∀(d i m:Nat),js.length - i=d→d < m→i≤js.length→g111_5L (β:=β) n kx2 m arr s p ((js.take i).map (fun j=>arr.getD j (⟨#[]⟩:BA))++List.replicate (js.length - i) (⟨#[]⟩:BA)) x17 v18 v19 (chs js) ((chs js).length:Int) (i:Int)=kx2 arr s p (lns arr js) x17 v18 v19:=by
  intro d
  induction d with
  | zero=>
   intro i m hd hm hi
   obtain ⟨m,rfl⟩:∃m',m=m'+1:=⟨m - 1,by omega⟩
   rw [g111_5L.eq_2,RB,bdF (by omega),List.take_of_length_le (by omega),hd,List.replicate_zero,List.append_nil]
   rfl
  | succ d ih=>
   intro i m hd hm hi
   obtain ⟨m,rfl⟩:∃m',m=m'+1:=⟨m - 1,by omega⟩
   have hi':i < js.length:=by omega
   have hI:i < (chs js).length:=by omega
   have hg:(chs js)[i]=(ofN js[i]:Int):=List.getElem_map _
   have hlt:=hj js[i] (by simp)
   have hv:=PE (v:=js[i]) (by omega)
   have next:=ih (i+1) m (by omega) (by omega) (by omega)
   have hrt:cR9 n (ofN js[i]:Int)=some ((js[i]:Int),()):=by rw [TK n (ofN js[i]) (by omega),QH (by omega)]
   have hsz:((js.take i).map (fun j=>arr.getD j (⟨#[]⟩:BA))++List.replicate (js.length - i) (⟨#[]⟩:BA)).length=js.length:=by simp;omega
   rw [g111_5L.eq_2,RB,bdT (by omega),aQ (by omega) (by omega),oZ hI,hg,aX hrt]
   simp only
   rw [aQ (by omega) (by omega),aQ (by omega) (by omega),oZ hlt,Int.toNat_natCast,aG (by omega) (by omega)]
   have hf:arr[js[i]]=(fun j=>arr.getD j (⟨#[]⟩:BA)) js[i]:=by
    show _=arr.getD js[i] _
    rw [List.getD_eq_getElem?_getD,List.getElem?_eq_getElem hlt];rfl
   rw [hf,cT2 js (fun j=>arr.getD j (⟨#[]⟩:BA)) (⟨#[]⟩:BA) i hi',show (i:Int)+1=((i+1:Nat):Int) by omega]
   exact next
 exact key js.length 0 M (by omega) hM (by omega)
theorem eW3 (hn:Big≤n) (p0) (arr:List BA) (ha:arr.length≤1110016) (DL:List (Int×List Nat)) (hD:DL.length≤1000000) (hd:∀d∈DL,d.2.length≤1000000∧(∀j∈d.2,j < arr.length)∧(cat (lns arr d.2)).size≤1000000000):
  dK2 n p0 (DL.map fun d=>(d.1,enc (chs d.2))) arr=some (DL.map fun d=>(d.1,cat (lns arr d.2)),()):=by
 have hB:(4611686018427387904:Nat)≤n:=hn
 have hlm:(DL.map fun d=>(d.1,enc (chs d.2))).length=DL.length:=List.length_map _
 dsimp only [dK2,FL,aC2,YM,XO,UJ]
 rw [bF (by omega) (by omega) (by omega),rK (by omega)]
 have e:=wO DL (fun m s i=>g111_12L n (fun x6=>some (x6,())) m arr s (DL.map fun d=>(d.1,enc (chs d.2))) ((DL.map fun d=>(d.1,enc (chs d.2))).length:Int) (i:Int)) (fun s=>some (s,())) (fun s d=>s++[(d.1,cat (lns arr d.2))]) (fun i s=>s.length=i)
  (fun m s i hi hs=>by
   refine ⟨?_,by simp [hs]⟩
   have hI:i < (DL.map fun d=>(d.1,enc (chs d.2))).length:=by omega
   have hg:(DL.map fun d=>(d.1,enc (chs d.2)))[i]=(DL[i].1,enc (chs DL[i].2)):=List.getElem_map _
   obtain ⟨h1,h2,h3⟩:=hd DL[i] (by simp)
   have hc:=lC DL[i].2
   have hv:Valids (chs DL[i].2):=pP fun j hj=>by have:=h2 j hj;omega
   have hsz:=aV (chs DL[i].2)
   rw [g111_12L.eq_2,xO,UR,bdT (by omega)]
   dsimp only [X9,VJ,V7,XH,aU0,Y5]
   rw [aQ (by omega) (by omega)]
   simp only [zI,oZ hI,hg]
   rw [gP hv,fT (by omega),bF (by omega) (by omega) (by omega),rK (by omega),Int.toNat_natCast,hc,←hc]
   rw [show List.replicate (chs DL[i].2).length (⟨#[]⟩:BA)=List.replicate DL[i].2.length (⟨#[]⟩:BA) by rw [hc]]
   rw [fI3 hB _ arr ha _ _ _ _ _ DL[i].2 h1 h2 n (by omega)]
   dsimp only [aF4]
   rw [eE9 n (lns arr DL[i].2) (by rw [aU2];omega) h3,Option.bind_some,cB (by simp only [List.length_cons,List.length_nil];omega),aG (by omega) (by omega)]
   rfl)
  (fun m s hs=>by rw [g111_12L.eq_2,xO,UR,bdF (by omega)]) n [] (by omega) rfl
 refine Eq.trans e ?_
 have hf:∀(l:List (Int×List Nat)) (s:List Prt),l.foldl (fun s d=>s++[(d.1,cat (lns arr d.2))]) s=s++l.map fun d=>(d.1,cat (lns arr d.2)):=by
  intro l
  induction l with
  | nil=>intro s;simp
  | cons x l ih=>intro s;rw [List.foldl_cons,ih];simp
 rw [hf];rfl
end
theorem rZ (z:BA):aF z=(bl z).map fun b=>(b.toNat:Int):=rfl
theorem cU0 {r:Int} (hv:Utf8.valid r=true) (h:r≠10):∀b∈bl (Utf8.encode r),b.toNat≠10:=by
 obtain ⟨f,t,e,hf,ht⟩:=pM r
 intro b hb hb10
 rw [e] at hb
 rcases List.mem_cons.1 hb with rfl | hb
 ·have hd:=kC r [] (⟨#[]⟩:BA) hv
  have hbl:bl (enc [r]++(⟨#[]⟩:BA))=b::t:=by
   rw [dB,dA,e];simp [oF,bl]
  have hs:(0:Int) < ((enc [r]++(⟨#[]⟩:BA)).size:Int):=by
   rw [←lD,hbl];simp
  have h0:dY (enc [r]++(⟨#[]⟩:BA)) 0=10:=by
   rw [pH (by omega) hs,rZ,hbl]
   show ((b.toNat:Nat):Int)=10
   omega
  have h0':((enc [r]++(⟨#[]⟩:BA)).get! 0).toNat=10:=by
   have:(((enc [r]++(⟨#[]⟩:BA)).get! 0).toNat:Int)=10:=h0
   omega
  have:=VK _ 0 10 h0' (by decide)
  rw [hd] at this
  have h1:r.toNat=10:=congrArg Prod.fst this
  have:=fX hv
  omega
 ·have:=(ht b hb).1;omega
theorem fC1:∀{w:List Int},Valids w→(10:Int)∉w→∀b∈aF (enc w),b≠10
 | [],_,_,b,hb=>by simp [oF,aF] at hb
 | r::w,hv,h,b,hb=>by
  rw [rZ,dA,List.map_append,←rZ (enc w)] at hb
  rcases List.mem_append.1 hb with hb | hb
  ·obtain ⟨x,hx,rfl⟩:=List.mem_map.1 hb
   have:=cU0 hv.cons.1 (fun e=>h (by simp [e])) x hx
   omega
  ·exact fC1 hv.cons.2 (fun hm=>h (by simp [hm])) b hb
def rln:List Int→List Int×List Int
 | []=>([],[])
 | c::t=>if c=10 then ([10],t) else (c::(rln t).1,(rln t).2)
theorem yV:∀q:List Int,(rln q).1++(rln q).2=q∧(q≠[]→(rln q).1≠[])∧((∃w,(rln q).1=w++[10]∧(10:Int)∉w)∨((10:Int)∉(rln q).1∧(rln q).2=[]))
 | []=>⟨rfl,fun h=>absurd rfl h,.inr ⟨by simp [rln],rfl⟩⟩
 | c::t=>by
  obtain ⟨h1,h2,h3⟩:=yV t
  unfold rln
  by_cases e:c=10
  ·subst e
   rw [if_pos rfl]
   exact ⟨rfl,fun _=>by simp,.inl ⟨[],rfl,by simp⟩⟩
  ·rw [if_neg e]
   refine ⟨by simp [h1],fun _=>by simp,?_⟩
   rcases h3 with ⟨w,hw,hn⟩ | ⟨hn,h0⟩
   ·exact .inl ⟨c::w,by simp [hw],by simp [hn];exact fun h=>e h.symm⟩
   ·exact .inr ⟨by simp [hn];exact fun h=>e h.symm,h0⟩
def VB:Nat→List Int→List (List Int)
 | 0,_=>[]
 | n+1,q=>if q=[] then [] else (rln q).1::VB n (rln q).2
def rls (q:List Int):List (List Int):=VB q.length q
theorem MQ (p u v:List Int) (j:Nat) (h1:(enc p).size≤j) (h2:j < (enc p).size+(enc u).size):dY (enc (p++(u++v))) (j:Int)=rd (aF (enc u)) ((j - (enc p).size:Nat):Int) 0:=by
 have hsz:(enc (p++(u++v))).size=(enc p).size+((enc u).size+(enc v).size):=by rw [cE,cE]
 rw [pH (by omega) (by omega),aY,bL,aY,bL,mI,mI,List.getD_eq_getElem?_getD,List.getD_eq_getElem?_getD,List.getElem?_append_right (by rw [aO];omega),List.getElem?_append_left (by rw [aO,aO];omega),aO]
theorem dQ8 (p u v:List Int) (hp:Valids p) (hu:Valids u) (hv:Valids v) (hne:u≠[]) (h:(∃w,u=w++[10]∧(10:Int)∉w)∨((10:Int)∉u∧v=[])):fF (enc (p++(u++v))) (enc p).size=(enc p).size+(enc u).size:=by
 have hpos:0 < (enc u).size:=by
  rcases Nat.eq_zero_or_pos (enc u).size with h0 | h0
  ·exact absurd (enc_size_zero.1 h0) hne
  ·exact h0
 have hsz:(enc (p++(u++v))).size=(enc p).size+((enc u).size+(enc v).size):=by rw [cE,cE]
 have hmem:∀j:Nat,j < (aF (enc u)).length→rd (aF (enc u)) (j:Int) 0∈aF (enc u):=fun j hj=>by
  rw [vN (by omega) (by omega)];exact List.getElem_mem _
 refine xL ⟨by omega,by omega,fun j hj hj2=>?_,?_⟩
 ·rw [MQ p u v j hj (by omega)]
  rcases h with ⟨w,rfl,hn⟩ | ⟨hn,rfl⟩
  ·have e10:aF (enc ([10]:List Int))=[10]:=by rfl
   have hs:(enc (w++[10])).size=(enc w).size+1:=by rw [cE];rfl
   rw [aY,bL,mI,List.getD_eq_getElem?_getD,List.getElem?_append_left (by rw [aO];omega)]
   have hj3:j - (enc p).size < (aF (enc w)).length:=by rw [aO];omega
   rw [List.getElem?_eq_getElem hj3]
   exact fC1 (fun x hx=>hu x (by simp [hx])) hn _ (List.getElem_mem _)
  ·exact fC1 hu hn _ (hmem _ (by rw [aO];omega))
 ·rcases h with ⟨w,rfl,hn⟩ | ⟨hn,rfl⟩
  ·left
   have hs:(enc (w++[10])).size=(enc w).size+1:=by rw [cE];rfl
   have eb:aF (enc (w++[10]))=aF (enc w)++[10]:=by rw [aY,bL];rfl
   rw [MQ p _ v _ (by omega) (by omega),eb,mI,List.getD_eq_getElem?_getD,List.getElem?_append_right (by rw [aO];omega),aO,show (enc p).size+(enc (w++[10])).size - 1 - (enc p).size - (enc w).size=0 by omega]
   rfl
  ·right
   rw [hsz,oF];rfl
theorem cC5:∀(n:Nat) (p q:List Int),q.length≤n→Valids p→Valids q→eN (enc (p++q)) (enc p).size=(VB n q).map enc:=by
 intro n
 induction n with
 | zero=>
  intro p q hq hp hv
  obtain rfl:q=[]:=List.length_eq_zero_iff.1 (by omega)
  rw [List.append_nil,oH (Nat.le_refl _)]
  rfl
 | succ n ih=>
  intro p q hq hp hv
  unfold VB
  by_cases e:q=[]
  ·subst e
   rw [if_pos rfl,List.append_nil,oH (Nat.le_refl _)]
   rfl
  ·obtain ⟨h1,h2,h3⟩:=yV q
   have hu2:=h2 e
   have hsplit:p++q=p++((rln q).1++(rln q).2):=by rw [h1]
   have hvu:Valids (rln q).1:=fun x hx=>hv x (by rw [←h1];simp [hx])
   have hvv:Valids (rln q).2:=fun x hx=>hv x (by rw [←h1];simp [hx])
   have hl:=congrArg List.length h1
   rw [List.length_append] at hl
   have hup:=List.length_pos_iff.2 hu2
   rw [if_neg e,hsplit]
   have hend:=dQ8 p (rln q).1 (rln q).2 hp hvu hvv hu2 h3
   have hlt:(enc p).size < (enc (p++((rln q).1++(rln q).2))).size:=by
    rw [cE,cE]
    have:=gX (rln q).1
    omega
   rw [wI hlt,hend,List.map_cons]
   have hs2:(enc p).size+(enc (rln q).1).size=(enc (p++(rln q).1)).size:=by rw [cE]
   congr 1
   ·apply jG
    rw [eK8,aY,dB,aY,dB,List.drop_left' (by rw [lD]),Nat.add_sub_cancel_left,List.take_left' (by rw [lD])]
   ·rw [hs2,←List.append_assoc]
    exact ih _ _ (by omega) (fun x hx=>(List.mem_append.1 hx).elim (hp x) (hvu x)) hvv
theorem L8 (q:List Int) (hv:Valids q):eN (enc q) 0=(rls q).map enc:=cC5 q.length [] q (Nat.le_refl _) Valids.nil hv
theorem oC:∀(n:Nat) (q:List Int),q.length≤n→(VB n q).flatten=q:=by
 intro n
 induction n with
 | zero=>intro q hq;obtain rfl:q=[]:=List.length_eq_zero_iff.1 (by omega);rfl
 | succ n ih=>
  intro q hq
  unfold VB
  by_cases e:q=[]
  ·subst e;rfl
  ·obtain ⟨h1,h2,h3⟩:=yV q
   have hl:=congrArg List.length h1
   rw [List.length_append] at hl
   have hup:=List.length_pos_iff.2 (h2 e)
   rw [if_neg e,List.flatten_cons,ih _ (by omega),h1]
def Rc (arr:List BA) (c:Int):List Int:=bS (arr.getD (toN c.toNat) (⟨#[]⟩:BA))
theorem Pts.rc {arr:List BA} {js:List Nat} {q:List Int} (hv:Valids q) (ha:arr.length≤1110016) (h:Pts arr js (eN (enc q) 0)):(chs js).map (Rc arr)=rls q:=by
 have hl:=h.lns
 have hlt:=h.lt
 rw [L8 q hv] at hl
 have hvs:∀x∈rls q,Valids x:=fun x hx c hc=>hv c (by rw [←oC q.length q (Nat.le_refl _)];exact List.mem_flatten.2 ⟨x,hx,hc⟩)
 unfold chs
 rw [List.map_map]
 have e:js.map (fun j=>bS (arr.getD j (⟨#[]⟩:BA)))=(Go.Proofs.YthkiaiilpaojnaaDoorZF.lns arr js).map bS:=by unfold Go.Proofs.YthkiaiilpaojnaaDoorZF.lns;rw [List.map_map];rfl
 rw [show js.map (Rc arr∘fun j=>(ofN j:Int))=js.map (fun j=>bS (arr.getD j (⟨#[]⟩:BA))) from List.map_congr_left fun j hj=>by
  show bS (arr.getD (toN ((ofN j:Nat):Int).toNat) _)=_
  rw [Int.toNat_natCast,QH (by have:=hlt j hj;omega)],e,hl,List.map_map]
 refine (List.map_congr_left (g:=id) fun x hx=>gP (hvs x hx)).trans (List.map_id _)
structure YN (arr:List BA) (c:Int):Prop where
 lt:toN c.toNat < arr.length
 back:(ofN (toN c.toNat):Int)=c
 enc:arr.getD (toN c.toNat) (⟨#[]⟩:BA)=enc (Rc arr c)
 valid:Valids (Rc arr c)
theorem Pts.stands {arr:List BA} {js:List Nat} {q:List Int} (hv:Valids q) (ha:arr.length≤1110016) (h:Pts arr js (eN (Go.Proofs.YthkiaiilpaojnaaDoorZF.enc q) 0)):∀c∈chs js,YN arr c:=fun c hc=>by
 obtain ⟨j,hj,rfl⟩:=List.mem_map.1 hc
 have hlt:=h.lt j hj
 have ht:toN ((ofN j:Nat):Int).toNat=j:=by rw [Int.toNat_natCast,QH (by omega)]
 have hl:=h.lns
 rw [L8 q hv] at hl
 have hm:arr.getD j (⟨#[]⟩:BA)∈(rls q).map Go.Proofs.YthkiaiilpaojnaaDoorZF.enc:=by rw [←hl];exact List.mem_map.2 ⟨j,hj,rfl⟩
 obtain ⟨x,hx,hx2⟩:=List.mem_map.1 hm
 have hvx:Valids x:=fun c hc=>hv c (by rw [←oC q.length q (Nat.le_refl _)];exact List.mem_flatten.2 ⟨x,hx,hc⟩)
 have hr:Rc arr (ofN j:Int)=x:=by unfold Rc;rw [ht,←hx2,gP hvx]
 exact ⟨by rw [ht];exact hlt,by rw [ht],by rw [ht,hr];exact hx2.symm,by rw [hr];exact hvx⟩
def uZ (arr:List BA) (l:List Rp):List Rp:=l.map fun d=>(d.1,(d.2.map (Rc arr)).flatten)
theorem H5 (xs:List (List Int)):enc xs.flatten=cat (xs.map enc):=by
 induction xs with
 | nil=>rfl
 | cons x xs ih=>rw [List.flatten_cons,aY,ih,List.map_cons];exact (aW0 [enc x] (xs.map enc) ▸ (by rw [show cat [enc x]=enc x from jG (by rw [XQ];simp)]):enc x++cat (xs.map enc)=cat ([enc x]++xs.map enc))
theorem NZ:∀{l:List Rp},Ok l→∀d∈l,∀c∈d.2,c∈bO l∨c∈bP l
 | [],_,d,hd,_,_=>by cases hd
 | x::l,ok,d,hd,c,hc=>by
  have hx:=(ok x (by simp)).1
  rcases List.mem_cons.1 hd with rfl | hd
  ·rcases hx with h | h | h <;> simp [bO,bP,h,hc]
  ·have:=NZ (fun y hy=>ok y (by simp [hy])) d hd c hc
   rcases hx with h | h | h <;> simp [bO,bP,h] <;> rcases this with h1 | h1 <;> simp [h1]
theorem H0 (arr:List BA):∀l:List Rp,bO (uZ arr l)=((bO l).map (Rc arr)).flatten
 | []=>rfl
 | d::l=>by
  have:=H0 arr l
  unfold uZ at this ⊢
  simp only [List.map_cons,bO,this]
  split <;> simp
theorem A6 (arr:List BA):∀l:List Rp,bP (uZ arr l)=((bP l).map (Rc arr)).flatten
 | []=>rfl
 | d::l=>by
  have:=A6 arr l
  unfold uZ at this ⊢
  simp only [List.map_cons,bP,this]
  split <;> simp
theorem eL0 (n:Nat) (hn:Big≤n) (p0) (arr:List BA) (ha:arr.length≤1110016) (l:List Rp) (hl:l.length≤1000000) (ok:Ok l) (hS:∀c∈bO l,YN arr c) (hT:∀c∈bP l,YN arr c) (hall:cT l≤1000000) (hall2:cT (uZ arr l)≤1000000):
  dK2 n p0 (M l) arr=some (M (uZ arr l),())∧Ok (uZ arr l):=by
 have st:∀d∈l,∀c∈d.2,YN arr c:=fun d hd c hc=>(NZ ok d hd c hc).elim (hS c) (hT c)
 have e1:M l=(l.map fun d=>(d.1,d.2.map fun c=>toN c.toNat)).map fun d=>(d.1,enc (chs d.2)):=by
  unfold M
  rw [List.map_map]
  refine List.map_congr_left fun d hd=>?_
  show (d.1,enc d.2)=(d.1,enc (chs (d.2.map fun c=>toN c.toNat)))
  congr 2
  unfold chs
  rw [List.map_map]
  exact ((List.map_congr_left fun c hc=>(st d hd c hc).back).trans (List.map_id _)).symm
 have e2:∀d∈l,cat (lns arr (d.2.map fun c=>toN c.toNat))=enc ((d.2.map (Rc arr)).flatten):=fun d hd=>by
  rw [H5]
  unfold lns
  rw [List.map_map,List.map_map]
  congr 1
  exact List.map_congr_left fun c hc=>(st d hd c hc).enc
 have e3:M (uZ arr l)=(l.map fun d=>(d.1,d.2.map fun c=>toN c.toNat)).map fun d=>(d.1,cat (lns arr d.2)):=by
  unfold M uZ
  rw [List.map_map,List.map_map]
  refine List.map_congr_left fun d hd=>?_
  show (d.1,enc _)=(d.1,_)
  rw [e2 d hd]
 refine ⟨?_,fun d hd=>?_⟩
 ·rw [e1,e3]
  refine eW3 hn p0 arr ha _ (by rw [List.length_map];exact hl) fun d hd=>?_
  obtain ⟨x,hx,rfl⟩:=List.mem_map.1 hd
  have h1:=lP hx
  have h2:=lP (l:=uZ arr l) (List.mem_map.2 ⟨x,hx,rfl⟩)
  refine ⟨by show (x.2.map _).length≤_;rw [List.length_map];omega,fun j hj=>?_,?_⟩
  ·obtain ⟨c,hc,rfl⟩:=List.mem_map.1 hj
   exact (st x hx c hc).lt
  ·show (cat (lns arr (x.2.map fun c=>toN c.toNat))).size≤_
   rw [e2 x hx]
   have:=aV ((x.2.map (Rc arr)).flatten)
   have h3:((x.2.map (Rc arr)).flatten).length≤cT (uZ arr l):=h2
   omega
 ·obtain ⟨x,hx,rfl⟩:=List.mem_map.1 hd
  refine ⟨(ok x hx).1,fun c hc=>?_⟩
  obtain ⟨y,hy,hc⟩:=List.mem_flatten.1 hc
  obtain ⟨z,hz,rfl⟩:=List.mem_map.1 hy
  exact (st x hx z hz).valid c hc
section
variable (q91:DenA iC→Option (DenR fI)) (aB:DenA eR→Option (DenR cY)) (aC:DenA eT→Option (DenR dK)) (aD:DenA eS→Option (DenR dI)) (aA:DenA eJ→Option (DenR dX))
theorem dE8 {β:Type} (n:Nat) (hn:Big≤n) (kx3:_→List Prt→Int→List Prt→Option β) (p0) (A T x:List Rp) (hA:A.length+x.length+T.length≤100000000):∀(j m:Nat),j≤x.length→j < m→
  g91_12L n q91 aB aC aD aA kx3 m p0 (M (A++x.drop j++T)) (A.length:Int) (M x) ((j:Int) - 1)=kx3 p0 (M (A++x++T)) (A.length:Int) (M x):=by
 intro j
 induction j with
 | zero=>
  intro m hj hm
  obtain ⟨m,rfl⟩:∃m',m=m'+1:=⟨m - 1,by omega⟩
  rw [g91_12L.eq_2,XY,bdF (by omega),List.drop_zero]
 | succ j ih=>
  intro m hj hm
  obtain ⟨m,rfl⟩:∃m',m=m'+1:=⟨m - 1,by omega⟩
  have hj':j < x.length:=by omega
  have hmx:=bB x
  have hJ:j < (M x).length:=by omega
  have hg:(M x)[j]=(x[j].1,enc x[j].2):=List.getElem_map _
  have hl:(M (A++x.drop (j+1)++T)).length=A.length+(x.length - (j+1))+T.length:=by rw [bB];simp;omega
  have next:=ih m (by omega) (by omega)
  rw [g91_12L.eq_2,XY,bdT (by omega),aQ (by omega) (by omega),show ((j+1:Nat):Int) - 1=(j:Int) by omega,oZ hJ,hg]
  have hsp:=jR n hn (M (A++x.drop (j+1)++T)) [(x[j].1,enc x[j].2)] A.length 0 (by omega) (by omega) (by simp)
  rw [show ((0:Nat):Int)=0 from rfl] at hsp
  rw [aX hsp]
  simp only
  rw [aG (n:=(j:Int) - 1) (by omega) (by omega)]
  have e:(M (A++x.drop (j+1)++T)).take A.length++[(x[j].1,enc x[j].2)]++(M (A++x.drop (j+1)++T)).drop (A.length+0)=M (A++x.drop j++T):=by
   have hA':A.length=(M A).length:=(bB A).symm
   rw [List.drop_eq_getElem_cons hj',List.append_assoc A,cA,show A.length+0=(M A).length from hA',hA',List.take_left,List.drop_left]
   simp only [cA,fP,List.append_assoc,List.cons_append,List.nil_append]
  rw [e]
  exact next
theorem eK9 {β:Type} (n:Nat) (hn:Big≤n) (kn:_→List Prt→Int→Int→Int→BA→BA→Option β) (p0) (A P T:List Rp) (oA:Ok A) (oP:Ok P) (eP:Eds P) (hall:cT P≤100000)
  (hlen:A.length+P.length+T.length+3 * cT P≤10000000)
  (hq:∀a b:List Int,Valids a→Valids b→a.length+b.length≤100000→∃l,aB (p0,(a,(b,(false,()))))=@some (DenR cY) (M l,())∧LD a b l):
  ∃X,KP n q91 aB aC aD aA kn p0 (M (A++P++T)) ((A.length+P.length:Nat):Int) (cdR P:Int) (ciR P:Int) (enc (bD P)) (enc (bA P)) true=kn p0 (M (A++X++T)) ((A.length+X.length:Nat):Int) 0 0 (⟨#[]⟩:BA) (⟨#[]⟩:BA)∧
   Ok X∧bO X=bO P∧bP X=bP P∧X.length≤P.length+3 * cT P:=by
 have hcc:=vV eP
 obtain ⟨s1,s2⟩:=GN eP
 have hs:=wU P
 have ht:=yS P
 have vd:Valids (bD P):=by rw [←s1];exact JQ oP
 have vi:Valids (bA P):=by rw [←s2];exact LG oP
 have z1:=aV (bD P)
 have z2:=aV (bA P)
 rw [s1] at hs
 rw [s2] at ht
 have hde:=qL P
 have hee:=DD P
 have same:(cdR P=0∨ciR P=0)→∃X,CK n q91 aB aC aD aA (fun p0 x8 v9=>CP n q91 aB aC aD aA kn p0 x8 v9) p0 (M (A++P++T)) ((A.length+P.length:Nat):Int) (cdR P:Int) (ciR P:Int) (enc (bD P)) (enc (bA P)) false=kn p0 (M (A++X++T)) ((A.length+X.length:Nat):Int) 0 0 (⟨#[]⟩:BA) (⟨#[]⟩:BA)∧
   Ok X∧bO X=bO P∧bP X=bP P∧X.length≤P.length+3 * cT P:=fun _=>⟨P,rfl,oP,rfl,rfl,by omega⟩
 dsimp only [KP,dY6]
 by_cases h1:cdR P=0
 ·rw [bdF (by omega)]
  exact same (.inl h1)
 rw [bdT (by omega)]
 by_cases h2:ciR P=0
 ·rw [decide_eq_false (by omega)]
  exact same (.inr h2)
 rw [decide_eq_true (by omega)]
 obtain ⟨l,g1,g2⟩:=hq (bD P) (bA P) vd vi (by omega)
 have hll:=g2.len
 refine ⟨l,?_,g2.ok,by rw [g2.src,s1],by rw [g2.tgt,s2],by omega⟩
 have hl:(M (A++P++T)).length=A.length+P.length+T.length:=by rw [bB];simp;try omega
 have hsp:=jR n hn (M (A++P++T)) [] A.length P.length (by omega) (by omega) (by simp)
 have e:(M (A++P++T)).take A.length++[]++(M (A++P++T)).drop (A.length+P.length)=M (A++T):=by
  have hA':A.length=(M A).length:=(bB A).symm
  have hP':A.length+P.length=(M (A++P)).length:=by rw [bB];simp
  rw [hP',cA (A++P),List.drop_left,cA A P,hA',List.append_assoc (M A),List.take_left,List.append_nil,←cA]
 have hml:=bB l
 show CK n q91 aB aC aD aA (fun p0 x8 v9=>CP n q91 aB aC aD aA kn p0 x8 v9) p0 (M (A++P++T)) ((A.length+P.length:Nat):Int) (cdR P:Int) (ciR P:Int) (enc (bD P)) (enc (bA P)) true=_
 dsimp only [CK,QJ,aS5]
 rw [cond_true,aG (n:=((A.length+P.length:Nat):Int) - (cdR P:Int)) (by omega) (by omega),aG (n:=((A.length+P.length:Nat):Int) - (cdR P:Int) - (ciR P:Int)) (by omega) (by omega),aG (n:=(cdR P:Int)+(ciR P:Int)) (by omega) (by omega),
  show ((A.length+P.length:Nat):Int) - (cdR P:Int) - (ciR P:Int)=(A.length:Int) by omega,show (cdR P:Int)+(ciR P:Int)=(P.length:Int) by omega,aX hsp]
 simp only
 rw [e,fT (by omega),fT (by omega),gP vd,gP vi,aX g1]
 simp only
 rw [aG (n:=((M l).length:Int) - 1) (by omega) (by omega),hml]
 dsimp only [aV9,aO5]
 have hi:=dE8 q91 aB aC aD aA (β:=β) n hn (fun p0 x8 v9 x14=>RJ n q91 aB aC aD aA (fun p0 x8 v9=>CP n q91 aB aC aD aA kn p0 x8 v9) p0 x8 v9 x14) p0 A T l (by omega) l.length n (Nat.le_refl _) (by unfold Big at hn;omega)
 rw [List.drop_length,List.append_nil] at hi
 refine hi.trans ?_
 dsimp only [RJ,CP]
 rw [hml,aG (by omega) (by omega),show (A.length:Int)+(l.length:Int)=((A.length+l.length:Nat):Int) by omega]
theorem eN3 {β:Type} (n:Nat) (hn:Big≤n) (kx0:List Prt→Option β) (p0)
  (hq:∀a b:List Int,Valids a→Valids b→a.length+b.length≤100000→∃l,aB (p0,(a,(b,(false,()))))=@some (DenR cY) (M l,())∧LD a b l):
  ∀(R A P:List Rp) (m:Nat),R.length+1 < m→Ok R→Ok A→Ok P→Eds P→cT P+cT R≤100000→A.length+P.length+R.length+3 * (cT P+cT R)+1≤10000000→
  ∃B,g91_32L n q91 aB aC aD aA kx0 m p0 (M (A++P++(R++[(0,[])]))) ((A.length+P.length:Nat):Int) (cdR P:Int) (ciR P:Int) (enc (bD P)) (enc (bA P))=kx0 (M (B++[(0,[])]))∧
   Ok B∧bO B=bO A++bO P++bO R∧bP B=bP A++bP P++bP R∧B.length≤A.length+P.length+R.length+3 * (cT P+cT R):=by
 have atEq:∀(A P T:List Rp) (t:List Int) (m:Nat),Ok A→Ok P→Eds P→cT P≤100000→A.length+P.length+(T.length+1)+3 * cT P≤10000000→
   ∃X,g91_32L n q91 aB aC aD aA kx0 (m+1) p0 (M (A++P++((0,t)::T))) ((A.length+P.length:Nat):Int) (cdR P:Int) (ciR P:Int) (enc (bD P)) (enc (bA P))=g91_32L n q91 aB aC aD aA kx0 m p0 (M (A++X++[(0,t)]++[]++T)) (((A++X++[(0,t)]).length+([]:List Rp).length:Nat):Int) (cdR []:Int) (ciR []:Int) (enc (bD [])) (enc (bA []))∧
    Ok X∧bO X=bO P∧bP X=bP P∧X.length≤P.length+3 * cT P:=by
  intro A P T t m oA oP eP hall hlen
  have hl:(M (A++P++((0,t)::T))).length=A.length+P.length+(T.length+1):=by rw [bB];simp;try omega
  have hI:A.length+P.length < (M (A++P++((0,t)::T))).length:=by omega
  have hg:(M (A++P++((0,t)::T)))[A.length+P.length]=((0:Int),enc t):=by
   have:(A++P++((0,t)::T))[A.length+P.length]'(by simp)=(0,t):=by
    rw [List.getElem_append_right (by simp)];simp
   exact (List.getElem_map _).trans (by rw [this];rfl)
  obtain ⟨X,g1,g2,g3,g4,g5⟩:=eK9 q91 aB aC aD aA (β:=β) n hn (fun p0 x8 v9 v10 v11 v12 v13=>CV n q91 aB aC aD aA (g91_32L n q91 aB aC aD aA kx0 m) p0 x8 v9 v10 v11 v12 v13) p0 A P ((0,t)::T) oA oP eP hall (by simp;omega) hq
  refine ⟨X,?_,g2,g3,g4,g5⟩
  rw [g91_32L.eq_2]
  dsimp only [DH,F0,SD,LT,bF0,WI,IR,bJ8,LP,CD,bL8,JR,YG,dG6,XR]
  rw [bdT (by omega),aQ (by omega) (by omega),oZ hI,hg]
  refine Eq.trans ?_ (g1.trans ?_)
  ·rfl
  ·dsimp only [CV]
   rw [aG (by omega) (by omega)]
   have e1:A++X++(0,t)::T=A++X++[(0,t)]++[]++T:=by simp
   have e2:((A.length+X.length:Nat):Int)+1=(((A++X++[(0,t)]).length+([]:List Rp).length:Nat):Int):=by simp;omega
   rw [e1,e2]
   rfl
 intro R
 induction R with
 | nil=>
  intro A P m hm oR oA oP eP hall hlen
  obtain ⟨m,rfl⟩:∃m',m=m'+1+1:=⟨m - 2,by simp at hm;omega⟩
  rw [show cT ([]:List Rp)=0 from rfl] at hall hlen
  simp only [List.length_nil,Nat.add_zero] at hlen hall
  obtain ⟨X,g1,g2,g3,g4,g5⟩:=atEq A P [] [] (m+1) oA oP eP (by omega) (by simp;omega)
  refine ⟨A++X,?_,oA.append g2,by rw [bG,g3];simp [bO],by rw [bH,g4];simp [bP],by rw [List.length_append];simp [iN];omega⟩
  rw [List.nil_append,g1,g91_32L.eq_2]
  dsimp only [DH,F0]
  have hl:(M (A++X++[(0,([]:List Int))]++[]++[])).length=A.length+X.length+1:=by rw [bB];simp;omega
  rw [bdF (by rw [hl];simp;omega),List.append_nil,List.append_nil]
 | cons d R ih=>
  intro A P m hm oR oA oP eP hall hlen
  obtain ⟨m,rfl⟩:∃m',m=m'+1:=⟨m - 1,by simp at hm;omega⟩
  have od:=oR d (by simp)
  have oR':Ok R:=fun y hy=>oR y (by simp [hy])
  rw [cG] at hall hlen
  simp only [List.length_cons] at hm hlen
  obtain ⟨k,t⟩:=d
  simp only at hall hlen
  by_cases h0:k=0
  ·subst h0
   obtain ⟨X,g1,g2,g3,g4,g5⟩:=atEq A P (R++[(0,[])]) t m oA oP eP (by omega) (by simp;omega)
   obtain ⟨B,f1,f2,f3,f4,f5⟩:=ih (A++X++[(0,t)]) [] m (by omega) oR' ((oA.append g2).append (fun y hy=>by obtain rfl:=List.mem_singleton.1 hy;exact od)) Ok.nil Eds.nil (by simp [iN];omega) (by simp [iN];omega)
   refine ⟨B,?_,f2,?_,?_,?_⟩
   ·rw [List.cons_append,g1];exact f1
   ·rw [f3,bG,bG,g3];simp [bO]
   ·rw [f4,bH,bH,g4];simp [bP]
   ·simp only [List.length_append,List.length_cons,List.length_nil,iN,cG] at f5 ⊢
    omega
  ·have hk:k= -1∨k=1:=by rcases od.1 with h | h | h <;> simp_all
   have eP':Eds (P++[(k,t)]):=fun y hy=>(List.mem_append.1 hy).elim (eP y) (fun h=>by obtain rfl:=List.mem_singleton.1 h;exact hk)
   have oP':Ok (P++[(k,t)]):=oP.append (fun y hy=>by obtain rfl:=List.mem_singleton.1 hy;exact od)
   have hl:(M (A++P++((k,t)::R++[(0,[])]))).length=A.length+P.length+(R.length+2):=by rw [bB];simp;try omega
   have hI:A.length+P.length < (M (A++P++((k,t)::R++[(0,[])]))).length:=by omega
   have hg:(M (A++P++((k,t)::R++[(0,[])])))[A.length+P.length]=(k,enc t):=by
    have:(A++P++((k,t)::R++[(0,[])]))[A.length+P.length]'(by simp)=(k,t):=by
     rw [List.getElem_append_right (by simp)];simp
    exact (List.getElem_map _).trans (by rw [this];rfl)
   obtain ⟨B,f1,f2,f3,f4,f5⟩:=ih A (P++[(k,t)]) m (by omega) oR' oA oP' eP' (by rw [dV,cG,iN];simp only;omega) (by rw [dV,cG,iN];simp only [List.length_append,List.length_cons,List.length_nil];omega)
   refine ⟨B,?_,f2,?_,?_,?_⟩
   ·have hcc:=vV eP
    obtain ⟨s1,s2⟩:=GN eP
    have hs:=wU P
    have ht:=yS P
    rw [s1] at hs
    rw [s2] at ht
    have z1:=aV (bD P)
    have z2:=aV (bA P)
    have z3:=aV t
    have e1:A++(P++[(k,t)])++(R++[(0,[])])=A++P++((k,t)::R++[(0,[])]):=by simp
    have e2:((A.length+(P++[(k,t)]).length:Nat):Int)=((A.length+P.length:Nat):Int)+1:=by simp;omega
    rw [e1,e2,mP,mQ,nQ,mZ] at f1
    refine Eq.trans ?_ f1
    rw [g91_32L.eq_2]
    dsimp only [DH,F0,SD,LT,bF0,WI,IR,bJ8,LP]
    rw [bdT (by omega),aQ (by omega) (by omega),oZ hI,hg]
    rcases hk with rfl | rfl
    ·show CD n q91 aB aC aD aA _ p0 _ _ _ _ _ _ (-1) false=_
     dsimp only [CD,bL8,JR]
     show bD6 n q91 aB aC aD aA _ p0 _ _ _ _ _ _ (-1) true=_
     dsimp only [bD6,CV]
     rw [aQ (by omega) (by omega)]
     simp only [oZ hI,hg]
     rw [cB (by omega),aG (n:=(cdR P:Int)+1) (by omega) (by omega),aG (by omega) (by omega),←aY]
     have q1:bD [((-1:Int),t)]=t:=by simp [bD]
     have q2:bA [((-1:Int),t)]=[]:=by simp [bA]
     have q3:cdR [((-1:Int),t)]=1:=by simp [cdR]
     have q4:ciR [((-1:Int),t)]=0:=by simp [ciR]
     rw [q1,q2,q3,q4,List.append_nil,show ((cdR P+1:Nat):Int)=(cdR P:Int)+1 by omega,Nat.add_zero]
    ·show bE6 n q91 aB aC aD aA _ p0 _ _ _ _ _ _ 1 true=_
     dsimp only [bE6,CV]
     rw [aQ (by omega) (by omega)]
     simp only [oZ hI,hg]
     rw [cB (by omega),aG (n:=(ciR P:Int)+1) (by omega) (by omega),aG (by omega) (by omega),←aY]
     have q1:bD [((1:Int),t)]=[]:=by simp [bD]
     have q2:bA [((1:Int),t)]=t:=by simp [bA]
     have q3:cdR [((1:Int),t)]=0:=by simp [cdR]
     have q4:ciR [((1:Int),t)]=1:=by simp [ciR]
     rw [q1,q2,q3,q4,List.append_nil,show ((ciR P+1:Nat):Int)=(ciR P:Int)+1 by omega,Nat.add_zero]
   ·rw [f3,bG];simp [bO]
   ·rw [f4,bH];simp [bP]
   ·simp only [List.length_append,List.length_cons,List.length_nil,iN,cG,dV] at f5 ⊢
    omega
end
theorem eI4:∀(n:Nat) (q:List Int),(VB n q).length≤q.length:=by
 intro n
 induction n with
 | zero=>intro q;simp [VB]
 | succ n ih=>
  intro q
  unfold VB
  by_cases e:q=[]
  ·subst e;simp
  ·obtain ⟨h1,h2,h3⟩:=yV q
   have hl:=congrArg List.length h1
   rw [List.length_append] at hl
   have hup:=List.length_pos_iff.2 (h2 e)
   have:=ih (rln q).2
   rw [if_neg e,List.length_cons];omega
theorem Pts.len {arr:List BA} {js:List Nat} {q:List Int} (hv:Valids q) (ha:arr.length≤1110016) (h:Pts arr js (eN (Go.Proofs.YthkiaiilpaojnaaDoorZF.enc q) 0)):js.length≤q.length:=by
 have h1:=congrArg List.length (Pts.rc hv ha h)
 rw [List.length_map,lC] at h1
 have:=eI4 q.length q
 unfold rls at h1
 omega
structure TD (a b:List Int) (l:List Rp):Prop where
 ok:Ok l
 src:bO l=a
 tgt:bP l=b
 len:l.length≤600000
section
variable (q91:DenA iC→Option (DenR fI)) (aB:DenA eR→Option (DenR cY)) (aC:DenA eT→Option (DenR dK)) (aD:DenA eS→Option (DenR dI)) (aA:DenA eJ→Option (DenR dX))
theorem R4 (n:Nat) (hn:Big≤n) (p0) (a b:List Int) (va:Valids a) (vb:Valids b) (la:a.length≤400) (lb:b.length≤400)
  (hq:∀a b:List Int,Valids a→Valids b→a.length+b.length≤100000→∃l,aB (p0,(a,(b,(false,()))))=@some (DenR cY) (M l,())∧LD a b l):
  ∃l,dN5 n q91 aB aC aD aA p0 a b=some (M l,())∧TD a b l∧l.length≤503000:=by
 have sa:=aV a
 have sb:=aV b
 obtain ⟨arr,h,ja,jb,e,H,P1,P2,l1⟩:=NQ n hn p0 (enc a) (enc b) (by omega) (by omega)
 have c1:=lC ja
 have c2:=lC jb
 have n1:=Pts.len va (by omega) P1
 have n2:=Pts.len vb (by omega) P2
 have wa:Valids (chs ja):=pP fun j hj=>by have:=P1.lt j hj;omega
 have wb:Valids (chs jb):=pP fun j hj=>by have:=P2.lt j hj;omega
 obtain ⟨l,g1,g2⟩:=hq (chs ja) (chs jb) wa wb (by omega)
 have hll:=g2.len
 have hal:=lE (x:=l)
 rw [g2.src,g2.tgt] at hal
 have e1:bO (uZ arr l)=a:=by rw [H0,g2.src,Pts.rc va (by omega) P1];exact oC _ _ (Nat.le_refl _)
 have e2:bP (uZ arr l)=b:=by rw [A6,g2.tgt,Pts.rc vb (by omega) P2];exact oC _ _ (Nat.le_refl _)
 have hal2:=lE (x:=uZ arr l)
 rw [e1,e2] at hal2
 obtain ⟨k1,k2⟩:=eL0 n hn p0 arr (by omega) l (by omega) g2.ok (by rw [g2.src];exact Pts.stands va (by omega) P1) (by rw [g2.tgt];exact Pts.stands vb (by omega) P2) (by omega) (by omega)
 have hpl:(uZ arr l).length=l.length:=List.length_map _
 obtain ⟨y,s1,s2,s3,s4,s5,_⟩:=K0 n hn p0 (uZ arr l) k2 (by omega) (by omega)
 rw [e1] at s3
 rw [e2] at s4
 have hay:=lE (x:=y)
 rw [s3,s4] at hay
 have hmy:=bB y
 dsimp only [dN5,XI,cW8]
 have e':cN9 n p0 (runesBytes a) (runesBytes b)=some (chs ja,(chs jb,(arr,()))):=e
 rw [aX e']
 simp only
 rw [aX g1]
 simp only
 rw [aX k1]
 simp only
 rw [aX s1]
 simp only
 rw [cB (by simp only [List.length_cons,List.length_nil];omega)]
 dsimp only [aL9,aT9]
 obtain ⟨B,f1,f2,f3,f4,f5⟩:=eN3 q91 aB aC aD aA n hn (fun x8=>CQ n q91 aB aC aD aA (fun x6=>@some (DenR fI) (x6,())) x8) p0 hq y [] [] n (by unfold Big at hn;omega) s2 Ok.nil Ok.nil Eds.nil (by simp [iN];omega) (by simp [iN];omega)
 simp only [List.nil_append,List.length_nil,bO,bP,iN,Nat.zero_add] at f3 f4 f5
 refine ⟨B,?_,⟨f2,by rw [f3,s3],by rw [f4,s4],by omega⟩,by omega⟩
 have f1':g91_32L n q91 aB aC aD aA (fun x8=>CQ n q91 aB aC aD aA (fun x6=>@some (DenR fI) (x6,())) x8) n p0 (M y++[((0:Int),(⟨#[]⟩:BA))]) 0 0 0 (⟨#[]⟩:BA) (⟨#[]⟩:BA)=CQ n q91 aB aC aD aA (fun x6=>@some (DenR fI) (x6,())) (M (B++[(0,[])])):=by
  rw [←f1]
  show _=g91_32L n q91 aB aC aD aA _ n p0 (M (y++[(0,[])])) _ _ _ _ _
  rw [cA];rfl
 refine Eq.trans f1' ?_
 dsimp only [CQ]
 have hl:(M (B++[(0,([]:List Int))])).length=B.length+1:=by rw [bB];simp
 have hmb:=bB B
 rw [hl,aG (by omega) (by omega),bF (by omega) (by omega) (by omega),show (0:Int)+(((B.length+1:Nat):Int) - 1 - 0)=(B.length:Int) by omega,cR,Int.toNat_natCast,cA,←hmb,List.take_left]
 rfl
end
section
variable (q91:DenA iC→Option (DenR fI)) (aB:DenA eR→Option (DenR cY)) (aC:DenA eT→Option (DenR dK)) (aD:DenA eS→Option (DenR dI)) (aA:DenA eJ→Option (DenR dX))
theorem eA2 (n:Nat) (hn:Big≤n) (p0) (hp:p0.1≤(0:Int)) {a b:List Int} (hla:a.length≤100000) (hlb:b.length≤100000) (h1:100 < a.length) (h2:100 < b.length):
  sQ n q91 aB aC aD aA p0 a b true=sQ n q91 aB aC aD aA p0 a b false∨sQ n q91 aB aC aD aA p0 a b true=(q91 (p0,(a,(b,())))).bind fun r=>some (r.1,()):=by
 have ea:¬a=[]:=List.ne_nil_of_length_pos (by omega)
 have eb:¬b=[]:=List.ne_nil_of_length_pos (by omega)
 have hA:∀ln,sQ n q91 aB aC aD aA p0 a b ln=bif decide ((a.length:Int)>(b.length:Int)) then lY n q91 aB aC aD aA (fun x8=>@some (DenR [.rw (.pair (.int .i8) .str) 115]) (x8,())) p0 a b ln a b else lY n q91 aB aC aD aA (fun x8=>@some (DenR [.rw (.pair (.int .i8) .str) 115]) (x8,())) p0 a b ln b a:=fun ln=>by
  dsimp only [sQ,LO,QL]
  rw [biF (by simp;exact ea),biF (by simp;exact eb)]
 rw [hA true,hA false]
 have key:∀(L S:List Int),S.length≤L.length→L.length≤100000→100 < S.length→lY n q91 aB aC aD aA (fun x8=>@some (DenR [.rw (.pair (.int .i8) .str) 115]) (x8,())) p0 a b true L S=lY n q91 aB aC aD aA (fun x8=>@some (DenR [.rw (.pair (.int .i8) .str) 115]) (x8,())) p0 a b false L S∨
   lY n q91 aB aC aD aA (fun x8=>@some (DenR [.rw (.pair (.int .i8) .str) 115]) (x8,())) p0 a b true L S=(q91 (p0,(a,(b,())))).bind fun r=>some (r.1,()):=by
  intro L S hSL hL hS
  rcases vO n hn L S (by omega) (by omega) with ⟨u,v,e,h⟩ | ⟨hno,h⟩
  ·have hB:∃R,∀ln,lY n q91 aB aC aD aA (fun x8=>@some (DenR [.rw (.pair (.int .i8) .str) 115]) (x8,())) p0 a b ln L S=R:=Exists.intro _ fun ln=>by
    unfold lY
    rw [h,Option.bind_some,biT (by simp)]
   obtain ⟨R,hR⟩:=hB
   exact .inl ((hR true).trans (hR false).symm)
  ·right
   unfold lY
   rw [h,Option.bind_some,biF (by simp),biF (by simp;omega),A2 n p0 a b hp,Option.bind_some,cond_true,bdT (by omega),bdT (by omega)]
 by_cases hgt:a.length>b.length
 ·rw [bdT (by omega),bdT (by omega)]
  exact key a b (by omega) (by omega) (by omega)
 ·rw [bdF (by omega),bdF (by omega)]
  exact key b a (by omega) (by omega) (by omega)
end
theorem cI7 (Q:List Int→List Int→List Rp→Prop) (n:Nat) (hn:Big≤n) (p0) {a b:List Int} (ln:Bool) (ha:Valids a) (hb:Valids b) (hla:a.length≤100000) (hlb:b.length≤100000) (m:Nat)
  (hq:a≠b→∀a' b':List Int,Valids a'→Valids b'→a'.length≤a.length→b'.length≤b.length→a'.length+b'.length≤a.length+b.length→Trim a' b'→(a'≠[]∨b'≠[])→∃l,(aT n m).2.2.2.1 (p0,(a',(b',(ln,()))))=@some (DenR dI) (M l,())∧Ok l∧bO l=a'∧bP l=b'∧l.length≤600000∧Q a' b' l):
  (a=b∧(aT n (m+1)).2.1 (p0,(a,(b,(ln,()))))=@some (DenR cY) (M (bU a),()))∨(a≠b∧∃l pre sf a2 b2,a=pre++(a2++sf)∧b=pre++(b2++sf)∧Valids pre∧Valids sf∧dst a b=dst a2 b2∧Ok l∧bO l=a2∧bP l=b2∧Q a2 b2 l∧
   (aT n (m+1)).2.1 (p0,(a,(b,(ln,()))))=@some (DenR cY) (M (merge (bU pre++l++bU sf)),())):=J5 (aT n m).1 (aT n m).2.1 (aT n m).2.2.1 (aT n m).2.2.2.1 (aT n m).2.2.2.2 Q n hn p0 ln ha hb hla hlb hq
theorem VM (n:Nat) (hn:Big≤n) (p0) (hp:p0.1≤(0:Int)) {a b:List Int} (hla:a.length≤100000) (hlb:b.length≤100000) (h1:100 < a.length) (h2:100 < b.length) (m:Nat):
  (aT n (m+1)).2.2.2.1 (p0,(a,(b,(true,()))))=(aT n (m+1)).2.2.2.1 (p0,(a,(b,(false,()))))∨(aT n (m+1)).2.2.2.1 (p0,(a,(b,(true,()))))=((aT n m).1 (p0,(a,(b,())))).bind fun r=>some (r.1,()):=eA2 (aT n m).1 (aT n m).2.1 (aT n m).2.2.1 (aT n m).2.2.2.1 (aT n m).2.2.2.2 n hn p0 hp hla hlb h1 h2
theorem WT (n:Nat) (hn:Big≤n) (p0) (hp:p0.1≤(0:Int)) (a b:List Int) (va:Valids a) (vb:Valids b) (la:a.length≤400) (lb:b.length≤400) (m:Nat) (hm:500000≤m):
  ∃l,(aT n (m+1)).1 (p0,(a,(b,())))=@some (DenR fI) (M l,())∧TD a b l∧l.length≤503000:=
 R4 (aT n m).1 (aT n m).2.1 (aT n m).2.2.1 (aT n m).2.2.2.1 (aT n m).2.2.2.2 n hn p0 a b va vb la lb fun a b va vb hl=>by
  obtain ⟨l,h1,h2,_⟩:=HY n hn p0 hp (a.length+b.length) m a b false (.inl rfl) (Nat.le_refl _) (by omega) (by omega) va vb
  exact ⟨l,h1,h2⟩
theorem EF (n:Nat) (hn:Big≤n) (p0) (hp:p0.1≤(0:Int)) (a' b':List Int) (ln:Bool) (hln:ln=false∨a'.length≤100∨b'.length≤100) (ha':Valids a') (hb':Valids b') (hl:a'.length+b'.length≤100000) (ht:Trim a' b') (hne:a'≠[]∨b'≠[]) (m:Nat) (hm:400008≤m):
  ∃l,(aT n (m+3)).2.2.2.1 (p0,(a',(b',(ln,()))))=@some (DenR dI) (M l,())∧LD a' b' l:=by
 refine KQ (a:=a') (b:=b') (ln:=ln) (hln:=hln) (p0:=p0) (n:=n) (hn:=hn) (hp:=hp) (ha:=ha') (hb:=hb') (hla:=by omega) (hlb:=by omega) (ht:=ht) (hne:=hne) (hq:=?_) ..
 intro h2a h2b hd2
 rcases OA (p0:=p0) (n:=n) (hn:=hn) (A:=a') (B:=b') (h3:=by omega) (hN:=by omega) (hM:=by omega) (kr:=fun x6=>@some (DenR dK) (x6,())) .. with h | ⟨h,hd⟩
 ·obtain ⟨x,y,ho,h1,h2,h3⟩:=h
  have hx:=ho.hx
  have hy:=ho.hy
  have hs:=ho.sum
  have t1:(a'.take x).length≤a'.length:=by rw [List.length_take];omega
  have t2:(b'.take y).length≤b'.length:=by rw [List.length_take];omega
  have t3:(a'.drop x).length≤a'.length:=by rw [List.length_drop];omega
  have t4:(b'.drop y).length≤b'.length:=by rw [List.length_drop];omega
  obtain ⟨u,u1,u2,_⟩:=HY n hn p0 hp _ m (a'.take x) (b'.take y) false (.inl rfl) (Nat.le_refl _) (by omega) (by omega) (ha'.take _) (hb'.take _)
  obtain ⟨v,v1,v2,_⟩:=HY n hn p0 hp _ m (a'.drop x) (b'.drop y) false (.inl rfl) (Nat.le_refl _) (by omega) (by omega) (ha'.drop _) (hb'.drop _)
  have ul:=u2.len
  have vl:=v2.len
  have hsp:=Q6 (n:=n) (p0:=p0) (hx:=hx) (hy:=hy) (h1:=u1) (h2:=v1) (hl:=by omega) (aT n m).1 (aT n m).2.1 (aT n m).2.2.1 (aT n m).2.2.2.1 (aT n m).2.2.2.2
  have key:LD a' b' (u++v):=by
   refine LD.of (u2.ok.append v2.ok) ?_ ?_ ?_ ?_ (u2.full.append v2.full)
   ·rw [bG,u2.src,v2.src,List.take_append_drop]
   ·rw [bH,u2.tgt,v2.tgt,List.take_append_drop]
   ·rw [dD,u2.ed,v2.ed]
    rw [jC hx hy,jF] at hs
    unfold gt at hs
    omega
   ·rw [List.length_append]
    rw [List.length_take,List.length_take] at ul
    rw [List.length_drop,List.length_drop] at vl
    omega
  refine ⟨u++v,?_,key⟩
  refine Eq.trans h3 ?_
  refine aX hsp
 ·refine ⟨[(-1,a'),(1,b')],h,LD.of (fun d hd'=>?_) ?_ ?_ ?_ ?_ (eA4 (List.ne_nil_of_length_pos (by omega)) (List.ne_nil_of_length_pos (by omega)))⟩
  ·simp only [List.mem_cons,List.not_mem_nil,or_false] at hd'
   rcases hd' with rfl | rfl
   ·exact ⟨.inl rfl,ha'⟩
   ·exact ⟨.inr (.inr rfl),hb'⟩
  ·show a'++[]=a';simp
  ·show b'++[]=b';simp
  ·show a'.length+(b'.length+0)≤_;omega
  ·simp;omega
theorem dY3 (n:Nat) (hn:Big≤n) (p0) (hp:p0.1≤(0:Int)) (m:Nat) (hm:20000000≤m) (a b:List Int) (ln:Bool) (va:Valids a) (vb:Valids b) (la:a.length≤400) (lb:b.length≤400):
  ∃l,(aT n m).2.1 (p0,(a,(b,(ln,()))))=@some (DenR cY) (M l,())∧TD a b l:=by
 obtain ⟨m,rfl⟩:∃m',m=m'+4:=⟨m - 4,by omega⟩
 rcases cI7 (fun a' b' l=>l.length≤503000) n hn p0 ln va vb (by omega) (by omega) (m+3) (fun hab a' b' va' vb' hla hlb hll ht hne=>by
  by_cases hsm:ln=false∨a'.length≤100∨b'.length≤100
  ·obtain ⟨l,g1,g2⟩:=EF n hn p0 hp a' b' ln hsm va' vb' (by omega) ht hne m (by omega)
   have:=g2.len
   exact ⟨l,g1,g2.ok,g2.src,g2.tgt,by omega,by show l.length≤_;omega⟩
  ·have h1:100 < a'.length:=Nat.lt_of_not_le fun h=>hsm (.inr (.inl h))
   have h2:100 < b'.length:=Nat.lt_of_not_le fun h=>hsm (.inr (.inr h))
   obtain rfl:ln=true:=by
    cases ln
    ·exact absurd (.inl rfl) hsm
    ·rfl
   rcases VM n hn p0 hp (a:=a') (b:=b') (by omega) (by omega) h1 h2 (m+2) with e | e
   ·obtain ⟨l,g1,g2⟩:=EF n hn p0 hp a' b' false (.inl rfl) va' vb' (by omega) ht hne m (by omega)
    have:=g2.len
    exact ⟨l,e.trans g1,g2.ok,g2.src,g2.tgt,by omega,by show l.length≤_;omega⟩
   ·obtain ⟨l,g1,g2,g3⟩:=WT n hn p0 hp a' b' va' vb' (by omega) (by omega) (m+1) (by omega)
    exact ⟨l,e.trans (by rw [aX g1];rfl),g2.ok,g2.src,g2.tgt,by omega,g3⟩) with ⟨rfl,e⟩ | ⟨hab,l,pre,sf,a2,b2,eaf,ebf,vp,vs,hdst,go,gs,gt,g2,e⟩
 ·have he:=kA va
  have:=qQ a
  exact ⟨bU a,e,he.1,he.2.1,he.2.2.1,by omega⟩
 ·have hpo:=kA vp
  have hso:=kA vs
  have hxo:Ok (bU pre++l++bU sf):=(hpo.1.append go).append hso.1
  have hxs:bO (bU pre++l++bU sf)=a:=by rw [bG,bG,hpo.2.1,hso.2.1,gs,eaf,List.append_assoc]
  have hxt:bP (bU pre++l++bU sf)=b:=by rw [bH,bH,hpo.2.2.1,hso.2.2.1,gt,ebf,List.append_assoc]
  have hmt:=rY hxo
  have hall:=lE (x:=bU pre++l++bU sf)
  rw [hxs,hxt] at hall
  have hed:=DD (bU pre++l++bU sf)
  have hml:=LK hxo
  have h1:=hpo.2.2.2.2
  have h2:=hso.2.2.2.2
  refine ⟨_,e,hxo.merge,hmt.1.trans hxs,hmt.2.1.trans hxt,?_⟩
  unfold phi at hml
  simp only [List.length_append] at hml hed hall ⊢
  have:l.length≤503000:=g2
  omega
theorem eX0 (n:Nat) (hn:Big≤n) (a b:List Int) (ln:Bool) (va:Valids a) (vb:Valids b) (la:a.length≤400) (lb:b.length≤400):
  ∃p l,g62 n (false,((0:Int),((0:Int),((0:Nat),((0:Nat),((0:Int),(0:Int)))))))=some (p,())∧fC6 n p a b ln=some (M l,())∧TD a b l∧g45 n (M l)=some (M l,()):=by
 obtain ⟨p,hp,hp0⟩:=fB3 n ((0:Int),((0:Int),((0:Nat),((0:Nat),((0:Int),(0:Int))))))
 obtain ⟨l,h1,h2⟩:=dY3 n hn p (Int.le_of_eq hp0) n (by unfold Big at hn;omega) a b ln va vb la lb
 have:=h2.len
 exact ⟨p,l,hp,h1,h2,eN5 n hn l (by omega) h2.ok⟩
theorem d8 (n:Nat) {a b:List Int} {ln:Bool} {p} {l:List Rp} (va:Valids a) (vb:Valids b) (la:a.length≤400) (lb:b.length≤400) (hp:g62 n (false,((0:Int),((0:Int),((0:Nat),((0:Nat),((0:Int),(0:Int)))))))=some (p,())) (h4:fC6 n p a b ln=some (M l,())) (hls:g45 n (M l)=some (M l,())):g39 n (enc a) (enc b) ln=some (M l,()):=by
 have sa:=aV a
 have sb:=aV b
 dsimp only [g39,cS9,g40,B4,A8]
 rw [aX hp]
 dsimp only [g68,dM9,g94,dI8]
 rw [fT (by omega),fT (by omega),gP va,gP vb,aX h4]
 simp only [Option.bind_some]
 rw [aX hls]
 rfl
end Go.Proofs.YthkiaiilpaojnaaDoorZF
