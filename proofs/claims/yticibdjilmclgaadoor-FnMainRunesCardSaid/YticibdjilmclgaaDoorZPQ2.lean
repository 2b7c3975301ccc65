/- Plain statements about the printed functions. -/
import Derived.Test.YticibdjilmclgaaDoorZPQ0
import Derived.Test.YticibdjilmclgaaDoorZPQ1
import Derived.Test.YticibdjilmclgaaDoorZGA0
import Derived.Test.YticibdjilmclgaaDoorZFB
import Derived.Test.YticibdjilmclgaaDoorZGA1
import Derived.Test.YticibdjilmclgaaDoorZGA2
namespace Go.Proofs.YticibdjilmclgaaDoorZF
open Go
set_option linter.unusedVariables false
set_option linter.unusedSimpArgs false
theorem cV9 {α γ:Type} (xs:List α) (f:α→γ) (e:γ) (i:Nat) (hi:i < xs.length):((xs.take i).map f++List.replicate (xs.length - i) e).set i (f xs[i])=(xs.take (i+1)).map f++List.replicate (xs.length - (i+1)) e:=by
 have hl:((xs.take i).map f).length=i:=by rw [List.length_map,List.length_take];omega
 obtain ⟨k,hk⟩:∃k,xs.length - i=k+1:=⟨xs.length - i - 1,by omega⟩
 rw [List.set_append_right _ _ (by omega),hl,Nat.sub_self,hk,List.replicate_succ,List.set_cons_zero,List.take_succ_eq_append_getElem hi,List.map_append,List.append_assoc,show xs.length - (i+1)=k by omega]
 rfl
def lns (arr:List BA) (js:List Nat):List BA:=js.map fun j=>arr.getD j (⟨#[]⟩:BA)
theorem p3 (arr:List BA) (js:List Nat):(lns arr js).length=js.length:=by simp [lns]
theorem Pts.lns {arr:List BA} {js:List Nat} {L:List BA} (h:Pts arr js L):lns arr js=L:=by
 have e:(Go.Proofs.YticibdjilmclgaaDoorZF.lns arr js).map some=L.map some:=by
  rw [←show js.map (fun j=>arr[j]?)=L.map some from h]
  unfold Go.Proofs.YticibdjilmclgaaDoorZF.lns
  rw [List.map_map]
  refine List.map_congr_left fun j hj=>?_
  have hlt:=h.lt j hj
  show some (arr.getD j _)=arr[j]?
  rw [List.getD_eq_getElem?_getD,List.getElem?_eq_getElem hlt];rfl
 exact (List.map_inj_right (fun a b hab=>Option.some.inj hab)).1 e
theorem dV5 (n:Nat) (xs:List BA) (hl:xs.length≤1000000000) (hs:(cat xs).size≤1000000000):g78 n xs (⟨#[]⟩:BA)=some (cat xs,()):=by
 unfold g78
 have h:(Lib.join (xs.map (·.data.toList)) (⟨#[]⟩:BA).data.toList).length=(cat xs).size:=rfl
 rw [if_pos ⟨by omega,by rw [h];omega⟩]
 rfl
section
variable {n:Nat}
theorem fF6 (hB:(4611686018427387904:Nat)≤n) {β:Type} (kx2) (arr:List BA) (ha:arr.length≤1110016) (s p x17 v18 v19) (js:List Nat) (hl:js.length≤1000000) (hj:∀j∈js,j < arr.length) (M:Nat) (hM:js.length < M):
  g61_5L (β:=β) n kx2 M arr s p (List.replicate js.length (⟨#[]⟩:BA)) x17 v18 v19 (chs js) ((chs js).length:Int) 0=kx2 arr s p (lns arr js) x17 v18 v19:=by
 have hc:=kV js
 have key:∀(d i m:Nat),js.length - i=d→d < m→i≤js.length→g61_5L (β:=β) n kx2 m arr s p ((js.take i).map (fun j=>arr.getD j (⟨#[]⟩:BA))++List.replicate (js.length - i) (⟨#[]⟩:BA)) x17 v18 v19 (chs js) ((chs js).length:Int) (i:Int)=kx2 arr s p (lns arr js) x17 v18 v19:=by
  intro d
  induction d with
  | zero=>
   intro i m hd hm hi
   obtain ⟨m,rfl⟩:∃m',m=m'+1:=⟨m - 1,by omega⟩
   rw [g61_5L.eq_2,aB1,bdF (by omega),List.take_of_length_le (by omega),hd,List.replicate_zero,List.append_nil]
   rfl
  | succ d ih=>
   intro i m hd hm hi
   obtain ⟨m,rfl⟩:∃m',m=m'+1:=⟨m - 1,by omega⟩
   have hi':i < js.length:=by omega
   have hI:i < (chs js).length:=by omega
   have hg:(chs js)[i]=(ofN js[i]:Int):=List.getElem_map _
   have hlt:=hj js[i] (by simp)
   have hv:=NR (v:=js[i]) (by omega)
   have next:=ih (i+1) m (by omega) (by omega) (by omega)
   have hrt:g77 n (ofN js[i]:Int)=some ((js[i]:Int),()):=by rw [UF n (ofN js[i]) (by omega),QN (by omega)]
   have hsz:((js.take i).map (fun j=>arr.getD j (⟨#[]⟩:BA))++List.replicate (js.length - i) (⟨#[]⟩:BA)).length=js.length:=by simp;omega
   rw [g61_5L.eq_2,aB1,bdT (by omega),aN (by omega) (by omega),oN hI,hg,aT hrt]
   simp only
   rw [aN (by omega) (by omega),aN (by omega) (by omega),oN hlt,Int.toNat_natCast,aF (by omega) (by omega)]
   have hf:arr[js[i]]=(fun j=>arr.getD j (⟨#[]⟩:BA)) js[i]:=by
    show _=arr.getD js[i] _
    rw [List.getD_eq_getElem?_getD,List.getElem?_eq_getElem hlt];rfl
   rw [hf,cV9 js (fun j=>arr.getD j (⟨#[]⟩:BA)) (⟨#[]⟩:BA) i hi',show (i:Int)+1=((i+1:Nat):Int) by omega]
   exact next
 exact key js.length 0 M (by omega) hM (by omega)
theorem eW0 (hn:Big≤n) (p0) (arr:List BA) (ha:arr.length≤1110016) (DL:List (Int×List Nat)) (hD:DL.length≤1000000) (hd:∀d∈DL,d.2.length≤1000000∧(∀j∈d.2,j < arr.length)∧(cat (lns arr d.2)).size≤1000000000):
  g61 n p0 (DL.map fun d=>(d.1,enc (chs d.2))) arr=some (DL.map fun d=>(d.1,cat (lns arr d.2)),()):=by
 have hB:(4611686018427387904:Nat)≤n:=hn
 have hlm:(DL.map fun d=>(d.1,enc (chs d.2))).length=DL.length:=List.length_map _
 dsimp only [g61,QC,cS3,F2,V9,h9]
 rw [bB (by omega) (by omega) (by omega),qW (by omega)]
 have e:=vM DL (fun m s i=>g61_12L n (fun x6=>some (x6,())) m arr s (DL.map fun d=>(d.1,enc (chs d.2))) ((DL.map fun d=>(d.1,enc (chs d.2))).length:Int) (i:Int)) (fun s=>some (s,())) (fun s d=>s++[(d.1,cat (lns arr d.2))]) (fun i s=>s.length=i)
  (fun m s i hi hs=>by
   refine ⟨?_,by simp [hs]⟩
   have hI:i < (DL.map fun d=>(d.1,enc (chs d.2))).length:=by omega
   have hg:(DL.map fun d=>(d.1,enc (chs d.2)))[i]=(DL[i].1,enc (chs DL[i].2)):=List.getElem_map _
   obtain ⟨h1,h2,h3⟩:=hd DL[i] (by simp)
   have hc:=kV DL[i].2
   have hv:Valids (chs DL[i].2):=oM fun j hj=>by have:=h2 j hj;omega
   have hsz:=aU (chs DL[i].2)
   rw [g61_12L.eq_2,KV,u3,bdT (by omega)]
   dsimp only [bO7,aE0,dC5,U2,bN3,bY5]
   rw [aN (by omega) (by omega)]
   simp only [QA,oN hI,hg]
   rw [fL hv,eS (by omega),bB (by omega) (by omega) (by omega),qW (by omega),Int.toNat_natCast,hc,←hc]
   rw [show List.replicate (chs DL[i].2).length (⟨#[]⟩:BA)=List.replicate DL[i].2.length (⟨#[]⟩:BA) by rw [hc]]
   rw [fF6 hB _ arr ha _ _ _ _ _ DL[i].2 h1 h2 n (by omega)]
   dsimp only [cF1]
   rw [dV5 n (lns arr DL[i].2) (by rw [p3];omega) h3,Option.bind_some,bX (by simp only [List.length_cons,List.length_nil];omega),aF (by omega) (by omega)]
   rfl)
  (fun m s hs=>by rw [g61_12L.eq_2,KV,u3,bdF (by omega)]) n [] (by omega) rfl
 refine Eq.trans e ?_
 have hf:∀(l:List (Int×List Nat)) (s:List Prt),l.foldl (fun s d=>s++[(d.1,cat (lns arr d.2))]) s=s++l.map fun d=>(d.1,cat (lns arr d.2)):=by
  intro l
  induction l with
  | nil=>intro s;simp
  | cons x l ih=>intro s;rw [List.foldl_cons,ih];simp
 rw [hf];rfl
end
theorem rL (z:BA):aE z=(bl z).map fun b=>(b.toNat:Int):=rfl
theorem dD0 {r:Int} (hv:Utf8.valid r=true) (h:r≠10):∀b∈bl (Utf8.encode r),b.toNat≠10:=by
 obtain ⟨f,t,e,hf,ht⟩:=oL r
 intro b hb hb10
 rw [e] at hb
 rcases List.mem_cons.1 hb with rfl | hb
 ·have hd:=jN r [] (⟨#[]⟩:BA) hv
  have hbl:bl (enc [r]++(⟨#[]⟩:BA))=b::t:=by
   rw [cW,cT,e];simp [nC,bl]
  have hs:(0:Int) < ((enc [r]++(⟨#[]⟩:BA)).size:Int):=by
   rw [←kT,hbl];simp
  have h0:dR (enc [r]++(⟨#[]⟩:BA)) 0=10:=by
   rw [oV (by omega) hs,rL,hbl]
   show ((b.toNat:Nat):Int)=10
   omega
  have h0':((enc [r]++(⟨#[]⟩:BA)).get! 0).toNat=10:=by
   have:(((enc [r]++(⟨#[]⟩:BA)).get! 0).toNat:Int)=10:=h0
   omega
  have:=RU _ 0 10 h0' (by decide)
  rw [hd] at this
  have h1:r.toNat=10:=congrArg Prod.fst this
  have:=fO hv
  omega
 ·have:=(ht b hb).1;omega
theorem eV3:∀{w:List Int},Valids w→(10:Int)∉w→∀b∈aE (enc w),b≠10
 | [],_,_,b,hb=>by simp [nC,aE] at hb
 | r::w,hv,h,b,hb=>by
  rw [rL,cT,List.map_append,←rL (enc w)] at hb
  rcases List.mem_append.1 hb with hb | hb
  ·obtain ⟨x,hx,rfl⟩:=List.mem_map.1 hb
   have:=dD0 hv.cons.1 (fun e=>h (by simp [e])) x hx
   omega
  ·exact eV3 hv.cons.2 (fun hm=>h (by simp [hm])) b hb
def rln:List Int→List Int×List Int
 | []=>([],[])
 | c::t=>if c=10 then ([10],t) else (c::(rln t).1,(rln t).2)
theorem zG:∀q:List Int,(rln q).1++(rln q).2=q∧(q≠[]→(rln q).1≠[])∧((∃w,(rln q).1=w++[10]∧(10:Int)∉w)∨((10:Int)∉(rln q).1∧(rln q).2=[]))
 | []=>⟨rfl,fun h=>absurd rfl h,.inr ⟨by simp [rln],rfl⟩⟩
 | c::t=>by
  obtain ⟨h1,h2,h3⟩:=zG t
  unfold rln
  by_cases e:c=10
  ·subst e
   rw [if_pos rfl]
   exact ⟨rfl,fun _=>by simp,.inl ⟨[],rfl,by simp⟩⟩
  ·rw [if_neg e]
   refine ⟨by simp [h1],fun _=>by simp,?_⟩
   rcases h3 with ⟨w,hw,hn⟩ | ⟨hn,h0⟩
   ·exact .inl ⟨c::w,by simp [hw],by simp [hn];exact fun h=>e h.symm⟩
   ·exact .inr ⟨by simp [hn];exact fun h=>e h.symm,h0⟩
def OY:Nat→List Int→List (List Int)
 | 0,_=>[]
 | n+1,q=>if q=[] then [] else (rln q).1::OY n (rln q).2
def rls (q:List Int):List (List Int):=OY q.length q
theorem HV (p u v:List Int) (j:Nat) (h1:(enc p).size≤j) (h2:j < (enc p).size+(enc u).size):dR (enc (p++(u++v))) (j:Int)=rd (aE (enc u)) ((j - (enc p).size:Nat):Int) 0:=by
 have hsz:(enc (p++(u++v))).size=(enc p).size+((enc u).size+(enc v).size):=by rw [cA,cA]
 rw [oV (by omega) (by omega),aY,bG,aY,bG,lL,lL,List.getD_eq_getElem?_getD,List.getD_eq_getElem?_getD,List.getElem?_append_right (by rw [aL];omega),List.getElem?_append_left (by rw [aL,aL];omega),aL]
theorem bR2 (p u v:List Int) (hp:Valids p) (hu:Valids u) (hv:Valids v) (hne:u≠[]) (h:(∃w,u=w++[10]∧(10:Int)∉w)∨((10:Int)∉u∧v=[])):eZ (enc (p++(u++v))) (enc p).size=(enc p).size+(enc u).size:=by
 have hpos:0 < (enc u).size:=by
  rcases Nat.eq_zero_or_pos (enc u).size with h0 | h0
  ·exact absurd (enc_size_zero.1 h0) hne
  ·exact h0
 have hsz:(enc (p++(u++v))).size=(enc p).size+((enc u).size+(enc v).size):=by rw [cA,cA]
 have hmem:∀j:Nat,j < (aE (enc u)).length→rd (aE (enc u)) (j:Int) 0∈aE (enc u):=fun j hj=>by
  rw [uI (by omega) (by omega)];exact List.getElem_mem _
 refine yP ⟨by omega,by omega,fun j hj hj2=>?_,?_⟩
 ·rw [HV p u v j hj (by omega)]
  rcases h with ⟨w,rfl,hn⟩ | ⟨hn,rfl⟩
  ·have e10:aE (enc ([10]:List Int))=[10]:=by rfl
   have hs:(enc (w++[10])).size=(enc w).size+1:=by rw [cA];rfl
   rw [aY,bG,lL,List.getD_eq_getElem?_getD,List.getElem?_append_left (by rw [aL];omega)]
   have hj3:j - (enc p).size < (aE (enc w)).length:=by rw [aL];omega
   rw [List.getElem?_eq_getElem hj3]
   exact eV3 (fun x hx=>hu x (by simp [hx])) hn _ (List.getElem_mem _)
  ·exact eV3 hu hn _ (hmem _ (by rw [aL];omega))
 ·rcases h with ⟨w,rfl,hn⟩ | ⟨hn,rfl⟩
  ·left
   have hs:(enc (w++[10])).size=(enc w).size+1:=by rw [cA];rfl
   have eb:aE (enc (w++[10]))=aE (enc w)++[10]:=by rw [aY,bG];rfl
   rw [HV p _ v _ (by omega) (by omega),eb,lL,List.getD_eq_getElem?_getD,List.getElem?_append_right (by rw [aL];omega),aL,show (enc p).size+(enc (w++[10])).size - 1 - (enc p).size - (enc w).size=0 by omega]
   rfl
  ·right
   rw [hsz,nC];rfl
theorem bE4:∀(n:Nat) (p q:List Int),q.length≤n→Valids p→Valids q→eF (enc (p++q)) (enc p).size=(OY n q).map enc:=by
 intro n
 induction n with
 | zero=>
  intro p q hq hp hv
  obtain rfl:q=[]:=List.length_eq_zero_iff.1 (by omega)
  rw [List.append_nil,nB (Nat.le_refl _)]
  rfl
 | succ n ih=>
  intro p q hq hp hv
  unfold OY
  by_cases e:q=[]
  ·subst e
   rw [if_pos rfl,List.append_nil,nB (Nat.le_refl _)]
   rfl
  ·obtain ⟨h1,h2,h3⟩:=zG q
   have hu2:=h2 e
   have hsplit:p++q=p++((rln q).1++(rln q).2):=by rw [h1]
   have hvu:Valids (rln q).1:=fun x hx=>hv x (by rw [←h1];simp [hx])
   have hvv:Valids (rln q).2:=fun x hx=>hv x (by rw [←h1];simp [hx])
   have hl:=congrArg List.length h1
   rw [List.length_append] at hl
   have hup:=List.length_pos_iff.2 hu2
   rw [if_neg e,hsplit]
   have hend:=bR2 p (rln q).1 (rln q).2 hp hvu hvv hu2 h3
   have hlt:(enc p).size < (enc (p++((rln q).1++(rln q).2))).size:=by
    rw [cA,cA]
    have:=gH (rln q).1
    omega
   rw [uM hlt,hend,List.map_cons]
   have hs2:(enc p).size+(enc (rln q).1).size=(enc (p++(rln q).1)).size:=by rw [cA]
   congr 1
   ·apply jB
    rw [dW1,aY,cW,aY,cW,List.drop_left' (by rw [kT]),Nat.add_sub_cancel_left,List.take_left' (by rw [kT])]
   ·rw [hs2,←List.append_assoc]
    exact ih _ _ (by omega) (fun x hx=>(List.mem_append.1 hx).elim (hp x) (hvu x)) hvv
theorem YQ (q:List Int) (hv:Valids q):eF (enc q) 0=(rls q).map enc:=bE4 q.length [] q (Nat.le_refl _) Valids.nil hv
theorem nI:∀(n:Nat) (q:List Int),q.length≤n→(OY n q).flatten=q:=by
 intro n
 induction n with
 | zero=>intro q hq;obtain rfl:q=[]:=List.length_eq_zero_iff.1 (by omega);rfl
 | succ n ih=>
  intro q hq
  unfold OY
  by_cases e:q=[]
  ·subst e;rfl
  ·obtain ⟨h1,h2,h3⟩:=zG q
   have hl:=congrArg List.length h1
   rw [List.length_append] at hl
   have hup:=List.length_pos_iff.2 (h2 e)
   rw [if_neg e,List.flatten_cons,ih _ (by omega),h1]
def Rc (arr:List BA) (c:Int):List Int:=bP (arr.getD (toN c.toNat) (⟨#[]⟩:BA))
theorem Pts.rc {arr:List BA} {js:List Nat} {q:List Int} (hv:Valids q) (ha:arr.length≤1110016) (h:Pts arr js (eF (enc q) 0)):(chs js).map (Rc arr)=rls q:=by
 have hl:=h.lns
 have hlt:=h.lt
 rw [YQ q hv] at hl
 have hvs:∀x∈rls q,Valids x:=fun x hx c hc=>hv c (by rw [←nI q.length q (Nat.le_refl _)];exact List.mem_flatten.2 ⟨x,hx,hc⟩)
 unfold chs
 rw [List.map_map]
 have e:js.map (fun j=>bP (arr.getD j (⟨#[]⟩:BA)))=(Go.Proofs.YticibdjilmclgaaDoorZF.lns arr js).map bP:=by unfold Go.Proofs.YticibdjilmclgaaDoorZF.lns;rw [List.map_map];rfl
 rw [show js.map (Rc arr∘fun j=>(ofN j:Int))=js.map (fun j=>bP (arr.getD j (⟨#[]⟩:BA))) from List.map_congr_left fun j hj=>by
  show bP (arr.getD (toN ((ofN j:Nat):Int).toNat) _)=_
  rw [Int.toNat_natCast,QN (by have:=hlt j hj;omega)],e,hl,List.map_map]
 refine (List.map_congr_left (g:=id) fun x hx=>fL (hvs x hx)).trans (List.map_id _)
structure PR (arr:List BA) (c:Int):Prop where
 lt:toN c.toNat < arr.length
 back:(ofN (toN c.toNat):Int)=c
 enc:arr.getD (toN c.toNat) (⟨#[]⟩:BA)=enc (Rc arr c)
 valid:Valids (Rc arr c)
theorem Pts.stands {arr:List BA} {js:List Nat} {q:List Int} (hv:Valids q) (ha:arr.length≤1110016) (h:Pts arr js (eF (Go.Proofs.YticibdjilmclgaaDoorZF.enc q) 0)):∀c∈chs js,PR arr c:=fun c hc=>by
 obtain ⟨j,hj,rfl⟩:=List.mem_map.1 hc
 have hlt:=h.lt j hj
 have ht:toN ((ofN j:Nat):Int).toNat=j:=by rw [Int.toNat_natCast,QN (by omega)]
 have hl:=h.lns
 rw [YQ q hv] at hl
 have hm:arr.getD j (⟨#[]⟩:BA)∈(rls q).map Go.Proofs.YticibdjilmclgaaDoorZF.enc:=by rw [←hl];exact List.mem_map.2 ⟨j,hj,rfl⟩
 obtain ⟨x,hx,hx2⟩:=List.mem_map.1 hm
 have hvx:Valids x:=fun c hc=>hv c (by rw [←nI q.length q (Nat.le_refl _)];exact List.mem_flatten.2 ⟨x,hx,hc⟩)
 have hr:Rc arr (ofN j:Int)=x:=by unfold Rc;rw [ht,←hx2,fL hvx]
 exact ⟨by rw [ht];exact hlt,by rw [ht],by rw [ht,hr];exact hx2.symm,by rw [hr];exact hvx⟩
def tN (arr:List BA) (l:List Rp):List Rp:=l.map fun d=>(d.1,(d.2.map (Rc arr)).flatten)
theorem VR (xs:List (List Int)):enc xs.flatten=cat (xs.map enc):=by
 induction xs with
 | nil=>rfl
 | cons x xs ih=>rw [List.flatten_cons,aY,ih,List.map_cons];exact (E6 [enc x] (xs.map enc) ▸ (by rw [show cat [enc x]=enc x from jB (by rw [PU];simp)]):enc x++cat (xs.map enc)=cat ([enc x]++xs.map enc))
theorem NF:∀{l:List Rp},Ok l→∀d∈l,∀c∈d.2,c∈bM l∨c∈bN l
 | [],_,d,hd,_,_=>by cases hd
 | x::l,ok,d,hd,c,hc=>by
  have hx:=(ok x (by simp)).1
  rcases List.mem_cons.1 hd with rfl | hd
  ·rcases hx with h | h | h <;> simp [bM,bN,h,hc]
  ·have:=NF (fun y hy=>ok y (by simp [hy])) d hd c hc
   rcases hx with h | h | h <;> simp [bM,bN,h] <;> rcases this with h1 | h1 <;> simp [h1]
theorem YG (arr:List BA):∀l:List Rp,bM (tN arr l)=((bM l).map (Rc arr)).flatten
 | []=>rfl
 | d::l=>by
  have:=YG arr l
  unfold tN at this ⊢
  simp only [List.map_cons,bM,this]
  split <;> simp
theorem ZG (arr:List BA):∀l:List Rp,bN (tN arr l)=((bN l).map (Rc arr)).flatten
 | []=>rfl
 | d::l=>by
  have:=ZG arr l
  unfold tN at this ⊢
  simp only [List.map_cons,bN,this]
  split <;> simp
theorem dT9 (n:Nat) (hn:Big≤n) (p0) (arr:List BA) (ha:arr.length≤1110016) (l:List Rp) (hl:l.length≤1000000) (ok:Ok l) (hS:∀c∈bM l,PR arr c) (hT:∀c∈bN l,PR arr c) (hall:cP l≤1000000) (hall2:cP (tN arr l)≤1000000):
  g61 n p0 (M l) arr=some (M (tN arr l),())∧Ok (tN arr l):=by
 have st:∀d∈l,∀c∈d.2,PR arr c:=fun d hd c hc=>(NF ok d hd c hc).elim (hS c) (hT c)
 have e1:M l=(l.map fun d=>(d.1,d.2.map fun c=>toN c.toNat)).map fun d=>(d.1,enc (chs d.2)):=by
  unfold M
  rw [List.map_map]
  refine List.map_congr_left fun d hd=>?_
  show (d.1,enc d.2)=(d.1,enc (chs (d.2.map fun c=>toN c.toNat)))
  congr 2
  unfold chs
  rw [List.map_map]
  exact ((List.map_congr_left fun c hc=>(st d hd c hc).back).trans (List.map_id _)).symm
 have e2:∀d∈l,cat (lns arr (d.2.map fun c=>toN c.toNat))=enc ((d.2.map (Rc arr)).flatten):=fun d hd=>by
  rw [VR]
  unfold lns
  rw [List.map_map,List.map_map]
  congr 1
  exact List.map_congr_left fun c hc=>(st d hd c hc).enc
 have e3:M (tN arr l)=(l.map fun d=>(d.1,d.2.map fun c=>toN c.toNat)).map fun d=>(d.1,cat (lns arr d.2)):=by
  unfold M tN
  rw [List.map_map,List.map_map]
  refine List.map_congr_left fun d hd=>?_
  show (d.1,enc _)=(d.1,_)
  rw [e2 d hd]
 refine ⟨?_,fun d hd=>?_⟩
 ·rw [e1,e3]
  refine eW0 hn p0 arr ha _ (by rw [List.length_map];exact hl) fun d hd=>?_
  obtain ⟨x,hx,rfl⟩:=List.mem_map.1 hd
  have h1:=pC hx
  have h2:=pC (l:=tN arr l) (List.mem_map.2 ⟨x,hx,rfl⟩)
  refine ⟨by show (x.2.map _).length≤_;rw [List.length_map];omega,fun j hj=>?_,?_⟩
  ·obtain ⟨c,hc,rfl⟩:=List.mem_map.1 hj
   exact (st x hx c hc).lt
  ·show (cat (lns arr (x.2.map fun c=>toN c.toNat))).size≤_
   rw [e2 x hx]
   have:=aU ((x.2.map (Rc arr)).flatten)
   have h3:((x.2.map (Rc arr)).flatten).length≤cP (tN arr l):=h2
   omega
 ·obtain ⟨x,hx,rfl⟩:=List.mem_map.1 hd
  refine ⟨(ok x hx).1,fun c hc=>?_⟩
  obtain ⟨y,hy,hc⟩:=List.mem_flatten.1 hc
  obtain ⟨z,hz,rfl⟩:=List.mem_map.1 hy
  exact (st x hx z hz).valid c hc
section
variable (q67:DenA gV→Option (DenR dZ)) (q82:DenA gX→Option (DenR eX)) (aC:DenA eH→Option (DenR dC)) (aB:DenA eL→Option (DenR dE)) (aA:DenA eD→Option (DenR dQ))
theorem dN0 {β:Type} (n:Nat) (hn:Big≤n) (kx3:_→List Prt→Int→List Prt→Option β) (p0) (A T x:List Rp) (hA:A.length+x.length+T.length≤100000000):∀(j m:Nat),j≤x.length→j < m→
  g103_12L n q67 q82 aC aB aA kx3 m p0 (M (A++x.drop j++T)) (A.length:Int) (M x) ((j:Int) - 1)=kx3 p0 (M (A++x++T)) (A.length:Int) (M x):=by
 intro j
 induction j with
 | zero=>
  intro m hj hm
  obtain ⟨m,rfl⟩:∃m',m=m'+1:=⟨m - 1,by omega⟩
  rw [g103_12L.eq_2,CY,bdF (by omega),List.drop_zero]
 | succ j ih=>
  intro m hj hm
  obtain ⟨m,rfl⟩:∃m',m=m'+1:=⟨m - 1,by omega⟩
  have hj':j < x.length:=by omega
  have hmx:=aW x
  have hJ:j < (M x).length:=by omega
  have hg:(M x)[j]=(x[j].1,enc x[j].2):=List.getElem_map _
  have hl:(M (A++x.drop (j+1)++T)).length=A.length+(x.length - (j+1))+T.length:=by rw [aW];simp;omega
  have next:=ih m (by omega) (by omega)
  rw [g103_12L.eq_2,CY,bdT (by omega),aN (by omega) (by omega),show ((j+1:Nat):Int) - 1=(j:Int) by omega,oN hJ,hg]
  have hsp:=jM n hn (M (A++x.drop (j+1)++T)) [(x[j].1,enc x[j].2)] A.length 0 (by omega) (by omega) (by simp)
  rw [show ((0:Nat):Int)=0 from rfl] at hsp
  rw [aT hsp]
  simp only
  rw [aF (n:=(j:Int) - 1) (by omega) (by omega)]
  have e:(M (A++x.drop (j+1)++T)).take A.length++[(x[j].1,enc x[j].2)]++(M (A++x.drop (j+1)++T)).drop (A.length+0)=M (A++x.drop j++T):=by
   have hA':A.length=(M A).length:=(aW A).symm
   rw [List.drop_eq_getElem_cons hj',List.append_assoc A,bW,show A.length+0=(M A).length from hA',hA',List.take_left,List.drop_left]
   simp only [bW,fG,List.append_assoc,List.cons_append,List.nil_append]
  rw [e]
  exact next
theorem dQ2 {β:Type} (n:Nat) (hn:Big≤n) (kn:_→List Prt→Int→Int→Int→BA→BA→Option β) (p0) (A P T:List Rp) (oA:Ok A) (oP:Ok P) (eP:Eds P) (hall:cP P≤100000)
  (hlen:A.length+P.length+T.length+3 * cP P≤10000000)
  (hq:∀a b:List Int,Valids a→Valids b→a.length+b.length≤100000→∃l,q67 (p0,(a,(b,(false,()))))=@some (DenR dZ) (M l,())∧LD a b l):
  ∃X,yA n q67 q82 aC aB aA kn p0 (M (A++P++T)) ((A.length+P.length:Nat):Int) (cdR P:Int) (ciR P:Int) (enc (aZ P)) (enc (aX P)) true=kn p0 (M (A++X++T)) ((A.length+X.length:Nat):Int) 0 0 (⟨#[]⟩:BA) (⟨#[]⟩:BA)∧
   Ok X∧bM X=bM P∧bN X=bN P∧X.length≤P.length+3 * cP P:=by
 have hcc:=uD eP
 obtain ⟨s1,s2⟩:=FD eP
 have hs:=DO P
 have ht:=EH P
 have vd:Valids (aZ P):=by rw [←s1];exact KO oP
 have vi:Valids (aX P):=by rw [←s2];exact HR oP
 have z1:=aU (aZ P)
 have z2:=aU (aX P)
 rw [s1] at hs
 rw [s2] at ht
 have hde:=pX P
 have hee:=AL P
 have same:(cdR P=0∨ciR P=0)→∃X,tG n q67 q82 aC aB aA (fun p0 x8 v9=>tC n q67 q82 aC aB aA kn p0 x8 v9) p0 (M (A++P++T)) ((A.length+P.length:Nat):Int) (cdR P:Int) (ciR P:Int) (enc (aZ P)) (enc (aX P)) false=kn p0 (M (A++X++T)) ((A.length+X.length:Nat):Int) 0 0 (⟨#[]⟩:BA) (⟨#[]⟩:BA)∧
   Ok X∧bM X=bM P∧bN X=bN P∧X.length≤P.length+3 * cP P:=fun _=>⟨P,rfl,oP,rfl,rfl,by omega⟩
 dsimp only [yA,U0]
 by_cases h1:cdR P=0
 ·rw [bdF (by omega)]
  exact same (.inl h1)
 rw [bdT (by omega)]
 by_cases h2:ciR P=0
 ·rw [decide_eq_false (by omega)]
  exact same (.inr h2)
 rw [decide_eq_true (by omega)]
 obtain ⟨l,g1,g2⟩:=hq (aZ P) (aX P) vd vi (by omega)
 have hll:=g2.len
 refine ⟨l,?_,g2.ok,by rw [g2.src,s1],by rw [g2.tgt,s2],by omega⟩
 have hl:(M (A++P++T)).length=A.length+P.length+T.length:=by rw [aW];simp;try omega
 have hsp:=jM n hn (M (A++P++T)) [] A.length P.length (by omega) (by omega) (by simp)
 have e:(M (A++P++T)).take A.length++[]++(M (A++P++T)).drop (A.length+P.length)=M (A++T):=by
  have hA':A.length=(M A).length:=(aW A).symm
  have hP':A.length+P.length=(M (A++P)).length:=by rw [aW];simp
  rw [hP',bW (A++P),List.drop_left,bW A P,hA',List.append_assoc (M A),List.take_left,List.append_nil,←bW]
 have hml:=aW l
 show tG n q67 q82 aC aB aA (fun p0 x8 v9=>tC n q67 q82 aC aB aA kn p0 x8 v9) p0 (M (A++P++T)) ((A.length+P.length:Nat):Int) (cdR P:Int) (ciR P:Int) (enc (aZ P)) (enc (aX P)) true=_
 dsimp only [tG,DM,PW]
 rw [cond_true,aF (n:=((A.length+P.length:Nat):Int) - (cdR P:Int)) (by omega) (by omega),aF (n:=((A.length+P.length:Nat):Int) - (cdR P:Int) - (ciR P:Int)) (by omega) (by omega),aF (n:=(cdR P:Int)+(ciR P:Int)) (by omega) (by omega),
  show ((A.length+P.length:Nat):Int) - (cdR P:Int) - (ciR P:Int)=(A.length:Int) by omega,show (cdR P:Int)+(ciR P:Int)=(P.length:Int) by omega,aT hsp]
 simp only
 rw [e,eS (by omega),eS (by omega),fL vd,fL vi,aT g1]
 simp only
 rw [aF (n:=((M l).length:Int) - 1) (by omega) (by omega),hml]
 dsimp only [UM,SR]
 have hi:=dN0 q67 q82 aC aB aA (β:=β) n hn (fun p0 x8 v9 x14=>DD n q67 q82 aC aB aA (fun p0 x8 v9=>tC n q67 q82 aC aB aA kn p0 x8 v9) p0 x8 v9 x14) p0 A T l (by omega) l.length n (Nat.le_refl _) (by unfold Big at hn;omega)
 rw [List.drop_length,List.append_nil] at hi
 refine hi.trans ?_
 dsimp only [DD,tC]
 rw [hml,aF (by omega) (by omega),show (A.length:Int)+(l.length:Int)=((A.length+l.length:Nat):Int) by omega]
theorem dT8 {β:Type} (n:Nat) (hn:Big≤n) (kx0:List Prt→Option β) (p0)
  (hq:∀a b:List Int,Valids a→Valids b→a.length+b.length≤100000→∃l,q67 (p0,(a,(b,(false,()))))=@some (DenR dZ) (M l,())∧LD a b l):
  ∀(R A P:List Rp) (m:Nat),R.length+1 < m→Ok R→Ok A→Ok P→Eds P→cP P+cP R≤100000→A.length+P.length+R.length+3 * (cP P+cP R)+1≤10000000→
  ∃B,g103_32L n q67 q82 aC aB aA kx0 m p0 (M (A++P++(R++[(0,[])]))) ((A.length+P.length:Nat):Int) (cdR P:Int) (ciR P:Int) (enc (aZ P)) (enc (aX P))=kx0 (M (B++[(0,[])]))∧
   Ok B∧bM B=bM A++bM P++bM R∧bN B=bN A++bN P++bN R∧B.length≤A.length+P.length+R.length+3 * (cP P+cP R):=by
 have atEq:∀(A P T:List Rp) (t:List Int) (m:Nat),Ok A→Ok P→Eds P→cP P≤100000→A.length+P.length+(T.length+1)+3 * cP P≤10000000→
   ∃X,g103_32L n q67 q82 aC aB aA kx0 (m+1) p0 (M (A++P++((0,t)::T))) ((A.length+P.length:Nat):Int) (cdR P:Int) (ciR P:Int) (enc (aZ P)) (enc (aX P))=g103_32L n q67 q82 aC aB aA kx0 m p0 (M (A++X++[(0,t)]++[]++T)) (((A++X++[(0,t)]).length+([]:List Rp).length:Nat):Int) (cdR []:Int) (ciR []:Int) (enc (aZ [])) (enc (aX []))∧
    Ok X∧bM X=bM P∧bN X=bN P∧X.length≤P.length+3 * cP P:=by
  intro A P T t m oA oP eP hall hlen
  have hl:(M (A++P++((0,t)::T))).length=A.length+P.length+(T.length+1):=by rw [aW];simp;try omega
  have hI:A.length+P.length < (M (A++P++((0,t)::T))).length:=by omega
  have hg:(M (A++P++((0,t)::T)))[A.length+P.length]=((0:Int),enc t):=by
   have:(A++P++((0,t)::T))[A.length+P.length]'(by simp)=(0,t):=by
    rw [List.getElem_append_right (by simp)];simp
   exact (List.getElem_map _).trans (by rw [this];rfl)
  obtain ⟨X,g1,g2,g3,g4,g5⟩:=dQ2 q67 q82 aC aB aA (β:=β) n hn (fun p0 x8 v9 v10 v11 v12 v13=>sP n q67 q82 aC aB aA (g103_32L n q67 q82 aC aB aA kx0 m) p0 x8 v9 v10 v11 v12 v13) p0 A P ((0,t)::T) oA oP eP hall (by simp;omega) hq
  refine ⟨X,?_,g2,g3,g4,g5⟩
  rw [g103_32L.eq_2]
  dsimp only [sS,FW,DJ,vY,TQ,DH,yX,PG,vO,sJ,RW,vX,FI,l9,FN]
  rw [bdT (by omega),aN (by omega) (by omega),oN hI,hg]
  refine Eq.trans ?_ (g1.trans ?_)
  ·rfl
  ·dsimp only [sP]
   rw [aF (by omega) (by omega)]
   have e1:A++X++(0,t)::T=A++X++[(0,t)]++[]++T:=by simp
   have e2:((A.length+X.length:Nat):Int)+1=(((A++X++[(0,t)]).length+([]:List Rp).length:Nat):Int):=by simp;omega
   rw [e1,e2]
   rfl
 intro R
 induction R with
 | nil=>
  intro A P m hm oR oA oP eP hall hlen
  obtain ⟨m,rfl⟩:∃m',m=m'+1+1:=⟨m - 2,by simp at hm;omega⟩
  rw [show cP ([]:List Rp)=0 from rfl] at hall hlen
  simp only [List.length_nil,Nat.add_zero] at hlen hall
  obtain ⟨X,g1,g2,g3,g4,g5⟩:=atEq A P [] [] (m+1) oA oP eP (by omega) (by simp;omega)
  refine ⟨A++X,?_,oA.append g2,by rw [bD,g3];simp [bM],by rw [bC,g4];simp [bN],by rw [List.length_append];simp [iH];omega⟩
  rw [List.nil_append,g1,g103_32L.eq_2]
  dsimp only [sS,FW]
  have hl:(M (A++X++[(0,([]:List Int))]++[]++[])).length=A.length+X.length+1:=by rw [aW];simp;omega
  rw [bdF (by rw [hl];simp;omega),List.append_nil,List.append_nil]
 | cons d R ih=>
  intro A P m hm oR oA oP eP hall hlen
  obtain ⟨m,rfl⟩:∃m',m=m'+1:=⟨m - 1,by simp at hm;omega⟩
  have od:=oR d (by simp)
  have oR':Ok R:=fun y hy=>oR y (by simp [hy])
  rw [cC] at hall hlen
  simp only [List.length_cons] at hm hlen
  obtain ⟨k,t⟩:=d
  simp only at hall hlen
  by_cases h0:k=0
  ·subst h0
   obtain ⟨X,g1,g2,g3,g4,g5⟩:=atEq A P (R++[(0,[])]) t m oA oP eP (by omega) (by simp;omega)
   obtain ⟨B,f1,f2,f3,f4,f5⟩:=ih (A++X++[(0,t)]) [] m (by omega) oR' ((oA.append g2).append (fun y hy=>by obtain rfl:=List.mem_singleton.1 hy;exact od)) Ok.nil Eds.nil (by simp [iH];omega) (by simp [iH];omega)
   refine ⟨B,?_,f2,?_,?_,?_⟩
   ·rw [List.cons_append,g1];exact f1
   ·rw [f3,bD,bD,g3];simp [bM]
   ·rw [f4,bC,bC,g4];simp [bN]
   ·simp only [List.length_append,List.length_cons,List.length_nil,iH,cC] at f5 ⊢
    omega
  ·have hk:k= -1∨k=1:=by rcases od.1 with h | h | h <;> simp_all
   have eP':Eds (P++[(k,t)]):=fun y hy=>(List.mem_append.1 hy).elim (eP y) (fun h=>by obtain rfl:=List.mem_singleton.1 h;exact hk)
   have oP':Ok (P++[(k,t)]):=oP.append (fun y hy=>by obtain rfl:=List.mem_singleton.1 hy;exact od)
   have hl:(M (A++P++((k,t)::R++[(0,[])]))).length=A.length+P.length+(R.length+2):=by rw [aW];simp;try omega
   have hI:A.length+P.length < (M (A++P++((k,t)::R++[(0,[])]))).length:=by omega
   have hg:(M (A++P++((k,t)::R++[(0,[])])))[A.length+P.length]=(k,enc t):=by
    have:(A++P++((k,t)::R++[(0,[])]))[A.length+P.length]'(by simp)=(k,t):=by
     rw [List.getElem_append_right (by simp)];simp
    exact (List.getElem_map _).trans (by rw [this];rfl)
   obtain ⟨B,f1,f2,f3,f4,f5⟩:=ih A (P++[(k,t)]) m (by omega) oR' oA oP' eP' (by rw [dP,cC,iH];simp only;omega) (by rw [dP,cC,iH];simp only [List.length_append,List.length_cons,List.length_nil];omega)
   refine ⟨B,?_,f2,?_,?_,?_⟩
   ·have hcc:=uD eP
    obtain ⟨s1,s2⟩:=FD eP
    have hs:=DO P
    have ht:=EH P
    rw [s1] at hs
    rw [s2] at ht
    have z1:=aU (aZ P)
    have z2:=aU (aX P)
    have z3:=aU t
    have e1:A++(P++[(k,t)])++(R++[(0,[])])=A++P++((k,t)::R++[(0,[])]):=by simp
    have e2:((A.length+(P++[(k,t)]).length:Nat):Int)=((A.length+P.length:Nat):Int)+1:=by simp;omega
    rw [e1,e2,mA,mC,mL,mX] at f1
    refine Eq.trans ?_ f1
    rw [g103_32L.eq_2]
    dsimp only [sS,FW,DJ,vY,TQ,DH,yX,PG,vO]
    rw [bdT (by omega),aN (by omega) (by omega),oN hI,hg]
    rcases hk with rfl | rfl
    ·show sJ n q67 q82 aC aB aA _ p0 _ _ _ _ _ _ (-1) false=_
     dsimp only [sJ,RW,vX]
     show RH n q67 q82 aC aB aA _ p0 _ _ _ _ _ _ (-1) true=_
     dsimp only [RH,sP]
     rw [aN (by omega) (by omega)]
     simp only [oN hI,hg]
     rw [bX (by omega),aF (n:=(cdR P:Int)+1) (by omega) (by omega),aF (by omega) (by omega),←aY]
     have q1:aZ [((-1:Int),t)]=t:=by simp [aZ]
     have q2:aX [((-1:Int),t)]=[]:=by simp [aX]
     have q3:cdR [((-1:Int),t)]=1:=by simp [cdR]
     have q4:ciR [((-1:Int),t)]=0:=by simp [ciR]
     rw [q1,q2,q3,q4,List.append_nil,show ((cdR P+1:Nat):Int)=(cdR P:Int)+1 by omega,Nat.add_zero]
    ·show RI n q67 q82 aC aB aA _ p0 _ _ _ _ _ _ 1 true=_
     dsimp only [RI,sP]
     rw [aN (by omega) (by omega)]
     simp only [oN hI,hg]
     rw [bX (by omega),aF (n:=(ciR P:Int)+1) (by omega) (by omega),aF (by omega) (by omega),←aY]
     have q1:aZ [((1:Int),t)]=[]:=by simp [aZ]
     have q2:aX [((1:Int),t)]=t:=by simp [aX]
     have q3:cdR [((1:Int),t)]=0:=by simp [cdR]
     have q4:ciR [((1:Int),t)]=1:=by simp [ciR]
     rw [q1,q2,q3,q4,List.append_nil,show ((ciR P+1:Nat):Int)=(ciR P:Int)+1 by omega,Nat.add_zero]
   ·rw [f3,bD];simp [bM]
   ·rw [f4,bC];simp [bN]
   ·simp only [List.length_append,List.length_cons,List.length_nil,iH,cC,dP] at f5 ⊢
    omega
end
theorem dU3:∀(n:Nat) (q:List Int),(OY n q).length≤q.length:=by
 intro n
 induction n with
 | zero=>intro q;simp [OY]
 | succ n ih=>
  intro q
  unfold OY
  by_cases e:q=[]
  ·subst e;simp
  ·obtain ⟨h1,h2,h3⟩:=zG q
   have hl:=congrArg List.length h1
   rw [List.length_append] at hl
   have hup:=List.length_pos_iff.2 (h2 e)
   have:=ih (rln q).2
   rw [if_neg e,List.length_cons];omega
theorem Pts.len {arr:List BA} {js:List Nat} {q:List Int} (hv:Valids q) (ha:arr.length≤1110016) (h:Pts arr js (eF (Go.Proofs.YticibdjilmclgaaDoorZF.enc q) 0)):js.length≤q.length:=by
 have h1:=congrArg List.length (Pts.rc hv ha h)
 rw [List.length_map,kV] at h1
 have:=dU3 q.length q
 unfold rls at h1
 omega
structure TD (a b:List Int) (l:List Rp):Prop where
 ok:Ok l
 src:bM l=a
 tgt:bN l=b
 len:l.length≤600000
section
variable (q67:DenA gV→Option (DenR dZ)) (q82:DenA gX→Option (DenR eX)) (aC:DenA eH→Option (DenR dC)) (aB:DenA eL→Option (DenR dE)) (aA:DenA eD→Option (DenR dQ))
theorem VU (n:Nat) (hn:Big≤n) (p0) (a b:List Int) (va:Valids a) (vb:Valids b) (la:a.length≤400) (lb:b.length≤400)
  (hq:∀a b:List Int,Valids a→Valids b→a.length+b.length≤100000→∃l,q67 (p0,(a,(b,(false,()))))=@some (DenR dZ) (M l,())∧LD a b l):
  ∃l,N3 n q67 q82 aC aB aA p0 a b=some (M l,())∧TD a b l∧l.length≤503000:=by
 have sa:=aU a
 have sb:=aU b
 obtain ⟨arr,h,ja,jb,e,H,P1,P2,l1⟩:=LC n hn p0 (enc a) (enc b) (by omega) (by omega)
 have c1:=kV ja
 have c2:=kV jb
 have n1:=Pts.len va (by omega) P1
 have n2:=Pts.len vb (by omega) P2
 have wa:Valids (chs ja):=oM fun j hj=>by have:=P1.lt j hj;omega
 have wb:Valids (chs jb):=oM fun j hj=>by have:=P2.lt j hj;omega
 obtain ⟨l,g1,g2⟩:=hq (chs ja) (chs jb) wa wb (by omega)
 have hll:=g2.len
 have hal:=lT (x:=l)
 rw [g2.src,g2.tgt] at hal
 have e1:bM (tN arr l)=a:=by rw [YG,g2.src,Pts.rc va (by omega) P1];exact nI _ _ (Nat.le_refl _)
 have e2:bN (tN arr l)=b:=by rw [ZG,g2.tgt,Pts.rc vb (by omega) P2];exact nI _ _ (Nat.le_refl _)
 have hal2:=lT (x:=tN arr l)
 rw [e1,e2] at hal2
 obtain ⟨k1,k2⟩:=dT9 n hn p0 arr (by omega) l (by omega) g2.ok (by rw [g2.src];exact Pts.stands va (by omega) P1) (by rw [g2.tgt];exact Pts.stands vb (by omega) P2) (by omega) (by omega)
 have hpl:(tN arr l).length=l.length:=List.length_map _
 obtain ⟨y,s1,s2,s3,s4,s5,_⟩:=VN n hn p0 (tN arr l) k2 (by omega) (by omega)
 rw [e1] at s3
 rw [e2] at s4
 have hay:=lT (x:=y)
 rw [s3,s4] at hay
 have hmy:=aW y
 dsimp only [N3,EV,X5]
 have e':g43 n p0 (runesBytes a) (runesBytes b)=some (chs ja,(chs jb,(arr,()))):=e
 rw [aT e']
 simp only
 rw [aT g1]
 simp only
 rw [aT k1]
 simp only
 rw [aT s1]
 simp only
 rw [bX (by simp only [List.length_cons,List.length_nil];omega)]
 dsimp only [TG,SC]
 obtain ⟨B,f1,f2,f3,f4,f5⟩:=dT8 q67 q82 aC aB aA n hn (fun x8=>tD n q67 q82 aC aB aA (fun x6=>@some (DenR dC) (x6,())) x8) p0 hq y [] [] n (by unfold Big at hn;omega) s2 Ok.nil Ok.nil Eds.nil (by simp [iH];omega) (by simp [iH];omega)
 simp only [List.nil_append,List.length_nil,bM,bN,iH,Nat.zero_add] at f3 f4 f5
 refine ⟨B,?_,⟨f2,by rw [f3,s3],by rw [f4,s4],by omega⟩,by omega⟩
 have f1':g103_32L n q67 q82 aC aB aA (fun x8=>tD n q67 q82 aC aB aA (fun x6=>@some (DenR dC) (x6,())) x8) n p0 (M y++[((0:Int),(⟨#[]⟩:BA))]) 0 0 0 (⟨#[]⟩:BA) (⟨#[]⟩:BA)=tD n q67 q82 aC aB aA (fun x6=>@some (DenR dC) (x6,())) (M (B++[(0,[])])):=by
  rw [←f1]
  show _=g103_32L n q67 q82 aC aB aA _ n p0 (M (y++[(0,[])])) _ _ _ _ _
  rw [bW];rfl
 refine Eq.trans f1' ?_
 dsimp only [tD]
 have hl:(M (B++[(0,([]:List Int))])).length=B.length+1:=by rw [aW];simp
 have hmb:=aW B
 rw [hl,aF (by omega) (by omega),bB (by omega) (by omega) (by omega),show (0:Int)+(((B.length+1:Nat):Int) - 1 - 0)=(B.length:Int) by omega,cM,Int.toNat_natCast,bW,←hmb,List.take_left]
 rfl
end
section
variable (q67:DenA gV→Option (DenR dZ)) (q82:DenA gX→Option (DenR eX)) (aC:DenA eH→Option (DenR dC)) (aB:DenA eL→Option (DenR dE)) (aA:DenA eD→Option (DenR dQ))
theorem bV8 (n:Nat) (hn:Big≤n) (p0) (hp:p0.1≤(0:Int)) {a b:List Int} (hla:a.length≤100000) (hlb:b.length≤100000) (h1:100 < a.length) (h2:100 < b.length):
  BZ n q67 q82 aC aB aA p0 a b true=BZ n q67 q82 aC aB aA p0 a b false∨BZ n q67 q82 aC aB aA p0 a b true=(aC (p0,(a,(b,())))).bind fun r=>some (r.1,()):=by
 have ea:¬a=[]:=List.ne_nil_of_length_pos (by omega)
 have eb:¬b=[]:=List.ne_nil_of_length_pos (by omega)
 have hA:∀ln,BZ n q67 q82 aC aB aA p0 a b ln=bif decide ((a.length:Int)>(b.length:Int)) then qM n q67 q82 aC aB aA (fun x8=>@some (DenR [.rw (.pair (.int .i8) .str) 81]) (x8,())) p0 a b ln a b else qM n q67 q82 aC aB aA (fun x8=>@some (DenR [.rw (.pair (.int .i8) .str) 81]) (x8,())) p0 a b ln b a:=fun ln=>by
  dsimp only [BZ,YR,aG4]
  rw [biF (by simp;exact ea),biF (by simp;exact eb)]
 rw [hA true,hA false]
 have key:∀(L S:List Int),S.length≤L.length→L.length≤100000→100 < S.length→qM n q67 q82 aC aB aA (fun x8=>@some (DenR [.rw (.pair (.int .i8) .str) 81]) (x8,())) p0 a b true L S=qM n q67 q82 aC aB aA (fun x8=>@some (DenR [.rw (.pair (.int .i8) .str) 81]) (x8,())) p0 a b false L S∨
   qM n q67 q82 aC aB aA (fun x8=>@some (DenR [.rw (.pair (.int .i8) .str) 81]) (x8,())) p0 a b true L S=(aC (p0,(a,(b,())))).bind fun r=>some (r.1,()):=by
  intro L S hSL hL hS
  rcases uH n hn L S (by omega) (by omega) with ⟨u,v,e,h⟩ | ⟨hno,h⟩
  ·have hB:∃R,∀ln,qM n q67 q82 aC aB aA (fun x8=>@some (DenR [.rw (.pair (.int .i8) .str) 81]) (x8,())) p0 a b ln L S=R:=Exists.intro _ fun ln=>by
    unfold qM
    rw [h,Option.bind_some,biT (by simp)]
   obtain ⟨R,hR⟩:=hB
   exact .inl ((hR true).trans (hR false).symm)
  ·right
   unfold qM
   rw [h,Option.bind_some,biF (by simp),biF (by simp;omega),ZB n p0 a b hp,Option.bind_some,cond_true,bdT (by omega),bdT (by omega)]
 by_cases hgt:a.length>b.length
 ·rw [bdT (by omega),bdT (by omega)]
  exact key a b (by omega) (by omega) (by omega)
 ·rw [bdF (by omega),bdF (by omega)]
  exact key b a (by omega) (by omega) (by omega)
end
theorem bF8 (Q:List Int→List Int→List Rp→Prop) (n:Nat) (hn:Big≤n) (p0) {a b:List Int} (ln:Bool) (ha:Valids a) (hb:Valids b) (hla:a.length≤100000) (hlb:b.length≤100000) (m:Nat)
  (hq:a≠b→∀a' b':List Int,Valids a'→Valids b'→a'.length≤a.length→b'.length≤b.length→a'.length+b'.length≤a.length+b.length→Trim a' b'→(a'≠[]∨b'≠[])→∃l,(aQ n m).2.1 (p0,(a',(b',(ln,()))))=@some (DenR eX) (M l,())∧Ok l∧bM l=a'∧bN l=b'∧l.length≤600000∧Q a' b' l):
  (a=b∧(aQ n (m+1)).1 (p0,(a,(b,(ln,()))))=@some (DenR dZ) (M (bR a),()))∨(a≠b∧∃l pre sf a2 b2,a=pre++(a2++sf)∧b=pre++(b2++sf)∧Valids pre∧Valids sf∧dst a b=dst a2 b2∧Ok l∧bM l=a2∧bN l=b2∧Q a2 b2 l∧
   (aQ n (m+1)).1 (p0,(a,(b,(ln,()))))=@some (DenR dZ) (M (merge (bR pre++l++bR sf)),())):=ZZ (aQ n m).1 (aQ n m).2.1 (aQ n m).2.2.1 (aQ n m).2.2.2.1 (aQ n m).2.2.2.2 Q n hn p0 ln ha hb hla hlb hq
theorem SK (n:Nat) (hn:Big≤n) (p0) (hp:p0.1≤(0:Int)) {a b:List Int} (hla:a.length≤100000) (hlb:b.length≤100000) (h1:100 < a.length) (h2:100 < b.length) (m:Nat):
  (aQ n (m+1)).2.1 (p0,(a,(b,(true,()))))=(aQ n (m+1)).2.1 (p0,(a,(b,(false,()))))∨(aQ n (m+1)).2.1 (p0,(a,(b,(true,()))))=((aQ n m).2.2.1 (p0,(a,(b,())))).bind fun r=>some (r.1,()):=bV8 (aQ n m).1 (aQ n m).2.1 (aQ n m).2.2.1 (aQ n m).2.2.2.1 (aQ n m).2.2.2.2 n hn p0 hp hla hlb h1 h2
theorem SS (n:Nat) (hn:Big≤n) (p0) (hp:p0.1≤(0:Int)) (a b:List Int) (va:Valids a) (vb:Valids b) (la:a.length≤400) (lb:b.length≤400) (m:Nat) (hm:500000≤m):
  ∃l,(aQ n (m+1)).2.2.1 (p0,(a,(b,())))=@some (DenR dC) (M l,())∧TD a b l∧l.length≤503000:=
 VU (aQ n m).1 (aQ n m).2.1 (aQ n m).2.2.1 (aQ n m).2.2.2.1 (aQ n m).2.2.2.2 n hn p0 a b va vb la lb fun a b va vb hl=>by
  obtain ⟨l,h1,h2,_⟩:=KN n hn p0 hp (a.length+b.length) m a b false (.inl rfl) (Nat.le_refl _) (by omega) (by omega) va vb
  exact ⟨l,h1,h2⟩
theorem BX (n:Nat) (hn:Big≤n) (p0) (hp:p0.1≤(0:Int)) (a' b':List Int) (ln:Bool) (hln:ln=false∨a'.length≤100∨b'.length≤100) (ha':Valids a') (hb':Valids b') (hl:a'.length+b'.length≤100000) (ht:Trim a' b') (hne:a'≠[]∨b'≠[]) (m:Nat) (hm:400008≤m):
  ∃l,(aQ n (m+3)).2.1 (p0,(a',(b',(ln,()))))=@some (DenR eX) (M l,())∧LD a' b' l:=by
 refine GP (a:=a') (b:=b') (ln:=ln) (hln:=hln) (p0:=p0) (n:=n) (hn:=hn) (hp:=hp) (ha:=ha') (hb:=hb') (hla:=by omega) (hlb:=by omega) (ht:=ht) (hne:=hne) (hq:=?_) ..
 intro h2a h2b hd2
 rcases NV (p0:=p0) (n:=n) (hn:=hn) (A:=a') (B:=b') (h3:=by omega) (hN:=by omega) (hM:=by omega) (kr:=fun x6=>@some (DenR dE) (x6,())) .. with h | ⟨h,hd⟩
 ·obtain ⟨x,y,ho,h1,h2,h3⟩:=h
  have hx:=ho.hx
  have hy:=ho.hy
  have hs:=ho.sum
  have t1:(a'.take x).length≤a'.length:=by rw [List.length_take];omega
  have t2:(b'.take y).length≤b'.length:=by rw [List.length_take];omega
  have t3:(a'.drop x).length≤a'.length:=by rw [List.length_drop];omega
  have t4:(b'.drop y).length≤b'.length:=by rw [List.length_drop];omega
  obtain ⟨u,u1,u2,_⟩:=KN n hn p0 hp _ m (a'.take x) (b'.take y) false (.inl rfl) (Nat.le_refl _) (by omega) (by omega) (ha'.take _) (hb'.take _)
  obtain ⟨v,v1,v2,_⟩:=KN n hn p0 hp _ m (a'.drop x) (b'.drop y) false (.inl rfl) (Nat.le_refl _) (by omega) (by omega) (ha'.drop _) (hb'.drop _)
  have ul:=u2.len
  have vl:=v2.len
  have hsp:=YV (n:=n) (p0:=p0) (hx:=hx) (hy:=hy) (h1:=u1) (h2:=v1) (hl:=by omega) (aQ n m).1 (aQ n m).2.1 (aQ n m).2.2.1 (aQ n m).2.2.2.1 (aQ n m).2.2.2.2
  have key:LD a' b' (u++v):=by
   refine LD.of (u2.ok.append v2.ok) ?_ ?_ ?_ ?_ (u2.full.append v2.full)
   ·rw [bD,u2.src,v2.src,List.take_append_drop]
   ·rw [bC,u2.tgt,v2.tgt,List.take_append_drop]
   ·rw [cX,u2.ed,v2.ed]
    rw [iS hx hy,iT] at hs
    unfold gt at hs
    omega
   ·rw [List.length_append]
    rw [List.length_take,List.length_take] at ul
    rw [List.length_drop,List.length_drop] at vl
    omega
  refine ⟨u++v,?_,key⟩
  refine Eq.trans h3 ?_
  refine aT hsp
 ·refine ⟨[(-1,a'),(1,b')],h,LD.of (fun d hd'=>?_) ?_ ?_ ?_ ?_ (bJ4 (List.ne_nil_of_length_pos (by omega)) (List.ne_nil_of_length_pos (by omega)))⟩
  ·simp only [List.mem_cons,List.not_mem_nil,or_false] at hd'
   rcases hd' with rfl | rfl
   ·exact ⟨.inl rfl,ha'⟩
   ·exact ⟨.inr (.inr rfl),hb'⟩
  ·show a'++[]=a';simp
  ·show b'++[]=b';simp
  ·show a'.length+(b'.length+0)≤_;omega
  ·simp;omega
theorem dG2 (n:Nat) (hn:Big≤n) (p0) (hp:p0.1≤(0:Int)) (m:Nat) (hm:20000000≤m) (a b:List Int) (ln:Bool) (va:Valids a) (vb:Valids b) (la:a.length≤400) (lb:b.length≤400):
  ∃l,(aQ n m).1 (p0,(a,(b,(ln,()))))=@some (DenR dZ) (M l,())∧TD a b l:=by
 obtain ⟨m,rfl⟩:∃m',m=m'+4:=⟨m - 4,by omega⟩
 rcases bF8 (fun a' b' l=>l.length≤503000) n hn p0 ln va vb (by omega) (by omega) (m+3) (fun hab a' b' va' vb' hla hlb hll ht hne=>by
  by_cases hsm:ln=false∨a'.length≤100∨b'.length≤100
  ·obtain ⟨l,g1,g2⟩:=BX n hn p0 hp a' b' ln hsm va' vb' (by omega) ht hne m (by omega)
   have:=g2.len
   exact ⟨l,g1,g2.ok,g2.src,g2.tgt,by omega,by show l.length≤_;omega⟩
  ·have h1:100 < a'.length:=Nat.lt_of_not_le fun h=>hsm (.inr (.inl h))
   have h2:100 < b'.length:=Nat.lt_of_not_le fun h=>hsm (.inr (.inr h))
   obtain rfl:ln=true:=by
    cases ln
    ·exact absurd (.inl rfl) hsm
    ·rfl
   rcases SK n hn p0 hp (a:=a') (b:=b') (by omega) (by omega) h1 h2 (m+2) with e | e
   ·obtain ⟨l,g1,g2⟩:=BX n hn p0 hp a' b' false (.inl rfl) va' vb' (by omega) ht hne m (by omega)
    have:=g2.len
    exact ⟨l,e.trans g1,g2.ok,g2.src,g2.tgt,by omega,by show l.length≤_;omega⟩
   ·obtain ⟨l,g1,g2,g3⟩:=SS n hn p0 hp a' b' va' vb' (by omega) (by omega) (m+1) (by omega)
    exact ⟨l,e.trans (by rw [aT g1];rfl),g2.ok,g2.src,g2.tgt,by omega,g3⟩) with ⟨rfl,e⟩ | ⟨hab,l,pre,sf,a2,b2,eaf,ebf,vp,vs,hdst,go,gs,gt,g2,e⟩
 ·have he:=jK va
  have:=pL a
  exact ⟨bR a,e,he.1,he.2.1,he.2.2.1,by omega⟩
 ·have hpo:=jK vp
  have hso:=jK vs
  have hxo:Ok (bR pre++l++bR sf):=(hpo.1.append go).append hso.1
  have hxs:bM (bR pre++l++bR sf)=a:=by rw [bD,bD,hpo.2.1,hso.2.1,gs,eaf,List.append_assoc]
  have hxt:bN (bR pre++l++bR sf)=b:=by rw [bC,bC,hpo.2.2.1,hso.2.2.1,gt,ebf,List.append_assoc]
  have hmt:=qQ hxo
  have hall:=lT (x:=bR pre++l++bR sf)
  rw [hxs,hxt] at hall
  have hed:=AL (bR pre++l++bR sf)
  have hml:=JD hxo
  have h1:=hpo.2.2.2.2
  have h2:=hso.2.2.2.2
  refine ⟨_,e,hxo.merge,hmt.1.trans hxs,hmt.2.1.trans hxt,?_⟩
  unfold phi at hml
  simp only [List.length_append] at hml hed hall ⊢
  have:l.length≤503000:=g2
  omega
theorem eT8 (n:Nat) (hn:Big≤n) (a b:List Int) (ln:Bool) (va:Valids a) (vb:Valids b) (la:a.length≤400) (lb:b.length≤400):
  ∃p l,g50 n (false,((0:Int),((0:Int),((0:Nat),((0:Nat),((0:Int),(0:Int)))))))=some (p,())∧g67 n p a b ln=some (M l,())∧TD a b l∧g49 n (M l)=some (M l,()):=by
 obtain ⟨p,hp,hp0⟩:=eW1 n ((0:Int),((0:Int),((0:Nat),((0:Nat),((0:Int),(0:Int))))))
 obtain ⟨l,h1,h2⟩:=dG2 n hn p (Int.le_of_eq hp0) n (by unfold Big at hn;omega) a b ln va vb la lb
 have:=h2.len
 exact ⟨p,l,hp,h1,h2,dX8 n hn l (by omega) h2.ok⟩
theorem O7 (n:Nat) {a b:List Int} {ln:Bool} {p} {l:List Rp} (va:Valids a) (vb:Valids b) (la:a.length≤400) (lb:b.length≤400) (hp:g50 n (false,((0:Int),((0:Int),((0:Nat),((0:Nat),((0:Int),(0:Int)))))))=some (p,())) (h4:g67 n p a b ln=some (M l,())) (hls:g49 n (M l)=some (M l,())):g14 n (enc a) (enc b) ln=some (M l,()):=by
 have sa:=aU a
 have sb:=aU b
 dsimp only [g14,dM8,g35,VV,WR]
 rw [aT hp]
 dsimp only [g51,cU5,g53,w7]
 rw [eS (by omega),eS (by omega),fL va,fL vb,aT h4]
 simp only [Option.bind_some]
 rw [aT hls]
 rfl
theorem VL (n:Nat) {a b:List Int} {ln:Bool} {p} {l:List Rp} (la:a.length≤400) (lb:b.length≤400) (hp:g50 n (false,((0:Int),((0:Int),((0:Nat),((0:Nat),((0:Int),(0:Int)))))))=some (p,())) (h4:g67 n p a b ln=some (M l,())) (hls:g49 n (M l)=some (M l,())):g21 n a b ln=some (M l,()):=by
 dsimp only [g21,cX6,g39,VE,C8,g54,cG6]
 rw [aT hp]
 dsimp only [g53,w7]
 simp only [List.nil_append]
 rw [bX (by show 0+a.length≤_;omega),Option.bind_some,bX (by show 0+b.length≤_;omega),Option.bind_some]
 simp only
 rw [aT h4]
 simp only [Option.bind_some]
 rw [aT hls]
 rfl
end Go.Proofs.YticibdjilmclgaaDoorZF
