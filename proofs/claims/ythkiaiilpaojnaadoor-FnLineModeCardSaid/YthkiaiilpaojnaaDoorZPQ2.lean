/- Plain statements about the printed functions. -/
import Derived.Test.YthkiaiilpaojnaaDoorZPQ0
import Derived.Test.YthkiaiilpaojnaaDoorZPQ1
import Derived.Test.YthkiaiilpaojnaaDoorZGA0
import Derived.Test.YthkiaiilpaojnaaDoorZFB
import Derived.Lib.Join
import Derived.Test.YthkiaiilpaojnaaDoorZGA2
namespace Go.Proofs.YthkiaiilpaojnaaDoorZF
open Go
set_option linter.unusedVariables false
set_option linter.unusedSimpArgs false
def chs (js:List Nat):List Int:=js.map fun j=>(ofN j:Int)
theorem lF (js:List Nat):(chs js).length=js.length:=by simp [chs]
theorem pB {js:List Nat} (h:∀j∈js,j < 1110016):Valids (chs js):=fun c hc=>by
 obtain ⟨j,hj,rfl⟩:=List.mem_map.1 hc
 obtain ⟨h1,h2,_⟩:=NW (h j hj)
 exact CS (by omega)
theorem DO (n:Nat) (hn:Big≤n) (js:List Nat) (hl:js.length≤1000000) (h:∀j∈js,j < 1110016):dZ2 n (js.map (fun j:Nat=>(j:Int)))=some (runesBytes (chs js),()):=by
 have hB:(4611686018427387904:Nat)≤n:=hn
 dsimp only [dZ2,PW,aB1,aK1,X0,i7]
 have hlm:(js.map (fun j:Nat=>(j:Int))).length=js.length:=List.length_map _
 by_cases h0:js=[]
 ·subst h0;rfl
 have hp:=List.length_pos_iff.2 h0
 rw [biF (by rw [beq_eq_false_iff_ne];omega)]
 have e:=vP js (fun m s i=>g155_3L n (fun x3=>some (runesBytes x3,())) m s (js.map (fun j:Nat=>(j:Int))) ((js.map (fun j:Nat=>(j:Int))).length:Int) (i:Int)) (fun s=>some (runesBytes s,())) (fun s j=>s++[(ofN j:Int)]) (fun i s=>s.length=i)
  (fun m s i hi hs=>by
   refine ⟨?_,by simp [hs]⟩
   have hI:i < (js.map (fun j:Nat=>(j:Int))).length:=by omega
   have hg:(js.map (fun j:Nat=>(j:Int)))[i]=(js[i]:Int):=List.getElem_map _
   rw [g155_3L.eq_2,VA,bdT (by omega),aP (by omega) (by omega)]
   simp only [oE hI]
   rw [hg,QS n js[i] (h _ (by simp)),Option.bind_some,cA (by simp only [List.length_cons,List.length_nil];omega),aG (by omega) (by omega)]
   rfl)
  (fun m s hs=>by rw [g155_3L.eq_2,VA,bdF (by omega)]) n [] (by omega) rfl
 refine Eq.trans e ?_
 have hf:∀(l:List Nat) (s:List Int),l.foldl (fun s j=>s++[(ofN j:Int)]) s=s++chs l:=by
  intro l
  induction l with
  | nil=>intro s;simp [chs]
  | cons x l ih=>intro s;rw [List.foldl_cons,ih];simp [chs]
 rw [hf];rfl
theorem N0 (n:Nat) (hn:Big≤n) (p0) (a b:BA) (ha:a.size≤400000) (hb:b.size≤400000):∃(arr:List BA) (h:Hash) (ja jb:List Nat),eE6 n p0 a b=some (runesBytes (chs ja),(runesBytes (chs jb),(arr,())))∧HI arr h∧Pts arr ja (eM a 0)∧Pts arr jb (eM b 0)∧arr.length≤1+a.size+b.size:=by
 dsimp only [eE6,aM0]
 obtain ⟨ja,x,h1,e1,H1,P1,l1⟩:=I8 n hn p0 a (by omega) _ _ HI.start (by simp)
 obtain ⟨jb,y,h2,e2,H2,P2,l2⟩:=I8 n hn p0 b (by omega) _ _ H1 (by simp;omega)
 have hla:=kL a a.size 0 rfl
 have hlb:=kL b b.size 0 rfl
 have P1':=P1.ext y
 have hja:∀j∈ja,j < 1110016:=fun j hj=>by have:=P1.lt j hj;simp at this;omega
 have hjb:∀j∈jb,j < 1110016:=fun j hj=>by have:=P2.lt j hj;simp at this;omega
 rw [aW e1]
 simp only
 rw [aW e2]
 simp only
 rw [DO n hn ja (by rw [P1.length];omega) hja,Option.bind_some,DO n hn jb (by rw [P2.length];omega) hjb,Option.bind_some]
 exact ⟨_,h2,ja,jb,rfl,H2,P1',P2,by simp;omega⟩
theorem MW (n:Nat) (hn:Big≤n) (p0) (a b:BA) (ha:a.size≤400000) (hb:b.size≤400000):∃(arr:List BA) (h:Hash) (ja jb:List Nat),dR9 n p0 a b=some (chs ja,(chs jb,(arr,())))∧HI arr h∧Pts arr ja (eM a 0)∧Pts arr jb (eM b 0)∧arr.length≤1+a.size+b.size:=by
 obtain ⟨arr,h,ja,jb,e,H,P1,P2,l⟩:=N0 n hn p0 a b ha hb
 have hla:=kL a a.size 0 rfl
 have hlb:=kL b b.size 0 rfl
 have va:Valids (chs ja):=pB fun j hj=>by have:=P1.lt j hj;omega
 have vb:Valids (chs jb):=pB fun j hj=>by have:=P2.lt j hj;omega
 have sa:=runesBytes_size_le (chs ja)
 have sb:=runesBytes_size_le (chs jb)
 rw [lF] at sa sb
 have q1:=P1.length
 have q2:=P2.length
 dsimp only [dR9,u3]
 rw [e,Option.bind_some]
 simp only
 rw [fS (by omega),fS (by omega),nH _ va,nH _ vb]
 exact ⟨arr,h,ja,jb,rfl,H,P1,P2,l⟩
def cat (xs:List BA):BA:=⟨(Lib.join (xs.map (·.data.toList)) []).toArray⟩
theorem bR0 (xs:List (List UInt8)):Lib.join xs []=xs.flatten:=by
 cases xs with
 | nil=>rfl
 | cons x r=>
  rw [Lib.join_cons]
  unfold Lib.joinTail
  simp
theorem WX (xs:List BA):bl (cat xs)=(xs.map bl).flatten:=by
 show (Lib.join (xs.map (·.data.toList)) [])=_
 rw [bR0];rfl
theorem eI8 (z:BA) (i e:Nat):bl (bD z (i:Int) (e:Int))=((bl z).drop i).take (e - i):=by
 unfold bl bD
 rw [ByteArray.data_extract]
 simp [Array.toList_extract,List.extract_eq_take_drop]
theorem aG8 (x y:List BA):cat (x++y)=cat x++cat y:=by
 refine jD ?_
 rw [dB,WX,WX,WX,List.map_append,List.flatten_append]
theorem dT0 {α γ:Type} (xs:List α) (f:α→γ) (e:γ) (i:Nat) (hi:i < xs.length):((xs.take i).map f++List.replicate (xs.length - i) e).set i (f xs[i])=(xs.take (i+1)).map f++List.replicate (xs.length - (i+1)) e:=by
 have hl:((xs.take i).map f).length=i:=by rw [List.length_map,List.length_take];omega
 obtain ⟨k,hk⟩:∃k,xs.length - i=k+1:=⟨xs.length - i - 1,by omega⟩
 rw [List.set_append_right _ _ (by omega),hl,Nat.sub_self,hk,List.replicate_succ,List.set_cons_zero,List.take_succ_eq_append_getElem hi,List.map_append,List.append_assoc,show xs.length - (i+1)=k by omega]
 rfl
def lns (arr:List BA) (js:List Nat):List BA:=js.map fun j=>arr.getD j (⟨#[]⟩:BA)
theorem aR2 (arr:List BA) (js:List Nat):(lns arr js).length=js.length:=by simp [lns]
theorem Pts.lns {arr:List BA} {js:List Nat} {L:List BA} (h:Pts arr js L):lns arr js=L:=by
 have e:(Go.Proofs.YthkiaiilpaojnaaDoorZF.lns arr js).map some=L.map some:=by
  rw [←show js.map (fun j=>arr[j]?)=L.map some from h]
  unfold Go.Proofs.YthkiaiilpaojnaaDoorZF.lns
  rw [List.map_map]
  refine List.map_congr_left fun j hj=>?_
  have hlt:=h.lt j hj
  show some (arr.getD j _)=arr[j]?
  rw [List.getD_eq_getElem?_getD,List.getElem?_eq_getElem hlt];rfl
 exact (List.map_inj_right (fun a b hab=>Option.some.inj hab)).1 e
theorem eB6 (n:Nat) (xs:List BA) (hl:xs.length≤1000000000) (hs:(cat xs).size≤1000000000):eI5 n xs (⟨#[]⟩:BA)=some (cat xs,()):=by
 unfold eI5
 have h:(Lib.join (xs.map (·.data.toList)) (⟨#[]⟩:BA).data.toList).length=(cat xs).size:=rfl
 rw [if_pos ⟨by omega,by rw [h];omega⟩]
 rfl
section
variable {n:Nat}
theorem fB6 (hB:(4611686018427387904:Nat)≤n) {β:Type} (kx2) (arr:List BA) (ha:arr.length≤1110016) (s p x17 v18 v19) (js:List Nat) (hl:js.length≤1000000) (hj:∀j∈js,j < arr.length) (M:Nat) (hM:js.length < M):
  g111_5L (β:=β) n kx2 M arr s p (List.replicate js.length (⟨#[]⟩:BA)) x17 v18 v19 (chs js) ((chs js).length:Int) 0=kx2 arr s p (lns arr js) x17 v18 v19:=by
 have hc:=lF js
 have key:∀(d i m:Nat),js.length - i=d→d < m→i≤js.length→g111_5L (β:=β) n kx2 m arr s p ((js.take i).map (fun j=>arr.getD j (⟨#[]⟩:BA))++List.replicate (js.length - i) (⟨#[]⟩:BA)) x17 v18 v19 (chs js) ((chs js).length:Int) (i:Int)=kx2 arr s p (lns arr js) x17 v18 v19:=by
  intro d
  induction d with
  | zero=>
   intro i m hd hm hi
   obtain ⟨m,rfl⟩:∃m',m=m'+1:=⟨m - 1,by omega⟩
   rw [g111_5L.eq_2,RU,bdF (by omega),List.take_of_length_le (by omega),hd,List.replicate_zero,List.append_nil]
   rfl
  | succ d ih=>
   intro i m hd hm hi
   obtain ⟨m,rfl⟩:∃m',m=m'+1:=⟨m - 1,by omega⟩
   have hi':i < js.length:=by omega
   have hI:i < (chs js).length:=by omega
   have hg:(chs js)[i]=(ofN js[i]:Int):=List.getElem_map _
   have hlt:=hj js[i] (by simp)
   have hv:=NW (v:=js[i]) (by omega)
   have next:=ih (i+1) m (by omega) (by omega) (by omega)
   have hrt:cM9 n (ofN js[i]:Int)=some ((js[i]:Int),()):=by rw [XR n (ofN js[i]) (by omega),TQ (by omega)]
   have hsz:((js.take i).map (fun j=>arr.getD j (⟨#[]⟩:BA))++List.replicate (js.length - i) (⟨#[]⟩:BA)).length=js.length:=by simp;omega
   rw [g111_5L.eq_2,RU,bdT (by omega),aP (by omega) (by omega),oE hI,hg,aW hrt]
   simp only
   rw [aP (by omega) (by omega),aP (by omega) (by omega),oE hlt,Int.toNat_natCast,aG (by omega) (by omega)]
   have hf:arr[js[i]]=(fun j=>arr.getD j (⟨#[]⟩:BA)) js[i]:=by
    show _=arr.getD js[i] _
    rw [List.getD_eq_getElem?_getD,List.getElem?_eq_getElem hlt];rfl
   rw [hf,dT0 js (fun j=>arr.getD j (⟨#[]⟩:BA)) (⟨#[]⟩:BA) i hi',show (i:Int)+1=((i+1:Nat):Int) by omega]
   exact next
 exact key js.length 0 M (by omega) hM (by omega)
theorem eR6 (hn:Big≤n) (p0) (arr:List BA) (ha:arr.length≤1110016) (DL:List (Int×List Nat)) (hD:DL.length≤1000000) (hd:∀d∈DL,d.2.length≤1000000∧(∀j∈d.2,j < arr.length)∧(cat (lns arr d.2)).size≤1000000000):
  dO7 n p0 (DL.map fun d=>(d.1,enc (chs d.2))) arr=some (DL.map fun d=>(d.1,cat (lns arr d.2)),()):=by
 have hB:(4611686018427387904:Nat)≤n:=hn
 have hlm:(DL.map fun d=>(d.1,enc (chs d.2))).length=DL.length:=List.length_map _
 dsimp only [dO7,GB,n9,XF,PY,PJ]
 rw [bF (by omega) (by omega) (by omega),sD (by omega)]
 have e:=vP DL (fun m s i=>g111_12L n (fun x6=>some (x6,())) m arr s (DL.map fun d=>(d.1,enc (chs d.2))) ((DL.map fun d=>(d.1,enc (chs d.2))).length:Int) (i:Int)) (fun s=>some (s,())) (fun s d=>s++[(d.1,cat (lns arr d.2))]) (fun i s=>s.length=i)
  (fun m s i hi hs=>by
   refine ⟨?_,by simp [hs]⟩
   have hI:i < (DL.map fun d=>(d.1,enc (chs d.2))).length:=by omega
   have hg:(DL.map fun d=>(d.1,enc (chs d.2)))[i]=(DL[i].1,enc (chs DL[i].2)):=List.getElem_map _
   obtain ⟨h1,h2,h3⟩:=hd DL[i] (by simp)
   have hc:=lF DL[i].2
   have hv:Valids (chs DL[i].2):=pB fun j hj=>by have:=h2 j hj;omega
   have hsz:=aV (chs DL[i].2)
   rw [g111_12L.eq_2,xN,VI,bdT (by omega)]
   dsimp only [aK2,UP,W4,VD,X7,aD5]
   rw [aP (by omega) (by omega)]
   simp only [wR,oE hI,hg]
   rw [gS hv,fS (by omega),bF (by omega) (by omega) (by omega),sD (by omega),Int.toNat_natCast,hc,←hc]
   rw [show List.replicate (chs DL[i].2).length (⟨#[]⟩:BA)=List.replicate DL[i].2.length (⟨#[]⟩:BA) by rw [hc]]
   rw [fB6 hB _ arr ha _ _ _ _ _ DL[i].2 h1 h2 n (by omega)]
   dsimp only [aA9]
   rw [eB6 n (lns arr DL[i].2) (by rw [aR2];omega) h3,Option.bind_some,cA (by simp only [List.length_cons,List.length_nil];omega),aG (by omega) (by omega)]
   rfl)
  (fun m s hs=>by rw [g111_12L.eq_2,xN,VI,bdF (by omega)]) n [] (by omega) rfl
 refine Eq.trans e ?_
 have hf:∀(l:List (Int×List Nat)) (s:List Prt),l.foldl (fun s d=>s++[(d.1,cat (lns arr d.2))]) s=s++l.map fun d=>(d.1,cat (lns arr d.2)):=by
  intro l
  induction l with
  | nil=>intro s;simp
  | cons x l ih=>intro s;rw [List.foldl_cons,ih];simp
 rw [hf];rfl
end
theorem sU (z:BA):aF z=(bl z).map fun b=>(b.toNat:Int):=rfl
theorem dQ4 {r:Int} (hv:Utf8.valid r=true) (h:r≠10):∀b∈bl (Utf8.encode r),b.toNat≠10:=by
 obtain ⟨f,t,e,hf,ht⟩:=pP r
 intro b hb hb10
 rw [e] at hb
 rcases List.mem_cons.1 hb with rfl | hb
 ·have hd:=jR r [] (⟨#[]⟩:BA) hv
  have hbl:bl (enc [r]++(⟨#[]⟩:BA))=b::t:=by
   rw [dB,cZ,e];simp [oB,bl]
  have hs:(0:Int) < ((enc [r]++(⟨#[]⟩:BA)).size:Int):=by
   rw [←lA,hbl];simp
  have h0:byteAt (enc [r]++(⟨#[]⟩:BA)) 0=10:=by
   rw [mT (by omega) hs,sU,hbl]
   show ((b.toNat:Nat):Int)=10
   omega
  have h0':((enc [r]++(⟨#[]⟩:BA)).get! 0).toNat=10:=by
   have:(((enc [r]++(⟨#[]⟩:BA)).get! 0).toNat:Int)=10:=h0
   omega
  have:=VK _ 0 10 h0' (by decide)
  rw [hd] at this
  have h1:r.toNat=10:=congrArg Prod.fst this
  have:=fY hv
  omega
 ·have:=(ht b hb).1;omega
theorem eW3:∀{w:List Int},Valids w→(10:Int)∉w→∀b∈aF (enc w),b≠10
 | [],_,_,b,hb=>by simp [oB,aF] at hb
 | r::w,hv,h,b,hb=>by
  rw [sU,cZ,List.map_append,←sU (enc w)] at hb
  rcases List.mem_append.1 hb with hb | hb
  ·obtain ⟨x,hx,rfl⟩:=List.mem_map.1 hb
   have:=dQ4 hv.cons.1 (fun e=>h (by simp [e])) x hx
   omega
  ·exact eW3 hv.cons.2 (fun hm=>h (by simp [hm])) b hb
def rln:List Int→List Int×List Int
 | []=>([],[])
 | c::t=>if c=10 then ([10],t) else (c::(rln t).1,(rln t).2)
theorem BJ:∀q:List Int,(rln q).1++(rln q).2=q∧(q≠[]→(rln q).1≠[])∧((∃w,(rln q).1=w++[10]∧(10:Int)∉w)∨((10:Int)∉(rln q).1∧(rln q).2=[]))
 | []=>⟨rfl,fun h=>absurd rfl h,.inr ⟨by simp [rln],rfl⟩⟩
 | c::t=>by
  obtain ⟨h1,h2,h3⟩:=BJ t
  unfold rln
  by_cases e:c=10
  ·subst e
   rw [if_pos rfl]
   exact ⟨rfl,fun _=>by simp,.inl ⟨[],rfl,by simp⟩⟩
  ·rw [if_neg e]
   refine ⟨by simp [h1],fun _=>by simp,?_⟩
   rcases h3 with ⟨w,hw,hn⟩ | ⟨hn,h0⟩
   ·exact .inl ⟨c::w,by simp [hw],by simp [hn];exact fun h=>e h.symm⟩
   ·exact .inr ⟨by simp [hn];exact fun h=>e h.symm,h0⟩
def RW:Nat→List Int→List (List Int)
 | 0,_=>[]
 | n+1,q=>if q=[] then [] else (rln q).1::RW n (rln q).2
def rls (q:List Int):List (List Int):=RW q.length q
theorem JC (p u v:List Int) (j:Nat) (h1:(enc p).size≤j) (h2:j < (enc p).size+(enc u).size):byteAt (enc (p++(u++v))) (j:Int)=rd (aF (enc u)) ((j - (enc p).size:Nat):Int) 0:=by
 have hsz:(enc (p++(u++v))).size=(enc p).size+((enc u).size+(enc v).size):=by rw [cD,cD]
 rw [mT (by omega) (by omega),aX,bL,aX,bL,lW,lW,List.getD_eq_getElem?_getD,List.getD_eq_getElem?_getD,List.getElem?_append_right (by rw [aN];omega),List.getElem?_append_left (by rw [aN,aN];omega),aN]
theorem dB8 (p u v:List Int) (hp:Valids p) (hu:Valids u) (hv:Valids v) (hne:u≠[]) (h:(∃w,u=w++[10]∧(10:Int)∉w)∨((10:Int)∉u∧v=[])):fH (enc (p++(u++v))) (enc p).size=(enc p).size+(enc u).size:=by
 have hpos:0 < (enc u).size:=by
  rcases Nat.eq_zero_or_pos (enc u).size with h0 | h0
  ·exact absurd (enc_size_zero.1 h0) hne
  ·exact h0
 have hsz:(enc (p++(u++v))).size=(enc p).size+((enc u).size+(enc v).size):=by rw [cD,cD]
 have hmem:∀j:Nat,j < (aF (enc u)).length→rd (aF (enc u)) (j:Int) 0∈aF (enc u):=fun j hj=>by
  rw [uU (by omega) (by omega)];exact List.getElem_mem _
 refine yU ⟨by omega,by omega,fun j hj hj2=>?_,?_⟩
 ·rw [JC p u v j hj (by omega)]
  rcases h with ⟨w,rfl,hn⟩ | ⟨hn,rfl⟩
  ·have e10:aF (enc ([10]:List Int))=[10]:=by rfl
   have hs:(enc (w++[10])).size=(enc w).size+1:=by rw [cD];rfl
   rw [aX,bL,lW,List.getD_eq_getElem?_getD,List.getElem?_append_left (by rw [aN];omega)]
   have hj3:j - (enc p).size < (aF (enc w)).length:=by rw [aN];omega
   rw [List.getElem?_eq_getElem hj3]
   exact eW3 (fun x hx=>hu x (by simp [hx])) hn _ (List.getElem_mem _)
  ·exact eW3 hu hn _ (hmem _ (by rw [aN];omega))
 ·rcases h with ⟨w,rfl,hn⟩ | ⟨hn,rfl⟩
  ·left
   have hs:(enc (w++[10])).size=(enc w).size+1:=by rw [cD];rfl
   have eb:aF (enc (w++[10]))=aF (enc w)++[10]:=by rw [aX,bL];rfl
   rw [JC p _ v _ (by omega) (by omega),eb,lW,List.getD_eq_getElem?_getD,List.getElem?_append_right (by rw [aN];omega),aN,show (enc p).size+(enc (w++[10])).size - 1 - (enc p).size - (enc w).size=0 by omega]
   rfl
  ·right
   rw [hsz,oB];rfl
theorem cC8:∀(n:Nat) (p q:List Int),q.length≤n→Valids p→Valids q→eM (enc (p++q)) (enc p).size=(RW n q).map enc:=by
 intro n
 induction n with
 | zero=>
  intro p q hq hp hv
  obtain rfl:q=[]:=List.length_eq_zero_iff.1 (by omega)
  rw [List.append_nil,nP (Nat.le_refl _)]
  rfl
 | succ n ih=>
  intro p q hq hp hv
  unfold RW
  by_cases e:q=[]
  ·subst e
   rw [if_pos rfl,List.append_nil,nP (Nat.le_refl _)]
   rfl
  ·obtain ⟨h1,h2,h3⟩:=BJ q
   have hu2:=h2 e
   have hsplit:p++q=p++((rln q).1++(rln q).2):=by rw [h1]
   have hvu:Valids (rln q).1:=fun x hx=>hv x (by rw [←h1];simp [hx])
   have hvv:Valids (rln q).2:=fun x hx=>hv x (by rw [←h1];simp [hx])
   have hl:=congrArg List.length h1
   rw [List.length_append] at hl
   have hup:=List.length_pos_iff.2 hu2
   rw [if_neg e,hsplit]
   have hend:=dB8 p (rln q).1 (rln q).2 hp hvu hvv hu2 h3
   have hlt:(enc p).size < (enc (p++((rln q).1++(rln q).2))).size:=by
    rw [cD,cD]
    have:=gT (rln q).1
    omega
   rw [wH hlt,hend,List.map_cons]
   have hs2:(enc p).size+(enc (rln q).1).size=(enc (p++(rln q).1)).size:=by rw [cD]
   congr 1
   ·apply jD
    rw [eI8,aX,dB,aX,dB,List.drop_left' (by rw [lA]),Nat.add_sub_cancel_left,List.take_left' (by rw [lA])]
   ·rw [hs2,←List.append_assoc]
    exact ih _ _ (by omega) (fun x hx=>(List.mem_append.1 hx).elim (hp x) (hvu x)) hvv
theorem F8 (q:List Int) (hv:Valids q):eM (enc q) 0=(rls q).map enc:=cC8 q.length [] q (Nat.le_refl _) Valids.nil hv
theorem nR:∀(n:Nat) (q:List Int),q.length≤n→(RW n q).flatten=q:=by
 intro n
 induction n with
 | zero=>intro q hq;obtain rfl:q=[]:=List.length_eq_zero_iff.1 (by omega);rfl
 | succ n ih=>
  intro q hq
  unfold RW
  by_cases e:q=[]
  ·subst e;rfl
  ·obtain ⟨h1,h2,h3⟩:=BJ q
   have hl:=congrArg List.length h1
   rw [List.length_append] at hl
   have hup:=List.length_pos_iff.2 (h2 e)
   rw [if_neg e,List.flatten_cons,ih _ (by omega),h1]
def Rc (arr:List BA) (c:Int):List Int:=bS (arr.getD (toN c.toNat) (⟨#[]⟩:BA))
theorem Pts.rc {arr:List BA} {js:List Nat} {q:List Int} (hv:Valids q) (ha:arr.length≤1110016) (h:Pts arr js (eM (enc q) 0)):(chs js).map (Rc arr)=rls q:=by
 have hl:=h.lns
 have hlt:=h.lt
 rw [F8 q hv] at hl
 have hvs:∀x∈rls q,Valids x:=fun x hx c hc=>hv c (by rw [←nR q.length q (Nat.le_refl _)];exact List.mem_flatten.2 ⟨x,hx,hc⟩)
 unfold chs
 rw [List.map_map]
 have e:js.map (fun j=>bS (arr.getD j (⟨#[]⟩:BA)))=(Go.Proofs.YthkiaiilpaojnaaDoorZF.lns arr js).map bS:=by unfold Go.Proofs.YthkiaiilpaojnaaDoorZF.lns;rw [List.map_map];rfl
 rw [show js.map (Rc arr∘fun j=>(ofN j:Int))=js.map (fun j=>bS (arr.getD j (⟨#[]⟩:BA))) from List.map_congr_left fun j hj=>by
  show bS (arr.getD (toN ((ofN j:Nat):Int).toNat) _)=_
  rw [Int.toNat_natCast,TQ (by have:=hlt j hj;omega)],e,hl,List.map_map]
 refine (List.map_congr_left (g:=id) fun x hx=>gS (hvs x hx)).trans (List.map_id _)
structure QT (arr:List BA) (c:Int):Prop where
 lt:toN c.toNat < arr.length
 back:(ofN (toN c.toNat):Int)=c
 enc:arr.getD (toN c.toNat) (⟨#[]⟩:BA)=enc (Rc arr c)
 valid:Valids (Rc arr c)
theorem Pts.stands {arr:List BA} {js:List Nat} {q:List Int} (hv:Valids q) (ha:arr.length≤1110016) (h:Pts arr js (eM (Go.Proofs.YthkiaiilpaojnaaDoorZF.enc q) 0)):∀c∈chs js,QT arr c:=fun c hc=>by
 obtain ⟨j,hj,rfl⟩:=List.mem_map.1 hc
 have hlt:=h.lt j hj
 have ht:toN ((ofN j:Nat):Int).toNat=j:=by rw [Int.toNat_natCast,TQ (by omega)]
 have hl:=h.lns
 rw [F8 q hv] at hl
 have hm:arr.getD j (⟨#[]⟩:BA)∈(rls q).map Go.Proofs.YthkiaiilpaojnaaDoorZF.enc:=by rw [←hl];exact List.mem_map.2 ⟨j,hj,rfl⟩
 obtain ⟨x,hx,hx2⟩:=List.mem_map.1 hm
 have hvx:Valids x:=fun c hc=>hv c (by rw [←nR q.length q (Nat.le_refl _)];exact List.mem_flatten.2 ⟨x,hx,hc⟩)
 have hr:Rc arr (ofN j:Int)=x:=by unfold Rc;rw [ht,←hx2,gS hvx]
 exact ⟨by rw [ht];exact hlt,by rw [ht],by rw [ht,hr];exact hx2.symm,by rw [hr];exact hvx⟩
def uT (arr:List BA) (l:List Rp):List Rp:=l.map fun d=>(d.1,(d.2.map (Rc arr)).flatten)
theorem ZE (xs:List (List Int)):enc xs.flatten=cat (xs.map enc):=by
 induction xs with
 | nil=>rfl
 | cons x xs ih=>rw [List.flatten_cons,aX,ih,List.map_cons];exact (aG8 [enc x] (xs.map enc) ▸ (by rw [show cat [enc x]=enc x from jD (by rw [WX];simp)]):enc x++cat (xs.map enc)=cat ([enc x]++xs.map enc))
theorem OJ:∀{l:List Rp},Ok l→∀d∈l,∀c∈d.2,c∈bQ l∨c∈bP l
 | [],_,d,hd,_,_=>by cases hd
 | x::l,ok,d,hd,c,hc=>by
  have hx:=(ok x (by simp)).1
  rcases List.mem_cons.1 hd with rfl | hd
  ·rcases hx with h | h | h <;> simp [bQ,bP,h,hc]
  ·have:=OJ (fun y hy=>ok y (by simp [hy])) d hd c hc
   rcases hx with h | h | h <;> simp [bQ,bP,h] <;> rcases this with h1 | h1 <;> simp [h1]
theorem J0 (arr:List BA):∀l:List Rp,bQ (uT arr l)=((bQ l).map (Rc arr)).flatten
 | []=>rfl
 | d::l=>by
  have:=J0 arr l
  unfold uT at this ⊢
  simp only [List.map_cons,bQ,this]
  split <;> simp
theorem YX (arr:List BA):∀l:List Rp,bP (uT arr l)=((bP l).map (Rc arr)).flatten
 | []=>rfl
 | d::l=>by
  have:=YX arr l
  unfold uT at this ⊢
  simp only [List.map_cons,bP,this]
  split <;> simp
theorem eI3 (n:Nat) (hn:Big≤n) (p0) (arr:List BA) (ha:arr.length≤1110016) (l:List Rp) (hl:l.length≤1000000) (ok:Ok l) (hS:∀c∈bQ l,QT arr c) (hT:∀c∈bP l,QT arr c) (hall:cT l≤1000000) (hall2:cT (uT arr l)≤1000000):
  dO7 n p0 (M l) arr=some (M (uT arr l),())∧Ok (uT arr l):=by
 have st:∀d∈l,∀c∈d.2,QT arr c:=fun d hd c hc=>(OJ ok d hd c hc).elim (hS c) (hT c)
 have e1:M l=(l.map fun d=>(d.1,d.2.map fun c=>toN c.toNat)).map fun d=>(d.1,enc (chs d.2)):=by
  unfold M
  rw [List.map_map]
  refine List.map_congr_left fun d hd=>?_
  show (d.1,enc d.2)=(d.1,enc (chs (d.2.map fun c=>toN c.toNat)))
  congr 2
  unfold chs
  rw [List.map_map]
  exact ((List.map_congr_left fun c hc=>(st d hd c hc).back).trans (List.map_id _)).symm
 have e2:∀d∈l,cat (lns arr (d.2.map fun c=>toN c.toNat))=enc ((d.2.map (Rc arr)).flatten):=fun d hd=>by
  rw [ZE]
  unfold lns
  rw [List.map_map,List.map_map]
  congr 1
  exact List.map_congr_left fun c hc=>(st d hd c hc).enc
 have e3:M (uT arr l)=(l.map fun d=>(d.1,d.2.map fun c=>toN c.toNat)).map fun d=>(d.1,cat (lns arr d.2)):=by
  unfold M uT
  rw [List.map_map,List.map_map]
  refine List.map_congr_left fun d hd=>?_
  show (d.1,enc _)=(d.1,_)
  rw [e2 d hd]
 refine ⟨?_,fun d hd=>?_⟩
 ·rw [e1,e3]
  refine eR6 hn p0 arr ha _ (by rw [List.length_map];exact hl) fun d hd=>?_
  obtain ⟨x,hx,rfl⟩:=List.mem_map.1 hd
  have h1:=lT hx
  have h2:=lT (l:=uT arr l) (List.mem_map.2 ⟨x,hx,rfl⟩)
  refine ⟨by show (x.2.map _).length≤_;rw [List.length_map];omega,fun j hj=>?_,?_⟩
  ·obtain ⟨c,hc,rfl⟩:=List.mem_map.1 hj
   exact (st x hx c hc).lt
  ·show (cat (lns arr (x.2.map fun c=>toN c.toNat))).size≤_
   rw [e2 x hx]
   have:=aV ((x.2.map (Rc arr)).flatten)
   have h3:((x.2.map (Rc arr)).flatten).length≤cT (uT arr l):=h2
   omega
 ·obtain ⟨x,hx,rfl⟩:=List.mem_map.1 hd
  refine ⟨(ok x hx).1,fun c hc=>?_⟩
  obtain ⟨y,hy,hc⟩:=List.mem_flatten.1 hc
  obtain ⟨z,hz,rfl⟩:=List.mem_map.1 hy
  exact (st x hx z hz).valid c hc
section
variable (q91:DenA iB→Option (DenR fJ)) (aB:DenA eS→Option (DenR dC)) (aC:DenA eO→Option (DenR dL)) (aD:DenA eT→Option (DenR dQ)) (aA:DenA eH→Option (DenR dW))
theorem dS3 {β:Type} (n:Nat) (hn:Big≤n) (kx3:_→List Prt→Int→List Prt→Option β) (p0) (A T x:List Rp) (hA:A.length+x.length+T.length≤100000000):∀(j m:Nat),j≤x.length→j < m→
  g91_12L n q91 aB aC aD aA kx3 m p0 (M (A++x.drop j++T)) (A.length:Int) (M x) ((j:Int) - 1)=kx3 p0 (M (A++x++T)) (A.length:Int) (M x):=by
 intro j
 induction j with
 | zero=>
  intro m hj hm
  obtain ⟨m,rfl⟩:∃m',m=m'+1:=⟨m - 1,by omega⟩
  rw [g91_12L.eq_2,XE,bdF (by omega),List.drop_zero]
 | succ j ih=>
  intro m hj hm
  obtain ⟨m,rfl⟩:∃m',m=m'+1:=⟨m - 1,by omega⟩
  have hj':j < x.length:=by omega
  have hmx:=bA x
  have hJ:j < (M x).length:=by omega
  have hg:(M x)[j]=(x[j].1,enc x[j].2):=List.getElem_map _
  have hl:(M (A++x.drop (j+1)++T)).length=A.length+(x.length - (j+1))+T.length:=by rw [bA];simp;omega
  have next:=ih m (by omega) (by omega)
  rw [g91_12L.eq_2,XE,bdT (by omega),aP (by omega) (by omega),show ((j+1:Nat):Int) - 1=(j:Int) by omega,oE hJ,hg]
  have hsp:=jQ n hn (M (A++x.drop (j+1)++T)) [(x[j].1,enc x[j].2)] A.length 0 (by omega) (by omega) (by simp)
  rw [show ((0:Nat):Int)=0 from rfl] at hsp
  rw [aW hsp]
  simp only
  rw [aG (n:=(j:Int) - 1) (by omega) (by omega)]
  have e:(M (A++x.drop (j+1)++T)).take A.length++[(x[j].1,enc x[j].2)]++(M (A++x.drop (j+1)++T)).drop (A.length+0)=M (A++x.drop j++T):=by
   have hA':A.length=(M A).length:=(bA A).symm
   rw [List.drop_eq_getElem_cons hj',List.append_assoc A,bZ,show A.length+0=(M A).length from hA',hA',List.take_left,List.drop_left]
   simp only [bZ,fO,List.append_assoc,List.cons_append,List.nil_append]
  rw [e]
  exact next
theorem eH2 {β:Type} (n:Nat) (hn:Big≤n) (kn:_→List Prt→Int→Int→Int→BA→BA→Option β) (p0) (A P T:List Rp) (oA:Ok A) (oP:Ok P) (eP:Eds P) (hall:cT P≤100000)
  (hlen:A.length+P.length+T.length+3 * cT P≤10000000)
  (hq:∀a b:List Int,Valids a→Valids b→a.length+b.length≤100000→∃l,aB (p0,(a,(b,(false,()))))=@some (DenR dC) (M l,())∧LD a b l):
  ∃X,KO n q91 aB aC aD aA kn p0 (M (A++P++T)) ((A.length+P.length:Nat):Int) (cdR P:Int) (ciR P:Int) (enc (bC P)) (enc (bB P)) true=kn p0 (M (A++X++T)) ((A.length+X.length:Nat):Int) 0 0 (⟨#[]⟩:BA) (⟨#[]⟩:BA)∧
   Ok X∧bQ X=bQ P∧bP X=bP P∧X.length≤P.length+3 * cT P:=by
 have hcc:=uW eP
 obtain ⟨s1,s2⟩:=GT eP
 have hs:=zP P
 have ht:=AW P
 have vd:Valids (bC P):=by rw [←s1];exact KM oP
 have vi:Valids (bB P):=by rw [←s2];exact MF oP
 have z1:=aV (bC P)
 have z2:=aV (bB P)
 rw [s1] at hs
 rw [s2] at ht
 have hde:=qM P
 have hee:=IR P
 have same:(cdR P=0∨ciR P=0)→∃X,CM n q91 aB aC aD aA (fun p0 x8 v9=>BW n q91 aB aC aD aA kn p0 x8 v9) p0 (M (A++P++T)) ((A.length+P.length:Nat):Int) (cdR P:Int) (ciR P:Int) (enc (bC P)) (enc (bB P)) false=kn p0 (M (A++X++T)) ((A.length+X.length:Nat):Int) 0 0 (⟨#[]⟩:BA) (⟨#[]⟩:BA)∧
   Ok X∧bQ X=bQ P∧bP X=bP P∧X.length≤P.length+3 * cT P:=fun _=>⟨P,rfl,oP,rfl,rfl,by omega⟩
 dsimp only [KO,dU2]
 by_cases h1:cdR P=0
 ·rw [bdF (by omega)]
  exact same (.inl h1)
 rw [bdT (by omega)]
 by_cases h2:ciR P=0
 ·rw [decide_eq_false (by omega)]
  exact same (.inr h2)
 rw [decide_eq_true (by omega)]
 obtain ⟨l,g1,g2⟩:=hq (bC P) (bB P) vd vi (by omega)
 have hll:=g2.len
 refine ⟨l,?_,g2.ok,by rw [g2.src,s1],by rw [g2.tgt,s2],by omega⟩
 have hl:(M (A++P++T)).length=A.length+P.length+T.length:=by rw [bA];simp;try omega
 have hsp:=jQ n hn (M (A++P++T)) [] A.length P.length (by omega) (by omega) (by simp)
 have e:(M (A++P++T)).take A.length++[]++(M (A++P++T)).drop (A.length+P.length)=M (A++T):=by
  have hA':A.length=(M A).length:=(bA A).symm
  have hP':A.length+P.length=(M (A++P)).length:=by rw [bA];simp
  rw [hP',bZ (A++P),List.drop_left,bZ A P,hA',List.append_assoc (M A),List.take_left,List.append_nil,←bZ]
 have hml:=bA l
 show CM n q91 aB aC aD aA (fun p0 x8 v9=>BW n q91 aB aC aD aA kn p0 x8 v9) p0 (M (A++P++T)) ((A.length+P.length:Nat):Int) (cdR P:Int) (ciR P:Int) (enc (bC P)) (enc (bB P)) true=_
 dsimp only [CM,TW,aB5]
 rw [cond_true,aG (n:=((A.length+P.length:Nat):Int) - (cdR P:Int)) (by omega) (by omega),aG (n:=((A.length+P.length:Nat):Int) - (cdR P:Int) - (ciR P:Int)) (by omega) (by omega),aG (n:=(cdR P:Int)+(ciR P:Int)) (by omega) (by omega),
  show ((A.length+P.length:Nat):Int) - (cdR P:Int) - (ciR P:Int)=(A.length:Int) by omega,show (cdR P:Int)+(ciR P:Int)=(P.length:Int) by omega,aW hsp]
 simp only
 rw [e,fS (by omega),fS (by omega),gS vd,gS vi,aW g1]
 simp only
 rw [aG (n:=((M l).length:Int) - 1) (by omega) (by omega),hml]
 dsimp only [aT4,l8]
 have hi:=dS3 q91 aB aC aD aA (β:=β) n hn (fun p0 x8 v9 x14=>UJ n q91 aB aC aD aA (fun p0 x8 v9=>BW n q91 aB aC aD aA kn p0 x8 v9) p0 x8 v9 x14) p0 A T l (by omega) l.length n (Nat.le_refl _) (by unfold Big at hn;omega)
 rw [List.drop_length,List.append_nil] at hi
 refine hi.trans ?_
 dsimp only [UJ,BW]
 rw [hml,aG (by omega) (by omega),show (A.length:Int)+(l.length:Int)=((A.length+l.length:Nat):Int) by omega]
theorem eF0 {β:Type} (n:Nat) (hn:Big≤n) (kx0:List Prt→Option β) (p0)
  (hq:∀a b:List Int,Valids a→Valids b→a.length+b.length≤100000→∃l,aB (p0,(a,(b,(false,()))))=@some (DenR dC) (M l,())∧LD a b l):
  ∀(R A P:List Rp) (m:Nat),R.length+1 < m→Ok R→Ok A→Ok P→Eds P→cT P+cT R≤100000→A.length+P.length+R.length+3 * (cT P+cT R)+1≤10000000→
  ∃B,g91_32L n q91 aB aC aD aA kx0 m p0 (M (A++P++(R++[(0,[])]))) ((A.length+P.length:Nat):Int) (cdR P:Int) (ciR P:Int) (enc (bC P)) (enc (bB P))=kx0 (M (B++[(0,[])]))∧
   Ok B∧bQ B=bQ A++bQ P++bQ R∧bP B=bP A++bP P++bP R∧B.length≤A.length+P.length+R.length+3 * (cT P+cT R):=by
 have atEq:∀(A P T:List Rp) (t:List Int) (m:Nat),Ok A→Ok P→Eds P→cT P≤100000→A.length+P.length+(T.length+1)+3 * cT P≤10000000→
   ∃X,g91_32L n q91 aB aC aD aA kx0 (m+1) p0 (M (A++P++((0,t)::T))) ((A.length+P.length:Nat):Int) (cdR P:Int) (ciR P:Int) (enc (bC P)) (enc (bB P))=g91_32L n q91 aB aC aD aA kx0 m p0 (M (A++X++[(0,t)]++[]++T)) (((A++X++[(0,t)]).length+([]:List Rp).length:Nat):Int) (cdR []:Int) (ciR []:Int) (enc (bC [])) (enc (bB []))∧
    Ok X∧bQ X=bQ P∧bP X=bP P∧X.length≤P.length+3 * cT P:=by
  intro A P T t m oA oP eP hall hlen
  have hl:(M (A++P++((0,t)::T))).length=A.length+P.length+(T.length+1):=by rw [bA];simp;try omega
  have hI:A.length+P.length < (M (A++P++((0,t)::T))).length:=by omega
  have hg:(M (A++P++((0,t)::T)))[A.length+P.length]=((0:Int),enc t):=by
   have:(A++P++((0,t)::T))[A.length+P.length]'(by simp)=(0,t):=by
    rw [List.getElem_append_right (by simp)];simp
   exact (List.getElem_map _).trans (by rw [this];rfl)
  obtain ⟨X,g1,g2,g3,g4,g5⟩:=eH2 q91 aB aC aD aA (β:=β) n hn (fun p0 x8 v9 v10 v11 v12 v13=>BY n q91 aB aC aD aA (g91_32L n q91 aB aC aD aA kx0 m) p0 x8 v9 v10 v11 v12 v13) p0 A P ((0,t)::T) oA oP eP hall (by simp;omega) hq
  refine ⟨X,?_,g2,g3,g4,g5⟩
  rw [g91_32L.eq_2]
  dsimp only [CT,ZR,VX,LQ,bO2,TC,LW,aY2,HV,CV,bE8,LZ,XP,cR9,SB]
  rw [bdT (by omega),aP (by omega) (by omega),oE hI,hg]
  refine Eq.trans ?_ (g1.trans ?_)
  ·rfl
  ·dsimp only [BY]
   rw [aG (by omega) (by omega)]
   have e1:A++X++(0,t)::T=A++X++[(0,t)]++[]++T:=by simp
   have e2:((A.length+X.length:Nat):Int)+1=(((A++X++[(0,t)]).length+([]:List Rp).length:Nat):Int):=by simp;omega
   rw [e1,e2]
   rfl
 intro R
 induction R with
 | nil=>
  intro A P m hm oR oA oP eP hall hlen
  obtain ⟨m,rfl⟩:∃m',m=m'+1+1:=⟨m - 2,by simp at hm;omega⟩
  rw [show cT ([]:List Rp)=0 from rfl] at hall hlen
  simp only [List.length_nil,Nat.add_zero] at hlen hall
  obtain ⟨X,g1,g2,g3,g4,g5⟩:=atEq A P [] [] (m+1) oA oP eP (by omega) (by simp;omega)
  refine ⟨A++X,?_,oA.append g2,by rw [bI,g3];simp [bQ],by rw [bH,g4];simp [bP],by rw [List.length_append];simp [iY];omega⟩
  rw [List.nil_append,g1,g91_32L.eq_2]
  dsimp only [CT,ZR]
  have hl:(M (A++X++[(0,([]:List Int))]++[]++[])).length=A.length+X.length+1:=by rw [bA];simp;omega
  rw [bdF (by rw [hl];simp;omega),List.append_nil,List.append_nil]
 | cons d R ih=>
  intro A P m hm oR oA oP eP hall hlen
  obtain ⟨m,rfl⟩:∃m',m=m'+1:=⟨m - 1,by simp at hm;omega⟩
  have od:=oR d (by simp)
  have oR':Ok R:=fun y hy=>oR y (by simp [hy])
  rw [cE] at hall hlen
  simp only [List.length_cons] at hm hlen
  obtain ⟨k,t⟩:=d
  simp only at hall hlen
  by_cases h0:k=0
  ·subst h0
   obtain ⟨X,g1,g2,g3,g4,g5⟩:=atEq A P (R++[(0,[])]) t m oA oP eP (by omega) (by simp;omega)
   obtain ⟨B,f1,f2,f3,f4,f5⟩:=ih (A++X++[(0,t)]) [] m (by omega) oR' ((oA.append g2).append (fun y hy=>by obtain rfl:=List.mem_singleton.1 hy;exact od)) Ok.nil Eds.nil (by simp [iY];omega) (by simp [iY];omega)
   refine ⟨B,?_,f2,?_,?_,?_⟩
   ·rw [List.cons_append,g1];exact f1
   ·rw [f3,bI,bI,g3];simp [bQ]
   ·rw [f4,bH,bH,g4];simp [bP]
   ·simp only [List.length_append,List.length_cons,List.length_nil,iY,cE] at f5 ⊢
    omega
  ·have hk:k= -1∨k=1:=by rcases od.1 with h | h | h <;> simp_all
   have eP':Eds (P++[(k,t)]):=fun y hy=>(List.mem_append.1 hy).elim (eP y) (fun h=>by obtain rfl:=List.mem_singleton.1 h;exact hk)
   have oP':Ok (P++[(k,t)]):=oP.append (fun y hy=>by obtain rfl:=List.mem_singleton.1 hy;exact od)
   have hl:(M (A++P++((k,t)::R++[(0,[])]))).length=A.length+P.length+(R.length+2):=by rw [bA];simp;try omega
   have hI:A.length+P.length < (M (A++P++((k,t)::R++[(0,[])]))).length:=by omega
   have hg:(M (A++P++((k,t)::R++[(0,[])])))[A.length+P.length]=(k,enc t):=by
    have:(A++P++((k,t)::R++[(0,[])]))[A.length+P.length]'(by simp)=(k,t):=by
     rw [List.getElem_append_right (by simp)];simp
    exact (List.getElem_map _).trans (by rw [this];rfl)
   obtain ⟨B,f1,f2,f3,f4,f5⟩:=ih A (P++[(k,t)]) m (by omega) oR' oA oP' eP' (by rw [dV,cE,iY];simp only;omega) (by rw [dV,cE,iY];simp only [List.length_append,List.length_cons,List.length_nil];omega)
   refine ⟨B,?_,f2,?_,?_,?_⟩
   ·have hcc:=uW eP
    obtain ⟨s1,s2⟩:=GT eP
    have hs:=zP P
    have ht:=AW P
    rw [s1] at hs
    rw [s2] at ht
    have z1:=aV (bC P)
    have z2:=aV (bB P)
    have z3:=aV t
    have e1:A++(P++[(k,t)])++(R++[(0,[])])=A++P++((k,t)::R++[(0,[])]):=by simp
    have e2:((A.length+(P++[(k,t)]).length:Nat):Int)=((A.length+P.length:Nat):Int)+1:=by simp;omega
    rw [e1,e2,mL,mK,mZ,nO] at f1
    refine Eq.trans ?_ f1
    rw [g91_32L.eq_2]
    dsimp only [CT,ZR,VX,LQ,bO2,TC,LW,aY2,HV]
    rw [bdT (by omega),aP (by omega) (by omega),oE hI,hg]
    rcases hk with rfl | rfl
    ·show CV n q91 aB aC aD aA _ p0 _ _ _ _ _ _ (-1) false=_
     dsimp only [CV,bE8,LZ]
     show bA4 n q91 aB aC aD aA _ p0 _ _ _ _ _ _ (-1) true=_
     dsimp only [bA4,BY]
     rw [aP (by omega) (by omega)]
     simp only [oE hI,hg]
     rw [cA (by omega),aG (n:=(cdR P:Int)+1) (by omega) (by omega),aG (by omega) (by omega),←aX]
     have q1:bC [((-1:Int),t)]=t:=by simp [bC]
     have q2:bB [((-1:Int),t)]=[]:=by simp [bB]
     have q3:cdR [((-1:Int),t)]=1:=by simp [cdR]
     have q4:ciR [((-1:Int),t)]=0:=by simp [ciR]
     rw [q1,q2,q3,q4,List.append_nil,show ((cdR P+1:Nat):Int)=(cdR P:Int)+1 by omega,Nat.add_zero]
    ·show bH0 n q91 aB aC aD aA _ p0 _ _ _ _ _ _ 1 true=_
     dsimp only [bH0,BY]
     rw [aP (by omega) (by omega)]
     simp only [oE hI,hg]
     rw [cA (by omega),aG (n:=(ciR P:Int)+1) (by omega) (by omega),aG (by omega) (by omega),←aX]
     have q1:bC [((1:Int),t)]=[]:=by simp [bC]
     have q2:bB [((1:Int),t)]=t:=by simp [bB]
     have q3:cdR [((1:Int),t)]=0:=by simp [cdR]
     have q4:ciR [((1:Int),t)]=1:=by simp [ciR]
     rw [q1,q2,q3,q4,List.append_nil,show ((ciR P+1:Nat):Int)=(ciR P:Int)+1 by omega,Nat.add_zero]
   ·rw [f3,bI];simp [bQ]
   ·rw [f4,bH];simp [bP]
   ·simp only [List.length_append,List.length_cons,List.length_nil,iY,cE,dV] at f5 ⊢
    omega
end
theorem eB8:∀(n:Nat) (q:List Int),(RW n q).length≤q.length:=by
 intro n
 induction n with
 | zero=>intro q;simp [RW]
 | succ n ih=>
  intro q
  unfold RW
  by_cases e:q=[]
  ·subst e;simp
  ·obtain ⟨h1,h2,h3⟩:=BJ q
   have hl:=congrArg List.length h1
   rw [List.length_append] at hl
   have hup:=List.length_pos_iff.2 (h2 e)
   have:=ih (rln q).2
   rw [if_neg e,List.length_cons];omega
theorem Pts.len {arr:List BA} {js:List Nat} {q:List Int} (hv:Valids q) (ha:arr.length≤1110016) (h:Pts arr js (eM (Go.Proofs.YthkiaiilpaojnaaDoorZF.enc q) 0)):js.length≤q.length:=by
 have h1:=congrArg List.length (Pts.rc hv ha h)
 rw [List.length_map,lF] at h1
 have:=eB8 q.length q
 unfold rls at h1
 omega
structure TD (a b:List Int) (l:List Rp):Prop where
 ok:Ok l
 src:bQ l=a
 tgt:bP l=b
 len:l.length≤600000
theorem LD.td {a b:List Int} {l:List Rp} (h:LD a b l) (hl:a.length+b.length≤100000):TD a b l:=⟨h.ok,h.src,h.tgt,by have:=h.len;omega⟩
section
variable (q91:DenA iB→Option (DenR fJ)) (aB:DenA eS→Option (DenR dC)) (aC:DenA eO→Option (DenR dL)) (aD:DenA eT→Option (DenR dQ)) (aA:DenA eH→Option (DenR dW))
theorem P9 (n:Nat) (hn:Big≤n) (p0) (a b:List Int) (va:Valids a) (vb:Valids b) (la:a.length≤400) (lb:b.length≤400)
  (hq:∀a b:List Int,Valids a→Valids b→a.length+b.length≤100000→∃l,aB (p0,(a,(b,(false,()))))=@some (DenR dC) (M l,())∧LD a b l):
  ∃l,dS1 n q91 aB aC aD aA p0 a b=some (M l,())∧TD a b l∧l.length≤503000:=by
 have sa:=aV a
 have sb:=aV b
 obtain ⟨arr,h,ja,jb,e,H,P1,P2,l1⟩:=MW n hn p0 (enc a) (enc b) (by omega) (by omega)
 have c1:=lF ja
 have c2:=lF jb
 have n1:=Pts.len va (by omega) P1
 have n2:=Pts.len vb (by omega) P2
 have wa:Valids (chs ja):=pB fun j hj=>by have:=P1.lt j hj;omega
 have wb:Valids (chs jb):=pB fun j hj=>by have:=P2.lt j hj;omega
 obtain ⟨l,g1,g2⟩:=hq (chs ja) (chs jb) wa wb (by omega)
 have hll:=g2.len
 have hal:=lX (x:=l)
 rw [g2.src,g2.tgt] at hal
 have e1:bQ (uT arr l)=a:=by rw [J0,g2.src,Pts.rc va (by omega) P1];exact nR _ _ (Nat.le_refl _)
 have e2:bP (uT arr l)=b:=by rw [YX,g2.tgt,Pts.rc vb (by omega) P2];exact nR _ _ (Nat.le_refl _)
 have hal2:=lX (x:=uT arr l)
 rw [e1,e2] at hal2
 obtain ⟨k1,k2⟩:=eI3 n hn p0 arr (by omega) l (by omega) g2.ok (by rw [g2.src];exact Pts.stands va (by omega) P1) (by rw [g2.tgt];exact Pts.stands vb (by omega) P2) (by omega) (by omega)
 have hpl:(uT arr l).length=l.length:=List.length_map _
 obtain ⟨y,s1,s2,s3,s4,s5,_⟩:=K8 n hn p0 (uT arr l) k2 (by omega) (by omega)
 rw [e1] at s3
 rw [e2] at s4
 have hay:=lX (x:=y)
 rw [s3,s4] at hay
 have hmy:=bA y
 dsimp only [dS1,UL,dL8]
 have e':dR9 n p0 (runesBytes a) (runesBytes b)=some (chs ja,(chs jb,(arr,()))):=e
 rw [aW e']
 simp only
 rw [aW g1]
 simp only
 rw [aW k1]
 simp only
 rw [aW s1]
 simp only
 rw [cA (by simp only [List.length_cons,List.length_nil];omega)]
 dsimp only [q8,aI9]
 obtain ⟨B,f1,f2,f3,f4,f5⟩:=eF0 q91 aB aC aD aA n hn (fun x8=>DD n q91 aB aC aD aA (fun x6=>@some (DenR fJ) (x6,())) x8) p0 hq y [] [] n (by unfold Big at hn;omega) s2 Ok.nil Ok.nil Eds.nil (by simp [iY];omega) (by simp [iY];omega)
 simp only [List.nil_append,List.length_nil,bQ,bP,iY,Nat.zero_add] at f3 f4 f5
 refine ⟨B,?_,⟨f2,by rw [f3,s3],by rw [f4,s4],by omega⟩,by omega⟩
 have f1':g91_32L n q91 aB aC aD aA (fun x8=>DD n q91 aB aC aD aA (fun x6=>@some (DenR fJ) (x6,())) x8) n p0 (M y++[((0:Int),(⟨#[]⟩:BA))]) 0 0 0 (⟨#[]⟩:BA) (⟨#[]⟩:BA)=DD n q91 aB aC aD aA (fun x6=>@some (DenR fJ) (x6,())) (M (B++[(0,[])])):=by
  rw [←f1]
  show _=g91_32L n q91 aB aC aD aA _ n p0 (M (y++[(0,[])])) _ _ _ _ _
  rw [bZ];rfl
 refine Eq.trans f1' ?_
 dsimp only [DD]
 have hl:(M (B++[(0,([]:List Int))])).length=B.length+1:=by rw [bA];simp
 have hmb:=bA B
 rw [hl,aG (by omega) (by omega),bF (by omega) (by omega) (by omega),show (0:Int)+(((B.length+1:Nat):Int) - 1 - 0)=(B.length:Int) by omega,cP,Int.toNat_natCast,bZ,←hmb,List.take_left]
 rfl
end
section
variable (q91:DenA iB→Option (DenR fJ)) (aB:DenA eS→Option (DenR dC)) (aC:DenA eO→Option (DenR dL)) (aD:DenA eT→Option (DenR dQ)) (aA:DenA eH→Option (DenR dW))
end
theorem WQ (n:Nat) (hn:Big≤n) (p0) (hp:p0.1≤(0:Int)) (a b:List Int) (va:Valids a) (vb:Valids b) (la:a.length≤400) (lb:b.length≤400) (m:Nat) (hm:500000≤m):
  ∃l,(bE n (m+1)).1 (p0,(a,(b,())))=@some (DenR fJ) (M l,())∧TD a b l∧l.length≤503000:=
 P9 (bE n m).1 (bE n m).2.1 (bE n m).2.2.1 (bE n m).2.2.2.1 (bE n m).2.2.2.2 n hn p0 a b va vb la lb fun a b va vb hl=>by
  obtain ⟨l,h1,h2,_⟩:=dM2 n hn p0 hp (a.length+b.length) m a b false (.inl rfl) (Nat.le_refl _) (by omega) (by omega) va vb
  exact ⟨l,h1,h2⟩
end Go.Proofs.YthkiaiilpaojnaaDoorZF
