/- Plain statements about the printed functions. -/
import Derived.Test.YtfnjlgflbenfoaaDoorHFB
import Derived.Test.YtfnjlgflbenfoaaDoorHGA0
namespace Go.Proofs.YtfnjlgflbenfoaaDoorHF
open Go
set_option linter.unusedVariables false
set_option linter.unusedSimpArgs false
def Big:Nat:=4611686018427387904
section
variable {β:Type}
theorem eT {n:Int} (h0: -9223372036854775808≤n) (h1:n < 9223372036854775808):w64 n=n:=by
 unfold w64 IntKind.wrap;simp [IntKind.bits,IntKind.signed];omega
theorem eY {i n:Int} {κ:Option β} (h0:0≤i) (h1:i < n):idx i n κ=κ:=by simp [idx,h0,h1]
theorem KQ {a b n:Int} {κ:Option β} (h0:0≤a) (h1:a≤b) (h2:b≤n):bnd a b n κ=κ:=by simp [bnd,h0,h1,h2]
theorem cS {n:Nat} {κ:Option β} (h:n≤1099511627776):cM n κ=κ:=by simp [cM,h]
theorem EU {z:BA} {κ:Option β} (h:z.size≤70368744177664):xF z κ=κ:=by
 have:Nat.ble z.size 70368744177664=true:=by rw [Nat.ble_eq];exact h
 simp [xF,this]
theorem biT {γ:Type} {c:Bool} {x y:γ} (h:c=true):(bif c then x else y)=x:=by rw [h];rfl
theorem biF {γ:Type} {c:Bool} {x y:γ} (h:c=false):(bif c then x else y)=y:=by rw [h];rfl
theorem bdT {γ:Type} {p:Prop} [Decidable p] {x y:γ} (h:p):(bif decide p then x else y)=x:=by rw [decide_eq_true h];rfl
theorem bdF {γ:Type} {p:Prop} [Decidable p] {x y:γ} (h:¬p):(bif decide p then x else y)=y:=by rw [decide_eq_false h];rfl
theorem bP {γ δ:Type} {o:Option γ} {a:γ} {f:γ→Option δ} (h:o=some a):o.bind f=f a:=by rw [h];rfl
end
theorem VF {α:Type} {xs:List α} {i:Int} {d:α} (h0:0≤i) (h1:i < xs.length):rd xs i d=xs[i.toNat]'(by omega):=by
 unfold rd;rw [List.getD_eq_getElem?_getD,List.getElem?_eq_getElem (by omega)];rfl
theorem TT {α:Type} {xs:List α} {n:Nat} {d:α}:rd xs (n:Int) d=xs.getD n d:=by simp [rd]
theorem MO {α:Type} (xs:List α) (b:Int):cut xs 0 b=xs.take b.toNat:=by simp [cut]
theorem sZ {x y:BA} (h:x.data.toList=y.data.toList):x=y:=by
 obtain ⟨⟨x⟩⟩:=x;obtain ⟨⟨y⟩⟩:=y;simp only at h;rw [h]
theorem cE (z:BA):(aL z).length=z.size:=by unfold aL;rw [List.length_map];rfl
theorem mH {x y:BA} (h:aL x=aL y):x=y:=by
 refine sZ ?_
 unfold aL at h
 exact (List.map_inj_right (fun a b hab=>UInt8.toNat_inj.1 (by exact_mod_cast hab))).1 h
theorem uW (x y:BA):fA x y=decide (x=y):=by
 unfold fA
 have e:∀z:BA,z.toList=z.data.toList:=fun z=>by
  have key:∀(l:List UInt8) (k:Nat) (acc:List UInt8),(k≤l.length)→ByteArray.toList.loop ⟨⟨l⟩⟩ k acc=acc.reverse++l.drop k:=by
   intro l k acc hk
   induction hj:l.length - k generalizing k acc with
   | zero=>
    unfold ByteArray.toList.loop
    have:¬k < (ByteArray.mk ⟨l⟩).size:=by show ¬k < l.length;omega
    rw [if_neg this,List.drop_eq_nil_of_le (by omega)];simp
   | succ j ih=>
    unfold ByteArray.toList.loop
    have h1:k < l.length:=by omega
    have:k < (ByteArray.mk ⟨l⟩).size:=h1
    rw [if_pos this,ih (k+1) _ (by omega) (by omega)]
    have hg:(ByteArray.mk ⟨l⟩).get! k=l[k]:=by
     show (Array.mk l)[k]! =l[k]
     rw [getElem!_pos (Array.mk l) k (by simpa using h1)];simp
    rw [hg,List.drop_eq_getElem_cons h1];simp
  obtain ⟨⟨l⟩⟩:=z
  unfold ByteArray.toList
  rw [key l 0 [] (Nat.zero_le _)];simp
 rw [e,e]
 by_cases h:x=y
 ·subst h;simp
 ·simp only [h,decide_false]
  exact beq_false_of_ne (fun h'=>h (sZ h'))
theorem eR (x y:BA):aL (x++y)=aL x++aL y:=by
 unfold aL;rw [ByteArray.data_append,Array.toList_append,List.map_append]
theorem size_append (x y:BA):(x++y).size=x.size+y.size:=by rw [←cE,eR];simp [cE]
theorem tQ (z:BA) (a b:Int):aL (jE z a b)=cut (aL z) a b:=by
 unfold aL jE cut
 rw [ByteArray.data_extract,←List.map_drop,←List.map_take]
 congr 1
 simp [Array.toList_extract,List.extract_eq_take_drop]
theorem rV {z:BA} {i:Int} (h0:0≤i) (h1:i < z.size):byteAt z i=rd (aL z) i 0:=by
 have hl:=cE z
 rw [VF h0 (by omega)]
 unfold byteAt aL
 rw [List.getElem_map]
 congr 2
 show z.data[i.toNat]! =_
 rw [getElem!_pos z.data i.toNat (by show i.toNat < z.size;omega)]
 simp
theorem qF {z:BA}:∀b∈aL z,0≤b∧b < 256:=by
 intro b hb
 unfold aL at hb
 obtain ⟨u,_,rfl⟩:=List.mem_map.1 hb
 have:=u.toNat_lt
 omega
theorem jV (z:BA):strOfNums (aL z)=z:=by
 refine sZ ?_
 rw [strOfNums_data];unfold aL
 rw [List.map_map]
 refine (List.map_congr_left (fun u _=>?_)).trans (List.map_id _)
 simp
theorem jT {xs:List Int} (h:∀b∈xs,0≤b∧b < 256):aL (strOfNums xs)=xs:=by
 unfold aL
 rw [strOfNums_data,List.map_map]
 refine (List.map_congr_left (fun u hu=>?_)).trans (List.map_id _)
 have:=h u hu
 simp [UInt8.toNat_ofNat']
 omega
theorem yC {α σ β:Type} (xs:List α) (F:Nat→σ→Nat→Option β) (k:σ→Option β) (step:σ→α→σ) (Inv:Nat→σ→Prop)
  (h1:∀m s i (hi:i < xs.length),Inv i s→F (m+1) s i=F m (step s xs[i]) (i+1)∧Inv (i+1) (step s xs[i]))
  (h2:∀m s,Inv xs.length s→F (m+1) s xs.length=k s):∀m s,xs.length < m→Inv 0 s→F m s 0=k (xs.foldl step s):=by
 have key:∀(d i m:Nat) (s:σ),xs.length - i=d→i≤xs.length→d < m→Inv i s→F m s i=k ((xs.drop i).foldl step s):=by
  intro d
  induction d with
  | zero=>
   intro i m s hd hi hm hs
   obtain ⟨m',rfl⟩:∃m',m=m'+1:=⟨m - 1,by omega⟩
   obtain rfl:i=xs.length:=by omega
   rw [h2 m' s hs,List.drop_length];rfl
  | succ d ih=>
   intro i m s hd hi hm hs
   obtain ⟨m',rfl⟩:∃m',m=m'+1:=⟨m - 1,by omega⟩
   have hl:i < xs.length:=by omega
   obtain ⟨e,hs'⟩:=h1 m' s i hl hs
   rw [e,ih (i+1) m' _ (by omega) (by omega) (by omega) hs',List.drop_eq_getElem_cons hl];rfl
 intro m s hm hs
 have:=key xs.length 0 m s (by omega) (Nat.zero_le _) hm hs
 simpa using this
theorem yJ {α β:Type} (xs:List α) (F:Nat→Nat→Option β) (kf:(i:Nat)→i < xs.length→Option β) (k:Option β) (p:Nat→α→Bool)
  (h1:∀m i (hi:i < xs.length),(∀j (hj:j < i),p j (xs[j]'(by omega))=false)→F (m+1) i=if p i xs[i]=true then kf i hi else F m (i+1))
  (h2:∀m,(∀j (hj:j < xs.length),p j xs[j]=false)→F (m+1) xs.length=k):∀m,xs.length < m→(∃i hi,p i (xs[i]'hi)=true∧(∀j (hj:j < i),p j (xs[j]'(by omega))=false)∧F m 0=kf i hi)∨((∀j (hj:j < xs.length),p j xs[j]=false)∧F m 0=k):=by
 have key:∀(d i m:Nat),xs.length - i=d→(hi:i≤xs.length)→d < m→(∀j (hj:j < i),p j (xs[j]'(by omega))=false)→
   (∃i' hi',p i' (xs[i']'hi')=true∧(∀j (hj:j < i'),p j (xs[j]'(by omega))=false)∧F m i=kf i' hi')∨((∀j (hj:j < xs.length),p j xs[j]=false)∧F m i=k):=by
  intro d
  induction d with
  | zero=>
   intro i m hd hi hm hp
   obtain ⟨m',rfl⟩:∃m',m=m'+1:=⟨m - 1,by omega⟩
   obtain rfl:i=xs.length:=by omega
   exact .inr ⟨hp,h2 m' hp⟩
  | succ d ih=>
   intro i m hd hi hm hp
   obtain ⟨m',rfl⟩:∃m',m=m'+1:=⟨m - 1,by omega⟩
   have hl:i < xs.length:=by omega
   have e:=h1 m' i hl hp
   cases hpi:p i xs[i] with
   | true=>rw [hpi,if_pos rfl] at e;exact .inl ⟨i,hl,hpi,hp,e⟩
   | false=>
    rw [hpi,if_neg (by simp)] at e
    rw [e]
    refine ih (i+1) m' (by omega) (by omega) (by omega) (fun j hj=>?_)
    by_cases hji:j=i
    ·subst hji;exact hpi
    ·exact hp j (by omega)
 intro m hm
 exact key xs.length 0 m (by omega) (Nat.zero_le _) hm (fun j hj=>by omega)
theorem mE {α:Type} {xs:List α} {i:Nat} {d:α} (h:i < xs.length):rd xs (i:Int) d=xs[i]:=by
 rw [TT,List.getD_eq_getElem?_getD,List.getElem?_eq_getElem h];rfl
theorem iE {α:Type} {x d:α} {i:Int} (h:i=0):rd [x] i d=x:=by subst h;rfl
end Go.Proofs.YtfnjlgflbenfoaaDoorHF
namespace Go.Proofs.YtfnjlgflbenfoaaDoorHF
open Go Go.RowKit
set_option linter.unusedVariables false
set_option linter.unusedSimpArgs false
theorem EA (ns:List Int):∀s:BA,ns.foldl (fun r n=>r++Utf8.encode n) s=s++runesBytes ns:=by
 induction ns with
 | nil=>intro s;simp [runesBytes]
 | cons n ns ih=>
  intro s
  unfold runesBytes
  simp only [List.foldl_cons]
  rw [ih,ih (ByteArray.empty++_)]
  simp [ByteArray.append_assoc]
theorem mY (n:Int) (ns:List Int):runesBytes (n::ns)=Utf8.encode n++runesBytes ns:=by
 conv=>lhs;unfold runesBytes
 rw [List.foldl_cons,EA];simp
def Valids (xs:List Int):Prop:=∀x∈xs,Utf8.valid x=true
theorem sY (s:BA) (i:Nat):Utf8.valid ((Utf8.decode s i).1:Int)=true:=by
 unfold Utf8.decode
 simp only [Nat.add_zero]
 split
 ·rename_i h;simp [Utf8.valid];omega
 split
 ·split
  ·rename_i h1 h2;simp only [Utf8.valid];simp;omega
  ·decide
 split
 ·split
  ·rename_i h1 h2;simp at h2;exact h2.2
  ·decide
 split
 ·split
  ·rename_i h1 h2;simp at h2;exact h2.2
  ·decide
 ·decide
theorem iU (s:BA):∀b i,Valids (dV s b i)
 | 0,_=>by intro x hx;simp [dV] at hx
 | b+1,i=>by
  intro x hx
  unfold dV at hx
  split at hx
  ·rcases List.mem_cons.1 hx with rfl | hx
   ·exact sY s i
   ·exact iU s b _ x hx
  ·simp at hx
theorem qN (s:BA):Valids (bK s):=iU s _ _
theorem Valids.take {x:List Int} (h:Valids x) (n:Nat):Valids (x.take n):=fun y hy=>h y (List.mem_of_mem_take hy)
theorem Valids.drop {x:List Int} (h:Valids x) (n:Nat):Valids (x.drop n):=fun y hy=>h y (List.mem_of_mem_drop hy)
theorem Valids.append {x y:List Int} (h:Valids x) (k:Valids y):Valids (x++y):=fun z hz=>(List.mem_append.1 hz).elim (h z) (k z)
end Go.Proofs.YtfnjlgflbenfoaaDoorHF
namespace Go.Proofs.YtfnjlgflbenfoaaDoorHF
open Go
set_option linter.unusedVariables false
set_option linter.unusedSimpArgs false
def bl (z:BA):List UInt8:=z.data.toList
theorem eM (x y:BA):bl (x++y)=bl x++bl y:=by unfold bl;rw [ByteArray.data_append,Array.toList_append]
theorem xI {x y:BA} (h:bl x=bl y):x=y:=sZ h
def WB (b:UInt8):Prop:=128≤b.toNat∧b.toNat < 192
abbrev enc (x:List Int):BA:=runesBytes x
theorem fI (x:List Int):(enc x).size≤4 * x.length:=runesBytes_size_le x
theorem Valids.nil:Valids []:=fun x hx=>by cases hx
theorem Valids.cons {r:Int} {x:List Int} (h:Valids (r::x)):Utf8.valid r=true∧Valids x:=⟨h r (by simp),fun y hy=>h y (by simp [hy])⟩
def Asc (l:List Int):Prop:=∀b∈l,0≤b∧b < 128
theorem Asc.nil:Asc []:=fun b hb=>by cases hb
theorem Asc.append {x y:List Int} (hx:Asc x) (hy:Asc y):Asc (x++y):=fun b hb=>(List.mem_append.1 hb).elim (hx b) (hy b)
theorem Asc.take {x:List Int} (hx:Asc x) (k:Nat):Asc (x.take k):=fun b hb=>hx b (List.mem_of_mem_take hb)
theorem Asc.drop {x:List Int} (hx:Asc x) (k:Nat):Asc (x.drop k):=fun b hb=>hx b (List.mem_of_mem_drop hb)
theorem xS {b:Int} (h:0≤b∧b < 128):aL (Utf8.encode b)=[b]:=by
 obtain ⟨k,rfl⟩:=Int.eq_ofNat_of_zero_le h.1
 have hk:k < 128:=by omega
 have hv:Utf8.valid (k:Int)=true:=by unfold Utf8.valid;simp;omega
 unfold Utf8.encode
 simp only [hv,if_true,Int.ofNat_eq_natCast,Int.toNat_natCast,hk]
 simp [aL]
 omega
theorem iG:∀{l:List Int},Asc l→aL (enc l)=l
 | [],_=>rfl
 | b::l,h=>by
  show aL (runesBytes (b::l))=_
  rw [mY,eR,xS (h b (by simp))]
  have:aL (enc l)=l:=iG fun c hc=>h c (by simp [hc])
  show [b]++aL (enc l)=_
  rw [this];rfl
theorem Asc.eq {l:List Int} (h:Asc l):strOfNums l=enc l:=by
 apply mH
 rw [iG h,jT fun b hb=>by have:=h b hb;omega]
theorem Asc.size {l:List Int} (h:Asc l):(enc l).size=l.length:=by rw [←cE,iG h]
theorem Asc.byteAt {l:List Int} (h:Asc l) {i:Nat} (hi:i < l.length):byteAt (enc l) (i:Int)=l[i]:=by
 rw [rV (by omega) (by rw [h.size];omega),iG h,mE hi]
theorem Asc.bl {l:List Int} (h:Asc l):bl (enc l)=l.map fun b=>UInt8.ofNat b.toNat:=by
 have:=h.eq
 rw [←this]
 exact strOfNums_data l
@[reducible] def Prt:=Int×BA
@[reducible] def Rp:=Int×List Int
def emb (d:Rp):Prt:=(d.1,enc d.2)
def OkR (d:Rp):Prop:=(d.1= -1∨d.1=0∨d.1=1)∧Valids d.2
theorem GZ (n:Nat) (a:BA) (m:Nat) (h:a.size≤70368744177664):g15 n a (m:Int)=some (enc ((bK a).take m),()):=by
 have hl:=hU a
 dsimp only [g15,JU,g32,IJ]
 rw [EU h,Option.bind_some]
 have e:qL ((bK a).length:Int) (m:Int)=((min (bK a).length m:Nat):Int):=by unfold qL;split <;> omega
 dsimp only
 rw [e,KQ (by omega) (by omega) (by omega),MO]
 congr 3
 rw [show (0+(((min (bK a).length m:Nat):Int) - 0)).toNat=min (bK a).length m by omega,Nat.min_comm,List.take_eq_take_iff]
 omega
theorem sO (n:Nat) (v:Int) (h:v= -1∨v=0∨v=1):g30 n v=some (v,()):=by
 rcases h with rfl | rfl | rfl <;> rfl
theorem OO (n:Nat) (hn:Big≤n) (xs:List Rp) (hl:xs.length≤1000000) (ho:∀y∈xs,OkR y):g29 n (xs.map emb)=some (xs.map emb,()):=by
 have hB:(4611686018427387904:Nat)≤n:=hn
 dsimp only [g29,AN,NO,FR,KD,LN]
 have e:=yC (xs.map emb) (fun m s i=>g29_3L n (fun x4=>some (x4,())) m s (xs.map emb) ((xs.map emb).length:Int) (i:Int)) (fun s=>some (s,())) (fun s x=>s++[x]) (fun i s=>s.length=i)
  (fun m s i hi hs=>by
   have hi':i < xs.length:=by simpa using hi
   refine ⟨?_,by simp [hs]⟩
   have hlm:(xs.map emb).length=xs.length:=List.length_map _
   have hop:=(ho xs[i] (by simp)).1
   have hg:(xs.map emb)[i]=emb xs[i]:=List.getElem_map _
   rw [g29_3L.eq_2,CE,bdT (by omega),eY (by omega) (by omega)]
   simp only [mE hi,iE rfl]
   rw [hg,sO n (emb xs[i]).1 hop,Option.bind_some,cS (by simp only [List.length_cons,List.length_nil];omega),eT (by omega) (by omega)]
   rfl)
  (fun m s hs=>by rw [g29_3L.eq_2,CE,bdF (by omega)]) n [] (by simp;omega) rfl
 refine Eq.trans e ?_
 have hf:∀(l:List Prt) (s:List Prt),l.foldl (fun s x=>s++[x]) s=s++l:=by
  intro l
  induction l with
  | nil=>intro s;simp
  | cons x l ih=>intro s;rw [List.foldl_cons,ih];simp
 rw [hf];rfl
def pL (x:Prt):Bool:=decide (x.2.size≤2147483647)
theorem GX (n:Nat) (x:Prt):g26 n x=some (pL x,()):=by
 dsimp only [g26,NL]
 unfold pL
 by_cases h:(x.2.size:Int)>2147483647
 ·rw [bdT h,decide_eq_false (by omega)]
 ·rw [bdF h,decide_eq_true (by omega)]
theorem OK (n:Nat) (hn:Big≤n) (xs:List Prt):(g9 n xs=some (true,())∧xs.length≤2147483647∧∀y∈xs,y.2.size≤2147483647)∨g9 n xs=some (false,()):=by
 dsimp only [g9,OQ,TM]
 by_cases h:(xs.length:Int)>2147483647
 ·rw [bdT h];exact .inr rfl
 ·rw [bdF h]
  have hB:(4611686018427387904:Nat)≤n:=hn
  have h1:∀m i (hi:i < xs.length),(∀j (hj:j < i),(fun (_:Nat) x=> !pL x) j (xs[j]'(by omega))=false)→
    g9_3L n (fun v2=>some (v2,())) (DL n (fun v2=>some (v2,()))) (m+1) xs (xs.length:Int) (i:Int)=if (fun (_:Nat) x=> !pL x) i xs[i]=true then (fun _ _=>some (false,())) i hi else g9_3L n (fun v2=>some (v2,())) (DL n (fun v2=>some (v2,()))) m xs (xs.length:Int) ((i+1:Nat):Int):=by
   intro m i hi _
   rw [g9_3L.eq_2,PW,bdT (by omega),eY (by omega) (by omega),iE rfl,mE hi,GX,Option.bind_some]
   cases hfb:pL xs[i] with
   | true=>
    rw [if_neg (by simp [hfb])]
    show g9_3L n (fun v2=>some (v2,())) (DL n (fun v2=>some (v2,()))) m xs (xs.length:Int) (w64 ((i:Int)+1))=_
    rw [eT (by omega) (by omega)];rfl
   | false=>rw [if_pos (by simp [hfb])];rfl
  rcases yJ xs (fun m i=>g9_3L n (fun v2=>some (v2,())) (DL n (fun v2=>some (v2,()))) m xs (xs.length:Int) (i:Int)) (fun _ _=>some (false,())) (some (true,())) (fun _ x=> !pL x) h1 (fun m _=>by rw [g9_3L.eq_2,PW,bdF (by omega)];rfl) n (by omega) with ⟨i,hi,_,_,e⟩ | ⟨hall,e⟩
  ·exact .inr e
  ·refine .inl ⟨e,by omega,fun y hy=>?_⟩
   obtain ⟨i,hi,rfl⟩:=List.getElem_of_mem hy
   have:=hall i hi
   simpa [pL] using this
def yP (n:Int):Int:=if Int.tmod n 3=2 then -1 else if Int.tmod n 3= -2 then 1 else Int.tmod n 3
theorem QT (n:Int):Int.tmod n 3= -2∨Int.tmod n 3= -1∨Int.tmod n 3=0∨Int.tmod n 3=1∨Int.tmod n 3=2:=by
 have h1:=Int.tmod_lt_of_pos n (show (0:Int) < 3 by omega)
 have h2:=Int.lt_tmod_of_pos n (show (0:Int) < 3 by omega)
 omega
theorem zE (n:Int):yP n= -1∨yP n=0∨yP n=1:=by
 unfold yP
 rcases QT n with h | h | h | h | h <;> simp [h]
def SZ (y:Prt):Rp:=(yP y.1,(bK y.2).take 30)
def cQ (m:Nat) (xs:List Prt):List Rp:=(xs.take m).map SZ
theorem zZ (m:Nat) (xs:List Prt):∀y∈cQ m xs,OkR y∧y.2.length≤30:=by
 intro y hy
 obtain ⟨z,_,rfl⟩:=List.mem_map.1 hy
 exact ⟨⟨zE _,(qN _).take _⟩,List.length_take_le _ _⟩
theorem gU (m:Nat) (xs:List Prt):(cQ m xs).length≤m:=by simp [cQ];omega
theorem DD (n:Nat) (hn:Big≤n) (xs:List Prt) (hl:xs.length≤2147483647) (hs:∀y∈xs,y.2.size≤2147483647) (m:Nat) (hm:m≤1000000):g24 n xs (m:Int)=some ((cQ m xs).map emb,()):=by
 have hB:(4611686018427387904:Nat)≤n:=hn
 dsimp only [g24,AW,KX,GJ,IN,GH]
 have key:∀(d i g:Nat),min m xs.length - i=d→i≤min m xs.length→d < g→g24_3L n (fun x4=>some (x4,())) g xs (m:Int) ((cQ i xs).map emb) (i:Int)=some ((cQ m xs).map emb,()):=by
  intro d
  induction d with
  | zero=>
   intro i g hd hi hg
   obtain ⟨g,rfl⟩:∃g',g=g'+1:=⟨g - 1,by omega⟩
   rw [g24_3L.eq_2,AL]
   have e:cQ i xs=cQ m xs:=by unfold cQ;congr 1;rw [List.take_eq_take_iff];omega
   by_cases h:i < xs.length
   ·rw [bdT (by omega),bdF (by omega),e]
   ·rw [bdF (by omega),e]
  | succ d ih=>
   intro i g hd hi hg
   obtain ⟨g,rfl⟩:∃g',g=g'+1:=⟨g - 1,by omega⟩
   have hi':i < xs.length:=by omega
   have:=ih (i+1) g (by omega) (by omega) (by omega)
   have hstep:(cQ (i+1) xs).map emb=(cQ i xs).map emb++[(yP xs[i].1,enc ((bK xs[i].2).take 30))]:=by
    unfold cQ
    rw [List.take_succ_eq_append_getElem hi',List.map_append,List.map_append];rfl
   have hlen:((cQ i xs).map emb).length≤m:=by rw [List.length_map];have:=gU i xs;omega
   have hsz:=hs xs[i] (by simp)
   rw [g24_3L.eq_2,AL,bdT (by omega),bdT (by omega),eY (by omega) (by omega)]
   simp only [mE hi']
   rw [show (30:Int)=((30:Nat):Int) from rfl,GZ n _ 30 (by omega)]
   simp only [Option.bind_some]
   have hw:w64 ((i:Int)+1)=((i+1:Nat):Int):=by rw [eT (by omega) (by omega)];omega
   rw [hw]
   rw [hstep] at this
   unfold yP at this
   rcases QT xs[i].1 with h | h | h | h | h
   all_goals
    rw [h] at this ⊢
    simp only [show ((-2:Int)=2)=False by simp,show ((-1:Int)=2)=False by simp,show ((0:Int)=2)=False by simp,show ((1:Int)=2)=False by simp,show ((-1:Int)= -2)=False by simp,show ((0:Int)= -2)=False by simp,show ((1:Int)= -2)=False by simp,if_true,if_false,if_pos,if_neg,not_false_eq_true] at this
    simp only [show ((-2:Int)==2)=false from rfl,show ((-2:Int)== -2)=true from rfl,show ((2:Int)==2)=true from rfl,show ((-1:Int)==2)=false from rfl,show ((-1:Int)== -2)=false from rfl,show ((0:Int)==2)=false from rfl,show ((0:Int)== -2)=false from rfl,show ((1:Int)==2)=false from rfl,show ((1:Int)== -2)=false from rfl,cond_true,cond_false]
    rw [eY (by omega) (by omega),cS (by simp only [List.length_append,List.length_cons,List.length_nil];omega)]
    exact this
 exact key (min m xs.length) 0 n (by omega) (by omega) (by omega)
def VY:List Rp→List Int
 | []=>[]
 | d::l=>(if d.1=1 then [] else d.2)++VY l
def VV:List Rp→List Int
 | []=>[]
 | d::l=>(if d.1= -1 then [] else d.2)++VV l
def edR:List Rp→Nat
 | []=>0
 | d::l=>(if d.1=0 then 0 else d.2.length)+edR l
def iO (l:List Rp):Nat:=(l.map fun d=>d.2.length).sum
theorem HI:iO []=0:=rfl
theorem lJ (d:Rp) (l:List Rp):iO (d::l)=d.2.length+iO l:=by simp [iO]
theorem vS (x y:List Rp):iO (x++y)=iO x+iO y:=by simp [iO]
theorem oF {d:Rp}:∀{l:List Rp},d∈l→d.2.length≤iO l
 | e::l,h=>by
  rw [lJ]
  rcases List.mem_cons.1 h with rfl | h
  ·omega
  ·have:=oF h;omega
theorem qY (l:List Rp) (i:Nat):iO (l.take i)≤iO l:=by
 have:=vS (l.take i) (l.drop i)
 rw [List.take_append_drop] at this;omega
def M (l:List Rp):List Prt:=l.map emb
theorem JA (x:List Rp):(M x).length=x.length:=List.length_map _
def WE (n:Nat):Prop:=n≤1000000000
def cpl:List Int→List Int→Nat
 | a::x,b::y=>if a=b then cpl x y+1 else 0
 | _,_=>0
def csl (x y:List Int):Nat:=cpl x.reverse y.reverse
def rD:List Rp→List Int
 | []=>[]
 | d::l=>(if d.1= -1 then d.2 else [])++rD l
def qW:List Rp→List Int
 | []=>[]
 | d::l=>(if d.1=1 then d.2 else [])++qW l
def cdR:List Rp→Nat
 | []=>0
 | d::l=>(if d.1= -1 then 1 else 0)+cdR l
def ciR:List Rp→Nat
 | []=>0
 | d::l=>(if d.1=1 then 1 else 0)+ciR l
def Eds (P:List Rp):Prop:=∀d∈P,d.1= -1∨d.1=1
def pushE (u:List Int):List Rp→List Rp
 | (k,s)::A=>if k=0 then (0,s++u)::A else (0,u)::(k,s)::A
 | []=>[(0,u)]
structure Fac where
 A:List Rp
 td:List Int
 ti:List Int
 t:List Int
def fac (A:List Rp) (td ti t:List Int):Fac:=
 let c:=cpl ti td
 let s:=csl (ti.drop c) (td.drop c)
 ⟨if c=0 then A else pushE (ti.take c) A,(td.drop c).take ((td.drop c).length - s),(ti.drop c).take ((ti.drop c).length - s),(ti.drop c).drop ((ti.drop c).length - s)++t⟩
def stepE (A P:List Rp) (t:List Int):List Rp:=
 if 1 < P.length then
  if cdR P=0 then (0,t)::(1,qW P)::A
  else if ciR P=0 then (0,t)::(-1,rD P)::A
  else let f:=fac A (rD P) (qW P) t;(0,f.t)::(1,f.ti)::(-1,f.td)::f.A
 else if P=[] then pushE t A
 else (0,t)::(P.reverse++A)
def run1:List Rp→List Rp→List Rp→List Rp×List Rp
 | A,P,[]=>(A,P)
 | A,P,d::R=>if d.1=0 then run1 (stepE A P d.2) [] R else run1 A (P++[d]) R
def chop:List Rp→List Rp
 | (k,s)::A=>if s=[] then A else (k,s)::A
 | []=>[]
def join1 (x:List Rp):List Rp:=(chop (stepE (run1 [] [] x).1 (run1 [] [] x).2 [])).reverse
def slide:List Rp→List Rp→Bool→List Rp×Bool
 | A,p::c::q::R,ch=>
  if p.1=0∧q.1=0 then
   if p.2 <:+c.2 then slide ((c.1,p.2++c.2.take (c.2.length - p.2.length))::A) ((q.1,p.2++q.2)::R) true
   else if q.2 <+:c.2 then slide ((p.1,p.2++q.2)::A) ((c.1,c.2.drop q.2.length++q.2)::R) true
   else slide (p::A) (c::q::R) ch
  else slide (p::A) (c::q::R) ch
 | A,R,ch=>(A.reverse++R,ch)
termination_by _ R _=>R.length
def phi (x:List Rp):Nat:=edR x+x.length
def Hd (A:List Rp):Prop:=A=[]∨∃s A',A=(0,s)::A'
def Ops (x:List Rp):Prop:=∀d∈x,d.1= -1∨d.1=0∨d.1=1
theorem Eds.nil:Eds []:=fun e he=>by cases he
theorem Ops.cons {d:Rp} {x:List Rp} (h:Ops (d::x)):(d.1= -1∨d.1=0∨d.1=1)∧Ops x:=⟨h d (by simp),fun e he=>h e (by simp [he])⟩
def mergeN:Nat→List Rp→List Rp
 | 0,x=>x
 | k+1,x=>if (slide [] (join1 x) false).2=true then mergeN k (slide [] (join1 x) false).1 else (slide [] (join1 x) false).1
def merge (x:List Rp):List Rp:=mergeN (phi x+1) x
def Ok (x:List Rp):Prop:=∀d∈x,OkR d
theorem Ok.nil:Ok []:=fun d h=>by cases h
theorem Ok.append {x y:List Rp} (h:Ok x) (k:Ok y):Ok (x++y):=fun d hd=>(List.mem_append.1 hd).elim (h d) (k d)
theorem Ok.cons' {d:Rp} {x:List Rp} (h:OkR d) (k:Ok x):Ok (d::x):=fun e he=>(List.mem_cons.1 he).elim (fun e=>by rw [e];exact h) (k e)
theorem Ok.of_cons {d:Rp} {x:List Rp} (h:Ok (d::x)):OkR d∧Ok x:=⟨h d (by simp),fun e he=>h e (by simp [he])⟩
theorem Ok.reverse {x:List Rp} (h:Ok x):Ok x.reverse:=fun d hd=>h d (List.mem_reverse.1 hd)
theorem pR:∀{P:List Rp},Ok P→Valids (rD P)∧Valids (qW P)
 | [],_=>⟨Valids.nil,Valids.nil⟩
 | d::P,h=>by
  have ih:=pR h.of_cons.2
  have hd:=h.of_cons.1.2
  unfold rD qW
  refine ⟨Valids.append ?_ ih.1,Valids.append ?_ ih.2⟩ <;> split <;> first | exact hd | exact Valids.nil
theorem Ok.pushE {u:List Int} (hu:Valids u):∀{A:List Rp},Ok A→Ok (pushE u A)
 | [],_=>Ok.cons' ⟨.inr (.inl rfl),hu⟩ Ok.nil
 | (k,s)::A,h=>by
  rw [Go.Proofs.YtfnjlgflbenfoaaDoorHF.pushE]
  split
  ·exact Ok.cons' ⟨.inr (.inl rfl),h.of_cons.1.2.append hu⟩ h.of_cons.2
  ·exact Ok.cons' ⟨.inr (.inl rfl),hu⟩ h
theorem Ok.stepE {A P:List Rp} {t:List Int} (hA:Ok A) (hP:Ok P) (ht:Valids t):Ok (stepE A P t):=by
 have hd:=pR hP
 unfold Go.Proofs.YtfnjlgflbenfoaaDoorHF.stepE
 split
 ·split
  ·exact Ok.cons' ⟨.inr (.inl rfl),ht⟩ (Ok.cons' ⟨.inr (.inr rfl),hd.2⟩ hA)
  ·split
   ·exact Ok.cons' ⟨.inr (.inl rfl),ht⟩ (Ok.cons' ⟨.inl rfl,hd.1⟩ hA)
   ·simp only
    have h1:Ok (fac A (rD P) (qW P) t).A:=by
     unfold fac;simp only;split
     ·exact hA
     ·exact Ok.pushE (hd.2.take _) hA
    refine Ok.cons' ⟨.inr (.inl rfl),?_⟩ (Ok.cons' ⟨.inr (.inr rfl),?_⟩ (Ok.cons' ⟨.inl rfl,?_⟩ h1)) <;> unfold fac <;> simp only
    ·exact ((hd.2.drop _).drop _).append ht
    ·exact (hd.2.drop _).take _
    ·exact (hd.1.drop _).take _
 ·split
  ·exact Ok.pushE ht hA
  ·exact Ok.cons' ⟨.inr (.inl rfl),ht⟩ (hP.reverse.append hA)
theorem Ok.run1:∀{R A P:List Rp},Ok A→Ok P→Ok R→Ok (run1 A P R).1∧Ok (run1 A P R).2
 | [],A,P,hA,hP,_=>⟨hA,hP⟩
 | d::R,A,P,hA,hP,hR=>by
  rw [Go.Proofs.YtfnjlgflbenfoaaDoorHF.run1]
  split
  ·exact Ok.run1 (hA.stepE hP hR.of_cons.1.2) Ok.nil hR.of_cons.2
  ·exact Ok.run1 hA (hP.append (Ok.cons' hR.of_cons.1 Ok.nil)) hR.of_cons.2
theorem Ok.chop:∀{A:List Rp},Ok A→Ok (chop A)
 | [],_=>Ok.nil
 | (k,s)::A,h=>by
  rw [Go.Proofs.YtfnjlgflbenfoaaDoorHF.chop];split
  ·exact h.of_cons.2
  ·exact h
theorem Ok.join1 {x:List Rp} (h:Ok x):Ok (join1 x):=by
 have:=Ok.run1 Ok.nil Ok.nil h
 exact (Ok.chop (this.1.stepE this.2 Valids.nil)).reverse
theorem Ok.slide:∀(k:Nat) {A R:List Rp} {ch:Bool},R.length=k→Ok A→Ok R→Ok (slide A R ch).1:=by
 intro k
 induction k using Nat.strongRecOn with
 | _ k ih=>
  intro A R ch hk hA hR
  match R,hk,hR with
  | [],hk,hR=>unfold Go.Proofs.YtfnjlgflbenfoaaDoorHF.slide;exact hA.reverse.append hR
  | [p],hk,hR=>unfold Go.Proofs.YtfnjlgflbenfoaaDoorHF.slide;exact hA.reverse.append hR
  | [p,c],hk,hR=>unfold Go.Proofs.YtfnjlgflbenfoaaDoorHF.slide;exact hA.reverse.append hR
  | p::c::q::R,hk,hR=>
   rw [Go.Proofs.YtfnjlgflbenfoaaDoorHF.slide]
   have hp:=hR.of_cons.1
   have hc:=hR.of_cons.2.of_cons.1
   have hq:=hR.of_cons.2.of_cons.2.of_cons.1
   have hR':=hR.of_cons.2.of_cons.2.of_cons.2
   have skip:=ih (c::q::R).length (by rw [←hk];simp) (A:=p::A) (R:=c::q::R) (ch:=ch) rfl (Ok.cons' hp hA) hR.of_cons.2
   split
   ·split
    ·exact ih (((q.1,p.2++q.2)::R):List Rp).length (by rw [←hk];simp) rfl (Ok.cons' ⟨hc.1,hp.2.append (hc.2.take _)⟩ hA) (Ok.cons' ⟨hq.1,hp.2.append hq.2⟩ hR')
    ·split
     ·exact ih (((c.1,c.2.drop q.2.length++q.2)::R):List Rp).length (by rw [←hk];simp) rfl (Ok.cons' ⟨hp.1,hp.2.append hq.2⟩ hA) (Ok.cons' ⟨hc.1,(hc.2.drop _).append hq.2⟩ hR')
     ·exact skip
   ·exact skip
theorem Ok.mergeN:∀(k:Nat) {x:List Rp},Ok x→Ok (mergeN k x)
 | 0,x,h=>h
 | k+1,x,h=>by
  have:=Ok.slide (Go.Proofs.YtfnjlgflbenfoaaDoorHF.join1 x).length (A:=[]) (R:=Go.Proofs.YtfnjlgflbenfoaaDoorHF.join1 x) (ch:=false) rfl Ok.nil h.join1
  rw [Go.Proofs.YtfnjlgflbenfoaaDoorHF.mergeN]
  split
  ·exact Ok.mergeN k this
  ·exact this
theorem Ok.merge {x:List Rp} (h:Ok x):Ok (merge x):=Ok.mergeN _ h
def SU (z:BA):Nat→Nat→Nat
 | 0,i=>i
 | d+1,i=>if byteAt z (i:Int)=10 then i+1 else SU z d (i+1)
def UU (z:BA) (i:Nat):Nat:=SU z (z.size - i) i
def WD (z:BA) (i e:Nat):Prop:=i < e∧e≤z.size∧(∀j:Nat,i≤j→j+1 < e→byteAt z (j:Int)≠10)∧(byteAt z ((e - 1:Nat):Int)=10∨e=z.size)
def rL (z:BA):Nat→Nat→List BA
 | 0,_=>[]
 | f+1,i=>if i < z.size then jE z (i:Int) (UU z i:Int)::rL z f (UU z i) else []
def VR (z:BA) (i:Nat):List BA:=rL z (z.size - i) i
theorem BZ {z:BA} {i:Nat} (h:i < z.size):aL (jE z (i:Int) ((i:Int)+1))=[byteAt z (i:Int)]:=by
 have hl:=cE z
 rw [tQ,rV (by omega) (by omega)]
 unfold cut rd
 rw [show (i:Int).toNat=i by omega,show ((i:Int)+1).toNat - i=1 by omega,List.getD_eq_getElem?_getD,List.getElem?_eq_getElem (show i < (aL z).length by omega),List.drop_eq_getElem_cons (show i < (aL z).length by omega)]
 rfl
theorem TZ {z:BA} {i:Nat} (h:i < z.size):fA (jE z (i:Int) ((i:Int)+1)) (⟨#[10]⟩:BA)=decide (byteAt z (i:Int)=10):=by
 rw [uW]
 have e:aL (⟨#[10]⟩:BA)=[10]:=rfl
 by_cases hb:byteAt z (i:Int)=10
 ·rw [decide_eq_true hb,decide_eq_true]
  refine mH ?_
  rw [BZ h,hb,e]
 ·rw [decide_eq_false hb,decide_eq_false]
  intro h2
  have:=congrArg aL h2
  rw [BZ h,e] at this
  exact hb (List.cons.inj this).1
theorem PK (n:Nat) (hn:Big≤n) (z:BA) (hz:z.size≤1000000000):∃r:Int,g56 n z (⟨#[10]⟩:BA)=some (r,())∧((r= -1∧∀j:Nat,j < z.size→byteAt z (j:Int)≠10)∨(∃k:Nat,r=k∧k < z.size∧byteAt z (k:Int)=10∧∀j:Nat,j < k→byteAt z (j:Int)≠10)):=by
 have hB:(4611686018427387904:Nat)≤n:=hn
 dsimp only [g56,CD,FJ,KW,HL,IT]
 have key:∀(d i m:Nat),z.size - i=d→d < m→i≤z.size→(∀j:Nat,j < i→byteAt z (j:Int)≠10)→∃r:Int,g56_3L n (fun v4=>@some (DenR [.dat (.int .i64)]) (v4,())) (some (-1,())) m z (⟨#[10]⟩:BA) (i:Int)=some (r,())∧((r= -1∧∀j:Nat,j < z.size→byteAt z (j:Int)≠10)∨(∃k:Nat,r=k∧k < z.size∧byteAt z (k:Int)=10∧∀j:Nat,j < k→byteAt z (j:Int)≠10)):=by
  intro d
  have h1:(⟨#[10]⟩:BA).size=1:=rfl
  induction d with
  | zero=>
   intro i m hd hm hi hno
   obtain ⟨m,rfl⟩:∃m',m=m'+1:=⟨m - 1,by omega⟩
   rw [g56_3L.eq_2,CR,h1,eT (by omega) (by omega),bdF (by omega)]
   exact ⟨-1,rfl,.inl ⟨rfl,fun j hj=>hno j (by omega)⟩⟩
  | succ d ih=>
   intro i m hd hm hi hno
   obtain ⟨m,rfl⟩:∃m',m=m'+1:=⟨m - 1,by omega⟩
   rw [g56_3L.eq_2,CR,h1,eT (by omega) (by omega),bdT (by omega),KQ (by omega) (by omega) (by omega)]
   simp only [show ((1:Nat):Int)=1 from rfl]
   rw [TZ (by omega)]
   by_cases hb:byteAt z (i:Int)=10
   ·rw [bdT hb]
    exact ⟨i,rfl,.inr ⟨i,rfl,by omega,hb,hno⟩⟩
   ·rw [bdF hb,eT (n:=(i:Int)+1) (by omega) (by omega),show (i:Int)+1=((i+1:Nat):Int) by omega]
    exact ih (i+1) m (by omega) (by omega) (by omega) (fun j hj=>by
     by_cases hji:j=i
     ·subst hji;exact hb
     ·exact hno j (by omega))
 exact key z.size 0 n (by omega) (by omega) (by omega) (fun j hj=>by omega)
theorem eO (n:Nat) (z s:BA) (h:z.size+s.size≤140737488355328):g43 n (aL z,(0,0)) s=some ((((s.size:Int),(false,())),((aL (z++s),(0,0)),()))):=by
 show eV (aL z,(0,0)) s=_
 unfold eV
 rw [if_pos ⟨rfl,by show (aL z).length+s.size≤_;rw [cE];exact h⟩,eR]
theorem ES (n:Nat) (z:BA):g44 n (aL z,(0,0))=some ((z,()),((aL z,(0,0)),())):=by
 show dX (aL z,(0,0))=_
 unfold dX
 rw [if_pos ⟨rfl,qF⟩,jV]
def TQ (z:BA):Prop:=∀j:Nat,j < z.size→byteAt z (j:Int)≠10
theorem EP (n:Nat) (hn:Big≤n) (z:BA) (hz:z.size≤1000000000) (h:TQ z):g42 n z (⟨#[10]⟩:BA)=some ([z],()):=by
 dsimp only [g42,tU,MG,BU,xY,yK]
 obtain ⟨m,rfl⟩:∃m,n=m+1:=⟨n - 1,by unfold Big at hn;omega⟩
 obtain ⟨r,e,h1⟩:=PK (m+1) hn z hz
 have hr:r= -1:=by
  rcases h1 with ⟨h1,_⟩ | ⟨k,_,h2,h3,_⟩
  ·exact h1
  ·exact absurd h3 (h k h2)
 subst hr
 rw [show (((⟨#[10]⟩:BA).size:Int)==0)=false from rfl]
 simp only [cond_false]
 dsimp only [HT]
 rw [g42_11L.eq_2,yW,bP e]
 simp only
 rw [bdT (show (-1:Int) < 0 by decide),cS (by simp)]
 rfl
abbrev esc32:BA:=⟨#[27,91,51,50,109]⟩
abbrev esc31:BA:=⟨#[27,91,51,49,109]⟩
abbrev esc0:BA:=⟨#[27,91,48,109]⟩
def col (d:Rp):BA:=if d.1=1 then esc32++enc d.2++esc0 else if d.1= -1 then esc31++enc d.2++esc0 else enc d.2
theorem gX (x y z:BA):x++y++z=x++(y++z):=xI (by rw [eM,eM,eM,eM,List.append_assoc])
def fC:List Rp→BA
 | []=>⟨#[]⟩
 | d::x=>col d++fC x
theorem hJ:∀x y:List Rp,fC (x++y)=fC x++fC y
 | [],y=>xI (by rw [eM];rfl)
 | d::x,y=>by
  show col d++fC (x++y)=col d++fC x++fC y
  rw [hJ x y,gX]
theorem wH (d:Rp):fC [d]=col d:=xI (by show bl (col d++_)=_;rw [eM];simp [fC,bl])
theorem JE (d:Rp):(col d).size≤9+4 * d.2.length:=by
 have:=fI d.2
 have e1:esc32.size=5:=rfl
 have e2:esc31.size=5:=rfl
 have e3:esc0.size=4:=rfl
 unfold col
 split
 ·rw [size_append,size_append];omega
 ·split
  ·rw [size_append,size_append];omega
  ·omega
theorem lP:∀x:List Rp,(fC x).size≤9 * x.length+4 * iO x
 | []=>Nat.zero_le _
 | d::x=>by
  have h1:=JE d
  have h2:=lP x
  rw [lJ,List.length_cons]
  show (col d++fC x).size≤_
  rw [size_append];omega
theorem qI (n:Nat) (hn:Big≤n) (p0) (xs:List Rp) (ok:Ok xs) (hl:xs.length≤1000000) (ha:iO xs≤1000000) (hno:∀d∈xs,TQ (enc d.2)):g28 n p0 (M xs)=some (fC xs,()):=by
 have hB:(4611686018427387904:Nat)≤n:=hn
 have key:∀(d i m:Nat),xs.length - i=d→i≤xs.length→d < m→g28_26L n (fun a b c=>sS n (fun v4=>@some (DenR BS) (v4,())) a b c) m (aL (fC (xs.take i))) 0 0 (M xs) ((M xs).length:Int) (i:Int)=some (fC xs,()):=by
  intro d
  have hlm:(M xs).length=xs.length:=JA xs
  induction d with
  | zero=>
   intro i m hd hi hm
   obtain ⟨m,rfl⟩:∃m',m=m'+1:=⟨m - 1,by omega⟩
   rw [g28_26L.eq_2,pP,CA,bdF (by omega),List.take_of_length_le (by omega)]
   dsimp only [sS]
   rw [ES]
   rfl
  | succ d ih=>
   intro i m hd hi hm
   obtain ⟨m,rfl⟩:∃m',m=m'+1:=⟨m - 1,by omega⟩
   have hi':i < xs.length:=by omega
   have hI:i < (M xs).length:=by omega
   have hg:(M xs)[i]=(xs[i].1,enc xs[i].2):=List.getElem_map _
   have next:=ih (i+1) m (by omega) (by omega) (by omega)
   have hs:fC (xs.take (i+1))=fC (xs.take i)++col xs[i]:=by
    rw [List.take_succ_eq_append_getElem hi',hJ,wH]
   have hsz1:=lP (xs.take i)
   have hsz2:=fI xs[i].2
   have hq2:=qY xs i
   have hq3:=oF (List.getElem_mem hi')
   have hq4:(xs.take i).length≤xs.length:=by rw [List.length_take];omega
   have hsp:=EP n hn (enc xs[i].2) (by omega) (hno _ (List.getElem_mem hi'))
   have hw:w64 ((i:Int)+1)=((i+1:Nat):Int):=by rw [eT (by omega) (by omega)];omega
   have e1:esc32.size=5:=rfl
   have e2:esc31.size=5:=rfl
   have e3:esc0.size=4:=rfl
   obtain ⟨n1,hn1⟩:∃n1,n=n1+1+1:=⟨n - 2,by omega⟩
   have hop:=(ok xs[i] (List.getElem_mem hi')).1
   rw [hs] at next
   rw [g28_26L.eq_2,pP,CA,bdT (by omega)]
   dsimp only [zG,uN,FQ]
   rw [eY (by omega) (by omega)]
   simp only [iE,mE hI,hg]
   dsimp only [zM,sD,FN,uM]
   rcases hop with h | h | h
   ·rw [h]
    have hc:col xs[i]=esc31++enc xs[i].2++esc0:=by unfold col;rw [if_neg (by omega),if_pos h]
    rw [hc,←gX,←gX] at next
    show jN n _ _ _ _ _ _ _ _ (-1) false=_
    dsimp only [jN,sH,pH]
    show oM n _ _ _ _ _ _ _ _ (-1) true=_
    dsimp only [oM,xW,zX,yL]
    rw [bP hsp]
    simp only
    rw [hn1,g28_13L.eq_2,uL,←hn1,bdT (by simp),eY (by omega) (by simp)]
    refine (bP (eO n _ _ (by show _+5≤_;omega))).trans ?_
    refine (bP (eO n _ _ (by show (_++_:BA).size+(enc xs[i].2).size≤_;rw [size_append];show _+5+_≤_;omega))).trans ?_
    refine (bdF (by simp [w64];decide)).trans ?_
    refine (bP (eO n _ _ (by show (_++enc xs[i].2:BA).size+_≤_;rw [size_append,size_append];show _+5+_+4≤_;omega))).trans ?_
    rw [g28_13L.eq_2,uL]
    refine (bdF (by simp [w64];decide)).trans ?_
    dsimp only [oU]
    rw [hw]
    exact next
   ·rw [h]
    have hc:col xs[i]=enc xs[i].2:=by unfold col;rw [if_neg (by omega),if_neg (by omega)]
    rw [hc] at next
    show jN n _ _ _ _ _ _ _ _ 0 false=_
    dsimp only [jN,sH,pH]
    show tR n _ _ _ _ _ _ _ _ 0 false=_
    dsimp only [tR]
    refine (biT (by rfl)).trans ?_
    refine (bP (eO n _ _ (by omega))).trans ?_
    dsimp only [oU]
    rw [hw]
    exact next
   ·rw [h]
    have hc:col xs[i]=esc32++enc xs[i].2++esc0:=by unfold col;rw [if_pos h]
    rw [hc,←gX,←gX] at next
    show uY n _ _ _ _ _ _ _ _ 1 true=_
    dsimp only [uY,JP,MX,HE]
    rw [bP hsp]
    simp only
    rw [hn1,g28_7L.eq_2,AZ,←hn1,bdT (by simp),eY (by omega) (by simp)]
    refine (bP (eO n _ _ (by show _+5≤_;omega))).trans ?_
    refine (bP (eO n _ _ (by show (_++_:BA).size+(enc xs[i].2).size≤_;rw [size_append];show _+5+_≤_;omega))).trans ?_
    refine (bdF (by simp [w64];decide)).trans ?_
    refine (bP (eO n _ _ (by show (_++enc xs[i].2:BA).size+_≤_;rw [size_append,size_append];show _+5+_+4≤_;omega))).trans ?_
    rw [g28_7L.eq_2,AZ]
    refine (bdF (by simp [w64];decide)).trans ?_
    dsimp only [oU]
    rw [hw]
    exact next
 dsimp only [g28,tP,GY,yU,zB]
 exact key xs.length 0 n (by omega) (Nat.zero_le _) (by omega)
theorem AD (n:Nat) (hn:Big≤n) (xs:List Prt) (hl:xs.length≤2147483647) (hs:∀y∈xs,y.2.size≤2147483647):∃l:List Rp,g10 n xs=some (l.map emb,())∧l.length≤40∧∀y∈l,OkR y∧y.2.length≤30:=by
 have hB:(4611686018427387904:Nat)≤n:=hn
 dsimp only [g10,CK,KO,KU,IR,LQ]
 rw [show (40:Int)=((40:Nat):Int) from rfl,DD n hn xs hl hs 40 (by omega),Option.bind_some]
 have h0:=zZ 40 xs
 have h00:=gU 40 xs
 generalize cQ 40 xs=ps at h0 h00 ⊢
 have hlm:(ps.map emb).length=ps.length:=List.length_map _
 have key:∀(d i m:Nat) (s:List Rp),ps.length - i=d→i≤ps.length→d < m→s.length≤i→(∀y∈s,OkR y∧y.2.length≤30)→
   ∃l:List Rp,g10_3L n (fun x3=>some (x3,())) m (s.map emb) (ps.map emb) ((ps.map emb).length:Int) (i:Int)=some (l.map emb,())∧l.length≤40∧∀y∈l,OkR y∧y.2.length≤30:=by
  intro d
  induction d with
  | zero=>
   intro i m s hd hi hm hsl hso
   obtain ⟨m,rfl⟩:∃m',m=m'+1:=⟨m - 1,by omega⟩
   rw [g10_3L.eq_2,AY,bdF (by omega)]
   exact ⟨s,rfl,by omega,hso⟩
  | succ d ih=>
   intro i m s hd hi hm hsl hso
   obtain ⟨m,rfl⟩:∃m',m=m'+1:=⟨m - 1,by omega⟩
   have hi':i < ps.length:=by omega
   have hI:i < (ps.map emb).length:=by omega
   have hg:(ps.map emb)[i]=emb ps[i]:=List.getElem_map _
   rw [g10_3L.eq_2,AY,bdT (by omega),eY (by omega) (by omega)]
   simp only [iE,mE hI,hg]
   have hw:w64 ((i:Int)+1)=((i+1:Nat):Int):=by rw [eT (by omega) (by omega)];omega
   rw [hw]
   cases hc:(!fA (emb ps[i]).2 (⟨#[]⟩:BA)) with
   | true=>
    rw [cond_true,cS (by simp only [List.length_cons,List.length_nil,List.length_map];omega)]
    have:=ih (i+1) m (s++[ps[i]]) (by omega) (by omega) (by omega) (by simp;omega) (fun y hy=>by
     rcases List.mem_append.1 hy with hy | hy
     ·exact hso y hy
     ·simp at hy;subst hy;exact h0 _ (by simp))
    rw [List.map_append] at this
    exact this
   | false=>
    rw [cond_false]
    exact ih (i+1) m s (by omega) (by omega) (by omega) (by omega) hso
 exact key ps.length 0 n [] (by omega) (by omega) (by omega) (by simp) (fun y hy=>by cases hy)
theorem NJ {β:Type} (n:Nat) (kx2:Bool→Bool→List Prt→Int→Int→Option β) (x7:List Prt) (v8 v9:Int) (p5:Prt) (hz:p5.2.size≤1000000000):∀(d j m:Nat) (v2 v3:Bool),p5.2.size - j=d→j≤p5.2.size→d < m→∃a b:Bool,g11_7L n kx2 m v2 v3 p5 x7 v8 v9 (p5.2.size:Int) (j:Int)=kx2 a b x7 v8 v9∧(a=false→v2=false∧∀k:Nat,j≤k→k < p5.2.size→byteAt p5.2 (k:Int)≠10)∧(b=false→v3=false∧∀k:Nat,j≤k→k < p5.2.size→byteAt p5.2 (k:Int)≠27):=by
 intro d
 induction d with
 | zero=>
  intro j m v2 v3 hd hj hm
  obtain ⟨m,rfl⟩:∃m',m=m'+1:=⟨m - 1,by omega⟩
  rw [g11_7L.eq_2,vH,BF,bdF (by omega)]
  exact ⟨v2,v3,rfl,fun h=>⟨h,fun k h1 h2=>by omega⟩,fun h=>⟨h,fun k h1 h2=>by omega⟩⟩
 | succ d ih=>
  intro j m v2 v3 hd hj hm
  obtain ⟨m,rfl⟩:∃m',m=m'+1:=⟨m - 1,by omega⟩
  have hw:w64 ((j:Int)+1)=((j+1:Nat):Int):=by rw [eT (by omega) (by omega)];omega
  have st:∃v2' v3':Bool,g11_7L n kx2 (m+1) v2 v3 p5 x7 v8 v9 (p5.2.size:Int) (j:Int)=g11_7L n kx2 m v2' v3' p5 x7 v8 v9 (p5.2.size:Int) ((j+1:Nat):Int)∧(v2'=false→v2=false∧byteAt p5.2 (j:Int)≠10)∧(v3'=false→v3=false∧byteAt p5.2 (j:Int)≠27):=by
   rw [g11_7L.eq_2,vH,BF,bdT (by omega)]
   dsimp only [HF]
   rw [hw]
   have hx:∀{β:Type} (κ:Option β),idx (j:Int) (p5.2.size:Int) κ=κ:=fun κ=>eY (by omega) (by omega)
   have h10:(byteAt p5.2 (j:Int)==10)=false→byteAt p5.2 (j:Int)≠10:=fun h e=>by rw [e] at h;exact absurd h (by decide)
   have h27:(byteAt p5.2 (j:Int)==27)=false→byteAt p5.2 (j:Int)≠27:=fun h e=>by rw [e] at h;exact absurd h (by decide)
   cases v2 <;> cases v3 <;> simp only [cond_true,cond_false]
   ·rw [hx,hx];exact ⟨_,_,rfl,fun h=>⟨by simp,h10 h⟩,fun h=>⟨by simp,h27 h⟩⟩
   ·rw [hx];exact ⟨_,_,rfl,fun h=>⟨by simp,h10 h⟩,fun h=>absurd h (by decide)⟩
   ·rw [hx];exact ⟨_,_,rfl,fun h=>absurd h (by decide),fun h=>⟨by simp,h27 h⟩⟩
   ·exact ⟨_,_,rfl,fun h=>absurd h (by decide),fun h=>absurd h (by decide)⟩
  obtain ⟨a',b',e',ha',hb'⟩:=st
  obtain ⟨a,b,e,ha,hb⟩:=ih (j+1) m a' b' (by omega) (by omega) (by omega)
  refine ⟨a,b,e'.trans e,fun h=>?_,fun h=>?_⟩
  ·obtain ⟨h1,h2⟩:=ha h
   obtain ⟨h3,h4⟩:=ha' h1
   refine ⟨h3,fun k hk hk2=>?_⟩
   rcases Nat.lt_or_ge j k with h5 | h5
   ·exact h2 k h5 hk2
   ·obtain rfl:k=j:=by omega
    exact h4
  ·obtain ⟨h1,h2⟩:=hb h
   obtain ⟨h3,h4⟩:=hb' h1
   refine ⟨h3,fun k hk hk2=>?_⟩
   rcases Nat.lt_or_ge j k with h5 | h5
   ·exact h2 k h5 hk2
   ·obtain rfl:k=j:=by omega
    exact h4
def NoB (c:Int) (z:BA):Prop:=∀j:Nat,j < z.size→byteAt z (j:Int)≠c
theorem NV (n:Nat) (hn:Big≤n) (xs:List Prt) (hl:xs.length≤1000000000) (hs:∀y∈xs,y.2.size≤1000000000):∃a b:Bool,g11 n xs=some (a,(b,()))∧(a=false→∀y∈xs,NoB 10 y.2)∧(b=false→∀y∈xs,NoB 27 y.2):=by
 have hB:(4611686018427387904:Nat)≤n:=hn
 dsimp only [g11,sJ,JD,xK,AE,AC]
 have key:∀(d i m:Nat) (v2 v3:Bool),xs.length - i=d→i≤xs.length→d < m→∃a b:Bool,g11_13L n (fun v2 v3=>some (v2,(v3,()))) m v2 v3 xs (xs.length:Int) (i:Int)=some (a,(b,()))∧(a=false→v2=false∧∀(k:Nat) (hk:k < xs.length),i≤k→NoB 10 xs[k].2)∧(b=false→v3=false∧∀(k:Nat) (hk:k < xs.length),i≤k→NoB 27 xs[k].2):=by
  intro d
  induction d with
  | zero=>
   intro i m v2 v3 hd hi hm
   obtain ⟨m,rfl⟩:∃m',m=m'+1:=⟨m - 1,by omega⟩
   rw [g11_13L.eq_2,pF,CO,bdF (by omega)]
   exact ⟨v2,v3,rfl,fun h=>⟨h,fun k h1 h2=>by omega⟩,fun h=>⟨h,fun k h1 h2=>by omega⟩⟩
  | succ d ih=>
   intro i m v2 v3 hd hi hm
   obtain ⟨m,rfl⟩:∃m',m=m'+1:=⟨m - 1,by omega⟩
   have hi':i < xs.length:=by omega
   have hw:w64 ((i:Int)+1)=((i+1:Nat):Int):=by rw [eT (by omega) (by omega)];omega
   rw [g11_13L.eq_2,pF,CO,bdT (by omega)]
   dsimp only [zR,BK,MZ,HW,MD,zH]
   rw [eY (by omega) (by omega)]
   simp only [iE,mE hi']
   have hz:=hs xs[i] (List.getElem_mem hi')
   obtain ⟨a',b',e',ha',hb'⟩:=NJ n (fun v2 v3 x7 v8 v9=>g11_13L n (fun v2 v3=>some (v2,(v3,()))) m v2 v3 x7 v8 (w64 (v9+(1:Int)))) xs (xs.length:Int) (i:Int) xs[i] hz xs[i].2.size 0 n v2 v3 (by omega) (by omega) (by omega)
   obtain ⟨a,b,e,ha,hb⟩:=ih (i+1) m a' b' (by omega) (by omega) (by omega)
   simp only [hw] at e'
   refine ⟨a,b,e'.trans e,fun h=>?_,fun h=>?_⟩
   ·obtain ⟨h1,h2⟩:=ha h
    obtain ⟨h3,h4⟩:=ha' h1
    refine ⟨h3,fun k hk hk2=>?_⟩
    rcases Nat.lt_or_ge i k with h5 | h5
    ·exact h2 k hk h5
    ·obtain rfl:k=i:=by omega
     exact fun j hj=>h4 j (Nat.zero_le _) hj
   ·obtain ⟨h1,h2⟩:=hb h
    obtain ⟨h3,h4⟩:=hb' h1
    refine ⟨h3,fun k hk hk2=>?_⟩
    rcases Nat.lt_or_ge i k with h5 | h5
    ·exact h2 k hk h5
    ·obtain rfl:k=i:=by omega
     exact fun j hj=>h4 j (Nat.zero_le _) hj
 obtain ⟨a,b,e,ha,hb⟩:=key xs.length 0 n false false (by omega) (by omega) (by omega)
 refine ⟨a,b,e,fun h y hy=>?_,fun h y hy=>?_⟩
 ·obtain ⟨k,hk,rfl⟩:=List.getElem_of_mem hy
  exact (ha h).2 k hk (Nat.zero_le _)
 ·obtain ⟨k,hk,rfl⟩:=List.getElem_of_mem hy
  exact (hb h).2 k hk (Nat.zero_le _)
theorem qE (n:Nat) (hn:Big≤n) (xs:List Rp) (ho:∀y∈xs,OkR y) (hl:xs.length≤1000000) (ha:iO xs≤1000000) (hno:∀d∈xs,TQ (enc d.2)):g12 n (xs.map emb)=some (fC xs,()):=by
 dsimp only [g12,HD]
 obtain ⟨p,hp⟩:∃p,g27 n=some (p,()):=⟨_,rfl⟩
 rw [bP hp,OO n hn xs hl ho,Option.bind_some]
 simp only
 exact bP (qI n hn p xs ho hl ha hno)
theorem wK (n:Nat) (hn:Big≤n) (xs:List Rp) (ho:∀y∈xs,OkR y) (hl:xs.length≤1000000) (ha:iO xs≤1000000):g13 n (xs.map emb)=some (fC xs,()):=by
 have hB:(4611686018427387904:Nat)≤n:=hn
 dsimp only [g13,BJ,MB,LU,IH,GM]
 have hlm:(xs.map emb).length=xs.length:=List.length_map _
 have key:∀(d i m:Nat),xs.length - i=d→i≤xs.length→d < m→g13_3L n (fun v3=>some (v3,())) m (fC (xs.take i)) (xs.map emb) ((xs.map emb).length:Int) (i:Int)=some (fC xs,()):=by
  intro d
  induction d with
  | zero=>
   intro i m hd hi hm
   obtain ⟨m,rfl⟩:∃m',m=m'+1:=⟨m - 1,by omega⟩
   rw [g13_3L.eq_2,BG,bdF (by omega),List.take_of_length_le (by omega)]
  | succ d ih=>
   intro i m hd hi hm
   obtain ⟨m,rfl⟩:∃m',m=m'+1:=⟨m - 1,by omega⟩
   have hi':i < xs.length:=by omega
   have hI:i < (xs.map emb).length:=by omega
   have hg:(xs.map emb)[i]=(xs[i].1,enc xs[i].2):=List.getElem_map _
   have next:=ih (i+1) m (by omega) (by omega) (by omega)
   have hs:fC (xs.take (i+1))=fC (xs.take i)++col xs[i]:=by
    rw [List.take_succ_eq_append_getElem hi',hJ,wH]
   have hsz1:=lP (xs.take i)
   have hsz2:=fI xs[i].2
   have hq2:=qY xs i
   have hq3:=oF (List.getElem_mem hi')
   have hq4:(xs.take i).length≤xs.length:=by rw [List.length_take];omega
   have hw:w64 ((i:Int)+1)=((i+1:Nat):Int):=by rw [eT (by omega) (by omega)];omega
   have hop:=(ho xs[i] (List.getElem_mem hi')).1
   rw [hs] at next
   rw [g13_3L.eq_2,BG,bdT (by omega),eY (by omega) (by omega)]
   simp only [iE,mE hI,hg]
   rw [hw]
   rcases hop with h | h | h
   ·have hc:col xs[i]=esc31++enc xs[i].2++esc0:=by unfold col;rw [if_neg (by omega),if_pos h]
    rw [hc] at next
    refine (biT (by show (xs[i].1== -1)=true;rw [h];rfl)).trans ?_
    rw [cS (by show 5+_≤_;omega),cS (by rw [size_append];show 5+_+4≤_;omega),cS (by rw [size_append,size_append];show _+(5+_+4)≤_;omega)]
    exact next
   ·have hc:col xs[i]=enc xs[i].2:=by unfold col;rw [if_neg (by omega),if_neg (by omega)]
    rw [hc] at next
    refine (biF (by show (xs[i].1== -1)=false;rw [h];rfl)).trans ?_
    refine (biF (by show (xs[i].1==1)=false;rw [h];rfl)).trans ?_
    rw [cS (by omega)]
    exact next
   ·have hc:col xs[i]=esc32++enc xs[i].2++esc0:=by unfold col;rw [if_pos h]
    rw [hc] at next
    refine (biF (by show (xs[i].1== -1)=false;rw [h];rfl)).trans ?_
    refine (biT (by show (xs[i].1==1)=true;rw [h];rfl)).trans ?_
    rw [cS (by show 5+_≤_;omega),cS (by rw [size_append];show 5+_+4≤_;omega),cS (by rw [size_append,size_append];show _+(5+_+4)≤_;omega)]
    exact next
 exact key xs.length 0 n (by omega) (Nat.zero_le _) (by omega)
end Go.Proofs.YtfnjlgflbenfoaaDoorHF
