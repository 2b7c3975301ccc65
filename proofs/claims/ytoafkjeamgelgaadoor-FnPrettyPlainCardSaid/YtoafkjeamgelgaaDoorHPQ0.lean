/- Plain statements about the printed functions. -/
import Derived.Test.YtoafkjeamgelgaaDoorHFB
import Derived.Test.YtoafkjeamgelgaaDoorHGA0
namespace Go.Proofs.YtoafkjeamgelgaaDoorHF
open Go
set_option linter.unusedVariables false
set_option linter.unusedSimpArgs false
def Big:Nat:=4611686018427387904
section
variable {β:Type}
theorem bW {n:Int} (h0: -9223372036854775808≤n) (h1:n < 9223372036854775808):w64 n=n:=by
 unfold w64 IntKind.wrap;simp [IntKind.bits,IntKind.signed];omega
theorem cB {i n:Int} {κ:Option β} (h0:0≤i) (h1:i < n):idx i n κ=κ:=by simp [idx,h0,h1]
theorem tJ {a b n:Int} {κ:Option β} (h0:0≤a) (h1:a≤b) (h2:b≤n):bnd a b n κ=κ:=by simp [bnd,h0,h1,h2]
theorem fK {n:Nat} {κ:Option β} (h:n≤1099511627776):dS n κ=κ:=by simp [dS,h]
theorem FQ {z:BA} {κ:Option β} (h:z.size≤70368744177664):zB z κ=κ:=by
 have:Nat.ble z.size 70368744177664=true:=by rw [Nat.ble_eq];exact h
 simp [zB,this]
theorem biT {γ:Type} {c:Bool} {x y:γ} (h:c=true):(bif c then x else y)=x:=by rw [h];rfl
theorem biF {γ:Type} {c:Bool} {x y:γ} (h:c=false):(bif c then x else y)=y:=by rw [h];rfl
theorem bdT {γ:Type} {p:Prop} [Decidable p] {x y:γ} (h:p):(bif decide p then x else y)=x:=by rw [decide_eq_true h];rfl
theorem bdF {γ:Type} {p:Prop} [Decidable p] {x y:γ} (h:¬p):(bif decide p then x else y)=y:=by rw [decide_eq_false h];rfl
theorem bA {γ δ:Type} {o:Option γ} {a:γ} {f:γ→Option δ} (h:o=some a):o.bind f=f a:=by rw [h];rfl
end
theorem XU {α:Type} {xs:List α} {i:Int} {d:α} (h0:0≤i) (h1:i < xs.length):rd xs i d=xs[i.toNat]'(by omega):=by
 unfold rd;rw [List.getD_eq_getElem?_getD,List.getElem?_eq_getElem (by omega)];rfl
theorem WP {α:Type} {xs:List α} {n:Nat} {d:α}:rd xs (n:Int) d=xs.getD n d:=by simp [rd]
theorem tC {α:Type} (xs:List α) (a b:Nat):cut xs (a:Int) (b:Int)=(xs.drop a).take (b - a):=by simp [cut]
theorem wU {α:Type} (xs:List α) (b:Int):cut xs 0 b=xs.take b.toNat:=by simp [cut]
theorem tF {x y:BA} (h:x.data.toList=y.data.toList):x=y:=by
 obtain ⟨⟨x⟩⟩:=x;obtain ⟨⟨y⟩⟩:=y;simp only at h;rw [h]
theorem aY (z:BA):(aE z).length=z.size:=by unfold aE;rw [List.length_map];rfl
theorem fT {x y:BA} (h:aE x=aE y):x=y:=by
 refine tF ?_
 unfold aE at h
 exact (List.map_inj_right (fun a b hab=>UInt8.toNat_inj.1 (by exact_mod_cast hab))).1 h
theorem pJ (x y:BA):fE x y=decide (x=y):=by
 unfold fE
 have e:∀z:BA,z.toList=z.data.toList:=fun z=>by
  have key:∀(l:List UInt8) (k:Nat) (acc:List UInt8),(k≤l.length)→ByteArray.toList.loop ⟨⟨l⟩⟩ k acc=acc.reverse++l.drop k:=by
   intro l k acc hk
   induction hj:l.length - k generalizing k acc with
   | zero=>
    unfold ByteArray.toList.loop
    have:¬k < (ByteArray.mk ⟨l⟩).size:=by show ¬k < l.length;omega
    rw [if_neg this,List.drop_eq_nil_of_le (by omega)];simp
   | succ j ih=>
    unfold ByteArray.toList.loop
    have h1:k < l.length:=by omega
    have:k < (ByteArray.mk ⟨l⟩).size:=h1
    rw [if_pos this,ih (k+1) _ (by omega) (by omega)]
    have hg:(ByteArray.mk ⟨l⟩).get! k=l[k]:=by
     show (Array.mk l)[k]! =l[k]
     rw [getElem!_pos (Array.mk l) k (by simpa using h1)];simp
    rw [hg,List.drop_eq_getElem_cons h1];simp
  obtain ⟨⟨l⟩⟩:=z
  unfold ByteArray.toList
  rw [key l 0 [] (Nat.zero_le _)];simp
 rw [e,e]
 by_cases h:x=y
 ·subst h;simp
 ·simp only [h,decide_false]
  exact beq_false_of_ne (fun h'=>h (tF h'))
theorem bF (x y:BA):aE (x++y)=aE x++aE y:=by
 unfold aE;rw [ByteArray.data_append,Array.toList_append,List.map_append]
theorem size_append (x y:BA):(x++y).size=x.size+y.size:=by rw [←aY,bF];simp [aY]
theorem cN (z:BA) (a b:Int):aE (dY z a b)=cut (aE z) a b:=by
 unfold aE dY cut
 rw [ByteArray.data_extract,←List.map_drop,←List.map_take]
 congr 1
 simp [Array.toList_extract,List.extract_eq_take_drop]
theorem eH {z:BA} {i:Int} (h0:0≤i) (h1:i < z.size):byteAt z i=rd (aE z) i 0:=by
 have hl:=aY z
 rw [XU h0 (by omega)]
 unfold byteAt aE
 rw [List.getElem_map]
 congr 2
 show z.data[i.toNat]! =_
 rw [getElem!_pos z.data i.toNat (by show i.toNat < z.size;omega)]
 simp
theorem rE {z:BA}:∀b∈aE z,0≤b∧b < 256:=by
 intro b hb
 unfold aE at hb
 obtain ⟨u,_,rfl⟩:=List.mem_map.1 hb
 have:=u.toNat_lt
 omega
theorem fR (z:BA):strOfNums (aE z)=z:=by
 refine tF ?_
 rw [strOfNums_data];unfold aE
 rw [List.map_map]
 refine (List.map_congr_left (fun u _=>?_)).trans (List.map_id _)
 simp
theorem kY {xs:List Int} (h:∀b∈xs,0≤b∧b < 256):aE (strOfNums xs)=xs:=by
 unfold aE
 rw [strOfNums_data,List.map_map]
 refine (List.map_congr_left (fun u hu=>?_)).trans (List.map_id _)
 have:=h u hu
 simp [UInt8.toNat_ofNat']
 omega
theorem mM {z:BA} {a b:Int} (h0:0≤a) (h1:a≤b) (h2:b≤z.size):(dY z a b).size=(b - a).toNat:=by
 have hl:=aY z
 rw [←aY,cN,gX _ _ _ h1 (by omega)];omega
theorem WD {α:Type} {xs:List α} {a b i:Int} {d:α} (h0:0≤a) (h1:0≤i) (h2:i < b - a) (h3:b≤xs.length):rd (cut xs a b) i d=rd xs (a+i) d:=by
 unfold rd cut
 rw [List.getD_eq_getElem?_getD,List.getD_eq_getElem?_getD,List.getElem?_take,if_pos (by omega),List.getElem?_drop]
 congr 2;omega
theorem nJ {z:BA} {a b i:Int} (h0:0≤a) (h1:0≤i) (h2:i < b - a) (h3:b≤z.size):byteAt (dY z a b) i=byteAt z (a+i):=by
 have hl:=aY z
 have hs:=mM (z:=z) h0 (show a≤b by omega) h3
 rw [eH h1 (by omega),eH (by omega) (by omega),cN,WD h0 h1 h2 (by omega)]
theorem AB {α σ β:Type} (xs:List α) (F:Nat→σ→Nat→Option β) (k:σ→Option β) (step:σ→α→σ) (Inv:Nat→σ→Prop)
  (h1:∀m s i (hi:i < xs.length),Inv i s→F (m+1) s i=F m (step s xs[i]) (i+1)∧Inv (i+1) (step s xs[i]))
  (h2:∀m s,Inv xs.length s→F (m+1) s xs.length=k s):∀m s,xs.length < m→Inv 0 s→F m s 0=k (xs.foldl step s):=by
 have key:∀(d i m:Nat) (s:σ),xs.length - i=d→i≤xs.length→d < m→Inv i s→F m s i=k ((xs.drop i).foldl step s):=by
  intro d
  induction d with
  | zero=>
   intro i m s hd hi hm hs
   obtain ⟨m',rfl⟩:∃m',m=m'+1:=⟨m - 1,by omega⟩
   obtain rfl:i=xs.length:=by omega
   rw [h2 m' s hs,List.drop_length];rfl
  | succ d ih=>
   intro i m s hd hi hm hs
   obtain ⟨m',rfl⟩:∃m',m=m'+1:=⟨m - 1,by omega⟩
   have hl:i < xs.length:=by omega
   obtain ⟨e,hs'⟩:=h1 m' s i hl hs
   rw [e,ih (i+1) m' _ (by omega) (by omega) (by omega) hs',List.drop_eq_getElem_cons hl];rfl
 intro m s hm hs
 have:=key xs.length 0 m s (by omega) (Nat.zero_le _) hm hs
 simpa using this
theorem zQ {α β:Type} (xs:List α) (F:Nat→Nat→Option β) (kf:(i:Nat)→i < xs.length→Option β) (k:Option β) (p:Nat→α→Bool)
  (h1:∀m i (hi:i < xs.length),(∀j (hj:j < i),p j (xs[j]'(by omega))=false)→F (m+1) i=if p i xs[i]=true then kf i hi else F m (i+1))
  (h2:∀m,(∀j (hj:j < xs.length),p j xs[j]=false)→F (m+1) xs.length=k):∀m,xs.length < m→(∃i hi,p i (xs[i]'hi)=true∧(∀j (hj:j < i),p j (xs[j]'(by omega))=false)∧F m 0=kf i hi)∨((∀j (hj:j < xs.length),p j xs[j]=false)∧F m 0=k):=by
 have key:∀(d i m:Nat),xs.length - i=d→(hi:i≤xs.length)→d < m→(∀j (hj:j < i),p j (xs[j]'(by omega))=false)→
   (∃i' hi',p i' (xs[i']'hi')=true∧(∀j (hj:j < i'),p j (xs[j]'(by omega))=false)∧F m i=kf i' hi')∨((∀j (hj:j < xs.length),p j xs[j]=false)∧F m i=k):=by
  intro d
  induction d with
  | zero=>
   intro i m hd hi hm hp
   obtain ⟨m',rfl⟩:∃m',m=m'+1:=⟨m - 1,by omega⟩
   obtain rfl:i=xs.length:=by omega
   exact .inr ⟨hp,h2 m' hp⟩
  | succ d ih=>
   intro i m hd hi hm hp
   obtain ⟨m',rfl⟩:∃m',m=m'+1:=⟨m - 1,by omega⟩
   have hl:i < xs.length:=by omega
   have e:=h1 m' i hl hp
   cases hpi:p i xs[i] with
   | true=>rw [hpi,if_pos rfl] at e;exact .inl ⟨i,hl,hpi,hp,e⟩
   | false=>
    rw [hpi,if_neg (by simp)] at e
    rw [e]
    refine ih (i+1) m' (by omega) (by omega) (by omega) (fun j hj=>?_)
    by_cases hji:j=i
    ·subst hji;exact hpi
    ·exact hp j (by omega)
 intro m hm
 exact key xs.length 0 m (by omega) (Nat.zero_le _) hm (fun j hj=>by omega)
theorem gE {α:Type} {xs:List α} {i:Nat} {d:α} (h:i < xs.length):rd xs (i:Int) d=xs[i]:=by
 rw [WP,List.getD_eq_getElem?_getD,List.getElem?_eq_getElem h];rfl
theorem iS {α:Type} {x d:α} {i:Int} (h:i=0):rd [x] i d=x:=by subst h;rfl
end Go.Proofs.YtoafkjeamgelgaaDoorHF
namespace Go.Proofs.YtoafkjeamgelgaaDoorHF
open Go Go.RowKit
set_option linter.unusedVariables false
set_option linter.unusedSimpArgs false
theorem HK (ns:List Int):∀s:BA,ns.foldl (fun r n=>r++Utf8.encode n) s=s++runesBytes ns:=by
 induction ns with
 | nil=>intro s;simp [runesBytes]
 | cons n ns ih=>
  intro s
  unfold runesBytes
  simp only [List.foldl_cons]
  rw [ih,ih (ByteArray.empty++_)]
  simp [ByteArray.append_assoc]
theorem nT (n:Int) (ns:List Int):runesBytes (n::ns)=Utf8.encode n++runesBytes ns:=by
 conv=>lhs;unfold runesBytes
 rw [List.foldl_cons,HK];simp
def Valids (xs:List Int):Prop:=∀x∈xs,Utf8.valid x=true
theorem vG (s:BA) (i:Nat):Utf8.valid ((Utf8.decode s i).1:Int)=true:=by
 unfold Utf8.decode
 simp only [Nat.add_zero]
 split
 ·rename_i h;simp [Utf8.valid];omega
 split
 ·split
  ·rename_i h1 h2;simp only [Utf8.valid];simp;omega
  ·decide
 split
 ·split
  ·rename_i h1 h2;simp at h2;exact h2.2
  ·decide
 split
 ·split
  ·rename_i h1 h2;simp at h2;exact h2.2
  ·decide
 ·decide
theorem jJ (s:BA):∀b i,Valids (eF s b i)
 | 0,_=>by intro x hx;simp [eF] at hx
 | b+1,i=>by
  intro x hx
  unfold eF at hx
  split at hx
  ·rcases List.mem_cons.1 hx with rfl | hx
   ·exact vG s i
   ·exact jJ s b _ x hx
  ·simp at hx
theorem rI (s:BA):Valids (bN s):=jJ s _ _
theorem Valids.take {x:List Int} (h:Valids x) (n:Nat):Valids (x.take n):=fun y hy=>h y (List.mem_of_mem_take hy)
theorem Valids.drop {x:List Int} (h:Valids x) (n:Nat):Valids (x.drop n):=fun y hy=>h y (List.mem_of_mem_drop hy)
theorem Valids.append {x y:List Int} (h:Valids x) (k:Valids y):Valids (x++y):=fun z hz=>(List.mem_append.1 hz).elim (h z) (k z)
end Go.Proofs.YtoafkjeamgelgaaDoorHF
namespace Go.Proofs.YtoafkjeamgelgaaDoorHF
open Go
set_option linter.unusedVariables false
set_option linter.unusedSimpArgs false
def bl (z:BA):List UInt8:=z.data.toList
theorem bU (x y:BA):bl (x++y)=bl x++bl y:=by unfold bl;rw [ByteArray.data_append,Array.toList_append]
theorem gY {x y:BA} (h:bl x=bl y):x=y:=tF h
def YW (b:UInt8):Prop:=128≤b.toNat∧b.toNat < 192
abbrev enc (x:List Int):BA:=runesBytes x
theorem iI (x:List Int):(enc x).size≤4 * x.length:=runesBytes_size_le x
theorem Valids.nil:Valids []:=fun x hx=>by cases hx
theorem Valids.cons {r:Int} {x:List Int} (h:Valids (r::x)):Utf8.valid r=true∧Valids x:=⟨h r (by simp),fun y hy=>h y (by simp [hy])⟩
theorem MH (x:BA):dY x 0 (x.size:Int)=x:=by
 apply fT
 rw [cN,wU]
 simp [←aY]
def Asc (l:List Int):Prop:=∀b∈l,0≤b∧b < 128
theorem Asc.nil:Asc []:=fun b hb=>by cases hb
theorem Asc.append {x y:List Int} (hx:Asc x) (hy:Asc y):Asc (x++y):=fun b hb=>(List.mem_append.1 hb).elim (hx b) (hy b)
theorem Asc.take {x:List Int} (hx:Asc x) (k:Nat):Asc (x.take k):=fun b hb=>hx b (List.mem_of_mem_take hb)
theorem Asc.drop {x:List Int} (hx:Asc x) (k:Nat):Asc (x.drop k):=fun b hb=>hx b (List.mem_of_mem_drop hb)
theorem yQ {b:Int} (h:0≤b∧b < 128):aE (Utf8.encode b)=[b]:=by
 obtain ⟨k,rfl⟩:=Int.eq_ofNat_of_zero_le h.1
 have hk:k < 128:=by omega
 have hv:Utf8.valid (k:Int)=true:=by unfold Utf8.valid;simp;omega
 unfold Utf8.encode
 simp only [hv,if_true,Int.ofNat_eq_natCast,Int.toNat_natCast,hk]
 simp [aE]
 omega
theorem jD:∀{l:List Int},Asc l→aE (enc l)=l
 | [],_=>rfl
 | b::l,h=>by
  show aE (runesBytes (b::l))=_
  rw [nT,bF,yQ (h b (by simp))]
  have:aE (enc l)=l:=jD fun c hc=>h c (by simp [hc])
  show [b]++aE (enc l)=_
  rw [this];rfl
theorem Asc.eq {l:List Int} (h:Asc l):strOfNums l=enc l:=by
 apply fT
 rw [jD h,kY fun b hb=>by have:=h b hb;omega]
theorem Asc.size {l:List Int} (h:Asc l):(enc l).size=l.length:=by rw [←aY,jD h]
theorem Asc.byteAt {l:List Int} (h:Asc l) {i:Nat} (hi:i < l.length):byteAt (enc l) (i:Int)=l[i]:=by
 rw [eH (by omega) (by rw [h.size];omega),jD h,gE hi]
theorem Asc.bl {l:List Int} (h:Asc l):bl (enc l)=l.map fun b=>UInt8.ofNat b.toNat:=by
 have:=h.eq
 rw [←this]
 exact strOfNums_data l
@[reducible] def Prt:=Int×BA
@[reducible] def Rp:=Int×List Int
def emb (d:Rp):Prt:=(d.1,enc d.2)
def OkR (d:Rp):Prop:=(d.1= -1∨d.1=0∨d.1=1)∧Valids d.2
theorem OP (n:Nat) (a:BA) (m:Nat) (h:a.size≤70368744177664):g36 n a (m:Int)=some (enc ((bN a).take m),()):=by
 have hl:=iP a
 dsimp only [g36,NX,g51,MJ]
 rw [FQ h,Option.bind_some]
 have e:rG ((bN a).length:Int) (m:Int)=((min (bN a).length m:Nat):Int):=by unfold rG;split <;> omega
 dsimp only
 rw [e,tJ (by omega) (by omega) (by omega),wU]
 congr 3
 rw [show (0+(((min (bN a).length m:Nat):Int) - 0)).toNat=min (bN a).length m by omega,Nat.min_comm,List.take_eq_take_iff]
 omega
theorem uZ (n:Nat) (v:Int) (h:v= -1∨v=0∨v=1):g54 n v=some (v,()):=by
 rcases h with rfl | rfl | rfl <;> rfl
theorem SM (n:Nat) (hn:Big≤n) (xs:List Rp) (hl:xs.length≤1000000) (ho:∀y∈xs,OkR y):g39 n (xs.map emb)=some (xs.map emb,()):=by
 have hB:(4611686018427387904:Nat)≤n:=hn
 dsimp only [g39,EE,II,PJ,LF,MU]
 have e:=AB (xs.map emb) (fun m s i=>g39_3L n (fun x4=>some (x4,())) m s (xs.map emb) ((xs.map emb).length:Int) (i:Int)) (fun s=>some (s,())) (fun s x=>s++[x]) (fun i s=>s.length=i)
  (fun m s i hi hs=>by
   have hi':i < xs.length:=by simpa using hi
   refine ⟨?_,by simp [hs]⟩
   have hlm:(xs.map emb).length=xs.length:=List.length_map _
   have hop:=(ho xs[i] (by simp)).1
   have hg:(xs.map emb)[i]=emb xs[i]:=List.getElem_map _
   rw [g39_3L.eq_2,EC,bdT (by omega),cB (by omega) (by omega)]
   simp only [gE hi,iS rfl]
   rw [hg,uZ n (emb xs[i]).1 hop,Option.bind_some,fK (by simp only [List.length_cons,List.length_nil];omega),bW (by omega) (by omega)]
   rfl)
  (fun m s hs=>by rw [g39_3L.eq_2,EC,bdF (by omega)]) n [] (by simp;omega) rfl
 refine Eq.trans e ?_
 have hf:∀(l:List Prt) (s:List Prt),l.foldl (fun s x=>s++[x]) s=s++l:=by
  intro l
  induction l with
  | nil=>intro s;simp
  | cons x l ih=>intro s;rw [List.foldl_cons,ih];simp
 rw [hf];rfl
def qB (x:Prt):Bool:=decide (x.2.size≤2147483647)
theorem QK (n:Nat) (x:Prt):g35 n x=some (qB x,()):=by
 dsimp only [g35,MF]
 unfold qB
 by_cases h:(x.2.size:Int)>2147483647
 ·rw [bdT h,decide_eq_false (by omega)]
 ·rw [bdF h,decide_eq_true (by omega)]
theorem ST (n:Nat) (hn:Big≤n) (xs:List Prt):(g14 n xs=some (true,())∧xs.length≤2147483647∧∀y∈xs,y.2.size≤2147483647)∨g14 n xs=some (false,()):=by
 dsimp only [g14,CG,NZ]
 by_cases h:(xs.length:Int)>2147483647
 ·rw [bdT h];exact .inr rfl
 ·rw [bdF h]
  have hB:(4611686018427387904:Nat)≤n:=hn
  have h1:∀m i (hi:i < xs.length),(∀j (hj:j < i),(fun (_:Nat) x=> !qB x) j (xs[j]'(by omega))=false)→
    g14_3L n (fun v2=>some (v2,())) (rZ n (fun v2=>some (v2,()))) (m+1) xs (xs.length:Int) (i:Int)=if (fun (_:Nat) x=> !qB x) i xs[i]=true then (fun _ _=>some (false,())) i hi else g14_3L n (fun v2=>some (v2,())) (rZ n (fun v2=>some (v2,()))) m xs (xs.length:Int) ((i+1:Nat):Int):=by
   intro m i hi _
   rw [g14_3L.eq_2,BY,bdT (by omega),cB (by omega) (by omega),iS rfl,gE hi,QK,Option.bind_some]
   cases hfb:qB xs[i] with
   | true=>
    rw [if_neg (by simp [hfb])]
    show g14_3L n (fun v2=>some (v2,())) (rZ n (fun v2=>some (v2,()))) m xs (xs.length:Int) (w64 ((i:Int)+1))=_
    rw [bW (by omega) (by omega)];rfl
   | false=>rw [if_pos (by simp [hfb])];rfl
  rcases zQ xs (fun m i=>g14_3L n (fun v2=>some (v2,())) (rZ n (fun v2=>some (v2,()))) m xs (xs.length:Int) (i:Int)) (fun _ _=>some (false,())) (some (true,())) (fun _ x=> !qB x) h1 (fun m _=>by rw [g14_3L.eq_2,BY,bdF (by omega)];rfl) n (by omega) with ⟨i,hi,_,_,e⟩ | ⟨hall,e⟩
  ·exact .inr e
  ·refine .inl ⟨e,by omega,fun y hy=>?_⟩
   obtain ⟨i,hi,rfl⟩:=List.getElem_of_mem hy
   have:=hall i hi
   simpa [qB] using this
def AD (n:Int):Int:=if Int.tmod n 3=2 then -1 else if Int.tmod n 3= -2 then 1 else Int.tmod n 3
theorem TT (n:Int):Int.tmod n 3= -2∨Int.tmod n 3= -1∨Int.tmod n 3=0∨Int.tmod n 3=1∨Int.tmod n 3=2:=by
 have h1:=Int.tmod_lt_of_pos n (show (0:Int) < 3 by omega)
 have h2:=Int.lt_tmod_of_pos n (show (0:Int) < 3 by omega)
 omega
theorem AX (n:Int):AD n= -1∨AD n=0∨AD n=1:=by
 unfold AD
 rcases TT n with h | h | h | h | h <;> simp [h]
def WW (y:Prt):Rp:=(AD y.1,(bN y.2).take 30)
def cW (m:Nat) (xs:List Prt):List Rp:=(xs.take m).map WW
theorem yR (m:Nat) (xs:List Prt):∀y∈cW m xs,OkR y∧y.2.length≤30:=by
 intro y hy
 obtain ⟨z,_,rfl⟩:=List.mem_map.1 hy
 exact ⟨⟨AX _,(rI _).take _⟩,List.length_take_le _ _⟩
theorem iK (m:Nat) (xs:List Prt):(cW m xs).length≤m:=by simp [cW];omega
theorem GP (n:Nat) (hn:Big≤n) (xs:List Prt) (hl:xs.length≤2147483647) (hs:∀y∈xs,y.2.size≤2147483647) (m:Nat) (hm:m≤1000000):g15 n xs (m:Int)=some ((cW m xs).map emb,()):=by
 have hB:(4611686018427387904:Nat)≤n:=hn
 dsimp only [g15,EH,NV,PG,NL,OW]
 have key:∀(d i g:Nat),min m xs.length - i=d→i≤min m xs.length→d < g→g15_3L n (fun x4=>some (x4,())) g xs (m:Int) ((cW i xs).map emb) (i:Int)=some ((cW m xs).map emb,()):=by
  intro d
  induction d with
  | zero=>
   intro i g hd hi hg
   obtain ⟨g,rfl⟩:∃g',g=g'+1:=⟨g - 1,by omega⟩
   rw [g15_3L.eq_2,DC]
   have e:cW i xs=cW m xs:=by unfold cW;congr 1;rw [List.take_eq_take_iff];omega
   by_cases h:i < xs.length
   ·rw [bdT (by omega),bdF (by omega),e]
   ·rw [bdF (by omega),e]
  | succ d ih=>
   intro i g hd hi hg
   obtain ⟨g,rfl⟩:∃g',g=g'+1:=⟨g - 1,by omega⟩
   have hi':i < xs.length:=by omega
   have:=ih (i+1) g (by omega) (by omega) (by omega)
   have hstep:(cW (i+1) xs).map emb=(cW i xs).map emb++[(AD xs[i].1,enc ((bN xs[i].2).take 30))]:=by
    unfold cW
    rw [List.take_succ_eq_append_getElem hi',List.map_append,List.map_append];rfl
   have hlen:((cW i xs).map emb).length≤m:=by rw [List.length_map];have:=iK i xs;omega
   have hsz:=hs xs[i] (by simp)
   rw [g15_3L.eq_2,DC,bdT (by omega),bdT (by omega),cB (by omega) (by omega)]
   simp only [gE hi']
   rw [show (30:Int)=((30:Nat):Int) from rfl,OP n _ 30 (by omega)]
   simp only [Option.bind_some]
   have hw:w64 ((i:Int)+1)=((i+1:Nat):Int):=by rw [bW (by omega) (by omega)];omega
   rw [hw]
   rw [hstep] at this
   unfold AD at this
   rcases TT xs[i].1 with h | h | h | h | h
   all_goals
    rw [h] at this ⊢
    simp only [show ((-2:Int)=2)=False by simp,show ((-1:Int)=2)=False by simp,show ((0:Int)=2)=False by simp,show ((1:Int)=2)=False by simp,show ((-1:Int)= -2)=False by simp,show ((0:Int)= -2)=False by simp,show ((1:Int)= -2)=False by simp,if_true,if_false,if_pos,if_neg,not_false_eq_true] at this
    simp only [show ((-2:Int)==2)=false from rfl,show ((-2:Int)== -2)=true from rfl,show ((2:Int)==2)=true from rfl,show ((-1:Int)==2)=false from rfl,show ((-1:Int)== -2)=false from rfl,show ((0:Int)==2)=false from rfl,show ((0:Int)== -2)=false from rfl,show ((1:Int)==2)=false from rfl,show ((1:Int)== -2)=false from rfl,cond_true,cond_false]
    rw [cB (by omega) (by omega),fK (by simp only [List.length_append,List.length_cons,List.length_nil];omega)]
    exact this
 exact key (min m xs.length) 0 n (by omega) (by omega) (by omega)
def YS:List Rp→List Int
 | []=>[]
 | d::l=>(if d.1=1 then [] else d.2)++YS l
def YO:List Rp→List Int
 | []=>[]
 | d::l=>(if d.1= -1 then [] else d.2)++YO l
def edR:List Rp→Nat
 | []=>0
 | d::l=>(if d.1=0 then 0 else d.2.length)+edR l
def wD (l:List Rp):Nat:=(l.map fun d=>d.2.length).sum
theorem OU:wD []=0:=rfl
theorem sD (d:Rp) (l:List Rp):wD (d::l)=d.2.length+wD l:=by simp [wD]
theorem yE {d:Rp}:∀{l:List Rp},d∈l→d.2.length≤wD l
 | e::l,h=>by
  rw [sD]
  rcases List.mem_cons.1 h with rfl | h
  ·omega
  ·have:=yE h;omega
def M (l:List Rp):List Prt:=l.map emb
theorem QC (x:List Rp):(M x).length=x.length:=List.length_map _
def ZC (n:Nat):Prop:=n≤1000000000
def cpl:List Int→List Int→Nat
 | a::x,b::y=>if a=b then cpl x y+1 else 0
 | _,_=>0
def csl (x y:List Int):Nat:=cpl x.reverse y.reverse
def sO:List Rp→List Int
 | []=>[]
 | d::l=>(if d.1= -1 then d.2 else [])++sO l
def rY:List Rp→List Int
 | []=>[]
 | d::l=>(if d.1=1 then d.2 else [])++rY l
def cdR:List Rp→Nat
 | []=>0
 | d::l=>(if d.1= -1 then 1 else 0)+cdR l
def ciR:List Rp→Nat
 | []=>0
 | d::l=>(if d.1=1 then 1 else 0)+ciR l
def Eds (P:List Rp):Prop:=∀d∈P,d.1= -1∨d.1=1
def pushE (u:List Int):List Rp→List Rp
 | (k,s)::A=>if k=0 then (0,s++u)::A else (0,u)::(k,s)::A
 | []=>[(0,u)]
structure Fac where
 A:List Rp
 td:List Int
 ti:List Int
 t:List Int
def fac (A:List Rp) (td ti t:List Int):Fac:=
 let c:=cpl ti td
 let s:=csl (ti.drop c) (td.drop c)
 ⟨if c=0 then A else pushE (ti.take c) A,(td.drop c).take ((td.drop c).length - s),(ti.drop c).take ((ti.drop c).length - s),(ti.drop c).drop ((ti.drop c).length - s)++t⟩
def stepE (A P:List Rp) (t:List Int):List Rp:=
 if 1 < P.length then
  if cdR P=0 then (0,t)::(1,rY P)::A
  else if ciR P=0 then (0,t)::(-1,sO P)::A
  else let f:=fac A (sO P) (rY P) t;(0,f.t)::(1,f.ti)::(-1,f.td)::f.A
 else if P=[] then pushE t A
 else (0,t)::(P.reverse++A)
def run1:List Rp→List Rp→List Rp→List Rp×List Rp
 | A,P,[]=>(A,P)
 | A,P,d::R=>if d.1=0 then run1 (stepE A P d.2) [] R else run1 A (P++[d]) R
def chop:List Rp→List Rp
 | (k,s)::A=>if s=[] then A else (k,s)::A
 | []=>[]
def join1 (x:List Rp):List Rp:=(chop (stepE (run1 [] [] x).1 (run1 [] [] x).2 [])).reverse
def slide:List Rp→List Rp→Bool→List Rp×Bool
 | A,p::c::q::R,ch=>
  if p.1=0∧q.1=0 then
   if p.2 <:+c.2 then slide ((c.1,p.2++c.2.take (c.2.length - p.2.length))::A) ((q.1,p.2++q.2)::R) true
   else if q.2 <+:c.2 then slide ((p.1,p.2++q.2)::A) ((c.1,c.2.drop q.2.length++q.2)::R) true
   else slide (p::A) (c::q::R) ch
  else slide (p::A) (c::q::R) ch
 | A,R,ch=>(A.reverse++R,ch)
termination_by _ R _=>R.length
def phi (x:List Rp):Nat:=edR x+x.length
def Hd (A:List Rp):Prop:=A=[]∨∃s A',A=(0,s)::A'
def Ops (x:List Rp):Prop:=∀d∈x,d.1= -1∨d.1=0∨d.1=1
theorem Eds.nil:Eds []:=fun e he=>by cases he
theorem Ops.cons {d:Rp} {x:List Rp} (h:Ops (d::x)):(d.1= -1∨d.1=0∨d.1=1)∧Ops x:=⟨h d (by simp),fun e he=>h e (by simp [he])⟩
def mergeN:Nat→List Rp→List Rp
 | 0,x=>x
 | k+1,x=>if (slide [] (join1 x) false).2=true then mergeN k (slide [] (join1 x) false).1 else (slide [] (join1 x) false).1
def merge (x:List Rp):List Rp:=mergeN (phi x+1) x
def Ok (x:List Rp):Prop:=∀d∈x,OkR d
theorem Ok.nil:Ok []:=fun d h=>by cases h
theorem Ok.append {x y:List Rp} (h:Ok x) (k:Ok y):Ok (x++y):=fun d hd=>(List.mem_append.1 hd).elim (h d) (k d)
theorem Ok.cons' {d:Rp} {x:List Rp} (h:OkR d) (k:Ok x):Ok (d::x):=fun e he=>(List.mem_cons.1 he).elim (fun e=>by rw [e];exact h) (k e)
theorem Ok.of_cons {d:Rp} {x:List Rp} (h:Ok (d::x)):OkR d∧Ok x:=⟨h d (by simp),fun e he=>h e (by simp [he])⟩
theorem Ok.reverse {x:List Rp} (h:Ok x):Ok x.reverse:=fun d hd=>h d (List.mem_reverse.1 hd)
theorem qH:∀{P:List Rp},Ok P→Valids (sO P)∧Valids (rY P)
 | [],_=>⟨Valids.nil,Valids.nil⟩
 | d::P,h=>by
  have ih:=qH h.of_cons.2
  have hd:=h.of_cons.1.2
  unfold sO rY
  refine ⟨Valids.append ?_ ih.1,Valids.append ?_ ih.2⟩ <;> split <;> first | exact hd | exact Valids.nil
theorem Ok.pushE {u:List Int} (hu:Valids u):∀{A:List Rp},Ok A→Ok (pushE u A)
 | [],_=>Ok.cons' ⟨.inr (.inl rfl),hu⟩ Ok.nil
 | (k,s)::A,h=>by
  rw [Go.Proofs.YtoafkjeamgelgaaDoorHF.pushE]
  split
  ·exact Ok.cons' ⟨.inr (.inl rfl),h.of_cons.1.2.append hu⟩ h.of_cons.2
  ·exact Ok.cons' ⟨.inr (.inl rfl),hu⟩ h
theorem Ok.stepE {A P:List Rp} {t:List Int} (hA:Ok A) (hP:Ok P) (ht:Valids t):Ok (stepE A P t):=by
 have hd:=qH hP
 unfold Go.Proofs.YtoafkjeamgelgaaDoorHF.stepE
 split
 ·split
  ·exact Ok.cons' ⟨.inr (.inl rfl),ht⟩ (Ok.cons' ⟨.inr (.inr rfl),hd.2⟩ hA)
  ·split
   ·exact Ok.cons' ⟨.inr (.inl rfl),ht⟩ (Ok.cons' ⟨.inl rfl,hd.1⟩ hA)
   ·simp only
    have h1:Ok (fac A (sO P) (rY P) t).A:=by
     unfold fac;simp only;split
     ·exact hA
     ·exact Ok.pushE (hd.2.take _) hA
    refine Ok.cons' ⟨.inr (.inl rfl),?_⟩ (Ok.cons' ⟨.inr (.inr rfl),?_⟩ (Ok.cons' ⟨.inl rfl,?_⟩ h1)) <;> unfold fac <;> simp only
    ·exact ((hd.2.drop _).drop _).append ht
    ·exact (hd.2.drop _).take _
    ·exact (hd.1.drop _).take _
 ·split
  ·exact Ok.pushE ht hA
  ·exact Ok.cons' ⟨.inr (.inl rfl),ht⟩ (hP.reverse.append hA)
theorem Ok.run1:∀{R A P:List Rp},Ok A→Ok P→Ok R→Ok (run1 A P R).1∧Ok (run1 A P R).2
 | [],A,P,hA,hP,_=>⟨hA,hP⟩
 | d::R,A,P,hA,hP,hR=>by
  rw [Go.Proofs.YtoafkjeamgelgaaDoorHF.run1]
  split
  ·exact Ok.run1 (hA.stepE hP hR.of_cons.1.2) Ok.nil hR.of_cons.2
  ·exact Ok.run1 hA (hP.append (Ok.cons' hR.of_cons.1 Ok.nil)) hR.of_cons.2
theorem Ok.chop:∀{A:List Rp},Ok A→Ok (chop A)
 | [],_=>Ok.nil
 | (k,s)::A,h=>by
  rw [Go.Proofs.YtoafkjeamgelgaaDoorHF.chop];split
  ·exact h.of_cons.2
  ·exact h
theorem Ok.join1 {x:List Rp} (h:Ok x):Ok (join1 x):=by
 have:=Ok.run1 Ok.nil Ok.nil h
 exact (Ok.chop (this.1.stepE this.2 Valids.nil)).reverse
theorem Ok.slide:∀(k:Nat) {A R:List Rp} {ch:Bool},R.length=k→Ok A→Ok R→Ok (slide A R ch).1:=by
 intro k
 induction k using Nat.strongRecOn with
 | _ k ih=>
  intro A R ch hk hA hR
  match R,hk,hR with
  | [],hk,hR=>unfold Go.Proofs.YtoafkjeamgelgaaDoorHF.slide;exact hA.reverse.append hR
  | [p],hk,hR=>unfold Go.Proofs.YtoafkjeamgelgaaDoorHF.slide;exact hA.reverse.append hR
  | [p,c],hk,hR=>unfold Go.Proofs.YtoafkjeamgelgaaDoorHF.slide;exact hA.reverse.append hR
  | p::c::q::R,hk,hR=>
   rw [Go.Proofs.YtoafkjeamgelgaaDoorHF.slide]
   have hp:=hR.of_cons.1
   have hc:=hR.of_cons.2.of_cons.1
   have hq:=hR.of_cons.2.of_cons.2.of_cons.1
   have hR':=hR.of_cons.2.of_cons.2.of_cons.2
   have skip:=ih (c::q::R).length (by rw [←hk];simp) (A:=p::A) (R:=c::q::R) (ch:=ch) rfl (Ok.cons' hp hA) hR.of_cons.2
   split
   ·split
    ·exact ih (((q.1,p.2++q.2)::R):List Rp).length (by rw [←hk];simp) rfl (Ok.cons' ⟨hc.1,hp.2.append (hc.2.take _)⟩ hA) (Ok.cons' ⟨hq.1,hp.2.append hq.2⟩ hR')
    ·split
     ·exact ih (((c.1,c.2.drop q.2.length++q.2)::R):List Rp).length (by rw [←hk];simp) rfl (Ok.cons' ⟨hp.1,hp.2.append hq.2⟩ hA) (Ok.cons' ⟨hc.1,(hc.2.drop _).append hq.2⟩ hR')
     ·exact skip
   ·exact skip
theorem Ok.mergeN:∀(k:Nat) {x:List Rp},Ok x→Ok (mergeN k x)
 | 0,x,h=>h
 | k+1,x,h=>by
  have:=Ok.slide (Go.Proofs.YtoafkjeamgelgaaDoorHF.join1 x).length (A:=[]) (R:=Go.Proofs.YtoafkjeamgelgaaDoorHF.join1 x) (ch:=false) rfl Ok.nil h.join1
  rw [Go.Proofs.YtoafkjeamgelgaaDoorHF.mergeN]
  split
  ·exact Ok.mergeN k this
  ·exact this
theorem Ok.merge {x:List Rp} (h:Ok x):Ok (merge x):=Ok.mergeN _ h
def VO (z:BA):Nat→Nat→Nat
 | 0,i=>i
 | d+1,i=>if byteAt z (i:Int)=10 then i+1 else VO z d (i+1)
def YA (z:BA) (i:Nat):Nat:=VO z (z.size - i) i
def YY (z:BA) (i e:Nat):Prop:=i < e∧e≤z.size∧(∀j:Nat,i≤j→j+1 < e→byteAt z (j:Int)≠10)∧(byteAt z ((e - 1:Nat):Int)=10∨e=z.size)
def rO (z:BA):Nat→Nat→List BA
 | 0,_=>[]
 | f+1,i=>if i < z.size then dY z (i:Int) (YA z i:Int)::rO z f (YA z i) else []
def YM (z:BA) (i:Nat):List BA:=rO z (z.size - i) i
theorem CQ {z:BA} {i:Nat} (h:i < z.size):aE (dY z (i:Int) ((i:Int)+1))=[byteAt z (i:Int)]:=by
 have hl:=aY z
 rw [cN,eH (by omega) (by omega)]
 unfold cut rd
 rw [show (i:Int).toNat=i by omega,show ((i:Int)+1).toNat - i=1 by omega,List.getD_eq_getElem?_getD,List.getElem?_eq_getElem (show i < (aE z).length by omega),List.drop_eq_getElem_cons (show i < (aE z).length by omega)]
 rfl
theorem VJ {z:BA} {i:Nat} (h:i < z.size):fE (dY z (i:Int) ((i:Int)+1)) (⟨#[10]⟩:BA)=decide (byteAt z (i:Int)=10):=by
 rw [pJ]
 have e:aE (⟨#[10]⟩:BA)=[10]:=rfl
 by_cases hb:byteAt z (i:Int)=10
 ·rw [decide_eq_true hb,decide_eq_true]
  refine fT ?_
  rw [CQ h,hb,e]
 ·rw [decide_eq_false hb,decide_eq_false]
  intro h2
  have:=congrArg aE h2
  rw [CQ h,e] at this
  exact hb (List.cons.inj this).1
theorem QY (n:Nat) (hn:Big≤n) (z:BA) (hz:z.size≤1000000000):∃r:Int,g72 n z (⟨#[10]⟩:BA)=some (r,())∧((r= -1∧∀j:Nat,j < z.size→byteAt z (j:Int)≠10)∨(∃k:Nat,r=k∧k < z.size∧byteAt z (k:Int)=10∧∀j:Nat,j < k→byteAt z (j:Int)≠10)):=by
 have hB:(4611686018427387904:Nat)≤n:=hn
 dsimp only [g72,BV,QJ,LA,PL,QB]
 have key:∀(d i m:Nat),z.size - i=d→d < m→i≤z.size→(∀j:Nat,j < i→byteAt z (j:Int)≠10)→∃r:Int,g72_3L n (fun v4=>@some (DenR [.dat (.int .i64)]) (v4,())) (some (-1,())) m z (⟨#[10]⟩:BA) (i:Int)=some (r,())∧((r= -1∧∀j:Nat,j < z.size→byteAt z (j:Int)≠10)∨(∃k:Nat,r=k∧k < z.size∧byteAt z (k:Int)=10∧∀j:Nat,j < k→byteAt z (j:Int)≠10)):=by
  intro d
  have h1:(⟨#[10]⟩:BA).size=1:=rfl
  induction d with
  | zero=>
   intro i m hd hm hi hno
   obtain ⟨m,rfl⟩:∃m',m=m'+1:=⟨m - 1,by omega⟩
   rw [g72_3L.eq_2,CI,h1,bW (by omega) (by omega),bdF (by omega)]
   exact ⟨-1,rfl,.inl ⟨rfl,fun j hj=>hno j (by omega)⟩⟩
  | succ d ih=>
   intro i m hd hm hi hno
   obtain ⟨m,rfl⟩:∃m',m=m'+1:=⟨m - 1,by omega⟩
   rw [g72_3L.eq_2,CI,h1,bW (by omega) (by omega),bdT (by omega),tJ (by omega) (by omega) (by omega)]
   simp only [show ((1:Nat):Int)=1 from rfl]
   rw [VJ (by omega)]
   by_cases hb:byteAt z (i:Int)=10
   ·rw [bdT hb]
    exact ⟨i,rfl,.inr ⟨i,rfl,by omega,hb,hno⟩⟩
   ·rw [bdF hb,bW (n:=(i:Int)+1) (by omega) (by omega),show (i:Int)+1=((i+1:Nat):Int) by omega]
    exact ih (i+1) m (by omega) (by omega) (by omega) (fun j hj=>by
     by_cases hji:j=i
     ·subst hji;exact hb
     ·exact hno j (by omega))
 exact key z.size 0 n (by omega) (by omega) (by omega) (fun j hj=>by omega)
theorem cJ (n:Nat) (z s:BA) (h:z.size+s.size≤140737488355328):g52 n (aE z,(0,0)) s=some ((((s.size:Int),(false,())),((aE (z++s),(0,0)),()))):=by
 show fM (aE z,(0,0)) s=_
 unfold fM
 rw [if_pos ⟨rfl,by show (aE z).length+s.size≤_;rw [aY];exact h⟩,bF]
theorem GM (n:Nat) (z:BA):g53 n (aE z,(0,0))=some ((z,()),((aE z,(0,0)),())):=by
 show eJ (aE z,(0,0))=_
 unfold eJ
 rw [if_pos ⟨rfl,rE⟩,fR]
def ZE (z:BA):Prop:=∀j:Nat,j < z.size→byteAt z (j:Int)≠10
abbrev eU:BA:=⟨#[27,91,51,50,109]⟩
abbrev eV:BA:=⟨#[27,91,51,49,109]⟩
abbrev nU:BA:=⟨#[27,91,48,109]⟩
def col (d:Rp):BA:=if d.1=1 then eU++enc d.2++nU else if d.1= -1 then eV++enc d.2++nU else enc d.2
theorem dJ (x y z:BA):x++y++z=x++(y++z):=gY (by rw [bU,bU,bU,bU,List.append_assoc])
def YQ:List Rp→BA
 | []=>⟨#[]⟩
 | d::x=>col d++YQ x
theorem BJ (n:Nat) (hn:Big≤n) (xs:List Prt) (hl:xs.length≤2147483647) (hs:∀y∈xs,y.2.size≤2147483647):∃l:List Rp,g22 n xs=some (l.map emb,())∧l.length≤40∧∀y∈l,OkR y∧y.2.length≤30:=by
 have hB:(4611686018427387904:Nat)≤n:=hn
 dsimp only [g22,DS,KG,KY,OO,NB]
 rw [show (40:Int)=((40:Nat):Int) from rfl,GP n hn xs hl hs 40 (by omega),Option.bind_some]
 have h0:=yR 40 xs
 have h00:=iK 40 xs
 generalize cW 40 xs=ps at h0 h00 ⊢
 have hlm:(ps.map emb).length=ps.length:=List.length_map _
 have key:∀(d i m:Nat) (s:List Rp),ps.length - i=d→i≤ps.length→d < m→s.length≤i→(∀y∈s,OkR y∧y.2.length≤30)→
   ∃l:List Rp,g22_3L n (fun x3=>some (x3,())) m (s.map emb) (ps.map emb) ((ps.map emb).length:Int) (i:Int)=some (l.map emb,())∧l.length≤40∧∀y∈l,OkR y∧y.2.length≤30:=by
  intro d
  induction d with
  | zero=>
   intro i m s hd hi hm hsl hso
   obtain ⟨m,rfl⟩:∃m',m=m'+1:=⟨m - 1,by omega⟩
   rw [g22_3L.eq_2,CF,bdF (by omega)]
   exact ⟨s,rfl,by omega,hso⟩
  | succ d ih=>
   intro i m s hd hi hm hsl hso
   obtain ⟨m,rfl⟩:∃m',m=m'+1:=⟨m - 1,by omega⟩
   have hi':i < ps.length:=by omega
   have hI:i < (ps.map emb).length:=by omega
   have hg:(ps.map emb)[i]=emb ps[i]:=List.getElem_map _
   rw [g22_3L.eq_2,CF,bdT (by omega),cB (by omega) (by omega)]
   simp only [iS,gE hI,hg]
   have hw:w64 ((i:Int)+1)=((i+1:Nat):Int):=by rw [bW (by omega) (by omega)];omega
   rw [hw]
   cases hc:(!fE (emb ps[i]).2 (⟨#[]⟩:BA)) with
   | true=>
    rw [cond_true,fK (by simp only [List.length_cons,List.length_nil,List.length_map];omega)]
    have:=ih (i+1) m (s++[ps[i]]) (by omega) (by omega) (by omega) (by simp;omega) (fun y hy=>by
     rcases List.mem_append.1 hy with hy | hy
     ·exact hso y hy
     ·simp at hy;subst hy;exact h0 _ (by simp))
    rw [List.map_append] at this
    exact this
   | false=>
    rw [cond_false]
    exact ih (i+1) m s (by omega) (by omega) (by omega) (by omega) hso
 exact key ps.length 0 n [] (by omega) (by omega) (by omega) (by simp) (fun y hy=>by cases hy)
theorem KQ {β:Type} (n:Nat) (kx2:Bool→Bool→List Prt→Int→Int→Option β) (x7:List Prt) (v8 v9:Int) (p5:Prt) (hz:p5.2.size≤1000000000):∀(d j m:Nat) (v2 v3:Bool),p5.2.size - j=d→j≤p5.2.size→d < m→∃a b:Bool,g26_7L n kx2 m v2 v3 p5 x7 v8 v9 (p5.2.size:Int) (j:Int)=kx2 a b x7 v8 v9∧(a=false→v2=false∧∀k:Nat,j≤k→k < p5.2.size→byteAt p5.2 (k:Int)≠10)∧(b=false→v3=false∧∀k:Nat,j≤k→k < p5.2.size→byteAt p5.2 (k:Int)≠27):=by
 intro d
 induction d with
 | zero=>
  intro j m v2 v3 hd hj hm
  obtain ⟨m,rfl⟩:∃m',m=m'+1:=⟨m - 1,by omega⟩
  rw [g26_7L.eq_2,wX,DM,bdF (by omega)]
  exact ⟨v2,v3,rfl,fun h=>⟨h,fun k h1 h2=>by omega⟩,fun h=>⟨h,fun k h1 h2=>by omega⟩⟩
 | succ d ih=>
  intro j m v2 v3 hd hj hm
  obtain ⟨m,rfl⟩:∃m',m=m'+1:=⟨m - 1,by omega⟩
  have hw:w64 ((j:Int)+1)=((j+1:Nat):Int):=by rw [bW (by omega) (by omega)];omega
  have st:∃v2' v3':Bool,g26_7L n kx2 (m+1) v2 v3 p5 x7 v8 v9 (p5.2.size:Int) (j:Int)=g26_7L n kx2 m v2' v3' p5 x7 v8 v9 (p5.2.size:Int) ((j+1:Nat):Int)∧(v2'=false→v2=false∧byteAt p5.2 (j:Int)≠10)∧(v3'=false→v3=false∧byteAt p5.2 (j:Int)≠27):=by
   rw [g26_7L.eq_2,wX,DM,bdT (by omega)]
   dsimp only [PY]
   rw [hw]
   have hx:∀{β:Type} (κ:Option β),idx (j:Int) (p5.2.size:Int) κ=κ:=fun κ=>cB (by omega) (by omega)
   have h10:(byteAt p5.2 (j:Int)==10)=false→byteAt p5.2 (j:Int)≠10:=fun h e=>by rw [e] at h;exact absurd h (by decide)
   have h27:(byteAt p5.2 (j:Int)==27)=false→byteAt p5.2 (j:Int)≠27:=fun h e=>by rw [e] at h;exact absurd h (by decide)
   cases v2 <;> cases v3 <;> simp only [cond_true,cond_false]
   ·rw [hx,hx];exact ⟨_,_,rfl,fun h=>⟨by simp,h10 h⟩,fun h=>⟨by simp,h27 h⟩⟩
   ·rw [hx];exact ⟨_,_,rfl,fun h=>⟨by simp,h10 h⟩,fun h=>absurd h (by decide)⟩
   ·rw [hx];exact ⟨_,_,rfl,fun h=>absurd h (by decide),fun h=>⟨by simp,h27 h⟩⟩
   ·exact ⟨_,_,rfl,fun h=>absurd h (by decide),fun h=>absurd h (by decide)⟩
  obtain ⟨a',b',e',ha',hb'⟩:=st
  obtain ⟨a,b,e,ha,hb⟩:=ih (j+1) m a' b' (by omega) (by omega) (by omega)
  refine ⟨a,b,e'.trans e,fun h=>?_,fun h=>?_⟩
  ·obtain ⟨h1,h2⟩:=ha h
   obtain ⟨h3,h4⟩:=ha' h1
   refine ⟨h3,fun k hk hk2=>?_⟩
   rcases Nat.lt_or_ge j k with h5 | h5
   ·exact h2 k h5 hk2
   ·obtain rfl:k=j:=by omega
    exact h4
  ·obtain ⟨h1,h2⟩:=hb h
   obtain ⟨h3,h4⟩:=hb' h1
   refine ⟨h3,fun k hk hk2=>?_⟩
   rcases Nat.lt_or_ge j k with h5 | h5
   ·exact h2 k h5 hk2
   ·obtain rfl:k=j:=by omega
    exact h4
def NoB (c:Int) (z:BA):Prop:=∀j:Nat,j < z.size→byteAt z (j:Int)≠c
theorem IY (n:Nat) (hn:Big≤n) (xs:List Prt) (hl:xs.length≤1000000000) (hs:∀y∈xs,y.2.size≤1000000000):∃a b:Bool,g26 n xs=some (a,(b,()))∧(a=false→∀y∈xs,NoB 10 y.2)∧(b=false→∀y∈xs,NoB 27 y.2):=by
 have hB:(4611686018427387904:Nat)≤n:=hn
 dsimp only [g26,vT,ML,zS,yP,AO]
 have key:∀(d i m:Nat) (v2 v3:Bool),xs.length - i=d→i≤xs.length→d < m→∃a b:Bool,g26_13L n (fun v2 v3=>some (v2,(v3,()))) m v2 v3 xs (xs.length:Int) (i:Int)=some (a,(b,()))∧(a=false→v2=false∧∀(k:Nat) (hk:k < xs.length),i≤k→NoB 10 xs[k].2)∧(b=false→v3=false∧∀(k:Nat) (hk:k < xs.length),i≤k→NoB 27 xs[k].2):=by
  intro d
  induction d with
  | zero=>
   intro i m v2 v3 hd hi hm
   obtain ⟨m,rfl⟩:∃m',m=m'+1:=⟨m - 1,by omega⟩
   rw [g26_13L.eq_2,qI,ED,bdF (by omega)]
   exact ⟨v2,v3,rfl,fun h=>⟨h,fun k h1 h2=>by omega⟩,fun h=>⟨h,fun k h1 h2=>by omega⟩⟩
  | succ d ih=>
   intro i m v2 v3 hd hi hm
   obtain ⟨m,rfl⟩:∃m',m=m'+1:=⟨m - 1,by omega⟩
   have hi':i < xs.length:=by omega
   have hw:w64 ((i:Int)+1)=((i+1:Nat):Int):=by rw [bW (by omega) (by omega)];omega
   rw [g26_13L.eq_2,qI,ED,bdT (by omega)]
   dsimp only [AG,DO,HP,LW,PE,zU]
   rw [cB (by omega) (by omega)]
   simp only [iS,gE hi']
   have hz:=hs xs[i] (List.getElem_mem hi')
   obtain ⟨a',b',e',ha',hb'⟩:=KQ n (fun v2 v3 x7 v8 v9=>g26_13L n (fun v2 v3=>some (v2,(v3,()))) m v2 v3 x7 v8 (w64 (v9+(1:Int)))) xs (xs.length:Int) (i:Int) xs[i] hz xs[i].2.size 0 n v2 v3 (by omega) (by omega) (by omega)
   obtain ⟨a,b,e,ha,hb⟩:=ih (i+1) m a' b' (by omega) (by omega) (by omega)
   simp only [hw] at e'
   refine ⟨a,b,e'.trans e,fun h=>?_,fun h=>?_⟩
   ·obtain ⟨h1,h2⟩:=ha h
    obtain ⟨h3,h4⟩:=ha' h1
    refine ⟨h3,fun k hk hk2=>?_⟩
    rcases Nat.lt_or_ge i k with h5 | h5
    ·exact h2 k hk h5
    ·obtain rfl:k=i:=by omega
     exact fun j hj=>h4 j (Nat.zero_le _) hj
   ·obtain ⟨h1,h2⟩:=hb h
    obtain ⟨h3,h4⟩:=hb' h1
    refine ⟨h3,fun k hk hk2=>?_⟩
    rcases Nat.lt_or_ge i k with h5 | h5
    ·exact h2 k hk h5
    ·obtain rfl:k=i:=by omega
     exact fun j hj=>h4 j (Nat.zero_le _) hj
 obtain ⟨a,b,e,ha,hb⟩:=key xs.length 0 n false false (by omega) (by omega) (by omega)
 refine ⟨a,b,e,fun h y hy=>?_,fun h y hy=>?_⟩
 ·obtain ⟨k,hk,rfl⟩:=List.getElem_of_mem hy
  exact (ha h).2 k hk (Nat.zero_le _)
 ·obtain ⟨k,hk,rfl⟩:=List.getElem_of_mem hy
  exact (hb h).2 k hk (Nat.zero_le _)
theorem fC (P Q R:BA) (j:Nat) (h:j < Q.size):byteAt (P++Q++R) ((P.size+j:Nat):Int)=byteAt Q (j:Int):=by
 have h1:(aE P).length=P.size:=aY ..
 have h2:(aE Q).length=Q.size:=aY ..
 rw [eH (by omega) (by rw [size_append,size_append];omega),eH (by omega) (by omega),bF,bF]
 rw [gE (by simp only [List.length_append];omega),gE (by omega),List.getElem_append_left (by simp only [List.length_append];omega),List.getElem_append_right (by omega)]
 simp only [h1,Nat.add_sub_cancel_left]
theorem QR {β:Type} (n:Nat) (kx2:BA→List Int→Int→Int→Option β) (r:Option β) (z:BA) (hz:z.size≤1000000000) (x:List Int) (v4:Int) (h:∀v:Nat,kx2 z x v4 (v:Int)=r):∀(d k m:Nat),z.size - k=d→d < m→k≤1000000002→g27_5L n kx2 m z x v4 (k:Int)=r:=by
 intro d
 induction d with
 | zero=>
  intro k m hd hm hk
  obtain ⟨m,rfl⟩:∃m',m=m'+1:=⟨m - 1,by omega⟩
  rw [g27_5L.eq_2,sM,bdF (by omega)]
  exact h k
 | succ d ih=>
  intro k m hd hm hk
  obtain ⟨m,rfl⟩:∃m',m=m'+1:=⟨m - 1,by omega⟩
  have hw:w64 ((k:Int)+1)=((k+1:Nat):Int):=by rw [bW (by omega) (by omega)];omega
  rw [g27_5L.eq_2,sM,bdT (by omega),cB (by omega) (by omega)]
  by_cases h1:byteAt z (k:Int)≥48
  ·rw [bdT h1,cB (by omega) (by omega)]
   by_cases h2:byteAt z (k:Int)≤57
   ·rw [bdT h2,hw]
    exact ih (k+1) m (by omega) (by omega) (by omega)
   ·rw [bdF h2];exact h k
  ·rw [bdF h1];exact h k
theorem WO {β:Type} (n:Nat) (kx2:BA→List Int→Int→Int→Option β) (r:Option β) (z:BA) (hz:z.size≤1000000000) (x:List Int) (v4:Int) (k:Nat) (hk:k < z.size) (h9:byteAt z (k:Int)=109) (h:kx2 z x v4 (k:Int)=r):∀(d j m:Nat),k - j=d→j≤k→d < m→(∀i:Nat,j≤i→i < k→byteAt z (i:Int)≥48∧byteAt z (i:Int)≤57)→g27_5L n kx2 m z x v4 (j:Int)=r:=by
 intro d
 induction d with
 | zero=>
  intro j m hd hj hm _
  obtain rfl:j=k:=by omega
  obtain ⟨m,rfl⟩:∃m',m=m'+1:=⟨m - 1,by omega⟩
  rw [g27_5L.eq_2,sM,bdT (by omega),cB (by omega) (by omega),bdT (by rw [h9];decide),cB (by omega) (by omega),bdF (by rw [h9];decide)]
  exact h
 | succ d ih=>
  intro j m hd hj hm hall
  obtain ⟨m,rfl⟩:∃m',m=m'+1:=⟨m - 1,by omega⟩
  have hw:w64 ((j:Int)+1)=((j+1:Nat):Int):=by rw [bW (by omega) (by omega)];omega
  obtain ⟨h1,h2⟩:=hall j (Nat.le_refl _) (by omega)
  rw [g27_5L.eq_2,sM,bdT (by omega),cB (by omega) (by omega),bdT h1,cB (by omega) (by omega),bdT h2,hw]
  exact ih (j+1) m (by omega) (by omega) (by omega) fun i hi=>hall i (by omega)
theorem RE {β:Type} (n:Nat) (hn:Big≤n) (k0:List Int→Option β) (m:Nat) (z:BA) (hz:z.size≤1000000000) (x:List Int) (i:Nat) (hi:i < z.size) (hx:x.length≤1000000000) (h:byteAt z (i:Int)≠27):g27_13L n k0 (m+1) z x (i:Int)=g27_13L n k0 m z (x++[byteAt z (i:Int)]) ((i+1:Nat):Int):=by
 have hB:(4611686018427387904:Nat)≤n:=hn
 have hw:w64 ((i:Int)+1)=((i+1:Nat):Int):=by rw [bW (by omega) (by omega)];omega
 have hw2:w64 ((i:Int)+2)=((i+2:Nat):Int):=by rw [bW (by omega) (by omega)];omega
 rw [g27_13L.eq_2,mF,xN,bdT (by omega)]
 dsimp only [tL,yA,DK,CA,DY]
 rw [hw2]
 refine QR n _ _ z hz x _ (fun v=>?_) (z.size - (i+2)) (i+2) n rfl (by omega) (by omega)
 dsimp only [CW]
 rw [cB (by omega) (by omega)]
 refine (biF (by exact beq_eq_false_iff_ne.2 h)).trans ?_
 dsimp only [LD]
 rw [cB (by omega) (by omega),fK (by simp only [List.length_cons,List.length_nil];omega)]
 dsimp only [vO]
 rw [hw]
theorem RP {β:Type} (n:Nat) (hn:Big≤n) (k0:List Int→Option β) (m:Nat) (z:BA) (hz:z.size≤1000000000) (x:List Int) (i k:Nat) (hk:k < z.size) (hi:i+2≤k) (h27:byteAt z (i:Int)=27) (h91:byteAt z ((i+1:Nat):Int)=91) (h9:byteAt z (k:Int)=109) (hall:∀j:Nat,i+2≤j→j < k→byteAt z (j:Int)≥48∧byteAt z (j:Int)≤57):g27_13L n k0 (m+1) z x (i:Int)=g27_13L n k0 m z x ((k+1:Nat):Int):=by
 have hB:(4611686018427387904:Nat)≤n:=hn
 have hw:w64 ((i:Int)+1)=((i+1:Nat):Int):=by rw [bW (by omega) (by omega)];omega
 have hwk:w64 ((k:Int)+1)=((k+1:Nat):Int):=by rw [bW (by omega) (by omega)];omega
 have hw2:w64 ((i:Int)+2)=((i+2:Nat):Int):=by rw [bW (by omega) (by omega)];omega
 rw [g27_13L.eq_2,mF,xN,bdT (by omega)]
 dsimp only [tL,yA,DK,CA,DY]
 rw [hw2]
 refine WO n _ _ z hz x _ k hk h9 ?_ (k - (i+2)) (i+2) n rfl hi (by omega) hall
 dsimp only [CW]
 rw [hw,cB (by omega) (by omega)]
 refine (biT (by rw [h27];rfl)).trans ?_
 rw [bdT (by omega),cB (by omega) (by omega)]
 refine (biT (by rw [h91];rfl)).trans ?_
 rw [bdT (by omega),cB (by omega) (by omega)]
 refine (biT (by rw [h9];rfl)).trans ?_
 dsimp only [vO]
 rw [hwk]
def Seg (Q:BA) (q:List Int):Prop:=q.length≤Q.size∧∃k,k≤Q.size∧∀(β:Type) (n:Nat) (hn:Big≤n) (k0:List Int→Option β) (P R:BA) (x:List Int) (m:Nat),(P++Q++R).size≤1000000000→x.length≤P.size→g27_13L n k0 (m+k) (P++Q++R) x (P.size:Int)=g27_13L n k0 m (P++Q++R) (x++q) ((P.size+Q.size:Nat):Int)
theorem Seg.nil:Seg ⟨#[]⟩ []:=⟨Nat.zero_le _,0,Nat.zero_le _,fun β n hn k0 P R x m _ _=>by rw [List.append_nil];rfl⟩
theorem Seg.append {A B:BA} {a b:List Int} (hA:Seg A a) (hB:Seg B b):Seg (A++B) (a++b):=by
 obtain ⟨la,k,hk,ha⟩:=hA
 obtain ⟨lb,l,hl,hb⟩:=hB
 refine ⟨by rw [size_append,List.length_append];omega,l+k,by rw [size_append];omega,fun β n hn k0 P R x m hs hx=>?_⟩
 have e1:P++(A++B)++R=P++A++(B++R):=by simp only [dJ]
 have e2:P++A++(B++R)=P++A++B++R:=by simp only [dJ]
 have e3:(P++A).size=P.size+A.size:=size_append ..
 rw [e1] at hs ⊢
 rw [←Nat.add_assoc,ha β n hn k0 P (B++R) x (m+l) hs hx,←e3,e2]
 rw [e2] at hs
 rw [hb β n hn k0 (P++A) R (x++a) m hs (by rw [List.length_append];omega),size_append,size_append,List.append_assoc,Nat.add_assoc]
theorem Seg.plain {Q:BA} (h:NoB 27 Q):Seg Q (aE Q):=by
 have hl:(aE Q).length=Q.size:=aY ..
 refine ⟨by omega,Q.size,Nat.le_refl _,fun β n hn k0 P R x m hs hx=>?_⟩
 have key:∀(d j:Nat),Q.size - j=d→j≤Q.size→g27_13L n k0 (m+d) (P++Q++R) (x++(aE Q).take j) ((P.size+j:Nat):Int)=g27_13L n k0 m (P++Q++R) (x++aE Q) ((P.size+Q.size:Nat):Int):=by
  intro d
  induction d with
  | zero=>
   intro j hd hj
   obtain rfl:j=Q.size:=by omega
   rw [List.take_of_length_le (by omega)];rfl
  | succ d ih=>
   intro j hd hj
   have hj':j < Q.size:=by omega
   have hsz:(P++Q++R).size=P.size+Q.size+R.size:=by rw [size_append,size_append]
   have hb:=fC P Q R j hj'
   have e:=RE n hn k0 (m+d) (P++Q++R) hs (x++(aE Q).take j) (P.size+j) (by omega) (by rw [List.length_append,List.length_take];omega) (by rw [hb];exact h j hj')
   rw [←Nat.add_assoc,e,hb,List.append_assoc]
   have:(aE Q).take j++[byteAt Q (j:Int)]=(aE Q).take (j+1):=by
    rw [eH (by omega) (by omega),gE (by omega),List.take_succ_eq_append_getElem (by omega)]
   rw [this]
   exact ih (j+1) (by omega) (by omega)
 have:=key Q.size 0 (by omega) (Nat.zero_le _)
 rw [List.take_zero,List.append_nil] at this
 exact this
theorem Seg.esc {Q:BA} (k:Nat) (hk:Q.size=k+1) (h2:2≤k) (h27:byteAt Q ((0:Nat):Int)=27) (h91:byteAt Q ((1:Nat):Int)=91) (h9:byteAt Q (k:Int)=109) (hall:∀j:Nat,2≤j→j < k→byteAt Q (j:Int)≥48∧byteAt Q (j:Int)≤57):Seg Q []:=by
 refine ⟨Nat.zero_le _,1,by omega,fun β n hn k0 P R x m hs hx=>?_⟩
 have hsz:(P++Q++R).size=P.size+Q.size+R.size:=by rw [size_append,size_append]
 rw [List.append_nil,hk]
 refine RP n hn k0 m (P++Q++R) hs x P.size (P.size+k) (by omega) (by omega) ?_ ?_ ?_ ?_
 ·exact (fC P Q R 0 (by omega)).trans h27
 ·exact (fC P Q R 1 (by omega)).trans h91
 ·exact (fC P Q R k (by omega)).trans h9
 ·intro j hj1 hj2
  obtain ⟨i,rfl⟩:∃i,j=P.size+i:=⟨j - P.size,by omega⟩
  rw [fC P Q R i (by omega)]
  exact hall i (by omega) (by omega)
theorem Seg.e31:Seg eV []:=Seg.esc 4 rfl (by omega) (by decide) (by decide) (by decide) fun j h1 h2=>by
 have:j=2∨j=3:=by omega
 rcases this with rfl | rfl <;> decide
theorem Seg.e32:Seg eU []:=Seg.esc 4 rfl (by omega) (by decide) (by decide) (by decide) fun j h1 h2=>by
 have:j=2∨j=3:=by omega
 rcases this with rfl | rfl <;> decide
theorem Seg.e0:Seg nU []:=Seg.esc 3 rfl (by omega) (by decide) (by decide) (by decide) fun j h1 h2=>by
 obtain rfl:j=2:=by omega
 decide
theorem Seg.nl:Seg ⟨#[10]⟩ [10]:=Seg.plain (Q:=⟨#[10]⟩) fun j hj=>by
 obtain rfl:j=0:=by have:(⟨#[10]⟩:BA).size=1:=rfl;omega
 decide
theorem HN (n:Nat) (hn:Big≤n) (Q:BA) (q:List Int) (h:Seg Q q) (hq:Q.size≤1000000000):g27 n Q=some (strOfNums q,()):=by
 have hB:(4611686018427387904:Nat)≤n:=hn
 dsimp only [g27,vW,KW,BR,BI,AL]
 obtain ⟨_,k,hk,h⟩:=h
 have e1:(⟨#[]⟩:BA)++Q++⟨#[]⟩=Q:=gY (by rw [bU,bU];simp [bl])
 have:=h _ n hn (fun x3=>some (strOfNums x3,())) ⟨#[]⟩ ⟨#[]⟩ [] (n - k) (by rw [e1];exact hq) (Nat.zero_le _)
 rw [e1,List.nil_append,show n - k+k=n by omega] at this
 refine this.trans ?_
 obtain ⟨m,hm⟩:∃m,n - k=m+1:=⟨n - k - 1,by omega⟩
 rw [hm,g27_13L.eq_2,mF,xN,bdF (by show ¬(((0+Q.size:Nat):Int) < _);omega)]
abbrev nl1:BA:=⟨#[10]⟩
abbrev jO:BA:=⟨#[27,91,48,109,10]⟩
def gV:List BA→BA
 | []=>⟨#[]⟩
 | [x]=>x
 | x::y::l=>x++nl1++gV (y::l)
theorem iF {x:BA}:∀{l:List BA},l≠[]→gV (x::l)=x++nl1++gV l
 | [],h=>absurd rfl h
 | _::_,_=>rfl
def tot:List BA→Nat
 | []=>0
 | x::l=>x.size+10+tot l
theorem rS (z:BA) {a b c:Nat} (h1:a≤b) (h2:b≤c):dY z (a:Int) (b:Int)++dY z (b:Int) (c:Int)=dY z (a:Int) (c:Int):=by
 apply fT
 rw [bF,cN,cN,cN,tC,tC,tC,show c - a=(b - a)+(c - b) by omega,List.take_add,List.drop_drop,show a+(b - a)=b by omega]
theorem KV (n:Nat) (hn:Big≤n):∀(d:Nat) (z:BA),z.size=d→z.size≤1000000→NoB 27 z→∃ls:List BA,ls≠[]∧gV ls=z∧tot ls≤10+11 * z.size∧ls.length≤z.size+1∧(∀y∈ls,NoB 27 y)∧
  ∀{β:Type} (kr:List BA→Option β) (acc:List BA) (m:Nat),z.size < m→acc.length+z.size≤1000000→g59_11L n kr m z nl1 acc=kr (acc++ls):=by
 have hB:(4611686018427387904:Nat)≤n:=hn
 intro d
 induction d using Nat.strongRecOn with
 | _ d ih=>
  intro z hd hz hno
  obtain ⟨r,e,h1⟩:=QY n hn z (by omega)
  rcases h1 with ⟨rfl,h1⟩ | ⟨k,rfl,h2,h3,h4⟩
  ·refine ⟨[z],by simp,rfl,by simp only [tot];omega,by simp,fun y hy=>by rw [List.mem_singleton.1 hy];exact hno,fun kr acc m hm ha=>?_⟩
   obtain ⟨m,rfl⟩:∃m',m=m'+1:=⟨m - 1,by omega⟩
   rw [g59_11L.eq_2,vA,bA e]
   simp only
   rw [bdT (show (-1:Int) < 0 by decide),fK (by simp only [List.length_cons,List.length_nil];omega)]
  ·have hw:w64 ((k:Int)+((nl1.size:Nat):Int))=((k+1:Nat):Int):=by
    show w64 ((k:Int)+1)=_
    rw [bW (by omega) (by omega)];omega
   have c1:(dY z (((k+1:Nat):Int)) (z.size:Int)).size=z.size - (k+1):=by rw [mM (by omega) (by omega) (by omega)];omega
   have c0:(dY z 0 (k:Int)).size=k:=by rw [mM (by omega) (by omega) (by omega)];omega
   have hc1:NoB 27 (dY z (((k+1:Nat):Int)) (z.size:Int)):=fun j hj=>by
    rw [nJ (by omega) (by omega) (by omega) (by omega),show ((k+1:Nat):Int)+(j:Int)=((k+1+j:Nat):Int) by omega]
    exact hno _ (by omega)
   have hc0:NoB 27 (dY z 0 (k:Int)):=fun j hj=>by
    rw [nJ (by omega) (by omega) (by omega) (by omega),show (0:Int)+(j:Int)=(j:Int) by omega]
    exact hno _ (by omega)
   obtain ⟨ls,g1,g2,g3,g4,g5,g6⟩:=ih (z.size - (k+1)) (by omega) (dY z (((k+1:Nat):Int)) (z.size:Int)) c1 (by omega) hc1
   rw [c1] at g3 g4 g6
   refine ⟨dY z 0 (k:Int)::ls,by simp,?_,by simp only [tot];omega,by rw [List.length_cons];omega,fun y hy=>?_,fun kr acc m hm ha=>?_⟩
   ·rw [iF g1,g2]
    have t1:nl1=dY z (k:Int) ((k:Int)+1):=by
     have:=VJ (z:=z) h2
     rw [decide_eq_true h3,pJ] at this
     exact (of_decide_eq_true this).symm
    have e1:=rS z (Nat.zero_le k) (Nat.le_succ k)
    have e2:=rS z (Nat.zero_le (k+1)) (show k+1≤z.size by omega)
    rw [t1,show (k:Int)+1=((k+1:Nat):Int) by omega]
    refine (congrArg (·++_) e1).trans (e2.trans (MH z))
   ·rcases List.mem_cons.1 hy with rfl | hy
    ·exact hc0
    ·exact g5 y hy
   ·obtain ⟨m,rfl⟩:∃m',m=m'+1:=⟨m - 1,by omega⟩
    rw [g59_11L.eq_2,vA,bA e]
    simp only
    rw [bdF (show ¬(k:Int) < 0 by omega),tJ (by omega) (by omega) (by omega),fK (by simp only [List.length_cons,List.length_nil];omega),hw,tJ (by omega) (by omega) (by omega),g6 kr (acc++[dY z 0 (k:Int)]) m (by omega) (by rw [List.length_append,List.length_singleton];omega),List.append_assoc]
    rfl
theorem zZ (n:Nat) (hn:Big≤n) (z:BA) (hz:z.size≤1000000) (hno:NoB 27 z):∃ls:List BA,g59 n z nl1=some (ls,())∧gV ls=z∧tot ls≤10+11 * z.size∧ls.length≤z.size+1∧(∀y∈ls,NoB 27 y):=by
 have hB:(4611686018427387904:Nat)≤n:=hn
 obtain ⟨ls,g1,g2,g3,g4,g5,g6⟩:=KV n hn z.size z rfl hz hno
 refine ⟨ls,?_,g2,g3,g4,g5⟩
 dsimp only [g59,tE,KP,CB,yZ,yK]
 rw [show ((nl1.size:Int)==0)=false from rfl]
 simp only [cond_false]
 dsimp only [MC]
 exact g6 (fun x4=>some (x4,())) [] n (by omega) (by simp only [List.length_nil];omega)
theorem Seg.e0n:Seg jO [10]:=by
 have:=Seg.e0.append Seg.nl
 rw [show nU++(⟨#[10]⟩:BA)=jO from gY (by rw [bU];rfl)] at this
 exact this
theorem WB {β:Type} (n:Nat) (hn:Big≤n) (kx3:List Int→Int→Int→List Prt→Int→Int→Option β) (x15:List Prt) (v16 v17:Int) (ls:List BA) (hl:ls.length≤1000000000) (hno:∀y∈ls,NoB 27 y):∀(d i m:Nat) (z:BA),ls.length - i=d→i≤ls.length→d < m→z.size+tot (ls.drop i)≤1000000000→∃Q:BA,g48_7L n kx3 m (aE z) 0 0 ls x15 v16 v17 (ls.length:Int) (i:Int)=kx3 (aE (z++Q)) 0 0 x15 v16 v17∧Seg Q (aE (gV (ls.drop i)))∧Q.size≤tot (ls.drop i):=by
 have hB:(4611686018427387904:Nat)≤n:=hn
 intro d
 induction d with
 | zero=>
  intro i m z hd hi hm hz
  obtain ⟨m,rfl⟩:∃m',m=m'+1:=⟨m - 1,by omega⟩
  refine ⟨⟨#[]⟩,?_,?_,Nat.zero_le _⟩
  ·rw [g48_7L.eq_2,DH,bdF (by omega),show z++(⟨#[]⟩:BA)=z from gY (by rw [bU];simp [bl])]
  ·rw [List.drop_of_length_le (by omega)];exact Seg.nil
 | succ d ih=>
  intro i m z hd hi hm hz
  obtain ⟨m,rfl⟩:∃m',m=m'+1:=⟨m - 1,by omega⟩
  have hi':i < ls.length:=by omega
  have hdr:ls.drop i=ls[i]::ls.drop (i+1):=List.drop_eq_getElem_cons hi'
  rw [hdr] at hz ⊢
  have ht:tot (ls[i]::ls.drop (i+1))=ls[i].size+10+tot (ls.drop (i+1)):=rfl
  rw [ht] at hz ⊢
  have hw:w64 ((i:Int)+1)=((i+1:Nat):Int):=by rw [bW (by omega) (by omega)];omega
  have hw2:w64 ((ls.length:Int) - 1)=((ls.length - 1:Nat):Int):=by rw [bW (by omega) (by omega)];omega
  have hp:=Seg.plain (hno ls[i] (List.getElem_mem hi'))
  have s1:(z++eU).size=z.size+5:=by rw [size_append];rfl
  have s2:(z++eU++ls[i]).size=z.size+5+ls[i].size:=by rw [size_append,s1]
  have s3:(z++eU++ls[i]++jO).size=z.size+5+ls[i].size+5:=by rw [size_append,s2];rfl
  have s4:(z++eU++ls[i]++nU).size=z.size+5+ls[i].size+4:=by rw [size_append,s2];rfl
  rw [g48_7L.eq_2,DH,bdT (by omega),cB (by omega) (by omega)]
  simp only [gE hi']
  by_cases hc:i+1 < ls.length
  ·obtain ⟨Q,e,hS,hQ⟩:=ih (i+1) m (z++eU++ls[i]++jO) (by omega) (by omega) (by omega) (by omega)
   refine ⟨eU++ls[i]++jO++Q,?_,?_,?_⟩
   ·refine (bA (cJ n z eU (by show _+5≤_;omega))).trans ?_
    refine (bA (cJ n (z++eU) ls[i] (by omega))).trans ?_
    refine (bdT (by rw [hw2];omega)).trans ?_
    refine (bA (cJ n (z++eU++ls[i]) jO (by show _+5≤_;omega))).trans ?_
    rw [hw]
    refine e.trans ?_
    simp only [dJ]
   ·have:=((Seg.e32.append hp).append Seg.e0n).append hS
    rw [iF (by intro h0;have:=congrArg List.length h0;rw [List.length_drop,List.length_nil] at this;omega),bF,bF]
    exact this
   ·rw [size_append,size_append,size_append];show 5+_+5+_≤_;omega
  ·obtain ⟨Q,e,hS,hQ⟩:=ih (i+1) m (z++eU++ls[i]++nU) (by omega) (by omega) (by omega) (by omega)
   refine ⟨eU++ls[i]++nU++Q,?_,?_,?_⟩
   ·refine (bA (cJ n z eU (by show _+5≤_;omega))).trans ?_
    refine (bA (cJ n (z++eU) ls[i] (by omega))).trans ?_
    refine (bdF (by rw [hw2];omega)).trans ?_
    refine (bA (cJ n (z++eU++ls[i]) nU (by show _+4≤_;omega))).trans ?_
    rw [hw]
    refine e.trans ?_
    simp only [dJ]
   ·have:=((Seg.e32.append hp).append Seg.e0).append hS
    rw [List.drop_of_length_le (by omega)] at this ⊢
    have e0:aE (gV ([]:List BA))=[]:=rfl
    rw [e0,List.append_nil,List.append_nil] at this
    exact this
   ·rw [size_append,size_append,size_append];show 5+_+4+_≤_;omega
theorem WS {β:Type} (n:Nat) (hn:Big≤n) (kx3:List Int→Int→Int→List Prt→Int→Int→Option β) (x15:List Prt) (v16 v17:Int) (ls:List BA) (hl:ls.length≤1000000000) (hno:∀y∈ls,NoB 27 y):∀(d i m:Nat) (z:BA),ls.length - i=d→i≤ls.length→d < m→z.size+tot (ls.drop i)≤1000000000→∃Q:BA,g48_13L n kx3 m (aE z) 0 0 ls x15 v16 v17 (ls.length:Int) (i:Int)=kx3 (aE (z++Q)) 0 0 x15 v16 v17∧Seg Q (aE (gV (ls.drop i)))∧Q.size≤tot (ls.drop i):=by
 have hB:(4611686018427387904:Nat)≤n:=hn
 intro d
 induction d with
 | zero=>
  intro i m z hd hi hm hz
  obtain ⟨m,rfl⟩:∃m',m=m'+1:=⟨m - 1,by omega⟩
  refine ⟨⟨#[]⟩,?_,?_,Nat.zero_le _⟩
  ·rw [g48_13L.eq_2,uD,bdF (by omega),show z++(⟨#[]⟩:BA)=z from gY (by rw [bU];simp [bl])]
  ·rw [List.drop_of_length_le (by omega)];exact Seg.nil
 | succ d ih=>
  intro i m z hd hi hm hz
  obtain ⟨m,rfl⟩:∃m',m=m'+1:=⟨m - 1,by omega⟩
  have hi':i < ls.length:=by omega
  have hdr:ls.drop i=ls[i]::ls.drop (i+1):=List.drop_eq_getElem_cons hi'
  rw [hdr] at hz ⊢
  have ht:tot (ls[i]::ls.drop (i+1))=ls[i].size+10+tot (ls.drop (i+1)):=rfl
  rw [ht] at hz ⊢
  have hw:w64 ((i:Int)+1)=((i+1:Nat):Int):=by rw [bW (by omega) (by omega)];omega
  have hw2:w64 ((ls.length:Int) - 1)=((ls.length - 1:Nat):Int):=by rw [bW (by omega) (by omega)];omega
  have hp:=Seg.plain (hno ls[i] (List.getElem_mem hi'))
  have s1:(z++eV).size=z.size+5:=by rw [size_append];rfl
  have s2:(z++eV++ls[i]).size=z.size+5+ls[i].size:=by rw [size_append,s1]
  have s3:(z++eV++ls[i]++jO).size=z.size+5+ls[i].size+5:=by rw [size_append,s2];rfl
  have s4:(z++eV++ls[i]++nU).size=z.size+5+ls[i].size+4:=by rw [size_append,s2];rfl
  rw [g48_13L.eq_2,uD,bdT (by omega),cB (by omega) (by omega)]
  simp only [gE hi']
  by_cases hc:i+1 < ls.length
  ·obtain ⟨Q,e,hS,hQ⟩:=ih (i+1) m (z++eV++ls[i]++jO) (by omega) (by omega) (by omega) (by omega)
   refine ⟨eV++ls[i]++jO++Q,?_,?_,?_⟩
   ·refine (bA (cJ n z eV (by show _+5≤_;omega))).trans ?_
    refine (bA (cJ n (z++eV) ls[i] (by omega))).trans ?_
    refine (bdT (by rw [hw2];omega)).trans ?_
    refine (bA (cJ n (z++eV++ls[i]) jO (by show _+5≤_;omega))).trans ?_
    rw [hw]
    refine e.trans ?_
    simp only [dJ]
   ·have:=((Seg.e31.append hp).append Seg.e0n).append hS
    rw [iF (by intro h0;have:=congrArg List.length h0;rw [List.length_drop,List.length_nil] at this;omega),bF,bF]
    exact this
   ·rw [size_append,size_append,size_append];show 5+_+5+_≤_;omega
  ·obtain ⟨Q,e,hS,hQ⟩:=ih (i+1) m (z++eV++ls[i]++nU) (by omega) (by omega) (by omega) (by omega)
   refine ⟨eV++ls[i]++nU++Q,?_,?_,?_⟩
   ·refine (bA (cJ n z eV (by show _+5≤_;omega))).trans ?_
    refine (bA (cJ n (z++eV) ls[i] (by omega))).trans ?_
    refine (bdF (by rw [hw2];omega)).trans ?_
    refine (bA (cJ n (z++eV++ls[i]) nU (by show _+4≤_;omega))).trans ?_
    rw [hw]
    refine e.trans ?_
    simp only [dJ]
   ·have:=((Seg.e31.append hp).append Seg.e0).append hS
    rw [List.drop_of_length_le (by omega)] at this ⊢
    have e0:aE (gV ([]:List BA))=[]:=rfl
    rw [e0,List.append_nil,List.append_nil] at this
    exact this
   ·rw [size_append,size_append,size_append];show 5+_+4+_≤_;omega
def iC:List Rp→BA
 | []=>⟨#[]⟩
 | d::x=>enc d.2++iC x
def wgt:List Rp→Nat
 | []=>0
 | d::x=>10+11 * (enc d.2).size+wgt x
theorem uJ (n:Nat) (hn:Big≤n) (p0) (xs:List Rp) (ok:Ok xs) (hl:xs.length≤1000000) (ha:wD xs≤100000) (hno:∀d∈xs,NoB 27 (enc d.2)) (hw:wgt xs≤1000000000):∃Q:BA,g48 n p0 (M xs)=some (Q,())∧Seg Q (aE (iC xs))∧Q.size≤wgt xs:=by
 have hB:(4611686018427387904:Nat)≤n:=hn
 have key:∀(d i m:Nat) (z:BA),xs.length - i=d→i≤xs.length→d < m→z.size+wgt (xs.drop i)≤1000000000→∃Q:BA,g48_26L n (fun a b c=>mA n (fun v4=>@some (DenR rN) (v4,())) a b c) m (aE z) 0 0 (M xs) ((M xs).length:Int) (i:Int)=some (z++Q,())∧Seg Q (aE (iC (xs.drop i)))∧Q.size≤wgt (xs.drop i):=by
  intro d
  have hlm:(M xs).length=xs.length:=QC xs
  induction d with
  | zero=>
   intro i m z hd hi hm hz
   obtain ⟨m,rfl⟩:∃m',m=m'+1:=⟨m - 1,by omega⟩
   refine ⟨⟨#[]⟩,?_,?_,Nat.zero_le _⟩
   ·rw [g48_26L.eq_2,pS,DJ,bdF (by omega),show z++(⟨#[]⟩:BA)=z from gY (by rw [bU];simp [bl])]
    dsimp only [mA]
    rw [GM]
    rfl
   ·rw [List.drop_of_length_le (by omega)];exact Seg.nil
  | succ d ih=>
   intro i m z hd hi hm hz
   obtain ⟨m,rfl⟩:∃m',m=m'+1:=⟨m - 1,by omega⟩
   have hi':i < xs.length:=by omega
   have hI:i < (M xs).length:=by omega
   have hg:(M xs)[i]=(xs[i].1,enc xs[i].2):=List.getElem_map _
   have hdr:xs.drop i=xs[i]::xs.drop (i+1):=List.drop_eq_getElem_cons hi'
   rw [hdr] at hz ⊢
   have ht:wgt (xs[i]::xs.drop (i+1))=10+11 * (enc xs[i].2).size+wgt (xs.drop (i+1)):=rfl
   rw [ht] at hz ⊢
   have hq3:=yE (List.getElem_mem hi')
   have hsz2:=iI xs[i].2
   have hn27:=hno xs[i] (List.getElem_mem hi')
   have hw:w64 ((i:Int)+1)=((i+1:Nat):Int):=by rw [bW (by omega) (by omega)];omega
   have hop:=(ok xs[i] (List.getElem_mem hi')).1
   have hE:aE (iC (xs[i]::xs.drop (i+1)))=aE (enc xs[i].2)++aE (iC (xs.drop (i+1))):=bF ..
   rw [hE]
   obtain ⟨ls,g1,g2,g3,g4,g5⟩:=zZ n hn (enc xs[i].2) (by omega) hn27
   rw [g48_26L.eq_2,pS,DJ,bdT (by omega)]
   dsimp only [AR,tU,OZ]
   rw [cB (by omega) (by omega)]
   simp only [iS,gE hI,hg]
   dsimp only [zF,uN,ME,uY]
   rcases hop with h | h | h
   ·rw [h]
    show ∃Q:BA,jV n _ _ _ _ _ _ _ _ (-1) false=_∧_
    dsimp only [jV,tQ,pQ]
    show ∃Q:BA,oY n _ _ _ _ _ _ _ _ (-1) true=_∧_
    dsimp only [oY,AF,AY,BU]
    obtain ⟨Q1,e1,hS1,hQ1⟩:=WS n hn (fun a b c x15 v16 v17=>kJ n (g48_26L n (fun a b c=>mA n (fun v4=>@some (DenR rN) (v4,())) a b c) m) a b c x15 v16 v17) (M xs) ((M xs).length:Int) (i:Int) ls (by omega) g5 ls.length 0 n z (by omega) (Nat.zero_le _) (by omega) (by rw [List.drop_zero];omega)
    rw [List.drop_zero,g2] at hS1
    rw [List.drop_zero] at hQ1
    obtain ⟨Q2,e2,hS2,hQ2⟩:=ih (i+1) m (z++Q1) (by omega) (by omega) (by omega) (by rw [size_append];omega)
    refine ⟨Q1++Q2,?_,hS1.append hS2,by rw [size_append];omega⟩
    refine (bA g1).trans ?_
    refine e1.trans ?_
    dsimp only [kJ]
    rw [hw,←dJ]
    exact e2
   ·rw [h]
    show ∃Q:BA,jV n _ _ _ _ _ _ _ _ 0 false=_∧_
    dsimp only [jV,tQ,pQ]
    show ∃Q:BA,uG n _ _ _ _ _ _ _ _ 0 false=_∧_
    dsimp only [uG]
    obtain ⟨Q2,e2,hS2,hQ2⟩:=ih (i+1) m (z++enc xs[i].2) (by omega) (by omega) (by omega) (by rw [size_append];omega)
    refine ⟨enc xs[i].2++Q2,?_,(Seg.plain hn27).append hS2,by rw [size_append];omega⟩
    refine (biT (by rfl)).trans ?_
    refine (bA (cJ n z (enc xs[i].2) (by omega))).trans ?_
    dsimp only [kJ]
    rw [hw,←dJ]
    exact e2
   ·rw [h]
    show ∃Q:BA,xE n _ _ _ _ _ _ _ _ 1 true=_∧_
    dsimp only [xE,OG,MZ,HY]
    obtain ⟨Q1,e1,hS1,hQ1⟩:=WB n hn (fun a b c x15 v16 v17=>kJ n (g48_26L n (fun a b c=>mA n (fun v4=>@some (DenR rN) (v4,())) a b c) m) a b c x15 v16 v17) (M xs) ((M xs).length:Int) (i:Int) ls (by omega) g5 ls.length 0 n z (by omega) (Nat.zero_le _) (by omega) (by rw [List.drop_zero];omega)
    rw [List.drop_zero,g2] at hS1
    rw [List.drop_zero] at hQ1
    obtain ⟨Q2,e2,hS2,hQ2⟩:=ih (i+1) m (z++Q1) (by omega) (by omega) (by omega) (by rw [size_append];omega)
    refine ⟨Q1++Q2,?_,hS1.append hS2,by rw [size_append];omega⟩
    refine (bA g1).trans ?_
    refine e1.trans ?_
    dsimp only [kJ]
    rw [hw,←dJ]
    exact e2
 obtain ⟨Q,e,hS,hQ⟩:=key xs.length 0 n ⟨#[]⟩ (by omega) (Nat.zero_le _) (by omega) (by rw [List.drop_zero];show 0+_≤_;omega)
 rw [List.drop_zero] at hS hQ
 refine ⟨Q,?_,hS,hQ⟩
 rw [show (⟨#[]⟩:BA)++Q=Q from gY (by rw [bU];simp [bl])] at e
 dsimp only [g48,uH,LU,zA,zH]
 exact e
end Go.Proofs.YtoafkjeamgelgaaDoorHF
