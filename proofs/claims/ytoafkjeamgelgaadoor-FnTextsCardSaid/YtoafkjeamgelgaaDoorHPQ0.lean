/- Plain statements about the printed functions. -/
import Derived.Test.YtoafkjeamgelgaaDoorHFB
import Derived.Test.YtoafkjeamgelgaaDoorHGA0
namespace Go.Proofs.YtoafkjeamgelgaaDoorHF
open Go
set_option linter.unusedVariables false
set_option linter.unusedSimpArgs false
def Big:Nat:=4611686018427387904
section
variable {β:Type}
theorem iK {n:Int} (h0: -9223372036854775808≤n) (h1:n < 9223372036854775808):w64 n=n:=by
 unfold w64 IntKind.wrap;simp [IntKind.bits,IntKind.signed];omega
theorem gL {i n:Int} {κ:Option β} (h0:0≤i) (h1:i < n):idx i n κ=κ:=by simp [idx,h0,h1]
theorem LO {a b n:Int} {κ:Option β} (h0:0≤a) (h1:a≤b) (h2:b≤n):bnd a b n κ=κ:=by simp [bnd,h0,h1,h2]
theorem jZ {n:Nat} {κ:Option β} (h:n≤1099511627776):eI n κ=κ:=by simp [eI,h]
theorem zJ {z:BA} {κ:Option β} (h:z.size≤70368744177664):wA z κ=κ:=by
 have:Nat.ble z.size 70368744177664=true:=by rw [Nat.ble_eq];exact h
 simp [wA,this]
theorem biT {γ:Type} {c:Bool} {x y:γ} (h:c=true):(bif c then x else y)=x:=by rw [h];rfl
theorem biF {γ:Type} {c:Bool} {x y:γ} (h:c=false):(bif c then x else y)=y:=by rw [h];rfl
theorem bdT {γ:Type} {p:Prop} [Decidable p] {x y:γ} (h:p):(bif decide p then x else y)=x:=by rw [decide_eq_true h];rfl
theorem bdF {γ:Type} {p:Prop} [Decidable p] {x y:γ} (h:¬p):(bif decide p then x else y)=y:=by rw [decide_eq_false h];rfl
theorem dU {γ δ:Type} {o:Option γ} {a:γ} {f:γ→Option δ} (h:o=some a):o.bind f=f a:=by rw [h];rfl
end
theorem LM {α:Type} {xs:List α} {n:Nat} {d:α}:rd xs (n:Int) d=xs.getD n d:=by simp [rd]
theorem AR {α:Type} (xs:List α) (b:Int):cut xs 0 b=xs.take b.toNat:=by simp [cut]
theorem CS {x y:BA} (h:x.data.toList=y.data.toList):x=y:=by
 obtain ⟨⟨x⟩⟩:=x;obtain ⟨⟨y⟩⟩:=y;simp only at h;rw [h]
theorem oA (z:BA):(bB z).length=z.size:=by unfold bB;rw [List.length_map];rfl
theorem jD (x y:BA):eW x y=decide (x=y):=by
 unfold eW
 have e:∀z:BA,z.toList=z.data.toList:=fun z=>by
  have key:∀(l:List UInt8) (k:Nat) (acc:List UInt8),(k≤l.length)→ByteArray.toList.loop ⟨⟨l⟩⟩ k acc=acc.reverse++l.drop k:=by
   intro l k acc hk
   induction hj:l.length - k generalizing k acc with
   | zero=>
    unfold ByteArray.toList.loop
    have:¬k < (ByteArray.mk ⟨l⟩).size:=by show ¬k < l.length;omega
    rw [if_neg this,List.drop_eq_nil_of_le (by omega)];simp
   | succ j ih=>
    unfold ByteArray.toList.loop
    have h1:k < l.length:=by omega
    have:k < (ByteArray.mk ⟨l⟩).size:=h1
    rw [if_pos this,ih (k+1) _ (by omega) (by omega)]
    have hg:(ByteArray.mk ⟨l⟩).get! k=l[k]:=by
     show (Array.mk l)[k]! =l[k]
     rw [getElem!_pos (Array.mk l) k (by simpa using h1)];simp
    rw [hg,List.drop_eq_getElem_cons h1];simp
  obtain ⟨⟨l⟩⟩:=z
  unfold ByteArray.toList
  rw [key l 0 [] (Nat.zero_le _)];simp
 rw [e,e]
 by_cases h:x=y
 ·subst h;simp
 ·simp only [h,decide_false]
  exact beq_false_of_ne (fun h'=>h (CS h'))
theorem mS (x y:BA):bB (x++y)=bB x++bB y:=by
 unfold bB;rw [ByteArray.data_append,Array.toList_append,List.map_append]
theorem oZ {z:BA}:∀b∈bB z,0≤b∧b < 256:=by
 intro b hb
 unfold bB at hb
 obtain ⟨u,_,rfl⟩:=List.mem_map.1 hb
 have:=u.toNat_lt
 omega
theorem jJ (z:BA):strOfNums (bB z)=z:=by
 refine CS ?_
 rw [strOfNums_data];unfold bB
 rw [List.map_map]
 refine (List.map_congr_left (fun u _=>?_)).trans (List.map_id _)
 simp
theorem wX {α σ β:Type} (xs:List α) (F:Nat→σ→Nat→Option β) (k:σ→Option β) (step:σ→α→σ) (Inv:Nat→σ→Prop)
  (h1:∀m s i (hi:i < xs.length),Inv i s→F (m+1) s i=F m (step s xs[i]) (i+1)∧Inv (i+1) (step s xs[i]))
  (h2:∀m s,Inv xs.length s→F (m+1) s xs.length=k s):∀m s,xs.length < m→Inv 0 s→F m s 0=k (xs.foldl step s):=by
 have key:∀(d i m:Nat) (s:σ),xs.length - i=d→i≤xs.length→d < m→Inv i s→F m s i=k ((xs.drop i).foldl step s):=by
  intro d
  induction d with
  | zero=>
   intro i m s hd hi hm hs
   obtain ⟨m',rfl⟩:∃m',m=m'+1:=⟨m - 1,by omega⟩
   obtain rfl:i=xs.length:=by omega
   rw [h2 m' s hs,List.drop_length];rfl
  | succ d ih=>
   intro i m s hd hi hm hs
   obtain ⟨m',rfl⟩:∃m',m=m'+1:=⟨m - 1,by omega⟩
   have hl:i < xs.length:=by omega
   obtain ⟨e,hs'⟩:=h1 m' s i hl hs
   rw [e,ih (i+1) m' _ (by omega) (by omega) (by omega) hs',List.drop_eq_getElem_cons hl];rfl
 intro m s hm hs
 have:=key xs.length 0 m s (by omega) (Nat.zero_le _) hm hs
 simpa using this
theorem uS {α β:Type} (xs:List α) (F:Nat→Nat→Option β) (kf:(i:Nat)→i < xs.length→Option β) (k:Option β) (p:Nat→α→Bool)
  (h1:∀m i (hi:i < xs.length),(∀j (hj:j < i),p j (xs[j]'(by omega))=false)→F (m+1) i=if p i xs[i]=true then kf i hi else F m (i+1))
  (h2:∀m,(∀j (hj:j < xs.length),p j xs[j]=false)→F (m+1) xs.length=k):∀m,xs.length < m→(∃i hi,p i (xs[i]'hi)=true∧(∀j (hj:j < i),p j (xs[j]'(by omega))=false)∧F m 0=kf i hi)∨((∀j (hj:j < xs.length),p j xs[j]=false)∧F m 0=k):=by
 have key:∀(d i m:Nat),xs.length - i=d→(hi:i≤xs.length)→d < m→(∀j (hj:j < i),p j (xs[j]'(by omega))=false)→
   (∃i' hi',p i' (xs[i']'hi')=true∧(∀j (hj:j < i'),p j (xs[j]'(by omega))=false)∧F m i=kf i' hi')∨((∀j (hj:j < xs.length),p j xs[j]=false)∧F m i=k):=by
  intro d
  induction d with
  | zero=>
   intro i m hd hi hm hp
   obtain ⟨m',rfl⟩:∃m',m=m'+1:=⟨m - 1,by omega⟩
   obtain rfl:i=xs.length:=by omega
   exact .inr ⟨hp,h2 m' hp⟩
  | succ d ih=>
   intro i m hd hi hm hp
   obtain ⟨m',rfl⟩:∃m',m=m'+1:=⟨m - 1,by omega⟩
   have hl:i < xs.length:=by omega
   have e:=h1 m' i hl hp
   cases hpi:p i xs[i] with
   | true=>rw [hpi,if_pos rfl] at e;exact .inl ⟨i,hl,hpi,hp,e⟩
   | false=>
    rw [hpi,if_neg (by simp)] at e
    rw [e]
    refine ih (i+1) m' (by omega) (by omega) (by omega) (fun j hj=>?_)
    by_cases hji:j=i
    ·subst hji;exact hpi
    ·exact hp j (by omega)
 intro m hm
 exact key xs.length 0 m (by omega) (Nat.zero_le _) hm (fun j hj=>by omega)
theorem nQ {α:Type} {xs:List α} {i:Nat} {d:α} (h:i < xs.length):rd xs (i:Int) d=xs[i]:=by
 rw [LM,List.getD_eq_getElem?_getD,List.getElem?_eq_getElem h];rfl
theorem gT {α:Type} {x d:α} {i:Int} (h:i=0):rd [x] i d=x:=by subst h;rfl
end Go.Proofs.YtoafkjeamgelgaaDoorHF
namespace Go.Proofs.YtoafkjeamgelgaaDoorHF
open Go Go.RowKit
set_option linter.unusedVariables false
set_option linter.unusedSimpArgs false
theorem zQ (ns:List Int):∀s:BA,ns.foldl (fun r n=>r++Utf8.encode n) s=s++runesBytes ns:=by
 induction ns with
 | nil=>intro s;simp [runesBytes]
 | cons n ns ih=>
  intro s
  unfold runesBytes
  simp only [List.foldl_cons]
  rw [ih,ih (ByteArray.empty++_)]
  simp [ByteArray.append_assoc]
theorem jP (x y:List Int):runesBytes (x++y)=runesBytes x++runesBytes y:=by
 conv=>lhs;unfold runesBytes
 rw [List.foldl_append,zQ];rfl
def Valids (xs:List Int):Prop:=∀x∈xs,Utf8.valid x=true
theorem rZ (s:BA) (i:Nat):Utf8.valid ((Utf8.decode s i).1:Int)=true:=by
 unfold Utf8.decode
 simp only [Nat.add_zero]
 split
 ·rename_i h;simp [Utf8.valid];omega
 split
 ·split
  ·rename_i h1 h2;simp only [Utf8.valid];simp;omega
  ·decide
 split
 ·split
  ·rename_i h1 h2;simp at h2;exact h2.2
  ·decide
 split
 ·split
  ·rename_i h1 h2;simp at h2;exact h2.2
  ·decide
 ·decide
theorem iE (s:BA):∀b i,Valids (dJ s b i)
 | 0,_=>by intro x hx;simp [dJ] at hx
 | b+1,i=>by
  intro x hx
  unfold dJ at hx
  split at hx
  ·rcases List.mem_cons.1 hx with rfl | hx
   ·exact rZ s i
   ·exact iE s b _ x hx
  ·simp at hx
theorem oT (s:BA):Valids (bI s):=iE s _ _
theorem Valids.take {x:List Int} (h:Valids x) (n:Nat):Valids (x.take n):=fun y hy=>h y (List.mem_of_mem_take hy)
theorem Valids.drop {x:List Int} (h:Valids x) (n:Nat):Valids (x.drop n):=fun y hy=>h y (List.mem_of_mem_drop hy)
theorem Valids.append {x y:List Int} (h:Valids x) (k:Valids y):Valids (x++y):=fun z hz=>(List.mem_append.1 hz).elim (h z) (k z)
end Go.Proofs.YtoafkjeamgelgaaDoorHF
namespace Go.Proofs.YtoafkjeamgelgaaDoorHF
open Go
set_option linter.unusedVariables false
set_option linter.unusedSimpArgs false
def bl (z:BA):List UInt8:=z.data.toList
def NT (b:UInt8):Prop:=128≤b.toNat∧b.toNat < 192
abbrev enc (x:List Int):BA:=runesBytes x
theorem fJ (x y:List Int):enc (x++y)=enc x++enc y:=jP x y
theorem cB (x:List Int):(enc x).size≤4 * x.length:=runesBytes_size_le x
theorem Valids.nil:Valids []:=fun x hx=>by cases hx
theorem Valids.cons {r:Int} {x:List Int} (h:Valids (r::x)):Utf8.valid r=true∧Valids x:=⟨h r (by simp),fun y hy=>h y (by simp [hy])⟩
@[reducible] def Prt:=Int×BA
@[reducible] def Rp:=Int×List Int
def emb (d:Rp):Prt:=(d.1,enc d.2)
def OkR (d:Rp):Prop:=(d.1= -1∨d.1=0∨d.1=1)∧Valids d.2
theorem EH (n:Nat) (a:BA) (m:Nat) (h:a.size≤70368744177664):g36 n a (m:Int)=some (enc ((bI a).take m),()):=by
 have hl:=gM a
 dsimp only [g36,CN,g51,AY]
 rw [zJ h,Option.bind_some]
 have e:oW ((bI a).length:Int) (m:Int)=((min (bI a).length m:Nat):Int):=by unfold oW;split <;> omega
 dsimp only
 rw [e,LO (by omega) (by omega) (by omega),AR]
 congr 3
 rw [show (0+(((min (bI a).length m:Nat):Int) - 0)).toNat=min (bI a).length m by omega,Nat.min_comm,List.take_eq_take_iff]
 omega
theorem rG (n:Nat) (v:Int) (h:v= -1∨v=0∨v=1):g54 n v=some (v,()):=by
 rcases h with rfl | rfl | rfl <;> rfl
theorem yJ (n:Nat) (hn:Big≤n) (xs:List Rp) (hl:xs.length≤1000000) (ho:∀y∈xs,OkR y):g39 n (xs.map emb)=some (xs.map emb,()):=by
 have hB:(4611686018427387904:Nat)≤n:=hn
 dsimp only [g39,xG,EC,EE,CB,CI]
 have e:=wX (xs.map emb) (fun m s i=>g39_3L n (fun x4=>some (x4,())) m s (xs.map emb) ((xs.map emb).length:Int) (i:Int)) (fun s=>some (s,())) (fun s x=>s++[x]) (fun i s=>s.length=i)
  (fun m s i hi hs=>by
   have hi':i < xs.length:=by simpa using hi
   refine ⟨?_,by simp [hs]⟩
   have hlm:(xs.map emb).length=xs.length:=List.length_map _
   have hop:=(ho xs[i] (by simp)).1
   have hg:(xs.map emb)[i]=emb xs[i]:=List.getElem_map _
   rw [g39_3L.eq_2,xQ,bdT (by omega),gL (by omega) (by omega)]
   simp only [nQ hi,gT rfl]
   rw [hg,rG n (emb xs[i]).1 hop,Option.bind_some,jZ (by simp only [List.length_cons,List.length_nil];omega),iK (by omega) (by omega)]
   rfl)
  (fun m s hs=>by rw [g39_3L.eq_2,xQ,bdF (by omega)]) n [] (by simp;omega) rfl
 refine Eq.trans e ?_
 have hf:∀(l:List Prt) (s:List Prt),l.foldl (fun s x=>s++[x]) s=s++l:=by
  intro l
  induction l with
  | nil=>intro s;simp
  | cons x l ih=>intro s;rw [List.foldl_cons,ih];simp
 rw [hf];rfl
def oE (x:Prt):Bool:=decide (x.2.size≤2147483647)
theorem BP (n:Nat) (x:Prt):g35 n x=some (oE x,()):=by
 dsimp only [g35,CK]
 unfold oE
 by_cases h:(x.2.size:Int)>2147483647
 ·rw [bdT h,decide_eq_false (by omega)]
 ·rw [bdF h,decide_eq_true (by omega)]
theorem HQ (n:Nat) (hn:Big≤n) (xs:List Prt):(g14 n xs=some (true,())∧xs.length≤2147483647∧∀y∈xs,y.2.size≤2147483647)∨g14 n xs=some (false,()):=by
 dsimp only [g14,xL,DE]
 by_cases h:(xs.length:Int)>2147483647
 ·rw [bdT h];exact .inr rfl
 ·rw [bdF h]
  have hB:(4611686018427387904:Nat)≤n:=hn
  have h1:∀m i (hi:i < xs.length),(∀j (hj:j < i),(fun (_:Nat) x=> !oE x) j (xs[j]'(by omega))=false)→
    g14_3L n (fun v2=>some (v2,())) (qA n (fun v2=>some (v2,()))) (m+1) xs (xs.length:Int) (i:Int)=if (fun (_:Nat) x=> !oE x) i xs[i]=true then (fun _ _=>some (false,())) i hi else g14_3L n (fun v2=>some (v2,())) (qA n (fun v2=>some (v2,()))) m xs (xs.length:Int) ((i+1:Nat):Int):=by
   intro m i hi _
   rw [g14_3L.eq_2,xT,bdT (by omega),gL (by omega) (by omega),gT rfl,nQ hi,BP,Option.bind_some]
   cases hfb:oE xs[i] with
   | true=>
    rw [if_neg (by simp [hfb])]
    show g14_3L n (fun v2=>some (v2,())) (qA n (fun v2=>some (v2,()))) m xs (xs.length:Int) (w64 ((i:Int)+1))=_
    rw [iK (by omega) (by omega)];rfl
   | false=>rw [if_pos (by simp [hfb])];rfl
  rcases uS xs (fun m i=>g14_3L n (fun v2=>some (v2,())) (qA n (fun v2=>some (v2,()))) m xs (xs.length:Int) (i:Int)) (fun _ _=>some (false,())) (some (true,())) (fun _ x=> !oE x) h1 (fun m _=>by rw [g14_3L.eq_2,xT,bdF (by omega)];rfl) n (by omega) with ⟨i,hi,_,_,e⟩ | ⟨hall,e⟩
  ·exact .inr e
  ·refine .inl ⟨e,by omega,fun y hy=>?_⟩
   obtain ⟨i,hi,rfl⟩:=List.getElem_of_mem hy
   have:=hall i hi
   simpa [oE] using this
def vY (n:Int):Int:=if Int.tmod n 3=2 then -1 else if Int.tmod n 3= -2 then 1 else Int.tmod n 3
theorem JT (n:Int):Int.tmod n 3= -2∨Int.tmod n 3= -1∨Int.tmod n 3=0∨Int.tmod n 3=1∨Int.tmod n 3=2:=by
 have h1:=Int.tmod_lt_of_pos n (show (0:Int) < 3 by omega)
 have h2:=Int.lt_tmod_of_pos n (show (0:Int) < 3 by omega)
 omega
theorem vR (n:Int):vY n= -1∨vY n=0∨vY n=1:=by
 unfold vY
 rcases JT n with h | h | h | h | h <;> simp [h]
def LQ (y:Prt):Rp:=(vY y.1,(bI y.2).take 30)
def cE (m:Nat) (xs:List Prt):List Rp:=(xs.take m).map LQ
theorem vO (m:Nat) (xs:List Prt):∀y∈cE m xs,OkR y∧y.2.length≤30:=by
 intro y hy
 obtain ⟨z,_,rfl⟩:=List.mem_map.1 hy
 exact ⟨⟨vR _,(oT _).take _⟩,List.length_take_le _ _⟩
theorem gG (m:Nat) (xs:List Prt):(cE m xs).length≤m:=by simp [cE];omega
theorem zE (n:Nat) (hn:Big≤n) (xs:List Prt) (hl:xs.length≤2147483647) (hs:∀y∈xs,y.2.size≤2147483647) (m:Nat) (hm:m≤1000000):g15 n xs (m:Int)=some ((cE m xs).map emb,()):=by
 have hB:(4611686018427387904:Nat)≤n:=hn
 dsimp only [g15,xV,FJ,BY,EA,CZ]
 have key:∀(d i g:Nat),min m xs.length - i=d→i≤min m xs.length→d < g→g15_3L n (fun x4=>some (x4,())) g xs (m:Int) ((cE i xs).map emb) (i:Int)=some ((cE m xs).map emb,()):=by
  intro d
  induction d with
  | zero=>
   intro i g hd hi hg
   obtain ⟨g,rfl⟩:∃g',g=g'+1:=⟨g - 1,by omega⟩
   rw [g15_3L.eq_2,yE]
   have e:cE i xs=cE m xs:=by unfold cE;congr 1;rw [List.take_eq_take_iff];omega
   by_cases h:i < xs.length
   ·rw [bdT (by omega),bdF (by omega),e]
   ·rw [bdF (by omega),e]
  | succ d ih=>
   intro i g hd hi hg
   obtain ⟨g,rfl⟩:∃g',g=g'+1:=⟨g - 1,by omega⟩
   have hi':i < xs.length:=by omega
   have:=ih (i+1) g (by omega) (by omega) (by omega)
   have hstep:(cE (i+1) xs).map emb=(cE i xs).map emb++[(vY xs[i].1,enc ((bI xs[i].2).take 30))]:=by
    unfold cE
    rw [List.take_succ_eq_append_getElem hi',List.map_append,List.map_append];rfl
   have hlen:((cE i xs).map emb).length≤m:=by rw [List.length_map];have:=gG i xs;omega
   have hsz:=hs xs[i] (by simp)
   rw [g15_3L.eq_2,yE,bdT (by omega),bdT (by omega),gL (by omega) (by omega)]
   simp only [nQ hi']
   rw [show (30:Int)=((30:Nat):Int) from rfl,EH n _ 30 (by omega)]
   simp only [Option.bind_some]
   have hw:w64 ((i:Int)+1)=((i+1:Nat):Int):=by rw [iK (by omega) (by omega)];omega
   rw [hw]
   rw [hstep] at this
   unfold vY at this
   rcases JT xs[i].1 with h | h | h | h | h
   all_goals
    rw [h] at this ⊢
    simp only [show ((-2:Int)=2)=False by simp,show ((-1:Int)=2)=False by simp,show ((0:Int)=2)=False by simp,show ((1:Int)=2)=False by simp,show ((-1:Int)= -2)=False by simp,show ((0:Int)= -2)=False by simp,show ((1:Int)= -2)=False by simp,if_true,if_false,if_pos,if_neg,not_false_eq_true] at this
    simp only [show ((-2:Int)==2)=false from rfl,show ((-2:Int)== -2)=true from rfl,show ((2:Int)==2)=true from rfl,show ((-1:Int)==2)=false from rfl,show ((-1:Int)== -2)=false from rfl,show ((0:Int)==2)=false from rfl,show ((0:Int)== -2)=false from rfl,show ((1:Int)==2)=false from rfl,show ((1:Int)== -2)=false from rfl,cond_true,cond_false]
    rw [gL (by omega) (by omega),jZ (by simp only [List.length_append,List.length_cons,List.length_nil];omega)]
    exact this
 exact key (min m xs.length) 0 n (by omega) (by omega) (by omega)
def eS:List Rp→List Int
 | []=>[]
 | d::l=>(if d.1=1 then [] else d.2)++eS l
def eR:List Rp→List Int
 | []=>[]
 | d::l=>(if d.1= -1 then [] else d.2)++eR l
def edR:List Rp→Nat
 | []=>0
 | d::l=>(if d.1=0 then 0 else d.2.length)+edR l
theorem gS:∀x y,eS (x++y)=eS x++eS y
 | [],y=>rfl
 | d::x,y=>by simp [eS,gS x y]
theorem gN:∀x y,eR (x++y)=eR x++eR y
 | [],y=>rfl
 | d::x,y=>by simp [eR,gN x y]
def eK (l:List Rp):Nat:=(l.map fun d=>d.2.length).sum
theorem AS:eK []=0:=rfl
theorem hQ (d:Rp) (l:List Rp):eK (d::l)=d.2.length+eK l:=by simp [eK]
theorem sO (x y:List Rp):eK (x++y)=eK x+eK y:=by simp [eK]
theorem gJ {d:Rp}:∀{l:List Rp},d∈l→d.2.length≤eK l
 | e::l,h=>by
  rw [hQ]
  rcases List.mem_cons.1 h with rfl | h
  ·omega
  ·have:=gJ h;omega
theorem hJ (l:List Rp) (i:Nat):eK (l.take i)≤eK l:=by
 have:=sO (l.take i) (l.drop i)
 rw [List.take_append_drop] at this;omega
theorem rA:∀l:List Rp,(eS l).length≤eK l
 | []=>Nat.le_refl _
 | d::l=>by have:=rA l;rw [hQ];unfold eS;split <;> simp <;> omega
theorem qZ:∀l:List Rp,(eR l).length≤eK l
 | []=>Nat.le_refl _
 | d::l=>by have:=qZ l;rw [hQ];unfold eR;split <;> simp <;> omega
theorem zS (n:Nat) (hn:Big≤n) (xs:List Rp) (hl:xs.length≤1000000000) (ha:eK xs≤1000000000):g17 n (xs.map emb)=some (enc (eS xs),()):=by
 have hB:(4611686018427387904:Nat)≤n:=hn
 have key:∀(d i m:Nat),xs.length - i=d→i≤xs.length→d < m→g17_3L n (fun x=>some (x,())) m (enc (eS (xs.take i))) (xs.map emb) ((xs.map emb).length:Int) (i:Int)=some (enc (eS xs),()):=by
  intro d
  have hlm:(xs.map emb).length=xs.length:=List.length_map _
  induction d with
  | zero=>
   intro i m hd hi hm
   obtain ⟨m,rfl⟩:∃m',m=m'+1:=⟨m - 1,by omega⟩
   rw [g17_3L.eq_2,xM,bdF (by omega),List.take_of_length_le (by omega)]
  | succ d ih=>
   intro i m hd hi hm
   obtain ⟨m,rfl⟩:∃m',m=m'+1:=⟨m - 1,by omega⟩
   have hi':i < xs.length:=by omega
   have hI:i < (xs.map emb).length:=by omega
   have:=ih (i+1) m (by omega) (by omega) (by omega)
   have hs:eS (xs.take (i+1))=eS (xs.take i)++(if xs[i].1=1 then [] else xs[i].2):=by
    rw [List.take_succ_eq_append_getElem hi',gS];simp [eS]
   have hsz1:=cB (eS (xs.take i))
   have hsz2:=cB xs[i].2
   have hq1:=rA (xs.take i)
   have hq2:=hJ xs i
   have hq3:=gJ (List.getElem_mem hi')
   rw [g17_3L.eq_2,xM,bdT (by omega),gL (by omega) (by omega)]
   simp only [nQ hI,gT rfl,List.getElem_map]
   rw [hs] at this
   have hw:w64 ((i:Int)+1)=((i+1:Nat):Int):=by rw [iK (by omega) (by omega)];omega
   rw [hw]
   by_cases h:xs[i].1=1
   ·rw [if_pos h,List.append_nil] at this
    rw [biF (by show (xs[i].1 !=1)=false;simp [h])]
    exact this
   ·rw [if_neg h,fJ] at this
    rw [biT (by show (xs[i].1 !=1)=true;simp [h]),jZ (by show _+(enc xs[i].2).size≤_;omega)]
    exact this
 have:=key xs.length 0 n (by omega) (Nat.zero_le _) (by omega)
 exact this
theorem zH (n:Nat) (hn:Big≤n) (xs:List Rp) (hl:xs.length≤1000000000) (ha:eK xs≤1000000000):g19 n (xs.map emb)=some (enc (eR xs),()):=by
 have hB:(4611686018427387904:Nat)≤n:=hn
 have key:∀(d i m:Nat),xs.length - i=d→i≤xs.length→d < m→g19_3L n (fun x=>some (x,())) m (enc (eR (xs.take i))) (xs.map emb) ((xs.map emb).length:Int) (i:Int)=some (enc (eR xs),()):=by
  intro d
  have hlm:(xs.map emb).length=xs.length:=List.length_map _
  induction d with
  | zero=>
   intro i m hd hi hm
   obtain ⟨m,rfl⟩:∃m',m=m'+1:=⟨m - 1,by omega⟩
   rw [g19_3L.eq_2,xO,bdF (by omega),List.take_of_length_le (by omega)]
  | succ d ih=>
   intro i m hd hi hm
   obtain ⟨m,rfl⟩:∃m',m=m'+1:=⟨m - 1,by omega⟩
   have hi':i < xs.length:=by omega
   have hI:i < (xs.map emb).length:=by omega
   have:=ih (i+1) m (by omega) (by omega) (by omega)
   have hs:eR (xs.take (i+1))=eR (xs.take i)++(if xs[i].1= -1 then [] else xs[i].2):=by
    rw [List.take_succ_eq_append_getElem hi',gN];simp [eR]
   have hsz1:=cB (eR (xs.take i))
   have hsz2:=cB xs[i].2
   have hq1:=qZ (xs.take i)
   have hq2:=hJ xs i
   have hq3:=gJ (List.getElem_mem hi')
   rw [g19_3L.eq_2,xO,bdT (by omega),gL (by omega) (by omega)]
   simp only [nQ hI,gT rfl,List.getElem_map]
   rw [hs] at this
   have hw:w64 ((i:Int)+1)=((i+1:Nat):Int):=by rw [iK (by omega) (by omega)];omega
   rw [hw]
   by_cases h:xs[i].1= -1
   ·rw [if_pos h,List.append_nil] at this
    rw [biF (by show (xs[i].1 != -1)=false;simp [h])]
    exact this
   ·rw [if_neg h,fJ] at this
    rw [biT (by show (xs[i].1 != -1)=true;simp [h]),jZ (by show _+(enc xs[i].2).size≤_;omega)]
    exact this
 have:=key xs.length 0 n (by omega) (Nat.zero_le _) (by omega)
 exact this
def M (l:List Rp):List Prt:=l.map emb
theorem tR (x:List Rp):(M x).length=x.length:=List.length_map _
def NZ (n:Nat):Prop:=n≤1000000000
def cpl:List Int→List Int→Nat
 | a::x,b::y=>if a=b then cpl x y+1 else 0
 | _,_=>0
def csl (x y:List Int):Nat:=cpl x.reverse y.reverse
def pT:List Rp→List Int
 | []=>[]
 | d::l=>(if d.1= -1 then d.2 else [])++pT l
def pI:List Rp→List Int
 | []=>[]
 | d::l=>(if d.1=1 then d.2 else [])++pI l
def cdR:List Rp→Nat
 | []=>0
 | d::l=>(if d.1= -1 then 1 else 0)+cdR l
def ciR:List Rp→Nat
 | []=>0
 | d::l=>(if d.1=1 then 1 else 0)+ciR l
def Eds (P:List Rp):Prop:=∀d∈P,d.1= -1∨d.1=1
def pushE (u:List Int):List Rp→List Rp
 | (k,s)::A=>if k=0 then (0,s++u)::A else (0,u)::(k,s)::A
 | []=>[(0,u)]
structure Fac where
 A:List Rp
 td:List Int
 ti:List Int
 t:List Int
def fac (A:List Rp) (td ti t:List Int):Fac:=
 let c:=cpl ti td
 let s:=csl (ti.drop c) (td.drop c)
 ⟨if c=0 then A else pushE (ti.take c) A,(td.drop c).take ((td.drop c).length - s),(ti.drop c).take ((ti.drop c).length - s),(ti.drop c).drop ((ti.drop c).length - s)++t⟩
def stepE (A P:List Rp) (t:List Int):List Rp:=
 if 1 < P.length then
  if cdR P=0 then (0,t)::(1,pI P)::A
  else if ciR P=0 then (0,t)::(-1,pT P)::A
  else let f:=fac A (pT P) (pI P) t;(0,f.t)::(1,f.ti)::(-1,f.td)::f.A
 else if P=[] then pushE t A
 else (0,t)::(P.reverse++A)
def run1:List Rp→List Rp→List Rp→List Rp×List Rp
 | A,P,[]=>(A,P)
 | A,P,d::R=>if d.1=0 then run1 (stepE A P d.2) [] R else run1 A (P++[d]) R
def chop:List Rp→List Rp
 | (k,s)::A=>if s=[] then A else (k,s)::A
 | []=>[]
def join1 (x:List Rp):List Rp:=(chop (stepE (run1 [] [] x).1 (run1 [] [] x).2 [])).reverse
def slide:List Rp→List Rp→Bool→List Rp×Bool
 | A,p::c::q::R,ch=>
  if p.1=0∧q.1=0 then
   if p.2 <:+c.2 then slide ((c.1,p.2++c.2.take (c.2.length - p.2.length))::A) ((q.1,p.2++q.2)::R) true
   else if q.2 <+:c.2 then slide ((p.1,p.2++q.2)::A) ((c.1,c.2.drop q.2.length++q.2)::R) true
   else slide (p::A) (c::q::R) ch
  else slide (p::A) (c::q::R) ch
 | A,R,ch=>(A.reverse++R,ch)
termination_by _ R _=>R.length
def phi (x:List Rp):Nat:=edR x+x.length
def Hd (A:List Rp):Prop:=A=[]∨∃s A',A=(0,s)::A'
def Ops (x:List Rp):Prop:=∀d∈x,d.1= -1∨d.1=0∨d.1=1
theorem Eds.nil:Eds []:=fun e he=>by cases he
theorem Ops.cons {d:Rp} {x:List Rp} (h:Ops (d::x)):(d.1= -1∨d.1=0∨d.1=1)∧Ops x:=⟨h d (by simp),fun e he=>h e (by simp [he])⟩
def mergeN:Nat→List Rp→List Rp
 | 0,x=>x
 | k+1,x=>if (slide [] (join1 x) false).2=true then mergeN k (slide [] (join1 x) false).1 else (slide [] (join1 x) false).1
def merge (x:List Rp):List Rp:=mergeN (phi x+1) x
def Ok (x:List Rp):Prop:=∀d∈x,OkR d
theorem Ok.nil:Ok []:=fun d h=>by cases h
theorem Ok.append {x y:List Rp} (h:Ok x) (k:Ok y):Ok (x++y):=fun d hd=>(List.mem_append.1 hd).elim (h d) (k d)
theorem Ok.cons' {d:Rp} {x:List Rp} (h:OkR d) (k:Ok x):Ok (d::x):=fun e he=>(List.mem_cons.1 he).elim (fun e=>by rw [e];exact h) (k e)
theorem Ok.of_cons {d:Rp} {x:List Rp} (h:Ok (d::x)):OkR d∧Ok x:=⟨h d (by simp),fun e he=>h e (by simp [he])⟩
theorem Ok.reverse {x:List Rp} (h:Ok x):Ok x.reverse:=fun d hd=>h d (List.mem_reverse.1 hd)
theorem mX:∀{P:List Rp},Ok P→Valids (pT P)∧Valids (pI P)
 | [],_=>⟨Valids.nil,Valids.nil⟩
 | d::P,h=>by
  have ih:=mX h.of_cons.2
  have hd:=h.of_cons.1.2
  unfold pT pI
  refine ⟨Valids.append ?_ ih.1,Valids.append ?_ ih.2⟩ <;> split <;> first | exact hd | exact Valids.nil
theorem Ok.pushE {u:List Int} (hu:Valids u):∀{A:List Rp},Ok A→Ok (pushE u A)
 | [],_=>Ok.cons' ⟨.inr (.inl rfl),hu⟩ Ok.nil
 | (k,s)::A,h=>by
  rw [Go.Proofs.YtoafkjeamgelgaaDoorHF.pushE]
  split
  ·exact Ok.cons' ⟨.inr (.inl rfl),h.of_cons.1.2.append hu⟩ h.of_cons.2
  ·exact Ok.cons' ⟨.inr (.inl rfl),hu⟩ h
theorem Ok.stepE {A P:List Rp} {t:List Int} (hA:Ok A) (hP:Ok P) (ht:Valids t):Ok (stepE A P t):=by
 have hd:=mX hP
 unfold Go.Proofs.YtoafkjeamgelgaaDoorHF.stepE
 split
 ·split
  ·exact Ok.cons' ⟨.inr (.inl rfl),ht⟩ (Ok.cons' ⟨.inr (.inr rfl),hd.2⟩ hA)
  ·split
   ·exact Ok.cons' ⟨.inr (.inl rfl),ht⟩ (Ok.cons' ⟨.inl rfl,hd.1⟩ hA)
   ·simp only
    have h1:Ok (fac A (pT P) (pI P) t).A:=by
     unfold fac;simp only;split
     ·exact hA
     ·exact Ok.pushE (hd.2.take _) hA
    refine Ok.cons' ⟨.inr (.inl rfl),?_⟩ (Ok.cons' ⟨.inr (.inr rfl),?_⟩ (Ok.cons' ⟨.inl rfl,?_⟩ h1)) <;> unfold fac <;> simp only
    ·exact ((hd.2.drop _).drop _).append ht
    ·exact (hd.2.drop _).take _
    ·exact (hd.1.drop _).take _
 ·split
  ·exact Ok.pushE ht hA
  ·exact Ok.cons' ⟨.inr (.inl rfl),ht⟩ (hP.reverse.append hA)
theorem Ok.run1:∀{R A P:List Rp},Ok A→Ok P→Ok R→Ok (run1 A P R).1∧Ok (run1 A P R).2
 | [],A,P,hA,hP,_=>⟨hA,hP⟩
 | d::R,A,P,hA,hP,hR=>by
  rw [Go.Proofs.YtoafkjeamgelgaaDoorHF.run1]
  split
  ·exact Ok.run1 (hA.stepE hP hR.of_cons.1.2) Ok.nil hR.of_cons.2
  ·exact Ok.run1 hA (hP.append (Ok.cons' hR.of_cons.1 Ok.nil)) hR.of_cons.2
theorem Ok.chop:∀{A:List Rp},Ok A→Ok (chop A)
 | [],_=>Ok.nil
 | (k,s)::A,h=>by
  rw [Go.Proofs.YtoafkjeamgelgaaDoorHF.chop];split
  ·exact h.of_cons.2
  ·exact h
theorem Ok.join1 {x:List Rp} (h:Ok x):Ok (join1 x):=by
 have:=Ok.run1 Ok.nil Ok.nil h
 exact (Ok.chop (this.1.stepE this.2 Valids.nil)).reverse
theorem Ok.slide:∀(k:Nat) {A R:List Rp} {ch:Bool},R.length=k→Ok A→Ok R→Ok (slide A R ch).1:=by
 intro k
 induction k using Nat.strongRecOn with
 | _ k ih=>
  intro A R ch hk hA hR
  match R,hk,hR with
  | [],hk,hR=>unfold Go.Proofs.YtoafkjeamgelgaaDoorHF.slide;exact hA.reverse.append hR
  | [p],hk,hR=>unfold Go.Proofs.YtoafkjeamgelgaaDoorHF.slide;exact hA.reverse.append hR
  | [p,c],hk,hR=>unfold Go.Proofs.YtoafkjeamgelgaaDoorHF.slide;exact hA.reverse.append hR
  | p::c::q::R,hk,hR=>
   rw [Go.Proofs.YtoafkjeamgelgaaDoorHF.slide]
   have hp:=hR.of_cons.1
   have hc:=hR.of_cons.2.of_cons.1
   have hq:=hR.of_cons.2.of_cons.2.of_cons.1
   have hR':=hR.of_cons.2.of_cons.2.of_cons.2
   have skip:=ih (c::q::R).length (by rw [←hk];simp) (A:=p::A) (R:=c::q::R) (ch:=ch) rfl (Ok.cons' hp hA) hR.of_cons.2
   split
   ·split
    ·exact ih (((q.1,p.2++q.2)::R):List Rp).length (by rw [←hk];simp) rfl (Ok.cons' ⟨hc.1,hp.2.append (hc.2.take _)⟩ hA) (Ok.cons' ⟨hq.1,hp.2.append hq.2⟩ hR')
    ·split
     ·exact ih (((c.1,c.2.drop q.2.length++q.2)::R):List Rp).length (by rw [←hk];simp) rfl (Ok.cons' ⟨hp.1,hp.2.append hq.2⟩ hA) (Ok.cons' ⟨hc.1,(hc.2.drop _).append hq.2⟩ hR')
     ·exact skip
   ·exact skip
theorem Ok.mergeN:∀(k:Nat) {x:List Rp},Ok x→Ok (mergeN k x)
 | 0,x,h=>h
 | k+1,x,h=>by
  have:=Ok.slide (Go.Proofs.YtoafkjeamgelgaaDoorHF.join1 x).length (A:=[]) (R:=Go.Proofs.YtoafkjeamgelgaaDoorHF.join1 x) (ch:=false) rfl Ok.nil h.join1
  rw [Go.Proofs.YtoafkjeamgelgaaDoorHF.mergeN]
  split
  ·exact Ok.mergeN k this
  ·exact this
theorem Ok.merge {x:List Rp} (h:Ok x):Ok (merge x):=Ok.mergeN _ h
theorem uO (n:Nat) (z s:BA) (h:z.size+s.size≤140737488355328):g52 n (bB z,(0,0)) s=some ((((s.size:Int),(false,())),((bB (z++s),(0,0)),()))):=by
 show eJ (bB z,(0,0)) s=_
 unfold eJ
 rw [if_pos ⟨rfl,by show (bB z).length+s.size≤_;rw [oA];exact h⟩,mS]
theorem pX (n:Nat) (z:BA):g53 n (bB z,(0,0))=some ((z,()),((bB z,(0,0)),())):=by
 show dS (bB z,(0,0))=_
 unfold dS
 rw [if_pos ⟨rfl,oZ⟩,jJ]
theorem FD (n:Nat) (hn:Big≤n) (p0) (xs:List Rp) (hl:xs.length≤1000000000) (ha:eK xs≤1000000000):g38 n p0 (M xs)=some (enc (eS xs),()):=by
 have hB:(4611686018427387904:Nat)≤n:=hn
 have key:∀(d i m:Nat),xs.length - i=d→i≤xs.length→d < m→g38_3L n (fun a b c=>xX n (fun v4=>@some (DenR yD) (v4,())) a b c) m (bB (enc (eS (xs.take i)))) 0 0 (M xs) ((M xs).length:Int) (i:Int)=some (enc (eS xs),()):=by
  intro d
  have hlm:(M xs).length=xs.length:=tR xs
  induction d with
  | zero=>
   intro i m hd hi hm
   obtain ⟨m,rfl⟩:∃m',m=m'+1:=⟨m - 1,by omega⟩
   rw [g38_3L.eq_2,yL,bdF (by omega),List.take_of_length_le (by omega)]
   dsimp only [xX]
   rw [pX]
   rfl
  | succ d ih=>
   intro i m hd hi hm
   obtain ⟨m,rfl⟩:∃m',m=m'+1:=⟨m - 1,by omega⟩
   have hi':i < xs.length:=by omega
   have hI:i < (M xs).length:=by omega
   have hg:(M xs)[i]=(xs[i].1,enc xs[i].2):=List.getElem_map _
   have:=ih (i+1) m (by omega) (by omega) (by omega)
   have hs:eS (xs.take (i+1))=eS (xs.take i)++(if xs[i].1=1 then [] else xs[i].2):=by
    rw [List.take_succ_eq_append_getElem hi',gS];simp [eS]
   have hsz1:=cB (eS (xs.take i))
   have hsz2:=cB xs[i].2
   have hq1:=rA (xs.take i)
   have hq2:=hJ xs i
   have hq3:=gJ (List.getElem_mem hi')
   rw [g38_3L.eq_2,yL,bdT (by omega),gL (by omega) (by omega)]
   simp only [gT,nQ hI,hg]
   rw [hs] at this
   have hw:w64 ((i:Int)+1)=((i+1:Nat):Int):=by rw [iK (by omega) (by omega)];omega
   rw [hw]
   by_cases h:xs[i].1=1
   ·rw [if_pos h,List.append_nil] at this
    rw [biF (by show (xs[i].1 !=1)=false;simp [h])]
    exact this
   ·rw [if_neg h,fJ] at this
    rw [biT (by show (xs[i].1 !=1)=true;simp [h])]
    exact (dU (uO n _ _ (by omega))).trans this
 dsimp only [g38,yF,AC,BW,GC]
 have:=key xs.length 0 n (by omega) (Nat.zero_le _) (by omega)
 exact this
theorem FZ (n:Nat) (hn:Big≤n) (p0) (xs:List Rp) (hl:xs.length≤1000000000) (ha:eK xs≤1000000000):g40 n p0 (M xs)=some (enc (eR xs),()):=by
 have hB:(4611686018427387904:Nat)≤n:=hn
 have key:∀(d i m:Nat),xs.length - i=d→i≤xs.length→d < m→g40_3L n (fun a b c=>xW n (fun v4=>@some (DenR yC) (v4,())) a b c) m (bB (enc (eR (xs.take i)))) 0 0 (M xs) ((M xs).length:Int) (i:Int)=some (enc (eR xs),()):=by
  intro d
  have hlm:(M xs).length=xs.length:=tR xs
  induction d with
  | zero=>
   intro i m hd hi hm
   obtain ⟨m,rfl⟩:∃m',m=m'+1:=⟨m - 1,by omega⟩
   rw [g40_3L.eq_2,xF,bdF (by omega),List.take_of_length_le (by omega)]
   dsimp only [xW]
   rw [pX]
   rfl
  | succ d ih=>
   intro i m hd hi hm
   obtain ⟨m,rfl⟩:∃m',m=m'+1:=⟨m - 1,by omega⟩
   have hi':i < xs.length:=by omega
   have hI:i < (M xs).length:=by omega
   have hg:(M xs)[i]=(xs[i].1,enc xs[i].2):=List.getElem_map _
   have:=ih (i+1) m (by omega) (by omega) (by omega)
   have hs:eR (xs.take (i+1))=eR (xs.take i)++(if xs[i].1= -1 then [] else xs[i].2):=by
    rw [List.take_succ_eq_append_getElem hi',gN];simp [eR]
   have hsz1:=cB (eR (xs.take i))
   have hsz2:=cB xs[i].2
   have hq1:=qZ (xs.take i)
   have hq2:=hJ xs i
   have hq3:=gJ (List.getElem_mem hi')
   rw [g40_3L.eq_2,xF,bdT (by omega),gL (by omega) (by omega)]
   simp only [gT,nQ hI,hg]
   rw [hs] at this
   have hw:w64 ((i:Int)+1)=((i+1:Nat):Int):=by rw [iK (by omega) (by omega)];omega
   rw [hw]
   by_cases h:xs[i].1= -1
   ·rw [if_pos h,List.append_nil] at this
    rw [biF (by show (xs[i].1 != -1)=false;simp [h])]
    exact this
   ·rw [if_neg h,fJ] at this
    rw [biT (by show (xs[i].1 != -1)=true;simp [h])]
    exact (dU (uO n _ _ (by omega))).trans this
 dsimp only [g40,xP,zZ,CP,GQ]
 have:=key xs.length 0 n (by omega) (Nat.zero_le _) (by omega)
 exact this
end Go.Proofs.YtoafkjeamgelgaaDoorHF
