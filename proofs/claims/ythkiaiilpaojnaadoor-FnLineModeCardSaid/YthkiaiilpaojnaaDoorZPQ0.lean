/- Plain statements about the printed functions. -/
import Derived.Test.YthkiaiilpaojnaaDoorZFB
import Derived.Test.YthkiaiilpaojnaaDoorZGA0
import Derived.Test.YthkiaiilpaojnaaDoorZGA2
namespace Go.Proofs.YthkiaiilpaojnaaDoorZF
open Go
set_option linter.unusedVariables false
set_option linter.unusedSimpArgs false
def Big:Nat:=4611686018427387904
section
variable {β:Type}
theorem aG {n:Int} (h0: -9223372036854775808≤n) (h1:n < 9223372036854775808):w64 n=n:=by
 unfold w64 IntKind.wrap;simp [IntKind.bits,IntKind.signed];omega
theorem dY9 {n:Int} (h0:0≤n) (h1:n < 256):IntKind.u8.wrap n=n:=by
 unfold IntKind.wrap;simp [IntKind.bits,IntKind.signed];omega
theorem eI0 {n:Int} (h0: -2147483648≤n) (h1:n < 2147483648):IntKind.i32.wrap n=n:=by
 unfold IntKind.wrap;simp [IntKind.bits,IntKind.signed];omega
theorem gM {n:Int} (h0:0≤n) (h1:n < 4294967296):IntKind.u32.wrap n=n:=by
 unfold IntKind.wrap;simp [IntKind.bits,IntKind.signed];omega
theorem aP {i n:Int} {κ:Option β} (h0:0≤i) (h1:i < n):idx i n κ=κ:=by simp [idx,h0,h1]
theorem bF {a b n:Int} {κ:Option β} (h0:0≤a) (h1:a≤b) (h2:b≤n):bnd a b n κ=κ:=by simp [bnd,h0,h1,h2]
theorem cA {n:Nat} {κ:Option β} (h:n≤1099511627776):cM n κ=κ:=by simp [cM,h]
theorem sD {n:Int} {κ:Option β} (h:n≤1099511627776):vN n κ=κ:=by simp [vN,h]
theorem fS {z:BA} {κ:Option β} (h:z.size≤70368744177664):kQ z κ=κ:=by
 have:Nat.ble z.size 70368744177664=true:=by rw [Nat.ble_eq];exact h
 simp [kQ,this]
theorem bG1 {b:Int} {κ:Option β} (h:0≤b):eJ0 b κ=κ:=by
 have:¬b < 0:=by omega
 simp [eJ0,this]
theorem biT {γ:Type} {c:Bool} {x y:γ} (h:c=true):(bif c then x else y)=x:=by rw [h];rfl
theorem biF {γ:Type} {c:Bool} {x y:γ} (h:c=false):(bif c then x else y)=y:=by rw [h];rfl
theorem bdT {γ:Type} {p:Prop} [Decidable p] {x y:γ} (h:p):(bif decide p then x else y)=x:=by rw [decide_eq_true h];rfl
theorem bdF {γ:Type} {p:Prop} [Decidable p] {x y:γ} (h:¬p):(bif decide p then x else y)=y:=by rw [decide_eq_false h];rfl
theorem aW {γ δ:Type} {o:Option γ} {a:γ} {f:γ→Option δ} (h:o=some a):o.bind f=f a:=by rw [h];rfl
end
theorem uU {α:Type} {xs:List α} {i:Int} {d:α} (h0:0≤i) (h1:i < xs.length):rd xs i d=xs[i.toNat]'(by omega):=by
 unfold rd;rw [List.getD_eq_getElem?_getD,List.getElem?_eq_getElem (by omega)];rfl
theorem lW {α:Type} {xs:List α} {n:Nat} {d:α}:rd xs (n:Int) d=xs.getD n d:=by simp [rd]
theorem eE1 {α:Type} (xs:List α) (a b:Nat):cut xs (a:Int) (b:Int)=(xs.drop a).take (b - a):=by simp [cut]
theorem eQ {α:Type} (xs:List α) (a b:Int) (h:(xs.length:Int)≤b):cut xs a b=xs.drop a.toNat:=by
 unfold cut;rw [List.take_of_length_le];rw [List.length_drop];omega
theorem cP {α:Type} (xs:List α) (b:Int):cut xs 0 b=xs.take b.toNat:=by simp [cut]
theorem lZ {x y:BA} (h:x.data.toList=y.data.toList):x=y:=by
 obtain ⟨⟨x⟩⟩:=x;obtain ⟨⟨y⟩⟩:=y;simp only at h;rw [h]
theorem aN (z:BA):(aF z).length=z.size:=by unfold aF;rw [List.length_map];rfl
theorem cR {x y:BA} (h:aF x=aF y):x=y:=by
 refine lZ ?_
 unfold aF at h
 exact (List.map_inj_right (fun a b hab=>UInt8.toNat_inj.1 (by exact_mod_cast hab))).1 h
theorem dE (x y:BA):eL x y=decide (x=y):=by
 unfold eL
 have e:∀z:BA,z.toList=z.data.toList:=fun z=>by
  have key:∀(l:List UInt8) (k:Nat) (acc:List UInt8),(k≤l.length)→ByteArray.toList.loop ⟨⟨l⟩⟩ k acc=acc.reverse++l.drop k:=by
   intro l k acc hk
   induction hj:l.length - k generalizing k acc with
   | zero=>
    unfold ByteArray.toList.loop
    have:¬k < (ByteArray.mk ⟨l⟩).size:=by show ¬k < l.length;omega
    rw [if_neg this,List.drop_eq_nil_of_le (by omega)];simp
   | succ j ih=>
    unfold ByteArray.toList.loop
    have h1:k < l.length:=by omega
    have:k < (ByteArray.mk ⟨l⟩).size:=h1
    rw [if_pos this,ih (k+1) _ (by omega) (by omega)]
    have hg:(ByteArray.mk ⟨l⟩).get! k=l[k]:=by
     show (Array.mk l)[k]! =l[k]
     rw [getElem!_pos (Array.mk l) k (by simpa using h1)];simp
    rw [hg,List.drop_eq_getElem_cons h1];simp
  obtain ⟨⟨l⟩⟩:=z
  unfold ByteArray.toList
  rw [key l 0 [] (Nat.zero_le _)];simp
 rw [e,e]
 by_cases h:x=y
 ·subst h;simp
 ·simp only [h,decide_false]
  exact beq_false_of_ne (fun h'=>h (lZ h'))
theorem bL (x y:BA):aF (x++y)=aF x++aF y:=by
 unfold aF;rw [ByteArray.data_append,Array.toList_append,List.map_append]
theorem size_append (x y:BA):(x++y).size=x.size+y.size:=by rw [←aN,bL];simp [aN]
theorem bT (z:BA) (a b:Int):aF (bD z a b)=cut (aF z) a b:=by
 unfold aF bD cut
 rw [ByteArray.data_extract,←List.map_drop,←List.map_take]
 congr 1
 simp [Array.toList_extract,List.extract_eq_take_drop]
theorem mT {z:BA} {i:Int} (h0:0≤i) (h1:i < z.size):byteAt z i=rd (aF z) i 0:=by
 have hl:=aN z
 rw [uU h0 (by omega)]
 unfold byteAt aF
 rw [List.getElem_map]
 congr 2
 show z.data[i.toNat]! =_
 rw [getElem!_pos z.data i.toNat (by show i.toNat < z.size;omega)]
 simp
theorem vL {z:BA}:∀b∈aF z,0≤b∧b < 256:=by
 intro b hb
 unfold aF at hb
 obtain ⟨u,_,rfl⟩:=List.mem_map.1 hb
 have:=u.toNat_lt
 omega
theorem kP {xs:List Int} (h:∀b∈xs,0≤b∧b < 256):aF (strOfNums xs)=xs:=by
 unfold aF
 rw [strOfNums_data,List.map_map]
 refine (List.map_congr_left (fun u hu=>?_)).trans (List.map_id _)
 have:=h u hu
 simp [UInt8.toNat_ofNat']
 omega
theorem iF {z:BA} {a b:Int} (h0:0≤a) (h1:a≤b) (h2:b≤z.size):(bD z a b).size=(b - a).toNat:=by
 have hl:=aN z
 rw [←aN,bT,pW _ _ _ h1 (by omega)];omega
theorem eT0 {α:Type} {xs:List α} {a b i:Int} {d:α} (h0:0≤a) (h1:0≤i) (h2:i < b - a) (h3:b≤xs.length):rd (cut xs a b) i d=rd xs (a+i) d:=by
 unfold rd cut
 rw [List.getD_eq_getElem?_getD,List.getD_eq_getElem?_getD,List.getElem?_take,if_pos (by omega),List.getElem?_drop]
 congr 2;omega
theorem D9 {z:BA} {a b i:Int} (h0:0≤a) (h1:0≤i) (h2:i < b - a) (h3:b≤z.size):byteAt (bD z a b) i=byteAt z (a+i):=by
 have hl:=aN z
 have hs:=iF (z:=z) h0 (show a≤b by omega) h3
 rw [mT h1 (by omega),mT (by omega) (by omega),bT,eT0 h0 h1 h2 (by omega)]
theorem vP {α σ β:Type} (xs:List α) (F:Nat→σ→Nat→Option β) (k:σ→Option β) (step:σ→α→σ) (Inv:Nat→σ→Prop)
  (h1:∀m s i (hi:i < xs.length),Inv i s→F (m+1) s i=F m (step s xs[i]) (i+1)∧Inv (i+1) (step s xs[i]))
  (h2:∀m s,Inv xs.length s→F (m+1) s xs.length=k s):∀m s,xs.length < m→Inv 0 s→F m s 0=k (xs.foldl step s):=by
 have key:∀(d i m:Nat) (s:σ),xs.length - i=d→i≤xs.length→d < m→Inv i s→F m s i=k ((xs.drop i).foldl step s):=by
  intro d
  induction d with
  | zero=>
   intro i m s hd hi hm hs
   obtain ⟨m',rfl⟩:∃m',m=m'+1:=⟨m - 1,by omega⟩
   obtain rfl:i=xs.length:=by omega
   rw [h2 m' s hs,List.drop_length];rfl
  | succ d ih=>
   intro i m s hd hi hm hs
   obtain ⟨m',rfl⟩:∃m',m=m'+1:=⟨m - 1,by omega⟩
   have hl:i < xs.length:=by omega
   obtain ⟨e,hs'⟩:=h1 m' s i hl hs
   rw [e,ih (i+1) m' _ (by omega) (by omega) (by omega) hs',List.drop_eq_getElem_cons hl];rfl
 intro m s hm hs
 have:=key xs.length 0 m s (by omega) (Nat.zero_le _) hm hs
 simpa using this
theorem oE {α:Type} {xs:List α} {i:Nat} {d:α} (h:i < xs.length):rd xs (i:Int) d=xs[i]:=by
 rw [lW,List.getD_eq_getElem?_getD,List.getElem?_eq_getElem h];rfl
theorem wR {α:Type} {x d:α} {i:Int} (h:i=0):rd [x] i d=x:=by subst h;rfl
end Go.Proofs.YthkiaiilpaojnaaDoorZF
namespace Go.Proofs.YthkiaiilpaojnaaDoorZF
open Go Go.RowKit
set_option linter.unusedVariables false
set_option linter.unusedSimpArgs false
theorem eJ3 (s e u:BA) (k:Nat) (h:k < e.size):(s++e++u).get! (s.size+k)=e.get! k:=by
 have l1:s.data.size+k < s.data.size+e.data.size+u.data.size:=by have:e.size=e.data.size:=rfl;omega
 have l2:k < e.data.size:=h
 show (s++e++u).data[s.data.size+k]! =e.data[k]!
 simp only [ByteArray.data_append]
 rw [getElem!_pos (s.data++e.data++u.data) _ (by simp;omega),getElem!_pos e.data k l2,Array.getElem_append_left (by simp;omega),Array.getElem_append_right (by omega)]
 congr 1;omega
theorem b8 (n:Nat) (h:n < 256):(UInt8.ofNat n).toNat=n:=by rw [UInt8.toNat_ofNat'];omega
theorem VK (s:BA) (i a:Nat) (h0:(s.get! i).toNat=a) (ha:a < 128):Utf8.decode s i=(a,1):=by
 simp [Utf8.decode,h0,ha]
theorem aW0 (s:BA) (i a b:Nat) (h0:(s.get! i).toNat=192+a) (h1:(s.get! (i+1)).toNat=128+b) (hs:i+1 < s.size) (ha:a < 32) (hb:b < 64) (hc:128≤a * 64+b):Utf8.decode s i=(a * 64+b,2):=by
 have e1:(192+a) / 32=6:=by omega
 have e2:(192+a) % 32=a:=by omega
 have e3:(128+b) / 64=2:=by omega
 have e4:(128+b) % 64=b:=by omega
 have n1:¬(192+a < 128):=by omega
 simp [Utf8.decode,h0,h1,e1,e2,e3,e4,hs,n1,hc]
theorem OS (s:BA) (i a b c:Nat) (h0:(s.get! i).toNat=224+a) (h1:(s.get! (i+1)).toNat=128+b) (h2:(s.get! (i+2)).toNat=128+c) (hs:i+2 < s.size) (ha:a < 16) (hb:b < 64) (hc:c < 64) (hv:2048≤a * 4096+b * 64+c) (hw:Utf8.valid ((a * 4096+b * 64+c:Nat):Int)=true):Utf8.decode s i=(a * 4096+b * 64+c,3):=by
 have e0:(224+a) / 32=7:=by omega
 have e1:(224+a) / 16=14:=by omega
 have e2:(224+a) % 16=a:=by omega
 have e3:(128+b) / 64=2:=by omega
 have e4:(128+b) % 64=b:=by omega
 have e5:(128+c) / 64=2:=by omega
 have e6:(128+c) % 64=c:=by omega
 have n1:¬(224+a < 128):=by omega
 have s1:i+1 < s.size:=by omega
 simp [Utf8.decode,h0,h1,h2,e0,e1,e2,e3,e4,e5,e6,hs,s1,n1,hv]
 simpa using hw
theorem F7 (s:BA) (i a b c d:Nat) (h0:(s.get! i).toNat=240+a) (h1:(s.get! (i+1)).toNat=128+b) (h2:(s.get! (i+2)).toNat=128+c) (h3:(s.get! (i+3)).toNat=128+d) (hs:i+3 < s.size) (ha:a < 8) (hb:b < 64) (hc:c < 64) (hd:d < 64) (hv:65536≤a * 262144+b * 4096+c * 64+d) (hw:Utf8.valid ((a * 262144+b * 4096+c * 64+d:Nat):Int)=true):Utf8.decode s i=(a * 262144+b * 4096+c * 64+d,4):=by
 have e0:(240+a) / 32=7:=by omega
 have e1:(240+a) / 16=15:=by omega
 have e1':(240+a) / 8=30:=by omega
 have e2:(240+a) % 8=a:=by omega
 have e3:(128+b) / 64=2:=by omega
 have e4:(128+b) % 64=b:=by omega
 have e5:(128+c) / 64=2:=by omega
 have e6:(128+c) % 64=c:=by omega
 have e7:(128+d) / 64=2:=by omega
 have e8:(128+d) % 64=d:=by omega
 have n1:¬(240+a < 128):=by omega
 have s1:i+1 < s.size:=by omega
 have s2:i+2 < s.size:=by omega
 simp [Utf8.decode,h0,h1,h2,h3,e0,e1,e1',e2,e3,e4,e5,e6,e7,e8,hs,s1,s2,n1,hv]
 simpa using hw
theorem oK (s u:BA) (r:Int) (hv:Utf8.valid r=true):Utf8.decode (s++Utf8.encode r++u) s.size=(r.toNat,(Utf8.encode r).size):=by
 have hr:0≤r∧r≤1114111:=by simp [Utf8.valid] at hv;omega
 have sz:∀e:BA,(s++e++u).size=s.size+e.size+u.size:=by intro e;simp [ByteArray.size_append]
 have g:∀(e:BA) (k:Nat),k < e.size→∀i,i=s.size+k→(s++e++u).get! i=e.get! k:=by intro e k h i hi;rw [hi];exact eJ3 s e u k h
 by_cases h1:r.toNat < 128
 ·have e:Utf8.encode r=⟨#[UInt8.ofNat r.toNat]⟩:=by simp [Utf8.encode,hv,h1]
  rw [e]
  refine VK _ _ _ ?_ h1
  refine (congrArg UInt8.toNat (g ⟨#[_]⟩ 0 (show 0 < 1 by decide) _ rfl)).trans ?_
  exact b8 _ (by omega)
 by_cases h2:r.toNat < 2048
 ·have e:Utf8.encode r=⟨#[UInt8.ofNat (192+r.toNat / 64),UInt8.ofNat (128+r.toNat % 64)]⟩:=by simp [Utf8.encode,hv,h1,h2]
  rw [e]
  refine (aW0 _ _ (r.toNat / 64) (r.toNat % 64) ?_ ?_ ?_ (by omega) (by omega) (by omega)).trans ?_
  ·exact (congrArg UInt8.toNat (g ⟨#[_,_]⟩ 0 (show 0 < 2 by decide) _ rfl)).trans (b8 _ (by omega))
  ·exact (congrArg UInt8.toNat (g ⟨#[_,_]⟩ 1 (show 1 < 2 by decide) _ rfl)).trans (b8 _ (by omega))
  ·rw [sz];show s.size+1 < s.size+2+u.size;omega
  ·congr 1;omega
 by_cases h3:r.toNat < 65536
 ·have e:Utf8.encode r=⟨#[UInt8.ofNat (224+r.toNat / 4096),UInt8.ofNat (128+r.toNat / 64 % 64),UInt8.ofNat (128+r.toNat % 64)]⟩:=by simp [Utf8.encode,hv,h1,h2,h3]
  have q:r.toNat / 4096 * 4096+r.toNat / 64 % 64 * 64+r.toNat % 64=r.toNat:=by omega
  rw [e]
  refine (OS _ _ (r.toNat / 4096) (r.toNat / 64 % 64) (r.toNat % 64) ?_ ?_ ?_ ?_ (by omega) (by omega) (by omega) (by omega) ?_).trans ?_
  ·exact (congrArg UInt8.toNat (g ⟨#[_,_,_]⟩ 0 (show 0 < 3 by decide) _ rfl)).trans (b8 _ (by omega))
  ·exact (congrArg UInt8.toNat (g ⟨#[_,_,_]⟩ 1 (show 1 < 3 by decide) _ rfl)).trans (b8 _ (by omega))
  ·exact (congrArg UInt8.toNat (g ⟨#[_,_,_]⟩ 2 (show 2 < 3 by decide) _ rfl)).trans (b8 _ (by omega))
  ·rw [sz];show s.size+2 < s.size+3+u.size;omega
  ·rw [q,Int.toNat_of_nonneg hr.1];exact hv
  ·rw [q];rfl
 ·have e:Utf8.encode r=⟨#[UInt8.ofNat (240+r.toNat / 262144),UInt8.ofNat (128+r.toNat / 4096 % 64),UInt8.ofNat (128+r.toNat / 64 % 64),UInt8.ofNat (128+r.toNat % 64)]⟩:=by simp [Utf8.encode,hv,h1,h2,h3]
  have q:r.toNat / 262144 * 262144+r.toNat / 4096 % 64 * 4096+r.toNat / 64 % 64 * 64+r.toNat % 64=r.toNat:=by omega
  rw [e]
  refine (F7 _ _ (r.toNat / 262144) (r.toNat / 4096 % 64) (r.toNat / 64 % 64) (r.toNat % 64) ?_ ?_ ?_ ?_ ?_ (by omega) (by omega) (by omega) (by omega) (by omega) ?_).trans ?_
  ·exact (congrArg UInt8.toNat (g ⟨#[_,_,_,_]⟩ 0 (show 0 < 4 by decide) _ rfl)).trans (b8 _ (by omega))
  ·exact (congrArg UInt8.toNat (g ⟨#[_,_,_,_]⟩ 1 (show 1 < 4 by decide) _ rfl)).trans (b8 _ (by omega))
  ·exact (congrArg UInt8.toNat (g ⟨#[_,_,_,_]⟩ 2 (show 2 < 4 by decide) _ rfl)).trans (b8 _ (by omega))
  ·exact (congrArg UInt8.toNat (g ⟨#[_,_,_,_]⟩ 3 (show 3 < 4 by decide) _ rfl)).trans (b8 _ (by omega))
  ·rw [sz];show s.size+3 < s.size+4+u.size;omega
  ·rw [q,Int.toNat_of_nonneg hr.1];exact hv
  ·rw [q];rfl
theorem lH (r:Int):1≤(Utf8.encode r).size:=by
 unfold Utf8.encode
 simp only
 repeat' split
 all_goals simp [ByteArray.size]
theorem PD (ns:List Int):∀s:BA,ns.foldl (fun r n=>r++Utf8.encode n) s=s++runesBytes ns:=by
 induction ns with
 | nil=>intro s;simp [runesBytes]
 | cons n ns ih=>
  intro s
  unfold runesBytes
  simp only [List.foldl_cons]
  rw [ih,ih (ByteArray.empty++_)]
  simp [ByteArray.append_assoc]
theorem jM (n:Int) (ns:List Int):runesBytes (n::ns)=Utf8.encode n++runesBytes ns:=by
 conv=>lhs;unfold runesBytes
 rw [List.foldl_cons,PD];simp
theorem wV (x y:List Int):runesBytes (x++y)=runesBytes x++runesBytes y:=by
 conv=>lhs;unfold runesBytes
 rw [List.foldl_append,PD];rfl
def Valids (xs:List Int):Prop:=∀x∈xs,Utf8.valid x=true
theorem xP:∀(xs:List Int) (s:BA) (b:Nat),Valids xs→(runesBytes xs).size≤b→hK (s++runesBytes xs) b s.size=xs
 | [],s,b,_,_=>by
  cases b with
  | zero=>rfl
  | succ b=>unfold hK;rw [if_neg];simp [runesBytes]
 | x::xs,s,b,hv,hb=>by
  have hp:=lH x
  rw [jM] at hb ⊢
  rw [ByteArray.size_append] at hb
  obtain ⟨b,rfl⟩:∃b',b=b'+1:=⟨b - 1,by omega⟩
  have hx:Utf8.valid x=true:=hv x (by simp)
  have hr:0≤x:=by simp [Utf8.valid] at hx;omega
  unfold hK
  rw [if_pos (by simp [ByteArray.size_append];omega),←ByteArray.append_assoc,oK s (runesBytes xs) x hx]
  have e:s.size+(Utf8.encode x).size=(s++Utf8.encode x).size:=by rw [ByteArray.size_append]
  show ((x.toNat:Nat):Int)::hK _ b (s.size+(Utf8.encode x).size)=_
  rw [e,xP xs (s++Utf8.encode x) b (fun y hy=>hv y (by simp [hy])) (by omega)]
  rw [Int.toNat_of_nonneg hr]
theorem nH (xs:List Int) (h:Valids xs):bS (runesBytes xs)=xs:=by
 have:=xP xs ByteArray.empty (runesBytes xs).size h (Nat.le_refl _)
 simpa [bS] using this
theorem rO {x y:List Int} (hx:Valids x) (hy:Valids y) (h:runesBytes x=runesBytes y):x=y:=by
 rw [←nH x hx,←nH y hy,h]
theorem WJ (s:BA) (i:Nat):Utf8.valid ((Utf8.decode s i).1:Int)=true:=by
 unfold Utf8.decode
 simp only [Nat.add_zero]
 split
 ·rename_i h;simp [Utf8.valid];omega
 split
 ·split
  ·rename_i h1 h2;simp only [Utf8.valid];simp;omega
  ·decide
 split
 ·split
  ·rename_i h1 h2;simp at h2;exact h2.2
  ·decide
 split
 ·split
  ·rename_i h1 h2;simp at h2;exact h2.2
  ·decide
 ·decide
theorem vJ (s:BA):∀b i,Valids (hK s b i)
 | 0,_=>by intro x hx;simp [hK] at hx
 | b+1,i=>by
  intro x hx
  unfold hK at hx
  split at hx
  ·rcases List.mem_cons.1 hx with rfl | hx
   ·exact WJ s i
   ·exact vJ s b _ x hx
  ·simp at hx
theorem uZ (s:BA):Valids (bS s):=vJ s _ _
theorem Valids.take {x:List Int} (h:Valids x) (n:Nat):Valids (x.take n):=fun y hy=>h y (List.mem_of_mem_take hy)
theorem Valids.drop {x:List Int} (h:Valids x) (n:Nat):Valids (x.drop n):=fun y hy=>h y (List.mem_of_mem_drop hy)
theorem Valids.append {x y:List Int} (h:Valids x) (k:Valids y):Valids (x++y):=fun z hz=>(List.mem_append.1 hz).elim (h z) (k z)
end Go.Proofs.YthkiaiilpaojnaaDoorZF
namespace Go.Proofs.YthkiaiilpaojnaaDoorZF
open Go
set_option linter.unusedVariables false
set_option linter.unusedSimpArgs false
def bl (z:BA):List UInt8:=z.data.toList
theorem dB (x y:BA):bl (x++y)=bl x++bl y:=by unfold bl;rw [ByteArray.data_append,Array.toList_append]
theorem lA (z:BA):(bl z).length=z.size:=rfl
theorem jD {x y:BA} (h:bl x=bl y):x=y:=lZ h
def iV (b:UInt8):Prop:=128≤b.toNat∧b.toNat < 192
theorem pP (r:Int):∃f t,bl (Utf8.encode r)=f::t∧¬iV f∧∀b∈t,iV b:=by
 have tn:∀n:Nat,n < 256→(UInt8.ofNat n).toNat=n:=fun n h=>by rw [UInt8.toNat_ofNat'];omega
 have hc:(if Utf8.valid r then r.toNat else Utf8.runeError) < 1114112:=by
  split
  ·rename_i h
   unfold Utf8.valid at h
   simp at h
   omega
  ·decide
 unfold Utf8.encode
 simp only
 generalize (if Utf8.valid r then r.toNat else Utf8.runeError)=n at hc ⊢
 by_cases h1:n < 0x80
 ·rw [if_pos h1]
  exact ⟨UInt8.ofNat n,[],rfl,by unfold iV;rw [tn n (by omega)];omega,by simp⟩
 ·rw [if_neg h1]
  by_cases h2:n < 0x800
  ·rw [if_pos h2]
   refine ⟨UInt8.ofNat (0xC0+n / 64),[UInt8.ofNat (0x80+n % 64)],rfl,by unfold iV;rw [tn _ (by omega)];omega,?_⟩
   intro b hb
   simp only [List.mem_cons,List.not_mem_nil,or_false] at hb
   subst hb
   unfold iV;rw [tn _ (by omega)];omega
  ·rw [if_neg h2]
   by_cases h3:n < 0x10000
   ·rw [if_pos h3]
    refine ⟨UInt8.ofNat (0xE0+n / 4096),[UInt8.ofNat (0x80+n / 64 % 64),UInt8.ofNat (0x80+n % 64)],rfl,by unfold iV;rw [tn _ (by omega)];omega,?_⟩
    intro b hb
    simp only [List.mem_cons,List.not_mem_nil,or_false] at hb
    rcases hb with rfl | rfl <;> (unfold iV;rw [tn _ (by omega)];omega)
   ·rw [if_neg h3]
    refine ⟨UInt8.ofNat (0xF0+n / 262144),[UInt8.ofNat (0x80+n / 4096 % 64),UInt8.ofNat (0x80+n / 64 % 64),UInt8.ofNat (0x80+n % 64)],rfl,by unfold iV;rw [tn _ (by omega)];omega,?_⟩
    intro b hb
    simp only [List.mem_cons,List.not_mem_nil,or_false] at hb
    rcases hb with rfl | rfl | rfl <;> (unfold iV;rw [tn _ (by omega)];omega)
abbrev enc (x:List Int):BA:=runesBytes x
theorem cZ (r:Int) (x:List Int):bl (enc (r::x))=bl (Utf8.encode r)++bl (enc x):=by
 show bl (runesBytes (r::x))=_
 rw [jM,dB]
theorem aX (x y:List Int):enc (x++y)=enc x++enc y:=wV x y
theorem oB:enc []=(⟨#[]⟩:BA):=rfl
theorem cD (x y:List Int):(enc (x++y)).size=(enc x).size+(enc y).size:=by rw [aX,size_append]
theorem eG (r:Int) (x:List Int):(enc (r::x)).size=(Utf8.encode r).size+(enc x).size:=by
 have:=cZ r x
 rw [←lA,this,List.length_append,lA,lA]
theorem gT:∀x:List Int,x.length≤(enc x).size
 | []=>Nat.zero_le _
 | r::x=>by
  have h1:=lH r
  have h2:=gT x
  rw [eG,List.length_cons];omega
theorem aV (x:List Int):(enc x).size≤4 * x.length:=runesBytes_size_le x
theorem enc_size_zero {x:List Int}:(enc x).size=0↔x=[]:=by
 constructor
 ·intro h
  have:=gT x
  exact List.eq_nil_of_length_eq_zero (by omega)
 ·rintro rfl;rfl
theorem eF2 {x y:List Int} (hx:Valids x) (hy:Valids y):enc x=enc y↔x=y:=⟨rO hx hy,fun h=>by rw [h]⟩
theorem gS {x:List Int} (hx:Valids x):bS (enc x)=x:=nH x hx
theorem Valids.nil:Valids []:=fun x hx=>by cases hx
theorem Valids.cons {r:Int} {x:List Int} (h:Valids (r::x)):Utf8.valid r=true∧Valids x:=⟨h r (by simp),fun y hy=>h y (by simp [hy])⟩
theorem jR (r:Int) (x:List Int) (u:BA) (hr:Utf8.valid r=true):Utf8.decode (enc (r::x)++u) 0=(r.toNat,(Utf8.encode r).size):=by
 have:=oK ByteArray.empty (enc x++u) r hr
 have e:enc (r::x)++u=ByteArray.empty++Utf8.encode r++(enc x++u):=by
  apply jD
  simp only [dB,cZ,List.append_assoc]
  rfl
 rw [e];exact this
theorem fY {r:Int} (h:Utf8.valid r=true):0≤r∧r < 1114112:=by unfold Utf8.valid at h;simp at h;omega
theorem qU:∀{a b:List Int} {u:BA},Valids a→Valids b→enc a=enc b++u→∃c,a=b++c∧u=enc c
 | a,[],u,ha,hb,h=>⟨a,rfl,by
   have:=congrArg bl h
   rw [dB] at this
   exact (jD (this.trans rfl)).symm⟩
 | [],r::b,u,ha,hb,h=>by
  have:=congrArg bl h
  obtain ⟨f,t,h1,_⟩:=pP r
  rw [dB,cZ,h1] at this
  cases this
 | s::a,r::b,u,ha,hb,h=>by
  have h1:=jR s a ByteArray.empty ha.cons.1
  have h2:=jR r b u hb.cons.1
  have e:enc (s::a)++ByteArray.empty=enc (s::a):=by apply jD;rw [dB];show _++[]=_;simp
  rw [e,h] at h1
  rw [h1] at h2
  have hs:=fY ha.cons.1
  have hr:=fY hb.cons.1
  have hsr:s=r:=by have:=(Prod.mk.inj h2).1;omega
  subst hsr
  have h3:enc a=enc b++u:=by
   have:=congrArg bl h
   rw [dB,cZ,cZ,List.append_assoc] at this
   have:=List.append_cancel_left this
   exact jD (this.trans (dB _ _).symm)
  obtain ⟨c,hc,hu⟩:=qU ha.cons.2 hb.cons.2 h3
  exact ⟨c,by rw [hc];rfl,hu⟩
theorem yH:∀{a:List Int} {u v:BA},enc a=u++v→(∀f t,bl v=f::t→¬iV f)→∃b c,a=b++c∧u=enc b∧v=enc c
 | [],u,v,h,hv=>by
  have:=congrArg bl h
  rw [dB] at this
  have h1:bl u=[]∧bl v=[]:=by
   have:bl u++bl v=[]:=this.symm.trans rfl
   simpa using this
  exact ⟨[],[],rfl,jD (h1.1.trans rfl),jD (h1.2.trans rfl)⟩
 | r::a,u,v,h,hv=>by
  by_cases hu:bl u=[]
  ·refine ⟨[],r::a,rfl,jD (hu.trans rfl),?_⟩
   apply jD
   have:=congrArg bl h
   rw [dB,hu] at this
   exact this.symm
  ·have hh:=congrArg bl h
   rw [dB,cZ] at hh
   obtain ⟨f,t,h1,h2,h3⟩:=pP r
   rcases List.append_eq_append_iff.1 hh with ⟨w,hw1,hw2⟩ | ⟨w,hw1,hw2⟩
   ·
    obtain ⟨b,c,e1,e2,e3⟩:=yH (a:=a) (u:=⟨⟨w⟩⟩) (v:=v) (by apply jD;rw [dB];exact hw2) hv
    refine ⟨r::b,c,by rw [e1];rfl,?_,e3⟩
    apply jD
    rw [hw1,cZ,←e2];rfl
   ·cases w with
    | nil=>
     obtain ⟨b,c,e1,e2,e3⟩:=yH (a:=a) (u:=⟨⟨[]⟩⟩) (v:=v) (by apply jD;rw [dB];exact hw2.symm) hv
     refine ⟨r::b,c,by rw [e1];rfl,?_,e3⟩
     apply jD
     rw [cZ,←e2,hw1,List.append_nil]
     show bl u=bl u++[]
     simp
    | cons x w=>
     exfalso
     have hx:=hv x (w++bl (enc a)) hw2
     rw [h1] at hw1
     cases hbu:bl u with
     | nil=>exact hu hbu
     | cons y l=>
      rw [hbu] at hw1
      simp only [List.cons_append,List.cons.injEq] at hw1
      exact hx (h3 x (by rw [hw1.2];simp))
theorem zB {a b:List Int} {u:BA} (ha:Valids a) (hb:Valids b) (h:enc a=u++enc b):∃c,a=c++b∧u=enc c:=by
 obtain ⟨c,d,h1,h2,h3⟩:=yH h (fun f t hf=>by
  cases b with
  | nil=>cases (show ([]:List UInt8)=f::t from hf)
  | cons r b=>
   obtain ⟨f',t',g1,g2,_⟩:=pP r
   rw [cZ,g1] at hf
   simp only [List.cons_append,List.cons.injEq] at hf
   rw [←hf.1];exact g2)
 subst h1
 have:b=d:=rO hb (fun x hx=>ha x (by simp [hx])) h3
 subst this
 exact ⟨c,rfl,h2⟩
theorem cV (x y:BA):bD (x++y) 0 (x.size:Int)=x:=by
 apply cR
 rw [bT,bL,cP]
 simp [←aN]
theorem dO (x y:BA):bD (x++y) (x.size:Int) ((x++y).size:Int)=y:=by
 apply cR
 rw [bT,bL,eQ _ _ _ (by rw [←aN,bL];simp)]
 simp [←aN]
theorem dF0 (x:BA):bD x 0 (x.size:Int)=x:=by
 apply cR
 rw [bT,cP]
 simp [←aN]
theorem bT0 {x y:List Int} (hx:Valids x) (hy:Valids y):eL (enc x) (enc y)=decide (x=y):=by
 rw [dE];congr 1;exact propext (eF2 hx hy)
@[reducible] def Prt:=Int×BA
@[reducible] def Rp:=Int×List Int
def emb (d:Rp):Prt:=(d.1,enc d.2)
def OkR (d:Rp):Prop:=(d.1= -1∨d.1=0∨d.1=1)∧Valids d.2
theorem L3 (n:Nat) (a:BA) (m:Nat) (h:a.size≤70368744177664):g32 n a (m:Int)=some (enc ((bS a).take m),()):=by
 have hl:=sS a
 dsimp only [g32,cY9,g15,dO2]
 rw [fS h,Option.bind_some]
 have e:MR ((bS a).length:Int) (m:Int)=((min (bS a).length m:Nat):Int):=by unfold MR;split <;> omega
 dsimp only
 rw [e,bF (by omega) (by omega) (by omega),cP]
 congr 3
 rw [show (0+(((min (bS a).length m:Nat):Int) - 0)).toNat=min (bS a).length m by omega,Nat.min_comm,List.take_eq_take_iff]
 omega
theorem eC2 (n:Nat) (hn:Big≤n) (xs:List Rp) (hl:xs.length≤1000000) (ho:∀y∈xs,OkR y):g45 n (xs.map emb)=some (xs.map emb,()):=by
 have hB:(4611686018427387904:Nat)≤n:=hn
 dsimp only [g45,bA2,dY3,dO9,dK6,dW5]
 have e:=vP (xs.map emb) (fun m s i=>g45_3L n (fun x4=>some (x4,())) m s (xs.map emb) ((xs.map emb).length:Int) (i:Int)) (fun s=>some (s,())) (fun s x=>s++[x]) (fun i s=>s.length=i)
  (fun m s i hi hs=>by
   have hi':i < xs.length:=by simpa using hi
   refine ⟨?_,by simp [hs]⟩
   have hlm:(xs.map emb).length=xs.length:=List.length_map _
   have hop:=(ho xs[i] (by simp)).1
   have hg:(xs.map emb)[i]=emb xs[i]:=List.getElem_map _
   rw [g45_3L.eq_2,aX2,bdT (by omega),aP (by omega) (by omega)]
   simp only [oE hi,wR rfl]
   have hw:w64 (emb xs[i]).1=(emb xs[i]).1:=aG (by show _≤xs[i].1;omega) (by show xs[i].1 < _;omega)
   rw [hg,hw,cA (by simp only [List.length_cons,List.length_nil];omega),aG (by omega) (by omega)]
   rfl)
  (fun m s hs=>by rw [g45_3L.eq_2,aX2,bdF (by omega)]) n [] (by simp;omega) rfl
 refine Eq.trans e ?_
 have hf:∀(l:List Prt) (s:List Prt),l.foldl (fun s x=>s++[x]) s=s++l:=by
  intro l
  induction l with
  | nil=>intro s;simp
  | cons x l ih=>intro s;rw [List.foldl_cons,ih];simp
 rw [hf];rfl
def bQ:List Rp→List Int
 | []=>[]
 | d::l=>(if d.1=1 then [] else d.2)++bQ l
def bP:List Rp→List Int
 | []=>[]
 | d::l=>(if d.1= -1 then [] else d.2)++bP l
def edR:List Rp→Nat
 | []=>0
 | d::l=>(if d.1=0 then 0 else d.2.length)+edR l
theorem bI:∀x y,bQ (x++y)=bQ x++bQ y
 | [],y=>rfl
 | d::x,y=>by simp [bQ,bI x y]
theorem bH:∀x y,bP (x++y)=bP x++bP y
 | [],y=>rfl
 | d::x,y=>by simp [bP,bH x y]
theorem dH:∀x y,edR (x++y)=edR x+edR y
 | [],y=>by simp [edR]
 | d::x,y=>by simp [edR,dH x y];omega
def cT (l:List Rp):Nat:=(l.map fun d=>d.2.length).sum
theorem iY:cT []=0:=rfl
theorem cE (d:Rp) (l:List Rp):cT (d::l)=d.2.length+cT l:=by simp [cT]
theorem dV (x y:List Rp):cT (x++y)=cT x+cT y:=by simp [cT]
theorem lT {d:Rp}:∀{l:List Rp},d∈l→d.2.length≤cT l
 | e::l,h=>by
  rw [cE]
  rcases List.mem_cons.1 h with rfl | h
  ·omega
  ·have:=lT h;omega
theorem tQ (l:List Rp) (i:Nat):cT (l.take i)≤cT l:=by
 have:=dV (l.take i) (l.drop i)
 rw [List.take_append_drop] at this;omega
theorem KM:∀{l:List Rp},(∀y∈l,OkR y)→Valids (bQ l)
 | [],_=>Valids.nil
 | d::l,h=>by
  unfold bQ
  refine Valids.append ?_ (KM fun y hy=>h y (by simp [hy]))
  split
  ·exact Valids.nil
  ·exact (h d (by simp)).2
theorem MF:∀{l:List Rp},(∀y∈l,OkR y)→Valids (bP l)
 | [],_=>Valids.nil
 | d::l,h=>by
  unfold bP
  refine Valids.append ?_ (MF fun y hy=>h y (by simp [hy]))
  split
  ·exact Valids.nil
  ·exact (h d (by simp)).2
theorem zP:∀l:List Rp,(bQ l).length≤cT l
 | []=>Nat.le_refl _
 | d::l=>by have:=zP l;rw [cE];unfold bQ;split <;> simp <;> omega
theorem AW:∀l:List Rp,(bP l).length≤cT l
 | []=>Nat.le_refl _
 | d::l=>by have:=AW l;rw [cE];unfold bP;split <;> simp <;> omega
theorem IR:∀l:List Rp,edR l≤cT l
 | []=>Nat.le_refl _
 | d::l=>by have:=IR l;rw [cE];unfold edR;split <;> omega
theorem bV8 (n:Nat) (hn:Big≤n) (xs:List Rp) (hl:xs.length≤1000000000) (ha:cT xs≤1000000000):g34 n (xs.map emb)=some (enc (bQ xs),()):=by
 have hB:(4611686018427387904:Nat)≤n:=hn
 have key:∀(d i m:Nat),xs.length - i=d→i≤xs.length→d < m→g34_3L n (fun x=>some (x,())) m (enc (bQ (xs.take i))) (xs.map emb) ((xs.map emb).length:Int) (i:Int)=some (enc (bQ xs),()):=by
  intro d
  have hlm:(xs.map emb).length=xs.length:=List.length_map _
  induction d with
  | zero=>
   intro i m hd hi hm
   obtain ⟨m,rfl⟩:∃m',m=m'+1:=⟨m - 1,by omega⟩
   rw [g34_3L.eq_2,bC8,bdF (by omega),List.take_of_length_le (by omega)]
  | succ d ih=>
   intro i m hd hi hm
   obtain ⟨m,rfl⟩:∃m',m=m'+1:=⟨m - 1,by omega⟩
   have hi':i < xs.length:=by omega
   have hI:i < (xs.map emb).length:=by omega
   have:=ih (i+1) m (by omega) (by omega) (by omega)
   have hs:bQ (xs.take (i+1))=bQ (xs.take i)++(if xs[i].1=1 then [] else xs[i].2):=by
    rw [List.take_succ_eq_append_getElem hi',bI];simp [bQ]
   have hsz1:=aV (bQ (xs.take i))
   have hsz2:=aV xs[i].2
   have hq1:=zP (xs.take i)
   have hq2:=tQ xs i
   have hq3:=lT (List.getElem_mem hi')
   rw [g34_3L.eq_2,bC8,bdT (by omega),aP (by omega) (by omega)]
   simp only [oE hI,wR rfl,List.getElem_map]
   rw [hs] at this
   have hw:w64 ((i:Int)+1)=((i+1:Nat):Int):=by rw [aG (by omega) (by omega)];omega
   rw [hw]
   by_cases h:xs[i].1=1
   ·rw [if_pos h,List.append_nil] at this
    rw [biF (by show (xs[i].1 !=1)=false;simp [h])]
    exact this
   ·rw [if_neg h,aX] at this
    rw [biT (by show (xs[i].1 !=1)=true;simp [h]),cA (by show _+(enc xs[i].2).size≤_;omega)]
    exact this
 have:=key xs.length 0 n (by omega) (Nat.zero_le _) (by omega)
 exact this
theorem bZ5 (n:Nat) (hn:Big≤n) (xs:List Rp) (hl:xs.length≤1000000000) (ha:cT xs≤1000000000):g35 n (xs.map emb)=some (enc (bP xs),()):=by
 have hB:(4611686018427387904:Nat)≤n:=hn
 have key:∀(d i m:Nat),xs.length - i=d→i≤xs.length→d < m→g35_3L n (fun x=>some (x,())) m (enc (bP (xs.take i))) (xs.map emb) ((xs.map emb).length:Int) (i:Int)=some (enc (bP xs),()):=by
  intro d
  have hlm:(xs.map emb).length=xs.length:=List.length_map _
  induction d with
  | zero=>
   intro i m hd hi hm
   obtain ⟨m,rfl⟩:∃m',m=m'+1:=⟨m - 1,by omega⟩
   rw [g35_3L.eq_2,aY8,bdF (by omega),List.take_of_length_le (by omega)]
  | succ d ih=>
   intro i m hd hi hm
   obtain ⟨m,rfl⟩:∃m',m=m'+1:=⟨m - 1,by omega⟩
   have hi':i < xs.length:=by omega
   have hI:i < (xs.map emb).length:=by omega
   have:=ih (i+1) m (by omega) (by omega) (by omega)
   have hs:bP (xs.take (i+1))=bP (xs.take i)++(if xs[i].1= -1 then [] else xs[i].2):=by
    rw [List.take_succ_eq_append_getElem hi',bH];simp [bP]
   have hsz1:=aV (bP (xs.take i))
   have hsz2:=aV xs[i].2
   have hq1:=AW (xs.take i)
   have hq2:=tQ xs i
   have hq3:=lT (List.getElem_mem hi')
   rw [g35_3L.eq_2,aY8,bdT (by omega),aP (by omega) (by omega)]
   simp only [oE hI,wR rfl,List.getElem_map]
   rw [hs] at this
   have hw:w64 ((i:Int)+1)=((i+1:Nat):Int):=by rw [aG (by omega) (by omega)];omega
   rw [hw]
   by_cases h:xs[i].1= -1
   ·rw [if_pos h,List.append_nil] at this
    rw [biF (by show (xs[i].1 != -1)=false;simp [h])]
    exact this
   ·rw [if_neg h,aX] at this
    rw [biT (by show (xs[i].1 != -1)=true;simp [h]),cA (by show _+(enc xs[i].2).size≤_;omega)]
    exact this
 have:=key xs.length 0 n (by omega) (Nat.zero_le _) (by omega)
 exact this
def cpl:List Int→List Int→Nat
 | a::x,b::y=>if a=b then cpl x y+1 else 0
 | _,_=>0
def csl (x y:List Int):Nat:=cpl x.reverse y.reverse
theorem gW:∀x y,cpl x y≤x.length
 | [],_=>by simp [cpl]
 | a::x,[]=>by simp [cpl]
 | a::x,b::y=>by have:=gW x y;simp only [cpl];split <;> simp <;> omega
theorem fW:∀x y,cpl x y≤y.length
 | [],_=>by simp [cpl]
 | a::x,[]=>by simp [cpl]
 | a::x,b::y=>by have:=fW x y;simp only [cpl];split <;> simp <;> omega
theorem eK (x y):csl x y≤x.length:=by have:=gW x.reverse y.reverse;simpa [csl] using this
theorem dS (x y):csl x y≤y.length:=by have:=fW x.reverse y.reverse;simpa [csl] using this
theorem NZ (x:List Int) (n:Nat) (h:n < x.length):x.drop n=x.getD n 0::x.drop (n+1):=by
 rw [List.drop_eq_getElem_cons h];simp [List.getD,List.getElem?_eq_getElem h]
theorem dF7 (x y:List Int) (n:Nat) (hx:n < x.length) (hy:n < y.length):cpl (x.drop n) (y.drop n)=if x.getD n 0=y.getD n 0 then cpl (x.drop (n+1)) (y.drop (n+1))+1 else 0:=by
 rw [NZ x n hx,NZ y n hy];rfl
theorem GN (x y:List Int) (n:Nat) (h:x.length≤n∨y.length≤n):cpl (x.drop n) (y.drop n)=0:=by
 rcases h with h | h
 ·rw [List.drop_eq_nil_of_le h];rfl
 ·rw [List.drop_eq_nil_of_le h];cases x.drop n <;> rfl
theorem YG (x:List Int) (n:Nat) (h:n < x.length):x.reverse.getD n 0=x.getD (x.length - 1 - n) 0:=by
 simp [List.getD,List.getElem?_reverse h]
theorem zS:∀x y:List Int,x.take (cpl x y)=y.take (cpl x y)
 | [],y=>by simp [cpl]
 | a::x,[]=>by simp [cpl]
 | a::x,b::y=>by
  simp only [cpl]
  split
  ·rename_i h;subst h;simp [zS x y]
  ·simp
theorem AG:∀{x y:List Int} {a b:Int} {x' y':List Int},x.drop (cpl x y)=a::x'→y.drop (cpl x y)=b::y'→a≠b
 | [],y,a,b,x',y',h,_=>by simp [cpl] at h
 | c::x,[],a,b,x',y',_,h=>by simp [cpl] at h
 | c::x,d::y,a,b,x',y',h,k=>by
  simp only [cpl] at h k
  split at h
  ·rename_i e
   rw [if_pos e] at k
   simp only [List.drop_succ_cons] at h k
   exact AG h k
  ·rename_i e
   rw [if_neg e] at k
   simp only [List.drop_zero,List.cons.injEq] at h k
   rw [←h.1,←k.1];exact e
theorem sN (x y:List Int):x.drop (x.length - csl x y)=y.drop (y.length - csl x y):=by
 have:=congrArg List.reverse (zS x.reverse y.reverse)
 rw [List.reverse_take,List.reverse_take] at this
 simpa [csl] using this
theorem KR:∀x y:List Int,cpl x y=cpl y x
 | [],[]=>rfl
 | [],_::_=>rfl
 | _::_,[]=>rfl
 | a::x,b::y=>by
  simp only [cpl]
  by_cases h:a=b
  ·rw [if_pos h,if_pos h.symm,KR x y]
  ·rw [if_neg h,if_neg (fun e=>h e.symm)]
theorem cJ9 (x y:List Int):csl x y=csl y x:=KR _ _
theorem M6 {β:Type} (n:Nat) (k:Int→Option β) (x y:List Int) (hx:x.length≤1000000000000) (hy:y.length≤1000000000000):∀(d i m:Nat),x.length - i=d→d < m→i≤x.length→i≤y.length→
  g135_3L n k m x y ((x.length:Int) - i) ((y.length:Int) - i) (i:Int)=k ((i+cpl (x.reverse.drop i) (y.reverse.drop i):Nat):Int):=by
 intro d
 induction d using Nat.strongRecOn with
 | _ d ih=>
  intro i m hd hm hix hiy
  obtain ⟨m,rfl⟩:∃m',m=m'+1:=⟨m - 1,by omega⟩
  rw [g135_3L.eq_2,aI6]
  rw [aG (n:=(x.length:Int) - i - 1) (by omega) (by omega),aG (n:=(y.length:Int) - i - 1) (by omega) (by omega)]
  by_cases h:i < x.length
  ·rw [bdF (by omega)]
   by_cases h2:i < y.length
   ·rw [bdF (by omega),aP (by omega) (by omega),aP (by omega) (by omega)]
    rw [show (x.length:Int) - i - 1=((x.length - 1 - i:Nat):Int) by omega,show (y.length:Int) - i - 1=((y.length - 1 - i:Nat):Int) by omega,lW,lW,dF7 _ _ i (by simpa using h) (by simpa using h2),YG x i h,YG y i h2]
    by_cases e:x.getD (x.length - 1 - i) 0=y.getD (y.length - 1 - i) 0
    ·rw [if_pos e,biF (by rw [e];simp),aG (by omega) (by omega)]
     have:=ih (d - 1) (by omega) (i+1) m (by omega) (by omega) (by omega) (by omega)
     rw [show (x.length:Int) - ((i+1:Nat):Int)=((x.length - 1 - i:Nat):Int) by omega,show (y.length:Int) - ((i+1:Nat):Int)=((y.length - 1 - i:Nat):Int) by omega] at this
     rw [show ((i:Int)+1)=((i+1:Nat):Int) by omega,this]
     congr 2;omega
    ·rw [if_neg e,biT (by simpa using e)];rfl
   ·rw [bdT (by omega),GN _ _ i (by simp;omega)];rfl
  ·rw [bdT (by omega),GN _ _ i (by simp;omega)];rfl
theorem uA (n:Nat) (hn:Big≤n) (x y:List Int) (hx:x.length≤1000000000000) (hy:y.length≤1000000000000):E8 n x y=some ((csl x y:Int),()):=by
 have:=M6 n (fun v=>some (v,())) x y hx hy x.length 0 n (by omega) (by unfold Big at hn;omega) (by omega) (by omega)
 simp only [List.drop_zero,Nat.zero_add,Int.natCast_zero,Int.sub_zero] at this
 exact this
theorem ZH {β:Type} (n:Nat) (k:Int→Option β) (x y:List Int) (hx:x.length≤1000000000000):∀(d i m:Nat),x.length - i=d→d < m→g134_3L n k k m x y (i:Int)=k ((i+cpl (x.drop i) (y.drop i):Nat):Int):=by
 intro d
 induction d using Nat.strongRecOn with
 | _ d ih=>
  intro i m hd hm
  obtain ⟨m,rfl⟩:∃m',m=m'+1:=⟨m - 1,by omega⟩
  rw [g134_3L.eq_2,d8]
  by_cases h:i < x.length
  ·rw [bdT (by omega)]
   by_cases h2:i < y.length
   ·rw [bdT (by omega),aP (by omega) (by omega),aP (by omega) (by omega),lW,lW,dF7 x y i h h2]
    by_cases e:x.getD i 0=y.getD i 0
    ·rw [if_pos e,biF (by rw [e];simp),aG (by omega) (by omega)]
     have:=ih (d - 1) (by omega) (i+1) m (by omega) (by omega)
     rw [show ((i:Int)+1)=((i+1:Nat):Int) by omega,this]
     congr 2;omega
    ·rw [if_neg e,biT (by simpa using e)];rfl
   ·rw [bdF (by omega),GN x y i (by omega)];rfl
  ·rw [bdF (by omega),GN x y i (by omega)];rfl
theorem OH (n:Nat) (hn:Big≤n) (x y:List Int) (hx:x.length≤1000000000000):eB4 n x y=some ((cpl x y:Int),()):=by
 have:=ZH n (fun v=>some (v,())) x y hx x.length 0 n (by omega) (by unfold Big at hn;omega)
 simp only [List.drop_zero,Nat.zero_add] at this
 exact this
def M (l:List Rp):List Prt:=l.map emb
theorem bZ (x y:List Rp):M (x++y)=M x++M y:=List.map_append
theorem fO (d:Rp) (x:List Rp):M (d::x)=(d.1,enc d.2)::M x:=rfl
theorem bA (x:List Rp):(M x).length=x.length:=List.length_map _
theorem lL:M []=[]:=rfl
theorem fM {α:Type} {X:List α} {d:α} {Y:List α} {i:Int} {z:α} (h:i=X.length):rd (X++d::Y) i z=d:=by
 subst h;rw [lW,List.getD_eq_getElem?_getD,List.getElem?_append_right (Nat.le_refl _)];simp
theorem iJ {α:Type} {X:List α} {d v:α} {Y:List α} {i:Nat} (h:i=X.length):(X++d::Y).set i v=X++v::Y:=by
 subst h;rw [List.set_append_right _ _ (Nat.le_refl _)];simp
theorem YS {α:Type} (x:List α) (b:Int):cut x 0 b=x.take b.toNat:=cP x b
def fE8 (n:Nat):Prop:=n≤1000000000
def bC:List Rp→List Int
 | []=>[]
 | d::l=>(if d.1= -1 then d.2 else [])++bC l
def bB:List Rp→List Int
 | []=>[]
 | d::l=>(if d.1=1 then d.2 else [])++bB l
def cdR:List Rp→Nat
 | []=>0
 | d::l=>(if d.1= -1 then 1 else 0)+cdR l
def ciR:List Rp→Nat
 | []=>0
 | d::l=>(if d.1=1 then 1 else 0)+ciR l
theorem mL:∀x y,bC (x++y)=bC x++bC y
 | [],y=>rfl
 | d::x,y=>by simp [bC,mL x y]
theorem mK:∀x y,bB (x++y)=bB x++bB y
 | [],y=>rfl
 | d::x,y=>by simp [bB,mK x y]
theorem mZ:∀x y,cdR (x++y)=cdR x+cdR y
 | [],y=>by simp [cdR]
 | d::x,y=>by simp [cdR,mZ x y];omega
theorem nO:∀x y,ciR (x++y)=ciR x+ciR y
 | [],y=>by simp [ciR]
 | d::x,y=>by simp [ciR,nO x y];omega
def Eds (P:List Rp):Prop:=∀d∈P,d.1= -1∨d.1=1
theorem uW:∀{P:List Rp},Eds P→cdR P+ciR P=P.length
 | [],_=>rfl
 | d::P,h=>by
  have ih:=uW (P:=P) fun e he=>h e (by simp [he])
  rcases h d (by simp) with hd | hd <;> simp [cdR,ciR,hd] <;> omega
theorem qM:∀P:List Rp,(bC P).length+(bB P).length≤edR P
 | []=>Nat.le_refl _
 | d::P=>by
  have ih:=qM P
  simp only [bC,bB,edR,List.length_append]
  by_cases h1:d.1= -1
  ·rw [if_pos h1,if_neg (by omega),if_neg (by omega)];simp;omega
  ·rw [if_neg h1]
   by_cases h2:d.1=1
   ·rw [if_pos h2,if_neg (by omega)];simp;omega
   ·rw [if_neg h2];simp;split <;> omega
theorem I7:∀{P:List Rp},cdR P=0→bC P=[]
 | [],_=>rfl
 | d::P,h=>by
  unfold cdR at h
  unfold bC
  split at h
  ·omega
  ·rename_i hd;rw [if_neg hd,I7 (by omega)];rfl
theorem P3:∀{P:List Rp},ciR P=0→bB P=[]
 | [],_=>rfl
 | d::P,h=>by
  unfold ciR at h
  unfold bB
  split at h
  ·omega
  ·rename_i hd;rw [if_neg hd,P3 (by omega)];rfl
def pushE (u:List Int):List Rp→List Rp
 | (k,s)::A=>if k=0 then (0,s++u)::A else (0,u)::(k,s)::A
 | []=>[(0,u)]
structure Fac where
 A:List Rp
 td:List Int
 ti:List Int
 t:List Int
def fac (A:List Rp) (td ti t:List Int):Fac:=
 let c:=cpl ti td
 let s:=csl (ti.drop c) (td.drop c)
 ⟨if c=0 then A else pushE (ti.take c) A,(td.drop c).take ((td.drop c).length - s),(ti.drop c).take ((ti.drop c).length - s),(ti.drop c).drop ((ti.drop c).length - s)++t⟩
def stepE (A P:List Rp) (t:List Int):List Rp:=
 if 1 < P.length then
  if cdR P=0 then (0,t)::(1,bB P)::A
  else if ciR P=0 then (0,t)::(-1,bC P)::A
  else let f:=fac A (bC P) (bB P) t;(0,f.t)::(1,f.ti)::(-1,f.td)::f.A
 else if P=[] then pushE t A
 else (0,t)::(P.reverse++A)
def run1:List Rp→List Rp→List Rp→List Rp×List Rp
 | A,P,[]=>(A,P)
 | A,P,d::R=>if d.1=0 then run1 (stepE A P d.2) [] R else run1 A (P++[d]) R
def chop:List Rp→List Rp
 | (k,s)::A=>if s=[] then A else (k,s)::A
 | []=>[]
def join1 (x:List Rp):List Rp:=(chop (stepE (run1 [] [] x).1 (run1 [] [] x).2 [])).reverse
def slide:List Rp→List Rp→Bool→List Rp×Bool
 | A,p::c::q::R,ch=>
  if p.1=0∧q.1=0 then
   if p.2 <:+c.2 then slide ((c.1,p.2++c.2.take (c.2.length - p.2.length))::A) ((q.1,p.2++q.2)::R) true
   else if q.2 <+:c.2 then slide ((p.1,p.2++q.2)::A) ((c.1,c.2.drop q.2.length++q.2)::R) true
   else slide (p::A) (c::q::R) ch
  else slide (p::A) (c::q::R) ch
 | A,R,ch=>(A.reverse++R,ch)
termination_by _ R _=>R.length
def phi (x:List Rp):Nat:=edR x+x.length
theorem fL (x y:List Rp):phi (x++y)=phi x+phi y:=by unfold phi;rw [dH,List.length_append];omega
theorem gA:∀x:List Rp,edR x.reverse=edR x
 | []=>rfl
 | d::x=>by rw [List.reverse_cons,dH,gA x];simp [edR];omega
theorem jV (x:List Rp):phi x.reverse=phi x:=by unfold phi;rw [gA,List.length_reverse]
theorem dP (d:Rp) (x:List Rp):phi (d::x)=(if d.1=0 then 0 else d.2.length)+1+phi x:=by unfold phi;simp only [edR,List.length_cons];omega
theorem CX (u:List Int):∀A:List Rp,edR (pushE u A)=edR A
 | []=>rfl
 | (k,s)::A=>by
  rw [pushE]
  split
  ·rename_i h;subst h;simp [edR]
  ·simp [edR]
theorem CP (u:List Int):∀A:List Rp,phi (pushE u A)≤phi A+1:=fun A=>by
 unfold phi;rw [CX]
 cases A with
 | nil=>simp [pushE]
 | cons d A=>obtain ⟨k,s⟩:=d;rw [pushE];split <;> simp <;> omega
def Hd (A:List Rp):Prop:=A=[]∨∃s A',A=(0,s)::A'
theorem aW1 (A:List Rp) (td ti t:List Int):edR (fac A td ti t).A=edR A:=by
 unfold fac;simp only;split
 ·rfl
 ·exact CX _ _
theorem DE {A P:List Rp} (hP:Eds P) (t:List Int):phi (stepE A P t)≤phi A+phi P+1:=by
 have hd:=qM P
 have hc:=uW hP
 unfold stepE
 by_cases h1:1 < P.length
 ·rw [if_pos h1]
  by_cases h2:cdR P=0
  ·rw [if_pos h2,dP,dP];simp only [phi];simp;omega
  ·rw [if_neg h2]
   by_cases h3:ciR P=0
   ·rw [if_pos h3,dP,dP];simp only [phi];simp;omega
   ·rw [if_neg h3]
    simp only [dP]
    have hA:phi (fac A (bC P) (bB P) t).A≤phi A+min 1 (cpl (bB P) (bC P)):=by
     unfold fac;simp only
     by_cases hc0:cpl (bB P) (bC P)=0
     ·rw [if_pos hc0];omega
     ·rw [if_neg hc0]
      have:=CP ((bB P).take (cpl (bB P) (bC P))) A
      omega
    have hl:=gW (bB P) (bC P)
    have hr:=fW (bB P) (bC P)
    have e1:(fac A (bC P) (bB P) t).td.length≤(bC P).length - cpl (bB P) (bC P):=by unfold fac;simp only [List.length_take,List.length_drop];omega
    have e2:(fac A (bC P) (bB P) t).ti.length≤(bB P).length - cpl (bB P) (bC P):=by unfold fac;simp only [List.length_take,List.length_drop];omega
    simp only [phi] at hA ⊢
    simp
    omega
 ·rw [if_neg h1]
  by_cases h2:P=[]
  ·rw [if_pos h2]
   have:=CP t A
   omega
  ·rw [if_neg h2,dP,fL,jV];simp;omega
def Ops (x:List Rp):Prop:=∀d∈x,d.1= -1∨d.1=0∨d.1=1
theorem Eds.snoc {P:List Rp} {d:Rp} (hP:Eds P) (h:d.1= -1∨d.1=0∨d.1=1) (h0:d.1≠0):Eds (P++[d]):=fun e he=>by
 rcases List.mem_append.1 he with he | he
 ·exact hP e he
 ·rw [List.mem_singleton.1 he];omega
theorem Eds.nil:Eds []:=fun e he=>by cases he
theorem Ops.cons {d:Rp} {x:List Rp} (h:Ops (d::x)):(d.1= -1∨d.1=0∨d.1=1)∧Ops x:=⟨h d (by simp),fun e he=>h e (by simp [he])⟩
theorem lM:∀(R A P:List Rp),Eds P→Ops R→phi (run1 A P R).1+phi (run1 A P R).2≤phi A+phi P+phi R∧Eds (run1 A P R).2
 | [],A,P,hP,_=>⟨by simp [run1,phi,edR],hP⟩
 | d::R,A,P,hP,hR=>by
  rw [run1]
  split
  ·rename_i h0
   have h1:=lM R (stepE A P d.2) [] Eds.nil hR.cons.2
   have h2:=DE (A:=A) hP d.2
   refine ⟨?_,h1.2⟩
   have h1:=h1.1
   rw [dP,if_pos h0]
   have:phi []=0:=rfl
   omega
  ·rename_i h0
   have h1:=lM R A (P++[d]) (hP.snoc hR.cons.1 h0) hR.cons.2
   refine ⟨?_,h1.2⟩
   have h1:=h1.1
   rw [fL] at h1
   have:phi [d]=(if d.1=0 then 0 else d.2.length)+1:=by rw [dP];rfl
   rw [dP]
   omega
theorem J9:∀A:List Rp,phi (chop A)≤phi A
 | []=>Nat.le_refl _
 | (k,s)::A=>by rw [chop];split <;> simp only [dP] <;> omega
theorem KE {A P:List Rp} (hP:Eds P):phi (chop (stepE A P []))≤phi A+phi P:=by
 have hd:=qM P
 have hc:=uW hP
 unfold stepE
 by_cases h1:1 < P.length
 ·rw [if_pos h1]
  by_cases h2:cdR P=0
  ·rw [if_pos h2,chop,if_pos rfl,dP];simp only [phi];simp;omega
  ·rw [if_neg h2]
   by_cases h3:ciR P=0
   ·rw [if_pos h3,chop,if_pos rfl,dP];simp only [phi];simp;omega
   ·rw [if_neg h3]
    simp only
    have hA:phi (fac A (bC P) (bB P) []).A≤phi A+min 1 (cpl (bB P) (bC P)):=by
     unfold fac;simp only
     by_cases hc0:cpl (bB P) (bC P)=0
     ·rw [if_pos hc0];omega
     ·rw [if_neg hc0]
      have:=CP ((bB P).take (cpl (bB P) (bC P))) A
      omega
    have hl:=gW (bB P) (bC P)
    have hr:=fW (bB P) (bC P)
    have hl2:=eK ((bB P).drop (cpl (bB P) (bC P))) ((bC P).drop (cpl (bB P) (bC P)))
    have hr2:=dS ((bB P).drop (cpl (bB P) (bC P))) ((bC P).drop (cpl (bB P) (bC P)))
    simp only [List.length_drop] at hl2 hr2
    have e1:(fac A (bC P) (bB P) []).td.length+csl ((bB P).drop (cpl (bB P) (bC P))) ((bC P).drop (cpl (bB P) (bC P)))=(bC P).length - cpl (bB P) (bC P):=by unfold fac;simp only [List.length_take,List.length_drop];omega
    have e2:(fac A (bC P) (bB P) []).ti.length+csl ((bB P).drop (cpl (bB P) (bC P))) ((bC P).drop (cpl (bB P) (bC P)))=(bB P).length - cpl (bB P) (bC P):=by unfold fac;simp only [List.length_take,List.length_drop];omega
    have e3:(fac A (bC P) (bB P) []).t.length=csl ((bB P).drop (cpl (bB P) (bC P))) ((bC P).drop (cpl (bB P) (bC P))):=by unfold fac;simp only [List.length_append,List.length_drop,List.length_nil];omega
    rw [chop]
    split
    ·simp only [dP];simp only [phi] at hA ⊢;simp;omega
    ·rename_i hne
     have:1≤(fac A (bC P) (bB P) []).t.length:=by
      cases hq:(fac A (bC P) (bB P) []).t with
      | nil=>exact absurd hq hne
      | cons _ _=>simp
     simp only [dP];simp only [phi] at hA ⊢;simp;omega
 ·rw [if_neg h1]
  by_cases h2:P=[]
  ·rw [if_pos h2]
   subst h2
   cases A with
   | nil=>simp [pushE,chop,phi,edR]
   | cons d A=>
    obtain ⟨k,s⟩:=d
    rw [pushE]
    split
    ·rename_i h;subst h
     have:=J9 ((0,s++[])::A)
     rw [List.append_nil] at this ⊢
     exact Nat.le_trans this (Nat.le_add_right _ _)
    ·rw [chop,if_pos rfl];exact Nat.le_add_right _ _
  ·rw [if_neg h2,chop,if_pos rfl,fL,jV];omega
theorem pH {x:List Rp} (hx:Ops x):phi (join1 x)≤phi x:=by
 unfold join1
 rw [jV]
 have h:=lM x [] [] Eds.nil hx
 have h1:=KE (A:=(run1 [] [] x).1) h.2
 have:phi []=0:=rfl
 omega
theorem tR:∀(k:Nat) (A R:List Rp) (ch:Bool),R.length=k→phi (slide A R ch).1+(if (slide A R ch).2=true∧ch=false then 1 else 0)≤phi A+phi R:=by
 intro k
 induction k using Nat.strongRecOn with
 | _ k ih=>
  intro A R ch hk
  match R,hk with
  | [],hk=>unfold slide;rw [fL,jV];cases ch <;> simp
  | [p],hk=>unfold slide;rw [fL,jV];cases ch <;> simp
  | [p,c],hk=>unfold slide;rw [fL,jV];cases ch <;> simp
  | p::c::q::R,hk=>
   rw [slide]
   have e:phi (p::c::q::R)=(if p.1=0 then 0 else p.2.length)+1+((if c.1=0 then 0 else c.2.length)+1+((if q.1=0 then 0 else q.2.length)+1+phi R)):=by simp only [dP]
   have skip:phi (slide (p::A) (c::q::R) ch).1+(if (slide (p::A) (c::q::R) ch).2=true∧ch=false then 1 else 0)≤phi A+phi (p::c::q::R):=by
    have:=ih (c::q::R).length (by rw [←hk];simp) (p::A) (c::q::R) ch rfl
    simp only [dP] at this ⊢
    omega
   split
   ·rename_i h
    obtain ⟨h1,h2⟩:=h
    rw [e,if_pos h1,if_pos h2]
    split
    ·rename_i hs
     have hl:=hs.length_le
     have:=ih (((q.1,p.2++q.2)::R):List Rp).length (by rw [←hk];simp) ((c.1,p.2++c.2.take (c.2.length - p.2.length))::A) ((q.1,p.2++q.2)::R) true rfl
     simp only [dP] at this
     rw [if_pos h2] at this
     simp only [Bool.true_eq_false,and_false,if_false,Nat.add_zero,List.length_append,List.length_take] at this
     have hb:(if (slide ((c.1,p.2++c.2.take (c.2.length - p.2.length))::A) ((q.1,p.2++q.2)::R) true).2=true∧ch=false then 1 else 0)≤1:=by split <;> omega
     have hm:(if c.1=0 then 0 else p.2.length+min (c.2.length - p.2.length) c.2.length)=(if c.1=0 then 0 else c.2.length):=by split <;> omega
     rw [hm] at this
     omega
    ·split
     ·rename_i hs
      have hl:=hs.length_le
      have:=ih (((c.1,c.2.drop q.2.length++q.2)::R):List Rp).length (by rw [←hk];simp) ((p.1,p.2++q.2)::A) ((c.1,c.2.drop q.2.length++q.2)::R) true rfl
      simp only [dP] at this
      rw [if_pos h1] at this
      simp only [Bool.true_eq_false,and_false,if_false,Nat.add_zero,List.length_append,List.length_drop] at this
      have hb:(if (slide ((p.1,p.2++q.2)::A) ((c.1,c.2.drop q.2.length++q.2)::R) true).2=true∧ch=false then 1 else 0)≤1:=by split <;> omega
      have hm:(if c.1=0 then 0 else c.2.length - q.2.length+q.2.length)=(if c.1=0 then 0 else c.2.length):=by split <;> omega
      rw [hm] at this
      omega
     ·rw [if_pos h1,if_pos h2] at e;rw [←e];exact skip
   ·exact skip
def mergeN:Nat→List Rp→List Rp
 | 0,x=>x
 | k+1,x=>if (slide [] (join1 x) false).2=true then mergeN k (slide [] (join1 x) false).1 else (slide [] (join1 x) false).1
def merge (x:List Rp):List Rp:=mergeN (phi x+1) x
def Ok (x:List Rp):Prop:=∀d∈x,OkR d
theorem Ok.nil:Ok []:=fun d h=>by cases h
theorem Ok.append {x y:List Rp} (h:Ok x) (k:Ok y):Ok (x++y):=fun d hd=>(List.mem_append.1 hd).elim (h d) (k d)
theorem Ok.cons' {d:Rp} {x:List Rp} (h:OkR d) (k:Ok x):Ok (d::x):=fun e he=>(List.mem_cons.1 he).elim (fun e=>by rw [e];exact h) (k e)
theorem Ok.of_append {x y:List Rp} (h:Ok (x++y)):Ok x∧Ok y:=⟨fun d hd=>h d (List.mem_append.2 (.inl hd)),fun d hd=>h d (List.mem_append.2 (.inr hd))⟩
theorem Ok.of_cons {d:Rp} {x:List Rp} (h:Ok (d::x)):OkR d∧Ok x:=⟨h d (by simp),fun e he=>h e (by simp [he])⟩
theorem Ok.reverse {x:List Rp} (h:Ok x):Ok x.reverse:=fun d hd=>h d (List.mem_reverse.1 hd)
theorem Ok.ops {x:List Rp} (h:Ok x):Ops x:=fun d hd=>(h d hd).1
theorem Valids.of_append {x y:List Int} (h:Valids (x++y)):Valids x∧Valids y:=⟨fun d hd=>h d (by simp [hd]),fun d hd=>h d (by simp [hd])⟩
theorem JO:∀{P:List Rp},Ok P→Valids (bC P)∧Valids (bB P)
 | [],_=>⟨Valids.nil,Valids.nil⟩
 | d::P,h=>by
  have ih:=JO h.of_cons.2
  have hd:=h.of_cons.1.2
  unfold bC bB
  refine ⟨Valids.append ?_ ih.1,Valids.append ?_ ih.2⟩ <;> split <;> first | exact hd | exact Valids.nil
theorem Ok.pushE {u:List Int} (hu:Valids u):∀{A:List Rp},Ok A→Ok (pushE u A)
 | [],_=>Ok.cons' ⟨.inr (.inl rfl),hu⟩ Ok.nil
 | (k,s)::A,h=>by
  rw [Go.Proofs.YthkiaiilpaojnaaDoorZF.pushE]
  split
  ·exact Ok.cons' ⟨.inr (.inl rfl),h.of_cons.1.2.append hu⟩ h.of_cons.2
  ·exact Ok.cons' ⟨.inr (.inl rfl),hu⟩ h
theorem Ok.stepE {A P:List Rp} {t:List Int} (hA:Ok A) (hP:Ok P) (ht:Valids t):Ok (stepE A P t):=by
 have hd:=JO hP
 unfold Go.Proofs.YthkiaiilpaojnaaDoorZF.stepE
 split
 ·split
  ·exact Ok.cons' ⟨.inr (.inl rfl),ht⟩ (Ok.cons' ⟨.inr (.inr rfl),hd.2⟩ hA)
  ·split
   ·exact Ok.cons' ⟨.inr (.inl rfl),ht⟩ (Ok.cons' ⟨.inl rfl,hd.1⟩ hA)
   ·simp only
    have h1:Ok (fac A (bC P) (bB P) t).A:=by
     unfold fac;simp only;split
     ·exact hA
     ·exact Ok.pushE (hd.2.take _) hA
    refine Ok.cons' ⟨.inr (.inl rfl),?_⟩ (Ok.cons' ⟨.inr (.inr rfl),?_⟩ (Ok.cons' ⟨.inl rfl,?_⟩ h1)) <;> unfold fac <;> simp only
    ·exact ((hd.2.drop _).drop _).append ht
    ·exact (hd.2.drop _).take _
    ·exact (hd.1.drop _).take _
 ·split
  ·exact Ok.pushE ht hA
  ·exact Ok.cons' ⟨.inr (.inl rfl),ht⟩ (hP.reverse.append hA)
theorem Ok.run1:∀{R A P:List Rp},Ok A→Ok P→Ok R→Ok (run1 A P R).1∧Ok (run1 A P R).2
 | [],A,P,hA,hP,_=>⟨hA,hP⟩
 | d::R,A,P,hA,hP,hR=>by
  rw [Go.Proofs.YthkiaiilpaojnaaDoorZF.run1]
  split
  ·exact Ok.run1 (hA.stepE hP hR.of_cons.1.2) Ok.nil hR.of_cons.2
  ·exact Ok.run1 hA (hP.append (Ok.cons' hR.of_cons.1 Ok.nil)) hR.of_cons.2
theorem Ok.chop:∀{A:List Rp},Ok A→Ok (chop A)
 | [],_=>Ok.nil
 | (k,s)::A,h=>by
  rw [Go.Proofs.YthkiaiilpaojnaaDoorZF.chop];split
  ·exact h.of_cons.2
  ·exact h
theorem Ok.join1 {x:List Rp} (h:Ok x):Ok (join1 x):=by
 have:=Ok.run1 Ok.nil Ok.nil h
 exact (Ok.chop (this.1.stepE this.2 Valids.nil)).reverse
theorem Ok.slide:∀(k:Nat) {A R:List Rp} {ch:Bool},R.length=k→Ok A→Ok R→Ok (slide A R ch).1:=by
 intro k
 induction k using Nat.strongRecOn with
 | _ k ih=>
  intro A R ch hk hA hR
  match R,hk,hR with
  | [],hk,hR=>unfold Go.Proofs.YthkiaiilpaojnaaDoorZF.slide;exact hA.reverse.append hR
  | [p],hk,hR=>unfold Go.Proofs.YthkiaiilpaojnaaDoorZF.slide;exact hA.reverse.append hR
  | [p,c],hk,hR=>unfold Go.Proofs.YthkiaiilpaojnaaDoorZF.slide;exact hA.reverse.append hR
  | p::c::q::R,hk,hR=>
   rw [Go.Proofs.YthkiaiilpaojnaaDoorZF.slide]
   have hp:=hR.of_cons.1
   have hc:=hR.of_cons.2.of_cons.1
   have hq:=hR.of_cons.2.of_cons.2.of_cons.1
   have hR':=hR.of_cons.2.of_cons.2.of_cons.2
   have skip:=ih (c::q::R).length (by rw [←hk];simp) (A:=p::A) (R:=c::q::R) (ch:=ch) rfl (Ok.cons' hp hA) hR.of_cons.2
   split
   ·split
    ·exact ih (((q.1,p.2++q.2)::R):List Rp).length (by rw [←hk];simp) rfl (Ok.cons' ⟨hc.1,hp.2.append (hc.2.take _)⟩ hA) (Ok.cons' ⟨hq.1,hp.2.append hq.2⟩ hR')
    ·split
     ·exact ih (((c.1,c.2.drop q.2.length++q.2)::R):List Rp).length (by rw [←hk];simp) rfl (Ok.cons' ⟨hp.1,hp.2.append hq.2⟩ hA) (Ok.cons' ⟨hc.1,(hc.2.drop _).append hq.2⟩ hR')
     ·exact skip
   ·exact skip
theorem Ok.mergeN:∀(k:Nat) {x:List Rp},Ok x→Ok (mergeN k x)
 | 0,x,h=>h
 | k+1,x,h=>by
  have:=Ok.slide (Go.Proofs.YthkiaiilpaojnaaDoorZF.join1 x).length (A:=[]) (R:=Go.Proofs.YthkiaiilpaojnaaDoorZF.join1 x) (ch:=false) rfl Ok.nil h.join1
  rw [Go.Proofs.YthkiaiilpaojnaaDoorZF.mergeN]
  split
  ·exact Ok.mergeN k this
  ·exact this
theorem Ok.merge {x:List Rp} (h:Ok x):Ok (merge x):=Ok.mergeN _ h
theorem GT:∀{P:List Rp},Eds P→bQ P=bC P∧bP P=bB P
 | [],_=>⟨rfl,rfl⟩
 | d::P,h=>by
  have ih:=GT (P:=P) fun e he=>h e (by simp [he])
  unfold bQ bP bC bB
  rw [ih.1,ih.2]
  rcases h d (by simp) with hd | hd <;> simp [hd]
theorem OZ (u:List Int):∀A:List Rp,bQ (pushE u A).reverse=bQ A.reverse++u∧bP (pushE u A).reverse=bP A.reverse++u
 | []=>by simp [pushE,bQ,bP]
 | (k,s)::A=>by
  rw [pushE]
  split
  ·rename_i h;subst h
   simp [bI,bH,bQ,bP]
  ·simp [bI,bH,bQ,bP]
theorem cH4 (A:List Rp) (td ti t:List Int):bQ (fac A td ti t).A.reverse++(fac A td ti t).td++(fac A td ti t).t=bQ A.reverse++td++t∧bP (fac A td ti t).A.reverse++(fac A td ti t).ti++(fac A td ti t).t=bP A.reverse++ti++t:=by
 have h1:=zS ti td
 have h2:=sN (ti.drop (cpl ti td)) (td.drop (cpl ti td))
 unfold fac
 simp only
 generalize cpl ti td=c at *
 generalize csl (ti.drop c) (td.drop c)=s at *
 have hA:bQ (if c=0 then A else pushE (ti.take c) A).reverse=bQ A.reverse++ti.take c∧bP (if c=0 then A else pushE (ti.take c) A).reverse=bP A.reverse++ti.take c:=by
  split
  ·rename_i h;subst h;simp
  ·exact OZ _ _
 rw [hA.1,hA.2]
 constructor
 ·rw [h1,h2,←List.append_assoc]
  have:(td.drop c).take ((td.drop c).length - s)++(td.drop c).drop ((td.drop c).length - s)=td.drop c:=List.take_append_drop _ _
  rw [List.append_assoc (bQ A.reverse++td.take c),this,List.append_assoc (bQ A.reverse),List.take_append_drop]
 ·rw [←List.append_assoc]
  have:(ti.drop c).take ((ti.drop c).length - s)++(ti.drop c).drop ((ti.drop c).length - s)=ti.drop c:=List.take_append_drop _ _
  rw [List.append_assoc (bP A.reverse++ti.take c),this,List.append_assoc (bP A.reverse),List.take_append_drop]
theorem oD {A P:List Rp} (hP:Eds P) (t:List Int):bQ (stepE A P t).reverse=bQ A.reverse++bQ P++t∧bP (stepE A P t).reverse=bP A.reverse++bP P++t:=by
 have he:=GT hP
 rw [he.1,he.2]
 unfold stepE
 split
 ·split
  ·rename_i h
   rw [I7 h]
   simp [bI,bH,bQ,bP]
  ·split
   ·rename_i h
    rw [P3 h]
    simp [bI,bH,bQ,bP]
   ·have:=cH4 A (bC P) (bB P) t
    rw [←this.1,←this.2]
    simp [bI,bH,bQ,bP]
 ·split
  ·rename_i h;subst h
   simpa [bC,bB] using OZ t A
  ·simp [bI,bH,bQ,bP,he.1,he.2]
theorem vX:∀(R A P:List Rp),Eds P→Ops R→bQ ((run1 A P R).1.reverse++(run1 A P R).2)=bQ (A.reverse++P++R)∧bP ((run1 A P R).1.reverse++(run1 A P R).2)=bP (A.reverse++P++R)
 | [],A,P,_,_=>by simp [run1]
 | d::R,A,P,hP,hR=>by
  rw [run1]
  split
  ·rename_i h0
   have ih:=vX R (stepE A P d.2) [] Eds.nil hR.cons.2
   have h1:=oD (A:=A) hP d.2
   rw [ih.1,ih.2]
   simp [bI,bH,bQ,bP,h1.1,h1.2,h0]
  ·rename_i h0
   have ih:=vX R A (P++[d]) (hP.snoc hR.cons.1 h0) hR.cons.2
   rw [ih.1,ih.2]
   simp
theorem aJ5:∀A:List Rp,bQ (chop A).reverse=bQ A.reverse∧bP (chop A).reverse=bP A.reverse
 | []=>⟨rfl,rfl⟩
 | (k,s)::A=>by
  rw [chop];split
  ·rename_i h;subst h;simp [bI,bH,bQ,bP]
  ·exact ⟨rfl,rfl⟩
theorem nX {x:List Rp} (hx:Ops x):bQ (join1 x)=bQ x∧bP (join1 x)=bP x:=by
 have h1:=vX x [] [] Eds.nil hx
 have h2:=(lM x [] [] Eds.nil hx).2
 have h3:=oD (A:=(run1 [] [] x).1) h2 []
 have h4:=aJ5 (stepE (run1 [] [] x).1 (run1 [] [] x).2 [])
 unfold join1
 rw [h4.1,h4.2,h3.1,h3.2]
 simp only [bI,bH,List.reverse_nil,List.nil_append] at h1
 rw [List.append_nil,List.append_nil,h1.1,h1.2]
 exact ⟨rfl,rfl⟩
theorem L6 {p c:List Int} (h:p <:+c):c.take (c.length - p.length)++p=c:=by
 obtain ⟨x,rfl⟩:=h
 simp
theorem ZS {q c:List Int} (h:q <+:c):q++c.drop q.length=c:=by
 obtain ⟨x,rfl⟩:=h
 simp
theorem sQ:∀(k:Nat) (A R:List Rp) (ch:Bool),R.length=k→bQ (slide A R ch).1=bQ (A.reverse++R)∧bP (slide A R ch).1=bP (A.reverse++R)∧edR (slide A R ch).1=edR (A.reverse++R):=by
 intro k
 induction k using Nat.strongRecOn with
 | _ k ih=>
  intro A R ch hk
  match R,hk with
  | [],hk=>unfold slide;exact ⟨rfl,rfl,rfl⟩
  | [p],hk=>unfold slide;exact ⟨rfl,rfl,rfl⟩
  | [p,c],hk=>unfold slide;exact ⟨rfl,rfl,rfl⟩
  | p::c::q::R,hk=>
   rw [slide]
   have skip:=ih (c::q::R).length (by rw [←hk];simp) (p::A) (c::q::R) ch rfl
   rw [List.reverse_cons,List.append_assoc,List.singleton_append] at skip
   split
   ·rename_i h
    obtain ⟨h1,h2⟩:=h
    split
    ·rename_i hs
     have e:=L6 hs
     have:=ih (((q.1,p.2++q.2)::R):List Rp).length (by rw [←hk];simp) ((c.1,p.2++c.2.take (c.2.length - p.2.length))::A) ((q.1,p.2++q.2)::R) true rfl
     rw [this.1,this.2.1,this.2.2]
     have hl:=hs.length_le
     simp only [bI,bH,dH,bQ,bP,edR,List.reverse_cons,h1,h2,List.append_assoc]
     have hlen:(p.2++c.2.take (c.2.length - p.2.length)).length=c.2.length:=by simp;omega
     refine ⟨?_,?_,?_⟩
     ·by_cases hc:c.1=1
      ·simp [hc]
      ·simp only [hc,if_false]
       have:p.2++(List.take (c.2.length - p.2.length) c.2++(p.2++(q.2++bQ R)))=p.2++((List.take (c.2.length - p.2.length) c.2++p.2)++(q.2++bQ R)):=by simp
       simp [this,e]
     ·by_cases hc:c.1= -1
      ·simp [hc]
      ·simp only [hc,if_false]
       have:p.2++(List.take (c.2.length - p.2.length) c.2++(p.2++(q.2++bP R)))=p.2++((List.take (c.2.length - p.2.length) c.2++p.2)++(q.2++bP R)):=by simp
       simp [this,e]
     ·rw [hlen];simp
    ·split
     ·rename_i hs
      have e:=ZS hs
      have:=ih (((c.1,c.2.drop q.2.length++q.2)::R):List Rp).length (by rw [←hk];simp) ((p.1,p.2++q.2)::A) ((c.1,c.2.drop q.2.length++q.2)::R) true rfl
      rw [this.1,this.2.1,this.2.2]
      have hl:=hs.length_le
      simp only [bI,bH,dH,bQ,bP,edR,List.reverse_cons,h1,h2,List.append_assoc]
      have hlen:(c.2.drop q.2.length++q.2).length=c.2.length:=by simp;omega
      refine ⟨?_,?_,?_⟩
      ·by_cases hc:c.1=1
       ·simp [hc]
       ·simp only [hc,if_false]
        have:p.2++(q.2++(List.drop q.2.length c.2++(q.2++bQ R)))=p.2++((q.2++List.drop q.2.length c.2)++(q.2++bQ R)):=by simp
        simp [this,e]
      ·by_cases hc:c.1= -1
       ·simp [hc]
       ·simp only [hc,if_false]
        have:p.2++(q.2++(List.drop q.2.length c.2++(q.2++bP R)))=p.2++((q.2++List.drop q.2.length c.2)++(q.2++bP R)):=by simp
        simp [this,e]
      ·rw [hlen];simp
     ·exact skip
   ·exact skip
theorem IZ {A P:List Rp} (hP:Eds P) (t:List Int):edR (stepE A P t)≤edR A+edR P:=by
 have hd:=qM P
 unfold stepE
 split
 ·split
  ·simp [edR];omega
  ·split
   ·simp [edR];omega
   ·simp only [edR]
    rw [aW1]
    have e1:(fac A (bC P) (bB P) t).td.length≤(bC P).length:=by unfold fac;simp only [List.length_take,List.length_drop];omega
    have e2:(fac A (bC P) (bB P) t).ti.length≤(bB P).length:=by unfold fac;simp only [List.length_take,List.length_drop];omega
    simp;omega
 ·split
  ·rw [CX];omega
  ·simp [edR,dH,gA];omega
theorem UI:∀(R A P:List Rp),Eds P→Ops R→edR (run1 A P R).1+edR (run1 A P R).2≤edR A+edR P+edR R
 | [],A,P,_,_=>by simp [run1,edR]
 | d::R,A,P,hP,hR=>by
  rw [run1]
  split
  ·rename_i h0
   have ih:=UI R (stepE A P d.2) [] Eds.nil hR.cons.2
   have h1:=IZ (A:=A) hP d.2
   simp only [edR] at ih ⊢
   omega
  ·rename_i h0
   have ih:=UI R A (P++[d]) (hP.snoc hR.cons.1 h0) hR.cons.2
   rw [dH] at ih
   simp only [edR] at ih ⊢
   omega
theorem eK0:∀A:List Rp,edR (chop A)≤edR A
 | []=>Nat.le_refl _
 | (k,s)::A=>by rw [chop];split <;> simp only [edR] <;> omega
theorem Q4 {x:List Rp} (hx:Ops x):edR (join1 x)≤edR x:=by
 have h1:=UI x [] [] Eds.nil hx
 have h2:=(lM x [] [] Eds.nil hx).2
 have h3:=IZ (A:=(run1 [] [] x).1) h2 []
 have h4:=eK0 (stepE (run1 [] [] x).1 (run1 [] [] x).2 [])
 unfold join1
 rw [gA]
 simp only [edR] at h1
 omega
theorem AV:∀(k:Nat) {x:List Rp},Ok x→bQ (mergeN k x)=bQ x∧bP (mergeN k x)=bP x∧edR (mergeN k x)≤edR x
 | 0,x,_=>⟨rfl,rfl,Nat.le_refl _⟩
 | k+1,x,h=>by
  have h1:=nX h.ops
  have h2:=sQ _ [] (join1 x) false rfl
  have h3:=Q4 h.ops
  have h4:=Ok.slide (join1 x).length (A:=[]) (R:=join1 x) (ch:=false) rfl Ok.nil h.join1
  simp only [List.reverse_nil,List.nil_append] at h2
  rw [mergeN]
  split
  ·have ih:=AV k h4
   rw [ih.1,ih.2.1,h2.1,h2.2.1,h1.1,h1.2]
   exact ⟨rfl,rfl,by have:=ih.2.2;rw [h2.2.2] at this;omega⟩
  ·rw [h2.1,h2.2.1,h2.2.2,h1.1,h1.2];exact ⟨rfl,rfl,h3⟩
theorem DJ {x:List Rp} (h:Ok x):bQ (merge x)=bQ x∧bP (merge x)=bP x∧edR (merge x)≤edR x:=AV _ h
theorem lX:∀{x:List Rp},cT x≤(bQ x).length+(bP x).length
 | []=>Nat.le_refl _
 | d::x=>by
  have:=lX (x:=x)
  rw [cE]
  unfold bQ bP
  simp only [List.length_append]
  by_cases h1:d.1=1
  ·rw [if_pos h1,if_neg (by omega)];simp;omega
  ·rw [if_neg h1];omega
theorem cJ8:∀x:List Rp,(bQ x).length+(bP x).length≤2 * cT x:=fun x=>by
 have:=zP x;have:=AW x;omega
theorem aC0 {α:Type} (xs ys:List α) (o:Nat) (l:Int) (hl:l.toNat=xs.length - o) (h:o+ys.length≤xs.length):bG xs (o:Int) l ys=xs.take o++ys++xs.drop (o+ys.length):=by
 unfold bG
 have:min l.toNat ys.length=ys.length:=by omega
 rw [this,List.take_length];simp
theorem lP {α:Type} (xs ys:List α) (o l:Int) (ho:0≤o) (hl:l=xs.length - o) (h:o+ys.length≤xs.length):bG xs o l ys=xs.take o.toNat++ys++xs.drop (o.toNat+ys.length):=by
 have:=aC0 xs ys o.toNat l (by omega) (by omega)
 rwa [show ((o.toNat:Nat):Int)=o by omega] at this
theorem vI {α:Type} (xs ys:List α) (o l:Int) (ho:0≤o) (hl:l=xs.length - o) (h:o+ys.length≤xs.length):(bG xs o l ys).length=xs.length:=by
 rw [lP xs ys o l ho hl h];simp;omega
abbrev Dif:=Int×BA
abbrev dz:Dif:=((0:Int),(⟨#[]⟩:BA))
theorem aF7 {β:Type} (n:Nat) (k:List Dif→Int→Option β) (e o l:Int) (he:0≤e) (ho:e≤o) (hl:0≤l):∀(d i m:Nat) (xs:List Dif),l.toNat - i=d→i≤l.toNat→d < m→l < 1000000000000→∃ys,ys.take e.toNat=xs.take e.toNat∧ys.length=xs.length∧g113_4L n k m xs e o l l (i:Int)=k ys e:=by
 intro d
 induction d with
 | zero=>
  intro i m xs hd hi hm hb
  obtain ⟨m,rfl⟩:∃m',m=m'+1:=⟨m - 1,by omega⟩
  refine ⟨xs,rfl,rfl,?_⟩
  rw [g113_4L.eq_2,VU,bdF (by omega)]
 | succ d ih=>
  intro i m xs hd hi hm hb
  obtain ⟨m,rfl⟩:∃m',m=m'+1:=⟨m - 1,by omega⟩
  obtain ⟨ys,h1,h2,h3⟩:=ih (i+1) m (xs.set (o+i).toNat dz) (by omega) (by omega) (by omega) hb
  refine ⟨ys,h1.trans ?_,h2.trans (by simp),?_⟩
  ·rw [List.take_set,List.set_eq_of_length_le (by simp;omega)]
  ·rw [g113_4L.eq_2,VU,bdT (by omega),aP (by omega) (by omega),aG (by omega) (by omega)]
   exact h3
theorem cB1 {β:Type} (n:Nat) (k:List Dif→Int→Int→List Dif→Option β) (a b:Int) (es:List Dif) (need:Nat) (hneed:need < 1000000000000):∀(d m:Nat) (xs:List Dif),need - xs.length=d→xs.length≤need→d < m→
  g113_12L n k m xs a b es (need:Int)=k (xs++List.replicate d dz) a b es:=by
 intro d
 induction d with
 | zero=>
  intro m xs hd hi hm
  obtain ⟨m,rfl⟩:∃m',m=m'+1:=⟨m - 1,by omega⟩
  rw [g113_12L.eq_2,FU,bdF (by omega)];simp
 | succ d ih=>
  intro m xs hd hi hm
  obtain ⟨m,rfl⟩:∃m',m=m'+1:=⟨m - 1,by omega⟩
  rw [g113_12L.eq_2,FU,bdT (by omega),cA (by simp;omega),ih m (xs++[dz]) (by simp;omega) (by simp;omega) (by omega)]
  simp [List.replicate_succ]
theorem jQ (n:Nat) (hn:Big≤n) (xs es:List Dif) (i a:Nat) (h:i+a≤xs.length) (hx:xs.length≤100000000000) (he:es.length≤100000000000):
  qV n xs (i:Int) (a:Int) es=some (xs.take i++es++xs.drop (i+a),()):=by
 dsimp only [qV,EM,Z0]
 by_cases h1:es.length=a
 ·rw [biT (by simp;omega),bF (by omega) (by omega) (by omega),Int.add_zero,lP _ _ _ _ (by omega) (by omega) (by omega),h1]
  simp
 ·rw [biF (by simp;omega)]
  dsimp only [TZ]
  by_cases h2:es.length < a
  ·rw [bdT (by omega)]
   dsimp only [UO,aG2]
   have e1:bG xs ((i:Int)+0) ((xs.length:Int) - i) es=xs.take i++es++xs.drop (i+es.length):=by
    rw [Int.add_zero,lP _ _ _ _ (by omega) (by omega) (by omega)];simp
   have l1:(bG xs ((i:Int)+0) ((xs.length:Int) - i) es).length=xs.length:=vI _ _ _ _ (by omega) (by omega) (by omega)
   simp only [aG (n:=(i:Int)+(es.length:Int)) (by omega) (by omega),aG (n:=(i:Int)+(a:Int)) (by omega) (by omega)]
   generalize hP:bG xs ((i:Int)+0) ((xs.length:Int) - i) es=Q at e1 l1
   have hc:cut Q ((i:Int)+(a:Int)) ((i:Int)+(a:Int)+((Q.length:Int) - ((i:Int)+(a:Int))))=Q.drop (i+a):=by
    rw [eQ _ _ _ (by omega)];congr 1
   have hcd:Q.drop (i+a)=xs.drop (i+a):=by
    rw [e1,List.append_assoc,List.drop_append,List.drop_append]
    simp only [List.length_take,List.drop_drop]
    rw [List.drop_eq_nil_of_le (by simp;omega),List.drop_eq_nil_of_le (by omega)]
    simp only [List.nil_append]
    congr 1;omega
   rw [hc,hcd]
   have e2:bG Q ((i:Int)+(es.length:Int)+0) ((Q.length:Int) - ((i:Int)+(es.length:Int))) (xs.drop (i+a))=Q.take (i+es.length)++xs.drop (i+a)++Q.drop (i+es.length+(xs.length - (i+a))):=by
    rw [Int.add_zero,lP _ _ _ _ (by omega) (by omega) (by simp;omega)]
    have:((i:Int)+(es.length:Int)).toNat=i+es.length:=by omega
    rw [this];simp
   have l2:(bG Q ((i:Int)+(es.length:Int)+0) ((Q.length:Int) - ((i:Int)+(es.length:Int))) (xs.drop (i+a))).length=xs.length:=by
    rw [vI _ _ _ _ (by omega) (by omega) (by simp;omega),l1]
   have e3:Q.take (i+es.length)=xs.take i++es:=by
    rw [e1]
    have:(xs.take i++es).length=i+es.length:=by simp;omega
    rw [←this,List.take_left'];rfl
   rw [e3] at e2
   generalize bG Q ((i:Int)+(es.length:Int)+0) ((Q.length:Int) - ((i:Int)+(es.length:Int))) (xs.drop (i+a))=R at e2 l2
   rw [l2,l1,aG (n:=(xs.length:Int) - (a:Int)) (by omega) (by omega),aG (n:=(xs.length:Int) - (a:Int)+(es.length:Int)) (by omega) (by omega)]
   rw [bF (by omega) (by omega) (by omega),bF (by omega) (by omega) (by omega),bF (by omega) (by omega) (by omega),bF (by omega) (by omega) (by omega)]
   dsimp only [T8,aL3]
   obtain ⟨ys,h4,h5,h6⟩:=aF7 n (fun x0 v9=>QP n (fun x8=>some (x8,())) x0 v9) ((xs.length:Int) - a+es.length) ((xs.length:Int) - a+es.length) ((xs.length:Int) - ((xs.length:Int) - a+es.length)) (by omega) (by omega) (by omega) ((xs.length:Int) - ((xs.length:Int) - a+es.length)).toNat 0 n R (by omega) (by omega) (by unfold Big at hn;omega) (by omega)
   refine Eq.trans h6 ?_
   dsimp only [QP]
   rw [bF (by omega) (by omega) (by omega)]
   have hcut:cut ys 0 (0+((xs.length:Int) - a+es.length - 0))=R.take ((xs.length:Int) - a+es.length).toNat:=by
    rw [cP,←h4];congr 1;omega
   rw [hcut,e2]
   have hlen:(xs.take i++es++xs.drop (i+a)).length=((xs.length:Int) - a+es.length).toNat:=by simp;omega
   rw [←hlen,List.take_left']
   rfl
  ·rw [bdF (by omega)]
   dsimp only [aL2,RE,UT,RL]
   rw [aG (n:=(xs.length:Int) - (a:Int)) (by omega) (by omega),aG (n:=(xs.length:Int) - (a:Int)+(es.length:Int)) (by omega) (by omega)]
   have hneed:(xs.length:Int) - (a:Int)+(es.length:Int)=((xs.length - a+es.length:Nat):Int):=by omega
   refine Eq.trans (b:=g113_12L n (fun x0 v1 v2 x3=>ES n (fun x8=>some (x8,())) x0 v1 v2 x3) n xs (i:Int) (a:Int) es ((xs.length - a+es.length:Nat):Int)) (by rw [hneed]) ?_
   rw [cB1 n _ (i:Int) (a:Int) es (xs.length - a+es.length) (by omega) (es.length - a) n xs (by omega) (by omega) (by unfold Big at hn;omega)]
   dsimp only [ES]
   generalize hG:xs++List.replicate (es.length - a) dz=G
   have lG:G.length=xs.length+(es.length - a):=by rw [←hG];simp
   simp only [aG (n:=(i:Int)+(es.length:Int)) (by omega) (by omega),aG (n:=(i:Int)+(a:Int)) (by omega) (by omega)]
   have hc:cut G ((i:Int)+(a:Int)) ((i:Int)+(a:Int)+((G.length:Int) - ((i:Int)+(a:Int))))=G.drop (i+a):=by
    rw [eQ _ _ _ (by omega)];congr 1
   rw [hc]
   have e2:bG G ((i:Int)+(es.length:Int)+0) ((G.length:Int) - ((i:Int)+(es.length:Int))) (G.drop (i+a))=G.take (i+es.length)++xs.drop (i+a):=by
    unfold bG
    have hm:min ((G.length:Int) - ((i:Int)+(es.length:Int))).toNat (G.drop (i+a)).length=xs.length - (i+a):=by simp;omega
    rw [hm,Int.add_zero,show ((i:Int)+(es.length:Int)).toNat=i+es.length by omega,show G.drop (i+es.length+(xs.length - (i+a)))=[] from List.drop_eq_nil_of_le (by omega),List.append_nil]
    congr 1
    rw [←hG,List.drop_append,List.take_append_of_le_length (by simp),List.take_of_length_le (by simp)]
   have l2:(bG G ((i:Int)+(es.length:Int)+0) ((G.length:Int) - ((i:Int)+(es.length:Int))) (G.drop (i+a))).length=G.length:=by
    rw [e2];simp;omega
   rw [bF (by omega) (by omega) (by omega),bF (by omega) (by omega) (by omega),bF (by omega) (by omega) (by omega)]
   simp only [Int.add_zero] at e2 l2 ⊢
   rw [lP _ _ _ _ (by omega) rfl (by rw [l2];omega),e2]
   have h7:(G.take (i+es.length)++xs.drop (i+a)).take (i:Int).toNat=xs.take i:=by
    rw [List.take_append_of_le_length (by simp;omega),List.take_take,←hG,List.take_append_of_le_length (by simp;omega)]
    congr 1;omega
   have h8:(G.take (i+es.length)++xs.drop (i+a)).drop ((i:Int).toNat+es.length)=xs.drop (i+a):=by
    have:(G.take (i+es.length)).length=(i:Int).toNat+es.length:=by simp;omega
    rw [←this,List.drop_left'];rfl
   rw [h7,h8]
set_option maxRecDepth 100000
theorem eU7 {β:Type} (n:Nat) (hn:Big≤n) (q:DenA kE→Option (DenR hQ)) (kn) (p0) (A P R:List Rp) (t td ti:List Int) (cd ci:Nat) (b:Bool)
  (hA:Hd A) (hcd:cd≠0) (hci:ci≠0) (hP:cd+ci=P.length) (ht:t.length≤1000000000) (htd:td.length≤1000000000) (hti:ti.length≤1000000000) (hl:A.length+P.length+R.length≤1000000000) (hAs:cT A≤1000000000):
  uG (β:=β) n q kn p0 (M (A.reverse++P++(0,t)::R)) ((A.length+P.length:Nat):Int) (cd:Int) (ci:Int) td ti b=
   kn p0 (M ((fac A td ti t).A.reverse++P++(0,(fac A td ti t).t)::R)) (((fac A td ti t).A.length+P.length:Nat):Int) (cd:Int) (ci:Int) (fac A td ti t).td (fac A td ti t).ti:=by
 have hc1:=gW ti td
 have hc2:=fW ti td
 have hs1:=eK (ti.drop (cpl ti td)) (td.drop (cpl ti td))
 have hs2:=dS (ti.drop (cpl ti td)) (td.drop (cpl ti td))
 simp only [List.length_drop] at hs1 hs2
 have hze:=aV t
 unfold uG
 rw [biT (by simp;omega),biT (by simp;omega),OH n hn ti td (by omega),Option.bind_some]
 have hI0:w64 (w64 (((A.length+P.length:Nat):Int) - cd) - ci)=(A.length:Int):=by
  rw [aG (n:=((A.length+P.length:Nat):Int) - cd) (by omega) (by omega),aG (by omega) (by omega)];omega
 rw [hI0]
 have hx1:M (A.reverse++P++(0,t)::R)=M (A.reverse++P)++((0:Int),enc t)::M R:=by rw [bZ,fO]
 have hlm:(M (A.reverse++P++(0,t)::R)).length=A.length+P.length+1+R.length:=by rw [bA];simp;omega
 have hl1:(M (A.reverse++P)).length=A.length+P.length:=by rw [bA];simp
 by_cases hc:cpl ti td=0
 ·
  have hf:fac A td ti t=⟨A,td.take (td.length - csl ti td),ti.take (ti.length - csl ti td),ti.drop (ti.length - csl ti td)++t⟩:=by
   unfold fac;simp only [hc,if_true,List.drop_zero]
  rw [hc] at hs1 hs2
  simp only [List.drop_zero,Nat.sub_zero] at hs1 hs2
  rw [biF (by simp [hc]),uA n hn ti td (by omega) (by omega),Option.bind_some,hf]
  simp only
  by_cases hs:csl ti td=0
  ·rw [biF (by simp [hs]),hs]
   simp
  ·rw [biT (by simpa using hs)]
   have hzd:=aV (ti.drop (ti.length - csl ti td))
   have hw1:w64 ((ti.length:Int) - (csl ti td:Int))=((ti.length - csl ti td:Nat):Int):=by rw [aG (by omega) (by omega)];omega
   have hw2:w64 ((td.length:Int) - (csl ti td:Int))=((td.length - csl ti td:Nat):Int):=by rw [aG (by omega) (by omega)];omega
   simp only [hw1,hw2]
   have hrd:rd (M (A.reverse++P++(0,t)::R)) ((A.length+P.length:Nat):Int) ((0:Int),(⟨#[]⟩:BA))=((0:Int),enc t):=by rw [hx1];exact fM (by rw [hl1])
   rw [hrd]
   have hcut1:cut ti ((ti.length - csl ti td:Nat):Int) (((ti.length - csl ti td:Nat):Int)+((ti.length:Int) - ((ti.length - csl ti td:Nat):Int)))=ti.drop (ti.length - csl ti td):=by
    rw [eQ _ _ _ (by omega)];congr 1
   have hcut2:cut td 0 (0+(((td.length - csl ti td:Nat):Int) - 0))=td.take (td.length - csl ti td):=by rw [cP];congr 1;omega
   have hcut3:cut ti 0 (0+(((ti.length - csl ti td:Nat):Int) - 0))=ti.take (ti.length - csl ti td):=by rw [cP];congr 1;omega
   rw [hcut1,hcut2,hcut3]
   simp only [List.length_drop] at hzd
   rw [bF (by omega) (by omega) (by omega),aP (by omega) (by omega),cA (by show (enc _).size+(enc t).size≤_;omega),aP (by omega) (by omega),bF (by omega) (by omega) (by omega),bF (by omega) (by omega) (by omega)]
   have hset:(M (A.reverse++P++(0,t)::R)).set ((A.length+P.length:Nat):Int).toNat ((0:Int),enc (ti.drop (ti.length - csl ti td))++enc t)=M (A.reverse++P++(0,ti.drop (ti.length - csl ti td)++t)::R):=by
    rw [hx1,iJ (by rw [hl1];omega)];simp only [bZ,fO,aX]
   show kn p0 ((M (A.reverse++P++(0,t)::R)).set ((A.length+P.length:Nat):Int).toNat ((0:Int),enc (ti.drop (ti.length - csl ti td))++enc t)) _ _ _ _ _=_
   rw [hset]
 ·
  rw [biT (by simpa using hc)]
  have hzp:=aV (ti.take (cpl ti td))
  simp only [List.length_take] at hzp
  have hcutP:cut ti 0 (0+(((cpl ti td:Nat):Int) - 0))=ti.take (cpl ti td):=by rw [cP];congr 1;omega
  have hcutI:cut ti ((cpl ti td:Nat):Int) (((cpl ti td:Nat):Int)+((ti.length:Int) - ((cpl ti td:Nat):Int)))=ti.drop (cpl ti td):=by rw [eQ _ _ _ (by omega)];congr 1
  have hcutD:cut td ((cpl ti td:Nat):Int) (((cpl ti td:Nat):Int)+((td.length:Int) - ((cpl ti td:Nat):Int)))=td.drop (cpl ti td):=by rw [eQ _ _ _ (by omega)];congr 1
  simp only [hcutP,hcutI,hcutD]
  rw [uA n hn (ti.drop (cpl ti td)) (td.drop (cpl ti td)) (by simp;omega) (by simp;omega)]
  simp only [Option.bind_some]
  generalize hS:csl (ti.drop (cpl ti td)) (td.drop (cpl ti td))=s at hs1 hs2
  generalize hC:cpl ti td=c at *
  have hw1:w64 ((ti.length:Int) - (c:Int) - (s:Int))=((ti.length - c - s:Nat):Int):=by rw [aG (by omega) (by omega)];omega
  have hw2:w64 ((td.length:Int) - (c:Int) - (s:Int))=((td.length - c - s:Nat):Int):=by rw [aG (by omega) (by omega)];omega
  have hcut1:cut ti ((c:Int)+((ti.length - c - s:Nat):Int)) ((c:Int)+((ti.length - c - s:Nat):Int)+((ti.length:Int) - (c:Int) - ((ti.length - c - s:Nat):Int)))=(ti.drop c).drop ((ti.drop c).length - s):=by
   rw [eQ _ _ _ (by omega),List.drop_drop,List.length_drop];congr 1 <;> omega
  have hcut2:cut td ((c:Int)+0) ((c:Int)+0+(((td.length - c - s:Nat):Int) - 0))=(td.drop c).take ((td.drop c).length - s):=by
   unfold cut;rw [List.length_drop,show ((c:Int)+0).toNat=c by omega,show ((c:Int)+0+(((td.length - c - s:Nat):Int) - 0)).toNat - c=td.length - c - s by omega]
  have hcut3:cut ti ((c:Int)+0) ((c:Int)+0+(((ti.length - c - s:Nat):Int) - 0))=(ti.drop c).take ((ti.drop c).length - s):=by
   unfold cut;rw [List.length_drop,show ((c:Int)+0).toNat=c by omega,show ((c:Int)+0+(((ti.length - c - s:Nat):Int) - 0)).toNat - c=ti.length - c - s by omega]
  have hzd:(enc ((ti.drop c).drop ((ti.drop c).length - s))).size≤4 * ti.length:=Nat.le_trans (aV _) (by simp only [List.length_drop];omega)
  have hf:fac A td ti t=⟨pushE (ti.take c) A,(td.drop c).take ((td.drop c).length - s),(ti.drop c).take ((ti.drop c).length - s),(ti.drop c).drop ((ti.drop c).length - s)++t⟩:=by
   unfold fac;simp only [hC,hS,if_neg hc]
  simp only [hw1,hw2,hcut1,hcut2,hcut3]
  rw [hf]
  have hs0:s=0→(ti.drop c).take ((ti.drop c).length - s)=ti.drop c∧(td.drop c).take ((td.drop c).length - s)=td.drop c∧(ti.drop c).drop ((ti.drop c).length - s)=[]:=by
   rintro rfl;exact ⟨List.take_of_length_le (by simp),List.take_of_length_le (by simp),List.drop_eq_nil_of_le (by simp)⟩
  rcases hA with rfl | ⟨s0,A',rfl⟩
  ·
   have e1:M ([].reverse++P++(0,t)::R)=M P++((0:Int),enc t)::M R:=by simp [bZ,fO]
   have hw3:w64 (((0+P.length:Nat):Int)+1)=((1+P.length:Nat):Int):=by rw [aG (by omega) (by omega)];omega
   rw [bdF (by simp)]
   simp only [List.length_nil,hw3,e1]
   have hlm':([((0:Int),runesBytes (ti.take c))]++(M P++((0:Int),enc t)::M R)).length=1+P.length+1+R.length:=by simp [bA];omega
   have hrd:rd ([((0:Int),runesBytes (ti.take c))]++(M P++((0:Int),enc t)::M R)) ((1+P.length:Nat):Int) ((0:Int),(⟨#[]⟩:BA))=((0:Int),enc t):=by
    rw [←List.append_assoc];exact fM (by simp [bA];omega)
   have hset:∀v,([((0:Int),runesBytes (ti.take c))]++(M P++((0:Int),enc t)::M R)).set ((1+P.length:Nat):Int).toNat v=([((0:Int),runesBytes (ti.take c))]++M P)++v::M R:=by
    intro v;rw [←List.append_assoc];exact iJ (by simp [bA];omega)
   rw [bF (by omega) (by omega) (by omega),cA (by simp [bA];omega),bF (by omega) (by omega) (by omega),bF (by omega) (by omega) (by omega)]
   simp only [hrd,hset]
   by_cases hs:s=0
   ·rw [biF (by simp [hs])]
    obtain ⟨g1,g2,g3⟩:=hs0 hs
    rw [g1,g2,g3]
    simp [pushE,bZ,fO,lL,enc]
   ·rw [biT (by simpa using hs),bF (by omega) (by omega) (by omega),aP (by omega) (by omega),cA (by show (enc _).size+(enc t).size≤_;omega),aP (by omega) (by omega),bF (by omega) (by omega) (by omega),bF (by omega) (by omega) (by omega)]
    simp only [pushE,List.reverse_cons,List.reverse_nil,List.nil_append,bZ,fO,lL,List.length_cons,List.length_nil,Nat.zero_add]
    rw [aX]
  ·
   have e1:M (((0,s0)::A').reverse++P++(0,t)::R)=M A'.reverse++((0:Int),enc s0)::(M P++((0:Int),enc t)::M R):=by simp [bZ,fO,lL]
   have hlen:((0,s0)::A':List Rp).length=A'.length+1:=rfl
   have hw3:w64 ((((0,s0)::A':List Rp).length:Int) - 1)=(A'.length:Int):=by rw [aG (by omega) (by omega)];omega
   have hza:=aV s0
   have hsa:s0.length≤1000000000:=by rw [cE] at hAs;simp only at hAs;omega
   rw [bdT (by omega)]
   simp only [hw3,e1]
   have hrd:rd (M A'.reverse++((0:Int),enc s0)::(M P++((0:Int),enc t)::M R)) (A'.length:Int) ((0:Int),(⟨#[]⟩:BA))=((0:Int),enc s0):=fM (by simp [bA])
   have hset:∀v,(M A'.reverse++((0:Int),enc s0)::(M P++((0:Int),enc t)::M R)).set (A'.length:Int).toNat v=M A'.reverse++v::(M P++((0:Int),enc t)::M R):=fun v=>iJ (by simp [bA])
   have hlm2:∀v:Prt,(M A'.reverse++v::(M P++((0:Int),enc t)::M R)).length=A'.length+1+P.length+1+R.length:=by intro v;simp [bA];omega
   simp only [hrd,hset,hlm2]
   have hrd2:∀v:Prt,rd (M A'.reverse++v::(M P++((0:Int),enc t)::M R)) ((((0,s0)::A':List Rp).length+P.length:Nat):Int) ((0:Int),(⟨#[]⟩:BA))=((0:Int),enc t):=by
    intro v
    have:M A'.reverse++v::(M P++((0:Int),enc t)::M R)=(M A'.reverse++v::M P)++((0:Int),enc t)::M R:=by simp
    rw [this];exact fM (by simp [bA];omega)
   have hset2:∀v u:Prt,(M A'.reverse++v::(M P++((0:Int),enc t)::M R)).set ((((0,s0)::A':List Rp).length+P.length:Nat):Int).toNat u=M A'.reverse++v::(M P++u::M R):=by
    intro v u
    have:M A'.reverse++v::(M P++((0:Int),enc t)::M R)=(M A'.reverse++v::M P)++((0:Int),enc t)::M R:=by simp
    rw [this,iJ (by simp [bA];omega)];simp
   simp only [hrd2,hset2]
   rw [aP (by omega) (by omega),biT (by rfl),aP (by omega) (by omega),bF (by omega) (by omega) (by omega),cA (by show (enc s0).size+(enc _).size≤_;omega),aP (by omega) (by omega),bF (by omega) (by omega) (by omega),bF (by omega) (by omega) (by omega)]
   by_cases hs:s=0
   ·rw [biF (by simp [hs])]
    obtain ⟨g1,g2,g3⟩:=hs0 hs
    rw [g1,g2,g3]
    simp only [pushE,if_true,List.reverse_cons,bZ,fO,lL,List.length_cons,aX,List.nil_append,List.append_assoc,List.singleton_append,List.cons_append]
   ·rw [biT (by simpa using hs),bF (by omega) (by omega) (by omega),aP (by omega) (by omega),cA (by show (enc _).size+(enc t).size≤_;omega),aP (by omega) (by omega),bF (by omega) (by omega) (by omega),bF (by omega) (by omega) (by omega)]
    simp only [pushE,if_true,List.reverse_cons,bZ,fO,lL,List.length_cons,aX,List.nil_append,List.append_assoc,List.singleton_append,List.cons_append]
open Classical in
theorem oT (n:Nat) (x y:BA) (hx:x.size≤1000000000000) (hy:y.size≤1000000000000):aC8 n x y=some (decide (∃u,x=u++y),()):=by
 dsimp only [aC8,aP5,eU2,t6]
 by_cases h:y.size≤x.size
 ·rw [bdT (by omega),aG (by omega) (by omega),bF (by omega) (by omega) (by omega),Option.bind_some]
  have e:eL (bD x ((x.size:Int) - (y.size:Int)) (x.size:Int)) y=decide (∃u,x=u++y):=by
   rw [dE]
   congr 1
   refine propext ⟨fun h1=>⟨bD x 0 ((x.size:Int) - (y.size:Int)),?_⟩,?_⟩
   ·apply cR
    rw [bL,←h1,bT,bT,cP,eQ _ _ _ (by rw [aN];omega)]
    have:((x.size:Int) - ((bD x ((x.size:Int) - (y.size:Int)) (x.size:Int)).size:Int)).toNat=((x.size:Int) - (y.size:Int)).toNat:=by
     rw [iF (by omega) (by omega) (by omega)];omega
    rw [this,List.take_append_drop]
   ·rintro ⟨u,hu⟩
    have hs:=congrArg ByteArray.size hu
    rw [size_append] at hs
    have:=dO u y
    rw [←hu] at this
    rw [show (x.size:Int) - (y.size:Int)=(u.size:Int) by omega]
    exact this
  rw [e]
 ·rw [bdF (by omega),Option.bind_some]
  rw [decide_eq_false]
  rintro ⟨u,hu⟩
  have hs:=congrArg ByteArray.size hu
  rw [size_append] at hs;omega
theorem VS (n:Nat) (x y:List Int) (hx:Valids x) (hy:Valids y) (h1:x.length≤100000000000) (h2:y.length≤100000000000):aC8 n (enc x) (enc y)=some (decide (y <:+x),()):=by
 have e1:=aV x
 have e2:=aV y
 rw [oT n _ _ (by omega) (by omega)]
 congr 2
 simp only [decide_eq_decide]
 constructor
 ·rintro ⟨u,hu⟩
  obtain ⟨c,hc,_⟩:=zB hx hy hu
  exact ⟨c,hc.symm⟩
 ·rintro ⟨c,hc⟩
  exact ⟨enc c,by rw [←hc,aX]⟩
theorem aC6 {x y:List Int} (h:y <:+x):bD (enc x) 0 (((enc x).size:Int) - ((enc y).size:Int))=enc (x.take (x.length - y.length))∧(enc y).size≤(enc x).size:=by
 obtain ⟨c,rfl⟩:=h
 have hs:=cD c y
 refine ⟨?_,by omega⟩
 rw [show ((enc (c++y)).size:Int) - ((enc y).size:Int)=((enc c).size:Int) by omega,aX,cV]
 simp
open Classical in
theorem MV (n:Nat) (x y:BA) (hx:x.size≤1000000000000) (hy:y.size≤1000000000000):dW8 n x y=some (decide (∃u,x=y++u),()):=by
 dsimp only [dW8,w9,eQ8,z6]
 by_cases h:y.size≤x.size
 ·rw [bdT (by omega),bF (by omega) (by omega) (by omega),Option.bind_some]
  have e:eL (bD x 0 (y.size:Int)) y=decide (∃u,x=y++u):=by
   rw [dE]
   congr 1
   refine propext ⟨fun h1=>⟨bD x (y.size:Int) (x.size:Int),?_⟩,?_⟩
   ·apply cR
    rw [bL,bT,eQ _ _ _ (by rw [aN];omega)]
    have:aF y=(aF x).take y.size:=by rw [←h1,bT,cP,h1];simp
    rw [this,show ((y.size:Nat):Int).toNat=y.size by omega,List.take_append_drop]
   ·rintro ⟨u,hu⟩
    have:=cV y u
    rw [←hu] at this
    exact this
  rw [e]
 ·rw [bdF (by omega),Option.bind_some]
  rw [decide_eq_false]
  rintro ⟨u,hu⟩
  have hs:=congrArg ByteArray.size hu
  rw [size_append] at hs;omega
theorem VM (n:Nat) (x y:List Int) (hx:Valids x) (hy:Valids y) (h1:x.length≤100000000000) (h2:y.length≤100000000000):dW8 n (enc x) (enc y)=some (decide (y <+:x),()):=by
 have e1:=aV x
 have e2:=aV y
 rw [MV n _ _ (by omega) (by omega)]
 congr 2
 simp only [decide_eq_decide]
 constructor
 ·rintro ⟨u,hu⟩
  obtain ⟨c,hc,_⟩:=qU hx hy hu
  exact ⟨c,hc.symm⟩
 ·rintro ⟨c,hc⟩
  exact ⟨enc c,by rw [←hc,aX]⟩
theorem aP3 {x y:List Int} (h:y <+:x):bD (enc x) ((enc y).size:Int) ((enc x).size:Int)=enc (x.drop y.length)∧(enc y).size≤(enc x).size:=by
 obtain ⟨c,rfl⟩:=h
 have hs:=cD y c
 refine ⟨?_,by omega⟩
 rw [aX,dO]
 simp
set_option maxRecDepth 100000
theorem OB (u:List Int):∀A:List Rp,cT (pushE u A)=cT A+u.length
 | []=>by simp [pushE,cT]
 | (k,s)::A=>by
  rw [pushE];split
  ·simp [cE];omega
  ·simp [cE];omega
theorem EC:∀A:List Rp,cT A.reverse=cT A
 | []=>rfl
 | d::A=>by rw [List.reverse_cons,dV,EC A];simp [cT];omega
theorem JE:∀P:List Rp,(bC P).length+(bB P).length≤cT P:=fun P=>Nat.le_trans (qM P) (IR P)
theorem cG0 {A P:List Rp} (t:List Int):cT (stepE A P t)≤cT A+cT P+t.length:=by
 have hd:=JE P
 unfold stepE
 split
 ·split
  ·simp only [cE];omega
  ·split
   ·simp only [cE];omega
   ·simp only [cE]
    have hl:=gW (bB P) (bC P)
    have hr:=fW (bB P) (bC P)
    have hl2:=eK ((bB P).drop (cpl (bB P) (bC P))) ((bC P).drop (cpl (bB P) (bC P)))
    have hr2:=dS ((bB P).drop (cpl (bB P) (bC P))) ((bC P).drop (cpl (bB P) (bC P)))
    have e0:cT (fac A (bC P) (bB P) t).A≤cT A+cpl (bB P) (bC P):=by
     unfold fac;simp only;split
     ·omega
     ·rw [OB,List.length_take];omega
    unfold fac at e0 ⊢
    simp only at e0 ⊢
    simp only [List.length_take,List.length_drop,List.length_append] at *
    omega
 ·split
  ·rw [OB];omega
  ·simp only [cE,dV,EC];omega
theorem Hd.stepE (A P:List Rp) (t:List Int) (hA:Hd A):Hd (stepE A P t):=by
 unfold Go.Proofs.YthkiaiilpaojnaaDoorZF.stepE
 split
 ·split
  ·exact .inr ⟨_,_,rfl⟩
  ·split
   ·exact .inr ⟨_,_,rfl⟩
   ·exact .inr ⟨_,_,rfl⟩
 ·split
  ·rcases hA with rfl | ⟨s,A',rfl⟩
   ·exact .inr ⟨_,_,rfl⟩
   ·exact .inr ⟨s++t,A',by simp [pushE]⟩
  ·exact .inr ⟨_,_,rfl⟩
theorem cO3 {A P:List Rp} {t:List Int}:(stepE A P t)≠[]:=by
 unfold Go.Proofs.YthkiaiilpaojnaaDoorZF.stepE
 split
 ·split
  ·simp
  ·split <;> simp
 ·split
  ·cases A with
   | nil=>simp [pushE]
   | cons d A=>obtain ⟨k,s⟩:=d;rw [pushE];split <;> simp
  ·simp
theorem bP5 {β:Type} (n:Nat) (hn:Big≤n) (q:DenA kE→Option (DenR hQ)) (kn) (p0) (A P R:List Rp) (t:List Int) (b:Bool)
  (hA:Hd A) (hP:Eds P) (hOP:Ok P) (h1:1 < P.length) (hl:A.length+P.length+R.length≤1000000000) (hs:cT A+cT P+t.length≤1000000000):
  wT (β:=β) n q kn p0 (M (A.reverse++P++(0,t)::R)) ((A.length+P.length:Nat):Int) (cdR P:Int) (ciR P:Int) (bC P) (bB P) b=
   kn p0 (M ((stepE A P t).reverse++R)) ((stepE A P t).length:Int):=by
 have hc:=uW hP
 have hd:=JE P
 dsimp only [wT]
 have splice_at:∀(A P:List Rp) (t:List Int) (es:List Rp),A.length+P.length+R.length≤1000000010→es.length≤2→qV n (M (A.reverse++P++(0,t)::R)) (A.length:Int) (P.length:Int) (M es)=some (M (A.reverse++es++(0,t)::R),()):=by
  intro A P t es h1 h2
  rw [jQ n hn _ _ A.length P.length (by simp [bA]) (by simp [bA];omega) (by simp [bA];omega)]
  have e1:(M (A.reverse++P++(0,t)::R)).take A.length=M A.reverse:=by
   rw [bZ,bZ,List.append_assoc]
   have:(M A.reverse).length=A.length:=by simp [bA]
   rw [←this,List.take_left'];rfl
  have e2:(M (A.reverse++P++(0,t)::R)).drop (A.length+P.length)=M ((0,t)::R):=by
   rw [bZ]
   have:(M (A.reverse++P)).length=A.length+P.length:=by simp [bA]
   rw [←this,List.drop_left'];rfl
  rw [e1,e2]
  simp [bZ]
 by_cases hcd:cdR P=0
 ·
  have hst:stepE A P t=(0,t)::(1,bB P)::A:=by unfold stepE;rw [if_pos h1,if_pos hcd]
  rw [hst]
  unfold uG
  rw [biF (by simp [hcd])]
  dsimp only [zK]
  rw [biT (by simp [hcd])]
  have hw1:w64 (((A.length+P.length:Nat):Int) - (ciR P:Int))=(A.length:Int):=by rw [aG (by omega) (by omega)];omega
  have hw2:w64 ((cdR P:Int)+(ciR P:Int))=(P.length:Int):=by rw [aG (by omega) (by omega)];omega
  rw [hw1,hw2]
  have:=splice_at A P t [(1,bB P)] (by omega) (by simp)
  rw [show [((1:Int),runesBytes (bB P))]=M [(1,bB P)] from rfl,this,Option.bind_some]
  dsimp only [zA]
  have hw3:w64 (((A.length+P.length:Nat):Int) - (cdR P:Int))=((A.length+P.length:Nat):Int):=by rw [aG (by omega) (by omega)];omega
  have hw4:w64 ((A.length:Int)+1)=((A.length+1:Nat):Int):=by rw [aG (by omega) (by omega)];omega
  have hw5:w64 (((A.length+1:Nat):Int)+1)=((A.length+2:Nat):Int):=by rw [aG (by omega) (by omega)];omega
  rw [biF (by simp [hcd]),hw3,hw1,hw4]
  dsimp only [xM]
  rw [biT (by simp;omega),hw5]
  simp only [List.reverse_cons,List.append_assoc,List.singleton_append,List.cons_append,List.nil_append]
  rfl
 ·by_cases hci:ciR P=0
  ·
   have hst:stepE A P t=(0,t)::(-1,bC P)::A:=by unfold stepE;rw [if_pos h1,if_neg hcd,if_pos hci]
   rw [hst]
   unfold uG
   rw [biT (by simpa using hcd),biF (by simp [hci])]
   dsimp only [zK]
   have hw1:w64 (((A.length+P.length:Nat):Int) - (cdR P:Int))=(A.length:Int):=by rw [aG (by omega) (by omega)];omega
   have hw2:w64 ((cdR P:Int)+(ciR P:Int))=(P.length:Int):=by rw [aG (by omega) (by omega)];omega
   rw [biF (by simpa using hcd),biT (by simp [hci]),hw1,hw2]
   have:=splice_at A P t [(-1,bC P)] (by omega) (by simp)
   rw [show [((-1:Int),runesBytes (bC P))]=M [(-1,bC P)] from rfl,this,Option.bind_some]
   dsimp only [zA]
   have hw3:w64 ((A.length:Int) - (ciR P:Int))=(A.length:Int):=by rw [aG (by omega) (by omega)];omega
   have hw4:w64 ((A.length:Int)+1)=((A.length+1:Nat):Int):=by rw [aG (by omega) (by omega)];omega
   have hw5:w64 (((A.length+1:Nat):Int)+1)=((A.length+2:Nat):Int):=by rw [aG (by omega) (by omega)];omega
   rw [biT (by simpa using hcd),hw1,hw3,hw4,hw5]
   dsimp only [xM]
   rw [biF (by simp [hci])]
   simp only [List.reverse_cons,List.append_assoc,List.singleton_append,List.cons_append,List.nil_append]
   rfl
  ·
   have hst:stepE A P t=(0,(fac A (bC P) (bB P) t).t)::(1,(fac A (bC P) (bB P) t).ti)::(-1,(fac A (bC P) (bB P) t).td)::(fac A (bC P) (bB P) t).A:=by unfold stepE;rw [if_pos h1,if_neg hcd,if_neg hci]
   rw [eU7 n hn q _ p0 A P R t (bC P) (bB P) (cdR P) (ciR P) b hA hcd hci hc (by omega) (by omega) (by omega) hl (by omega),hst]
   have hfl:(fac A (bC P) (bB P) t).A.length≤A.length+1:=by
    unfold fac;simp only;split
    ·omega
    ·cases A with
     | nil=>simp [pushE]
     | cons d A=>obtain ⟨k,s⟩:=d;rw [pushE];split <;> simp
   generalize fac A (bC P) (bB P) t=f at hfl ⊢
   dsimp only [zK]
   have hw1:w64 (((f.A.length+P.length:Nat):Int) - (cdR P:Int))=((f.A.length+ciR P:Nat):Int):=by rw [aG (by omega) (by omega)];omega
   have hw1':w64 (((f.A.length+ciR P:Nat):Int) - (ciR P:Int))=(f.A.length:Int):=by rw [aG (by omega) (by omega)];omega
   have hw2:w64 ((cdR P:Int)+(ciR P:Int))=(P.length:Int):=by rw [aG (by omega) (by omega)];omega
   rw [biF (by simpa using hcd),biF (by simpa using hci),hw1,hw1',hw2]
   have:=splice_at f.A P f.t [(-1,f.td),(1,f.ti)] (by omega) (by simp)
   rw [show [((-1:Int),runesBytes f.td),((1:Int),runesBytes f.ti)]=M [(-1,f.td),(1,f.ti)] from rfl,this,Option.bind_some]
   dsimp only [zA]
   have hw4:w64 ((f.A.length:Int)+1)=((f.A.length+1:Nat):Int):=by rw [aG (by omega) (by omega)];omega
   have hw5:w64 (((f.A.length+1:Nat):Int)+1)=((f.A.length+2:Nat):Int):=by rw [aG (by omega) (by omega)];omega
   have hw6:w64 (((f.A.length+2:Nat):Int)+1)=((f.A.length+3:Nat):Int):=by rw [aG (by omega) (by omega)];omega
   rw [biT (by simpa using hcd),hw1,hw1',hw4,hw5]
   dsimp only [xM]
   rw [biT (by simpa using hci),hw6]
   simp only [List.reverse_cons,List.append_assoc,List.singleton_append,List.cons_append,List.nil_append]
   rfl
theorem yF {β:Type} (n:Nat) (hn:Big≤n) (q:DenA kE→Option (DenR hQ)) (kx) (p0):∀(R A P:List Rp) (m:Nat),R.length < m→Hd A→Eds P→Ok P→Ok R→
    phi A+phi P+phi R≤1000000000→cT A+cT P+cT R≤1000000000→
    g137_30L (β:=β) n q kx m p0 (M (A.reverse++P++R)) ((A.length+P.length:Nat):Int) (cdR P:Int) (ciR P:Int) (bC P) (bB P)=kx p0 (M ((run1 A P R).1.reverse++(run1 A P R).2))
  | [],A,P,m,hm,hA,hP,hOP,hR,hph,hal=>by
    obtain ⟨m,rfl⟩:∃m',m=m'+1:=⟨m - 1,by omega⟩
    rw [g137_30L.eq_2]
    dsimp only [zN,PL]
    rw [bdF (by simp [bA])]
    simp [run1]
  | d::R,A,P,m,hm,hA,hP,hOP,hR,hph,hal=>by
    obtain ⟨m,rfl⟩:∃m',m=m'+1:=⟨m - 1,by simp at hm;omega⟩
    have hlA:A.length≤phi A:=by unfold phi;omega
    have hlP:P.length≤phi P:=by unfold phi;omega
    have hlR:R.length+1≤phi (d::R):=by unfold phi;simp
    have hc:=uW hP
    have hdl:=JE P
    have hx:M (A.reverse++P++d::R)=M (A.reverse++P)++(d.1,enc d.2)::M R:=by rw [bZ,fO]
    have hl1:(M (A.reverse++P)).length=A.length+P.length:=by rw [bA];simp
    have hlm:(M (A.reverse++P++d::R)).length=A.length+P.length+1+R.length:=by rw [bA];simp;omega
    have hrd:rd (M (A.reverse++P++d::R)) ((A.length+P.length:Nat):Int) ((0:Int),(⟨#[]⟩:BA))=(d.1,enc d.2):=by rw [hx];exact fM (by rw [hl1])
    have hop:=hR.of_cons.1
    have hsz:=aV d.2
    have had:=hal
    rw [cE] at had
    have hz1:((A.length+P.length:Nat):Int) < (((M (A.reverse++P++d::R)).length:Nat):Int):=by omega
    have hw1:w64 (((A.length+P.length:Nat):Int)+1)=((A.length+(P.length+1):Nat):Int):=by rw [aG (by omega) (by omega)];omega
    rw [g137_30L.eq_2]
    dsimp only [zN,PL]
    rw [bdT hz1]
    dsimp only [UY,GS,aI5]
    rw [aP (by omega) hz1,hrd]
    dsimp only [XX,GI,aM3,FC]
    by_cases h1:d.1=1
    ·
      have hd0:d.1≠0:=by omega
      have e1:bC (P++[d])=bC P:=by rw [mL];simp [bC,h1]
      have e2:bB (P++[d])=bB P++d.2:=by rw [mK];simp [bB,h1]
      have e3:cdR (P++[d])=cdR P:=by rw [mZ];simp [cdR,h1]
      have e4:ciR (P++[d])=ciR P+1:=by rw [nO];simp [ciR,h1]
      have ih:=yF n hn q kx p0 R A (P++[d]) m (by simp at hm;omega) hA (hP.snoc hop.1 hd0) (hOP.append (Ok.cons' hop Ok.nil)) hR.of_cons.2
        (by rw [fL];have h3:phi (d::R)=phi [d]+phi R:=by rw [←fL];rfl
            omega) (by rw [dV];have h3:cT (d::R)=cT [d]+cT R:=by rw [←dV];rfl
                       omega)
      rw [e1,e2,e3,e4] at ih
      rw [biT (by simp [h1])]
      dsimp only [aG1]
      rw [aP (by omega) hz1,hrd]
      simp only
      rw [fS (by omega),gS hop.2,cA (by omega),hw1,aG (by omega) (by omega)]
      have hrun:run1 A P (d::R)=run1 A (P++[d]) R:=by rw [run1,if_neg hd0]
      rw [hrun,←ih]
      simp
    · rw [biF (by simpa using h1)]
      dsimp only [HD,d7,FP]
      by_cases h2:d.1= -1
      ·
        have hd0:d.1≠0:=by omega
        have e1:bC (P++[d])=bC P++d.2:=by rw [mL];simp [bC,h2]
        have e2:bB (P++[d])=bB P:=by rw [mK];simp [bB,h2]
        have e3:cdR (P++[d])=cdR P+1:=by rw [mZ];simp [cdR,h2]
        have e4:ciR (P++[d])=ciR P:=by rw [nO];simp [ciR,h2]
        have ih:=yF n hn q kx p0 R A (P++[d]) m (by simp at hm;omega) hA (hP.snoc hop.1 hd0) (hOP.append (Ok.cons' hop Ok.nil)) hR.of_cons.2
          (by rw [fL];have h3:phi (d::R)=phi [d]+phi R:=by rw [←fL];rfl
              omega) (by rw [dV];have h3:cT (d::R)=cT [d]+cT R:=by rw [←dV];rfl
                         omega)
        rw [e1,e2,e3,e4] at ih
        rw [biT (by simp [h2])]
        dsimp only [aJ9]
        rw [aP (by omega) hz1,hrd]
        simp only
        rw [fS (by omega),gS hop.2,cA (by omega),hw1,aG (by omega) (by omega)]
        have hrun:run1 A P (d::R)=run1 A (P++[d]) R:=by rw [run1,if_neg hd0]
        rw [hrun,←ih]
        simp
      ·
        have h0:d.1=0:=by have:=hop.1;omega
        obtain ⟨k0,t⟩:=d
        simp only at h0
        subst h0
        rw [biF (by simp)]
        dsimp only [GG,aJ7,GL]
        rw [biT (by simp)]
        dsimp only [FT,aO8,FG]
        have hw2:w64 ((cdR P:Int)+(ciR P:Int))=(P.length:Int):=by rw [aG (by omega) (by omega)];omega
        rw [hw2]
        have hphi:=DE (A:=A) hP t
        have halls:=cG0 (A:=A) (P:=P) t
        simp only at had hsz
        have hrun:run1 A P ((0,t)::R)=run1 (stepE A P t) [] R:=by rw [run1,if_pos rfl]
        have hphR:phi ((0,t)::R)=1+phi R:=by rw [dP];simp
        have ih:=yF n hn q kx p0 R (stepE A P t) [] m (by simp at hm;omega) (Hd.stepE A P t hA) Eds.nil Ok.nil hR.of_cons.2 (by have:phi []=0:=rfl;omega) (by have:cT []=0:=rfl;omega)
        simp only [List.append_nil,List.length_nil,Nat.add_zero,cdR,ciR,bC,bB] at ih
        rw [hrun,←ih]
        by_cases hp:1 < P.length
        · rw [bdT (by omega)]
          rw [bP5 n hn q _ p0 A P R t _ hA hP hOP hp (by omega) (by omega)]
          rfl
        · rw [bdF (by omega)]
          dsimp only [SA]
          by_cases hv:A.length+P.length=0
          ·
            have hA0:A=[]:=List.eq_nil_of_length_eq_zero (by omega)
            have hP0:P=[]:=List.eq_nil_of_length_eq_zero (by omega)
            subst hA0;subst hP0
            rw [biF (by simp),hw1]
            have:stepE [] [] t=[(0,t)]:=by simp [stepE,pushE]
            rw [this]
            rfl
          · rw [biT (by simp;omega)]
            have hw3:w64 (((A.length+P.length:Nat):Int) - 1)=((A.length+P.length - 1:Nat):Int):=by rw [aG (by omega) (by omega)];omega
            rw [hw3,aP (by omega) (by omega)]
            by_cases hP0:P=[]
            ·
              subst hP0
              rcases hA with rfl | ⟨s0,A',rfl⟩
              · simp at hv
              have hza:=aV s0
              have hsa:=had
              rw [cE] at hsa
              simp only at hsa
              have e1:M (((0,s0)::A').reverse++[]++(0,t)::R)=M A'.reverse++((0:Int),enc s0)::(((0:Int),enc t)::M R):=by simp [bZ,fO,lL]
              have hlA':((((0,s0)::A':List Rp).length+([]:List Rp).length - 1:Nat):Int)=(A'.length:Int):=by simp
              have hlA2:((((0,s0)::A':List Rp).length+([]:List Rp).length:Nat):Int)=((A'.length+1:Nat):Int):=by simp
              rw [hlA',hlA2]
              simp only [e1]
              have hrd1:rd (M A'.reverse++((0:Int),enc s0)::(((0:Int),enc t)::M R)) (A'.length:Int) ((0:Int),(⟨#[]⟩:BA))=((0:Int),enc s0):=fM (by simp [bA])
              have hrd2:rd (M A'.reverse++((0:Int),enc s0)::(((0:Int),enc t)::M R)) ((A'.length+1:Nat):Int) ((0:Int),(⟨#[]⟩:BA))=((0:Int),enc t):=by
                have:M A'.reverse++((0:Int),enc s0)::(((0:Int),enc t)::M R)=(M A'.reverse++[((0:Int),enc s0)])++((0:Int),enc t)::M R:=by simp
                rw [this];exact fM (by simp [bA])
              have hset:∀v,(M A'.reverse++((0:Int),enc s0)::(((0:Int),enc t)::M R)).set (A'.length:Int).toNat v=M A'.reverse++v::(((0:Int),enc t)::M R):=fun v=>iJ (by simp [bA])
              simp only [hrd1,hrd2,hset]
              have hll:(M A'.reverse++((0:Int),enc s0)::(((0:Int),enc t)::M R)).length=A'.length+2+R.length:=by simp [bA];omega
              have hll2:∀v:Prt,(M A'.reverse++v::(((0:Int),enc t)::M R)).length=A'.length+2+R.length:=by intro v;simp [bA];omega
              have hlA3:((0,s0)::A':List Rp).length=A'.length+1:=rfl
              rw [biT (by rfl),aP (by omega) (by omega),aP (by omega) (by omega),cA (by show (enc s0).size+(enc t).size≤_;omega),aP (by omega) (by omega)]
              have hw4:w64 (((A'.length+1:Nat):Int)+1)=((A'.length+2:Nat):Int):=by rw [aG (by omega) (by omega)];omega
              simp only [hw4,hll2]
              have hc1:∀v:Prt,cut (M A'.reverse++v::(((0:Int),enc t)::M R)) 0 (0+(((A'.length+1:Nat):Int) - 0))=M A'.reverse++[v]:=by
                intro v
                rw [cP,show (0+(((A'.length+1:Nat):Int) - 0)).toNat=(M A'.reverse++[v]).length by simp [bA]]
                have:M A'.reverse++v::(((0:Int),enc t)::M R)=(M A'.reverse++[v])++(((0:Int),enc t)::M R):=by simp
                rw [this,List.take_left'];rfl
              have hc2:∀v:Prt,cut (M A'.reverse++v::(((0:Int),enc t)::M R)) ((A'.length+2:Nat):Int) (((A'.length+2:Nat):Int)+(((A'.length+2+R.length:Nat):Int) - ((A'.length+2:Nat):Int)))=M R:=by
                intro v
                rw [eQ _ _ _ (by rw [hll2];omega),show (((A'.length+2:Nat):Int)).toNat=(M A'.reverse++[v,((0:Int),enc t)]).length by simp [bA];omega]
                have:M A'.reverse++v::(((0:Int),enc t)::M R)=(M A'.reverse++[v,((0:Int),enc t)])++M R:=by simp
                rw [this,List.drop_left'];rfl
              simp only [hc1,hc2]
              rw [bF (by omega) (by omega) (by omega),bF (by omega) (by omega) (by omega),cA (by simp [bA];omega)]
              have hst:stepE ((0,s0)::A') [] t=(0,s0++t)::A':=by simp [stepE,pushE]
              rw [hst]
              simp only [FN,List.reverse_cons,bZ,fO,lL,aX,List.length_cons,List.append_assoc,List.singleton_append]
              rfl
            ·
              have hPl:P.length=1:=by
                have:P.length≠0:=fun h=>hP0 (List.eq_nil_of_length_eq_zero h)
                omega
              obtain ⟨e,rfl⟩:∃e,P=[e]:=by
                match P,hPl with
                | [e],_=>exact ⟨e,rfl⟩
              have hrd1:rd (M (A.reverse++[e]++(0,t)::R)) ((A.length+[e].length - 1:Nat):Int) ((0:Int),(⟨#[]⟩:BA))=(e.1,enc e.2):=by
                have:M (A.reverse++[e]++(0,t)::R)=M A.reverse++(e.1,enc e.2)::M ((0,t)::R):=by simp [bZ,fO,lL]
                rw [this];exact fM (by simp [bA])
              have he:=hP e (by simp)
              rw [hrd1,biF (by show (e.1==0)=false;rcases he with h | h <;> rw [h] <;> rfl),hw1]
              have hst:stepE A [e] t=(0,t)::e::A:=by simp [stepE]
              rw [hst]
              simp only [FN,List.reverse_cons,List.length_cons,List.length_nil,List.append_assoc,List.singleton_append]
              rfl
set_option maxRecDepth 100000
theorem dN0 {β:Type} (n:Nat) (hn:Big≤n) (q0:DenA kE→Option (DenR hQ)) (kx) (p0):∀(k:Nat) (R A:List Rp) (ch:Bool) (m:Nat),R.length=k→k < m→Ok A→Ok R→
  A.length+R.length≤1000000000→cT A+cT R≤1000000000→
  g137_35L (β:=β) n q0 kx m p0 (M (A.reverse++R)) ((A.length+1:Nat):Int) ch=kx p0 (M (slide A R ch).1) (slide A R ch).2:=by
 intro k
 induction k using Nat.strongRecOn with
 | _ k ih=>
  intro R A ch m hk hm hA hR hl hal
  obtain ⟨m,rfl⟩:∃m',m=m'+1:=⟨m - 1,by omega⟩
  have hlm:(M (A.reverse++R)).length=A.length+R.length:=by rw [bA];simp
  have hw0:w64 (((M (A.reverse++R)).length:Int) - 1)=(A.length:Int)+(R.length:Int) - 1:=by rw [aG (by omega) (by omega)];omega
  rw [g137_35L.eq_2]
  unfold QZ
  rw [hw0]
  by_cases h3:R.length < 3
  ·rw [bdF (by omega)]
   have:slide A R ch=(A.reverse++R,ch):=by
    match R,h3 with
    | [],_=>unfold slide;rfl
    | [p],_=>unfold slide;rfl
    | [p,c],_=>unfold slide;rfl
   rw [this]
  ·obtain ⟨p,c,q,R,rfl⟩:∃p c q R',R=p::c::q::R':=by
    match R,h3 with
    | [],h3=>simp at h3
    | [p],h3=>simp at h3
    | [p,c],h3=>simp at h3
    | p::c::q::R,_=>exact ⟨p,c,q,R,rfl⟩
   ·skip
    have hRl:(p::c::q::R).length=R.length+3:=rfl
    have hp:=hR.of_cons.1
    have hc:=hR.of_cons.2.of_cons.1
    have hq:=hR.of_cons.2.of_cons.2.of_cons.1
    have hR':=hR.of_cons.2.of_cons.2.of_cons.2
    simp only [cE] at hal
    have hzp:=aV p.2
    have hzc:=aV c.2
    have hzq:=aV q.2
    have hx:M (A.reverse++p::c::q::R)=M A.reverse++(p.1,enc p.2)::(c.1,enc c.2)::(q.1,enc q.2)::M R:=by rw [bZ];rfl
    have hAl:(M A.reverse).length=A.length:=by simp [bA]
    have hwm:w64 (((A.length+1:Nat):Int) - 1)=(A.length:Int):=by rw [aG (by omega) (by omega)];omega
    have hwp:w64 (((A.length+1:Nat):Int)+1)=((A.length+2:Nat):Int):=by rw [aG (by omega) (by omega)];omega
    have g0:∀u v w:Prt,rd (M A.reverse++u::v::w::M R) (A.length:Int) ((0:Int),(⟨#[]⟩:BA))=u:=fun u v w=>fM (by rw [hAl])
    have g1:∀u v w:Prt,rd (M A.reverse++u::v::w::M R) ((A.length+1:Nat):Int) ((0:Int),(⟨#[]⟩:BA))=v:=fun u v w=>by
     have:M A.reverse++u::v::w::M R=(M A.reverse++[u])++v::w::M R:=by simp
     rw [this];exact fM (by simp [hAl])
    have g2:∀u v w:Prt,rd (M A.reverse++u::v::w::M R) ((A.length+2:Nat):Int) ((0:Int),(⟨#[]⟩:BA))=w:=fun u v w=>by
     have:M A.reverse++u::v::w::M R=(M A.reverse++[u,v])++w::M R:=by simp
     rw [this];exact fM (by simp [hAl])
    have s0:∀u v w x:Prt,(M A.reverse++u::v::w::M R).set (A.length:Int).toNat x=M A.reverse++x::v::w::M R:=fun u v w x=>iJ (by rw [hAl];omega)
    have s1:∀u v w x:Prt,(M A.reverse++u::v::w::M R).set ((A.length+1:Nat):Int).toNat x=M A.reverse++u::x::w::M R:=fun u v w x=>by
     have:M A.reverse++u::v::w::M R=(M A.reverse++[u])++v::w::M R:=by simp
     rw [this,iJ (by simp [hAl])];simp
    have s2:∀u v w x:Prt,(M A.reverse++u::v::w::M R).set ((A.length+2:Nat):Int).toNat x=M A.reverse++u::v::x::M R:=fun u v w x=>by
     have:M A.reverse++u::v::w::M R=(M A.reverse++[u,v])++w::M R:=by simp
     rw [this,iJ (by simp [hAl];omega)];simp
    have ll:∀u v w:Prt,(M A.reverse++u::v::w::M R).length=A.length+3+R.length:=fun u v w=>by simp [bA];omega
    have skip:g137_35L (β:=β) n q0 kx m p0 (M A.reverse++(p.1,enc p.2)::(c.1,enc c.2)::(q.1,enc q.2)::M R) ((A.length+2:Nat):Int) ch=kx p0 (M (slide (p::A) (c::q::R) ch).1) (slide (p::A) (c::q::R) ch).2:=by
     have:=ih (c::q::R).length (by rw [←hk];simp) (c::q::R) (p::A) ch m rfl (by simp at hk ⊢;omega) (Ok.cons' hp hA) hR.of_cons.2 (by simp at hl ⊢;omega) (by simp only [cE];omega)
     rw [←this]
     have e:M ((p::A).reverse++c::q::R)=M A.reverse++(p.1,enc p.2)::(c.1,enc c.2)::(q.1,enc q.2)::M R:=by
      simp [bZ,fO,lL]
     rw [e];rfl
    rw [bdT (by omega)]
    simp only [hwm,hwp,hx,g0,g1,g2,ll]
    rw [aP (by omega) (by omega),aP (by omega) (by omega),aP (by omega) (by omega),aP (by omega) (by omega)]
    rw [slide]
    by_cases hp0:p.1=0
    ·rw [biT (by simpa using hp0)]
     by_cases hq0:q.1=0
     ·rw [biT (by simpa using hq0),if_pos ⟨hp0,hq0⟩,VS n _ _ hc.2 hp.2 (by omega) (by omega),Option.bind_some]
      by_cases hs:p.2 <:+c.2
      ·
       rw [if_pos hs,biT (by simpa using hs)]
       obtain ⟨e1,e2⟩:=aC6 hs
       have hwc:w64 (((enc c.2).size:Int) - ((enc p.2).size:Int))=((enc c.2).size:Int) - ((enc p.2).size:Int):=aG (by omega) (by omega)
       have hzt:=aV (c.2.take (c.2.length - p.2.length))
       simp only [List.length_take] at hzt
       simp only [hwc,e1,s1,ll,g0,g1,g2,s2]
       simp (disch:=omega) only [aP,bF,cA]
       have hsp:=jQ n hn (M A.reverse++(p.1,enc p.2)::(c.1,enc p.2++enc (c.2.take (c.2.length - p.2.length)))::(q.1,enc p.2++enc q.2)::M R) [] A.length 1 (by rw [ll];omega) (by rw [ll];omega) (by simp)
       have ht:(M A.reverse++(p.1,enc p.2)::(c.1,enc p.2++enc (c.2.take (c.2.length - p.2.length)))::(q.1,enc p.2++enc q.2)::M R).take A.length=M A.reverse:=by rw [←hAl,List.take_left'];rfl
       have hd:(M A.reverse++(p.1,enc p.2)::(c.1,enc p.2++enc (c.2.take (c.2.length - p.2.length)))::(q.1,enc p.2++enc q.2)::M R).drop (A.length+1)=(c.1,enc p.2++enc (c.2.take (c.2.length - p.2.length)))::(q.1,enc p.2++enc q.2)::M R:=by
        have:M A.reverse++(p.1,enc p.2)::(c.1,enc p.2++enc (c.2.take (c.2.length - p.2.length)))::(q.1,enc p.2++enc q.2)::M R=(M A.reverse++[(p.1,enc p.2)])++(c.1,enc p.2++enc (c.2.take (c.2.length - p.2.length)))::(q.1,enc p.2++enc q.2)::M R:=by simp
        rw [this,show A.length+1=(M A.reverse++[(p.1,enc p.2)]).length by simp [hAl],List.drop_left'];rfl
       rw [ht,hd] at hsp
       rw [show (1:Int)=((1:Nat):Int) from rfl,hsp,Option.bind_some]
       have:=ih (((q.1,p.2++q.2)::R:List Rp)).length (by rw [←hk];simp) ((q.1,p.2++q.2)::R) ((c.1,p.2++c.2.take (c.2.length - p.2.length))::A) true m rfl (by simp at hk ⊢;omega)
        (Ok.cons' ⟨hc.1,hp.2.append (hc.2.take _)⟩ hA) (Ok.cons' ⟨hq.1,hp.2.append hq.2⟩ hR') (by simp at hl ⊢;omega) (by have:=hs.length_le;simp only [cE,List.length_append,List.length_take];omega)
       rw [←this]
       have e:M (((c.1,p.2++c.2.take (c.2.length - p.2.length))::A).reverse++(q.1,p.2++q.2)::R)=M A.reverse++[]++(c.1,enc p.2++enc (c.2.take (c.2.length - p.2.length)))::(q.1,enc p.2++enc q.2)::M R:=by
        simp [bZ,fO,lL,aX]
       rw [e];rfl
      ·rw [if_neg hs,biF (by simpa using hs),aP (by omega) (by omega),aP (by omega) (by omega),VM n _ _ hc.2 hq.2 (by omega) (by omega),Option.bind_some]
       by_cases hs2:q.2 <+:c.2
       ·
        rw [if_pos hs2,biT (by simpa using hs2)]
        obtain ⟨e1,e2⟩:=aP3 hs2
        have hzt:=aV (c.2.drop q.2.length)
        simp only [List.length_drop] at hzt
        simp only [s0,ll,g0,g1,g2,s1,e1]
        simp (disch:=omega) only [aP,bF,cA]
        have hsp:=jQ n hn (M A.reverse++(p.1,enc p.2++enc q.2)::(c.1,enc (c.2.drop q.2.length)++enc q.2)::(q.1,enc q.2)::M R) [] (A.length+2) 1 (by rw [ll];omega) (by rw [ll];omega) (by simp)
        have hre:M A.reverse++(p.1,enc p.2++enc q.2)::(c.1,enc (c.2.drop q.2.length)++enc q.2)::(q.1,enc q.2)::M R=(M A.reverse++[(p.1,enc p.2++enc q.2),(c.1,enc (c.2.drop q.2.length)++enc q.2)])++(q.1,enc q.2)::M R:=by simp
        have ht:(M A.reverse++(p.1,enc p.2++enc q.2)::(c.1,enc (c.2.drop q.2.length)++enc q.2)::(q.1,enc q.2)::M R).take (A.length+2)=M A.reverse++[(p.1,enc p.2++enc q.2),(c.1,enc (c.2.drop q.2.length)++enc q.2)]:=by
         rw [hre,show A.length+2=(M A.reverse++[(p.1,enc p.2++enc q.2),(c.1,enc (c.2.drop q.2.length)++enc q.2)]).length by simp [hAl],List.take_left'];rfl
        have hd:(M A.reverse++(p.1,enc p.2++enc q.2)::(c.1,enc (c.2.drop q.2.length)++enc q.2)::(q.1,enc q.2)::M R).drop (A.length+2+1)=M R:=by
         have:M A.reverse++(p.1,enc p.2++enc q.2)::(c.1,enc (c.2.drop q.2.length)++enc q.2)::(q.1,enc q.2)::M R=(M A.reverse++[(p.1,enc p.2++enc q.2),(c.1,enc (c.2.drop q.2.length)++enc q.2),(q.1,enc q.2)])++M R:=by simp
         rw [this,show A.length+2+1=(M A.reverse++[(p.1,enc p.2++enc q.2),(c.1,enc (c.2.drop q.2.length)++enc q.2),(q.1,enc q.2)]).length by simp [hAl],List.drop_left'];rfl
        rw [ht,hd] at hsp
        rw [show (1:Int)=((1:Nat):Int) from rfl,hsp,Option.bind_some]
        have:=ih (((c.1,c.2.drop q.2.length++q.2)::R:List Rp)).length (by rw [←hk];simp) ((c.1,c.2.drop q.2.length++q.2)::R) ((p.1,p.2++q.2)::A) true m rfl (by simp at hk ⊢;omega)
         (Ok.cons' ⟨hp.1,hp.2.append hq.2⟩ hA) (Ok.cons' ⟨hc.1,(hc.2.drop _).append hq.2⟩ hR') (by simp at hl ⊢;omega) (by have:=hs2.length_le;simp only [cE,List.length_append,List.length_drop];omega)
        rw [←this]
        have e:M (((p.1,p.2++q.2)::A).reverse++(c.1,c.2.drop q.2.length++q.2)::R)=M A.reverse++[(p.1,enc p.2++enc q.2),(c.1,enc (c.2.drop q.2.length)++enc q.2)]++[]++M R:=by
         simp [bZ,fO,lL,aX]
        rw [e];rfl
       ·rw [if_neg hs2,biF (by simpa using hs2)]
        exact skip
     ·rw [biF (by simpa using hq0),if_neg (fun h=>hq0 h.2)]
      exact skip
    ·rw [biF (by simpa using hp0),if_neg (fun h=>hp0 h.1)]
     exact skip
theorem o9 (n:Nat) (hn:Big≤n) (q0:DenA kE→Option (DenR hQ)) (p0) (x:List Rp) (hx:Ok x) (hph:phi x≤100000000) (hal:cT x≤100000000):
  PU n q0 p0 (M x)=if (slide [] (join1 x) false).2=true then (q0 (p0,(M (slide [] (join1 x) false).1,()))).bind (fun r=>some (r.1,())) else some (M (slide [] (join1 x) false).1,()):=by
 have hB:(4611686018427387904:Nat)≤n:=hn
 have hlx:x.length≤phi x:=by unfold phi;omega
 dsimp only [PU,FQ,s8]
 rw [cA (by simp [bA];omega)]
 dsimp only [SR,RG]
 have hx0:Ok (x++[(0,[])]):=hx.append (Ok.cons' ⟨.inr (.inl rfl),Valids.nil⟩ Ok.nil)
 have e0:M x++[((0:Int),(⟨#[]⟩:BA))]=M ([].reverse++[]++(x++[(0,[])])):=by simp [bZ,fO,lL];rfl
 have hp0:phi (x++[(0,[])])=phi x+1:=by rw [fL];rfl
 have ha0:cT (x++[(0,[])])=cT x:=by rw [dV];rfl
 have h1:=yF (β:=DenR hQ) n hn q0 (fun p0 x1=>GU n q0 (fun p0 x1=>xE n q0 (fun p0 x1 v5 v14=>xX n q0 (fun p0 x1 v14=>tV n q0 (fun x4=>some (x4,())) p0 x1 v14) p0 x1 v5 v14) p0 x1) p0 x1) p0 (x++[(0,[])]) [] [] n (by simp;omega) (.inl rfl) Eds.nil Ok.nil hx0 (by have:phi []=0:=rfl;omega) (by have:cT []=0:=rfl;omega)
 rw [e0]
 refine Eq.trans h1 ?_
 have hrun:(run1 [] [] (x++[(0,[])])).1=stepE (run1 [] [] x).1 (run1 [] [] x).2 []∧(run1 [] [] (x++[(0,[])])).2=[]:=by
  have key:∀(R A P:List Rp),run1 A P (R++[(0,[])])=(stepE (run1 A P R).1 (run1 A P R).2 [],[]):=by
   intro R
   induction R with
   | nil=>intro A P;rfl
   | cons d R ih=>intro A P;rw [List.cons_append,run1,run1];split <;> exact ih _ _
  rw [key];exact ⟨rfl,rfl⟩
 rw [hrun.1,hrun.2,List.append_nil]
 have hne:=cO3 (A:=(run1 [] [] x).1) (P:=(run1 [] [] x).2) (t:=[])
 have hok:Ok (stepE (run1 [] [] x).1 (run1 [] [] x).2 []):=(Ok.run1 Ok.nil Ok.nil hx).1.stepE (Ok.run1 Ok.nil Ok.nil hx).2 Valids.nil
 have hphs:phi (stepE (run1 [] [] x).1 (run1 [] [] x).2 [])≤phi x+1:=by
  have h2:=lM x [] [] Eds.nil hx.ops
  have h3:=DE (A:=(run1 [] [] x).1) h2.2 []
  have:phi []=0:=rfl
  omega
 have hjoin:join1 x=(chop (stepE (run1 [] [] x).1 (run1 [] [] x).2 [])).reverse:=rfl
 have hokj:=hx.join1
 have hphj:=pH hx.ops
 have haj:cT (join1 x)≤2 * cT x:=by
  have h2:=nX hx.ops
  have h3:=lX (x:=join1 x)
  rw [h2.1,h2.2] at h3
  have:=cJ8 x
  omega
 have hlj:(join1 x).length≤phi (join1 x):=by unfold phi;omega
 have second:xE n q0 (fun p0 x1 v5 v14=>xX n q0 (fun p0 x1 v14=>tV n q0 (fun x4=>some (x4,())) p0 x1 v14) p0 x1 v5 v14) p0 (M (join1 x))=if (slide [] (join1 x) false).2=true then (q0 (p0,(M (slide [] (join1 x) false).1,()))).bind (fun r=>some (r.1,())) else some (M (slide [] (join1 x) false).1,()):=by
  dsimp only [xE,xX,XN]
  have h4:=dN0 (β:=DenR hQ) n hn q0 (fun p0 x1 v14=>tV n q0 (fun x4=>some (x4,())) p0 x1 v14) p0 (join1 x).length (join1 x) [] false n rfl (by omega) Ok.nil hokj (by simp;omega) (by have:cT []=0:=rfl;omega)
  refine Eq.trans h4 ?_
  dsimp only [tV]
  cases (slide [] (join1 x) false).2 with
  | true=>rfl
  | false=>rfl
 rw [hjoin] at second ⊢
 generalize stepE (run1 [] [] x).1 (run1 [] [] x).2 []=y at *
 rw [←second]
 match y,hne,hok,hphs with
 | (k0,s)::A,_,hok,hphs=>
  have hlA:A.length+1≤phi ((k0,s)::A):=by unfold phi;simp
  have hrev:M ((k0,s)::A).reverse=M A.reverse++[(k0,enc s)]:=by simp [bZ,fO,lL]
  have hll:(M ((k0,s)::A).reverse).length=A.length+1:=by simp [bA]
  dsimp only [GU]
  have hw:w64 (((M ((k0,s)::A).reverse).length:Int) - 1)=(A.length:Int):=by rw [aG (by omega) (by omega)];omega
  rw [hw,aP (by omega) (by omega)]
  have hrd:rd (M ((k0,s)::A).reverse) (A.length:Int) ((0:Int),(⟨#[]⟩:BA))=(k0,enc s):=by rw [hrev];exact fM (by simp [bA])
  rw [hrd]
  by_cases hs:s=[]
  ·rw [biT (by subst hs;rfl),bF (by omega) (by omega) (by omega)]
   have hcut:cut (M ((k0,s)::A).reverse) 0 (0+((A.length:Int) - 0))=M A.reverse:=by
    rw [cP,hrev,show (0+((A.length:Int) - 0)).toNat=(M A.reverse).length by simp [bA],List.take_left'];rfl
   rw [hcut]
   have:chop ((k0,s)::A)=A:=by rw [chop,if_pos hs]
   rw [this]
   rfl
  ·rw [biF (by
    have:=enc_size_zero (x:=s)
    have:(enc s).size≠0:=fun h=>hs (this.1 h)
    have h0:((enc s).size:Int)≠0:=by omega
    show (((enc s).size:Int)==0)=false
    exact beq_false_of_ne h0)]
   have:chop ((k0,s)::A)=(k0,s)::A:=by rw [chop,if_neg hs]
   rw [this]
   rfl
theorem OW {x:List Rp} (hx:Ops x) (h:(slide [] (join1 x) false).2=true):phi (slide [] (join1 x) false).1 < phi x:=by
 have h1:=tR _ [] (join1 x) false rfl
 have h2:=pH hx
 rw [if_pos ⟨h,rfl⟩] at h1
 have:phi []=0:=rfl
 omega
theorem oO:∀(k j:Nat) {x:List Rp},Ok x→phi x < k→phi x < j→mergeN k x=mergeN j x
 | 0,_,x,_,h,_=>by omega
 | _+1,0,x,_,_,h=>by omega
 | k+1,j+1,x,hx,hk,hj=>by
  rw [mergeN,mergeN]
  split
  ·rename_i h
   have:=OW hx.ops h
   exact oO k j (Ok.slide _ rfl Ok.nil hx.join1) (by omega) (by omega)
  ·rfl
theorem cJ1 (n:Nat) (hn:Big≤n) (p0):∀(k:Nat) (x:List Rp),Ok x→phi x < k→phi x≤100000000→(bQ x).length+(bP x).length≤100000000→nF n k (p0,(M x,()))=some (M (merge x),()):=by
 intro k
 induction k with
 | zero=>intro x _ h;omega
 | succ k ih=>
  intro x hx hk hph hal
  have h1:=o9 n hn (nF n k) p0 x hx hph (Nat.le_trans lX hal)
  refine Eq.trans (show _=PU n (nF n k) p0 (M x) from rfl) ?_
  rw [h1]
  have hst:=oO (phi x+1) (phi x+1+1) hx (by omega) (by omega)
  unfold merge
  rw [hst,mergeN]
  have hjt:=nX hx.ops
  have hst2:=sQ _ [] (join1 x) false rfl
  simp only [List.reverse_nil,List.nil_append] at hst2
  split
  ·rename_i h
   have h2:=OW hx.ops h
   have h3:Ok (slide [] (join1 x) false).1:=Ok.slide _ rfl Ok.nil hx.join1
   have h4:=ih _ h3 (by omega) (by omega) (by rw [hst2.1,hst2.2.1,hjt.1,hjt.2];exact hal)
   rw [h4]
   refine (show _=some (M (merge (slide [] (join1 x) false).1),()) from rfl).trans ?_
   unfold merge
   rw [oO (phi (slide [] (join1 x) false).1+1) (phi x+1) h3 (by omega) (by omega)]
  ·rfl
theorem Q2 (n:Nat) (hn:Big≤n) (p0) (x:List Rp) (hx:Ok x) (hph:phi x≤100000000) (hal:(bQ x).length+(bP x).length≤100000000):cE1 n p0 (M x)=some (M (merge x),()):=
 cJ1 n hn p0 n x hx (by unfold Big at hn;omega) hph hal
def dst:List Int→List Int→Nat
 | [],v=>v.length
 | a::u,[]=>u.length+1
 | a::u,b::v=>if a=b then dst u v else 1+min (dst u (b::v)) (dst (a::u) v)
 termination_by u v=>u.length+v.length
theorem gB (v:List Int):dst [] v=v.length:=by unfold dst;rfl
theorem fX (u:List Int):dst u []=u.length:=by cases u <;> (unfold dst;simp)
theorem fF (a b:Int) (u v:List Int):dst (a::u) (b::v)=if a=b then dst u v else 1+min (dst u (b::v)) (dst (a::u) v):=by
 conv=>lhs;unfold dst
theorem xV (a:Int) (u v:List Int):dst (a::u) (a::v)=dst u v:=by rw [fF,if_pos rfl]
theorem nU:∀(n:Nat) (u v:List Int),u.length+v.length≤n→
  (∀a,dst (a::u) v≤1+dst u v∧dst u v≤1+dst (a::u) v)∧(∀b,dst u (b::v)≤1+dst u v∧dst u v≤1+dst u (b::v)):=by
 intro n
 induction n with
 | zero=>
  intro u v h
  have hu:u=[]:=List.eq_nil_of_length_eq_zero (by omega)
  have hv:v=[]:=List.eq_nil_of_length_eq_zero (by omega)
  subst hu;subst hv
  refine ⟨fun a=>?_,fun b=>?_⟩ <;> simp [gB,fX]
 | succ n ih=>
  intro u v h
  refine ⟨fun a=>?_,fun b=>?_⟩
  ·match v,h with
   | [],h=>simp [fX];omega
   | b::v,h=>
    rw [fF]
    split
    ·have h1:=((ih u v (by simp at h;omega)).2 b)
     omega
    ·refine ⟨by omega,?_⟩
     have h2:=(ih u v (by simp at h;omega)).1 a
     have h3:=(ih u v (by simp at h;omega)).2 b
     omega
  ·match u,h with
   | [],h=>simp [gB];omega
   | a::u,h=>
    rw [fF]
    split
    ·have h1:=((ih u v (by simp at h;omega)).1 a)
     omega
    ·refine ⟨by omega,?_⟩
     have h2:=(ih u v (by simp at h;omega)).1 a
     have h3:=(ih u v (by simp at h;omega)).2 b
     omega
theorem c8 (a:Int) (u v:List Int):dst (a::u) v≤1+dst u v:=((nU _ u v (Nat.le_refl _)).1 a).1
theorem aX1 (a:Int) (u v:List Int):dst u v≤1+dst (a::u) v:=((nU _ u v (Nat.le_refl _)).1 a).2
theorem aM1 (b:Int) (u v:List Int):dst u (b::v)≤1+dst u v:=((nU _ u v (Nat.le_refl _)).2 b).1
theorem aW5 (b:Int) (u v:List Int):dst u v≤1+dst u (b::v):=((nU _ u v (Nat.le_refl _)).2 b).2
theorem cZ5 (a b:Int) (u v:List Int):dst u v≤dst (a::u) (b::v):=by
 rw [fF]
 split
 ·omega
 ·have h1:=aW5 b u v
  have h2:=aX1 a u v
  omega
theorem wI:∀(n:Nat) (u v:List Int),u.length+v.length≤n→u.length≤dst u v+v.length∧v.length≤dst u v+u.length∧(dst u v+u.length+v.length) % 2=0∧dst u v≤u.length+v.length
 | n,[],v,_=>by rw [gB];simp;omega
 | n,a::u,[],_=>by rw [fX];simp;omega
 | 0,a::u,b::v,h=>by simp at h
 | n+1,a::u,b::v,h=>by
  have h1:=wI n u v (by simp at h;omega)
  have h2:=wI n u (b::v) (by simp at h ⊢;omega)
  have h3:=wI n (a::u) v (by simp at h ⊢;omega)
  rw [fF]
  simp only [List.length_cons] at h h2 h3 ⊢
  split <;> omega
theorem VW (u v:List Int):u.length≤dst u v+v.length∧v.length≤dst u v+u.length:=⟨(wI _ u v (Nat.le_refl _)).1,(wI _ u v (Nat.le_refl _)).2.1⟩
theorem bN4 (u v:List Int):(dst u v+u.length+v.length) % 2=0:=(wI _ u v (Nat.le_refl _)).2.2.1
theorem eW5 (u v:List Int):dst u v≤u.length+v.length:=(wI _ u v (Nat.le_refl _)).2.2.2
theorem LX:∀(u w v:List Int),dst (u++w) v≤u.length+dst w v
 | [],w,v=>by simp
 | a::u,w,v=>by
  have:=LX u w v
  have:=c8 a (u++w) v
  simp;omega
theorem JH:∀(u w v:List Int),dst v (u++w)≤u.length+dst v w
 | [],w,v=>by simp
 | a::u,w,v=>by
  have:=JH u w v
  have:=aM1 a v (u++w)
  simp;omega
theorem qQ:∀(n:Nat) (u1 v1 u2 v2:List Int),u1.length+v1.length≤n→dst (u1++u2) (v1++v2)≤dst u1 v1+dst u2 v2
 | n,[],v1,u2,v2,_=>by rw [gB];exact JH v1 v2 u2
 | n,a::u,[],u2,v2,_=>by rw [fX];exact LX (a::u) u2 v2
 | 0,a::u,b::v,_,_,h=>by simp at h
 | n+1,a::u,b::v,u2,v2,h=>by
  have h1:=qQ n u v u2 v2 (by simp at h;omega)
  have h2:=qQ n u (b::v) u2 v2 (by simp at h ⊢;omega)
  have h3:=qQ n (a::u) v u2 v2 (by simp at h ⊢;omega)
  simp only [List.cons_append] at h2 h3 ⊢
  rw [fF,fF]
  split <;> omega
theorem EX (u1 v1 u2 v2:List Int):dst (u1++u2) (v1++v2)≤dst u1 v1+dst u2 v2:=qQ _ u1 v1 u2 v2 (Nat.le_refl _)
theorem mW:∀(n:Nat) (u v:List Int),u.length+v.length≤n→dst u.reverse v.reverse≤dst u v
 | n,[],v,_=>by simp [gB]
 | n,a::u,[],_=>by simp [fX]
 | 0,a::u,b::v,h=>by simp at h
 | n+1,a::u,b::v,h=>by
  have h1:=mW n u v (by simp at h;omega)
  have h2:=mW n u (b::v) (by simp at h ⊢;omega)
  have h3:=mW n (a::u) v (by simp at h ⊢;omega)
  rw [fF]
  split
  ·rename_i e
   subst e
   have:=EX u.reverse v.reverse [a] [a]
   rw [xV,gB] at this
   simp only [List.reverse_cons,List.length_nil] at this ⊢
   omega
  ·have g1:=EX u.reverse (b::v).reverse [a] []
   have g2:=EX (a::u).reverse v.reverse [] [b]
   rw [fX] at g1
   rw [gB] at g2
   simp only [List.reverse_cons,List.append_nil,List.length_cons,List.length_nil] at g1 g2 h2 h3 ⊢
   omega
theorem jK (u v:List Int):dst u.reverse v.reverse=dst u v:=by
 refine Nat.le_antisymm (mW _ u v (Nat.le_refl _)) ?_
 have:=mW _ u.reverse v.reverse (Nat.le_refl _)
 simpa using this
theorem wM:∀(n:Nat) (u v:List Int),u.length+v.length≤n→dst u v=dst v u
 | n,[],v,_=>by rw [gB,fX]
 | n,a::u,[],_=>by rw [gB,fX]
 | 0,a::u,b::v,h=>by simp at h
 | n+1,a::u,b::v,h=>by
  have h1:=wM n u v (by simp at h;omega)
  have h2:=wM n u (b::v) (by simp at h ⊢;omega)
  have h3:=wM n (a::u) v (by simp at h ⊢;omega)
  rw [fF,fF]
  by_cases e:a=b
  ·rw [if_pos e,if_pos e.symm,h1]
  ·rw [if_neg e,if_neg (fun h=>e h.symm),h2,h3,Nat.min_comm]
theorem IW:∀{u v:List Int},dst u v=0→u=v
 | [],v,h=>by rw [gB] at h;exact (List.eq_nil_of_length_eq_zero h).symm
 | a::u,[],h=>by rw [fX] at h;simp at h
 | a::u,b::v,h=>by
  rw [fF] at h
  split at h
  ·rename_i e;rw [e,IW h]
  ·omega
theorem mJ:∀(p u v:List Int),dst (p++u) (p++v)=dst u v
 | [],u,v=>rfl
 | a::p,u,v=>by simp only [List.cons_append];rw [xV];exact mJ p u v
theorem QX (p u v:List Int):dst (u++p) (v++p)=dst u v:=by
 rw [←jK,List.reverse_append,List.reverse_append,mJ,jK]
theorem aR3:∀(k:Nat) {y:List Rp},Ok y→phi (mergeN k y)≤phi y:=by
 intro k
 induction k with
 | zero=>intro y _;exact Nat.le_refl _
 | succ k ih=>
  intro y hy
  rw [mergeN]
  have h4:=tR _ [] (join1 y) false rfl
  have h5:=pH hy.ops
  have h6:phi []=0:=rfl
  have h7:=ih (Ok.slide _ (A:=[]) (R:=join1 y) (ch:=false) rfl Ok.nil hy.join1)
  split
  ·omega
  ·omega
theorem bP8 {x:List Rp} (hx:Ok x):phi (merge x)≤phi x:=aR3 _ hx
theorem pE:∀l:List Rp,Ops l→dst (bQ l) (bP l)≤edR l
 | [],_=>by show dst [] []≤0;rw [gB];simp
 | (o,t)::l,h=>by
  have ih:=pE l (h.cons).2
  rcases (h.cons).1 with e | e | e
  ·have e:o= -1:=e
   subst e
   have:bQ ((-1,t)::l)=t++bQ l:=rfl
   rw [this]
   have h2:bP ((-1,t)::l)=bP l:=rfl
   have h3:edR ((-1,t)::l)=t.length+edR l:=rfl
   rw [h2,h3]
   have:=LX t (bQ l) (bP l)
   omega
  ·have e:o=0:=e
   subst e
   have:bQ ((0,t)::l)=t++bQ l:=rfl
   rw [this]
   have h2:bP ((0,t)::l)=t++bP l:=rfl
   have h3:edR ((0,t)::l)=0+edR l:=rfl
   rw [h2,h3,mJ]
   omega
  ·have e:o=1:=e
   subst e
   have:bQ ((1,t)::l)=bQ l:=rfl
   rw [this]
   have h2:bP ((1,t)::l)=t++bP l:=rfl
   have h3:edR ((1,t)::l)=t.length+edR l:=rfl
   rw [h2,h3]
   have:=JH t (bP l) (bQ l)
   omega
theorem DT (x y:List Int):cpl (x.drop (cpl x y)) (y.drop (cpl x y))=0:=by
 cases hx:x.drop (cpl x y) with
 | nil=>rfl
 | cons a x'=>
  cases hy:y.drop (cpl x y) with
  | nil=>rfl
  | cons b y'=>rw [cpl,if_neg (AG hx hy)]
theorem MU {x y:List Int} (h:cpl x y=0) (i j:Nat):cpl (x.take i) (y.take j)=0:=by
 cases x with
 | nil=>simp [cpl]
 | cons a x=>
  cases y with
  | nil=>cases i <;> simp [cpl]
  | cons b y=>
   cases i with
   | zero=>simp [cpl]
   | succ i=>
    cases j with
    | zero=>simp [cpl]
    | succ j=>
     rw [cpl] at h
     rw [List.take_succ_cons,List.take_succ_cons,cpl]
     split
     ·rename_i e;rw [if_pos e] at h;omega
     ·rfl
theorem E9 (x y:List Int):csl (x.take (x.length - csl x y)) (y.take (y.length - csl x y))=0:=by
 have h:=DT x.reverse y.reverse
 have h1:=eK x y
 have h2:=dS x y
 unfold csl at *
 rw [List.reverse_take,List.reverse_take]
 rw [show x.length - (x.length - cpl x.reverse y.reverse)=cpl x.reverse y.reverse by omega,show y.length - (y.length - cpl x.reverse y.reverse)=cpl x.reverse y.reverse by omega]
 exact h
inductive NA:List Rp→Prop
 | nil:NA []
 | one (s:List Int):NA [(0,s)]
 | ed (t:List Int) (e:Rp) (A:List Rp):(e.1= -1∨e.1=1)→NA A→NA ((0,t)::e::A)
 | two (t td ti:List Int) (A:List Rp):cpl ti td=0→csl ti td=0→NA A→NA ((0,t)::(1,ti)::(-1,td)::A)
theorem NA.head {A:List Rp} (h:NA A):A=[]∨∃s B,A=(0,s)::B∧∀u,NA ((0,u)::B):=by
 cases h with
 | nil=>exact .inl rfl
 | one s=>exact .inr ⟨s,[],rfl,fun u=>NA.one u⟩
 | ed t e A h1 h2=>exact .inr ⟨t,e::A,rfl,fun u=>NA.ed u e A h1 h2⟩
 | two t td ti A h1 h2 h3=>exact .inr ⟨t,_,rfl,fun u=>NA.two u td ti A h1 h2 h3⟩
theorem NA.pushE {A:List Rp} (u:List Int) (h:NA A):NA (pushE u A):=by
 rcases h.head with rfl | ⟨s,B,rfl,hB⟩
 ·exact NA.one u
 ·rw [Go.Proofs.YthkiaiilpaojnaaDoorZF.pushE,if_pos rfl]
  exact hB _
theorem NA.stepE {A P:List Rp} (t:List Int) (hA:NA A) (hP:Eds P):NA (stepE A P t):=by
 unfold Go.Proofs.YthkiaiilpaojnaaDoorZF.stepE
 split
 ·split
  ·exact NA.ed _ _ _ (.inr rfl) hA
  ·split
   ·exact NA.ed _ _ _ (.inl rfl) hA
   ·refine NA.two _ _ _ _ ?_ ?_ ?_ <;> unfold fac <;> simp only
    ·exact MU (DT _ _) _ _
    ·exact E9 _ _
    ·split
     ·exact hA
     ·exact NA.pushE _ hA
 ·split
  ·exact NA.pushE _ hA
  ·rename_i h1 h2
   match P,h1,h2,hP with
   | [e],_,_,hP=>exact NA.ed _ _ _ (hP e (by simp)) hA
   | e::f::P,h1,_,_=>simp at h1
theorem NA.run1:∀(R A P:List Rp),NA A→Eds P→Ops R→NA (run1 A P R).1
 | [],A,P,hA,_,_=>hA
 | d::R,A,P,hA,hP,hR=>by
  rw [Go.Proofs.YthkiaiilpaojnaaDoorZF.run1]
  split
  ·exact NA.run1 R _ [] (NA.stepE _ hA hP) Eds.nil hR.cons.2
  ·rename_i h0
   exact NA.run1 R A _ hA (hP.snoc hR.cons.1 h0) hR.cons.2
theorem L9:∀(k:Nat) (A R:List Rp),R.length=k→(slide A R true).2=true∧((slide A R false).2=false→(slide A R false).1=A.reverse++R):=by
 intro k
 induction k using Nat.strongRecOn with
 | _ k ih=>
  intro A R hk
  match R,hk with
  | [],hk=>constructor <;> (intros;unfold slide;rfl)
  | [p],hk=>constructor <;> (intros;unfold slide;rfl)
  | [p,c],hk=>constructor <;> (intros;unfold slide;rfl)
  | p::c::q::R,hk=>
   have skip:=ih (c::q::R).length (by rw [←hk];simp) (p::A) (c::q::R) rfl
   rw [slide,slide]
   split
   ·split
    ·have h1:=ih (((q.1,p.2++q.2)::R):List Rp).length (by rw [←hk];simp) ((c.1,p.2++c.2.take (c.2.length - p.2.length))::A) ((q.1,p.2++q.2)::R) rfl
     exact ⟨h1.1,fun h=>by rw [h1.1] at h;cases h⟩
    ·split
     ·have h1:=ih (((c.1,c.2.drop q.2.length++q.2)::R):List Rp).length (by rw [←hk];simp) ((p.1,p.2++q.2)::A) ((c.1,c.2.drop q.2.length++q.2)::R) rfl
      exact ⟨h1.1,fun h=>by rw [h1.1] at h;cases h⟩
     ·exact ⟨skip.1,fun h=>by rw [skip.2 h];simp⟩
   ·exact ⟨skip.1,fun h=>by rw [skip.2 h];simp⟩
theorem aG5 {x:List Rp} (hx:Ops x) (h:(slide [] (join1 x) false).2=true):phi (slide [] (join1 x) false).1 < phi x:=by
 have h1:=tR _ [] (join1 x) false rfl
 have h2:=pH hx
 rw [if_pos ⟨h,rfl⟩] at h1
 have:phi []=0:=rfl
 omega
def Full (x:List Rp):Prop:=∀d∈x,d.2≠[]
theorem Full.append {x y:List Rp} (h:Full x) (k:Full y):Full (x++y):=fun d hd=>(List.mem_append.1 hd).elim (h d) (k d)
theorem Full.of_append {x y:List Rp} (h:Full (x++y)):Full x∧Full y:=⟨fun d hd=>h d (List.mem_append.2 (.inl hd)),fun d hd=>h d (List.mem_append.2 (.inr hd))⟩
theorem Full.cons {d:Rp} {x:List Rp} (h:d.2≠[]) (k:Full x):Full (d::x):=fun e he=>(List.mem_cons.1 he).elim (fun q=>by rw [q];exact h) (k e)
theorem Full.of_cons {d:Rp} {x:List Rp} (h:Full (d::x)):d.2≠[]∧Full x:=⟨h d (by simp),fun e he=>h e (by simp [he])⟩
theorem Full.reverse {x:List Rp} (h:Full x):Full x.reverse:=fun d hd=>h d (List.mem_reverse.1 hd)
theorem Full.nil:Full []:=fun d h=>by cases h
theorem DB {u:List Int}:∀{A:List Rp} {d:Rp},d∈pushE u A→d∈A∨(d.1=0∧∃s,d.2=s++u∧(s=[]∨(0,s)∈A))
 | [],d,h=>by
  unfold pushE at h
  obtain rfl:=List.mem_singleton.1 h
  exact .inr ⟨rfl,[],rfl,.inl rfl⟩
 | (k,s)::A,d,h=>by
  by_cases hk:k=0
  ·rw [pushE,if_pos hk] at h
   rcases List.mem_cons.1 h with rfl | h
   ·exact .inr ⟨rfl,s,rfl,.inr (by rw [hk];simp)⟩
   ·exact .inl (by simp [h])
  ·rw [pushE,if_neg hk] at h
   rcases List.mem_cons.1 h with rfl | h
   ·exact .inr ⟨rfl,[],rfl,.inl rfl⟩
   ·exact .inl h
def vO (x:List Rp):Prop:=edR x≤dst (bQ x) (bP x)
theorem CU:∀{P:List Rp},Full P→(cdR P≠0→bC P≠[])∧(ciR P≠0→bB P≠[])
 | [],_=>⟨fun h=>absurd rfl h,fun h=>absurd rfl h⟩
 | d::P,h=>by
  have ih:=CU h.of_cons.2
  have hd:=h.of_cons.1
  refine ⟨fun hc=>?_,fun hc=>?_⟩
  ·unfold bC
   unfold cdR at hc
   split
   ·intro h0;exact hd (List.append_eq_nil_iff.1 h0).1
   ·rename_i hne
    rw [if_neg hne] at hc
    simpa using ih.1 (by omega)
  ·unfold bB
   unfold ciR at hc
   split
   ·intro h0;exact hd (List.append_eq_nil_iff.1 h0).1
   ·rename_i hne
    rw [if_neg hne] at hc
    simpa using ih.2 (by omega)
theorem cX8 {A P:List Rp} (hP:Eds P) (t:List Int) (h1:1 < P.length) (h2:cdR P≠0) (h3:ciR P≠0):
  edR (stepE A P t)+2 * (cpl (bB P) (bC P)+csl ((bB P).drop (cpl (bB P) (bC P))) ((bC P).drop (cpl (bB P) (bC P))))≤edR A+edR P:=by
 have hd:=qM P
 have e1:=aW1 A (bC P) (bB P) t
 unfold stepE
 rw [if_pos h1,if_neg h2,if_neg h3]
 simp only [edR]
 have c1:=gW (bB P) (bC P)
 have c2:=fW (bB P) (bC P)
 have s1:=eK ((bB P).drop (cpl (bB P) (bC P))) ((bC P).drop (cpl (bB P) (bC P)))
 have s2:=dS ((bB P).drop (cpl (bB P) (bC P))) ((bC P).drop (cpl (bB P) (bC P)))
 rw [e1]
 unfold fac
 simp only [List.length_take,List.length_drop] at *
 simp
 omega
theorem aM6 {A P:List Rp} (hP:Eds P) {t:List Int} (ht:t≠[]) (hA:Full A) (hPf:Full P) (hne:edR A+edR P≤edR (stepE A P t)):Full (stepE A P t)∧(1 < P.length→cdR P≠0→ciR P≠0→cpl (bB P) (bC P)=0):=by
 have hdf:=CU hPf
 unfold stepE
 split
 ·rename_i h1
  split
  ·rename_i h2
   have:=uW hP
   exact ⟨Full.cons ht (Full.cons (hdf.2 (by omega)) hA),fun _ h=>absurd h2 h⟩
  ·rename_i h2
   split
   ·rename_i h3
    exact ⟨Full.cons ht (Full.cons (hdf.1 h2) hA),fun _ _ h=>absurd h3 h⟩
   ·rename_i h3
    have h4:=cX8 (A:=A) hP t h1 h2 h3
    have hc:cpl (bB P) (bC P)=0:=by omega
    have hs:csl (bB P) (bC P)=0:=by rw [hc] at h4;simp at h4;omega
    refine ⟨?_,fun _ _ _=>hc⟩
    unfold fac
    simp only [hc,List.drop_zero,hs,if_pos,Nat.sub_zero,List.take_length,List.drop_length,List.nil_append]
    exact Full.cons ht (Full.cons (hdf.2 h3) (Full.cons (hdf.1 h2) hA))
 ·rename_i h1
  refine ⟨?_,fun h=>absurd h h1⟩
  split
  ·intro d hd
   rcases DB hd with h | ⟨_,s,h,_⟩
   ·exact hA d h
   ·intro h0;rw [h0] at h;exact ht (List.append_eq_nil_iff.1 h.symm).2
  ·exact Full.cons ht (hPf.reverse.append hA)
theorem bT8 {A P R:List Rp} {t:List Int} (hP:Eds P) (hR:Ops R) (hA:Ops A) (hb:vO (A.reverse++P++(0,t)::R)):edR A+edR P≤edR (stepE A P t)∧vO ((stepE A P t).reverse++R):=by
 have ht:=oD (A:=A) hP t
 have he:=IZ (A:=A) hP t
 unfold vO at *
 have e1:bQ (A.reverse++P++(0,t)::R)=bQ ((stepE A P t).reverse++R):=by
  rw [bI,bI,bI,ht.1]
  show bQ A.reverse++bQ P++(t++bQ R)=_
  simp
 have e2:bP (A.reverse++P++(0,t)::R)=bP ((stepE A P t).reverse++R):=by
  rw [bH,bH,bH,ht.2]
  show bP A.reverse++bP P++(t++bP R)=_
  simp
 have e3:edR (A.reverse++P++(0,t)::R)=edR A+edR P+edR R:=by
  rw [dH,dH,gA]
  show edR A+edR P+(0+edR R)=_
  omega
 have hops:Ops ((stepE A P t).reverse++R):=by
  intro d hd
  rcases List.mem_append.1 hd with h | h
  ·have h:=List.mem_reverse.1 h
   revert h
   unfold stepE
   split
   ·split
    ·intro h;simp only [List.mem_cons] at h;rcases h with rfl | rfl | h <;> first | simp | exact hA d h
    ·split
     ·intro h;simp only [List.mem_cons] at h;rcases h with rfl | rfl | h <;> first | simp | exact hA d h
     ·intro h;simp only [List.mem_cons] at h
      rcases h with rfl | rfl | rfl | h <;> first | simp | skip
      unfold fac at h
      simp only at h
      split at h
      ·exact hA d h
      ·rcases DB h with h | ⟨h,_⟩
       ·exact hA d h
       ·exact .inr (.inl h)
   ·split
    ·intro h
     rcases DB h with h | ⟨h,_⟩
     ·exact hA d h
     ·exact .inr (.inl h)
    ·intro h
     rcases List.mem_cons.1 h with rfl | h
     ·simp
     ·rcases List.mem_append.1 h with h | h
      ·rcases hP d (List.mem_reverse.1 h) with q | q
       ·exact .inl q
       ·exact .inr (.inr q)
      ·exact hA d h
  ·exact hR d h
 have hlow:=pE _ hops
 rw [dH,gA] at hlow
 rw [e1,e2,e3] at hb
 refine ⟨by omega,?_⟩
 rw [dH,gA]
 omega
theorem C4 {A P:List Rp} (hP:Eds P) {t:List Int} (hA:Full A) (hPf:Full P) (hne:edR A+edR P≤edR (stepE A P t)):∃u B,stepE A P t=(0,u)::B∧Full B∧(t≠[]→u≠[]):=by
 have hdf:=CU hPf
 unfold stepE
 by_cases h1:1 < P.length
 ·rw [if_pos h1]
  by_cases h2:cdR P=0
  ·rw [if_pos h2]
   have:=uW hP
   exact ⟨t,_,rfl,Full.cons (hdf.2 (by omega)) hA,id⟩
  ·rw [if_neg h2]
   by_cases h3:ciR P=0
   ·rw [if_pos h3]
    exact ⟨t,_,rfl,Full.cons (hdf.1 h2) hA,id⟩
   ·rw [if_neg h3]
    have h4:=cX8 (A:=A) hP t h1 h2 h3
    have hc:cpl (bB P) (bC P)=0:=by omega
    have hs:csl (bB P) (bC P)=0:=by rw [hc] at h4;simp at h4;omega
    refine ⟨_,_,rfl,?_,?_⟩
    ·unfold fac
     simp only [hc,List.drop_zero,hs,if_pos,Nat.sub_zero,List.take_length]
     exact Full.cons (hdf.2 h3) (Full.cons (hdf.1 h2) hA)
    ·unfold fac
     simp only [hc,List.drop_zero,hs,Nat.sub_zero,List.drop_length,List.nil_append]
     exact id
 ·rw [if_neg h1]
  by_cases h2:P=[]
  ·rw [if_pos h2]
   match A,hA with
   | [],_=>exact ⟨t,[],rfl,Full.nil,id⟩
   | (k,s)::A,hA=>
    by_cases hk:k=0
    ·subst hk
     rw [pushE,if_pos rfl]
     exact ⟨s++t,A,rfl,hA.of_cons.2,fun _ h0=>hA.of_cons.1 (List.append_eq_nil_iff.1 h0).1⟩
    ·rw [pushE,if_neg hk]
     exact ⟨t,_,rfl,hA,id⟩
  ·rw [if_neg h2]
   exact ⟨t,_,rfl,hPf.reverse.append hA,id⟩
theorem CD:∀(R A P:List Rp),Eds P→Ok A→Ok P→Ok R→Full A→Full P→Full R→vO (A.reverse++P++R)→Full (run1 A P R).1∧Full (run1 A P R).2∧vO ((run1 A P R).1.reverse++(run1 A P R).2)∧Ok (run1 A P R).1∧Ok (run1 A P R).2∧Eds (run1 A P R).2
 | [],A,P,hE,oA,oP,oR,hA,hP,hR,hb=>⟨hA,hP,by rw [List.append_nil] at hb;exact hb,oA,oP,hE⟩
 | (k,t)::R,A,P,hE,oA,oP,oR,hA,hP,hR,hb=>by
  have hkt:=hR.of_cons
  have okt:=oR.of_cons
  rw [run1]
  by_cases hk:k=0
  ·rw [if_pos hk]
   subst hk
   obtain ⟨b1,b2⟩:=bT8 hE okt.2.ops oA.ops hb
   have hf:=(aM6 hE hkt.1 hA hP b1).1
   exact CD R (stepE A P t) [] Eds.nil (Ok.stepE oA oP okt.1.2) Ok.nil okt.2 hf Full.nil hkt.2 (by rw [List.append_nil];exact b2)
  ·rw [if_neg hk]
   refine CD R A (P++[(k,t)]) (hE.snoc okt.1.1 hk) oA (oP.append fun d hd=>?_) okt.2 hA (hP.append fun d hd=>?_) hkt.2 (by rw [←List.append_assoc,List.append_assoc];exact hb)
   ·obtain rfl:=List.mem_singleton.1 hd;exact okt.1
   ·obtain rfl:=List.mem_singleton.1 hd;exact hkt.1
theorem KX {x:List Rp} (ox:Ok x) (hx:Full x) (hb:vO x):Full (join1 x)∧vO (join1 x):=by
 obtain ⟨f1,f2,f3,f4,f5,f6⟩:=CD x [] [] Eds.nil Ok.nil Ok.nil ox Full.nil Full.nil hx hb
 have hb2:edR (run1 [] [] x).1+edR (run1 [] [] x).2≤edR (stepE (run1 [] [] x).1 (run1 [] [] x).2 []):=by
  have ht:=oD (A:=(run1 [] [] x).1) f6 []
  have hok:Ok (stepE (run1 [] [] x).1 (run1 [] [] x).2 []):=Ok.stepE f4 f5 Valids.nil
  have hlow:=pE _ (hok.reverse).ops
  rw [ht.1,ht.2,List.append_nil,List.append_nil,←bI,←bH,gA] at hlow
  unfold vO at f3
  rw [dH,gA] at f3
  omega
 obtain ⟨u,B,e,hB,_⟩:=C4 f6 (t:=[]) f1 f2 hb2
 refine ⟨?_,?_⟩
 ·unfold join1
  rw [e,chop]
  split
  ·exact hB.reverse
  ·rename_i hu;exact (Full.cons hu hB).reverse
 ·have h1:=nX ox.ops
  have h2:=Q4 ox.ops
  unfold vO at *
  rw [h1.1,h1.2];omega
theorem j5:∀(k:Nat) (A R:List Rp) (ch:Bool),R.length=k→Full A→Full R→Full (slide A R ch).1:=by
 intro k
 induction k using Nat.strongRecOn with
 | _ k ih=>
  intro A R ch hk hA hR
  match R,hk,hR with
  | [],_,hR=>unfold slide;exact hA.reverse.append hR
  | [a],_,hR=>unfold slide;exact hA.reverse.append hR
  | [a,b],_,hR=>unfold slide;exact hA.reverse.append hR
  | p::c::q::R,hk,hR=>
   have h1:=hR.of_cons
   have h2:=h1.2.of_cons
   have h3:=h2.2.of_cons
   simp only [List.length_cons] at hk
   unfold slide
   split
   ·split
    ·exact ih _ (by simp only [List.length_cons];omega) _ _ _ rfl (Full.cons (fun h0=>h1.1 (List.append_eq_nil_iff.1 h0).1) hA) (Full.cons (fun h0=>h1.1 (List.append_eq_nil_iff.1 h0).1) h3.2)
    ·split
     ·exact ih _ (by simp only [List.length_cons];omega) _ _ _ rfl (Full.cons (fun h0=>h1.1 (List.append_eq_nil_iff.1 h0).1) hA) (Full.cons (fun h0=>h3.1 (List.append_eq_nil_iff.1 h0).2) h3.2)
     ·exact ih _ (by simp only [List.length_cons];omega) _ _ _ rfl (Full.cons h1.1 hA) h1.2
   ·exact ih _ (by simp only [List.length_cons];omega) _ _ _ rfl (Full.cons h1.1 hA) h1.2
theorem sL:∀(k:Nat) {x:List Rp},Ok x→Full x→vO x→phi x < k→∃z,Ok z∧Full z∧vO z∧mergeN k x=join1 z
 | 0,x,_,_,_,h=>by omega
 | k+1,x,hx,hf,hb,hk=>by
  have hj:=KX hx hf hb
  rw [mergeN]
  split
  ·rename_i h
   have:=aG5 hx.ops h
   have ht:=sQ _ [] (join1 x) false rfl
   refine sL k (Ok.slide _ rfl Ok.nil hx.join1) (j5 _ [] (join1 x) false rfl Full.nil hj.1) ?_ (by omega)
   unfold vO at *
   rw [ht.1,ht.2.1,ht.2.2]
   exact hj.2
  ·rename_i h
   have h:(slide [] (join1 x) false).2=false:=by simpa using h
   exact ⟨x,hx,hf,hb,by rw [(L9 _ [] (join1 x) rfl).2 h];rfl⟩
def Nbs:List Rp→Prop
 | d::e::l=>d.1≠e.1∧¬(d.1=1∧e.1= -1)∧(d.1≠0→e.1≠0→cpl d.2 e.2=0∧csl d.2 e.2=0)∧Nbs (e::l)
 | _=>True
def Nbr:List Rp→Prop
 | e::d::l=>d.1≠e.1∧¬(d.1=1∧e.1= -1)∧(d.1≠0→e.1≠0→cpl d.2 e.2=0∧csl d.2 e.2=0)∧Nbr (d::l)
 | _=>True
theorem NA.nbr:∀{A:List Rp},NA A→Nbr A
 | _,.nil=>trivial
 | _,.one s=>trivial
 | _,.ed t e A h1 h2=>by
  have ih:=h2.nbr
  have he:e.1≠0:=by rcases h1 with h | h <;> omega
  refine ⟨he,fun h=>by simp at h,fun _ h=>absurd rfl h,?_⟩
  rcases h2.head with rfl | ⟨s,B,rfl,_⟩
  ·trivial
  ·exact ⟨fun h=>he h.symm,fun h=>by simp at h,fun h=>absurd rfl h,ih⟩
 | _,.two t td ti A h1 h2 h3=>by
  have ih:=h3.nbr
  refine ⟨by simp,fun h=>by simp at h,fun _ h=>absurd rfl h,by simp,fun h=>by simp at h,fun _ _=>⟨by rw [KR];exact h1,by rw [cJ9];exact h2⟩,?_⟩
  rcases h3.head with rfl | ⟨s,B,rfl,_⟩
  ·trivial
  ·exact ⟨by simp,fun h=>by simp at h,fun h=>absurd rfl h,ih⟩
theorem Nbr.tail {d:Rp} {l:List Rp} (h:Nbr (d::l)):Nbr l:=by
 cases l with
 | nil=>trivial
 | cons e l=>exact h.2.2.2
theorem K4:∀{l:List Rp} {d e:Rp},Nbs (l++[d])→(d.1≠e.1∧¬(d.1=1∧e.1= -1)∧(d.1≠0→e.1≠0→cpl d.2 e.2=0∧csl d.2 e.2=0))→Nbs (l++[d,e])
 | [],d,e,_,h=>⟨h.1,h.2.1,h.2.2,trivial⟩
 | [a],d,e,h1,h=>⟨h1.1,h1.2.1,h1.2.2.1,h.1,h.2.1,h.2.2,trivial⟩
 | a::b::l,d,e,h1,h=>⟨h1.1,h1.2.1,h1.2.2.1,K4 (l:=b::l) h1.2.2.2 h⟩
theorem Nbr.reverse:∀{A:List Rp},Nbr A→Nbs A.reverse
 | [],_=>trivial
 | [d],_=>trivial
 | e::d::l,h=>by
  have ih:=Nbr.reverse (A:=d::l) h.2.2.2
  rw [List.reverse_cons] at ih
  have:=K4 (l:=l.reverse) (d:=d) (e:=e) ih ⟨h.1,h.2.1,h.2.2.1⟩
  simpa using this
theorem aP8 {x:List Rp} (ox:Ok x) (hf:Full x) (hb:vO x):Full (merge x)∧Nbs (merge x):=by
 obtain ⟨z,oz,fz,bz,e⟩:=sL (phi x+1) ox hf hb (by omega)
 have e:merge x=join1 z:=e
 rw [e]
 refine ⟨(KX oz fz bz).1,?_⟩
 have h1:=lM z [] [] Eds.nil oz.ops
 have hB:=NA.stepE (A:=(run1 [] [] z).1) (P:=(run1 [] [] z).2) [] (NA.run1 z [] [] NA.nil Eds.nil oz.ops) h1.2
 have hn:=hB.nbr
 unfold join1
 apply Nbr.reverse
 generalize stepE (run1 [] [] z).1 (run1 [] [] z).2 []=C at hn
 cases C with
 | nil=>trivial
 | cons d C=>
  obtain ⟨k,s⟩:=d
  rw [chop]
  split
  ·exact hn.tail
  ·exact hn
section
variable (A B:List Int)
def ft (x y:Nat):Nat:=dst (A.take x).reverse (B.take y).reverse+(x - A.length)+(y - B.length)
def gt (x y:Nat):Nat:=dst (A.drop x) (B.drop y)
end
variable {A B:List Int}
theorem kI (A:List Int) {x:Nat} (h:x < A.length):(A.take (x+1)).reverse=A[x]::(A.take x).reverse:=by
 rw [List.take_succ_eq_append_getElem h,List.reverse_append];rfl
theorem rU (A:List Int) {x:Nat} (h:A.length≤x):A.take (x+1)=A.take x:=by
 rw [List.take_of_length_le (by omega),List.take_of_length_le h]
theorem uQ (A:List Int) {x:Nat} (h:x < A.length):A.drop x=A[x]::A.drop (x+1):=List.drop_eq_getElem_cons h
theorem HP (x y:Nat):ft A B (x+1) y≤ft A B x y+1:=by
 unfold ft
 by_cases h:x < A.length
 ·rw [kI A h]
  have:=c8 A[x] (A.take x).reverse (B.take y).reverse
  omega
 ·rw [rU A (by omega)];omega
theorem XK (x y:Nat):ft A B x (y+1)≤ft A B x y+1:=by
 unfold ft
 by_cases h:y < B.length
 ·rw [kI B h]
  have:=aM1 B[y] (A.take x).reverse (B.take y).reverse
  omega
 ·rw [rU B (by omega)];omega
theorem AZ {x y:Nat} (hx:x < A.length) (hy:y < B.length) (h:A[x]=B[y]):ft A B (x+1) (y+1)=ft A B x y:=by
 unfold ft
 rw [kI A hx,kI B hy,h,xV];omega
theorem dV8 (x y:Nat):ft A B x y≤ft A B (x+1) (y+1):=by
 unfold ft
 by_cases hx:x < A.length
 ·rw [kI A hx]
  by_cases hy:y < B.length
  ·rw [kI B hy]
   have:=cZ5 A[x] B[y] (A.take x).reverse (B.take y).reverse
   omega
  ·rw [rU B (by omega)]
   have:=aX1 A[x] (A.take x).reverse (B.take y).reverse
   omega
 ·rw [rU A (by omega)]
  by_cases hy:y < B.length
  ·rw [kI B hy]
   have:=aW5 B[y] (A.take x).reverse (B.take y).reverse
   omega
  ·rw [rU B (by omega)];omega
theorem VN (x y:Nat):∀t:Nat,ft A B x y≤ft A B (x+t) (y+t)
 | 0=>Nat.le_refl _
 | t+1=>Nat.le_trans (VN x y t) (dV8 (x+t) (y+t))
theorem jN {x y:Nat} (hx:x≤A.length) (hy:y≤B.length):ft A B x y=dst (A.take x).reverse (B.take y).reverse:=by unfold ft;omega
theorem HL (x y:Nat):(ft A B x y+x+y) % 2=0:=by
 unfold ft
 have:=bN4 (A.take x).reverse (B.take y).reverse
 simp only [List.length_reverse,List.length_take] at this
 omega
theorem xS:ft A B 0 0=0:=by unfold ft;simp [gB]
theorem OT {x y:Nat} (hx:x≤A.length) (hy:y≤B.length):x≤ft A B x y+y∧y≤ft A B x y+x:=by
 rw [jN hx hy]
 have:=VW (A.take x).reverse (B.take y).reverse
 simp only [List.length_reverse,List.length_take] at this
 omega
theorem eK1 {x y:Nat} (hx:x≤A.length) (hy:y≤B.length):A.length - x≤gt A B x y+(B.length - y)∧B.length - y≤gt A B x y+(A.length - x):=by
 unfold gt
 have:=VW (A.drop x) (B.drop y)
 simpa only [List.length_drop] using this
theorem bE9:gt A B 0 0=dst A B:=rfl
theorem aI8:ft A B A.length B.length=dst A B:=by
 rw [jN (Nat.le_refl _) (Nat.le_refl _),List.take_length,List.take_length,jK]
theorem rY (x y:Nat) (hx:x≤A.length) (hy:y≤B.length):dst A B≤ft A B x y+gt A B x y:=by
 rw [jN hx hy,jK]
 have:=EX (A.take x) (B.take y) (A.drop x) (B.drop y)
 rw [List.take_append_drop,List.take_append_drop] at this
 exact this
structure Opt (A B:List Int) (x y:Nat):Prop where
 hx:x≤A.length
 hy:y≤B.length
 sum:ft A B x y+gt A B x y=dst A B
theorem Opt.zero:Opt A B 0 0:=⟨Nat.zero_le _,Nat.zero_le _,by rw [xS,bE9];omega⟩
theorem dO1 {x y:Nat} (h:x < A.length):gt A B x y≤1+gt A B (x+1) y:=by
 unfold gt;rw [uQ A h];exact c8 _ _ _
theorem eD4 {x y:Nat} (h:y < B.length):gt A B x y≤1+gt A B x (y+1):=by
 unfold gt;rw [uQ B h];exact aM1 _ _ _
theorem bD8 {x y:Nat} (hx:x < A.length) (hy:y < B.length) (h:A[x]=B[y]):gt A B x y=gt A B (x+1) (y+1):=by
 unfold gt;rw [uQ A hx,uQ B hy,h,xV]
theorem Opt.pred {x y:Nat} (h:Opt A B x y):
  (x=0∧y=0)∨
  (∃x' y',∃(hx:x' < A.length) (hy:y' < B.length),x=x'+1∧y=y'+1∧A[x']=B[y']∧Opt A B x' y'∧ft A B x y=ft A B x' y')∨
  (∃x',x=x'+1∧Opt A B x' y∧ft A B x y=ft A B x' y+1)∨
  (∃y',y=y'+1∧Opt A B x y'∧ft A B x y=ft A B x y'+1):=by
 have right:∀x',x=x'+1→ft A B x y=ft A B x' y+1→Opt A B x' y:=fun x' e hf=>by
  have hx:=h.hx
  have hs:=h.sum
  refine ⟨by omega,h.hy,?_⟩
  have h1:=rY (A:=A) (B:=B) x' y (by omega) h.hy
  have h2:=dO1 (A:=A) (B:=B) (x:=x') (y:=y) (by omega)
  rw [←e] at h2
  omega
 have down:∀y',y=y'+1→ft A B x y=ft A B x y'+1→Opt A B x y':=fun y' e hf=>by
  have hy:=h.hy
  have hs:=h.sum
  refine ⟨h.hx,by omega,?_⟩
  have h1:=rY (A:=A) (B:=B) x y' h.hx (by omega)
  have h2:=eD4 (A:=A) (B:=B) (x:=x) (y:=y') (by omega)
  rw [←e] at h2
  omega
 have hx:=h.hx
 have hy:=h.hy
 match x,y,h with
 | 0,0,h=>exact .inl ⟨rfl,rfl⟩
 | x+1,0,h=>
  refine .inr (.inr (.inl ⟨x,rfl,?_⟩))
  have:ft A B (x+1) 0=ft A B x 0+1:=by
   rw [jN hx hy,jN (by omega) hy]
   simp [fX]
   omega
  exact ⟨right x rfl this,this⟩
 | 0,y+1,h=>
  refine .inr (.inr (.inr ⟨y,rfl,?_⟩))
  have:ft A B 0 (y+1)=ft A B 0 y+1:=by
   rw [jN hx hy,jN hx (by omega)]
   simp [gB]
   omega
  exact ⟨down y rfl this,this⟩
 | x+1,y+1,h=>
  by_cases e:A[x]'(by omega)=B[y]'(by omega)
  ·refine .inr (.inl ⟨x,y,by omega,by omega,rfl,rfl,e,⟨by omega,by omega,?_⟩,AZ (by omega) (by omega) e⟩)
   have h1:=AZ (A:=A) (B:=B) (x:=x) (y:=y) (by omega) (by omega) e
   have h2:=bD8 (A:=A) (B:=B) (x:=x) (y:=y) (by omega) (by omega) e
   have h3:=h.sum
   omega
  ·have key:ft A B (x+1) (y+1)=1+min (ft A B x (y+1)) (ft A B (x+1) y):=by
    rw [jN hx hy,jN (by omega) hy,jN hx (by omega),kI A (by omega:x < A.length),kI B (by omega:y < B.length),fF,if_neg e]
   by_cases hm:ft A B x (y+1)≤ft A B (x+1) y
   ·rw [Nat.min_eq_left hm] at key
    exact .inr (.inr (.inl ⟨x,rfl,right x rfl (by omega),by omega⟩))
   ·rw [Nat.min_eq_right (by omega)] at key
    exact .inr (.inr (.inr ⟨y,rfl,down y rfl (by omega),by omega⟩))
theorem Opt.next:∀(n x y:Nat),A.length - x+(B.length - y)≤n→Opt A B x y→ft A B x y < dst A B→∃x' y',Opt A B x' y'∧ft A B x' y'=ft A B x y+1:=by
 intro n
 induction n with
 | zero=>
  intro x y hn h hd
  have hx:=h.hx
  have hy:=h.hy
  obtain rfl:x=A.length:=by omega
  obtain rfl:y=B.length:=by omega
  rw [aI8] at hd;omega
 | succ n ih=>
  intro x y hn h hd
  have hx:=h.hx
  have hy:=h.hy
  have hs:=h.sum
  by_cases ex:x=A.length
  ·subst ex
   have hg:=h.sum
   by_cases ey:y=B.length
   ·subst ey;rw [aI8] at hd;omega
   ·have h1:=XK (A:=A) (B:=B) A.length y
    have h2:=rY (A:=A) (B:=B) A.length (y+1) (Nat.le_refl _) (by omega)
    have h3:gt A B A.length y=gt A B A.length (y+1)+1:=by
     unfold gt;simp [gB];omega
    exact ⟨A.length,y+1,⟨Nat.le_refl _,by omega,by omega⟩,by omega⟩
  ·by_cases ey:y=B.length
   ·subst ey
    have h1:=HP (A:=A) (B:=B) x B.length
    have h2:=rY (A:=A) (B:=B) (x+1) B.length (by omega) (Nat.le_refl _)
    have h3:gt A B x B.length=gt A B (x+1) B.length+1:=by
     unfold gt;simp [fX];omega
    exact ⟨x+1,B.length,⟨by omega,Nat.le_refl _,by omega⟩,by omega⟩
   ·by_cases e:A[x]'(by omega)=B[y]'(by omega)
    ·have h1:=AZ (A:=A) (B:=B) (x:=x) (y:=y) (by omega) (by omega) e
     have h2:=bD8 (A:=A) (B:=B) (x:=x) (y:=y) (by omega) (by omega) e
     have:=ih (x+1) (y+1) (by omega) ⟨by omega,by omega,by omega⟩ (by omega)
     rw [h1] at this;exact this
    ·have key:gt A B x y=1+min (gt A B (x+1) y) (gt A B x (y+1)):=by
      unfold gt
      rw [uQ A (by omega:x < A.length),uQ B (by omega:y < B.length),fF,if_neg e]
     have h1:=XK (A:=A) (B:=B) x y
     have h2:=rY (A:=A) (B:=B) x (y+1) (by omega) (by omega)
     have h3:=HP (A:=A) (B:=B) x y
     have h4:=rY (A:=A) (B:=B) (x+1) y (by omega) (by omega)
     by_cases hm:gt A B (x+1) y≤gt A B x (y+1)
     ·rw [Nat.min_eq_left hm] at key
      exact ⟨x+1,y,⟨by omega,by omega,by omega⟩,by omega⟩
     ·rw [Nat.min_eq_right (by omega)] at key
      exact ⟨x,y+1,⟨by omega,by omega,by omega⟩,by omega⟩
theorem Opt.level:∀d:Nat,d≤dst A B→∃x y,Opt A B x y∧ft A B x y=d
 | 0,_=>⟨0,0,Opt.zero,xS⟩
 | d+1,h=>by
  obtain ⟨x,y,h1,h2⟩:=Opt.level d (by omega)
  obtain ⟨x',y',h3,h4⟩:=Opt.next _ x y (Nat.le_refl _) h1 (by omega)
  exact ⟨x',y',h3,by omega⟩
theorem XU {x y d:Nat} (hx:A.length < x) (hd:ft A B x y≤d) (hD:d≤dst A B):y≤B.length∧dst A B+(x - A.length)≤d+(B.length - y):=by
 by_cases hy:y≤B.length
 ·refine ⟨hy,?_⟩
  have h1:ft A B x y=ft A B A.length y+(x - A.length):=by
   unfold ft
   rw [List.take_of_length_le (by omega:A.length≤x),List.take_length];omega
  have h2:=rY (A:=A) (B:=B) A.length y (Nat.le_refl _) hy
  have h3:gt A B A.length y=B.length - y:=by unfold gt;simp [gB]
  omega
 ·exfalso
  have h1:ft A B x y=dst A B+(x - A.length)+(y - B.length):=by
   unfold ft
   rw [List.take_of_length_le (by omega:A.length≤x),List.take_of_length_le (by omega:B.length≤y),jK]
  omega
theorem O5 {x y d:Nat} (hy:B.length < y) (hd:ft A B x y≤d) (hD:d≤dst A B):x≤A.length∧dst A B+(y - B.length)≤d+(A.length - x):=by
 by_cases hx:x≤A.length
 ·refine ⟨hx,?_⟩
  have h1:ft A B x y=ft A B x B.length+(y - B.length):=by
   unfold ft
   rw [List.take_of_length_le (by omega:B.length≤y),List.take_length];omega
  have h2:=rY (A:=A) (B:=B) x B.length hx (Nat.le_refl _)
  have h3:gt A B x B.length=A.length - x:=by unfold gt;simp [fX]
  omega
 ·exfalso
  have h1:ft A B x y=dst A B+(x - A.length)+(y - B.length):=by
   unfold ft
   rw [List.take_of_length_le (by omega:A.length≤x),List.take_of_length_le (by omega:B.length≤y),jK]
  omega
theorem fB7 (x y:Nat):x - A.length≤ft A B x y:=by unfold ft;omega
theorem SC {x y:Nat} (hx:x≤A.length) (hy:y≤B.length):ft A.reverse B.reverse (A.length - x) (B.length - y)=gt A B x y:=by
 rw [jN (by rw [List.length_reverse];omega) (by rw [List.length_reverse];omega)]
 unfold gt
 have e:∀(l:List Int) (n:Nat),n≤l.length→(l.reverse.take (l.length - n)).reverse=l.drop n:=fun l n hn=>by
  rw [List.take_reverse]
  simp
  congr 1
  omega
 rw [e A x hx,e B y hy]
theorem Opt.rev {x y:Nat} (h:Opt A B x y):Opt A.reverse B.reverse (A.length - x) (B.length - y)∧ft A.reverse B.reverse (A.length - x) (B.length - y)=gt A B x y:=by
 have hx:=h.hx
 have hy:=h.hy
 have h1:=SC (A:=A) (B:=B) hx hy
 refine ⟨⟨by rw [List.length_reverse];omega,by rw [List.length_reverse];omega,?_⟩,h1⟩
 have h2:=SC (A:=A.reverse) (B:=B.reverse) (x:=A.length - x) (y:=B.length - y) (by rw [List.length_reverse];omega) (by rw [List.length_reverse];omega)
 simp only [List.reverse_reverse,List.length_reverse] at h2
 rw [show A.length - (A.length - x)=x by omega,show B.length - (B.length - y)=y by omega] at h2
 rw [h1,←h2,jK]
 have:=h.sum
 omega
def Ent (A B:List Int) (d k x:Int):Prop:=0≤x∧k≤x∧(ft A B x.toNat (x - k).toNat:Int)≤d
def Stop (A B:List Int) (k x:Int):Prop:=¬∃(h1:x.toNat < A.length) (h2:(x - k).toNat < B.length),A[x.toNat]=B[(x - k).toNat]
theorem Ent.up {A B:List Int} {d d' k x:Int} (h:Ent A B d k x) (hd:d≤d'):Ent A B d' k x:=⟨h.1,h.2.1,by have:=h.2.2;omega⟩
theorem Ent.low {A B:List Int} {d k x:Int} (h:Ent A B d k x) (hp:(k - d) % 2=1):(ft A B x.toNat (x - k).toNat:Int)≤d - 1:=by
 have h1:=HL (A:=A) (B:=B) x.toNat (x - k).toNat
 have h2:=h.1
 have h3:=h.2.1
 have h4:=h.2.2
 omega
structure Done (A B:List Int) (mD d s e:Int) (V:Int→Int):Prop where
 s0:0≤s∧s % 2=0
 e0:0≤e∧e % 2=0
 dlo: -1≤d
 good:∀j, -mD≤j→j < mD→V j= -1∨Ent A B d j (V j)∨(j=1∧V j=0∧d≤0)
 prune:∀x y:Nat,Opt A B x y→d≤ft A B x y→ -(ft A B x y:Int)+s≤(x:Int) - y∧(x:Int) - y≤ft A B x y - e
 comp:∀x y:Nat,Opt A B x y→(ft A B x y:Int)=d→(x:Int)≤V ((x:Int) - y)
 set:0≤d→∀j, -d+s≤j→j≤d - e→(j - d) % 2=0→V j≠ -1
 ini:d= -1→V 1=0
structure Mid (A B:List Int) (mD d s0 e0 s e k:Int) (V:Int→Int):Prop where
 dpos:0≤d
 dm:d < mD
 hs:0≤s0∧s0≤s∧s % 2=0∧s0 % 2=0
 he:0≤e0∧e0≤e∧e % 2=0∧e0 % 2=0
 kpar:(k - d) % 2=0
 klo: -d+s≤k
 good:∀j, -mD≤j→j < mD→V j= -1∨Ent A B d j (V j)∨(j=1∧V j=0∧(d=0∨d=1∧k≤1))
 virt:d=1→k≤1→e=0
 prune:∀x y:Nat,Opt A B x y→d≤ft A B x y→ -(ft A B x y:Int)+s≤(x:Int) - y∧(x:Int) - y≤ft A B x y - e
 comp0:∀x y:Nat,Opt A B x y→(ft A B x y:Int)=d - 1→(x:Int)≤V ((x:Int) - y)
 comp:∀x y:Nat,Opt A B x y→(ft A B x y:Int)=d→(x:Int) - y < k→(x:Int)≤V ((x:Int) - y)
 rng:1≤d→ -(d - 1)+s0≤(d - 1) - e0
 set0:1≤d→∀j, -(d - 1)+s0≤j→j≤(d - 1) - e0→(j - d) % 2=1→V j≠ -1
 set1:∀j, -d+s0≤j→j < k→(j - d) % 2=0→V j≠ -1
 ini:d=0→V 1=0
def pick (V:Int→Int) (d k:Int):Int:=if k= -d∨(k≠d∧V (k - 1) < V (k+1)) then V (k+1) else V (k - 1)+1
section
variable {A B:List Int} {mD d s0 e0 s e k:Int} {V:Int→Int}
theorem Mid.low (h:Mid A B mD d s0 e0 s e k V) (j:Int) (h1: -mD≤j) (h2:j < mD): -1≤V j:=by
 rcases h.good j h1 h2 with g | g | g
 ·omega
 ·have:=g.1;omega
 ·omega
theorem Mid.pick_ok (h:Mid A B mD d s0 e0 s e k V) (hk:k≤d - e):Ent A B d k (pick V d k):=by
 have hs:=h.hs
 have he:=h.he
 have hd:=h.dpos
 have hm:=h.dm
 have hp:=h.kpar
 have hl:=h.klo
 unfold pick
 by_cases c:k= -d∨(k≠d∧V (k - 1) < V (k+1))
 ·rw [if_pos c]
  by_cases d0:d=0
  ·have k0:k=0:=by omega
   subst k0
   have:=h.ini d0
   simp only [Int.zero_add]
   rw [this]
   refine ⟨by omega,by omega,?_⟩
   have:=xS (A:=A) (B:=B)
   simp only [Int.toNat_zero,Int.sub_zero,this]
   omega
  ·have hset:V (k+1)≠ -1:=by
    rcases c with c | ⟨c1,c2⟩
    ·have hr:=h.rng (by omega)
     exact h.set0 (by omega) (k+1) (by omega) (by omega) (by omega)
    ·have:=h.low (k - 1) (by omega) (by omega)
     omega
   have kd:k+1≤d:=by
    rcases c with c | ⟨c1,c2⟩ <;> omega
   rcases h.good (k+1) (by omega) (by omega) with g | g | ⟨g1,g2,g3⟩
   ·exact absurd g hset
   ·have hlow:=g.low (by omega)
    obtain ⟨x0,xk,_⟩:=g
    refine ⟨x0,by omega,?_⟩
    have:=XK (A:=A) (B:=B) (V (k+1)).toNat (V (k+1) - (k+1)).toNat
    rw [show (V (k+1) - (k+1)).toNat+1=(V (k+1) - k).toNat by omega] at this
    omega
   ·omega
 ·rw [if_neg c]
  simp only [not_or,not_and,Int.not_lt] at c
  obtain ⟨c1,c2⟩:=c
  have d1:1≤d:=by omega
  have hr:=h.rng d1
  have hset:V (k - 1)≠ -1:=by
   by_cases kd:k=d
   ·exact h.set0 d1 (k - 1) (by omega) (by omega) (by omega)
   ·intro hv
    have h1:=c2 kd
    have h2:=h.low (k+1) (by omega) (by omega)
    by_cases hkl: -(d - 1)+s0≤k - 1
    ·exact h.set0 d1 (k - 1) hkl (by omega) (by omega) hv
    ·exact h.set0 d1 (k+1) (by omega) (by omega) (by omega) (by omega)
  rcases h.good (k - 1) (by omega) (by omega) with g | g | ⟨g1,g2,g3⟩
  ·exact absurd g hset
  ·have hlow:=g.low (by omega)
   obtain ⟨x0,xk,_⟩:=g
   refine ⟨by omega,by omega,?_⟩
   have:=HP (A:=A) (B:=B) (V (k - 1)).toNat (V (k - 1) - (k - 1)).toNat
   rw [show (V (k - 1)).toNat+1=(V (k - 1)+1).toNat by omega,show (V (k - 1) - (k - 1)).toNat=(V (k - 1)+1 - k).toNat by omega] at this
   rw [show (V (k - 1) - (k - 1)).toNat=(V (k - 1)+1 - k).toNat by omega] at hlow
   omega
  ·omega
theorem Mid.reach (h:Mid A B mD d s0 e0 s e k V) (hk:k≤d - e) {xf:Int} (hf:Ent A B d k xf) (hi:pick V d k≤xf) (hstop:Stop A B k xf):∀(x y:Nat),Opt A B x y→(ft A B x y:Int)=d→(x:Int) - y=k→(x:Int)≤xf:=by
 intro x
 induction x using Nat.strongRecOn with
 | _ x ih=>
  intro y ho hfd hxy
  have h0:=hf.1
  have h1:=hf.2.1
  rcases ho.pred with ⟨hx,hy⟩ | ⟨x',y',hx,hy,rfl,rfl,he,ho',hff⟩ | ⟨x',rfl,ho',hff⟩ | ⟨y',rfl,ho',hff⟩
  ·omega
  ·have:=ih x' (by omega) y' ho' (by omega) (by omega)
   by_cases hlt:(x':Int) < xf
   ·omega
   ·exfalso
    have e1:xf.toNat=x':=by omega
    have e2:(xf - k).toNat=y':=by omega
    exact hstop ⟨by omega,by omega,by simp only [e1,e2];exact he⟩
  ·have g:=h.comp0 x' y ho' (by omega)
   have glo:=OT ho'.hx ho'.hy
   rw [show (x':Int) - y=k - 1 by omega] at g
   unfold pick at hi
   split at hi
   ·rename_i c
    rcases c with c | c
    ·omega
    ·omega
   ·omega
  ·have g:=h.comp0 x y' ho' (by omega)
   have glo:=OT ho'.hx ho'.hy
   rw [show (x:Int) - y'=k+1 by omega] at g
   unfold pick at hi
   split at hi
   ·omega
   ·rename_i c
    simp only [not_or,not_and,Int.not_lt] at c
    have:=c.2 (by omega)
    omega
theorem tN {f:Int} {xf:Int} (hf:Ent A B d k xf) (hD:d≤dst A B) (hx:(A.length:Int) < xf) {x y:Nat} (ho:Opt A B x y) (hfd:d≤ft A B x y):(x:Int) - y≤k - 2 - (ft A B x y - d):=by
 obtain ⟨h0,h1,h2⟩:=hf
 have hdd:0≤d:=by omega
 obtain ⟨h3,h4⟩:=XU (A:=A) (B:=B) (x:=xf.toNat) (y:=(xf - k).toNat) (d:=d.toNat) (by omega) (by omega) (by omega)
 have h5:=eK1 ho.hx ho.hy
 have h6:=ho.sum
 have h7:=ho.hx
 have h8:=ho.hy
 omega
theorem IM {xf:Int} (hf:Ent A B d k xf) (hD:d≤dst A B) (hx:(B.length:Int) < xf - k) {x y:Nat} (ho:Opt A B x y) (hfd:d≤ft A B x y):k+2+(ft A B x y - d)≤(x:Int) - y:=by
 obtain ⟨h0,h1,h2⟩:=hf
 have hdd:0≤d:=by omega
 obtain ⟨h3,h4⟩:=O5 (A:=A) (B:=B) (x:=xf.toNat) (y:=(xf - k).toNat) (d:=d.toNat) (by omega) (by omega) (by omega)
 have h5:=eK1 ho.hx ho.hy
 have h6:=ho.sum
 have h7:=ho.hx
 have h8:=ho.hy
 omega
def ZL (V:Int→Int) (k x:Int):Int→Int:=fun j=>if j=k then x else V j
theorem oY (V:Int→Int) (k x:Int):ZL V k x k=x:=by simp [ZL]
theorem jA (V:Int→Int) {k j x:Int} (h:j≠k):ZL V k x j=V j:=by simp [ZL,h]
theorem Mid.step (h:Mid A B mD d s0 e0 s e k V) (hk:k≤d - e) (hD:d≤dst A B) {xf:Int} (hf:Ent A B d k xf) (hi:pick V d k≤xf) (hstop:Stop A B k xf) {s' e':Int}
  (hse:((A.length:Int) < xf∧s'=s∧e'=e+2)∨(xf≤A.length∧(B.length:Int) < xf - k∧s'=s+2∧e'=e)∨(xf≤A.length∧xf - k≤B.length∧s'=s∧e'=e)):Mid A B mD d s0 e0 s' e' (k+2) (ZL V k xf):=by
 have hs:=h.hs
 have he:=h.he
 have hd:=h.dpos
 have hm:=h.dm
 have hp:=h.kpar
 have hl:=h.klo
 have hreach:=h.reach hk hf hi hstop
 refine ⟨hd,hm,?_,?_,by omega,?_,?_,?_,?_,?_,?_,h.rng,?_,?_,?_⟩
 ·omega
 ·omega
 ·omega
 ·intro j h1 h2
  by_cases ej:j=k
  ·subst ej;rw [oY];exact .inr (.inl hf)
  ·rw [jA V ej]
   rcases h.good j h1 h2 with g | g | ⟨g1,g2,g3⟩
   ·exact .inl g
   ·exact .inr (.inl g)
   ·refine .inr (.inr ⟨g1,g2,?_⟩)
    rcases g3 with g3 | ⟨g3,g4⟩
    ·exact .inl g3
    ·right;refine ⟨g3,?_⟩;omega
 ·intro hd1 hk1
  have hv:=h.virt hd1 (by omega)
  rcases hse with ⟨hx,rfl,rfl⟩ | ⟨_,_,rfl,rfl⟩ | ⟨_,_,rfl,rfl⟩
  ·exfalso
   obtain ⟨x,y,ho,hfo⟩:=Opt.level (A:=A) (B:=B) d.toNat (by omega)
   have:=tN (f:=0) hf hD hx ho (by omega)
   have:=OT ho.hx ho.hy
   omega
  ·exact hv
  ·exact hv
 ·intro x y ho hfd
  have h1:=h.prune x y ho hfd
  rcases hse with ⟨hx,rfl,rfl⟩ | ⟨_,hx,rfl,rfl⟩ | ⟨_,_,rfl,rfl⟩
  ·have:=tN (f:=0) hf hD hx ho hfd
   omega
  ·have:=IM hf hD hx ho hfd
   omega
  ·exact h1
 ·intro x y ho hfd
  have:=HL (A:=A) (B:=B) x y
  rw [jA V (by omega)]
  exact h.comp0 x y ho hfd
 ·intro x y ho hfd hlt
  have:=HL (A:=A) (B:=B) x y
  by_cases ej:(x:Int) - y=k
  ·rw [ej,oY];exact hreach x y ho hfd ej
  ·rw [jA V ej];exact h.comp x y ho hfd (by omega)
 ·intro h1 j h2 h3 h4
  rw [jA V (by omega)]
  exact h.set0 h1 j h2 h3 h4
 ·intro j h2 h3 h4
  by_cases ej:j=k
  ·subst ej;rw [oY];have:=hf.1;omega
  ·rw [jA V ej];exact h.set1 j h2 (by omega) h4
 ·intro h1
  rw [jA V (by omega)]
  exact h.ini h1
theorem Mid.finish (h:Mid A B mD d s0 e0 s e k V) (hk:¬k≤d - e):Done A B mD d s e V:=by
 have hs:=h.hs
 have he:=h.he
 have hd:=h.dpos
 refine ⟨by omega,by omega,by omega,?_,h.prune,?_,?_,by omega⟩
 ·intro j h1 h2
  rcases h.good j h1 h2 with g | g | ⟨g1,g2,g3⟩
  ·exact .inl g
  ·exact .inr (.inl g)
  ·refine .inr (.inr ⟨g1,g2,?_⟩)
   rcases g3 with g3 | ⟨g3,g4⟩
   ·omega
   ·have:=h.virt g3 g4;omega
 ·intro x y ho hfd
  have:=h.prune x y ho (by omega)
  exact h.comp x y ho hfd (by omega)
 ·intro _ j h2 h3 h4
  exact h.set1 j (by omega) (by omega) h4
theorem Done.start (h:Done A B mD d s e V) (hm:d+1 < mD) (hD:d≤dst A B):Mid A B mD (d+1) s e s e (-(d+1)+s) V:=by
 have hs:=h.s0
 have he:=h.e0
 have hd:=h.dlo
 have h00:d≤0→s=0∧e=0:=fun hd0=>by
  have:=h.prune 0 0 Opt.zero (by rw [xS];omega)
  rw [xS] at this
  omega
 refine ⟨by omega,hm,by omega,by omega,by omega,by omega,?_,?_,?_,?_,?_,?_,?_,?_,?_⟩
 ·intro j h1 h2
  rcases h.good j h1 h2 with g | g | ⟨g1,g2,g3⟩
  ·exact .inl g
  ·exact .inr (.inl (g.up (by omega)))
  ·have:=h00 g3
   exact .inr (.inr ⟨g1,g2,by omega⟩)
 ·intro h1 _
  exact (h00 (by omega)).2
 ·intro x y ho hfd
  exact h.prune x y ho (by omega)
 ·intro x y ho hfd
  exact h.comp x y ho (by omega)
 ·intro x y ho hfd hlt
  have:=h.prune x y ho (by omega)
  omega
 ·intro h1
  obtain ⟨x,y,ho,hfo⟩:=Opt.level (A:=A) (B:=B) d.toNat (by omega)
  have:=h.prune x y ho (by omega)
  omega
 ·intro h1 j h2 h3 h4
  exact h.set (by omega) j (by omega) (by omega) (by omega)
 ·intro j h2 h3 h4
  omega
 ·intro h1
  exact h.ini (by omega)
theorem Done.first (hm:1≤mD) (hV:∀j, -mD≤j→j < mD→j≠1→V j= -1) (h1:V 1=0):Done A B mD (-1) 0 0 V:=by
 refine ⟨by omega,by omega,by omega,?_,?_,?_,by omega,fun _=>h1⟩
 ·intro j g1 g2
  by_cases e:j=1
  ·subst e;exact .inr (.inr ⟨rfl,h1,by omega⟩)
  ·exact .inl (hV j g1 g2 e)
 ·intro x y ho _
  have:=OT ho.hx ho.hy
  omega
 ·intro x y ho hfd
  omega
end
section
variable {A B:List Int} {mD d s e k:Int} {V W:Int→Int}
theorem bI4 {xf xr:Int} (hx0:0≤xf) (hk0:k≤xf) (hx:xf≤A.length) (hy:xf - k≤B.length) (g:Ent A.reverse B.reverse d ((A.length:Int) - B.length - k) xr) (hm:(A.length:Int) - xr≤xf):(gt A B xf.toNat (xf - k).toNat:Int)≤d:=by
 obtain ⟨g0,g1,g2⟩:=g
 have h1:=SC (A:=A) (B:=B) (x:=xf.toNat) (y:=(xf - k).toNat) (by omega) (by omega)
 have h2:=VN (A:=A.reverse) (B:=B.reverse) (A.length - xf.toNat) (B.length - (xf - k).toNat) (xr - (A.length - xf)).toNat
 rw [show A.length - xf.toNat+(xr - (A.length - xf)).toNat=xr.toNat by omega,show B.length - (xf - k).toNat+(xr - (A.length - xf)).toNat=(xr - ((A.length:Int) - B.length - k)).toNat by omega] at h2
 omega
theorem aR0 {xf:Int} (hf:Ent A B d k xf) (hx:xf≤A.length) (hy:xf - k≤B.length) (hW:Done A.reverse B.reverse mD (d - 1) s e W) (h1: -mD≤(A.length:Int) - B.length - k) (h2:(A.length:Int) - B.length - k < mD)
  (h3:W ((A.length:Int) - B.length - k)≠ -1) (h4:(A.length:Int) - W ((A.length:Int) - B.length - k)≤xf) (hD:2 * d - 1≤dst A B):
  Opt A B xf.toNat (xf - k).toNat∧(ft A B xf.toNat (xf - k).toNat:Int)≤d∧(gt A B xf.toNat (xf - k).toNat:Int)≤d - 1:=by
 obtain ⟨f0,f1,f2⟩:=hf
 have key:(gt A B xf.toNat (xf - k).toNat:Int)≤d - 1:=by
  rcases hW.good _ h1 h2 with g | g | ⟨g1,g2,g3⟩
  ·exact absurd g h3
  ·exact bI4 f0 f1 hx hy g h4
  ·omega
 have:=rY (A:=A) (B:=B) xf.toNat (xf - k).toNat (by omega) (by omega)
 exact ⟨⟨by omega,by omega,by omega⟩,f2,key⟩
theorem cB8 {xr:Int} (hf:Ent A.reverse B.reverse d k xr) (hx:xr≤A.length) (hy:xr - k≤B.length) (hV:Done A B mD d s e V) (h1: -mD≤(A.length:Int) - B.length - k) (h2:(A.length:Int) - B.length - k < mD)
  (h3:V ((A.length:Int) - B.length - k)≠ -1) (h4:(A.length:Int) - xr≤V ((A.length:Int) - B.length - k)) (hD:2 * d≤dst A B) (hpar:((A.length:Int) - B.length) % 2=0) (hk:(k - d) % 2=0):
  ∃x y:Nat,V ((A.length:Int) - B.length - k)=x∧(x:Int) - y=(A.length:Int) - B.length - k∧Opt A B x y∧(ft A B x y:Int)≤d∧(gt A B x y:Int)≤d:=by
 rcases hV.good _ h1 h2 with g | g | ⟨g1,g2,g3⟩
 ·exact absurd g h3
 rotate_left
 ·have:=hf.2.2;omega
 obtain ⟨f0,f1,f2⟩:=hf
 generalize hj:(A.length:Int) - B.length - k=j at *
 have gE:=g
 obtain ⟨g0,g1,g2⟩:=g
 have q1:=VN (A:=A) (B:=B) (A.length - xr.toNat) (B.length - (xr - k).toNat) (V j - (A.length - xr)).toNat
 rw [show A.length - xr.toNat+(V j - (A.length - xr)).toNat=(V j).toNat by omega,show B.length - (xr - k).toNat+(V j - (A.length - xr)).toNat=(V j - j).toNat by omega] at q1
 have q2:=SC (A:=A) (B:=B) (x:=A.length - xr.toNat) (y:=B.length - (xr - k).toNat) (by omega) (by omega)
 rw [show A.length - (A.length - xr.toNat)=xr.toNat by omega,show B.length - (B.length - (xr - k).toNat)=(xr - k).toNat by omega] at q2
 have q3:=rY (A:=A) (B:=B) (A.length - xr.toNat) (B.length - (xr - k).toNat) (by omega) (by omega)
 have qo:Opt A B (A.length - xr.toNat) (B.length - (xr - k).toNat):=⟨by omega,by omega,by omega⟩
 have hVx:V j≤A.length:=by
  refine Int.not_lt.1 fun hlt=>?_
  have:=tN (f:=0) gE (by omega) hlt qo (by omega)
  omega
 have hVy:V j - j≤B.length:=by
  refine Int.not_lt.1 fun hlt=>?_
  have:=IM gE (by omega) hlt qo (by omega)
  omega
 have hrev:Ent A.reverse B.reverse d ((A.length:Int) - B.length - j) xr:=by
  rw [show (A.length:Int) - B.length - j=k by omega];exact ⟨f0,f1,f2⟩
 have key:=bI4 g0 g1 hVx hVy hrev h4
 have:=rY (A:=A) (B:=B) (V j).toNat (V j - j).toNat (by omega) (by omega)
 exact ⟨(V j).toNat,(V j - j).toNat,by omega,by omega,⟨by omega,by omega,by omega⟩,g2,key⟩
theorem V0 (hW:Done A.reverse B.reverse mD (d - 1) s e W) (hd:0≤d) (hdm:d < mD) (hD:(dst A B:Int)=2 * d - 1) {x y:Nat} (ho:Opt A B x y) (hfd:(ft A B x y:Int)=d) {xf:Int} (hxf:(x:Int)≤xf) (hk:(x:Int) - y=k):
  -mD≤(A.length:Int) - B.length - k∧(A.length:Int) - B.length - k < mD∧W ((A.length:Int) - B.length - k)≠ -1∧(A.length:Int) - W ((A.length:Int) - B.length - k)≤xf:=by
 obtain ⟨h1,h2⟩:=ho.rev
 have hs:=ho.sum
 have hx:=ho.hx
 have hy:=ho.hy
 have:=hW.comp _ _ h1 (by omega)
 have hlo:=OT h1.hx h1.hy
 rw [show ((A.length - x:Nat):Int) - ((B.length - y:Nat):Int)=(A.length:Int) - B.length - k by omega] at this
 exact ⟨by omega,by omega,by omega,by omega⟩
theorem cB3 (hV:Done A B mD d s e V) (hd:0≤d) (hdm:d < mD) (hD:(dst A B:Int)=2 * d) {x y:Nat} (ho:Opt A.reverse B.reverse x y) (hfd:(ft A.reverse B.reverse x y:Int)=d) {xr:Int} (hxr:(x:Int)≤xr) (hk:(x:Int) - y=k):
  -mD≤(A.length:Int) - B.length - k∧(A.length:Int) - B.length - k < mD∧V ((A.length:Int) - B.length - k)≠ -1∧(A.length:Int) - xr≤V ((A.length:Int) - B.length - k):=by
 obtain ⟨h1,h2⟩:=ho.rev
 have hs:=ho.sum
 have hx:=ho.hx
 have hy:=ho.hy
 simp only [List.reverse_reverse,List.length_reverse] at h1 h2 hx hy
 rw [jK] at hs
 have:=hV.comp _ _ h1 (by omega)
 have hlo:=OT h1.hx h1.hy
 rw [show ((A.length - x:Nat):Int) - ((B.length - y:Nat):Int)=(A.length:Int) - B.length - k by omega] at this
 exact ⟨by omega,by omega,by omega,by omega⟩
theorem GM {xf:Int} (hf:Ent A B d k xf) (hD:d≤dst A B) {x y:Nat} (ho:Opt A B x y) (hfd:(ft A B x y:Int)=d) (hk:(x:Int) - y=k):xf≤A.length∧xf - k≤B.length:=by
 refine ⟨Int.not_lt.1 fun hlt=>?_,Int.not_lt.1 fun hlt=>?_⟩
 ·have:=tN (f:=0) hf hD hlt ho (by omega);omega
 ·have:=IM hf hD hlt ho (by omega);omega
end
def Arr (v:List Int) (mD:Int) (V:Int→Int):Prop:=(v.length:Int)=2 * mD∧∀j, -mD≤j→j < mD→rd v (mD+j) 0=V j
theorem Arr.set {v:List Int} {mD:Int} {V:Int→Int} (h:Arr v mD V) {k x:Int} (h1: -mD≤k) (h2:k < mD):Arr (v.set (mD+k).toNat x) mD (ZL V k x):=by
 obtain ⟨hl,hv⟩:=h
 refine ⟨by rw [List.length_set];exact hl,fun j j1 j2=>?_⟩
 have e:rd (v.set (mD+k).toNat x) (mD+j) 0=if j=k then x else rd v (mD+j) 0:=by
  rw [uU (by omega) (by rw [List.length_set];omega),List.getElem_set]
  by_cases ej:j=k
  ·subst ej;simp
  ·rw [if_neg (by omega),if_neg ej,uU (by omega) (by omega)]
 rw [e]
 by_cases ej:j=k
 ·subst ej;rw [if_pos rfl,oY]
 ·rw [if_neg ej,jA V ej,hv j j1 j2]
section
variable {β:Type} (q91:DenA iB→Option (DenR fJ)) (aB:DenA eS→Option (DenR dC)) (aC:DenA eO→Option (DenR dL)) (aD:DenA eT→Option (DenR dQ)) (aA:DenA eH→Option (DenR dW))
variable {A B:List Int} {mD:Int} {p0:AK.den (.pro (.pair (.int .i64) (.pair (.int .i64) (.pair (.int .i64) (.pair (.flt .f64) (.pair (.int .i64) (.pair (.int .i64) (.flt .f64))))))) 0)}
theorem Ent.bound {d k x:Int} (h:Ent A B d k x):x≤A.length+d:=by
 have:=fB7 (A:=A) (B:=B) x.toNat (x - k).toNat
 have:=h.2.2
 omega
theorem fC6 (n:Nat) {V1:Int→Int} {v1 v2:List Int} {d s0 e0 s e k:Int} (hM:Mid A B mD d s0 e0 s e k V1) (hk:k≤d - e) (hA:Arr v1 mD V1) (hm:2≤mD) (hm2:mD≤1000000000) (hN:(A.length:Int)≤1000000000)
  (kn) (N M m1 L2 dl:Int) (fr:Bool) (a b c e2:Int):TY (β:=β) n q91 aB aC aD aA kn p0 A B N M m1 mD L2 v1 v2 dl fr a b c e2 d k=kn p0 A B N M m1 mD L2 v1 v2 dl fr a b c e2 d k (mD+k) (pick V1 d k):=by
 obtain ⟨hl,hv⟩:=hA
 have hs:=hM.hs
 have he:=hM.he
 have hd:=hM.dpos
 have hdm:=hM.dm
 have hkl:=hM.klo
 have hkp:=hM.kpar
 unfold TY
 rw [aG (n:=0 - d) (by omega) (by omega),aG (n:=mD+k) (by omega) (by omega),aG (n:=mD+k+1) (by omega) (by omega),aG (n:=mD+k - 1) (by omega) (by omega)]
 unfold pick
 by_cases c1:k= -d
 ·rw [biT (by simp;omega),aP (by omega) (by omega),if_pos (.inl c1),show mD+k+1=mD+(k+1) by omega,hv (k+1) (by omega) (by omega)]
 ·rw [biF (by simp;omega)]
  by_cases c2:k=d
  ·have hb:V1 (k - 1)≤A.length+d:=by
    rcases hM.good (k - 1) (by omega) (by omega) with g | g | g
    ·omega
    ·exact g.bound
    ·omega
   have hlo:=hM.low (k - 1) (by omega) (by omega)
   rw [biF (by simp [c2]),aP (by omega) (by omega),if_neg (by omega),show mD+k - 1=mD+(k - 1) by omega,hv (k - 1) (by omega) (by omega),aG (by omega) (by omega)]
  ·have hb:V1 (k - 1)≤A.length+d:=by
    rcases hM.good (k - 1) (by omega) (by omega) with g | g | g
    ·omega
    ·exact g.bound
    ·omega
   have hlo:=hM.low (k - 1) (by omega) (by omega)
   rw [biT (by simp [c2]),aP (by omega) (by omega),aP (by omega) (by omega),show mD+k+1=mD+(k+1) by omega,show mD+k - 1=mD+(k - 1) by omega,hv (k+1) (by omega) (by omega),hv (k - 1) (by omega) (by omega)]
   by_cases c3:V1 (k - 1) < V1 (k+1)
   ·rw [bdT c3,aP (by omega) (by omega),if_pos (.inr ⟨c2,c3⟩)]
   ·rw [bdF c3,aP (by omega) (by omega),if_neg (by omega),aG (by omega) (by omega)]
theorem fC9 (n:Nat) {V2:Int→Int} {v1 v2:List Int} {d s0 e0 s e k:Int} (hM:Mid A.reverse B.reverse mD d s0 e0 s e k V2) (hk:k≤d - e) (hA:Arr v2 mD V2) (hm:2≤mD) (hm2:mD≤1000000000) (hN:(A.length:Int)≤1000000000)
  (kn) (N M m1 L2 dl:Int) (fr:Bool) (a b c e2:Int):FB (β:=β) n q91 aB aC aD aA kn p0 A B N M m1 mD L2 v1 v2 dl fr a b c e2 d k=kn p0 A B N M m1 mD L2 v1 v2 dl fr a b c e2 d k (mD+k) (pick V2 d k):=by
 obtain ⟨hl,hv⟩:=hA
 have hs:=hM.hs
 have he:=hM.he
 have hd:=hM.dpos
 have hdm:=hM.dm
 have hkl:=hM.klo
 have hkp:=hM.kpar
 have hrl:A.reverse.length=A.length:=List.length_reverse
 unfold FB
 rw [aG (n:=0 - d) (by omega) (by omega),aG (n:=mD+k) (by omega) (by omega),aG (n:=mD+k+1) (by omega) (by omega),aG (n:=mD+k - 1) (by omega) (by omega)]
 unfold pick
 by_cases c1:k= -d
 ·rw [biT (by simp;omega),aP (by omega) (by omega),if_pos (.inl c1),show mD+k+1=mD+(k+1) by omega,hv (k+1) (by omega) (by omega)]
 ·rw [biF (by simp;omega)]
  by_cases c2:k=d
  ·have hb:V2 (k - 1)≤A.reverse.length+d:=by
    rcases hM.good (k - 1) (by omega) (by omega) with g | g | g
    ·omega
    ·exact g.bound
    ·omega
   have hlo:=hM.low (k - 1) (by omega) (by omega)
   rw [biF (by simp [c2]),aP (by omega) (by omega),if_neg (by omega),show mD+k - 1=mD+(k - 1) by omega,hv (k - 1) (by omega) (by omega),aG (by omega) (by omega)]
  ·have hb:V2 (k - 1)≤A.reverse.length+d:=by
    rcases hM.good (k - 1) (by omega) (by omega) with g | g | g
    ·omega
    ·exact g.bound
    ·omega
   have hlo:=hM.low (k - 1) (by omega) (by omega)
   rw [biT (by simp [c2]),aP (by omega) (by omega),aP (by omega) (by omega),show mD+k+1=mD+(k+1) by omega,show mD+k - 1=mD+(k - 1) by omega,hv (k+1) (by omega) (by omega),hv (k - 1) (by omega) (by omega)]
   by_cases c3:V2 (k - 1) < V2 (k+1)
   ·rw [bdT c3,aP (by omega) (by omega),if_pos (.inr ⟨c2,c3⟩)]
   ·rw [bdF c3,aP (by omega) (by omega),if_neg (by omega),aG (by omega) (by omega)]
theorem eU5 (n:Nat) {v1 v2:List Int} {d k:Int} (hN:(A.length:Int)≤1000000000) (hM:(B.length:Int)≤1000000000) (hk: -1000000000≤k) (hd:d≤1000000000)
  (kx) (m1 m2 L2 dl:Int) (fr:Bool) (a b c e2 dd off:Int):∀(t:Nat) (x:Int) (m:Nat),(A.length - x).toNat≤t→t < m→Ent A B d k x→
  ∃xf,x≤xf∧Ent A B d k xf∧Stop A B k xf∧g114_12L (β:=β) n q91 aB aC aD aA kx m p0 A B (A.length:Int) (B.length:Int) m1 m2 L2 v1 v2 dl fr a b c e2 dd k off x (x - k)=kx p0 A B (A.length:Int) (B.length:Int) m1 m2 L2 v1 v2 dl fr a b c e2 dd k off xf (xf - k):=by
 intro t
 induction t with
 | zero=>
  intro x m ht hm hE
  obtain ⟨m,rfl⟩:∃m',m=m'+1:=⟨m - 1,by omega⟩
  refine ⟨x,Int.le_refl _,hE,fun ⟨h1,_⟩=>by have:=hE.1;omega,?_⟩
  rw [g114_12L.eq_2,FD,bdF (by omega)]
 | succ t ih=>
  intro x m ht hm hE
  obtain ⟨m,rfl⟩:∃m',m=m'+1:=⟨m - 1,by omega⟩
  have hb:=hE.bound
  obtain ⟨e0,e1,e2'⟩:=hE
  rw [g114_12L.eq_2,FD]
  by_cases h1:x < A.length
  ·rw [bdT h1]
   by_cases h2:x - k < B.length
   ·rw [bdT h2,aP (by omega) (by omega),aP (by omega) (by omega),uU (by omega) (by omega),uU (by omega) (by omega)]
    by_cases h3:A[x.toNat]'(by omega)=B[(x - k).toNat]'(by omega)
    ·rw [biF (by simp [h3]),aG (by omega) (by omega),aG (by omega) (by omega)]
     have hs:=AZ (A:=A) (B:=B) (x:=x.toNat) (y:=(x - k).toNat) (by omega) (by omega) h3
     rw [show x.toNat+1=(x+1).toNat by omega,show (x - k).toNat+1=(x+1 - k).toNat by omega] at hs
     obtain ⟨xf,g1,g2,g3,g4⟩:=ih (x+1) m (by omega) (by omega) ⟨by omega,by omega,by omega⟩
     refine ⟨xf,by omega,g2,g3,?_⟩
     rw [show x - k+1=x+1 - k by omega]
     exact g4
    ·rw [biT (by simp [h3])]
     exact ⟨x,Int.le_refl _,⟨e0,e1,e2'⟩,fun ⟨_,_,h⟩=>h3 h,rfl⟩
   ·rw [bdF h2]
    exact ⟨x,Int.le_refl _,⟨e0,e1,e2'⟩,fun ⟨_,h,_⟩=>by omega,rfl⟩
  ·rw [bdF h1]
   exact ⟨x,Int.le_refl _,⟨e0,e1,e2'⟩,fun ⟨h,_,_⟩=>by omega,rfl⟩
theorem eR8 (n:Nat) {v1 v2:List Int} {d k:Int} (hN:(A.length:Int)≤1000000000) (hM:(B.length:Int)≤1000000000) (hk: -1000000000≤k) (hd:d≤1000000000)
  (kx) (m1 m2 L2 dl:Int) (fr:Bool) (a b c e2 dd off:Int):∀(t:Nat) (x:Int) (m:Nat),(A.length - x).toNat≤t→t < m→Ent A.reverse B.reverse d k x→
  ∃xf,x≤xf∧Ent A.reverse B.reverse d k xf∧Stop A.reverse B.reverse k xf∧g114_26L (β:=β) n q91 aB aC aD aA kx m p0 A B (A.length:Int) (B.length:Int) m1 m2 L2 v1 v2 dl fr a b c e2 dd k off x (x - k)=kx p0 A B (A.length:Int) (B.length:Int) m1 m2 L2 v1 v2 dl fr a b c e2 dd k off xf (xf - k):=by
 have hra:A.reverse.length=A.length:=List.length_reverse
 have hrb:B.reverse.length=B.length:=List.length_reverse
 intro t
 induction t with
 | zero=>
  intro x m ht hm hE
  obtain ⟨m,rfl⟩:∃m',m=m'+1:=⟨m - 1,by omega⟩
  refine ⟨x,Int.le_refl _,hE,fun ⟨h1,_⟩=>by have:=hE.1;omega,?_⟩
  rw [g114_26L.eq_2,GY,bdF (by omega)]
 | succ t ih=>
  intro x m ht hm hE
  obtain ⟨m,rfl⟩:∃m',m=m'+1:=⟨m - 1,by omega⟩
  have hb:=hE.bound
  obtain ⟨e0,e1,e2'⟩:=hE
  rw [g114_26L.eq_2,GY]
  by_cases h1:x < A.length
  ·rw [bdT h1]
   by_cases h2:x - k < B.length
   ·have r1:rd A ((A.length:Int) - x - 1) 0=A.reverse[x.toNat]'(by omega):=by
     rw [uU (by omega) (by omega),List.getElem_reverse];congr 1;omega
    have r2:rd B ((B.length:Int) - (x - k) - 1) 0=B.reverse[(x - k).toNat]'(by omega):=by
     rw [uU (by omega) (by omega),List.getElem_reverse];congr 1;omega
    rw [bdT h2,aG (n:=(A.length:Int) - x) (by omega) (by omega),aG (n:=(A.length:Int) - x - 1) (by omega) (by omega),aG (n:=(B.length:Int) - (x - k)) (by omega) (by omega),aG (n:=(B.length:Int) - (x - k) - 1) (by omega) (by omega),aP (by omega) (by omega),aP (by omega) (by omega),r1,r2]
    by_cases h3:A.reverse[x.toNat]'(by omega)=B.reverse[(x - k).toNat]'(by omega)
    ·rw [biF (by simp [h3]),aG (by omega) (by omega),aG (by omega) (by omega)]
     have hs:=AZ (A:=A.reverse) (B:=B.reverse) (x:=x.toNat) (y:=(x - k).toNat) (by omega) (by omega) h3
     rw [show x.toNat+1=(x+1).toNat by omega,show (x - k).toNat+1=(x+1 - k).toNat by omega] at hs
     obtain ⟨xf,g1,g2,g3,g4⟩:=ih (x+1) m (by omega) (by omega) ⟨by omega,by omega,by omega⟩
     refine ⟨xf,by omega,g2,g3,?_⟩
     rw [show x - k+1=x+1 - k by omega]
     exact g4
    ·rw [biT (by rw [bne_iff_ne];exact h3)]
     exact ⟨x,Int.le_refl _,⟨e0,e1,e2'⟩,fun ⟨_,_,h⟩=>h3 h,rfl⟩
   ·rw [bdF h2]
    exact ⟨x,Int.le_refl _,⟨e0,e1,e2'⟩,fun ⟨_,h,_⟩=>by omega,rfl⟩
  ·rw [bdF h1]
   exact ⟨x,Int.le_refl _,⟨e0,e1,e2'⟩,fun ⟨h,_,_⟩=>by omega,rfl⟩
end
section
variable {β:Type} (q91:DenA iB→Option (DenR fJ)) (aB:DenA eS→Option (DenR dC)) (aC:DenA eO→Option (DenR dL)) (aD:DenA eT→Option (DenR dQ)) (aA:DenA eH→Option (DenR dW))
variable {A B:List Int} {mD:Int} {p0:AK.den (.pro (.pair (.int .i64) (.pair (.int .i64) (.pair (.int .i64) (.pair (.flt .f64) (.pair (.int .i64) (.pair (.int .i64) (.flt .f64))))))) 0)}
def Met (kr:List (Int×BA)→Option β) (q:DenA eH→Option (DenR dW)) (p0:AK.den (.pro (.pair (.int .i64) (.pair (.int .i64) (.pair (.int .i64) (.pair (.flt .f64) (.pair (.int .i64) (.pair (.int .i64) (.flt .f64))))))) 0)) (A B:List Int) (r:Option β):Prop:=
 ∃x y:Nat,Opt A B x y∧2 * ft A B x y≤dst A B+1∧2 * gt A B x y≤dst A B+1∧r=(q (p0,(A,(B,((x:Int),((y:Int),())))))).bind fun r1=>kr r1.1
theorem Done.low {d s e:Int} {V:Int→Int} (h:Done A B mD d s e V) (j:Int) (h1: -mD≤j) (h2:j < mD) (hd:d≤1000000) (hN:(A.length:Int)≤1000000): -1≤V j∧V j≤2000000:=by
 rcases h.good j h1 h2 with g | g | g
 ·omega
 ·have:=g.1;have:=g.bound;omega
 ·omega
theorem fB1 (n:Nat) (hn:Big≤n) {V1 V2:Int→Int} {v1 v2:List Int} {d s0 e0 s e k sW eW s2 e2:Int} {kn} {kr:List (Int×BA)→Option β} {fr:Bool}
  (hM:Mid A B mD d s0 e0 s e k V1) (hk:k≤d - e) (hA:Arr v1 mD V1) (hA2:Arr v2 mD V2) (hW:Done A.reverse B.reverse mD (d - 1) sW eW V2) (hm:2≤mD) (hm2:mD≤1000000) (hN:(A.length:Int)≤1000000) (hNM:(B.length:Int)≤1000000) (hD:2 * d - 1≤dst A B) (hDd:d≤dst A B) (hse:s≤3000000) (hee:e≤3000000):
  Met kr aA p0 A B (qT (β:=β) n q91 aB aC aD aA kn kr p0 A B (A.length:Int) (B.length:Int) mD mD (2 * mD) v1 v2 ((A.length:Int) - B.length) fr s e s2 e2 d k)∨
  ∃xf s' e',qT (β:=β) n q91 aB aC aD aA kn kr p0 A B (A.length:Int) (B.length:Int) mD mD (2 * mD) v1 v2 ((A.length:Int) - B.length) fr s e s2 e2 d k=kn p0 A B (A.length:Int) (B.length:Int) mD mD (2 * mD) (v1.set (mD+k).toNat xf) v2 ((A.length:Int) - B.length) fr s' e' s2 e2 d k∧
   Ent A B d k xf∧pick V1 d k≤xf∧Stop A B k xf∧(((A.length:Int) < xf∧s'=s∧e'=e+2)∨(xf≤A.length∧(B.length:Int) < xf - k∧s'=s+2∧e'=e)∨(xf≤A.length∧xf - k≤B.length∧s'=s∧e'=e))∧
   (fr=true→(dst A B:Int)=2 * d - 1→∀x y:Nat,Opt A B x y→(ft A B x y:Int)=d→(x:Int) - y≠k):=by
 have hs:=hM.hs
 have he:=hM.he
 have hd:=hM.dpos
 have hdm:=hM.dm
 have hkl:=hM.klo
 have hpk:=hM.pick_ok hk
 have hpb:=hpk.bound
 have hp0:=hpk.1
 have hpk':=hpk.2.1
 obtain ⟨xf,x1,x2,x3,x4⟩:=eU5 (β:=β) (A:=A) (B:=B) (p0:=p0) (d:=d) (k:=k) q91 aB aC aD aA n (v1:=v1) (v2:=v2) (by omega) (by omega) (by omega) (by omega) (fun p0 x1 x2 v7 v8 v9 v10 v11 x12 x13 v15 v16 v17 v18 v19 v20 v21 v22 v23 v24 v25=>zH n q91 aB aC aD aA kn kr p0 x1 x2 v7 v8 v9 v10 v11 x12 x13 v15 v16 v17 v18 v19 v20 v21 v22 v23 v24 v25) mD mD (2 * mD) ((A.length:Int) - B.length) fr s e s2 e2 d (mD+k) _ (pick V1 d k) n (Nat.le_refl _) (by unfold Big at hn;omega) hpk
 have hl2:=hA2.1
 have hl1:=hA.1
 have e15:qT (β:=β) n q91 aB aC aD aA kn kr p0 A B (A.length:Int) (B.length:Int) mD mD (2 * mD) v1 v2 ((A.length:Int) - B.length) fr s e s2 e2 d k=zH n q91 aB aC aD aA kn kr p0 A B (A.length:Int) (B.length:Int) mD mD (2 * mD) v1 v2 ((A.length:Int) - B.length) fr s e s2 e2 d k (mD+k) xf (xf - k):=by
  rw [←x4]
  unfold qT
  rw [fC6 (β:=β) (A:=A) (B:=B) (p0:=p0) q91 aB aC aD aA n hM hk hA hm (by omega) (by omega)]
  unfold QL WD WK
  rw [aG (by omega) (by omega)]
 rw [e15]
 have hxb:=x2.bound
 have hx0:=x2.1
 have hxk:=x2.2.1
 unfold zH
 rw [aP (by omega) (by omega)]
 have nodet:∀(r:Option β),(fr=true→(dst A B:Int)=2 * d - 1→∀x y:Nat,Opt A B x y→(ft A B x y:Int)=d→(x:Int) - y≠k)→
   (xf≤A.length∧xf - k≤B.length)→r=kn p0 A B (A.length:Int) (B.length:Int) mD mD (2 * mD) (v1.set (mD+k).toNat xf) v2 ((A.length:Int) - B.length) fr s e s2 e2 d k→
   Met kr aA p0 A B r∨
   ∃xf s' e',r=kn p0 A B (A.length:Int) (B.length:Int) mD mD (2 * mD) (v1.set (mD+k).toNat xf) v2 ((A.length:Int) - B.length) fr s' e' s2 e2 d k∧
    Ent A B d k xf∧pick V1 d k≤xf∧Stop A B k xf∧(((A.length:Int) < xf∧s'=s∧e'=e+2)∨(xf≤A.length∧(B.length:Int) < xf - k∧s'=s+2∧e'=e)∨(xf≤A.length∧xf - k≤B.length∧s'=s∧e'=e))∧
    (fr=true→(dst A B:Int)=2 * d - 1→∀x y:Nat,Opt A B x y→(ft A B x y:Int)=d→(x:Int) - y≠k):=
  fun r h1 h2 h3=> .inr ⟨xf,s,e,h3,x2,x1,x3,.inr (.inr ⟨h2.1,h2.2,rfl,rfl⟩),h1⟩
 by_cases c1:xf>A.length
 ·rw [bdT c1,aG (by omega) (by omega)]
  refine .inr ⟨xf,s,e+2,rfl,x2,x1,x3,.inl ⟨c1,rfl,rfl⟩,fun _ _ x y ho hfo hkk=>?_⟩
  have:=GM x2 hDd ho hfo hkk;omega
 ·rw [bdF c1]
  by_cases c2:xf - k>B.length
  ·rw [bdT c2,aG (by omega) (by omega)]
   refine .inr ⟨xf,s+2,e,rfl,x2,x1,x3,.inr (.inl ⟨by omega,c2,rfl,rfl⟩),fun _ _ x y ho hfo hkk=>?_⟩
   have:=GM x2 hDd ho hfo hkk;omega
  ·rw [bdF c2]
   by_cases hfr:fr=false
   ·rw [biF hfr]
    exact nodet _ (by simp [hfr]) ⟨by omega,by omega⟩ rfl
   ·have hfr:fr=true:=by simpa using hfr
    rw [biT hfr]
    rw [aG (n:=mD+((A.length:Int) - B.length)) (by omega) (by omega),aG (n:=mD+((A.length:Int) - B.length) - k) (by omega) (by omega)]
    have must:(dst A B:Int)=2 * d - 1→∀x y:Nat,Opt A B x y→(ft A B x y:Int)=d→(x:Int) - y=k→ -mD≤(A.length:Int) - B.length - k∧(A.length:Int) - B.length - k < mD∧V2 ((A.length:Int) - B.length - k)≠ -1∧(A.length:Int) - V2 ((A.length:Int) - B.length - k)≤xf:=
     fun hDD x y ho hfo hkk=>V0 hW hd hdm hDD ho hfo (hM.reach hk x2 x1 x3 x y ho hfo hkk) hkk
    by_cases c3:mD+((A.length:Int) - B.length) - k≥0
    ·rw [bdT c3]
     by_cases c4:mD+((A.length:Int) - B.length) - k < 2 * mD
     ·rw [bdT c4]
      have hv:=hA2.2 ((A.length:Int) - B.length - k) (by omega) (by omega)
      have hvb:=hW.low ((A.length:Int) - B.length - k) (by omega) (by omega) (by omega) (by rw [List.length_reverse];omega)
      rw [aP (by omega) (by omega),aP (by omega) (by omega),show mD+((A.length:Int) - B.length) - k=mD+((A.length:Int) - B.length - k) by omega,hv]
      by_cases c5:V2 ((A.length:Int) - B.length - k)= -1
      ·rw [biF (by simp [c5])]
       exact nodet _ (fun _ hDD x y ho hfo hkk=>(must hDD x y ho hfo hkk).2.2.1 c5) ⟨by omega,by omega⟩ rfl
      ·rw [biT (by simp [c5]),aG (by omega) (by omega)]
       by_cases c6:xf≥(A.length:Int) - V2 ((A.length:Int) - B.length - k)
       ·rw [bdT c6]
        left
        obtain ⟨m1,m2,m3⟩:=aR0 x2 (by omega) (by omega) hW (by omega) (by omega) c5 (by omega) hD
        refine ⟨xf.toNat,(xf - k).toNat,m1,by omega,by omega,?_⟩
        rw [Int.toNat_of_nonneg hx0,Int.toNat_of_nonneg (by omega)]
       ·rw [bdF c6]
        exact nodet _ (fun _ hDD x y ho hfo hkk=>by have:=(must hDD x y ho hfo hkk).2.2.2;omega) ⟨by omega,by omega⟩ rfl
     ·rw [bdF c4]
      exact nodet _ (fun _ hDD x y ho hfo hkk=>by have:=(must hDD x y ho hfo hkk).2.1;omega) ⟨by omega,by omega⟩ rfl
    ·rw [bdF c3]
     exact nodet _ (fun _ hDD x y ho hfo hkk=>by have:=(must hDD x y ho hfo hkk).1;omega) ⟨by omega,by omega⟩ rfl
theorem fA1 (n:Nat) (hn:Big≤n) {V1 V2:Int→Int} {v1 v2:List Int} {d s0 e0 s e k sW eW s1 e1:Int} {kn} {kr:List (Int×BA)→Option β} {fr:Bool} (hfrd:fr=false→((A.length:Int) - B.length) % 2=0)
  (hM:Mid A.reverse B.reverse mD d s0 e0 s e k V2) (hk:k≤d - e) (hA:Arr v2 mD V2) (hA1:Arr v1 mD V1) (hV:Done A B mD d sW eW V1) (hm:2≤mD) (hm2:mD≤1000000) (hN:(A.length:Int)≤1000000) (hNM:(B.length:Int)≤1000000) (hD:fr=false→2 * d≤dst A B) (hDd:d≤dst A B) (hse:s≤3000000) (hee:e≤3000000):
  Met kr aA p0 A B (pY (β:=β) n q91 aB aC aD aA kn kr p0 A B (A.length:Int) (B.length:Int) mD mD (2 * mD) v1 v2 ((A.length:Int) - B.length) fr s1 e1 s e d k)∨
  ∃xf s' e',pY (β:=β) n q91 aB aC aD aA kn kr p0 A B (A.length:Int) (B.length:Int) mD mD (2 * mD) v1 v2 ((A.length:Int) - B.length) fr s1 e1 s e d k=kn p0 A B (A.length:Int) (B.length:Int) mD mD (2 * mD) v1 (v2.set (mD+k).toNat xf) ((A.length:Int) - B.length) fr s1 e1 s' e' d k∧
   Ent A.reverse B.reverse d k xf∧pick V2 d k≤xf∧Stop A.reverse B.reverse k xf∧(((A.reverse.length:Int) < xf∧s'=s∧e'=e+2)∨(xf≤A.reverse.length∧(B.reverse.length:Int) < xf - k∧s'=s+2∧e'=e)∨(xf≤A.reverse.length∧xf - k≤B.reverse.length∧s'=s∧e'=e))∧
   (fr=false→(dst A B:Int)=2 * d→∀x y:Nat,Opt A.reverse B.reverse x y→(ft A.reverse B.reverse x y:Int)=d→(x:Int) - y≠k):=by
 have hra:A.reverse.length=A.length:=List.length_reverse
 have hrb:B.reverse.length=B.length:=List.length_reverse
 have hrD:dst A.reverse B.reverse=dst A B:=jK A B
 have hs:=hM.hs
 have he:=hM.he
 have hd:=hM.dpos
 have hdm:=hM.dm
 have hkl:=hM.klo
 have hkp:=hM.kpar
 have hpk:=hM.pick_ok hk
 have hpb:=hpk.bound
 have hp0:=hpk.1
 have hpk':=hpk.2.1
 obtain ⟨xf,x1,x2,x3,x4⟩:=eR8 (β:=β) (A:=A) (B:=B) (p0:=p0) (d:=d) (k:=k) q91 aB aC aD aA n (v1:=v1) (v2:=v2) (by omega) (by omega) (by omega) (by omega) (fun p0 x1 x2 v7 v8 v9 v10 v11 x12 x13 v15 v16 v17 v18 v19 v20 v21 v22 v23 v24 v25=>BR n q91 aB aC aD aA kn kr p0 x1 x2 v7 v8 v9 v10 v11 x12 x13 v15 v16 v17 v18 v19 v20 v21 v22 v23 v24 v25) mD mD (2 * mD) ((A.length:Int) - B.length) fr s1 e1 s e d (mD+k) _ (pick V2 d k) n (Nat.le_refl _) (by unfold Big at hn;omega) hpk
 have hl2:=hA.1
 have hl1:=hA1.1
 have e15:pY (β:=β) n q91 aB aC aD aA kn kr p0 A B (A.length:Int) (B.length:Int) mD mD (2 * mD) v1 v2 ((A.length:Int) - B.length) fr s1 e1 s e d k=BR n q91 aB aC aD aA kn kr p0 A B (A.length:Int) (B.length:Int) mD mD (2 * mD) v1 v2 ((A.length:Int) - B.length) fr s1 e1 s e d k (mD+k) xf (xf - k):=by
  rw [←x4]
  unfold pY
  rw [fC9 (β:=β) (A:=A) (B:=B) (p0:=p0) q91 aB aC aD aA n hM hk hA hm (by omega) (by omega)]
  unfold WI UA SO
  rw [aG (by omega) (by omega)]
 rw [e15]
 have hxb:=x2.bound
 have hx0:=x2.1
 have hxk:=x2.2.1
 unfold BR
 rw [aP (by omega) (by omega)]
 have nodet:∀(r:Option β),(fr=false→(dst A B:Int)=2 * d→∀x y:Nat,Opt A.reverse B.reverse x y→(ft A.reverse B.reverse x y:Int)=d→(x:Int) - y≠k)→
   (xf≤A.length∧xf - k≤B.length)→r=kn p0 A B (A.length:Int) (B.length:Int) mD mD (2 * mD) v1 (v2.set (mD+k).toNat xf) ((A.length:Int) - B.length) fr s1 e1 s e d k→
   Met kr aA p0 A B r∨
   ∃xf s' e',r=kn p0 A B (A.length:Int) (B.length:Int) mD mD (2 * mD) v1 (v2.set (mD+k).toNat xf) ((A.length:Int) - B.length) fr s1 e1 s' e' d k∧
    Ent A.reverse B.reverse d k xf∧pick V2 d k≤xf∧Stop A.reverse B.reverse k xf∧(((A.reverse.length:Int) < xf∧s'=s∧e'=e+2)∨(xf≤A.reverse.length∧(B.reverse.length:Int) < xf - k∧s'=s+2∧e'=e)∨(xf≤A.reverse.length∧xf - k≤B.reverse.length∧s'=s∧e'=e))∧
    (fr=false→(dst A B:Int)=2 * d→∀x y:Nat,Opt A.reverse B.reverse x y→(ft A.reverse B.reverse x y:Int)=d→(x:Int) - y≠k):=
  fun r h1 h2 h3=> .inr ⟨xf,s,e,h3,x2,x1,x3,.inr (.inr ⟨by omega,by omega,rfl,rfl⟩),h1⟩
 by_cases c1:xf>A.length
 ·rw [bdT c1,aG (by omega) (by omega)]
  refine .inr ⟨xf,s,e+2,rfl,x2,x1,x3,.inl ⟨by omega,rfl,rfl⟩,fun _ _ x y ho hfo hkk=>?_⟩
  have:=GM x2 (by omega) ho hfo hkk;omega
 ·rw [bdF c1]
  by_cases c2:xf - k>B.length
  ·rw [bdT c2,aG (by omega) (by omega)]
   refine .inr ⟨xf,s+2,e,rfl,x2,x1,x3,.inr (.inl ⟨by omega,by omega,rfl,rfl⟩),fun _ _ x y ho hfo hkk=>?_⟩
   have:=GM x2 (by omega) ho hfo hkk;omega
  ·rw [bdF c2]
   by_cases hfr:fr=true
   ·rw [biF (by simp [hfr])]
    exact nodet _ (by simp [hfr]) ⟨by omega,by omega⟩ rfl
   ·have hfr:fr=false:=by simpa using hfr
    rw [biT (by simp [hfr])]
    rw [aG (n:=mD+((A.length:Int) - B.length)) (by omega) (by omega),aG (n:=mD+((A.length:Int) - B.length) - k) (by omega) (by omega)]
    have must:(dst A B:Int)=2 * d→∀x y:Nat,Opt A.reverse B.reverse x y→(ft A.reverse B.reverse x y:Int)=d→(x:Int) - y=k→ -mD≤(A.length:Int) - B.length - k∧(A.length:Int) - B.length - k < mD∧V1 ((A.length:Int) - B.length - k)≠ -1∧(A.length:Int) - xf≤V1 ((A.length:Int) - B.length - k):=
     fun hDD x y ho hfo hkk=>cB3 hV hd hdm hDD ho hfo (hM.reach hk x2 x1 x3 x y ho hfo hkk) hkk
    by_cases c3:mD+((A.length:Int) - B.length) - k≥0
    ·rw [bdT c3]
     by_cases c4:mD+((A.length:Int) - B.length) - k < 2 * mD
     ·rw [bdT c4]
      have hv:=hA1.2 ((A.length:Int) - B.length - k) (by omega) (by omega)
      have hvb:=hV.low ((A.length:Int) - B.length - k) (by omega) (by omega) (by omega) (by omega)
      rw [aP (by omega) (by omega),aP (by omega) (by omega),show mD+((A.length:Int) - B.length) - k=mD+((A.length:Int) - B.length - k) by omega,hv]
      by_cases c5:V1 ((A.length:Int) - B.length - k)= -1
      ·rw [biF (by simp [c5])]
       exact nodet _ (fun _ hDD x y ho hfo hkk=>(must hDD x y ho hfo hkk).2.2.1 c5) ⟨by omega,by omega⟩ rfl
      ·rw [biT (by simp [c5]),aG (n:=(A.length:Int) - xf) (by omega) (by omega)]
       by_cases c6:V1 ((A.length:Int) - B.length - k)≥(A.length:Int) - xf
       ·rw [bdT c6]
        left
        obtain ⟨x,y,m0,m1,m2,m3,m4⟩:=cB8 x2 (by omega) (by omega) hV (by omega) (by omega) c5 (by omega) (hD hfr) (hfrd hfr) hkp
        have hD':=hD hfr
        refine ⟨x,y,m2,by omega,by omega,?_⟩
        have hmx:=m2.hx
        have hmy:=m2.hy
        rw [m0,aG (n:=mD+(x:Int)) (by omega) (by omega),aG (n:=mD+(x:Int) - (mD+((A.length:Int) - B.length - k))) (by omega) (by omega),show mD+(x:Int) - (mD+((A.length:Int) - B.length - k))=(y:Int) by omega]
       ·rw [bdF c6]
        exact nodet _ (fun _ hDD x y ho hfo hkk=>by have:=(must hDD x y ho hfo hkk).2.2.2;omega) ⟨by omega,by omega⟩ rfl
     ·rw [bdF c4]
      exact nodet _ (fun _ hDD x y ho hfo hkk=>by have:=(must hDD x y ho hfo hkk).2.1;omega) ⟨by omega,by omega⟩ rfl
    ·rw [bdF c3]
     exact nodet _ (fun _ hDD x y ho hfo hkk=>by have:=(must hDD x y ho hfo hkk).1;omega) ⟨by omega,by omega⟩ rfl
end
end Go.Proofs.YthkiaiilpaojnaaDoorZF
