/- Plain statements about the printed functions. -/
import Derived.Test.YtoafkjeamgelgaaDoorHPQ0
import Derived.Test.YtoafkjeamgelgaaDoorHGA0
import Derived.Test.YtoafkjeamgelgaaDoorHFB
namespace Go.Proofs.YtoafkjeamgelgaaDoorHF
open Go
set_option linter.unusedVariables false
set_option linter.unusedSimpArgs false
theorem QT:∀x:List Rp,(∀y∈x,y.2.length≤30)→wD x≤30 * x.length:=by
 intro x
 induction x with
 | nil=>intro _;simp [OU]
 | cons d x ih=>intro h;rw [sD,List.length_cons];have:=h d (by simp);have:=ih fun y hy=>h y (by simp [hy]);omega
theorem OD:∀x:List Rp,(∀y∈x,y.2.length≤30)→wgt x≤2000 * x.length:=by
 intro x
 induction x with
 | nil=>intro _;exact Nat.zero_le _
 | cons d x ih=>
  intro h
  have h1:=h d (by simp)
  have h2:=ih fun y hy=>h y (by simp [hy])
  have h3:=iI d.2
  rw [List.length_cons]
  show 10+11 * (enc d.2).size+wgt x≤_
  omega
theorem oS:∀x:List Rp,(iC x).size≤wgt x
 | []=>Nat.zero_le _
 | d::x=>by
  have:=oS x
  show (enc d.2++iC x).size≤10+11 * (enc d.2).size+wgt x
  rw [size_append];omega
theorem mV:∀x y:List Rp,iC (x++y)=iC x++iC y
 | [],y=>gY (by rw [bU];rfl)
 | d::x,y=>by
  show enc d.2++iC (x++y)=enc d.2++iC x++iC y
  rw [mV x y,dJ]
theorem PW (d:Rp):iC [d]=enc d.2:=gY (by show bl (enc d.2++_)=_;rw [bU];simp [iC,bl])
theorem tN (n:Nat) (hn:Big≤n) (xs:List Rp) (ho:∀y∈xs,OkR y) (hl:xs.length≤1000000) (ha:wD xs≤100000) (hw:wgt xs≤1000000000) (hno:∀d∈xs,NoB 27 (enc d.2)):∃Q:BA,g28 n (xs.map emb)=some (Q,())∧Seg Q (aE (iC xs))∧Q.size≤wgt xs:=by
 dsimp only [g28,HT]
 obtain ⟨p,hp⟩:∃p,g37 n=some (p,()):=⟨_,rfl⟩
 obtain ⟨Q,e,hS,hQ⟩:=uJ n hn p xs ho hl ha hno hw
 refine ⟨Q,?_,hS,hQ⟩
 rw [bA hp,SM n hn xs hl ho,Option.bind_some]
 simp only
 exact bA e
theorem FP (n:Nat) (hn:Big≤n) (l:List Prt):g8 n l=some (true,()):=by
 have hB:(4611686018427387904:Nat)≤n:=hn
 dsimp only [g8,QZ,WC]
 rcases ST n hn l with ⟨h,hl,hs⟩ | h
 ·rw [h,Option.bind_some]
  simp only [Bool.not_true,cond_false]
  obtain ⟨xs,e1,e2,e3⟩:=BJ n hn l hl hs
  rw [e1,Option.bind_some]
  have hall:=QT xs fun y hy=>(e3 y hy).2
  have hwg:=OD xs fun y hy=>(e3 y hy).2
  have hae:=oS xs
  have hok:∀y∈xs,OkR y:=fun y hy=>(e3 y hy).1
  have hsz:∀y∈xs.map emb,y.2.size≤1000000000:=fun y hy=>by
   obtain ⟨d,hd,rfl⟩:=List.mem_map.1 hy
   have:=iI d.2
   have:=(e3 d hd).2
   show (enc d.2).size≤_
   omega
  have last:∀v3,v3=iC xs→NI n (fun v2=>some (v2,())) (xs.map emb) v3=some (true,()):=by
   intro v3 hv
   subst hv
   dsimp only [NI]
   obtain ⟨a,b,e,_,h2⟩:=IY n hn (xs.map emb) (by rw [List.length_map];omega) hsz
   rw [e,Option.bind_some]
   cases b with
   | true=>rfl
   | false=>
    simp only [cond_false]
    obtain ⟨Q,e4,hS,hQ⟩:=tN n hn xs hok (by omega) (by omega) (by omega) (fun d hd=>h2 rfl (emb d) (List.mem_map_of_mem hd))
    rw [e4,Option.bind_some]
    simp only
    rw [HN n hn Q _ hS (by omega),Option.bind_some]
    simp only
    rw [fR,pJ,decide_eq_true rfl]
  dsimp only [WJ,WE]
  have hlm:(xs.map emb).length=xs.length:=List.length_map _
  have key:∀(d i m:Nat),xs.length - i=d→i≤xs.length→d < m→g8_3L n (fun x0 v3=>NI n (fun v2=>some (v2,())) x0 v3) m (xs.map emb) (iC (xs.take i)) ((xs.map emb).length:Int) (i:Int)=some (true,()):=by
   intro d
   induction d with
   | zero=>
    intro i m hd hi hm
    obtain ⟨m,rfl⟩:∃m',m=m'+1:=⟨m - 1,by omega⟩
    rw [g8_3L.eq_2,RM,bdF (by omega),List.take_of_length_le (by omega)]
    exact last _ rfl
   | succ d ih=>
    intro i m hd hi hm
    obtain ⟨m,rfl⟩:∃m',m=m'+1:=⟨m - 1,by omega⟩
    have hi':i < xs.length:=by omega
    have hI:i < (xs.map emb).length:=by omega
    have hg:(xs.map emb)[i]=emb xs[i]:=List.getElem_map _
    have hw:w64 ((i:Int)+1)=((i+1:Nat):Int):=by rw [bW (by omega) (by omega)];omega
    have hpre:=oS (xs.take i)
    have hpre2:=OD (xs.take i) fun y hy=>(e3 y (List.mem_of_mem_take hy)).2
    have hpre3:(xs.take i).length≤xs.length:=by rw [List.length_take];omega
    have hq:=hsz (emb xs[i]) (List.mem_map_of_mem (List.getElem_mem hi'))
    have next:=ih (i+1) m (by omega) (by omega) (by omega)
    rw [List.take_succ_eq_append_getElem hi',mV,PW] at next
    rw [g8_3L.eq_2,RM,bdT (by omega),cB (by omega) (by omega)]
    simp only [iS,gE hI,hg]
    rw [fK (by omega),hw]
    exact next
  exact key xs.length 0 n (by omega) (Nat.zero_le _) (by omega)
 ·rw [h];rfl
theorem FnPrettyPlain_pure:∀d,DB g8_A d→∃n,WZ n d=some (true,()):=fun d _=>⟨Big,FP Big (Nat.le_refl _) d.1⟩
end Go.Proofs.YtoafkjeamgelgaaDoorHF
