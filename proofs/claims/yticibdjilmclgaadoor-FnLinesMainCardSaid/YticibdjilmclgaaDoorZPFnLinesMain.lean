/- Plain statements about the printed functions. -/
import Derived.Test.YticibdjilmclgaaDoorZPQ0
import Derived.Test.YticibdjilmclgaaDoorZPQ1
import Derived.Test.YticibdjilmclgaaDoorZGA1
import Derived.Test.YticibdjilmclgaaDoorZFB
namespace Go.Proofs.YticibdjilmclgaaDoorZF
open Go
set_option linter.unusedVariables false
set_option linter.unusedSimpArgs false
theorem cV8 (w:List Int):cP (enc (w++[10])) (((enc (w++[10])).size:Int) - 1)=10:=by
 have hs:(enc (w++[10])).size=(enc w).size+1:=by rw [cA];rfl
 have eb:bN (enc (w++[10]))=bN (enc w)++[10]:=by rw [bR,cI];rfl
 rw [show ((enc (w++[10])).size:Int) - 1=((enc w).size:Int) by omega,jV (by omega) (by omega),eb,iT,List.getD_eq_getElem?_getD,List.getElem?_append_right (by rw [aW];omega),aW,Nat.sub_self]
 rfl
theorem i7 (n:Nat) (hn:Big≤n) (L:List Rp) (hL:L.length≤100000) (hA:dB L≤100000) (hP:∀X d Y,L=X++d::Y→d.2≠[]∧((∃w,d.2=w++[10])∨Y.length≤1)) {β:Type} (kr:Bool→Option β) (kx0) (v0 v1):∀(d i m:Nat),L.length - i=d→d < m→i≤L.length→g10_3L n kr kx0 m v0 v1 (M L) (M L) ((M L).length:Int) (i:Int)=kx0 v0 v1 (M L):=by
 have hml:=bH L
 intro d
 induction d with
 | zero=>
  intro i m hd hm hi
  obtain ⟨m,rfl⟩:∃m',m=m'+1:=⟨m - 1,by omega⟩
  rw [g10_3L.eq_2,D1,bdF (by omega)]
 | succ d ih=>
  intro i m hd hm hi
  obtain ⟨m,rfl⟩:∃m',m=m'+1:=⟨m - 1,by omega⟩
  have hi':i < L.length:=by omega
  have hI:i < (M L).length:=by omega
  have hg:(M L)[i]=(L[i].1,enc L[i].2):=List.getElem_map _
  have hmem:=lS (List.getElem_mem hi')
  obtain ⟨h1,h2⟩:=hP (L.take i) L[i] (L.drop (i+1)) (by rw [←List.drop_eq_getElem_cons hi',List.take_append_drop])
  have hdl:(L.drop (i+1)).length=L.length - (i+1):=List.length_drop
  have hsz:=aZ L[i].2
  have hsz2:=lD L[i].2
  have hpos:=List.length_pos_iff.2 h1
  have next:=ih (i+1) m (by omega) (by omega) (by omega)
  rw [g10_3L.eq_2,D1,bdT (by omega),aM (by omega) (by omega)]
  simp only [pX,tI hI,hg]
  have hne:dQ (enc L[i].2) (⟨#[]⟩:ByteArray)=false:=by
   rw [eU,decide_eq_false]
   intro e
   rw [e] at hsz2
   have:(⟨#[]⟩:ByteArray).size=0:=rfl
   omega
  rw [biF hne,aF (n:=((enc L[i].2).size:Int) - 1) (by omega) (by omega),aM (by omega) (by omega),aF (n:=(i:Int)+2) (by omega) (by omega),aF (n:=(i:Int)+1) (by omega) (by omega)]
  have nx:(i:Int)+1=((i+1:Nat):Int):=by omega
  rcases h2 with ⟨w,hw⟩ | h2
  ·rw [biF (by rw [hw,cV8];rfl),nx]
   exact next
  ·rw [bdF (by omega),nx]
   refine (show (bif _ then _ else _)=_ from ?_)
   generalize (cP (enc L[i].2) (((enc L[i].2).size:Int) - 1)!=10)=c
   cases c <;> exact next
theorem EV (n:Nat) (hn:Big≤n) (x y:ByteArray):g10 n x y=some (true,()):=by
 dsimp only [g10,M3,bH4,bM0,aK6,z6]
 by_cases h1:(x.size:Int)>2147483647
 ·rw [bdT h1]
 by_cases h2:(y.size:Int)>2147483647
 ·rw [bdF h1,bdT h2]
 rw [bdF h1,bdF h2,show (200:Int)=((200:Nat):Int) from rfl,OE n x 200 (by omega),Option.bind_some,OE n y 200 (by omega),Option.bind_some]
 have va:Valids ((bE x).take 200):=(qK x).take _
 have vb:Valids ((bE y).take 200):=(qK y).take _
 have la:((bE x).take 200).length≤200:=by rw [List.length_take];omega
 have lb:((bE y).take 200).length≤200:=by rw [List.length_take];omega
 generalize (bE x).take 200=ra at *
 generalize (bE y).take 200=rb at *
 simp only
 obtain ⟨arr,h,ja,jb,l,hlr,H,P1,P2,l1,l2,l3,g1,g2,g3,hdf,k2,e1,e2,k3⟩:=Y4 n hn ra rb va vb (by omega) (by omega)
 have hll:=g2.len
 have c1:=gT ja
 have c2:=gT jb
 have hpl:(gS arr l).length=l.length:=List.length_map _
 have hml:=bH (gS arr l)
 have gs:g16 n (M (gS arr l))=some (enc ra,()):=by rw [←e1];exact R2 n hn _ (by omega) (by omega)
 have gt:g17 n (M (gS arr l))=some (enc rb,()):=by rw [←e2];exact Z0 n hn _ (by omega) (by omega)
 have sa:=aZ ra
 have sb:=aZ rb
 rw [aY hlr]
 simp only
 rw [aY g1]
 simp only
 rw [aY hdf]
 refine (i7 n hn (gS arr l) (by omega) (by omega) (fun X d Y e=>?_) (fun v4=>some (v4,())) _ (enc ra) (enc rb) (gS arr l).length 0 n (by omega) (by unfold Big at hn;omega) (by omega)).trans ?_
 ·obtain ⟨X',Z,hX,_,hZ⟩:=List.map_eq_append_iff.1 e
  obtain ⟨d',Y',rfl,hd,hY⟩:=List.map_eq_cons_iff.1 hZ
  have:=S1 (arr:=arr) g2.ok g2.full g3 (by rw [g2.src];exact Pts.ends va (by omega) P1) (by rw [g2.tgt];exact Pts.ends vb (by omega) P2) X' d' Y' hX
  rw [←hd,←hY,List.length_map]
  exact this
 rw [aY gs]
 simp only
 rw [biT (by rw [eU];simp),aY gt]
 simp only
 rw [biT (by rw [eU];simp)]
 by_cases h0:(gS arr l).length=0
 ·have:gS arr l=[]:=List.length_eq_zero_iff.1 h0
  rw [this] at e1 e2
  obtain rfl:[]=ra:=e1
  obtain rfl:[]=rb:=e2
  rw [bdF (by omega),bS (by rw [rT];decide),←bR,List.append_nil,eU,decide_eq_true (rT)]
 ·rw [bdT (by omega)]
theorem FnLinesMain_pure:∀d,J7 g10_A d→∃n,aB3 n d=some (true,()):=fun d _=>⟨Big,EV Big (Nat.le_refl _) d.1 d.2.1⟩
end Go.Proofs.YticibdjilmclgaaDoorZF
