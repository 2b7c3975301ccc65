/- Plain statements about the printed functions. -/
import Derived.Test.YticibdjilmclgaaDoorZPQ0
import Derived.Test.YticibdjilmclgaaDoorZPQ1
import Derived.Test.YticibdjilmclgaaDoorZGA1
import Derived.Test.YticibdjilmclgaaDoorZGA2
import Derived.Test.YticibdjilmclgaaDoorZFB
namespace Go.Proofs.YticibdjilmclgaaDoorZF
open Go
set_option linter.unusedVariables false
set_option linter.unusedSimpArgs false
theorem dI5 {arr:List ByteArray} {h:Hash} (H:HI arr h) (ha:arr.length≤1110016) {ja jb:List Nat} {LA LB:List ByteArray} (P1:Pts arr ja LA) (P2:Pts arr jb LB) (hA:∀l∈LA,l≠(⟨#[]⟩:ByteArray)) (hB:∀l∈LB,l≠(⟨#[]⟩:ByteArray)) (x y:Nat) (hx:x < (chs ja).length) (hy:y < (chs jb).length) (hx2:x < LA.length) (hy2:y < LB.length):dL LA[x] LB[y]=decide ((chs ja)[x]=(chs jb)[y]):=by
 have c1:=fF ja
 have c2:=fF jb
 have a1:=P1.at x (by omega)
 have a2:=P2.at y (by omega)
 have l1:=P1.lt ja[x] (by simp)
 have l2:=P2.lt jb[y] (by simp)
 have e1:(chs ja)[x]=(ofN ja[x]:Int):=List.getElem_map _
 have e2:(chs jb)[y]=(ofN jb[y]:Int):=List.getElem_map _
 have one:∀(j:Nat) (l:ByteArray),arr[j]? =some l→l≠(⟨#[]⟩:ByteArray)→1≤j:=fun j l hj hl=>by
  rcases Nat.eq_zero_or_pos j with rfl | h0
  ·rw [H.head] at hj;exact absurd (Option.some.inj hj).symm hl
  ·exact h0
 have o1:=one _ _ a1 (hA _ (by simp))
 have o2:=one _ _ a2 (hB _ (by simp))
 rw [fJ,e1,e2]
 congr 1
 refine propext ⟨fun e=>?_,fun e=>?_⟩
 ·have f1:=H.find _ _ o1 a1
  have f2:=H.find _ _ o2 a2
  rw [e,f2] at f1
  have:=Option.some.inj f1
  rw [show jb[y]=ja[x] by omega]
 ·have e:ofN ja[x]=ofN jb[y]:=by omega
  have t1:=sA (v:=ja[x]) (by omega)
  have t2:=sA (v:=jb[y]) (by omega)
  rw [e,t2] at t1
  rw [←t1,a2] at a1
  exact (Option.some.inj a1).symm
theorem BG (z:ByteArray):∀(d i:Nat),z.size - i=d→∀l∈cJ z i,l≠(⟨#[]⟩:ByteArray):=by
 intro d
 induction d using Nat.strongRecOn with
 | _ d ih=>
  intro i hd l hl
  by_cases c:i < z.size
  ·rw [iP c] at hl
   obtain ⟨l1,l2,_⟩:=iR c
   rcases List.mem_cons.1 hl with rfl | hl
   ·exact N5 c
   ·exact ih _ (by omega) _ rfl l hl
  ·rw [fZ (by omega)] at hl;cases hl
theorem DH (n:Nat) (hn:Big≤n) (x y:ByteArray):g9 n x y=some (true,()):=by
 dsimp only [g9,dE1]
 by_cases h1:(x.size:Int)>2147483647
 ·rw [bdT h1]
 by_cases h2:(y.size:Int)>2147483647
 ·rw [bdF h1,bdT h2]
 rw [bdF h1,bdF h2,show (200:Int)=((200:Nat):Int) from rfl,TR n x 200 (by omega),Option.bind_some,TR n y 200 (by omega),Option.bind_some]
 have va:Valids ((bE x).take 200):=(qF x).take _
 have vb:Valids ((bE y).take 200):=(qF y).take _
 have la:((bE x).take 200).length≤200:=by rw [List.length_take];omega
 have lb:((bE y).take 200).length≤200:=by rw [List.length_take];omega
 generalize (bE x).take 200=ra at *
 generalize (bE y).take 200=rb at *
 simp only
 obtain ⟨arr,h,ja,jb,l,hlr,H,P1,P2,l1,l2,l3,g1,g2,g3,hdf,k2,e1,e2,k3⟩:=i7 n hn ra rb va vb (by omega) (by omega)
 have hll:=g2.len
 have c1:=fF ja
 have c2:=fF jb
 have q1:=P1.length
 have q2:=P2.length
 have hpl:(iY arr l).length=l.length:=List.length_map _
 have hal:=wE (x:=l)
 rw [g2.src,g2.tgt] at hal
 have gs:g16 n (M (iY arr l))=some (enc ra,()):=by rw [←e1];exact d5 n hn _ (by omega) (by omega)
 have gt:g17 n (M (iY arr l))=some (enc rb,()):=by rw [←e2];exact d7 n hn _ (by omega) (by omega)
 have ge:g15 n (M l)=some ((dst (chs ja) (chs jb):Int),()):=by rw [←g2.ed];exact m5 n hn l g2.ok (by omega) (by omega)
 have sa:=bA ra
 have sb:=bA rb
 have hle:=FW n hn (chs ja) (chs jb) (cJ (enc ra) 0) (cJ (enc rb) 0) (by omega) (by omega) (fun x y hx hy=>dI5 H (by omega) P1 P2 (BG _ _ 0 rfl) (BG _ _ 0 rfl) x y hx hy (by omega) (by omega)) (by omega) (by omega)
 rw [aX hlr]
 simp only
 rw [aX g1]
 simp only
 rw [aX hdf]
 simp only
 rw [aX ge,tJ n hn (enc ra) (by omega),Option.bind_some,tJ n hn (enc rb) (by omega),Option.bind_some]
 simp only
 rw [aX hle]
 refine (biT (by exact beq_self_eq_true ((dst (chs ja) (chs jb):Nat):Int))).trans ?_
 rw [aX gs]
 simp only
 rw [biT (by rw [fJ];simp),aX gt]
 simp only
 rw [fJ,decide_eq_true rfl]
theorem FnLinesLeast_pure:∀d,I3 g9_A d→∃n,dI8 n d=some (true,()):=fun d _=>⟨Big,DH Big (Nat.le_refl _) d.1 d.2.1⟩
end Go.Proofs.YticibdjilmclgaaDoorZF
