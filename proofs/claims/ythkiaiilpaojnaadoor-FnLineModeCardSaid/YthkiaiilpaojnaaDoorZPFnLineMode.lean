/- Plain statements about the printed functions. -/
import Derived.Test.YthkiaiilpaojnaaDoorZPQ0
import Derived.Test.YthkiaiilpaojnaaDoorZPQ1
import Derived.Test.YthkiaiilpaojnaaDoorZPQ2
import Derived.Test.YthkiaiilpaojnaaDoorZGA2
import Derived.Test.YthkiaiilpaojnaaDoorZFB
namespace Go.Proofs.YthkiaiilpaojnaaDoorZF
open Go
set_option linter.unusedVariables false
set_option linter.unusedSimpArgs false
theorem XS (n:Nat) (hn:Big≤n) (x y:BA):g7 n x y=some (true,()):=by
 dsimp only [g7,eX9]
 by_cases h1:(x.size:Int)>2147483647
 ·rw [bdT h1]
 by_cases h2:(y.size:Int)>2147483647
 ·rw [bdF h1,bdT h2]
 rw [bdF h1,bdF h2,show (300:Int)=((300:Nat):Int) from rfl,L3 n x 300 (by omega),Option.bind_some,L3 n y 300 (by omega),Option.bind_some]
 have va:Valids ((bS x).take 300):=(uZ x).take _
 have vb:Valids ((bS y).take 300):=(uZ y).take _
 have la:((bS x).take 300).length≤300:=by rw [List.length_take];omega
 have lb:((bS y).take 300).length≤300:=by rw [List.length_take];omega
 generalize (bS x).take 300=ra at *
 generalize (bS y).take 300=rb at *
 simp only
 have sa:=aV ra
 have sb:=aV rb
 obtain ⟨p,hp,hp0⟩:=eT9 n ((0:Int),((0:Int),((0:Nat),((0:Nat),((0:Int),(0:Int))))))
 obtain ⟨k,hk⟩:∃k,n=k+1:=⟨n - 1,by unfold Big at hn;omega⟩
 have hlm:∃l,g91 n p ra rb=some (M l,())∧TD ra rb l:=by
  have h:=WQ n hn p (Int.le_of_eq hp0) ra rb va vb (by omega) (by omega) k (by unfold Big at hn;omega)
  rw [←hk] at h
  obtain ⟨l,g1,g2,_⟩:=h
  exact ⟨l,g1,g2⟩
 obtain ⟨l,h4,ht⟩:=hlm
 have hl:=ht.len
 have hml:=bA l
 have hal:=lX (x:=l)
 rw [ht.src,ht.tgt] at hal
 have hls:g45 n (M l)=some (M l,()):=eC2 n hn l (by omega) ht.ok
 have gs:g34 n (M l)=some (enc ra,()):=by rw [←ht.src];exact bV8 n hn l (by omega) (by omega)
 have gt:g35 n (M l)=some (enc rb,()):=by rw [←ht.tgt];exact bZ5 n hn l (by omega) (by omega)
 have hdf:g33 n (false,((0:Int),((0:Int),((0:Nat),((0:Nat),((0:Int),(0:Int))))))) (enc ra) (enc rb)=some (M l,(0,())):=by
  dsimp only [g33,F2,J3,g63,cW6]
  rw [aW hp]
  simp only
  rw [fS (by omega),fS (by omega),gS va,gS vb,aW h4]
  simp only [Option.bind_some]
  rw [aW hls]
 rw [aW hdf]
 refine (biT (by rfl)).trans ?_
 rw [aW gs]
 simp only
 rw [biT (by rw [dE];simp),aW gt]
 simp only
 rw [biT (by rw [dE];simp)]
 by_cases h0:l.length=0
 ·have:l=[]:=List.length_eq_zero_iff.1 h0
  subst this
  obtain rfl:[]=ra:=ht.src
  obtain rfl:[]=rb:=ht.tgt
  rw [bdF (by omega),cA (by rw [oB];decide),←aX,List.append_nil,dE,decide_eq_true (oB)]
 ·rw [bdT (by omega)]
theorem FnLineMode_pure:∀d,aY9 g7_A d→∃n,eW1 n d=some (true,()):=fun d _=>⟨Big,XS Big (Nat.le_refl _) d.1 d.2.1⟩
end Go.Proofs.YthkiaiilpaojnaaDoorZF
