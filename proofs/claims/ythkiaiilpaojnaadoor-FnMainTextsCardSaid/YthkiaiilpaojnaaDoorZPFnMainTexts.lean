/- Plain statements about the printed functions. -/
import Derived.Test.YthkiaiilpaojnaaDoorZPQ0
import Derived.Test.YthkiaiilpaojnaaDoorZPQ1
import Derived.Test.YthkiaiilpaojnaaDoorZPQ2
import Derived.Test.YthkiaiilpaojnaaDoorZGA2
import Derived.Test.YthkiaiilpaojnaaDoorZFB
namespace Go.Proofs.YthkiaiilpaojnaaDoorZF
open Go
set_option linter.unusedVariables false
set_option linter.unusedSimpArgs false
theorem NH (n:Nat) (hn:Big≤n) (x y:BA) (ln:Bool):g14 n x y ln=some (true,()):=by
 dsimp only [g14,dL0]
 by_cases h1:(x.size:Int)>2147483647
 ·rw [bdT h1]
 by_cases h2:(y.size:Int)>2147483647
 ·rw [bdF h1,bdT h2]
 rw [bdF h1,bdF h2,show (300:Int)=((300:Nat):Int) from rfl,F1 n x 300 (by omega),Option.bind_some,F1 n y 300 (by omega),Option.bind_some]
 have va:Valids ((bS x).take 300):=(vR x).take _
 have vb:Valids ((bS y).take 300):=(vR y).take _
 have la:((bS x).take 300).length≤300:=by rw [List.length_take];omega
 have lb:((bS y).take 300).length≤300:=by rw [List.length_take];omega
 generalize (bS x).take 300=ra at *
 generalize (bS y).take 300=rb at *
 simp only
 have sa:=aV ra
 have sb:=aV rb
 obtain ⟨p,l,hp,h4,ht,hls⟩:=eX0 n hn ra rb ln va vb (by omega) (by omega)
 have hl:=ht.len
 have hml:=bB l
 have hal:=lE (x:=l)
 rw [ht.src,ht.tgt] at hal
 have gs:g34 n (M l)=some (enc ra,()):=by rw [←ht.src];exact cH0 n hn l (by omega) (by omega)
 have gt:g35 n (M l)=some (enc rb,()):=by rw [←ht.tgt];exact cK6 n hn l (by omega) (by omega)
 rw [aX (d8 n va vb (by omega) (by omega) hp h4 hls)]
 simp only
 rw [aX gs]
 simp only
 rw [biT (by rw [dF];simp),aX gt]
 simp only
 rw [biT (by rw [dF];simp)]
 by_cases h0:l.length=0
 ·have:l=[]:=List.length_eq_zero_iff.1 h0
  subst this
  obtain rfl:[]=ra:=ht.src
  obtain rfl:[]=rb:=ht.tgt
  rw [bdF (by omega),cB (by rw [oF];decide),←aY,List.append_nil,dF,decide_eq_true (oF)]
 ·rw [bdT (by omega)]
theorem FnMainTexts_pure:∀d,bM5 g14_A d→∃n,dT6 n d=some (true,()):=fun d _=>⟨Big,NH Big (Nat.le_refl _) d.1 d.2.1 d.2.2.1⟩
end Go.Proofs.YthkiaiilpaojnaaDoorZF
