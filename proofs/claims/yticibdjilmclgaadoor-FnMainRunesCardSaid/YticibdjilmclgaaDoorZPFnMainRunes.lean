/- Plain statements about the printed functions. -/
import Derived.Test.YticibdjilmclgaaDoorZPQ0
import Derived.Test.YticibdjilmclgaaDoorZPQ1
import Derived.Test.YticibdjilmclgaaDoorZPQ2
import Derived.Test.YticibdjilmclgaaDoorZGA2
import Derived.Test.YticibdjilmclgaaDoorZFB
namespace Go.Proofs.YticibdjilmclgaaDoorZF
open Go
set_option linter.unusedVariables false
set_option linter.unusedSimpArgs false
theorem LJ (n:Nat) (hn:Big≤n) (x y:BA) (ln:Bool):g6 n x y ln=some (true,()):=by
 dsimp only [g6,eY6]
 by_cases h1:(x.size:Int)>2147483647
 ·rw [bdT h1]
 by_cases h2:(y.size:Int)>2147483647
 ·rw [bdF h1,bdT h2]
 rw [bdF h1,bdF h2,show (200:Int)=((200:Nat):Int) from rfl,D6 n x 200 (by omega),Option.bind_some,D6 n y 200 (by omega),Option.bind_some]
 have va:Valids ((bP x).take 200):=(uF x).take _
 have vb:Valids ((bP y).take 200):=(uF y).take _
 have la:((bP x).take 200).length≤200:=by rw [List.length_take];omega
 have lb:((bP y).take 200).length≤200:=by rw [List.length_take];omega
 generalize (bP x).take 200=ra at *
 generalize (bP y).take 200=rb at *
 simp only
 have sa:=aU ra
 have sb:=aU rb
 obtain ⟨p,l,hp,h4,ht,hls⟩:=eT8 n hn ra rb ln va vb (by omega) (by omega)
 have hl:=ht.len
 have hml:=aW l
 rw [BO n ra va (by omega),Option.bind_some,BO n rb vb (by omega),Option.bind_some]
 simp only
 rw [aT (VL n (by omega) (by omega) hp h4 hls)]
 simp only
 rw [aT (O7 n va vb (by omega) (by omega) hp h4 hls)]
 simp only
 have hsame:g22 n (M l) (M l)=some (true,()):=(dP2 n hn l l (by omega) ht.ok ht.ok).trans (by rw [decide_eq_true rfl])
 rw [aT hsame]
 simp only [cond_true]
 by_cases h0:l.length=0
 ·have:l=[]:=List.length_eq_zero_iff.1 h0
  subst this
  obtain rfl:[]=ra:=ht.src
  obtain rfl:[]=rb:=ht.tgt
  rw [bdF (by omega),bX (by rw [nC];decide),←aY,List.append_nil,dH,decide_eq_true (nC)]
 ·rw [bdT (by omega)]
theorem FnMainRunes_pure:∀d,aB9 g6_A d→∃n,eU3 n d=some (true,()):=fun d _=>⟨Big,LJ Big (Nat.le_refl _) d.1 d.2.1 d.2.2.1⟩
end Go.Proofs.YticibdjilmclgaaDoorZF
