/- Plain statements about the printed functions. -/
import Derived.Test.YtfnjlgflbenfoaaDoorHPQ0
import Derived.Test.YtfnjlgflbenfoaaDoorHGA0
import Derived.Test.YtfnjlgflbenfoaaDoorHFB
namespace Go.Proofs.YtfnjlgflbenfoaaDoorHF
open Go
set_option linter.unusedVariables false
set_option linter.unusedSimpArgs false
theorem OS:∀x:List Rp,(∀y∈x,y.2.length≤30)→iO x≤30 * x.length:=by
 intro x
 induction x with
 | nil=>intro _;simp [HI]
 | cons d x ih=>intro h;rw [lJ,List.length_cons];have:=h d (by simp);have:=ih fun y hy=>h y (by simp [hy]);omega
theorem zO (n:Nat) (hn:Big≤n) (l:List Prt):g3 n l=some (true,()):=by
 dsimp only [g3,TW]
 rcases OK n hn l with ⟨h,hl,hs⟩ | h
 ·rw [h,Option.bind_some]
  simp only [Bool.not_true,cond_false]
  obtain ⟨dl,e1,e2,e3⟩:=AD n hn l hl hs
  rw [e1,Option.bind_some]
  simp only
  have hall:=OS dl fun y hy=>(e3 y hy).2
  have hok:∀y∈dl,OkR y:=fun y hy=>(e3 y hy).1
  obtain ⟨a,b,e,h1,_⟩:=NV n hn (dl.map emb) (by rw [List.length_map];omega) (fun y hy=>by
   obtain ⟨d,hd,rfl⟩:=List.mem_map.1 hy
   have:=fI d.2
   have:=(e3 d hd).2
   show (enc d.2).size≤_
   omega)
  rw [e,Option.bind_some]
  cases a with
  | true=>rfl
  | false=>
   simp only [cond_false]
   rw [qE n hn dl hok (by omega) (by omega) (fun d hd=>h1 rfl (emb d) (List.mem_map_of_mem hd)),Option.bind_some,wK n hn dl hok (by omega) (by omega),Option.bind_some,uW,decide_eq_true rfl]
 ·rw [h];rfl
theorem FnPrettyText_pure:∀d,AQ g3_A d→∃n,TK n d=some (true,()):=fun d _=>⟨Big,zO Big (Nat.le_refl _) d.1⟩
end Go.Proofs.YtfnjlgflbenfoaaDoorHF
