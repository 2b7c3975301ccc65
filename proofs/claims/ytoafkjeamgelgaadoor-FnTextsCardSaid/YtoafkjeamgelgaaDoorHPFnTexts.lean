/- Plain statements about the printed functions. -/
import Derived.Test.YtoafkjeamgelgaaDoorHPQ0
import Derived.Test.YtoafkjeamgelgaaDoorHGA0
import Derived.Test.YtoafkjeamgelgaaDoorHFB
namespace Go.Proofs.YtoafkjeamgelgaaDoorHF
open Go
set_option linter.unusedVariables false
set_option linter.unusedSimpArgs false
theorem tG (n:Nat) (hn:Big≤n) (xs:List Rp) (ho:∀y∈xs,OkR y) (hl:xs.length≤1000000) (ha:eK xs≤1000000000):g16 n (xs.map emb)=some (enc (eS xs),()):=by
 dsimp only [g16,BR]
 obtain ⟨p,hp⟩:∃p,g37 n=some (p,()):=⟨_,rfl⟩
 rw [dU hp,yJ n hn xs hl ho,Option.bind_some]
 simp only
 exact dU (FD n hn p xs (by omega) ha)
theorem sV (n:Nat) (hn:Big≤n) (xs:List Rp) (ho:∀y∈xs,OkR y) (hl:xs.length≤1000000) (ha:eK xs≤1000000000):g18 n (xs.map emb)=some (enc (eR xs),()):=by
 dsimp only [g18,DX]
 obtain ⟨p,hp⟩:∃p,g37 n=some (p,()):=⟨_,rfl⟩
 rw [dU hp,yJ n hn xs hl ho,Option.bind_some]
 simp only
 exact dU (FZ n hn p xs (by omega) ha)
theorem yZ (n:Nat) (hn:Big≤n) (l:List Prt):g5 n l=some (true,()):=by
 dsimp only [g5,LP]
 rcases HQ n hn l with ⟨h,hl,hs⟩ | h
 ·rw [h,Option.bind_some]
  rw [show (20:Int)=((20:Nat):Int) from rfl,zE n hn l hl hs 20 (by omega)]
  simp only [Option.bind_some,Bool.not_true,cond_false]
  have hp:=vO 20 l
  have hpl:=gG 20 l
  have hall:eK (cE 20 l)≤600:=by
   have:∀x:List Rp,(∀y∈x,y.2.length≤30)→eK x≤30 * x.length:=by
    intro x
    induction x with
    | nil=>intro _;simp [AS]
    | cons d x ih=>intro h;rw [hQ,List.length_cons];have:=h d (by simp);have:=ih fun y hy=>h y (by simp [hy]);omega
   have:=this _ fun y hy=>(hp y hy).2
   omega
  have hok:∀y∈cE 20 l,OkR y:=fun y hy=>(hp y hy).1
  have o1:∀y∈[((-1:Int),[(97:Int)]),(1,[98])],OkR y:=fun y hy=>by
   simp only [List.mem_cons,List.not_mem_nil,or_false] at hy
   rcases hy with rfl | rfl
   ·exact ⟨.inl rfl,fun c hc=>by obtain rfl:=List.mem_singleton.1 hc;decide⟩
   ·exact ⟨.inr (.inr rfl),fun c hc=>by obtain rfl:=List.mem_singleton.1 hc;decide⟩
  have e1:g16 n [((-1:Int),(⟨#[97]⟩:BA)),((1:Int),(⟨#[98]⟩:BA))]=some ((⟨#[97]⟩:BA),()):=tG n hn [(-1,[97]),(1,[98])] o1 (by simp) (by simp [eK])
  have e2:g18 n [((-1:Int),(⟨#[97]⟩:BA)),((1:Int),(⟨#[98]⟩:BA))]=some ((⟨#[98]⟩:BA),()):=sV n hn [(-1,[97]),(1,[98])] o1 (by simp) (by simp [eK])
  rw [tG n hn _ hok (by omega) (by omega),zS n hn _ (by omega) (by omega),sV n hn _ hok (by omega) (by omega),zH n hn _ (by omega) (by omega)]
  simp only [Option.bind_some]
  rw [biT (by rw [jD];simp),biT (by rw [jD];simp),e1]
  simp only [Option.bind_some]
  rw [biT (by rw [jD];simp),e2]
  simp only [Option.bind_some]
  rw [jD,decide_eq_true rfl]
 ·rw [h];rfl
theorem FnTexts_pure:∀d,xE g5_A d→∃n,LK n d=some (true,()):=fun d _=>⟨Big,yZ Big (Nat.le_refl _) d.1⟩
end Go.Proofs.YtoafkjeamgelgaaDoorHF
