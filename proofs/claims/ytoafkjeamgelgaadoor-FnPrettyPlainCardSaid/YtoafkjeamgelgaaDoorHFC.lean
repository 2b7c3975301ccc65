/- FX: a plain machine beside the model's, and that the model comes to what it comes to. -/
import Derived.Test.YtoafkjeamgelgaaDoorHFD
namespace Go.Proofs.YtoafkjeamgelgaaDoorHF
open Go
set_option linter.unusedVariables false
set_option linter.unusedSimpArgs false
def RowV (w:World) (A:Nat→Prop) (k:K) (xs:List k.den) (v:Value) (own:List Nat):Prop:=∃ad cap,v= .slice ad xs.length cap∧xs.length≤cap∧((cap=0∧own=[])∨∃b off cs t,0 < cap∧own=[b]∧ad=some ⟨b,off,none⟩∧RowAt w A k b off xs∧CellsAt w b cs t∧off+cap * k.size≤cs.size∧cap≤maxLen)
def OwnRep (w:World) (A:Nat→Prop):(k:K)→k.den→List Value→List Nat→Prop
 | .pair a b,x,vs,own=>∃v1 v2 o1 o2,vs=v1++v2∧own=o1++o2∧OwnRep w A a x.1 v1 o1∧OwnRep w A b x.2 v2 o2
 | .sl _ k,xs,vs,own=>∃v,vs=[v]∧RowV w A k xs v own
 | k,x,vs,own=>own=[]∧RepD w A k x vs
def CelAt (w:World) (A:Nat→Prop) (k:K) (x:k.den) (v:Value) (own:List Nat):Prop:=
 ∃b off cs t vs o2,own=b::o2∧v= .pointer (some ⟨b,off,none⟩)∧CellsAt w b cs t∧off+k.size≤cs.size∧(∀j,j < k.size→w.cell? ⟨b,off+j,none⟩=vs[j]?)∧OwnRep w A k x vs o2
def MapAt (w:World) (A:Nat→Prop) (a b:K) (es:List (a.den×b.den)) (v:Value) (own:List Nat):Prop:=
 ∃r ms clock,own=[r]∧v= .map (some r)∧w.heap[r]? =some (.map ms clock)∧MapRep w A a b es ms.toList
def DX (P:Program):K→Prop
 | .pair a b=>DX P a∧DX P b
 | .sl e k=>TyOk P e k
 | _=>True
def ArgRep (w:World) (A:Nat→Prop):(k:AK)→k.den→Value→List Nat→Prop
 | .dat k,x,v,own=>own=[]∧∃cs,RepD w A k x cs∧(if k.isPair then v= .agg cs.toArray else cs=[v])
 | .ro k e,xs,v,own=>own=[]∧∃ad cap,v= .slice ad xs.length cap∧xs.length≤cap∧(xs≠[]→∃b off,ad=some ⟨b,off,none⟩∧¬A b∧RowAt w A k b off xs)
 | .rw k e,xs,v,own=>∃ad cap,v= .slice ad xs.length cap∧xs.length≤cap∧((cap=0∧own=[])∨∃b off cs t,0 < cap∧own=[b]∧ad=some ⟨b,off,none⟩∧RowAt w A k b off xs∧CellsAt w b cs t∧off+cap * k.size≤cs.size∧cap≤maxLen)
 | .pro k e,x,v,own=>own=[]∧∃b off,v= .pointer (some ⟨b,off,none⟩)∧¬A b∧RowAt w A k b off [x]
 | .cel k e,x,v,own=>CelAt w A k x v own
 | .io k e,xs,v,own=>RowV w A k xs v own
 | .mp a b,es,v,own=>MapAt w A a b es v own
def ArgsRep (w:World) (A:Nat→Prop):(ks:List AK)→DenA ks→List Value→List Nat→Prop
 | [],_,vs,own=>vs=[]∧own=[]
 | k::ks,x,vs,own=>∃v vs' o1 o2,vs=v::vs'∧own=o1++o2∧ArgRep w A k x.1 v o1∧ArgsRep w A ks x.2 vs' o2
def ResRep (P:Program) (w:World) (A:Nat→Prop):(k:RK)→k.den→Value→List Nat→Prop
 | .dat k,x,v,own=>ArgRep w A (.dat k) x v own
 | .rw k e,xs,v,own=>TyOk P e k∧ArgRep w A (.rw k e) xs v own
 | .ro k e,xs,v,own=>TyOk P e k∧ArgRep w A (.ro k e) xs v own
 | .nsl,_,v,own=>own=[]∧v= .slice none 0 0
 | .ptr k e,x,v,own=>TyOk P e k∧∃b off cs t,own=[b]∧v= .pointer (some ⟨b,off,none⟩)∧RowAt w A k b off [x]∧CellsAt w b cs t∧off+k.size≤cs.size
 | .bcel k e,x,v,own=>TyOk P e k∧DX P k∧CelAt w A k x v own
 | .bio k e,xs,v,own=>TyOk P e k∧RowV w A k xs v own
 | .bmp a b,es,v,own=>MapAt w A a b es v own
def RessRep (P:Program) (w:World) (A:Nat→Prop):(ks:List RK)→DenR ks→List Value→List Nat→Prop
 | [],_,vs,own=>vs=[]∧own=[]
 | k::ks,x,vs,own=>∃v vs' o1 o2,vs=v::vs'∧own=o1++o2∧ResRep P w A k x.1 v o1∧RessRep P w A ks x.2 vs' o2
def qY:List Value→Value
 | [v]=>v
 | l=> .tuple l.toArray
def bC (P:Program) (f:FuncId):Prop:=(P.funcs[f]?).map (fun fn=>(fn.body.isNone,fn.name== "runtime.NumGoroutine"))=some (false,false)
def eI:List AK→List Value→List Value
 | .cel _ _::ks,v::vs=>v::eI ks vs
 | .io _ _::ks,v::vs=>v::eI ks vs
 | .mp _ _::ks,v::vs=>v::eI ks vs
 | _::ks,_::vs=>eI ks vs
 | _,_=>[]
structure xZ (P:Program) (f:FuncId) (S:bJ):Prop where
 callable:bC P f
 bk:S.backs=aS S.args
 nat:∀{β:Type} (d:DenA S.args) (κ:DenR S.rets×DenR S.backs→Option β) (r:β),S.app d κ=some r→∃x,S.app d some=some x∧κ x=some r
 calls:∀(w:World) (Z:Nat→Prop) (vs:List Value) (own:List Nat) (d:DenA S.args) (x:DenR S.rets×DenR S.backs),GOk P w (·∈own)→(∀b,Z b→b < w.heap.size)→own.Nodup→(∀b∈own,b < w.heap.size∧¬Z b)→
  ArgsRep w (fun b=>Z b∨b∈own) S.args d vs own→S.app d some=some x→
  Calls P f vs.toArray w fun e w'=>∃us o1 o2,e= .returned (qY us)∧RessRep P w' (fun b=>Z b∨b∈o1++o2) S.rets x.1 us o1∧RessRep P w' (fun b=>Z b∨b∈o1++o2) S.backs x.2 (eI S.args vs) o2∧(o1++o2).Nodup∧(∀b∈o1++o2,(b∈own∨w.heap.size≤b)∧b < w'.heap.size)∧Fr w (·∈own) w'
section
variable {w w':World} {A A':Nat→Prop}
theorem RowAt.mono {k:K} {b off:Nat} {xs:List k.den} (hA:∀b,A' b→A b) (h:RowAt w A k b off xs):RowAt w A' k b off xs:=h.stay (fun b hb hn=>⟨fun h=>hn (hA b h),rfl⟩) rfl
theorem RepD.mono {k:K} {x:k.den} {cs:List Value} (hA:∀b,A' b→A b) (h:RepD w A k x cs):RepD w A' k x cs:=h.stay (fun b hb hn=>⟨fun h=>hn (hA b h),rfl⟩)
theorem RowV.mono {k:K} {xs:List k.den} {v:Value} {own:List Nat} (hA:∀b,A' b→A b) (h:RowV w A k xs v own):RowV w A' k xs v own:=
 let ⟨ad,cap,h1,h2,h3⟩:=h;⟨ad,cap,h1,h2,h3.imp id fun ⟨b,off,cs,t,h4,h5,h6,h7,h8⟩=>⟨b,off,cs,t,h4,h5,h6,h7.mono hA,h8⟩⟩
theorem OwnRep.mono (hA:∀b,A' b→A b):∀{k:K} {x:k.den} {vs:List Value} {own:List Nat},OwnRep w A k x vs own→OwnRep w A' k x vs own
 | .pair _ _,_,_,_,⟨v1,v2,o1,o2,h1,h2,h3,h4⟩=>⟨v1,v2,o1,o2,h1,h2,h3.mono hA,h4.mono hA⟩
 | .sl _ _,_,_,_,⟨v,h1,h2⟩=>⟨v,h1,h2.mono hA⟩
 | .int _,_,_,_,⟨h1,h2⟩=>⟨h1,RepD.mono hA h2⟩
 | .bool,_,_,_,⟨h1,h2⟩=>⟨h1,RepD.mono hA h2⟩
 | .str,_,_,_,⟨h1,h2⟩=>⟨h1,RepD.mono hA h2⟩
 | .flt _,_,_,_,⟨h1,h2⟩=>⟨h1,RepD.mono hA h2⟩
 | .err,_,_,_,⟨h1,h2⟩=>⟨h1,RepD.mono hA h2⟩
theorem CelAt.mono {k:K} {x:k.den} {v:Value} {own:List Nat} (hA:∀b,A' b→A b) (h:CelAt w A k x v own):CelAt w A' k x v own:=
 let ⟨b,off,cs,t,vs,o2,h1,h2,h3,h4,h5,h6⟩:=h;⟨b,off,cs,t,vs,o2,h1,h2,h3,h4,h5,h6.mono hA⟩
theorem MapRep.mono {a b:K} {es:List (a.den×b.den)} {ms:List MapEntry} (hA:∀b,A' b→A b) (h:MapRep w A a b es ms):MapRep w A' a b es ms:=h.stay (fun b hb hn=>⟨fun h=>hn (hA b h),rfl⟩)
theorem MapAt.mono {a b:K} {es:List (a.den×b.den)} {v:Value} {own:List Nat} (hA:∀b,A' b→A b) (h:MapAt w A a b es v own):MapAt w A' a b es v own:=
 let ⟨r,ms,clock,h1,h2,h3,h4⟩:=h;⟨r,ms,clock,h1,h2,h3,h4.mono hA⟩
theorem ArgRep.mono (hA:∀b,A' b→A b):∀{k:AK} {x:k.den} {v:Value} {own:List Nat},ArgRep w A k x v own→ArgRep w A' k x v own
 | .dat k,x,v,own,⟨h,cs,hc,hv⟩=>⟨h,cs,hc.mono hA,hv⟩
 | .ro k e,x,v,own,⟨h,ad,cap,h1,h2,h3⟩=>⟨h,ad,cap,h1,h2,fun hx=>let ⟨b,off,h4,h5,h6⟩:=h3 hx;⟨b,off,h4,fun h=>h5 (hA b h),h6.mono hA⟩⟩
 | .rw k e,x,v,own,⟨ad,cap,h1,h2,h3⟩=>⟨ad,cap,h1,h2,h3.imp id fun ⟨b,off,cs,t,h4,h5,h6,h7,h8⟩=>⟨b,off,cs,t,h4,h5,h6,h7.mono hA,h8⟩⟩
 | .pro k e,x,v,own,⟨h,b,off,h1,h2,h3⟩=>⟨h,b,off,h1,fun h=>h2 (hA b h),h3.mono hA⟩
 | .cel k e,x,v,own,h=>CelAt.mono hA h
 | .io k e,xs,v,own,h=>RowV.mono hA h
 | .mp a b,es,v,own,h=>MapAt.mono hA h
theorem ArgsRep.mono (hA:∀b,A' b→A b):∀{ks:List AK} {x:DenA ks} {vs:List Value} {own:List Nat},ArgsRep w A ks x vs own→ArgsRep w A' ks x vs own
 | [],_,_,_,h=>h
 | k::ks,x,vs,own,⟨v,vs',o1,o2,h1,h2,h3,h4⟩=>⟨v,vs',o1,o2,h1,h2,h3.mono hA,h4.mono hA⟩
theorem RepD.flat:∀{k:K} {x:k.den} {cs:List Value},k.flat=true→RepD w A k x cs→RepD w' A' k x cs
 | .int _,_,_,_,h=>h
 | .bool,_,_,_,h=>h
 | .str,_,_,_,h=>h
 | .flt _,_,_,_,h=>h
 | .err,_,_,_,h=>h
 | .pair a b,_,_,hf,h=>by
  simp only [K.flat,Bool.and_eq_true] at hf
  obtain ⟨c1,c2,rfl,h1,h2⟩:=h
  exact ⟨c1,c2,rfl,h1.flat hf.1,h2.flat hf.2⟩
 | .sl _ _,_,_,hf,_=>by simp [K.flat] at hf
theorem RowAt.flat {k:K} {b off:Nat} {xs:List k.den} (hf:k.flat=true) (h:RowAt w A k b off xs):RowAt w A' k b off xs:=
 fun i x hi=>let ⟨ds,hd,hc⟩:=h i x hi;⟨ds,hd.flat hf,hc⟩
theorem RowV.flat {k:K} {xs:List k.den} {v:Value} {own:List Nat} (hf:k.flat=true) (h:RowV w A k xs v own):RowV w A' k xs v own:=
 let ⟨ad,cap,h1,h2,h3⟩:=h;⟨ad,cap,h1,h2,h3.imp id fun ⟨b,off,cs,t,h4,h5,h6,h7,h8⟩=>⟨b,off,cs,t,h4,h5,h6,h7.flat hf,h8⟩⟩
theorem OwnRep.flat:∀{k:K} {x:k.den} {vs:List Value} {own:List Nat},k.flat1=true→OwnRep w A k x vs own→OwnRep w A' k x vs own
 | .pair _ _,_,_,_,hf,⟨v1,v2,o1,o2,h1,h2,h3,h4⟩=>by
  simp only [K.flat1,Bool.and_eq_true] at hf
  exact ⟨v1,v2,o1,o2,h1,h2,h3.flat hf.1,h4.flat hf.2⟩
 | .sl _ _,_,_,_,hf,⟨v,h1,h2⟩=>⟨v,h1,h2.flat hf⟩
 | .int _,_,_,_,_,h=>h
 | .bool,_,_,_,_,h=>h
 | .str,_,_,_,_,h=>h
 | .flt _,_,_,_,_,h=>h
 | .err,_,_,_,_,h=>h
theorem CelAt.flat {k:K} {x:k.den} {v:Value} {own:List Nat} (hf:k.flat1=true) (h:CelAt w A k x v own):CelAt w A' k x v own:=
 let ⟨b,off,cs,t,vs,o2,h1,h2,h3,h4,h5,h6⟩:=h;⟨b,off,cs,t,vs,o2,h1,h2,h3,h4,h5,h6.flat hf⟩
theorem MapRep.flat {a b:K} (hf:(a.flat&&b.flat)=true):∀{es:List (a.den×b.den)} {ms:List MapEntry},MapRep w A a b es ms→MapRep w A' a b es ms
 | [],_,h=>h
 | x::es,_,⟨m,ms',h1,⟨cs,h2,h3⟩,⟨ds,h4,h5⟩,h6⟩=>by
  simp only [Bool.and_eq_true] at hf
  exact ⟨m,ms',h1,⟨cs,h2.flat hf.1,h3⟩,⟨ds,h4.flat hf.2,h5⟩,h6.flat (by simp [hf])⟩
theorem MapAt.flat {a b:K} {es:List (a.den×b.den)} {v:Value} {own:List Nat} (hf:(a.flat&&b.flat)=true) (h:MapAt w A a b es v own):MapAt w A' a b es v own:=
 let ⟨r,ms,clock,h1,h2,h3,h4⟩:=h;⟨r,ms,clock,h1,h2,h3,h4.flat hf⟩
theorem OwnRep.len:∀{k:K} {x:k.den} {vs:List Value} {own:List Nat},OwnRep w A k x vs own→vs.length=k.size
 | .pair _ _,_,_,_,⟨v1,v2,o1,o2,h1,h2,h3,h4⟩=>by rw [h1,List.length_append,h3.len,h4.len];rfl
 | .sl _ _,_,_,_,⟨v,h1,h2⟩=>by rw [h1];rfl
 | .int _,_,_,_,⟨h1,h2⟩=>h2.len
 | .bool,_,_,_,⟨h1,h2⟩=>h2.len
 | .str,_,_,_,⟨h1,h2⟩=>h2.len
 | .flt _,_,_,_,⟨h1,h2⟩=>h2.len
 | .err,_,_,_,⟨h1,h2⟩=>h2.len
end
section
variable {E:Env} {pl:Nat→Pl} {Γ:Ctx} {w w':World} {a:Act} {s:FState} {β:Type} {r:β} {κ:FState→Option β} {Q:Exit→Act→World→Prop}
abbrev Env.withZ (E:Env) (Z:Nat→Prop):Env:={E with Z:=Z}
theorem RelP.killZ (h:RelP E pl w a s) (o:Nat):RelP (E.withZ fun b=>E.Z b∨∃obj,s.objs o=some obj∧occ (pl o) obj∧(pl o).b=b) pl w a (s.kill o):=by
 have hback:∀p ob,(s.kill o).objs p=some ob→p≠o∧s.objs p=some ob:=fun p ob hp=>by
  rw [bV] at hp
  split at hp
  ·cases hp
  ·exact ⟨by assumption,hp⟩
 have hAv:∀b,Av (E.withZ fun b=>E.Z b∨∃obj,s.objs o=some obj∧occ (pl o) obj∧(pl o).b=b) (s.kill o).objs pl b→Av E s.objs pl b:=by
  rintro b ((hz | ⟨obj,h1,h2,h3⟩) | ⟨p,ob,hp,hc,hb⟩)
  ·exact .inl hz
  ·exact .inr ⟨o,obj,h1,h2,h3⟩
  ·exact .inr ⟨p,ob,(hback p ob hp).2,hc,hb⟩
 have hst:Stay w (Av E s.objs pl) w (Av (E.withZ fun b=>E.Z b∨∃obj,s.objs o=some obj∧occ (pl o) obj∧(pl o).b=b) (s.kill o).objs pl):=fun b hb hA=>⟨fun hA'=>hA (hAv b hA'),rfl⟩
 refine ⟨fun t=>h.vals_kill (O':=(s.kill o).objs) (pl':=pl) o (fun k x cs hc=>hc.stay hst) (fun p ob hpo hp=>⟨ob,by rw [bV,if_neg hpo];exact hp,ob.like_refl,rfl⟩) (fun k e hk hto=>⟨by rw [bV,if_neg hto];exact hk,rfl,rfl⟩) (fun k e hk=>⟨k,e,(hback _ _ hk).2⟩),fun p ob hp=>?_,fun p p' ob ob' hpp hp hp'=>?_,fun b hb=>?_,h.frame,h.dfr,h.N,fun b hb=>?_⟩
 ·exact (h.objs p ob (hback p ob hp).2).stay hst (fun _=>rfl)
 ·exact h.sep p p' ob ob' hpp (hback p ob hp).2 (hback p' ob' hp').2
 ·obtain ⟨p,ob,hp,hc,rfl⟩:=hb
  have h1:=h.fresh _ ⟨p,ob,(hback p ob hp).2,hc,rfl⟩
  refine ⟨h1.1,h1.2.1,?_⟩
  rintro (hz | ⟨obj,h3,h4,h5⟩)
  ·exact h1.2.2 hz
  ·exact h.sep p o ob obj (hback p ob hp).1 (hback p ob hp).2 h3 hc h4 h5.symm
 ·rcases hb with hz | ⟨obj,h3,h4,rfl⟩
  ·exact h.zlt b hz
  ·exact (h.fresh _ ⟨o,obj,h3,h4,rfl⟩).1
theorem RelP.worldZ (h:RelP E pl w a s) {own:Nat→Prop} (hfr:Fr w own w') (hown:∀b,own b→E.Z b∧(E.own b∨E.w0.heap.size≤b)) {Z2:Nat→Prop} (hZ:∀b,b < w.heap.size→Z2 b→E.Z b) (hz2:∀b,Z2 b→b < w'.heap.size):
  RelP (E.withZ Z2) pl w' a s:=by
 have hAv:∀b,b < w.heap.size→Av (E.withZ Z2) s.objs pl b→Av E s.objs pl b:=fun b hb hA=>hA.imp (hZ b hb) id
 have hst:Stay w (Av E s.objs pl) w' (Av (E.withZ Z2) s.objs pl):=fun b hb hA=>⟨fun hA'=>hA (hAv b hb hA'),hfr.block b hb (fun ho=>hA (.inl (hown b ho).1))⟩
 have hkeep:∀o ob,s.objs o=some ob→occ (pl o) ob→w'.heap[(pl o).b]? =w.heap[(pl o).b]? :=fun o ob ho hc=>by
  have h1:=h.fresh _ ⟨o,ob,ho,hc,rfl⟩
  exact hfr.block _ h1.1 (fun hh=>h1.2.2 (hown _ hh).1)
 refine ⟨fun t=>by
  rw [cU (w:=w) (O:=s.objs) (pl:=pl) (fun k e hk=>⟨hk,rfl,hkeep _ _ hk trivial⟩) (fun k e hk=>⟨k,e,hk⟩)]
  exact (h.vals t).move (fun k x cs hc=>hc.stay hst) (fun o ob ho=>⟨ob,ho,ob.like_refl,rfl⟩),fun o ob ho=>(h.objs o ob ho).stay hst (hkeep o ob ho),h.sep,fun b hb=>?_,⟨hfr.os.trans h.frame.os,hfr.tape.trans h.frame.tape,hfr.output.trans h.frame.output,Nat.le_trans h.frame.size hfr.size,fun b hb hn=>?_⟩,h.dfr,h.N,hz2⟩
 ·have h1:=h.fresh b hb
  exact ⟨Nat.lt_of_lt_of_le h1.1 hfr.size,h1.2.1,fun hz=>h1.2.2 (hZ b h1.1 hz)⟩
 ·have hb':b < E.w0.heap.size:=hb
  refine (hfr.block b (Nat.lt_of_lt_of_le hb h.frame.size) (fun ho=>?_)).trans (h.frame.block b hb hn)
  rcases (hown b ho).2 with h1 | h1
  ·exact hn h1
  ·omega
theorem RelP.add (h:RelP E pl w a s) {d:Nat} (hd:s.objs d=none) (obj:FObj) (p:Pl) (hp:occ p obj→E.Z p.b∧(E.own p.b∨E.w0.heap.size≤p.b)) {Z2:Nat→Prop} (hZ:∀b,Z2 b→E.Z b∧(occ p obj→b≠p.b))
  (hobj:∀A',(∀b,A' b→Av E s.objs pl b)→ObjAt E.P w A' p obj) (hnc:obj.isCell=false∨∀t,dK d t=true→s.tmps t= .dead:=by exact .inl rfl):RelP (E.withZ Z2) (upd pl d p) w a (s.setO d (some obj)):=by
 have hne:∀o ob,s.objs o=some ob→o≠d:=fun o ob ho e=>by subst e;rw [hd] at ho;cases ho
 have hAv:∀b,Av (E.withZ Z2) (s.setO d (some obj)).objs (upd pl d p) b→Av E s.objs pl b:=by
  rintro b (hz | ⟨o,ob,ho,hc,hb⟩)
  ·exact .inl (hZ b hz).1
  ·by_cases e:o=d
   ·subst e
    rw [aB] at ho
    cases ho
    rw [aC] at hc hb
    subst hb
    exact .inl (hp hc).1
   ·rw [aD _ _ _ e] at ho
    rw [aG _ _ _ e] at hc hb
    exact .inr ⟨o,ob,ho,hc,hb⟩
 have hst:Stay w (Av E s.objs pl) w (Av (E.withZ Z2) (s.setO d (some obj)).objs (upd pl d p)):=fun b hb hA=>⟨fun hA'=>hA (hAv b hA'),rfl⟩
 have hO:∀o ob,s.objs o=some ob→∃ob',(s.setO d (some obj)).objs o=some ob'∧ob.like ob'∧upd pl d p o=pl o:=fun o ob ho=>
  ⟨ob,by rw [aD _ _ _ (hne o ob ho)];exact ho,ob.like_refl,aG _ _ _ (hne o ob ho)⟩
 have hz1:∀o ob,s.objs o=some ob→occ (pl o) ob→occ p obj→(pl o).b≠p.b:=fun o ob ho hc hcp e=>(h.fresh _ ⟨o,ob,ho,hc,rfl⟩).2.2 (e ▸ (hp hcp).1)
 refine ⟨fun t=>by
  by_cases hdt:∃k e,obj= .cell k e∧dK d t=true
  ·obtain ⟨k,e,hk,hi⟩:=hdt
   have:(s.setO d (some obj)).tmps t= .dead:=(hnc.resolve_left (by rw [hk];simp [FObj.isCell])) t hi
   rw [this]
   exact VRep.dead _
  ·by_cases ht:t < 1000000
   ·rw [cP ht,←cP (w:=w) (O:=s.objs) (pl:=pl) ht]
    exact (h.vals t).move (fun k x cs hc=>hc.stay hst) hO
   rw [cU (w:=w) (O:=s.objs) (pl:=pl) (fun k e hk=>⟨by rw [aD _ _ _ (hne _ _ hk)];exact hk,aG _ _ _ (hne _ _ hk),rfl⟩) (fun k e hk=>by
    by_cases e':t % 1000000=d
    ·rw [e',aB] at hk
     cases hk
     exact absurd ⟨k,e,rfl,by unfold dK;rw [e',Nat.beq_refl,Nat.ble_eq_true_of_le (by omega)];rfl⟩ hdt
    ·rw [aD _ _ _ e'] at hk;exact ⟨k,e,hk⟩)]
   exact (h.vals t).move (fun k x cs hc=>hc.stay hst) hO,fun o ob ho=>?_,fun o o' ob ob' hoo ho ho' hc hc'=>?_,fun b hb=>?_,h.frame,h.dfr,h.N,fun b hb=>h.zlt b (hZ b hb).1⟩
 ·by_cases e:o=d
  ·subst e
   rw [aB] at ho
   cases ho
   rw [aC]
   exact hobj _ hAv
  ·rw [aD _ _ _ e] at ho
   rw [aG _ _ _ e]
   exact (h.objs o ob ho).stay hst (fun hc=>rfl)
 ·by_cases e:o=d
  ·subst e
   have e':o'≠o:=fun e=>hoo e.symm
   rw [aB] at ho
   cases ho
   rw [aD _ _ _ e'] at ho'
   rw [aC] at hc
   rw [aG _ _ _ e'] at hc'
   rw [aC,aG _ _ _ e']
   exact (hz1 o' ob' ho' hc' hc).symm
  ·rw [aD _ _ _ e] at ho
   rw [aG _ _ _ e] at hc ⊢
   by_cases e':o'=d
   ·subst e'
    rw [aB] at ho'
    cases ho'
    rw [aC] at hc' ⊢
    exact hz1 o ob ho hc hc'
   ·rw [aD _ _ _ e'] at ho'
    rw [aG _ _ _ e'] at hc' ⊢
    exact h.sep o o' ob ob' hoo ho ho' hc hc'
 ·obtain ⟨o,ob,ho,hc,rfl⟩:=hb
  by_cases e:o=d
  ·subst e
   rw [aB] at ho
   cases ho
   rw [aC] at hc ⊢
   have h2:=hp hc
   exact ⟨h.zlt _ h2.1,h2.2,fun hz=>(hZ _ hz).2 hc rfl⟩
  ·rw [aD _ _ _ e] at ho
   rw [aG _ _ _ e] at hc ⊢
   have h1:=h.fresh _ ⟨o,ob,ho,hc,rfl⟩
   exact ⟨h1.1,h1.2.1,fun hz=>h1.2.2 (hZ _ hz).1⟩
theorem RelP.killAllZ:∀(l:List Nat) {E:Env} {s:FState},RelP E pl w a s→l.Nodup→RelP (E.withZ fun b=>E.Z b∨∃o∈l,∃obj,s.objs o=some obj∧occ (pl o) obj∧(pl o).b=b) pl w a (aK l s)
 | [],E,s,h,_=>by
  have:=h.worldZ (own:=fun _=>False) (w':=w) (Z2:=fun b=>E.Z b∨∃o∈([]:List Nat),∃obj,s.objs o=some obj∧occ (pl o) obj∧(pl o).b=b) ⟨rfl,rfl,rfl,Nat.le_refl _,fun _ _ _=>rfl⟩ (fun b h=>h.elim) (fun b _ hz=>by simpa using hz) (fun b hz=>h.zlt b (by simpa using hz))
  exact this
 | p::l,E,s,h,hn=>by
  have h1:=h.killZ p
  have h2:=RelP.killAllZ l h1 (List.nodup_cons.1 hn).2
  have h3:=h2.worldZ (own:=fun _=>False) (w':=w) (Z2:=fun b=>E.Z b∨∃o∈p::l,∃obj,s.objs o=some obj∧occ (pl o) obj∧(pl o).b=b) ⟨rfl,rfl,rfl,Nat.le_refl _,fun _ _ _=>rfl⟩ (fun b h=>h.elim) (fun b _ hz=>by
   rcases hz with hz | ⟨o,ho,obj,g1,g2,g3⟩
   ·exact .inl (.inl hz)
   ·rcases List.mem_cons.1 ho with e | ho
    ·subst e;exact .inl (.inr ⟨obj,g1,g2,g3⟩)
    ·refine .inr ⟨o,ho,obj,?_,g2,g3⟩
     rw [bV,if_neg (fun (e:o=p)=>(List.nodup_cons.1 hn).1 (e ▸ ho))];exact g1) (fun b hz=>by
   rcases hz with hz | ⟨o,ho,obj,g1,g2,g3⟩
   ·exact h.zlt b hz
   ·rw [←g3];exact (h.fresh _ ⟨o,obj,g1,g2,rfl⟩).1)
  exact h3
theorem ArgRep.obj_rw {k:K} {e:TypeId} {xs:List k.den} {v:Value} {own:List Nat} {A:Nat→Prop} (h:ArgRep w A (.rw k e) xs v own):∃(ad:Option Addr) (p:Pl) (cap:Nat),v= .slice ad xs.length cap∧xs.length≤cap∧p.cap=cap∧(0 < cap→ad=some ⟨p.b,p.off,none⟩)∧
  (0 < cap→own=[p.b]∧RowAt w A k p.b p.off xs∧∃(cs:Array Value) (t:TypeId),CellsAt w p.b cs t∧p.off+p.cap * k.size≤cs.size∧p.cap≤maxLen)∧(¬0 < cap→own=[]∧xs=[]):=by
 obtain ⟨ad,cap,rfl,hle,h⟩:=h
 rcases h with ⟨rfl,rfl⟩ | ⟨b,off,cs,t,h1,h2,h3,h4,h5,h6⟩
 ·exact ⟨ad,⟨0,0,0⟩,0,rfl,hle,rfl,fun h=>absurd h (by omega),fun h=>absurd h (by omega),fun _=>⟨rfl,List.eq_nil_of_length_eq_zero (by omega)⟩⟩
 ·exact ⟨ad,⟨b,off,cap⟩,cap,rfl,hle,rfl,fun _=>h3,fun _=>⟨h2,h4,cs,t,h5,h6⟩,fun h=>absurd h1 h⟩
theorem jQ {Ac:Nat→Prop} {d:Nat}:∀(rs:List RK) (j:Nat) (x:DenR rs) (s:FState) (pl:Nat→Pl) (own:List Nat) (vs:List Value) {f:FV→FState→Option β},aW d j rs x s f=some r→
  RelP (E.withZ fun b=>E.Z b∨b∈own) pl w a s→own.Nodup→(∀b∈own,(E.own b∨E.w0.heap.size≤b)∧¬E.Z b)→(rs.all RK.flat=true∨∀b,Av (E.withZ fun b=>E.Z b∨b∈own) s.objs pl b→Ac b)→RessRep E.P w Ac rs x vs own→
  ∃fv s2 pl2,f fv s2=some r∧RelP E pl2 w a s2∧VRepL w (Av E s2.objs pl2) s2.objs pl2 fv vs∧(∀o obj,s.objs o=some obj→s2.objs o=some obj∧pl2 o=pl o)∧(∀b,Av E s2.objs pl2 b→Av (E.withZ fun b=>E.Z b∨b∈own) s.objs pl b)∧s2.tmps=s.tmps
 | [],j,x,s,pl,own,vs,f,hk,h,hnd,hown,hA,hr=>by
  obtain ⟨rfl,rfl⟩:=hr
  refine ⟨.tnil,s,pl,hk,?_,rfl,fun o obj ho=>⟨ho,rfl⟩,fun b hb=>hb.imp .inl id,rfl⟩
  exact h.worldZ (own:=fun _=>False) (Z2:=E.Z) ⟨rfl,rfl,rfl,Nat.le_refl _,fun _ _ _=>rfl⟩ (fun b h=>h.elim) (fun b _ hz=> .inl hz) (fun b hz=>h.zlt b (.inl hz))
 | k::rs,j,x,s,pl,own,vs,f,hk,h,hnd,hown,hA,hr=>by
  obtain ⟨v,vs',o1,o2,rfl,rfl,h1,h2⟩:=hr
  have hnd':=List.nodup_append.1 hnd
  have hZ2:∀b,(E.Z b∨b∈o2)→(E.Z b∨b∈o1++o2):=fun b hb=>hb.imp id (fun h=>List.mem_append.2 (.inr h))
  have step:∀(s1:FState) (pl1:Nat→Pl) (g:FV),(∀b,Av (E.withZ fun b=>E.Z b∨b∈o2) s1.objs pl1 b→Av (E.withZ fun b=>E.Z b∨b∈o1++o2) s.objs pl b)→RelP (E.withZ fun b=>E.Z b∨b∈o2) pl1 w a s1→(∀o obj,s.objs o=some obj→s1.objs o=some obj∧pl1 o=pl o)→
    VRep1 w (Av (E.withZ fun b=>E.Z b∨b∈o2) s1.objs pl1) s1.objs pl1 g v→s1.tmps=s.tmps→aW d (j+1) rs x.2 s1 (fun u s=>f (.tcons g u) s)=some r→
    ∃fv s2 pl2,f fv s2=some r∧RelP E pl2 w a s2∧VRepL w (Av E s2.objs pl2) s2.objs pl2 fv (v::vs')∧(∀o obj,s.objs o=some obj→s2.objs o=some obj∧pl2 o=pl o)∧(∀b,Av E s2.objs pl2 b→Av (E.withZ fun b=>E.Z b∨b∈o1++o2) s.objs pl b)∧s2.tmps=s.tmps:=fun s1 pl1 g hAv hrel hO hv htm hput=>by
   obtain ⟨fv,s2,pl2,g1,g2,g3,g4,g5,g6⟩:=jQ rs (j+1) x.2 s1 pl1 o2 vs' hput hrel hnd'.2.1 (fun b hb=>hown b (List.mem_append.2 (.inr hb))) (by
    rcases hA with hA | hA
    ·left;simp only [List.all_cons,Bool.and_eq_true] at hA;exact hA.2
    ·right;exact fun b hb=>hA b (hAv b hb)) h2
   refine ⟨_,s2,pl2,g1,g2,⟨v,vs',rfl,?_,g3⟩,fun o obj ho=>?_,fun b hb=>hAv b (g5 b hb),g6.trans htm⟩
   ·exact hv.move (fun k x cs hc=>hc.mono g5) (fun o obj ho=>⟨obj,(g4 o obj ho).1,obj.like_refl,(g4 o obj ho).2⟩)
   ·obtain ⟨e1,e2⟩:=hO o obj ho
    obtain ⟨e3,e4⟩:=g4 o obj e1
    exact ⟨e3,e4.trans e2⟩
  have keep:∀(obj:FObj) (p:Pl),s.objs (d+j * 1000000)=none→∀o ob,s.objs o=some ob→(s.setO (d+j * 1000000) (some obj)).objs o=some ob∧upd pl (d+j * 1000000) p o=pl o:=fun obj p hd o ob ho=>by
   have:o≠d+j * 1000000:=fun e=>by subst e;rw [hd] at ho;cases ho
   exact ⟨by rw [aD _ _ _ this];exact ho,aG _ _ _ this⟩
  have avNew:∀(obj:FObj) (p:Pl),s.objs (d+j * 1000000)=none→(occ p obj→o1=[p.b])→∀b,Av (E.withZ fun b=>E.Z b∨b∈o2) (s.setO (d+j * 1000000) (some obj)).objs (upd pl (d+j * 1000000) p) b→Av (E.withZ fun b=>E.Z b∨b∈o1++o2) s.objs pl b:=by
   rintro obj p hd hp b (hz | ⟨o,ob,ho,hc,hb⟩)
   ·exact .inl (hZ2 b hz)
   ·by_cases e:o=d+j * 1000000
    ·subst e
     rw [aB] at ho
     cases ho
     rw [aC] at hc hb
     subst hb
     exact .inl (.inr (by rw [hp hc];simp))
    ·rw [aD _ _ _ e] at ho
     rw [aG _ _ _ e] at hc hb
     exact .inr ⟨o,ob,ho,hc,hb⟩
  have hp1:∀(obj:FObj) (p:Pl),(occ p obj→o1=[p.b])→occ p obj→(E.Z p.b∨p.b∈o1++o2)∧(E.own p.b∨E.w0.heap.size≤p.b):=fun obj p hp hc=>
   ⟨.inr (by rw [hp hc];simp),(hown p.b (by rw [hp hc];simp)).1⟩
  have hz1:∀(obj:FObj) (p:Pl),(occ p obj→o1=[p.b])→∀b,(E.Z b∨b∈o2)→(E.Z b∨b∈o1++o2)∧(occ p obj→b≠p.b):=fun obj p hp b hb=>⟨hZ2 b hb,fun hc e=>by
   subst e
   rcases hb with hb | hb
   ·exact (hown p.b (by rw [hp hc];simp)).2 hb
   ·exact hnd'.2.2 p.b (by rw [hp hc];simp) p.b hb rfl⟩
  cases k with
  | dat k=>
   obtain ⟨rfl,cs,hc,hv⟩:=h1
   unfold aW at hk
   refine step s pl (.dat k x.1) (fun b hb=>hb) h (fun o obj ho=>⟨ho,rfl⟩) ⟨cs,?_,hv⟩ rfl hk
   rcases hA with hA | hA
   ·simp only [List.all_cons,Bool.and_eq_true,RK.flat] at hA
    exact hc.flat hA.1
   ·exact hc.mono hA
  | nsl=>
   obtain ⟨rfl,rfl⟩:=h1
   unfold aW at hk
   exact step s pl .nsl (fun b hb=>hb) h (fun o obj ho=>⟨ho,rfl⟩) rfl rfl hk
  | rw k e=>
   obtain ⟨hTy,h1⟩:=h1
   obtain ⟨ad,p,cap,rfl,hle,hpc,had,hc1,hc2⟩:=h1.obj_rw
   unfold aW at hk
   split at hk
   ·rename_i hd
    have hp:occ p (.row k e true x.1)→o1=[p.b]:=fun hc=>(hc1 (by have:=hc.2;omega)).1
    refine step _ _ (.sl (d+j * 1000000) none false) (avNew _ p hd hp) (h.add hd _ p (hp1 _ p hp) (hz1 _ p hp) (fun A' hA'=>⟨hTy,by omega,fun _ hcp=>(hc1 (by omega)).2.2,fun hh=>(by cases hh),?_⟩)) (keep _ p hd)
     ⟨k,e,true,x.1,aB _ _ _,ad,cap,0,x.1.length,⟨rfl,rfl⟩,rfl,hle,fun _=>by rw [aC];omega,fun hh=>by rw [aC,had (by omega)];simp,fun hn=>by cases hn⟩ rfl hk
    by_cases hcp:0 < cap
    ·rcases hA with hA | hA
     ·simp only [List.all_cons,Bool.and_eq_true,RK.flat] at hA
      exact (hc1 hcp).2.1.flat hA.1
     ·exact (hc1 hcp).2.1.mono (fun b hb=>hA b (hA' b hb))
    ·rw [(hc2 hcp).2];exact RowAt.nil _ _ _ _ _
   ·cases hk
  | ro k e=>
   obtain ⟨hTy,rfl,ad,cap,rfl,hle,hx⟩:=h1
   have hA':∀b,Av (E.withZ fun b=>E.Z b∨b∈[]++o2) s.objs pl b→Ac b:=hA.resolve_left (by simp [RK.flat])
   unfold aW at hk
   split at hk
   ·rename_i hd
    by_cases hx0:x.1=[]
    ·have hp:occ ⟨0,0,x.1.length⟩ (.row k e false x.1)→([]:List Nat)=[(⟨0,0,x.1.length⟩:Pl).b]:=fun hc=>by cases hc.1
     refine step _ _ (.sl (d+j * 1000000) none false) (avNew _ _ hd hp) (h.add hd _ ⟨0,0,x.1.length⟩ (hp1 _ _ hp) (hz1 _ _ hp) (fun A' hAA=>⟨hTy,Nat.le_refl _,fun hh=>(by cases hh),fun _ hne=>absurd hx0 hne,by rw [hx0];exact RowAt.nil _ _ _ _ _⟩)) (keep _ _ hd)
      ⟨k,e,false,x.1,aB _ _ _,ad,cap,0,x.1.length,⟨rfl,rfl⟩,rfl,hle,fun hh=>(by cases hh),fun hh=>?_,fun hn=>by cases hn⟩ rfl hk
     rcases hh with hh | hh
     ·rw [hx0] at hh;simp at hh
     ·cases hh.1
    ·obtain ⟨b,off,rfl,hb,hrow⟩:=hx hx0
     have hp:occ ⟨b,off,x.1.length⟩ (.row k e false x.1)→([]:List Nat)=[(⟨b,off,x.1.length⟩:Pl).b]:=fun hc=>by cases hc.1
     exact step _ _ (.sl (d+j * 1000000) none false) (avNew _ _ hd hp) (h.add hd _ ⟨b,off,x.1.length⟩ (hp1 _ _ hp) (hz1 _ _ hp) (fun A' hAA=>⟨hTy,Nat.le_refl _,fun hh=>(by cases hh),fun _ hne hh=>hb (hA' b (hAA b hh)),hrow.mono (fun b hb=>hA' b (hAA b hb))⟩)) (keep _ _ hd)
      ⟨k,e,false,x.1,aB _ _ _,_,cap,0,x.1.length,⟨rfl,rfl⟩,rfl,hle,fun hh=>(by cases hh),fun hh=>by rw [aC];simp,fun hn=>by cases hn⟩ rfl hk
   ·cases hk
  | ptr k e=>
   obtain ⟨hTy,b,off,cs,t,rfl,rfl,hrow,hmem,hsz⟩:=h1
   unfold aW at hk
   split at hk
   ·rename_i hd
    have hp:occ ⟨b,off,1⟩ (.row k e true [x.1])→[b]=[(⟨b,off,1⟩:Pl).b]:=fun hc=>rfl
    refine step _ _ (.ptr (d+j * 1000000) 0 0) (avNew _ ⟨b,off,1⟩ hd hp) (h.add hd _ ⟨b,off,1⟩ (hp1 _ ⟨b,off,1⟩ hp) (hz1 _ ⟨b,off,1⟩ hp) (fun A' hA'=>⟨hTy,Nat.le_refl _,fun _ _=>⟨cs,t,hmem,by have h5:1≤maxLen:=(by decide);simpa using ⟨hsz,h5⟩⟩,fun hh=>(by cases hh),?_⟩)) (keep _ ⟨b,off,1⟩ hd)
     ⟨k,e,true,[x.1],aB _ _ _,Int.le_refl _,by simp,by rw [aC];simp⟩ rfl hk
    rcases hA with hA | hA
    ·simp only [List.all_cons,Bool.and_eq_true,RK.flat] at hA
     exact hrow.flat hA.1
    ·exact hrow.mono (fun b hb=>hA b (hA' b hb))
   ·cases hk
  | bcel k e=>unfold aW at hk;cases hk
  | bio k e=>unfold aW at hk;cases hk
  | bmp k e=>unfold aW at hk;cases hk
theorem eP:∀{l:List Nat},bS l=true→l.Nodup
 | [],_=>List.nodup_nil
 | x::l,h=>by
  simp only [bS,Bool.and_eq_true] at h
  refine List.nodup_cons.2 ⟨fun hx=>?_,eP h.2⟩
  rw [aZ hx] at h
  simp at h
def vZ (O:cE) (pl:Nat→Pl) (ids:List Nat) (b:Nat):Prop:=∃o∈ids,∃obj,O o=some obj∧occ (pl o) obj∧(pl o).b=b
def xH (w:World) (A:Nat→Prop) (O:cE) (pl:Nat→Pl):List AK→List FV→List Value→Prop
 | [],[],[]=>True
 | .cel k e::ks,f::fs,v::vs=>(∃o,f= .cp o 0∧o < 1000000∧O o=some (.cell k e)∧VRep1 w A O pl f v)∧xH w A O pl ks fs vs
 | .io k e::ks,f::fs,v::vs=>(∃o nn xs,f= .sl o none nn∧O o=some (.row k e true xs)∧VRep1 w A O pl f v)∧xH w A O pl ks fs vs
 | .mp a b::ks,f::fs,v::vs=>(∃o es,f= .mp o∧O o=some (.mapo a b es)∧VRep1 w A O pl f v)∧xH w A O pl ks fs vs
 | _::ks,_::fs,_::vs=>xH w A O pl ks fs vs
 | _,_,_=>False
theorem jZ:∀{l m:List Nat},bS (l++m)=true→bS l=true∧bS m=true∧∀x∈l,x∉m
 | [],m,h=>⟨rfl,h,fun x hx=>by simp at hx⟩
 | x::l,m,h=>by
  simp only [List.cons_append,bS,Bool.and_eq_true,Bool.not_eq_true'] at h
  obtain ⟨h1,h2,h3⟩:=jZ h.2
  have hx:x∉l∧x∉m:=by
   constructor <;> intro hm <;> (rw [aZ (List.mem_append.2 (by first | exact .inl hm | exact .inr hm))] at h;simp at h)
  refine ⟨by simp only [bS,Bool.and_eq_true,Bool.not_eq_true'];refine ⟨?_,h1⟩;cases hb:cV x l;rfl;exact absurd (dP hb) hx.1,h2,fun y hy=>?_⟩
  rcases List.mem_cons.1 hy with rfl | hy
  ·exact hx.2
  ·exact h3 y hy
theorem CY (h:RelP E pl w a s) {o:Nat} {wn:Option (Int×Int)} {nn:Bool} {v:Value} (hv:VRep w (Av E s.objs pl) s.objs pl (.sl o wn nn) v) {k:K} {e:TypeId} {ys:List k.den} (ho:s.objs o=some (.row k e true ys)):
  ∃own,RowV w (Av E s.objs pl) k (win ys wn) v own∧(∀b∈own,occ (pl o) (.row k e true ys)∧(pl o).b=b)∧own.Nodup:=by
 obtain ⟨k1,e1,rw1,xs1,ho1,ad,cap,off,len,hw,hxe,hl,hc1,hc2,_⟩:=hv.sl_inv
 rw [ho] at ho1
 cases ho1
 obtain ⟨hTy,hxl,hmem,hro,hrow⟩:=h.objs o _ ho
 obtain ⟨hrw,hwl⟩:=hrow.winC hw
 have hpc:=hc1 rfl
 by_cases hcap:0 < cap
 ·have hocc:occ (pl o) (.row k e true ys):=⟨rfl,by omega⟩
  obtain ⟨row,tt,hrm,hsz⟩:=hmem rfl (by omega)
  refine ⟨[(pl o).b],⟨ad,cap,by rw [hwl];exact hxe,by rw [hwl];exact hl,.inr ⟨(pl o).b,(pl o).off+off * k.size,row,tt,hcap,rfl,hc2 (.inr ⟨rfl,hcap⟩),hrw,hrm,?_⟩⟩,fun b hb=>by simp at hb;exact ⟨hocc,hb.symm⟩,by simp⟩
  have:off * k.size+cap * k.size=(pl o).cap * k.size:=by rw [←Nat.add_mul,hpc]
  omega
 ·exact ⟨[],⟨ad,cap,by rw [hwl];exact hxe,by rw [hwl];exact hl,.inl ⟨by omega,rfl⟩⟩,fun b hb=>by simp at hb,List.nodup_nil⟩
theorem uE (h:RelP E pl w a s) {o:Nat} (h6:o < 1000000) {k0:K} {e:TypeId} (ho:s.objs o=some (.cell k0 e)):∀(k:K) (j:Nat),j+k.size≤k0.size→∀{f:k.den→Option β},kE s o k j f=some r→
  ∃y,f y=some r∧(bS (eQ s o k j)=true→∃vs own,(∀i,i < k.size→w.cell? ⟨(pl o).b,(pl o).off+(j+i),none⟩=vs[i]?)∧OwnRep w (Av E s.objs pl) k y vs own∧
   (∀b∈own,∃q∈eQ s o k j,∃obj,s.objs q=some obj∧occ (pl q) obj∧(pl q).b=b)∧own.Nodup):=by
 have leaf:∀(k:K) (hp:k.isPair=false) (ow:∀(x:k.den) (vs:List Value),RepD w (Av E s.objs pl) k x vs→OwnRep w (Av E s.objs pl) k x vs []),∀(j:Nat),j+k.size≤k0.size→∀{f:k.den→Option β},eG (s.tmps (fld o j)) k f=some r→
   ∃y,f y=some r∧(bS (eQ s o k j)=true→∃vs own,(∀i,i < k.size→w.cell? ⟨(pl o).b,(pl o).off+(j+i),none⟩=vs[i]?)∧OwnRep w (Av E s.objs pl) k y vs own∧
    (∀b∈own,∃q∈eQ s o k j,∃obj,s.objs q=some obj∧occ (pl q) obj∧(pl q).b=b)∧own.Nodup):=fun k hp ow j hj f hk=>by
  have h1:k.size=1:=by cases k <;> first | rfl | simp [K.isPair] at hp
  obtain ⟨y,hy,hk⟩:=bE hk
  obtain ⟨v,hv,hrep⟩:=h.field h6 ho (j:=j) (by omega)
  rw [hy] at hrep
  obtain ⟨cs,hcs,hvv⟩:=hrep.dat_inv
  rw [if_neg (by simp [hp])] at hvv
  refine ⟨y,hk,fun _=>⟨cs,[],fun i hi=>?_,ow y cs hcs,fun b hb=>by simp at hb,List.nodup_nil⟩⟩
  have:i=0:=by omega
  subst this
  rw [hvv];exact hv
 intro k
 induction k with
 | pair k1 k2 ih1 ih2=>
  intro j hj f hk
  simp only [K.size] at hj ⊢
  unfold kE at hk
  obtain ⟨y1,hk1,g1⟩:=ih1 j (by omega) hk
  obtain ⟨y2,hk2,g2⟩:=ih2 (j+k1.size) (by omega) hk1
  refine ⟨(y1,y2),hk2,fun hn=>?_⟩
  simp only [eQ] at hn
  obtain ⟨n1,n2,n3⟩:=jZ hn
  obtain ⟨v1,o1,a1,a2,a3,a4⟩:=g1 n1
  obtain ⟨v2,o2,b1,b2,b3,b4⟩:=g2 n2
  refine ⟨v1++v2,o1++o2,fun i hi=>?_,⟨v1,v2,o1,o2,rfl,rfl,a2,b2⟩,fun b hb=>?_,List.nodup_append.2 ⟨a4,b4,fun b hb b' hb' e=>?_⟩⟩
  ·have hl:=a2.len
   by_cases hi1:i < k1.size
   ·rw [List.getElem?_append_left (by omega)];exact a1 i hi1
   ·rw [List.getElem?_append_right (by omega),hl,←b1 (i - k1.size) (by omega)]
    congr 2;omega
  ·simp only [eQ]
   rcases List.mem_append.1 hb with hb | hb
   ·obtain ⟨q,q1,q2⟩:=a3 b hb
    exact ⟨q,by simp [q1],q2⟩
   ·obtain ⟨q,q1,q2⟩:=b3 b hb
    exact ⟨q,by simp [q1],q2⟩
  ·subst e
   obtain ⟨q,q1,obj,q2,q3,q4⟩:=a3 b hb
   obtain ⟨q',q1',obj',q2',q3',q4'⟩:=b3 b hb'
   exact h.sep q q' obj obj' (fun e=>n3 q q1 (e ▸ q1')) q2 q2' q3 q3' (q4.trans q4'.symm)
 | sl e1 k ih=>
  intro j hj f hk
  obtain ⟨v,hv,hrep⟩:=h.field h6 ho (j:=j) (by simp only [K.size] at hj;omega)
  have hcell:∀i,i < (K.sl e1 k).size→w.cell? ⟨(pl o).b,(pl o).off+(j+i),none⟩=[v][i]? :=fun i hi=>by
   have:i=0:=by simp only [K.size] at hi;omega
   subst this
   exact hv
  unfold kE at hk
  split at hk
  ·rename_i hx
   rw [hx] at hrep
   have hve:v= .slice none 0 0:=by
    rcases hrep with hv | ⟨l,_,hl⟩
    ·exact hv
    ·exact hl.elim
   exact ⟨[],hk,fun _=>⟨[v],[],hcell,⟨v,rfl,none,0,hve,Nat.le_refl _,.inl ⟨rfl,rfl⟩⟩,fun b hb=>by simp at hb,List.nodup_nil⟩⟩
  ·obtain ⟨q,wn,nn,k',e',rw_,ys,hx,hq,hk⟩:=aX hk
   have hh:=aI hk
   clear hk
   obtain ⟨⟨he,hr⟩,hk⟩:=hh
   subst hr
   have hh:=aP hk
   clear hk
   obtain ⟨he',hk⟩:=hh
   subst he'
   rw [hx] at hrep
   obtain ⟨own,q1,q2,q3⟩:=CY h hrep hq
   refine ⟨win ys wn,hk,fun _=>⟨[v],own,hcell,⟨v,rfl,q1⟩,fun b hb=>⟨q,by simp [eQ,hx],_,hq,q2 b hb⟩,q3⟩⟩
 | int k=>intro j hj f hk;exact leaf (.int k) rfl (fun _ _ h=>⟨rfl,h⟩) j hj hk
 | bool=>intro j hj f hk;exact leaf .bool rfl (fun _ _ h=>⟨rfl,h⟩) j hj hk
 | str=>intro j hj f hk;exact leaf .str rfl (fun _ _ h=>⟨rfl,h⟩) j hj hk
 | flt k=>intro j hj f hk;exact leaf (.flt k) rfl (fun _ _ h=>⟨rfl,h⟩) j hj hk
 | err=>intro j hj f hk;exact leaf .err rfl (fun _ _ h=>⟨rfl,h⟩) j hj hk
theorem bL (h:RelP E pl w a s) (ids:List Nat):∀(ks:List AK) (xs:List Operand) {f:DenA ks→Option β},aN s ks (xs.map (ev s)) f=some r→
  (∀o∈aV ks (xs.map (ev s)),o∈ids)→bS (aU s ks (xs.map (ev s)))=true→
  ∃(d:DenA ks) (own:List Nat),f d=some r∧ArgsRep w (fun b=>Av E s.objs pl b∧¬vZ s.objs pl ids b) ks d (xs.map a.eval) own∧
   (∀b∈own,∃o∈aU s ks (xs.map (ev s)),∃obj,s.objs o=some obj∧occ (pl o) obj∧(pl o).b=b)∧own.Nodup∧xH w (Av E s.objs pl) s.objs pl ks (xs.map (ev s)) (xs.map a.eval)
 | [],[],f,hk,_,_=>⟨(),[],hk,⟨rfl,rfl⟩,fun b hb=>by simp at hb,List.nodup_nil,trivial⟩
 | [],x::xs,f,hk,_,_=>by simp [aN] at hk
 | .dat k::ks,[],f,hk,_,_=>by simp [aN] at hk
 | .ro k e::ks,[],f,hk,_,_=>by simp [aN] at hk
 | .rw k e::ks,[],f,hk,_,_=>by simp [aN] at hk
 | .pro k e::ks,[],f,hk,_,_=>by simp [aN] at hk
 | .cel k e::ks,[],f,hk,_,_=>by simp [aN] at hk
 | .io k e::ks,[],f,hk,_,_=>by simp [aN] at hk
 | .mp k e::ks,[],f,hk,_,_=>by simp [aN] at hk
 | .dat k::ks,x::xs,f,hk,hi,hn=>by
  simp only [List.map_cons,aN] at hk
  obtain ⟨y,hy,hk⟩:=bE hk
  obtain ⟨d,own,h1,h2,h3,h4,h5⟩:=bL h ids ks xs hk (by simpa [aV] using hi) (by simpa [aU] using hn)
  obtain ⟨cs,hcs,hv⟩:=(h.ev x _ hy).dat_inv
  exact ⟨(y,d),own,h1,⟨_,_,[],own,rfl,rfl,⟨rfl,cs,hcs.mono (fun b hb=>hb.1),hv⟩,h2⟩,by simpa [aU] using h3,h4,h5⟩
 | .ro k e::ks,x::xs,f,hk,hi,hn=>by
  simp only [List.map_cons] at hk hi hn
  unfold aN at hk
  split at hk
  ·rename_i hx
   obtain ⟨d,own,h1,h2,h3,h4,h5⟩:=bL h ids ks xs hk (by rw [hx] at hi;simpa [aV] using hi) (by simpa [aU] using hn)
   have hve:a.eval x= .slice none 0 0:=by
    rcases h.ev x _ hx with hv | ⟨l,_,hl⟩
    ·exact hv
    ·exact hl.elim
   exact ⟨([],d),own,h1,⟨_,_,[],own,rfl,rfl,⟨rfl,none,0,hve,Nat.le_refl _,fun hne=>absurd rfl hne⟩,h2⟩,by simpa [aU] using h3,h4,h5⟩
  ·obtain ⟨o,wn,nn,k',e',rw_,ys,hx,ho,hk⟩:=aX hk
   obtain ⟨he,hk⟩:=aI hk
   obtain ⟨rfl,hk⟩:=aP hk
   obtain ⟨d,own,h1,h2,h3,h4,h5⟩:=bL h ids ks xs hk (fun o' ho'=>hi o' (by rw [hx];simp [aV,ho'])) (by simpa [aU] using hn)
   obtain ⟨k1,e1,rw1,xs1,ho1,ad,cap,off,len,hw,hxe,hl,hc1,hc2,_⟩:=(h.ev x _ hx).sl_inv
   rw [ho] at ho1
   cases ho1
   obtain ⟨hTy,hxl,hmem,hro,hrow⟩:=h.objs o _ ho
   obtain ⟨hrw,hwl⟩:=hrow.winC hw
   refine ⟨(win ys wn,d),own,h1,⟨_,_,[],own,rfl,rfl,⟨rfl,ad,cap,by rw [hwl];exact hxe,by rw [hwl];exact hl,fun hne=>?_⟩,h2⟩,by simpa [aU] using h3,h4,h5⟩
   have hlen:0 < len:=by have:=cD hne;rw [hwl] at this;exact this
   refine ⟨_,_,hc2 (.inl hlen),fun hA=>?_,hrw.mono (fun b hb=>hb.1)⟩
   have hys:ys≠[]:=by
    have:=hw.bd.1
    exact fY (by omega)
   cases rw_ with
   | false=>exact hro rfl hys hA.1
   | true=>exact hA.2 ⟨o,hi o (by rw [hx];simp [aV]),_,ho,⟨rfl,by have:=cD hys;omega⟩,rfl⟩
 | .rw k e::ks,x::xs,f,hk,hi,hn=>by
  simp only [List.map_cons] at hk hi hn
  unfold aN at hk
  split at hk
  ·rename_i hx
   obtain ⟨d,own,h1,h2,h3,h4,h5⟩:=bL h ids ks xs hk (by simpa [aV] using hi) (by rw [hx] at hn;simpa [aU] using hn)
   have hve:a.eval x= .slice none 0 0:=by
    rcases h.ev x _ hx with hv | ⟨l,_,hl⟩
    ·exact hv
    ·exact hl.elim
   exact ⟨([],d),own,h1,⟨_,_,[],own,rfl,rfl,⟨none,0,hve,Nat.le_refl _,.inl ⟨rfl,rfl⟩⟩,h2⟩,by simp only [List.map_cons,hx,aU];exact h3,h4,h5⟩
  ·obtain ⟨o,wn,nn,k',e',rw_,ys,hx,ho,hk⟩:=aX hk
   have hh:=aI hk
   clear hk
   obtain ⟨⟨he,hr⟩,hk⟩:=hh
   subst hr
   have hh:=aP hk
   clear hk
   obtain ⟨he',hk⟩:=hh
   subst he'
   rw [hx] at hn
   simp only [aU,bS,Bool.and_eq_true] at hn
   obtain ⟨d,own,h1,h2,h3,h4,h5⟩:=bL h ids ks xs hk (by simpa [aV] using hi) hn.2
   obtain ⟨k1,e1,rw1,xs1,ho1,ad,cap,off,len,hw,hxe,hl,hc1,hc2,_⟩:=(h.ev x _ hx).sl_inv
   rw [ho] at ho1
   cases ho1
   obtain ⟨hTy,hxl,hmem,hro,hrow⟩:=h.objs o _ ho
   obtain ⟨hrw,hwl⟩:=hrow.winC hw
   have hpc:=hc1 rfl
   by_cases hcap:0 < cap
   ·have hocc:occ (pl o) (.row k' e' true ys):=⟨rfl,by omega⟩
    obtain ⟨row,tt,hrm,hsz⟩:=hmem rfl (by omega)
    refine ⟨(win ys wn,d),(pl o).b::own,h1,⟨_,_,[(pl o).b],own,rfl,rfl,⟨ad,cap,by rw [hwl];exact hxe,by rw [hwl];exact hl,.inr ⟨(pl o).b,(pl o).off+off * k'.size,row,tt,hcap,rfl,hc2 (.inr ⟨rfl,hcap⟩),hrw.mono (fun b hb=>hb.1),hrm,?_⟩⟩,h2⟩,?_,?_,h5⟩
    ·have:off * k'.size+cap * k'.size=(pl o).cap * k'.size:=by rw [←Nat.add_mul,hpc]
     omega
    ·intro b hb
     simp only [List.map_cons,hx,aU]
     rcases List.mem_cons.1 hb with rfl | hb
     ·exact ⟨o,by simp,_,ho,hocc,rfl⟩
     ·obtain ⟨o',g1,g2⟩:=h3 b hb
      exact ⟨o',by simp [g1],g2⟩
    ·refine List.nodup_cons.2 ⟨fun hb=>?_,h4⟩
     obtain ⟨o',g1,obj,g2,g3,g4⟩:=h3 _ hb
     by_cases e:o'=o
     ·subst e
      have:cV o' (aU s ks (xs.map (ev s)))=true:=aZ g1
      rw [this] at hn
      simp at hn
     ·exact h.sep o' o obj _ e g2 ho g3 hocc g4
   ·have hwl0:len=0:=by omega
    refine ⟨(win ys wn,d),own,h1,⟨_,_,[],own,rfl,rfl,⟨ad,cap,by rw [hwl];exact hxe,by rw [hwl];exact hl,.inl ⟨by omega,rfl⟩⟩,h2⟩,fun b hb=>?_,h4,h5⟩
    simp only [List.map_cons,hx,aU]
    obtain ⟨o',g1,g2⟩:=h3 b hb
    exact ⟨o',by simp [g1],g2⟩
 | .pro k e::ks,x::xs,f,hk,hi,hn=>by
  simp only [List.map_cons] at hk hi hn
  unfold aN at hk
  split at hk
  ·rename_i o i hx
   split at hk
   ·rename_i k' e' rw_ ys ho
    obtain ⟨he,hk⟩:=aI hk
    obtain ⟨rfl,hk⟩:=eK hk
    obtain ⟨d,own,h1,h2,h3,h4,h5⟩:=bL h ids ks xs hk (fun o' ho'=>hi o' (by rw [hx];simp [aV,ho'])) (by simpa [aU] using hn)
    obtain ⟨k1,e1,rw1,xs1,ho1,hi0,hi1,hv⟩:=(h.ev x _ hx).ptr_inv
    rw [ho] at ho1
    cases ho1
    obtain ⟨hTy,hxl,hmem,hro,hrow⟩:=h.objs o _ ho
    have hys:ys≠[]:=fY (by omega)
    refine ⟨(rdK k' ys i,d),own,h1,⟨_,_,[],own,rfl,rfl,⟨rfl,(pl o).b,(pl o).off+i.toNat * k'.size,by simpa using hv,fun hA=>?_,fun j x hj=>?_⟩,h2⟩,by simpa [aU] using h3,h4,h5⟩
    ·cases rw_ with
     | false=>exact hro rfl hys hA.1
     | true=>exact hA.2 ⟨o,hi o (by rw [hx];simp [aV]),_,ho,⟨rfl,by have:=cD hys;omega⟩,rfl⟩
    ·cases j with
     | succ j=>simp at hj
     | zero=>
      simp at hj
      subst hj
      obtain ⟨ds,hd,hc⟩:=hrow _ _ (pO hi0 hi1)
      exact ⟨ds,hd.mono (fun b hb=>hb.1),fun j hj=>by simpa using hc j hj⟩
   ·cases hk
  ·cases hk
 | .cel k e::ks,x::xs,f,hk,hi,hn=>by
  simp only [List.map_cons] at hk hi hn
  unfold aN at hk
  split at hk
  ·rename_i o hx
   split at hk
   ·rename_i k' e' ho
    obtain ⟨⟨h6,rfl,rfl⟩,hk⟩:=aI hk
    obtain ⟨y,hk,hy⟩:=uE h h6 ho k' 0 (by omega) hk
    rw [hx] at hn hi
    simp only [aU,List.cons_append,bS,Bool.and_eq_true,Bool.not_eq_true'] at hn
    obtain ⟨hn1,hn2⟩:=hn
    obtain ⟨hn3,hn4,hn5⟩:=jZ hn2
    obtain ⟨vs,o2,g1,g2,g3,g4⟩:=hy hn3
    obtain ⟨d,own,h1,h2,h3,h4,h5⟩:=bL h ids ks xs hk (by simpa [aV] using hi) hn4
    have hv:=(h.ev x _ hx).cp_inv
    obtain ⟨_,_,_,_,hve⟩:=hv
    obtain ⟨hTy,cs,t,hc,hs⟩:=h.objs o _ ho
    have hnm:∀q,q∈eQ s o k' 0∨q∈aU s ks (xs.map (ev s))→q≠o:=fun q hq e=>by
     subst e
     rw [aZ (List.mem_append.2 hq)] at hn1
     cases hn1
    have hoc:occ (pl o) (.cell k' e'):=trivial
    refine ⟨(y,d),((pl o).b::o2)++own,h1,⟨_,_,(pl o).b::o2,own,rfl,rfl,⟨(pl o).b,(pl o).off,cs,t,vs,o2,rfl,by simpa using hve,hc,hs,fun j hj=>by simpa using g1 j hj,g2.mono (fun b hb=>hb.1)⟩,h2⟩,?_,?_,⟨⟨o,hx,h6,ho,by
     rcases h.ev x _ hx with hv | ⟨l,_,hl⟩
     ·rw [hx];exact hv
     ·exact hl.elim⟩,h5⟩⟩
    ·intro b hb
     simp only [List.map_cons,hx,aU,List.cons_append]
     rcases List.mem_append.1 hb with hb | hb
     ·rcases List.mem_cons.1 hb with rfl | hb
      ·exact ⟨o,by simp,_,ho,hoc,rfl⟩
      ·obtain ⟨q,q1,q2⟩:=g3 b hb
       exact ⟨q,by simp [q1],q2⟩
     ·obtain ⟨q,q1,q2⟩:=h3 b hb
      exact ⟨q,by simp [q1],q2⟩
    ·have key:∀b q q' obj obj',q≠q'→s.objs q=some obj→s.objs q'=some obj'→occ (pl q) obj→occ (pl q') obj'→(pl q).b=b→(pl q').b=b→False:=fun b q q' obj obj' hne a1 a2 a3 a4 a5 a6=>h.sep q q' obj obj' hne a1 a2 a3 a4 (a5.trans a6.symm)
     refine List.nodup_append.2 ⟨List.nodup_cons.2 ⟨fun hb=>?_,g4⟩,h4,fun b hb b' hb' e=>?_⟩
     ·obtain ⟨q,q1,obj,q2,q3,q4⟩:=g3 _ hb
      exact key _ q o obj _ (hnm q (.inl q1)) q2 ho q3 hoc q4 rfl
     ·subst e
      obtain ⟨q',q1',obj',q2',q3',q4'⟩:=h3 _ hb'
      rcases List.mem_cons.1 hb with rfl | hb
      ·exact key _ q' o obj' _ (hnm q' (.inr q1')) q2' ho q3' hoc q4' rfl
      ·obtain ⟨q,q1,obj,q2,q3,q4⟩:=g3 _ hb
       exact key _ q q' obj obj' (fun e=>hn5 q q1 (e ▸ q1')) q2 q2' q3 q3' q4 q4'
   ·cases hk
  ·cases hk
 | .io k e::ks,x::xs,f,hk,hi,hn=>by
  simp only [List.map_cons] at hk hi hn
  unfold aN at hk
  split at hk
  ·rename_i o nn hx
   split at hk
   ·rename_i k' e' ys ho
    obtain ⟨he,hk⟩:=aI hk
    obtain ⟨rfl,hk⟩:=aP hk
    rw [hx] at hn
    simp only [aU,bS,Bool.and_eq_true,Bool.not_eq_true'] at hn
    obtain ⟨d,own,h1,h2,h3,h4,h5⟩:=bL h ids ks xs hk (by rw [hx] at hi;simpa [aV] using hi) hn.2
    obtain ⟨q1,q2,q3,q4⟩:=CY h (h.ev x _ hx) ho
    subst he
    have hio:xH w (Av E s.objs pl) s.objs pl (.io k' e'::ks) (ev s x::xs.map (ev s)) (a.eval x::xs.map a.eval):=⟨⟨o,nn,ys,hx,ho,by rw [hx];exact (h.ev x _ hx).sl_inv⟩,h5⟩
    refine ⟨(ys,d),q1++own,h1,⟨_,_,q1,own,rfl,rfl,q2.mono (fun b hb=>hb.1),h2⟩,fun b hb=>?_,List.nodup_append.2 ⟨q4,h4,fun b hb b' hb' e=>?_⟩,hio⟩
    ·simp only [List.map_cons,hx,aU]
     rcases List.mem_append.1 hb with hb | hb
     ·exact ⟨o,by simp,_,ho,(q3 b hb).1,(q3 b hb).2⟩
     ·obtain ⟨q,g1,g2⟩:=h3 b hb
      exact ⟨q,by simp [g1],g2⟩
    ·subst e
     obtain ⟨q,g1,obj,g2,g3,g4⟩:=h3 _ hb'
     have hne:q≠o:=fun e=>by subst e;rw [aZ g1] at hn;simp at hn
     exact h.sep q o obj _ hne g2 ho g3 (q3 b hb).1 (g4.trans (q3 b hb).2.symm)
   ·cases hk
  ·cases hk
 | .mp k1 k2::ks,x::xs,f,hk,hi,hn=>by
  simp only [List.map_cons] at hk hi hn
  unfold aN at hk
  split at hk
  ·rename_i o hx
   split at hk
   ·rename_i a' b' es ho
    split at hk
    ·rename_i hab
     obtain ⟨rfl,rfl⟩:=hab
     simp only at hk
     rw [hx] at hn
     simp only [aU,bS,Bool.and_eq_true,Bool.not_eq_true'] at hn
     obtain ⟨d,own,h1,h2,h3,h4,h5⟩:=bL h ids ks xs hk (by rw [hx] at hi;simpa [aV] using hi) hn.2
     have hve:VRep1 w (Av E s.objs pl) s.objs pl (.mp o) (a.eval x):=by
      rcases h.ev x _ hx with hv | ⟨l,_,hl⟩
      ·exact hv
      ·exact hl.elim
     obtain ⟨_,_,_,_,hvv⟩:=id hve
     obtain ⟨ms,clock,hm,hr⟩:=h.objs o _ ho
     refine ⟨(es,d),[(pl o).b]++own,h1,⟨_,_,[(pl o).b],own,rfl,rfl,⟨(pl o).b,ms,clock,rfl,hvv,hm,hr.mono (fun b hb=>hb.1)⟩,h2⟩,fun b hb=>?_,List.nodup_append.2 ⟨by simp,h4,fun b hb b' hb' e=>?_⟩,⟨⟨o,es,hx,ho,by rw [hx];exact hve⟩,h5⟩⟩
     ·simp only [List.map_cons,hx,aU]
      rcases List.mem_append.1 hb with hb | hb
      ·simp at hb
       subst hb
       exact ⟨o,by simp,_,ho,trivial,rfl⟩
      ·obtain ⟨q,g1,g2⟩:=h3 b hb
       exact ⟨q,by simp [g1],g2⟩
     ·subst e
      simp at hb
      subst hb
      obtain ⟨q,g1,obj,g2,g3,g4⟩:=h3 _ hb'
      have hne:q≠o:=fun e=>by subst e;rw [aZ g1] at hn;simp at hn
      exact h.sep q o obj _ hne g2 ho g3 trivial g4
    ·cases hk
   ·cases hk
  ·cases hk
theorem xA {c:Bool} {x:Option β} (h:(bif c then x else none)=some r):c=true∧x=some r:=by
 cases c
 ·cases h
 ·exact ⟨rfl,h⟩
theorem pA {A:Nat→Prop} {O:cE} {fv:FV} {us:List Value} (h:VRepL w A O pl fv us):VRep w A O pl (fZ fv) (qY us):=by
 cases fv <;> simp only [VRepL] at h <;> try exact h.elim
 case tnil=>subst h;exact .inr ⟨[],rfl,rfl⟩
 case tcons x y=>
  obtain ⟨v,l,rfl,h1,h2⟩:=h
  cases y <;> simp only [VRepL] at h2 <;> try exact h2.elim
  case tnil=>subst h2;exact .inl h1
  case tcons x2 y2=>
   obtain ⟨v2,l2,rfl,h3,h4⟩:=h2
   exact .inr ⟨v::v2::l2,rfl,v,_,rfl,h1,v2,l2,rfl,h3,h4⟩
theorem uQ (P:Program) (f:FuncId) (hc:bC P f) (args:Array Value) (w:World):(callFunc f args).run P w= .ok (.enter f args) w:=by
 unfold bC at hc
 cases hf:P.funcs[f]? with
 | none=>simp [hf] at hc
 | some fn=>
  rw [hf] at hc
  simp only [Option.map_some,Option.some.injEq,Prod.mk.injEq] at hc
  have h1:¬fn.name= "runtime.NumGoroutine":=by simpa using hc.2
  have h2:¬fn.body=none:=fun e=>by rw [e] at hc;simp at hc
  unfold callFunc
  simp [hf,h1,h2]
theorem FS (s:FState) (o:Nat):(s.down o).tmps=s.tmps:=by
 unfold FState.down
 split <;> rfl
theorem kV:∀(l:List Nat) (s:FState),(downAll l s).tmps=s.tmps
 | [],s=>rfl
 | o::l,s=>by rw [downAll,kV l,FS]
theorem uL (S:bJ) (vs:List FV) (s:FState):(downFor S vs s).tmps=s.tmps:=by
 unfold downFor
 cases S.rets.all RK.flat
 ·exact kV _ _
 ·rfl
theorem pZ (S:bJ) (vs:List FV) (s:FState) (x:Operand):ev (downFor S vs s) x=ev s x:=by
 cases x <;> simp only [ev,uL]
theorem VRep1.down {A A':Nat→Prop} {O O':cE} {o:Nat} {k:K} {e:TypeId} {xs:List k.den} (hA:∀b,A' b→A b) (ho:O o=some (.row k e true xs)) (ho':O' o=some (.row k e false xs)) (hO:∀p,p≠o→O' p=O p) {f:FV} {v:Value} (h:VRep1 w A O pl f v):VRep1 w A' O' pl f v:=by
 cases f with
 | dat k x=>obtain ⟨cs,h1,h2⟩:=h;exact ⟨cs,h1.mono hA,h2⟩
 | sl p wn nn=>
  obtain ⟨k1,e1,rw1,xs1,hp,ad,cap,off,len,h1,h2,h3,h4,h5,h6⟩:=h
  by_cases hpo:p=o
  ·subst hpo
   rw [ho] at hp
   cases hp
   exact ⟨k,e,false,xs,ho',ad,cap,off,len,h1,h2,h3,fun hh=>(by cases hh),fun hh=>h5 (hh.imp id (fun hh=>by cases hh.1)),h6⟩
  ·exact ⟨k1,e1,rw1,xs1,(hO p hpo).trans hp,ad,cap,off,len,h1,h2,h3,h4,h5,h6⟩
 | ptr p i off=>
  obtain ⟨k1,e1,rw1,xs1,hp,h1,h2,h3⟩:=h
  by_cases hpo:p=o
  ·subst hpo
   rw [ho] at hp
   cases hp
   exact ⟨k,e,false,xs,ho',h1,h2,h3⟩
  ·exact ⟨k1,e1,rw1,xs1,(hO p hpo).trans hp,h1,h2,h3⟩
 | it p=>
  obtain ⟨st,q,hp,h1⟩:=h
  have hpo:p≠o:=fun e=>by subst e;rw [ho] at hp;cases hp
  exact ⟨st,q,(hO p hpo).trans hp,h1⟩
 | cp p off=>
  obtain ⟨k1,e1,hp,h1⟩:=h
  have hpo:p≠o:=fun e=>by subst e;rw [ho] at hp;cases hp
  exact ⟨k1,e1,(hO p hpo).trans hp,h1⟩
 | mp p=>
  obtain ⟨k1,k2,es,hp,h1⟩:=h
  have hpo:p≠o:=fun e=>by subst e;rw [ho] at hp;cases hp
  exact ⟨k1,k2,es,(hO p hpo).trans hp,h1⟩
 | _=>exact h
theorem VRepL.down {A A':Nat→Prop} {O O':cE} {o:Nat} {k:K} {e:TypeId} {xs:List k.den} (hA:∀b,A' b→A b) (ho:O o=some (.row k e true xs)) (ho':O' o=some (.row k e false xs)) (hO:∀p,p≠o→O' p=O p):∀{f:FV} {l:List Value},VRepL w A O pl f l→VRepL w A' O' pl f l
 | .tnil,_,h=>h
 | .tcons a b,_,⟨x,l',h1,h2,h3⟩=>⟨x,l',h1,h2.down hA ho ho' hO,VRepL.down hA ho ho' hO h3⟩
 | .dead,_,h | .dat _ _,_,h | .nsl,_,h | .sl _ _ _,_,h | .ptr _ _ _,_,h | .nilp,_,h | .nilif,_,h | .mp _,_,h | .it _,_,h | .fn _,_,h | .glob _,_,h=>h.elim
theorem RelP.down (h:RelP E pl w a s) (o:Nat):RelP E pl w a (s.down o):=by
 unfold FState.down
 split
 ·rename_i k e xs ho
  have hO:∀p,p≠o→(s.setO o (some (.row k e false xs))).objs p=s.objs p:=fun p hp=>aD _ _ _ hp
  have hOwn:∀b,Own (s.setO o (some (.row k e false xs))).objs pl b→Own s.objs pl b∧(occ (pl o) (.row k e true xs)→b≠(pl o).b):=fun b ⟨p,obj,hp,hc,hb⟩=>by
   by_cases hpo:p=o
   ·subst hpo
    rw [aB] at hp
    cases hp
    cases hc.1
   ·rw [hO p hpo] at hp
    exact ⟨⟨p,obj,hp,hc,hb⟩,fun hoc e=>h.sep p o obj _ hpo hp ho hc hoc (hb.trans e)⟩
  have hAv:∀b,Av E (s.setO o (some (.row k e false xs))).objs pl b→Av E s.objs pl b:=fun b hb=>hb.imp id (fun hb=>(hOwn b hb).1)
  have hst:Stay w (Av E s.objs pl) w (Av E (s.setO o (some (.row k e false xs))).objs pl):=fun b hb hA=>⟨fun hA'=>hA (hAv b hA'),rfl⟩
  refine ⟨fun t=>?_,fun p obj hp=>?_,fun p p' ob ob' hpp hp hp' hc hc'=>?_,fun b hb=>h.fresh b (hOwn b hb).1,h.frame,h.dfr,h.N,h.zlt⟩
  ·rw [cU (w:=w) (O:=s.objs) (pl:=pl) (fun k e hk=>⟨by rw [hO _ (fun e'=>by rw [e',ho] at hk;cases hk)];exact hk,rfl,rfl⟩) (fun k e hk=>by
    by_cases e':t % 1000000=o
    ·rw [e',aB] at hk;cases hk
    ·rw [hO _ e'] at hk;exact ⟨k,e,hk⟩)]
   rcases h.vals t with hv | ⟨l,h1,h2⟩
   ·exact .inl (hv.down hAv ho (aB _ _ _) hO)
   ·exact .inr ⟨l,h1,VRepL.down hAv ho (aB _ _ _) hO h2⟩
  ·by_cases hpo:p=o
   ·subst hpo
    rw [aB] at hp
    cases hp
    obtain ⟨h1,h2,h3,h4,h5⟩:=h.objs p _ ho
    refine ⟨h1,h2,fun hh=>(by cases hh),fun _ hne hA=>?_,h5.stay hst rfl⟩
    have hoc:occ (pl p) (.row k e true xs):=⟨rfl,by have:=cD hne;omega⟩
    rcases hA with hz | hb
    ·exact (h.fresh _ ⟨p,_,ho,hoc,rfl⟩).2.2 hz
    ·exact (hOwn _ hb).2 hoc rfl
   ·rw [hO p hpo] at hp
    exact (h.objs p obj hp).stay hst (fun _=>rfl)
  ·have key:∀q ob,(s.setO o (some (.row k e false xs))).objs q=some ob→occ (pl q) ob→s.objs q=some ob:=fun q ob hq hcq=>by
    by_cases hqo:q=o
    ·subst hqo
     rw [aB] at hq
     cases hq
     cases hcq.1
    ·rw [hO q hqo] at hq;exact hq
   exact h.sep p p' ob ob' hpp (key p ob hp hc) (key p' ob' hp' hc') hc hc'
 ·exact h
theorem RelP.downAll:∀(l:List Nat) {s:FState},RelP E pl w a s→RelP E pl w a (Go.Proofs.YtoafkjeamgelgaaDoorHF.downAll l s)
 | [],s,h=>h
 | o::l,s,h=>RelP.downAll l (h.down o)
theorem Rel.downFor {S:bJ} {vs:List FV} (h:Rel E w a s):Rel E w a (Go.Proofs.YtoafkjeamgelgaaDoorHF.downFor S vs s):=by
 obtain ⟨pl,h⟩:=h
 unfold Go.Proofs.YtoafkjeamgelgaaDoorHF.downFor
 cases S.rets.all RK.flat
 ·exact ⟨pl,h.downAll _⟩
 ·exact ⟨pl,h⟩
theorem tH {Ac:Nat→Prop} {nm:Nat→Nat}:∀(k:K) (j:Nat) (x:k.den) {E:Env} (s:FState) (pl:Nat→Pl) (own:List Nat) (vs:List Value) {f:List FV→FState→Option β},mC nm k j x s f=some r→
  RelP (E.withZ fun b=>E.Z b∨b∈own) pl w a s→own.Nodup→(∀b∈own,(E.own b∨E.w0.heap.size≤b)∧¬E.Z b)→(k.flat1=true∨∀b,Av (E.withZ fun b=>E.Z b∨b∈own) s.objs pl b→Ac b)→DX E.P k→OwnRep w Ac k x vs own→
  ∃fs s2 pl2,f fs s2=some r∧RelP E pl2 w a s2∧FsRep w (Av E s2.objs pl2) s2.objs pl2 fs vs∧(∀o obj,s.objs o=some obj→s2.objs o=some obj∧pl2 o=pl o)∧(∀b,Av E s2.objs pl2 b→Av (E.withZ fun b=>E.Z b∨b∈own) s.objs pl b)∧s2.tmps=s.tmps:=by
 have drop0:∀{E:Env} {s:FState} {pl:Nat→Pl},RelP (E.withZ fun b=>E.Z b∨b∈([]:List Nat)) pl w a s→RelP E pl w a s:=fun {E s pl} h=>
  h.worldZ (own:=fun _=>False) (Z2:=E.Z) ⟨rfl,rfl,rfl,Nat.le_refl _,fun _ _ _=>rfl⟩ (fun b h=>h.elim) (fun b _ hz=> .inl hz) (fun b hz=>h.zlt b (.inl hz))
 have leaf:∀(k:K) (hp:k.isPair=false) (x:k.den) {E:Env} (s:FState) (pl:Nat→Pl) (own:List Nat) (vs:List Value) {f:List FV→FState→Option β},f [.dat k x] s=some r→RelP (E.withZ fun b=>E.Z b∨b∈own) pl w a s→(k.flat=true∨∀b,Av (E.withZ fun b=>E.Z b∨b∈own) s.objs pl b→Ac b)→own=[]→RepD w Ac k x vs→
   ∃fs s2 pl2,f fs s2=some r∧RelP E pl2 w a s2∧FsRep w (Av E s2.objs pl2) s2.objs pl2 fs vs∧(∀o obj,s.objs o=some obj→s2.objs o=some obj∧pl2 o=pl o)∧(∀b,Av E s2.objs pl2 b→Av (E.withZ fun b=>E.Z b∨b∈own) s.objs pl b)∧s2.tmps=s.tmps:=fun k hp x E s pl own vs f hk h hA ho hr=>by
  subst ho
  refine ⟨_,s,pl,hk,drop0 h,qD hp ?_,fun o obj ho=>⟨ho,rfl⟩,fun b hb=>hb.imp .inl id,rfl⟩
  rcases hA with hA | hA
  ·exact hr.flat hA
  ·exact hr.mono (fun b hb=>hA b (hb.imp .inl id))
 intro k
 induction k with
 | pair k1 k2 ih1 ih2=>
  intro j x E s pl own vs f hk h hnd hown hA hT hr
  obtain ⟨v1,v2,o1,o2,rfl,rfl,h1,h2⟩:=hr
  have hnd':=List.nodup_append.1 hnd
  unfold mC at hk
  let E1:Env:=E.withZ fun b=>E.Z b∨b∈o2
  have hh:RelP (E1.withZ fun b=>E1.Z b∨b∈o1) pl w a s:=h.worldZ (own:=fun _=>False) (Z2:=fun b=>E1.Z b∨b∈o1) ⟨rfl,rfl,rfl,Nat.le_refl _,fun _ _ _=>rfl⟩ (fun b h=>h.elim) (fun b _ hz=>by
   rcases hz with (hz | hz) | hz
   ·exact .inl hz
   ·exact .inr (List.mem_append.2 (.inr hz))
   ·exact .inr (List.mem_append.2 (.inl hz))) (fun b hz=>by
   rcases hz with (hz | hz) | hz
   ·exact h.zlt b (.inl hz)
   ·exact h.zlt b (.inr (List.mem_append.2 (.inr hz)))
   ·exact h.zlt b (.inr (List.mem_append.2 (.inl hz))))
  have hsub:∀b,Av (E1.withZ fun b=>E1.Z b∨b∈o1) s.objs pl b→Av (E.withZ fun b=>E.Z b∨b∈o1++o2) s.objs pl b:=fun b hb=>by
   rcases hb with ((hz | hz) | hz) | hb
   ·exact .inl (.inl hz)
   ·exact .inl (.inr (List.mem_append.2 (.inr hz)))
   ·exact .inl (.inr (List.mem_append.2 (.inl hz)))
   ·exact .inr hb
  obtain ⟨l,s1,pl1,hk1,g1,g2,g3,g4,g5⟩:=ih1 j x.1 (E:=E1) s pl o1 v1 hk hh hnd'.1 (fun b hb=>⟨(hown b (by simp [hb])).1,fun hz=>by
    rcases hz with hz | hz
    ·exact (hown b (by simp [hb])).2 hz
    ·exact hnd'.2.2 b hb b hz rfl⟩) (hA.imp (fun h=>by simp only [K.flat1,Bool.and_eq_true] at h;exact h.1) (fun h b hb=>h b (hsub b hb))) hT.1 h1
  obtain ⟨m,s2,pl2,hk2,f1,f2,f3,f4,f5⟩:=ih2 (j+k1.size) x.2 (E:=E) s1 pl1 o2 v2 hk1 g1 hnd'.2.1 (fun b hb=>hown b (by simp [hb])) (hA.imp (fun h=>by simp only [K.flat1,Bool.and_eq_true] at h;exact h.2) (fun h b hb=>h b (hsub b (g4 b hb)))) hT.2 h2
  refine ⟨_,s2,pl2,hk2,f1,(g2.move (fun k x cs hc=>hc.mono f4) (fun o obj ho=>⟨obj,(f3 o obj ho).1,obj.like_refl,(f3 o obj ho).2⟩)).app f2,fun o obj ho=>?_,fun b hb=>hsub b (g4 b (f4 b hb)),f5.trans g5⟩
  obtain ⟨e1,e2⟩:=g3 o obj ho
  obtain ⟨e3,e4⟩:=f3 o obj e1
  exact ⟨e3,e4.trans e2⟩
 | sl e k ih=>
  intro j x E s pl own vs f hk h hnd hown hA hT hr
  obtain ⟨v,rfl,h1⟩:=hr
  unfold mC at hk
  split at hk
  ·rename_i hd
   obtain ⟨ad,p,cap,rfl,hle,hpc,had,hc1,hc2⟩:=ArgRep.obj_rw (e:=e) h1
   have hp:occ p (.row k e true x)→own=[p.b]:=fun hc=>(hc1 (by have:=hc.2;omega)).1
   have hrel:=h.add (d:=nm j) hd (.row k e true x) p (fun hc=>⟨.inr (by rw [hp hc];simp),(hown p.b (by rw [hp hc];simp)).1⟩) (Z2:=E.Z) (fun b hb=>⟨.inl hb,fun hc e'=>(hown p.b (by rw [hp hc];simp)).2 (e' ▸ hb)⟩) (fun A' hA'=>⟨hT,by omega,fun _ hcp=>(hc1 (by omega)).2.2,fun hh=>(by cases hh),by
    by_cases hcp:0 < cap
    ·rcases hA with hA | hA
     ·exact (hc1 hcp).2.1.flat hA
     ·exact (hc1 hcp).2.1.mono (fun b hb=>hA b (hA' b hb))
    ·rw [(hc2 hcp).2];exact RowAt.nil _ _ _ _ _⟩)
   refine ⟨_,_,_,hk,hrel,⟨_,[],rfl,.inl ⟨k,e,true,x,aB _ _ _,ad,cap,0,x.length,⟨rfl,rfl⟩,rfl,hle,fun _=>by rw [aC];omega,fun hh=>by rw [aC,had (by omega)];simp,fun hn=>by cases hn⟩,rfl⟩,fun o ob ho=>?_,?_,rfl⟩
   ·have:o≠nm j:=fun e'=>by subst e';rw [hd] at ho;cases ho
    exact ⟨by rw [aD _ _ _ this];exact ho,aG _ _ _ this⟩
   ·rintro b (hz | ⟨o,ob,ho,hc,hb⟩)
    ·exact .inl (.inl hz)
    ·by_cases e':o=nm j
     ·subst e'
      rw [aB] at ho
      cases ho
      rw [aC] at hc hb
      subst hb
      exact .inl (.inr (by rw [hp hc];simp))
     ·rw [aD _ _ _ e'] at ho
      rw [aG _ _ _ e'] at hc hb
      exact .inr ⟨o,ob,ho,hc,hb⟩
  ·cases hk
 | int k=>intro j x E s pl own vs f hk h hnd hown hA hT hr;exact leaf _ rfl x s pl own vs hk h (.inl rfl) hr.1 hr.2
 | bool=>intro j x E s pl own vs f hk h hnd hown hA hT hr;exact leaf _ rfl x s pl own vs hk h (.inl rfl) hr.1 hr.2
 | str=>intro j x E s pl own vs f hk h hnd hown hA hT hr;exact leaf _ rfl x s pl own vs hk h (.inl rfl) hr.1 hr.2
 | flt k=>intro j x E s pl own vs f hk h hnd hown hA hT hr;exact leaf _ rfl x s pl own vs hk h (.inl rfl) hr.1 hr.2
 | err=>intro j x E s pl own vs f hk h hnd hown hA hT hr;exact leaf _ rfl x s pl own vs hk h (.inl rfl) hr.1 hr.2
def Same (w0:World) (A0:Nat→Prop) (O0:cE) (pl0:Nat→Pl) (w:World) (A:Nat→Prop) (O:cE) (pl:Nat→Pl) (o:Nat):Prop:=
 (∀off v,VRep1 w0 A0 O0 pl0 (.cp o off) v→VRep1 w A O pl (.cp o off) v)∧(∀wn nn v,VRep1 w0 A0 O0 pl0 (.sl o wn nn) v→VRep1 w A O pl (.sl o wn nn) v)∧(∀v,VRep1 w0 A0 O0 pl0 (.mp o) v→VRep1 w A O pl (.mp o) v)
theorem Same.move {w0:World} {A0:Nat→Prop} {O0:cE} {pl0:Nat→Pl} {A A':Nat→Prop} {O O':cE} {pl pl':Nat→Pl} {o:Nat} (hD:∀k x cs,RepD w A k x cs→RepD w A' k x cs) (hO:∀o obj,O o=some obj→∃obj',O' o=some obj'∧obj.like obj'∧pl' o=pl o) (h:Same w0 A0 O0 pl0 w A O pl o):Same w0 A0 O0 pl0 w A' O' pl' o:=
 ⟨fun off v hv=>(h.1 off v hv).move hD hO,fun wn nn v hv=>(h.2.1 wn nn v hv).move hD hO,fun v hv=>(h.2.2 v hv).move hD hO⟩
theorem sE {o:Nat}:∀(fs:List FV) (s:FState) (j t:Nat),(∀i,t≠fld o i)→(s.setF o j fs).tmps t=s.tmps t
 | [],s,j,t,_=>rfl
 | f::fs,s,j,t,h=>by rw [FState.setF,sE fs _ _ _ h,BO,if_neg (h j)]
theorem JH {o j o':Nat} (h6:o < 1000000) (h:dK o' (fld o j)=true):o'=o:=by
 unfold dK at h
 simp only [Bool.and_eq_true] at h
 have:=Nat.eq_of_beq_eq_true h.1
 rw [DQ h6] at this
 exact this.symm
theorem bR {Ac:Nat→Prop} {d:Nat} {w0:World} {A0:Nat→Prop} {O0:cE} {pl0:Nat→Pl}:∀(ks:List AK) (fvs:List FV) (vals:List Value) (j:Nat) (x:DenR (aS ks)) (s:FState) (pl:Nat→Pl) (own:List Nat) {f:FState→Option β},xH w0 A0 O0 pl0 ks fvs vals→(aM ks fvs).Nodup→
  cS d j (aS ks) (aM ks fvs) x s f=some r→RelP (E.withZ fun b=>E.Z b∨b∈own) pl w a s→own.Nodup→(∀b∈own,(E.own b∨E.w0.heap.size≤b)∧¬E.Z b)→((aS ks).all RK.flat=true∨∀b,Av (E.withZ fun b=>E.Z b∨b∈own) s.objs pl b→Ac b)→RessRep E.P w Ac (aS ks) x (eI ks vals) own→
  (∀o∈aM ks fvs,∀t,dK o t=true→s.tmps t= .dead)→
  ∃s2 pl2,f s2=some r∧RelP E pl2 w a s2∧(∀o obj,s.objs o=some obj→s2.objs o=some obj∧pl2 o=pl o)∧(∀b,Av E s2.objs pl2 b→Av (E.withZ fun b=>E.Z b∨b∈own) s.objs pl b)∧(∀o∈aM ks fvs,Same w0 A0 O0 pl0 w (Av E s2.objs pl2) s2.objs pl2 o)∧(∀t,t < 1000000→s2.tmps t=s.tmps t)
 | [],[],[],j,x,s,pl,own,f,_,_,hk,h,hnd,hown,hA,hr,_=>by
  obtain ⟨_,rfl⟩:=hr
  refine ⟨s,pl,hk,?_,fun o obj ho=>⟨ho,rfl⟩,fun b hb=>hb.imp .inl id,fun o ho=>by simp [aM] at ho,fun _ _=>rfl⟩
  exact h.worldZ (own:=fun _=>False) (Z2:=E.Z) ⟨rfl,rfl,rfl,Nat.le_refl _,fun _ _ _=>rfl⟩ (fun b h=>h.elim) (fun b _ hz=> .inl hz) (fun b hz=>h.zlt b (.inl hz))
 | [],_::_,_,_,_,_,_,_,_,hi,_,_,_,_,_,_,_,_=>hi.elim
 | [],[],_::_,_,_,_,_,_,_,hi,_,_,_,_,_,_,_,_=>hi.elim
 | k::ks,[],_,_,_,_,_,_,_,hi,_,_,_,_,_,_,_,_=>by cases k <;> exact hi.elim
 | k::ks,_::_,[],_,_,_,_,_,_,hi,_,_,_,_,_,_,_,_=>by cases k <;> exact hi.elim
 | .dat k::ks,g::fvs,v::vals,j,x,s,pl,own,f,hi,hn,hk,h,hnd,hown,hA,hr,hdd=>bR ks fvs vals j x s pl own hi hn hk h hnd hown hA hr hdd
 | .ro k e::ks,g::fvs,v::vals,j,x,s,pl,own,f,hi,hn,hk,h,hnd,hown,hA,hr,hdd=>bR ks fvs vals j x s pl own hi hn hk h hnd hown hA hr hdd
 | .rw k e::ks,g::fvs,v::vals,j,x,s,pl,own,f,hi,hn,hk,h,hnd,hown,hA,hr,hdd=>bR ks fvs vals j x s pl own hi hn hk h hnd hown hA hr hdd
 | .pro k e::ks,g::fvs,v::vals,j,x,s,pl,own,f,hi,hn,hk,h,hnd,hown,hA,hr,hdd=>bR ks fvs vals j x s pl own hi hn hk h hnd hown hA hr hdd
 | .cel k e::ks,g::fvs,v::vals,j,x,s,pl,own,f,hi,hn,hk,h,hnd,hown,hA,hr,hdd=>by
  obtain ⟨⟨o,rfl,h6,hO0,hv0⟩,hi⟩:=hi
  obtain ⟨_,_,u1,u2,hqq,rfl,⟨hTy,hOT,b,off,cs,t,vs,o2,rfl,hv1,hmem,hsz,hcell,hown2⟩,hr2⟩:=hr
  simp only [eI,List.cons.injEq] at hqq
  obtain ⟨rfl,rfl⟩:=hqq
  simp only [aM,List.nodup_cons] at hn
  simp only [aM] at hk
  have hk:cS d j (.bcel k e::aS ks) (o::aM ks fvs) (x.1,x.2) s f=some r:=hk
  rw [cS] at hk
  have hnd':=List.nodup_append.1 hnd
  have hndc:=List.nodup_cons.1 hnd'.1
  obtain ⟨_,_,hO0',hlt0,hv0'⟩:=hv0
  rw [hO0] at hO0'
  cases hO0'
  rw [hv1] at hv0'
  simp only [Value.pointer.injEq,Option.some.injEq,Addr.mk.injEq,Nat.add_zero,and_true] at hv0'
  obtain ⟨hb0,hoff0⟩:=hv0'
  split at hk
  ·rename_i hd
   let E1:Env:=E.withZ fun b'=>E.Z b'∨b'=b∨b'∈u2
   have hE1:∀b',(E1.Z b'∨b'∈o2)↔(E.Z b'∨b'∈(b::o2)++u2):=fun b'=>by
    show ((E.Z b'∨b'=b∨b'∈u2)∨b'∈o2)↔_
    simp only [List.cons_append,List.mem_cons,List.mem_append]
    constructor
    ·rintro ((h | h | h) | h)
     ·exact .inl h
     ·exact .inr (.inl h)
     ·exact .inr (.inr (.inr h))
     ·exact .inr (.inr (.inl h))
    ·rintro (h | h | h | h)
     ·exact .inl (.inl h)
     ·exact .inl (.inr (.inl h))
     ·exact .inr h
     ·exact .inl (.inr (.inr h))
   have hh:RelP (E1.withZ fun b'=>E1.Z b'∨b'∈o2) pl w a s:=h.worldZ (own:=fun _=>False) (Z2:=fun b'=>E1.Z b'∨b'∈o2) ⟨rfl,rfl,rfl,Nat.le_refl _,fun _ _ _=>rfl⟩ (fun b h=>h.elim) (fun b' _ hz=>(hE1 b').1 hz) (fun b' hz=>h.zlt b' ((hE1 b').1 hz))
   have hsub:∀b',Av (E1.withZ fun b'=>E1.Z b'∨b'∈o2) s.objs pl b'→Av (E.withZ fun b'=>E.Z b'∨b'∈(b::o2)++u2) s.objs pl b':=fun b' hb=>hb.imp (hE1 b').1 id
   have hbo:(E.own b∨E.w0.heap.size≤b)∧¬E.Z b:=hown b (by simp)
   obtain ⟨fs,s1,pl1,hk1,g1,g2,g3,g4,g5⟩:=tH k 0 x.1 (E:=E1) s pl o2 vs hk hh hndc.2 (fun b' hb=>⟨(hown b' (by simp [hb])).1,fun hz=>by
     rcases hz with hz | hz | hz
     ·exact (hown b' (by simp [hb])).2 hz
     ·exact hndc.1 (hz ▸ hb)
     ·exact hnd'.2.2 b' (by simp [hb]) b' hz rfl⟩) (hA.imp (fun h=>by simp only [aS,List.all_cons,Bool.and_eq_true,RK.flat] at h;exact h.1) (fun h b' hb=>h b' (hsub b' hb))) hOT hown2
   split at hk1
   ·rename_i hd1
    have hdead:∀t,dK o t=true→s1.tmps t= .dead:=fun t ht=>by rw [g5];exact hdd o (by simp [aM]) t ht
    let E2:Env:=E.withZ fun b'=>E.Z b'∨b'∈u2
    have h3:=g1.add (d:=o) hd1 (.cell k e) ⟨b,off,1⟩ (fun _=>⟨.inr (.inl rfl),hbo.1⟩) (Z2:=fun b'=>E.Z b'∨b'∈u2) (fun b' hb=>⟨hb.imp id .inr,fun _ e'=>by
      subst e'
      rcases hb with hb | hb
      ·exact hbo.2 hb
      ·exact hnd'.2.2 _ (by simp) _ hb rfl⟩) (fun A' _=>⟨hTy,cs,t,hmem,hsz⟩) (.inr hdead)
    have hkeep1:∀p ob,s1.objs p=some ob→(s1.setO o (some (.cell k e))).objs p=some ob∧upd pl1 o ⟨b,off,1⟩ p=pl1 p:=fun p ob hp=>by
     have:p≠o:=fun e'=>by subst e';rw [hd1] at hp;cases hp
     exact ⟨by rw [aD _ _ _ this];exact hp,aG _ _ _ this⟩
    have hAv3:∀b',Av E2 (s1.setO o (some (.cell k e))).objs (upd pl1 o ⟨b,off,1⟩) b'→Av E1 s1.objs pl1 b':=by
     rintro b' (hz | ⟨p,ob,hp,hc,hb⟩)
     ·exact .inl (hz.imp id .inr)
     ·by_cases e':p=o
      ·subst e'
       rw [aC] at hb
       exact .inl (.inr (.inl hb.symm))
      ·rw [aD _ _ _ e'] at hp
       rw [aG _ _ _ e'] at hc hb
       exact .inr ⟨p,ob,hp,hc,hb⟩
    have h4:RelP E2 (upd pl1 o ⟨b,off,1⟩) w a ((s1.setO o (some (.cell k e))).setF o 0 fs):=RelP.knowF h6 fs vs 0 h3 (aB _ _ _) (fun i v hi=>by
      rw [aC,Nat.zero_add,hcell i (by have:=(List.getElem?_eq_some_iff.1 hi).1;have:=hown2.len;omega)];exact hi)
     (g2.move (fun k x cs hc=>hc.mono hAv3) (fun p ob hp=>⟨ob,(hkeep1 p ob hp).1,ob.like_refl,(hkeep1 p ob hp).2⟩))
    have hA4:∀b',Av E2 ((s1.setO o (some (.cell k e))).setF o 0 fs).objs (upd pl1 o ⟨b,off,1⟩) b'→Av (E.withZ fun b'=>E.Z b'∨b'∈(b::o2)++u2) s.objs pl b':=fun b' hb=>by
     rw [gC] at hb
     exact hsub b' (g4 b' (hAv3 b' hb))
    have htm:∀t,(∀i,t≠fld o i)→((s1.setO o (some (.cell k e))).setF o 0 fs).tmps t=s.tmps t:=fun t ht=>by
     rw [sE _ _ _ _ ht]
     show s1.tmps t=_
     rw [g5]
    obtain ⟨s5,pl5,f1,f2,f3,f4,f5,f6⟩:=bR ks fvs vals (j+1) x.2 _ _ u2 hi hn.2 hk1 h4 hnd'.2.1 (fun b' hb=>hown b' (by simp [hb])) (hA.imp (fun h=>by simp only [aS,List.all_cons,Bool.and_eq_true] at h;exact h.2) (fun h b' hb=>h b' (hA4 b' hb))) hr2
     (fun o' ho' t ht=>by
      rw [htm t (fun i e'=>by
       subst e'
       have:=JH h6 ht
       subst this
       exact hn.1 ho')]
      exact hdd o' (by simp [aM,ho']) t ht)
    refine ⟨s5,pl5,f1,f2,fun p ob hp=>?_,fun b' hb=>hA4 b' (f4 b' hb),fun o' ho'=>?_,fun t ht=>?_⟩
    ·obtain ⟨e1,e2⟩:=g3 p ob hp
     obtain ⟨e3,e4⟩:=hkeep1 p ob e1
     obtain ⟨e5,e6⟩:=f3 p ob (by rw [gC];exact e3)
     exact ⟨e5,e6.trans (e4.trans e2)⟩
    ·simp only [aM,List.mem_cons] at ho'
     rcases ho' with rfl | ho'
     ·obtain ⟨e5,e6⟩:=f3 o' (.cell k e) (by rw [gC];exact aB _ _ _)
      refine ⟨fun off' v' hv'=>?_,fun wn nn v' hv'=>?_,fun v' hv'=>?_⟩
      ·obtain ⟨k1,e1,ho1,hl1,hvv⟩:=hv'
       rw [hO0] at ho1
       cases ho1
       refine ⟨k,e,e5,hl1,?_⟩
       rw [e6,aC,hvv,hb0,hoff0]
      ·obtain ⟨_,_,_,_,ho1,_⟩:=hv'
       rw [hO0] at ho1
       cases ho1
      ·obtain ⟨_,_,_,ho1,_⟩:=hv'
       rw [hO0] at ho1
       cases ho1
     ·exact f5 o' ho'
    ·rw [f6 t ht]
     exact htm t (fun i e'=>by subst e';exact tR o i ht)
   ·cases hk1
  ·cases hk
 | .io k e::ks,g::fvs,v::vals,j,x,s,pl,own,f,hi,hn,hk,h,hnd,hown,hA,hr,hdd=>by
  obtain ⟨⟨o,nn0,xs0,rfl,hO0,hv0⟩,hi⟩:=hi
  obtain ⟨_,_,u1,u2,hqq,rfl,⟨hTy,hrv⟩,hr2⟩:=hr
  simp only [eI,List.cons.injEq] at hqq
  obtain ⟨rfl,rfl⟩:=hqq
  simp only [aM,List.nodup_cons] at hn
  simp only [aM] at hk
  have hk:cS d j (.bio k e::aS ks) (o::aM ks fvs) (x.1,x.2) s f=some r:=hk
  rw [cS] at hk
  have hnd':=List.nodup_append.1 hnd
  obtain ⟨_,_,_,_,hO0',ad0,cap0,off0,len0,hw0,hve0,hl0,hc0,ha0,_⟩:=hv0
  rw [hO0] at hO0'
  cases hO0'
  obtain ⟨rfl,rfl⟩:=hw0
  split at hk
  ·rename_i hd
   obtain ⟨ad,p,cap,hve,hle,hpc,had,hc1,hc2⟩:=ArgRep.obj_rw (e:=e) hrv
   rw [hve] at hve0
   simp only [Value.slice.injEq] at hve0
   obtain ⟨had0,hlen0,hcap0⟩:=hve0
   have hp:occ p (.row k e true x.1)→u1=[p.b]:=fun hc=>(hc1 (by have:=hc.2;omega)).1
   have h3:=h.add (d:=o) hd (.row k e true x.1) p (fun hc=>⟨.inr (by rw [hp hc];simp),(hown p.b (by rw [hp hc];simp)).1⟩) (Z2:=fun b'=>E.Z b'∨b'∈u2) (fun b' hb=>⟨hb.imp id (fun h=>List.mem_append.2 (.inr h)),fun hc e'=>by
     subst e'
     rcases hb with hb | hb
     ·exact (hown p.b (by rw [hp hc];simp)).2 hb
     ·exact hnd'.2.2 p.b (by rw [hp hc];simp) p.b hb rfl⟩) (fun A' hA'=>⟨hTy,by omega,fun _ hcp=>(hc1 (by omega)).2.2,fun hh=>(by cases hh),by
    by_cases hcp:0 < cap
    ·rcases hA with hA | hA
     ·simp only [aS,List.all_cons,Bool.and_eq_true,RK.flat] at hA
      exact (hc1 hcp).2.1.flat hA.1
     ·exact (hc1 hcp).2.1.mono (fun b hb=>hA b (hA' b hb))
    ·rw [(hc2 hcp).2];exact RowAt.nil _ _ _ _ _⟩)
   let E2:Env:=E.withZ fun b'=>E.Z b'∨b'∈u2
   have hkeep1:∀q ob,s.objs q=some ob→(s.setO o (some (.row k e true x.1))).objs q=some ob∧upd pl o p q=pl q:=fun q ob hq=>by
    have:q≠o:=fun e'=>by subst e';rw [hd] at hq;cases hq
    exact ⟨by rw [aD _ _ _ this];exact hq,aG _ _ _ this⟩
   have hAv3:∀b',Av E2 (s.setO o (some (.row k e true x.1))).objs (upd pl o p) b'→Av (E.withZ fun b'=>E.Z b'∨b'∈u1++u2) s.objs pl b':=by
    rintro b' (hz | ⟨q,ob,hq,hc,hb⟩)
    ·exact .inl (hz.imp id (fun h=>List.mem_append.2 (.inr h)))
    ·by_cases e':q=o
     ·subst e'
      rw [aB] at hq
      cases hq
      rw [aC] at hc hb
      subst hb
      exact .inl (.inr (by rw [hp hc];simp))
     ·rw [aD _ _ _ e'] at hq
      rw [aG _ _ _ e'] at hc hb
      exact .inr ⟨q,ob,hq,hc,hb⟩
   obtain ⟨s5,pl5,f1,f2,f3,f4,f5,f6⟩:=bR ks fvs vals (j+1) x.2 _ _ u2 hi hn.2 hk h3 hnd'.2.1 (fun b' hb=>hown b' (by simp [hb])) (hA.imp (fun h=>by simp only [aS,List.all_cons,Bool.and_eq_true] at h;exact h.2) (fun h b' hb=>h b' (hAv3 b' hb))) hr2
    (fun o' ho' t ht=>hdd o' (by simp [aM,ho']) t ht)
   refine ⟨s5,pl5,f1,f2,fun q ob hq=>?_,fun b' hb=>hAv3 b' (f4 b' hb),fun o' ho'=>?_,fun t ht=>f6 t ht⟩
   ·obtain ⟨e3,e4⟩:=hkeep1 q ob hq
    obtain ⟨e5,e6⟩:=f3 q ob e3
    exact ⟨e5,e6.trans e4⟩
   ·simp only [aM,List.mem_cons] at ho'
    rcases ho' with rfl | ho'
    ·obtain ⟨e5,e6⟩:=f3 o' _ (aB _ _ _)
     refine ⟨fun off' v' hv'=>?_,fun wn nn v' hv'=>?_,fun v' hv'=>?_⟩
     ·obtain ⟨_,_,ho1,_⟩:=hv'
      rw [hO0] at ho1
      cases ho1
     ·obtain ⟨k1,e1,rw1,xs1,ho1,ad1,cap1,off1,len1,hw1,hve1,hl1,hc1',ha1,hn1⟩:=hv'
      rw [hO0] at ho1
      cases ho1
      refine ⟨k,e,true,x.1,e5,ad1,cap1,off1,len1,hw1.len (by omega),hve1,hl1,fun _=>?_,fun hh=>?_,hn1⟩
      ·rw [e6,aC,hc1' rfl,←hc0 rfl];omega
      ·have h0:=hc1' rfl
       have h1:=hc0 rfl
       have hcpos:0 < cap:=by
        rcases hh with hh | ⟨_,hh⟩ <;> omega
       rw [e6,aC,ha1 hh]
       have h2:=ha0 (.inr ⟨rfl,by omega⟩)
       rw [←had0,had hcpos] at h2
       simp at h2
       rw [h2.1,h2.2]
     ·obtain ⟨_,_,_,ho1,_⟩:=hv'
      rw [hO0] at ho1
      cases ho1
    ·exact f5 o' ho'
  ·cases hk
 | .mp k1 k2::ks,g::fvs,v::vals,j,x,s,pl,own,f,hi,hn,hk,h,hnd,hown,hA,hr,hdd=>by
  obtain ⟨⟨o,es0,rfl,hO0,hv0⟩,hi⟩:=hi
  obtain ⟨_,_,u1,u2,hqq,rfl,⟨rr,ms,clock,rfl,hve,hmem,hmr⟩,hr2⟩:=hr
  simp only [eI,List.cons.injEq] at hqq
  obtain ⟨rfl,rfl⟩:=hqq
  simp only [aM,List.nodup_cons] at hn
  simp only [aM] at hk
  have hk:cS d j (.bmp k1 k2::aS ks) (o::aM ks fvs) (x.1,x.2) s f=some r:=hk
  rw [cS] at hk
  have hnd':=List.nodup_append.1 hnd
  obtain ⟨_,_,_,hO0',hve0⟩:=hv0
  rw [hve] at hve0
  simp only [Value.map.injEq,Option.some.injEq] at hve0
  split at hk
  ·rename_i hd
   have hbo:(E.own rr∨E.w0.heap.size≤rr)∧¬E.Z rr:=hown rr (by simp)
   have h3:=h.add (d:=o) hd (.mapo k1 k2 x.1) ⟨rr,0,1⟩ (fun hc=>⟨.inr (by simp),hbo.1⟩) (Z2:=fun b'=>E.Z b'∨b'∈u2) (fun b' hb=>⟨hb.imp id (fun h=>List.mem_append.2 (.inr h)),fun hc e'=>by
     subst e'
     rcases hb with hb | hb
     ·exact hbo.2 hb
     ·exact hnd'.2.2 _ (by simp) _ hb rfl⟩) (fun A' hA'=>⟨ms,clock,hmem,by
    rcases hA with hA | hA
    ·simp only [aS,List.all_cons,Bool.and_eq_true,RK.flat] at hA
     exact hmr.flat (by simp [hA.1])
    ·exact hmr.mono (fun b hb=>hA b (hA' b hb))⟩)
   let E2:Env:=E.withZ fun b'=>E.Z b'∨b'∈u2
   have hkeep1:∀q ob,s.objs q=some ob→(s.setO o (some (.mapo k1 k2 x.1))).objs q=some ob∧upd pl o ⟨rr,0,1⟩ q=pl q:=fun q ob hq=>by
    have:q≠o:=fun e'=>by subst e';rw [hd] at hq;cases hq
    exact ⟨by rw [aD _ _ _ this];exact hq,aG _ _ _ this⟩
   have hAv3:∀b',Av E2 (s.setO o (some (.mapo k1 k2 x.1))).objs (upd pl o ⟨rr,0,1⟩) b'→Av (E.withZ fun b'=>E.Z b'∨b'∈[rr]++u2) s.objs pl b':=by
    rintro b' (hz | ⟨q,ob,hq,hc,hb⟩)
    ·exact .inl (hz.imp id (fun h=>List.mem_append.2 (.inr h)))
    ·by_cases e':q=o
     ·subst e'
      rw [aC] at hb
      exact .inl (.inr (by simp at hb;simp [hb]))
     ·rw [aD _ _ _ e'] at hq
      rw [aG _ _ _ e'] at hc hb
      exact .inr ⟨q,ob,hq,hc,hb⟩
   obtain ⟨s5,pl5,f1,f2,f3,f4,f5,f6⟩:=bR ks fvs vals (j+1) x.2 _ _ u2 hi hn.2 hk h3 hnd'.2.1 (fun b' hb=>hown b' (by simp [hb])) (hA.imp (fun h=>by simp only [aS,List.all_cons,Bool.and_eq_true] at h;exact h.2) (fun h b' hb=>h b' (hAv3 b' hb))) hr2
    (fun o' ho' t ht=>hdd o' (by simp [aM,ho']) t ht)
   refine ⟨s5,pl5,f1,f2,fun q ob hq=>?_,fun b' hb=>hAv3 b' (f4 b' hb),fun o' ho'=>?_,fun t ht=>f6 t ht⟩
   ·obtain ⟨e3,e4⟩:=hkeep1 q ob hq
    obtain ⟨e5,e6⟩:=f3 q ob e3
    exact ⟨e5,e6.trans e4⟩
   ·simp only [aM,List.mem_cons] at ho'
    rcases ho' with rfl | ho'
    ·obtain ⟨e5,e6⟩:=f3 o' _ (aB _ _ _)
     refine ⟨fun off' v' hv'=>?_,fun wn nn v' hv'=>?_,fun v' hv'=>?_⟩
     ·obtain ⟨_,_,ho1,_⟩:=hv'
      rw [hO0] at ho1
      cases ho1
     ·obtain ⟨_,_,_,_,ho1,_⟩:=hv'
      rw [hO0] at ho1
      cases ho1
     ·obtain ⟨k3,k4,es,ho1,hvv⟩:=hv'
      rw [hO0] at ho1
      cases ho1
      exact ⟨k1,k2,x.1,e5,by rw [e6,aC,hvv,←hve0]⟩
    ·exact f5 o' ho'
  ·cases hk
theorem rW (s:FState):∀(ks:List AK) (fvs:List FV),ks.any AK.isB=false→aU s ks fvs=bT ks fvs
 | [],fvs,_=>by cases fvs <;> rfl
 | k::ks,[],h=>by cases k <;> rfl
 | k::ks,f::fvs,h=>by
  simp only [List.any_cons,Bool.or_eq_false_iff] at h
  have ih:=rW s ks fvs h.2
  cases k <;> first
   | (simp [AK.isB] at h;done)
   | (cases f <;> simp [aU,bT,ih])
theorem kD:∀(ks:List AK),ks.any AK.isB=false→aS ks=[]
 | [],_=>rfl
 | k::ks,h=>by
  simp only [List.any_cons,Bool.or_eq_false_iff] at h
  have ih:=kD ks h.2
  cases k <;> first
   | (simp [AK.isB] at h;done)
   | (simp [aS,ih])
theorem iD (s:FState):∀(ks:List AK) (fvs:List FV),∀o∈aM ks fvs,o∈aU s ks fvs
 | [],fvs,o,h=>by cases fvs <;> simp [aM] at h
 | k::ks,[],o,h=>by cases k <;> simp [aM] at h
 | k::ks,f::fvs,o,h=>by
  have ih:=iD s ks fvs o
  cases k <;> cases f <;> simp only [aM,aU,List.mem_cons,List.cons_append,List.mem_append] at h ⊢ <;> first
   | exact ih h
   | exact .inr (ih h)
   | exact h.imp id ih
   | exact h.imp id (fun h=> .inr (ih h))
theorem jF (s:FState):∀(ks:List AK) (fvs:List FV),(aU s ks fvs).Nodup→(aM ks fvs).Nodup
 | [],fvs,_=>by cases fvs <;> simp [aM]
 | k::ks,[],_=>by cases k <;> simp [aM]
 | k::ks,f::fvs,h=>by
  have ih:=jF s ks fvs
  have hin:=iD s ks fvs
  cases k <;> cases f <;> simp only [aM,aU,List.cons_append,List.nodup_cons,List.nodup_append,List.mem_append,not_or] at h ⊢ <;> first
   | exact ih h
   | exact ih h.2
   | exact ⟨fun hm=>h.1 (hin _ hm),ih h.2⟩
   | exact ⟨fun hm=>h.1.2 (hin _ hm),ih h.2.2.1⟩
theorem lI:∀(l:List Nat) (s:FState) (o t:Nat),o∈l→dK o t=true→(aK l s).tmps t= .dead
 | p::l,s,o,t,h,ht=>by
  have key:∀(l:List Nat) (s:FState),s.tmps t= .dead→(aK l s).tmps t= .dead:=by
   intro l
   induction l with
   | nil=>intro s h;exact h
   | cons q l ih=>
    intro s h
    refine ih _ ?_
    show (bif dK q t then FV.dead else (s.tmps t).kill q)=_
    rw [h]
    cases dK q t <;> rfl
  rcases List.mem_cons.1 h with rfl | h
  ·exact key l _ (rT o t ht)
  ·exact lI l _ o t h ht
theorem Goes.mono {κ':FState→Option β} {E':Env}:True:=trivial
theorem rM (h:RelP E pl w a s) {fo:Operand} {f:FuncId} (hfo:ev s fo= .fn f) {S:bJ} (hS:xZ E.P f S) {args:Array Operand} {ats:Array TypeId} {ty:TypeId} {pos:String} {af:Array Edge} {g:Option (Nat×Bool)} {d:Nat}
  {G:DenR S.backs→FV→FState→Option β} (hnd:bS (aU s S.args (args.toList.map (ev s)))=true) (hdis:∀o∈aU s S.args (args.toList.map (ev s)),cV o (aV S.args (args.toList.map (ev s)))=false) (hfl:(S.rets.all RK.flat=true∧S.backs.all RK.flat=true)∨∀o∈aV S.args (args.toList.map (ev s)),fJ s o=true)
  (hk:aN s S.args (args.toList.map (ev s)) (fun xs=>S.app xs fun r=>aW d 0 S.rets r.1 (aK (aU s S.args (args.toList.map (ev s))) s) fun v s=>G r.2 v s)=some r)
  (hG:∀(w':World) (x:DenR S.backs) (fv:FV) (s2:FState) (pl2:Nat→Pl) (us:List Value) (o2:List Nat) (Ac:Nat→Prop),RelP (E.withZ fun b=>E.Z b∨b∈o2) pl2 w' a s2→VRepL w' (Av (E.withZ fun b=>E.Z b∨b∈o2) s2.objs pl2) s2.objs pl2 fv us→RessRep E.P w' Ac S.backs x (eI S.args (args.toList.map a.eval)) o2→o2.Nodup→(∀b∈o2,(E.own b∨E.w0.heap.size≤b)∧¬E.Z b)→
   (S.backs.all RK.flat=true∨∀b,Av (E.withZ fun b=>E.Z b∨b∈o2) s2.objs pl2 b→Ac b)→xH w (Av E s.objs pl) s.objs pl S.args (args.toList.map (ev s)) (args.toList.map a.eval)→s2.tmps=(aK (aU s S.args (args.toList.map (ev s))) s).tmps→G x fv s2=some r→Goes E κ r (a.put (some d) (qY us)) w'):
  Oper.wp E.P ⟨some d,.call {callee:= .value fo,args:=args,argTypes:=ats},ty,pos,af,g⟩ a w (Goes E κ r) Q:=by
 obtain ⟨dd,own,happ,hargs,hown,hond,hio⟩:=bL h (aV S.args (args.toList.map (ev s))) S.args args.toList hk (fun o ho=>ho) hnd
 obtain ⟨x,hx,hput⟩:=hS.nat _ _ _ happ
 have hdis':∀o∈aU s S.args (args.toList.map (ev s)),o∉aV S.args (args.toList.map (ev s)):=fun o ho hr=>by
  have:=hdis o ho
  rw [aZ hr] at this
  cases this
 have hfv:a.eval fo= .func (.func f) #[] #[]:=by
  rcases h.ev fo _ hfo with hv | ⟨l,_,hl⟩
  ·exact hv
  ·exact hl.elim
 have hrun:(execOp a.eval (⟨some d,.call {callee:= .value fo,args:=args,argTypes:=ats},ty,pos,af,g⟩:Oper)).run E.P w= .ok (.enter f (args.toList.map a.eval).toArray) w:=by
  have e:(args.toList.map a.eval).toArray=args.map a.eval:=by
   apply Array.ext';simp
  rw [e]
  simp [execOp,resolve,hfv,Deferred.ofValue,invoke,uQ E.P f hS.callable]
 unfold Oper.wp
 rw [hrun]
 show Calls _ _ _ _ _
 have hownAv:∀b∈own,Own s.objs pl b:=fun b hb=>by obtain ⟨o,_,obj,g1,g2,g3⟩:=hown b hb;exact ⟨o,obj,g1,g2,g3⟩
 have hownR:∀b∈own,¬vZ s.objs pl (aV S.args (args.toList.map (ev s))) b:=fun b hb ⟨o',ho',obj',g1',g2',g3'⟩=>by
  obtain ⟨o,ho,obj,g1,g2,g3⟩:=hown b hb
  exact h.sep o o' obj obj' (fun e=>hdis' o ho (e ▸ ho')) g1 g1' g2 g2' (g3.trans g3'.symm)
 refine (hS.calls w (fun b=>Av E s.objs pl b∧¬vZ s.objs pl (aV S.args (args.toList.map (ev s))) b∧b∉own) _ own dd x (h.gok fun b hb=>hownAv b hb) (fun b hb=>?_) hond (fun b hb=>⟨(h.fresh b (hownAv b hb)).1,fun hh=>hh.2.2 hb⟩) (hargs.mono (fun b hb=>?_)) hx).mono ?_
 ·rcases hb.1 with hz | ho
  ·exact h.zlt b hz
  ·exact (h.fresh b ho).1
 ·rcases hb with hb | hb
  ·exact ⟨hb.1,hb.2.1⟩
  ·exact ⟨.inr (hownAv b hb),hownR b hb⟩
 ·rintro e w' ⟨us,o1,o2,rfl,hres,hres2,hnd',hown',hfr⟩
  show Goes E κ r _ _
  have hnda:=List.nodup_append.1 hnd'
  let E2:Env:=E.withZ fun b=>E.Z b∨b∈o2
  have h1:=h.killAllZ _ (eP hnd)
  have h2:RelP (E2.withZ fun b=>E2.Z b∨b∈o1) pl w' a _:=h1.worldZ (Z2:=fun b=>E2.Z b∨b∈o1) hfr (fun b hb=>by
    obtain ⟨o,ho,obj,g1,g2,g3⟩:=hown b hb
    exact ⟨.inr ⟨o,ho,obj,g1,g2,g3⟩,(h.fresh b (hownAv b hb)).2.1⟩) (fun b hb hz=>by
    have:E.Z b∨b∈o1++o2:=by
     rcases hz with (hz | hz) | hz
     ·exact .inl hz
     ·exact .inr (List.mem_append.2 (.inr hz))
     ·exact .inr (List.mem_append.2 (.inl hz))
    rcases this with hz | hz
    ·exact .inl hz
    ·rcases (hown' b hz).1 with ho | ho
     ·obtain ⟨o,ho,obj,g1,g2,g3⟩:=hown b ho
      exact .inr ⟨o,ho,obj,g1,g2,g3⟩
     ·omega) (fun b hz=>by
    rcases hz with (hz | hz) | hz
    ·exact Nat.lt_of_lt_of_le (h.zlt b hz) hfr.size
    ·exact (hown' b (by simp [hz])).2
    ·exact (hown' b (by simp [hz])).2)
  have hz':∀b∈o1++o2,(E.own b∨E.w0.heap.size≤b)∧¬E.Z b:=fun b hb=>by
   rcases (hown' b hb).1 with ho | ho
   ·exact ⟨(h.fresh b (hownAv b ho)).2.1,(h.fresh b (hownAv b ho)).2.2⟩
   ·exact ⟨.inr (Nat.le_trans h.frame.size ho),fun hz=>by have:=h.zlt b hz;omega⟩
  have hAc:((S.rets.all RK.flat=true∧S.backs.all RK.flat=true)∨∀b,Av (E2.withZ fun b=>E2.Z b∨b∈o1) (aK (aU s S.args (args.toList.map (ev s))) s).objs pl b→(Av E s.objs pl b∧¬vZ s.objs pl (aV S.args (args.toList.map (ev s))) b∧b∉own)∨b∈o1++o2):=by
   rcases hfl with hfl | hfl
   ·exact .inl hfl
   ·right
    have hR:∀b,¬vZ s.objs pl (aV S.args (args.toList.map (ev s))) b:=fun b ⟨o,ho,obj,e1,e2,e3⟩=>by
     have:=hfl o ho
     unfold fJ at this
     rw [e1] at this
     cases obj with
     | row k e rw xs=>simp at this;subst this;cases e2.1
     | _=>simp at this
    intro b hb
    rcases hb with ((hz | hz) | hz) | ⟨o,obj,e1,e2,e3⟩
    ·exact .inl ⟨.inl hz,hR b,fun ho=>(h.fresh b (hownAv b ho)).2.2 hz⟩
    ·exact .inr (by simp [hz])
    ·exact .inr (by simp [hz])
    ·rw [bP] at e1
     split at e1
     ·cases e1
     ·rename_i hno
      refine .inl ⟨.inr ⟨o,obj,e1,e2,e3⟩,hR b,fun ho=>?_⟩
      obtain ⟨o',ho',obj',e1',e2',e3'⟩:=hown b ho
      exact h.sep o o' obj obj' (fun e=>hno (e ▸ ho')) e1 e1' e2 e2' (e3.trans e3'.symm)
  obtain ⟨fv,s2,pl2,g1,g2,g3,g4,g5,g6⟩:=jQ (E:=E2) S.rets 0 x.1 (aK (aU s S.args (args.toList.map (ev s))) s) pl o1 us hput h2 hnda.1 (fun b hb=>⟨(hz' b (by simp [hb])).1,fun hz=>by
    rcases hz with hz | hz
    ·exact (hz' b (by simp [hb])).2 hz
    ·exact hnda.2.2 b hb b hz rfl⟩) (hAc.imp (fun h=>h.1) id) hres
  exact hG w' x.2 fv s2 pl2 us o2 _ g2 g3 hres2 hnda.2.1 (fun b hb=>hz' b (by simp [hb])) (hAc.imp (fun h=>h.2) (fun h b hb=>h b (g5 b hb))) hio g6 g1
theorem yY (h:Rel E w a s) {d:Option Tmp} (hd:bH E d) {fo:Operand} {f:FuncId} (hfo:ev s fo= .fn f) {S:bJ} (hS:xZ E.P f S) {args:Array Operand} {ats:Array TypeId} {ty:TypeId} {pos:String} {af:Array Edge} {g:Option (Nat×Bool)}
  (hk:sL S d (args.toList.map (ev s)) s κ=some r):Oper.wp E.P ⟨d,.call {callee:= .value fo,args:=args,argTypes:=ats},ty,pos,af,g⟩ a w (Goes E κ r) Q:=by
 obtain ⟨pl,h⟩:=h
 unfold sL at hk
 cases hB:S.args.any AK.isB with
 | false=>
  rw [hB,cond_false] at hk
  split at hk
  ·cases hk
  rename_i d
  have hids:=rW s S.args (args.toList.map (ev s)) hB
  have hbk:S.backs=[]:=hS.bk.trans (kD _ hB)
  obtain ⟨hc,hk⟩:=xA hk
  rw [←hids] at hc hk
  simp only [Bool.and_eq_true,Bool.or_eq_true,List.all_eq_true,Bool.not_eq_true'] at hc
  obtain ⟨⟨hnd,hdis⟩,hfl⟩:=hc
  refine rM (G:=fun _ v s=>κ (s.set d (fZ v))) h hfo hS hnd hdis (hfl.imp (fun h=>⟨by simpa [List.all_eq_true] using h,by rw [hbk];rfl⟩) id) hk (fun w' x fv s2 pl2 us o2 Ac hr hv hb hn ho hA hio htm hg=>?_)
  have ho2:o2=[]:=by
   have hb':∀(rs:List RK) (x:DenR rs) (vs:List Value),rs=[]→RessRep E.P w' Ac rs x vs o2→o2=[]:=fun rs x vs e hr=>by subst e;exact hr.2
   exact hb' _ _ _ hbk hb
  subst ho2
  have hr':RelP E pl2 w' a s2:=hr.worldZ (own:=fun _=>False) (Z2:=E.Z) ⟨rfl,rfl,rfl,Nat.le_refl _,fun _ _ _=>rfl⟩ (fun b h=>h.elim) (fun b _ hz=> .inl hz) (fun b hz=>hr.zlt b (.inl hz))
  have hmv:∀b,Av E s2.objs pl2 b→Av (E.withZ fun b=>E.Z b∨b∈([]:List Nat)) s2.objs pl2 b:=fun b hb=>hb.imp .inl id
  exact Goes.put (d:=some d) hr' hd (pA (hv.move (fun k x cs hc=>hc.mono hmv) (fun o obj ho=>⟨obj,ho,obj.like_refl,rfl⟩))) hg
 | true=>
  rw [hB,cond_true] at hk
  unfold LM at hk
  split at hk
  ·cases hk
  rename_i d
  obtain ⟨hc,hk⟩:=xA hk
  simp only [Bool.and_eq_true,Bool.or_eq_true,List.all_eq_true,Bool.not_eq_true'] at hc
  obtain ⟨⟨hnd,hdis⟩,hfl⟩:=hc
  obtain ⟨args0,rets0,backs0,app0⟩:=S
  have hbk:=hS.bk
  simp only at hbk
  subst hbk
  refine rM (S:=⟨args0,rets0,aS args0,app0⟩) (G:=fun x v s1=>cS d 0 (aS args0) (aM args0 (args.toList.map (ev s))) x s1 fun s2=>κ ((AV (aM args0 (args.toList.map (ev s))) s s2).set d (fZ v))) h hfo hS hnd hdis
   (hfl.imp (fun h=>⟨by simpa [List.all_eq_true] using h.1,by simpa [List.all_eq_true] using h.2⟩) id) hk (fun w' x fv s2 pl2 us o2 Ac hr hv hb hn ho hA hio htm hg=>?_)
  obtain ⟨s5,pl5,f1,f2,f3,f4,f5,f6⟩:=bR args0 _ _ 0 x s2 pl2 o2 hio (jF s _ _ (eP hnd)) hg hr hn ho hA hb (fun o ho t ht=>by rw [htm];exact lI _ s o t (iD s _ _ o ho) ht)
  have hrev:RelP E pl5 w' a (AV (aM args0 (args.toList.map (ev s))) s s5):=by
   refine ⟨fun t=>?_,f2.objs,f2.sep,f2.fresh,f2.frame,f2.dfr,f2.N,f2.zlt⟩
   have hold:VRep w' (Av E s5.objs pl5) s5.objs pl5 (s5.tmps t) (dU w' s5.objs pl5 a t):=f2.vals t
   have hq:∀{o:Nat} {g:FV},s.tmps t=g→(∀v,VRep1 w (Av E s.objs pl) s.objs pl g v→VRep1 w' (Av E s5.objs pl5) s5.objs pl5 g v)→(∀l,¬VRepL w (Av E s.objs pl) s.objs pl g l)→VRep w' (Av E s5.objs pl5) s5.objs pl5 (bif cV o (aM args0 (args.toList.map (ev s)))&&Nat.blt t 1000000 then g else s5.tmps t) (dU w' s5.objs pl5 a t):=fun {o g} hg h1 hL=>by
    cases hb:cV o (aM args0 (args.toList.map (ev s)))&&Nat.blt t 1000000 with
    | false=>exact hold
    | true=>
     simp only [Bool.and_eq_true] at hb
     have ht6:t < 1000000:=Nat.le_of_ble_eq_true hb.2
     have hvt:=h.vals t
     rw [cP ht6,hg] at hvt
     rw [cP ht6]
     rcases hvt with hvt | ⟨l,_,hl⟩
     ·exact .inl (h1 _ hvt)
     ·exact absurd hl (hL l)
   have hq':∀{o:Nat} {g:FV},s.tmps t=g→(o∈aM args0 (args.toList.map (ev s))→∀v,VRep1 w (Av E s.objs pl) s.objs pl g v→VRep1 w' (Av E s5.objs pl5) s5.objs pl5 g v)→(∀l,¬VRepL w (Av E s.objs pl) s.objs pl g l)→VRep w' (Av E s5.objs pl5) s5.objs pl5 (bif cV o (aM args0 (args.toList.map (ev s)))&&Nat.blt t 1000000 then g else s5.tmps t) (dU w' s5.objs pl5 a t):=fun {o g} hg h1 hL=>by
    cases hb:cV o (aM args0 (args.toList.map (ev s))) with
    | false=>exact hold
    | true=>
     have:=hq (o:=o) hg (h1 (dP hb)) hL
     rw [hb] at this
     exact this
   show VRep w' (Av E s5.objs pl5) s5.objs pl5 (match s.tmps t with
    | .cp o off=>bif cV o (aM args0 (args.toList.map (ev s)))&&Nat.blt t 1000000 then .cp o off else s5.tmps t
    | .sl o w nn=>bif cV o (aM args0 (args.toList.map (ev s)))&&Nat.blt t 1000000 then .sl o w nn else s5.tmps t
    | .mp o=>bif cV o (aM args0 (args.toList.map (ev s)))&&Nat.blt t 1000000 then .mp o else s5.tmps t
    | _=>s5.tmps t) (dU w' s5.objs pl5 a t)
   split
   ·rename_i o off hx
    exact hq' hx (fun ho v hv=>(f5 o ho).1 off v hv) (fun l h=>h)
   ·rename_i o wn nn hx
    exact hq' hx (fun ho v hv=>(f5 o ho).2.1 wn nn v hv) (fun l h=>h)
   ·rename_i o hx
    exact hq' hx (fun ho v hv=>(f5 o ho).2.2 v hv) (fun l h=>h)
   ·exact hold
  exact Goes.put (d:=some d) hrev hd (pA (hv.move (fun k x cs hc=>hc.mono f4) (fun o obj ho=>⟨obj,(f3 o obj ho).1,obj.like_refl,(f3 o obj ho).2⟩))) f1
end
end Go.Proofs.YtoafkjeamgelgaaDoorHF

namespace Go.Proofs.YtoafkjeamgelgaaDoorHF
open Go
set_option linter.unusedVariables false
set_option linter.unusedSimpArgs false
structure CtxOk (P:Program) (Γ:Ctx):Prop where
 tab:TabOk P Γ
 calls:∀f S,Γ.calls f=some S→xZ P f S
section
variable {E:Env} {pl:Nat→Pl} {Γ:Ctx} {w w':World} {a:Act} {s:FState} {β:Type} {r:β} {κ:FState→Option β} {Q:Exit→Act→World→Prop}
theorem aL {c:Bool} {x:Option β} (h:(bif c then x else none)=some r):c=true∧x=some r:=by
 cases c
 ·cases h
 ·exact ⟨rfl,h⟩
theorem VRepL.tail {A:Nat→Prop} {O:cE} {x y:FV} {l:List Value} (h:VRepL w A O pl (.tcons x y) l):∃v l',l=v::l'∧VRep1 w A O pl x v∧VRepL w A O pl y l':=h
theorem fX (h:Rel E w a s) {d:Option Tmp} (hd:bH E d) {x:Operand} {j:Nat} {ty:TypeId} {pos:String} {af:Array Edge} {g:Option (Nat×Bool)} {l:List Value} {v:Value} {fv:FV}
  (hx:a.eval x= .tuple l.toArray) (hv:l[j]? =some v) (hrep:∀pl,RelP E pl w a s→True) {pl:Nat→Pl} (h':RelP E pl w a s) (hr:VRep1 w (Av E s.objs pl) s.objs pl fv v) (hk:κ (s.put d fv)=some r):
  Oper.wp E.P ⟨d,.extract x j,ty,pos,af,g⟩ a w (Goes E κ r) Q:=by
 refine Oper.wp_of_value (v:=v) (w':=w) ?_ (Goes.put h' hd (.inl hr) hk)
 simp [execOp,hx,Instr.extract,hv]
theorem tW {A:Nat→Prop} {O:cE} {x y:FV} {v:Value} (h:VRep w A O pl (.tcons x y) v):∃l,v= .tuple l.toArray∧VRepL w A O pl (.tcons x y) l:=by
 rcases h with h | h
 ·exact h.elim
 ·exact h
set_option maxHeartbeats 1000000 in
theorem sU (hΓ:CtxOk E.P Γ) (h:Rel E w a s) (o:Oper) (hd:bH E o.dst) (hk:opK Γ o s κ=some r):o.wp E.P a w (Goes E κ r) Q:=by
 obtain ⟨d,op,ty,pos,af,g⟩:=o
 simp only at hd
 cases op <;> simp only [opK] at hk
 case move x=>exact pL h hd (.inl rfl) hk
 case assign x=>exact pL h hd (.inr rfl) hk
 case pick c x y=>exact zR h hd hk
 case binOp op t x y u=>exact wE hΓ.tab h hd hk
 case unOp op t x=>exact zL h hd hk
 case convert src dst x=>exact xK hΓ.tab h hd hk
 case alloc t=>
  obtain ⟨k,ht,hk⟩:=aA hk
  cases hc:xC Γ d with
  | true=>
   rw [hc,cond_true] at hk
   exact vL hΓ.tab h hd ht hk
  | false=>
   rw [hc,cond_false] at hk
   obtain ⟨d',rfl,hn,hk⟩:=aR hk
   exact yC hΓ.tab h (hd _ rfl) ht hn hk
 case box t x=>
  obtain ⟨k,ht,hk⟩:=aA hk
  exact FY hΓ.tab h hd ht hk
 case build t ps=>
  cases hc:xC Γ d&&Nat.beq ps.size 0 with
  | true=>
   rw [hc,cond_true] at hk
   simp only [Bool.and_eq_true] at hc
   have hps:ps=#[]:=Array.size_eq_zero_iff.1 (Nat.eq_of_beq_eq_true hc.2)
   subst hps
   split at hk
   ·rename_i k1 k2 l ht hl
    exact tY hΓ.tab h hd ht (by rw [hl];rfl) hk
   ·cases hk
  | false=>
   rw [hc,cond_false] at hk
   split at hk
   ·rename_i k1 k2 l ht hl
    exact xR hΓ.tab h hd ht (by rw [hl];rfl) hk
   ·cases hk
 case buildSlice t n ps=>
  obtain ⟨e,he,hk1⟩:=aA hk
  obtain ⟨k,ht,hk2⟩:=aA hk1
  obtain ⟨hc,hk3⟩:=aL hk2
  clear hk hk1 hk2
  simp only [Bool.and_eq_true] at hc
  have hn:=Nat.eq_of_beq_eq_true hc.1
  subst hn
  cases d with
  | none=>
   obtain ⟨pl,h'⟩:=h
   obtain ⟨xs,cells,h1,h2,h3,h4⟩:=gM h' (frz s (ps.toList.map fun p=>ev s p.2)) ps.toList 0 [] ((Array.range (ps.size * k.size)).map (k.zval.cells[· % k.zval.cells.size]!)) [] _ (fun q hq o w nn hx hr=>gL (wn:=w) (nn:=nn) hr (List.mem_map.2 ⟨q,hq,hx⟩)) hk3 rfl rfl (by simp) (fun j hj=>by simp at hj)
   obtain ⟨d',hd',_⟩:=aR h4
   cases hd'
  | some d=>exact lX hΓ.tab h (hd _ rfl) he ht (Nat.le_of_ble_eq_true hc.2) hk3
 case load t x=>
  split at hk
  ·rename_i p i off hx
   split at hk
   ·rename_i k e rw_ xs ho
    obtain ⟨k',hk',hk⟩:=aA hk
    obtain ⟨y,hy,hk⟩:=aA hk
    exact AZ hΓ.tab h hd hx ho hk' hy hk
   ·cases hk
  ·rename_i p off hx
   split at hk
   ·rename_i k e ho
    obtain ⟨k',hk',hk⟩:=aA hk
    obtain ⟨hc,hk⟩:=aL hk
    simp only [Bool.and_eq_true] at hc
    exact xM hΓ.tab h hd hx (Nat.le_of_ble_eq_true hc.1) ho hk' (Nat.le_of_ble_eq_true hc.2) hk
   ·cases hk
  ·cases hk
 case store t x y=>
  split at hk
  ·rename_i p i off hx
   split at hk
   ·rename_i k e xs ho
    obtain ⟨k',hk',hk⟩:=aA hk
    exact xO hΓ.tab h rfl hx ho hk' hk
   ·cases hk
  ·rename_i p off hx
   split at hk
   ·rename_i k e ho
    obtain ⟨k',hk',hk⟩:=aA hk
    obtain ⟨hc,hk⟩:=aL hk
    simp only [Bool.and_eq_true] at hc
    exact tP hΓ.tab h rfl hx (Nat.le_of_ble_eq_true hc.1) ho hk' (Nat.le_of_ble_eq_true hc.2) hk
   ·cases hk
  ·cases hk
 case nilCheck x=>
  split at hk
  ·rename_i p i off hx
   exact qO h hd hx hk
  ·rename_i p off hx
   exact nN h hd hx hk
  ·cases hk
 case makeSlice t x y=>exact BN hΓ.tab h hd hk
 case range t x=>exact wQ hΓ.tab h hd hk
 case makeMap t rs=>
  cases rs with
  | none=>exact rA hΓ.tab h hd hk
  | some x=>cases hk
 case lookup t x i ok=>exact tD hΓ.tab h hd hk
 case mapUpdate t x i y=>
  split at hk
  ·exact nQ hΓ.tab h hk
  ·cases hk
 case next x b=>
  cases b with
  | true=>exact BG h hd hk
  | false=>cases hk
 case slice t x lo hi mx=>
  cases mx with
  | none=>exact wY hΓ.tab h hd hk
  | some m=>cases hk
 case fieldAddr t x j=>
  split at hk
  ·rename_i p i off hx
   obtain ⟨⟨q,ft⟩,hf,hk⟩:=aA hk
   obtain ⟨k',hk',hk⟩:=aA hk
   exact nS hΓ.tab h hd hx hf hk' hk
  ·rename_i p off hx
   split at hk
   ·rename_i k e ho
    obtain ⟨⟨q,ft⟩,hf,hk⟩:=aA hk
    obtain ⟨k',hk',hk⟩:=aA hk
    obtain ⟨hc,hk⟩:=aL hk
    exact mJ hΓ.tab h hd hx ho hf hk' (Nat.le_of_ble_eq_true hc) hk
   ·cases hk
  ·cases hk
 case field t x j=>
  split at hk
  ·rename_i k1 k2 y hx
   obtain ⟨⟨q,ft⟩,hf,hk⟩:=aA hk
   obtain ⟨k',hk',hk⟩:=aA hk
   obtain ⟨z,hz,hk⟩:=aA hk
   exact xI hΓ.tab h hd hx hf hk' hz hk
  ·cases hk
 case indexAddr t x ix=>
  obtain ⟨o,wn,nn,k,e,rw_,xs,hx,ho,hk⟩:=aX hk
  obtain ⟨ht,hk⟩:=aI hk
  obtain ⟨ik,i,hi,hk⟩:=bM hk
  obtain ⟨h0,h1,hk⟩:=jC hk
  exact nM hΓ.tab h hd hx ho ht hi h0 h1 hk
 case index t x ix=>
  obtain ⟨z,hx,hk⟩:=iY hk
  obtain ⟨ht,hk⟩:=aI hk
  obtain ⟨ik,i,hi,hk⟩:=bM hk
  obtain ⟨h0,h1,hk⟩:=jC hk
  exact wT hΓ.tab h hd hx ht hi h0 h1 hk
 case extract x j=>
  obtain ⟨pl,h'⟩:=h
  split at hk
  ·rename_i y z hx
   obtain ⟨l,hl,hr⟩:=tW (h'.ev x _ hx)
   obtain ⟨v,l',rfl,h1,h2⟩:=hr.tail
   exact fX ⟨pl,h'⟩ hd hl rfl (fun _ _=>trivial) h' h1 hk
  ·rename_i y0 y z hx
   obtain ⟨l,hl,hr⟩:=tW (h'.ev x _ hx)
   obtain ⟨v,l',rfl,h1,h2⟩:=hr.tail
   obtain ⟨v',l'',rfl,h3,h4⟩:=h2.tail
   exact fX ⟨pl,h'⟩ hd hl rfl (fun _ _=>trivial) h' h3 hk
  ·rename_i y0 y1 y z hx
   obtain ⟨l,hl,hr⟩:=tW (h'.ev x _ hx)
   obtain ⟨v,l',rfl,h1,h2⟩:=hr.tail
   obtain ⟨v',l'',rfl,h3,h4⟩:=h2.tail
   obtain ⟨v'',l3,rfl,h5,h6⟩:=h4.tail
   exact fX ⟨pl,h'⟩ hd hl rfl (fun _ _=>trivial) h' h5 hk
  ·cases hk
 case call c=>
  obtain ⟨callee,args,ats⟩:=c
  obtain ⟨args⟩:=args
  obtain ⟨ats⟩:=ats
  simp only at hk
  split at hk
  ·split at hk
   ·rename_i x t
    split at hk
    ·rename_i z hx
     obtain ⟨ht,hk⟩:=aI hk
     exact tS hΓ.tab h hd hx ht hk
    ·rename_i hx
     obtain ⟨e,he,hk⟩:=aA hk
     obtain ⟨pl,h'⟩:=h
     have hve:a.eval x= .slice none 0 0:=by
      rcases h'.ev x _ hx with hv | ⟨l,_,hl⟩
      ·exact hv
      ·exact hl.elim
     exact nD hΓ.tab ⟨pl,h'⟩ hd he hve hk
    ·obtain ⟨o,wn,nn,k,e,rw_,xs,hx,ho,hk⟩:=aX hk
     obtain ⟨e',he,hk⟩:=aA hk
     obtain ⟨pl,h'⟩:=h
     obtain ⟨k1,e1,rw1,xs1,ho1,ad,cap,off,len,hw,hxe,hl,_⟩:=(h'.ev x _ hx).sl_inv
     rw [ho] at ho1
     cases ho1
     exact nD hΓ.tab ⟨pl,h'⟩ hd he hxe (by rw [←hw.lenInt];exact hk)
   ·cases hk
  ·split at hk
   ·rename_i x y t u
    exact vU hΓ.tab h hd hk
   ·cases hk
  ·split at hk
   ·exact yW hΓ.tab h hd hk
   ·cases hk
  ·split at hk
   ·exact qM h hd hk
   ·cases hk
  ·split at hk
   ·exact qM h hd hk
   ·cases hk
  ·rename_i fo
   split at hk
   ·rename_i f hf
    obtain ⟨S,hS,hk⟩:=aA hk
    have hm:args.map (ev (downFor S (args.map (ev s)) s))=args.map (ev s):=List.map_congr_left fun x _=>pZ _ _ _ x
    exact yY (s:=downFor S (args.map (ev s)) s) h.downFor hd ((pZ _ _ _ _).trans hf) (hΓ.calls f S hS) (by rw [←hm] at hk;simpa [hm] using hk)
   ·cases hk
  ·cases hk
 all_goals cases hk
end
end Go.Proofs.YtoafkjeamgelgaaDoorHF

namespace Go.Proofs.YtoafkjeamgelgaaDoorHF
open Go
set_option linter.unusedVariables false
set_option linter.unusedSimpArgs false
theorem cT (ol:List (Nat×FObj)) (t:Nat) (obj:FObj) (o:Nat):aF (ol++[(t,obj)]) o=match aF ol o with | some x=>some x | none=>if o=t then some obj else none:=by
 induction ol with
 | nil=>
  simp only [List.nil_append,aF]
  by_cases h:o=t
  ·subst h;simp [Nat.beq_refl]
  ·simp [cF h,h]
 | cons p ol ih=>
  obtain ⟨q,ob⟩:=p
  simp only [List.cons_append,aF]
  by_cases h:o=q
  ·subst h;simp [Nat.beq_refl]
  ·simp [cF h,ih]
theorem mE:∀(tl:List (Nat×FV)) (t:Nat),aQ tl t= .dead∨(t,aQ tl t)∈tl
 | [],t=> .inl rfl
 | (q,v)::tl,t=>by
  simp only [aQ]
  by_cases h:t=q
  ·subst h;right;simp [Nat.beq_refl]
  ·rw [cF h]
   rcases mE tl t with h1 | h1
   ·exact .inl h1
   ·exact .inr (List.mem_cons_of_mem _ h1)
theorem cO {α:Type} (a:Nat) (x:α) (l:List (Nat×α)) (n:Nat):lk ((a,x)::l) n=if a=n then some x else lk l n:=by
 simp only [lk]
 by_cases h:a=n
 ·subst h;simp [Nat.beq_refl]
 ·simp [cF h,h]
section
variable {w:World} {A A':Nat→Prop} {O O':cE} {pl pl':Nat→Pl}
theorem VRep1.plain {f:FV} {v:Value} (h:VRep1 w A O pl f v):VRep1 w A O' pl' f.plain v:=by
 cases f <;> simp only [VRep1] at h <;> simp only [FV.plain,VRep1] <;> exact h
theorem VRepL.plain:∀{f:FV} {l:List Value},VRepL w A O pl f l→VRepL w A O' pl' f.plain l
 | .tnil,_,h=>h
 | .tcons a b,_,h=>by
  obtain ⟨x,l',rfl,h1,h2⟩:=h
  exact ⟨x,l',rfl,h1.plain,h2.plain⟩
 | .dead,_,h | .dat _ _,_,h | .nsl,_,h | .sl _ _ _,_,h | .ptr _ _ _,_,h | .nilp,_,h | .nilif,_,h | .mp _,_,h | .it _,_,h | .fn _,_,h | .glob _,_,h=>h.elim
theorem VRep.plain {f:FV} {v:Value} (h:VRep w A O pl f v):VRep w A O' pl' f.plain v:=
 h.imp (·.plain) fun ⟨l,hv,hl⟩=>⟨l,hv,hl.plain⟩
end
def XQ (P:Program) (O:cE) (pl:Nat→Pl) (g:Nat→Option Nat) (p:Pl) (t:Nat) (obj:FObj):Prop:=
 (∃k e rw_,obj= .row k e rw_ []∧p=⟨0,0,0⟩∧TyOk P e k)∨
 (∃o k e rw0 xs wn off len rw_,O o=some (.row k e rw0 xs)∧winOk xs wn off len∧obj= .row k e rw_ (win xs wn)∧(rw0=rw_∨rw_=false)∧p=⟨(pl o).b,(pl o).off+off * k.size,(pl o).cap - off⟩∧(rw0=true→g t=some o))∨
 (∃o z pos,O o=some (.siter z pos)∧obj= .siter z pos∧p=pl o∧g t=some o)∨
 (∃k e,O t=some (.cell k e)∧obj= .cell k e∧p=pl t∧g t=some t)∨
 ∃o a b es,O o=some (.mapo a b es)∧obj= .mapo a b es∧p=pl o∧g t=some o
section
variable {E:Env} {pl:Nat→Pl} {Γ:Ctx} {w w':World} {a:Act} {s:FState} {β:Type} {r:β} {κ:FState→Option β}
structure NInv (E:Env) (pl:Nat→Pl) (w:World) (a:Act) (s:FState) (rn:List (Nat×Option Nat)) (tl:List (Nat×FV)) (ol:List (Nat×FObj)) (pl':Nat→Pl) (g:Nat→Option Nat):Prop where
 vals:∀t fv,(t,fv)∈tl→VRep w (Av E s.objs pl) (aF ol) pl' fv (dU w s.objs pl a t)
 pse:∀t fv,(t,fv)∈tl→t < 1000000∨∃k e,aF ol (t % 1000000)=some (.cell k e)
 desc:∀t obj,aF ol t=some obj→XQ E.P s.objs pl g (pl' t) t obj
 gs:∀t o,g t=some o→(lk rn o).isSome=true∧(aF ol t).isSome=true
 rs:∀o n,lk rn o=some (some n)→∃k e rw0 rw_ xs,s.objs o=some (.row k e rw0 xs)∧aF ol n=some (.row k e rw_ xs)∧(rw0=rw_∨rw_=false)∧pl' n=pl o
 inj:∀t t' o,g t=some o→g t'=some o→t=t'
theorem NInv.done (h:RelP E pl w a s) {rn:List (Nat×Option Nat)} {tl:List (Nat×FV)} {ol:List (Nat×FObj)} {pl':Nat→Pl} {g:Nat→Option Nat} (hi:NInv E pl w a s rn tl ol pl' g):RelP E pl' w a ⟨aQ tl,aF ol⟩:=by
 have hocc:∀t obj,aF ol t=some obj→occ (pl' t) obj→∃o obj0,g t=some o∧s.objs o=some obj0∧occ (pl o) obj0∧(pl' t).b=(pl o).b:=fun t obj ho hc=>by
  rcases hi.desc t obj ho with ⟨k,e,rw_,rfl,hp,_⟩ | ⟨o,k,e,rw0,xs,wn,off,len,rw_,h1,h2,rfl,h4,hp,h6⟩ | ⟨o,z,pos,h1,rfl,hp,h6⟩ | ⟨k,e,h1,rfl,hp,h6⟩ | ⟨o,a,b,es,h1,rfl,hp,h6⟩
  ·rw [hp] at hc;exact absurd hc.2 (by simp)
  ·rw [hp] at hc
   obtain ⟨rfl,hcap⟩:=hc
   have hr:rw0=true:=by rcases h4 with h4 | h4 <;> simp_all
   subst hr
   exact ⟨o,_,h6 rfl,h1,⟨rfl,by simp only at hcap;omega⟩,by rw [hp]⟩
  ·exact ⟨o,_,h6,h1,trivial,by rw [hp]⟩
  ·exact ⟨t,_,h6,h1,trivial,by rw [hp]⟩
  ·exact ⟨o,_,h6,h1,trivial,by rw [hp]⟩
 have hOwn:∀b,Own (aF ol) pl' b→Own s.objs pl b:=fun b ⟨t,obj,ho,hc,hb⟩=>by
  obtain ⟨o,obj0,_,g2,g3,g4⟩:=hocc t obj ho hc
  exact ⟨o,obj0,g2,g3,g4.symm.trans hb⟩
 have hAv:∀b,Av E (aF ol) pl' b→Av E s.objs pl b:=fun b hb=>hb.imp id (hOwn b)
 refine ⟨fun t=>?_,fun t obj ho=>?_,fun t t' obj obj' hne ho ho' hc hc'=>?_,fun b hb=>h.fresh b (hOwn b hb),h.frame,h.dfr,h.N,h.zlt⟩
 ·rcases mE tl t with ht | ht
  ·simp only [ht];exact VRep.dead _
  ·have hl:dU w (aF ol) pl' a t=dU w s.objs pl a t:=by
    rcases hi.pse t _ ht with h6 | ⟨k,e,hk⟩
    ·rw [cP h6,cP h6]
    ·have hd:s.objs (t % 1000000)=some (.cell k e)∧pl' (t % 1000000)=pl (t % 1000000):=by
      rcases hi.desc _ _ hk with ⟨_,_,_,hq,_⟩ | ⟨_,_,_,_,_,_,_,_,_,_,_,hq,_⟩ | ⟨_,_,_,_,hq,_⟩ | ⟨k',e',h1,hq,hp,_⟩ | ⟨_,_,_,_,_,hq,_⟩
      ·cases hq
      ·cases hq
      ·cases hq
      ·cases hq;exact ⟨h1,hp⟩
      ·cases hq
     exact cU (fun k' e' hk'=>⟨by rw [hd.1] at hk';cases hk';exact hk,hd.2,rfl⟩) (fun k' e' _=>⟨k,e,hd.1⟩)
   show VRep w _ _ _ (aQ tl t) (dU w (aF ol) pl' a t)
   rw [hl]
   exact (hi.vals t _ ht).move (fun k x cs hc=>hc.mono hAv) (fun o obj ho=>⟨obj,ho,obj.like_refl,rfl⟩)
 ·rcases hi.desc t obj ho with ⟨k,e,rw_,rfl,hp,hT⟩ | ⟨o,k,e,rw0,xs,wn,off,len,rw_,h1,h2,rfl,h4,hp,h6⟩ | ⟨o,z,pos,h1,rfl,hp,h6⟩ | ⟨k,e,h1,rfl,hp,h6⟩ | ⟨o,k1,k2,es,h1,rfl,hp,h6⟩
  ·rw [hp]
   exact ⟨hT,Nat.le_refl _,fun _ h=>absurd h (by simp),fun _ h=>absurd rfl h,RowAt.nil _ _ _ _ _⟩
  ·obtain ⟨hT,hl,hm,hro,hrow⟩:=h.objs o _ h1
   obtain ⟨hrw,hwl⟩:=hrow.winC h2
   have hbd:=h2.bd.1
   rw [hp]
   refine ⟨hT,by rw [hwl];simp only;omega,fun hr hc=>?_,fun hr hne hA=>?_,hrw.mono hAv⟩
   ·have hr0:rw0=true:=by rcases h4 with h4 | h4 <;> simp_all
    simp only at hc
    obtain ⟨cs,tt,g1,g2⟩:=hm hr0 (by omega)
    refine ⟨cs,tt,g1,?_⟩
    have:off * k.size+((pl o).cap - off) * k.size=(pl o).cap * k.size:=by rw [←Nat.add_mul];congr 1;omega
    simp only
    omega
   ·have hxs:xs≠[]:=fun e=>by subst e;apply hne;cases wn <;> simp [win,CN]
    cases rw0 with
    | false=>exact hro rfl hxs (hAv _ hA)
    | true=>
     have hoc:occ (pl o) (.row k e true xs):=⟨rfl,by have:=cD hxs;omega⟩
     rcases hA with hz | ⟨t',obj',ho',hc',hb'⟩
     ·exact (h.fresh _ ⟨o,_,h1,hoc,rfl⟩).2.2 hz
     ·obtain ⟨o',obj0,g1,g2,g3,g4⟩:=hocc t' obj' ho' hc'
      have hne':o≠o':=fun e=>by
       subst e
       have:=hi.inj t t' o (h6 rfl) g1
       subst this
       rw [ho] at ho'
       cases ho'
       rw [hr] at hc'
       cases hc'.1
      exact h.sep o o' _ obj0 hne' h1 g2 hoc g3 (hb'.symm.trans g4)
  ·rw [hp];exact h.objs o _ h1
  ·rw [hp];exact h.objs t _ h1
  ·rw [hp];exact (h.objs o _ h1).stay (fun b hb hA=>⟨fun hA'=>hA (hAv b hA'),rfl⟩) (fun _=>rfl)
 ·obtain ⟨o,obj0,g1,g2,g3,g4⟩:=hocc t obj ho hc
  obtain ⟨o',obj0',g1',g2',g3',g4'⟩:=hocc t' obj' ho' hc'
  rw [g4,g4']
  exact h.sep o o' obj0 obj0' (fun e=>hne (hi.inj t t' o g1 (e ▸ g1'))) g2 g2' g3 g3'
theorem NInv.addObj {rn rn':List (Nat×Option Nat)} {tl:List (Nat×FV)} {ol:List (Nat×FObj)} {pl':Nat→Pl} {g:Nat→Option Nat} (hi:NInv E pl w a s rn tl ol pl' g) {t:Nat} (ht:aF ol t=none) (obj:FObj) (p:Pl) (og:Option Nat) {fv:FV}
  (hfv:VRep w (Av E s.objs pl) (aF (ol++[(t,obj)])) (upd pl' t p) fv (dU w s.objs pl a t)) (hps:t < 1000000∨∃k e,aF ol (t % 1000000)=some (.cell k e)) (hD:XQ E.P s.objs pl (fun x=>if x=t then og else g x) p t obj)
  (hog:∀o,og=some o→lk rn o=none∧(lk rn' o).isSome=true) (hrn:∀o,(lk rn o).isSome=true→lk rn' o=lk rn o)
  (hrs:∀o n,lk rn' o=some (some n)→lk rn o=some (some n)∨(n=t∧∃k e rw0 rw_ xs,s.objs o=some (.row k e rw0 xs)∧obj= .row k e rw_ xs∧(rw0=rw_∨rw_=false)∧p=pl o)):
  NInv E pl w a s rn' (tl++[(t,fv)]) (ol++[(t,obj)]) (upd pl' t p) (fun x=>if x=t then og else g x):=by
 have hO:∀o ob,aF ol o=some ob→aF (ol++[(t,obj)]) o=some ob∧o≠t:=fun o ob ho=>⟨by rw [cT,ho],fun e=>by subst e;rw [ht] at ho;cases ho⟩
 refine ⟨fun t' fv' hm=>?_,fun t' fv' hm=>?_,fun t' ob ho=>?_,fun t' o hg=>?_,fun o n hl=>?_,fun t1 t2 o h1 h2=>?_⟩
 ·rcases List.mem_append.1 hm with hm | hm
  ·exact (hi.vals t' fv' hm).move (fun _ _ _ h=>h) (fun o ob ho=>⟨ob,(hO o ob ho).1,ob.like_refl,aG _ _ _ (hO o ob ho).2⟩)
  ·simp at hm
   obtain ⟨rfl,rfl⟩:=hm
   exact hfv
 ·rcases List.mem_append.1 hm with hm | hm
  ·exact (hi.pse t' fv' hm).imp id fun ⟨k,e,hk⟩=>⟨k,e,(hO _ _ hk).1⟩
  ·simp at hm
   obtain ⟨rfl,rfl⟩:=hm
   exact hps.imp id fun ⟨k,e,hk⟩=>⟨k,e,(hO _ _ hk).1⟩
 ·rw [cT] at ho
  cases h0:aF ol t' with
  | some x=>
   rw [h0] at ho
   cases ho
   have hne:=(hO t' _ h0).2
   rw [aG _ _ _ hne]
   rcases hi.desc t' _ h0 with h1 | ⟨o,k,e,rw0,xs,wn,off,len,rw_,h1,h2,h3,h4,hp,h6⟩ | ⟨o,z,pos,h1,h2,hp,h6⟩ | ⟨k,e,h1,h2,hp,h6⟩ | ⟨o,k1,k2,es,h1,h2,hp,h6⟩
   ·exact .inl h1
   ·exact .inr (.inl ⟨o,k,e,rw0,xs,wn,off,len,rw_,h1,h2,h3,h4,hp,fun hr=>by simp only [if_neg hne];exact h6 hr⟩)
   ·exact .inr (.inr (.inl ⟨o,z,pos,h1,h2,hp,by simp only [if_neg hne];exact h6⟩))
   ·exact .inr (.inr (.inr (.inl ⟨k,e,h1,h2,hp,by simp only [if_neg hne];exact h6⟩)))
   ·exact .inr (.inr (.inr (.inr ⟨o,k1,k2,es,h1,h2,hp,by simp only [if_neg hne];exact h6⟩)))
  | none=>
   rw [h0] at ho
   (try simp only at ho)
   split at ho
   ·rename_i e
    subst e
    cases ho
    rw [aC]
    exact hD
   ·cases ho
 ·(try simp only at hg)
  split at hg
  ·rename_i e
   subst e
   refine ⟨(hog o hg).2,by rw [cT,ht];simp⟩
  ·obtain ⟨h1,h2⟩:=hi.gs t' o hg
   refine ⟨by rw [hrn o h1];exact h1,?_⟩
   obtain ⟨x,hx⟩:=Option.isSome_iff_exists.1 h2
   rw [(hO t' x hx).1];rfl
 ·rcases hrs o n hl with h1 | ⟨rfl,k,e,rw0,rw_,xs,h1,h2,h3,h4⟩
  ·obtain ⟨k,e,rw0,rw_,xs,g1,g2,g3,g4⟩:=hi.rs o n h1
   exact ⟨k,e,rw0,rw_,xs,g1,(hO n _ g2).1,g3,by rw [aG _ _ _ (hO n _ g2).2];exact g4⟩
  ·exact ⟨k,e,rw0,rw_,xs,h1,by rw [cT,ht,h2];simp,h3,by rw [aC];exact h4⟩
 ·(try simp only at h1 h2)
  split at h1 <;> split at h2
  ·simp_all
  ·have:=(hi.gs t2 o h2).1
   rw [(hog o h1).1] at this
   cases this
  ·have:=(hi.gs t1 o h1).1
   rw [(hog o h2).1] at this
   cases this
  ·exact hi.inj t1 t2 o h1 h2
theorem NInv.addTmp {rn:List (Nat×Option Nat)} {tl:List (Nat×FV)} {ol:List (Nat×FObj)} {pl':Nat→Pl} {g:Nat→Option Nat} (hi:NInv E pl w a s rn tl ol pl' g) {t:Nat} {fv:FV} (hfv:VRep w (Av E s.objs pl) (aF ol) pl' fv (dU w s.objs pl a t)) (hps:t < 1000000∨∃k e,aF ol (t % 1000000)=some (.cell k e)):
  NInv E pl w a s rn (tl++[(t,fv)]) ol pl' g:=
 ⟨fun t' fv' hm=>by
  rcases List.mem_append.1 hm with hm | hm
  ·exact hi.vals t' fv' hm
  ·simp at hm;obtain ⟨rfl,rfl⟩:=hm;exact hfv,fun t' fv' hm=>by
  rcases List.mem_append.1 hm with hm | hm
  ·exact hi.pse t' fv' hm
  ·simp at hm;obtain ⟨rfl,rfl⟩:=hm;exact hps,hi.desc,hi.gs,hi.rs,hi.inj⟩
theorem oM {ol:List (Nat×FObj)} {t:Nat} (h:okT ol t=true):t < 1000000∨∃k e,aF ol (t % 1000000)=some (.cell k e):=by
 unfold okT at h
 rw [Bool.or_eq_true] at h
 rcases h with h | h
 ·exact .inl (Nat.le_of_ble_eq_true h)
 ·right
  split at h
  ·rename_i k e hk;exact ⟨k,e,hk⟩
  ·cases h
theorem bQ (hT:TabOk E.P Γ) (h:RelP E pl w a s):∀(l:List NE) (rn:List (Nat×Option Nat)) (tl:List (Nat×FV)) (ol:List (Nat×FObj)) (pl':Nat→Pl) (g:Nat→Option Nat),NInv E pl w a s rn tl ol pl' g→cY Γ s l rn tl ol κ=some r→Goes E κ r a w
 | [],rn,tl,ol,pl',g,hi,hk=>⟨_,⟨pl',hi.done h⟩,hk⟩
 | .keep t::l,rn,tl,ol,pl',g,hi,hk=>by
  unfold cY at hk
  obtain ⟨hok,hk⟩:=aL hk
  exact bQ hT h l _ _ _ pl' g (hi.addTmp (h.vals t).plain (oM hok)) hk
 | .row t k e rw_::l,rn,tl,ol,pl',g,hi,hk=>by
  unfold cY at hk
  obtain ⟨hok,hk⟩:=aL hk
  have hv:=h.vals t
  split at hk
  ·rename_i hx
   rw [hx] at hv
   obtain ⟨hke,hk⟩:=aI hk
   split at hk
   ·rename_i ht
    have hve:dU w s.objs pl a t= .slice none 0 0:=by
     rcases hv with hv | ⟨l,_,hl⟩
     ·exact hv
     ·exact hl.elim
    refine bQ hT h l _ _ _ _ _ (hi.addObj ht (.row k e rw_ []) ⟨0,0,0⟩ none ?_ (oM hok) (.inl ⟨k,e,rw_,rfl,rfl,hT.kt e k hke⟩) (fun o ho=>by cases ho) (fun o _=>rfl) (fun o n hl=> .inl hl)) hk
    rw [hve]
    exact VRep.mkSl (by rw [cT,ht,if_pos rfl]) (off:=0) (len:=0) ⟨rfl,rfl⟩ rfl (Nat.le_refl _) (fun _=>by rw [aC]) (fun hh=>by rcases hh with hh | ⟨_,hh⟩ <;> omega) (fun hn=>by cases hn)
   ·cases hk
  ·rename_i o wn nn hx
   rw [hx] at hv
   obtain ⟨k1,e1,rw1,xs1,ho1,ad,cap,off,len,hw,hxe,hl,hc1,hc2,_⟩:=hv.sl_inv
   split at hk
   ·rename_i n hrn
    obtain ⟨k2,e2,rw0,rw2,xs2,g1,g2,g3,g4⟩:=hi.rs o n hrn
    rw [ho1] at g1
    cases g1
    refine bQ hT h l _ _ _ _ _ (hi.addTmp ?_ (oM hok)) hk
    rw [hxe]
    refine VRep.mkSl g2 hw rfl hl (fun hr=>by rw [g4];exact hc1 (by rcases g3 with g3 | g3 <;> simp_all)) (fun hh=>by rw [g4];exact hc2 (hh.imp id (fun ⟨h1,h2⟩=>⟨by rcases g3 with g3 | g3 <;> simp_all,h2⟩))) (fun hn=>by cases hn)
   ·cases hk
   ·rename_i hrn
    split at hk
    ·rename_i k' e' rw' xs ho ht
     rw [ho1] at ho
     cases ho
     obtain ⟨⟨rfl,hrw⟩,hk⟩:=aI hk
     obtain ⟨rfl,hk⟩:=aP hk
     have hwl:(win xs1 wn).length=len:=by
      cases wn with
      | none=>obtain ⟨_,rfl⟩:=hw;rfl
      | some fl=>obtain ⟨f,l⟩:=fl;obtain ⟨g1,g2,g3,_,rfl⟩:=hw;simp only [win];rw [gX _ _ _ (by omega) (by omega)];omega
     have hin:=hi.addObj (rn':=bif rw1 then (o,nV t wn)::rn else rn) ht (.row k1 e1 rw_ (win xs1 wn)) ⟨(pl o).b,(pl o).off+off * k1.size,(pl o).cap - off⟩ (if rw1=true then some o else none) (fv:= .sl t none false)
      (by
       rw [hxe]
       exact VRep.mkSl (by rw [cT,ht,if_pos rfl]) (off:=0) (len:=len) ⟨rfl,hwl.symm⟩ rfl hl (fun hr=>by
        rw [aC]
        have:=hc1 (by rcases hrw with g3 | g3 <;> simp_all)
        simp only
        omega) (fun hh=>by rw [aC,hc2 (hh.imp id (fun ⟨h1,h2⟩=>⟨by rcases hrw with g3 | g3 <;> simp_all,h2⟩))];simp) (fun hn=>by cases hn))
      (oM hok)
      (.inr (.inl ⟨o,k1,e1,rw1,xs1,wn,off,len,rw_,ho1,hw,rfl,hrw,rfl,fun hr=>by simp [hr]⟩))
      (fun o' ho'=>by
       split at ho'
       ·rename_i hr
        cases ho'
        exact ⟨hrn,by simp [hr,cO]⟩
       ·cases ho')
      (fun o' ho'=>by
       cases rw1 with
       | false=>rfl
       | true=>
        simp only [cond_true,cO]
        rw [if_neg (fun e=>by subst e;rw [hrn] at ho';cases ho')])
      (fun o' n hl'=>by
       cases rw1 with
       | false=>exact .inl hl'
       | true=>
        simp only [cond_true,cO] at hl'
        split at hl'
        ·rename_i e
         subst e
         cases wn with
         | some x=>simp [nV] at hl'
         | none=>
          simp [nV] at hl'
          subst hl'
          obtain ⟨rfl,rfl⟩:=hw
          exact .inr ⟨rfl,k1,e1,true,rw_,xs1,ho1,rfl,hrw,by simp⟩
        ·exact .inl hl')
     exact bQ hT h l _ _ _ _ _ hin hk
    ·cases hk
  ·cases hk
 | .it t::l,rn,tl,ol,pl',g,hi,hk=>by
  unfold cY at hk
  obtain ⟨hok,hk⟩:=aL hk
  have h6:t < 1000000:=Nat.le_of_ble_eq_true hok
  have hv:=h.vals t
  split at hk
  ·rename_i o hx
   rw [hx] at hv
   obtain ⟨z1,pos1,ho1,hve⟩:=hv.it_inv
   split at hk
   ·rename_i z pos hrn ho ht
    have hin:=hi.addObj (rn':=(o,none)::rn) ht (.siter z pos) (pl o) (some o) (fv:= .it t)
     (.inl ⟨z,pos,by rw [cT,ht,if_pos rfl],by rw [aC];exact hve⟩)
     (.inl h6)
     (.inr (.inr (.inl ⟨o,z,pos,ho,rfl,rfl,by simp⟩)))
     (fun o' ho'=>by cases ho';exact ⟨hrn,by simp [cO]⟩)
     (fun o' ho'=>by
      simp only [cO]
      rw [if_neg (fun e=>by subst e;rw [hrn] at ho';cases ho')])
     (fun o' n hl'=>by
      simp only [cO] at hl'
      split at hl'
      ·cases hl'
      ·exact .inl hl')
    exact bQ hT h l _ _ _ _ _ hin hk
   ·cases hk
  ·cases hk
 | .ptr t k e rw_::l,rn,tl,ol,pl',g,hi,hk=>by
  unfold cY at hk
  obtain ⟨hok,hk⟩:=aL hk
  have h6:t < 1000000:=Nat.le_of_ble_eq_true hok
  have hv:=h.vals t
  split at hk
  ·rename_i o hx
   rw [hx] at hv
   obtain ⟨k1,e1,rw1,xs1,ho1,hi0,hi1,hve⟩:=hv.ptr_inv
   split at hk
   ·rename_i n hrn
    obtain ⟨k2,e2,rw0,rw2,xs2,g1,g2,g3,g4⟩:=hi.rs o n hrn
    rw [ho1] at g1
    cases g1
    refine bQ hT h l _ _ _ _ _ (hi.addTmp ?_ (.inl h6)) hk
    exact VRep.mkPtr g2 hi0 hi1 (by rw [g4];exact hve)
   ·cases hk
   ·rename_i hrn
    split at hk
    ·rename_i k' e' rw' xs ho ht
     rw [ho1] at ho
     cases ho
     obtain ⟨⟨rfl,hrw⟩,hk⟩:=aI hk
     obtain ⟨rfl,hk⟩:=aP hk
     have hin:=hi.addObj (rn':=bif rw1 then (o,some t)::rn else rn) ht (.row k1 e1 rw_ xs1) (pl o) (if rw1=true then some o else none) (fv:= .ptr t 0 0)
      (VRep.mkPtr (by rw [cT,ht,if_pos rfl]) hi0 hi1 (by rw [aC];exact hve))
      (.inl h6)
      (.inr (.inl ⟨o,k1,e1,rw1,xs1,none,0,xs1.length,rw_,ho1,⟨rfl,rfl⟩,rfl,hrw,by simp,fun hr=>by simp [hr]⟩))
      (fun o' ho'=>by
       split at ho'
       ·rename_i hr
        cases ho'
        exact ⟨hrn,by simp [hr,cO]⟩
       ·cases ho')
      (fun o' ho'=>by
       cases rw1 with
       | false=>rfl
       | true=>
        simp only [cond_true,cO]
        rw [if_neg (fun e=>by subst e;rw [hrn] at ho';cases ho')])
      (fun o' n hl'=>by
       cases rw1 with
       | false=>exact .inl hl'
       | true=>
        simp only [cond_true,cO] at hl'
        split at hl'
        ·rename_i e
         subst e
         cases hl'
         exact .inr ⟨rfl,k1,e1,true,rw_,xs1,ho1,rfl,hrw,rfl⟩
        ·exact .inl hl')
     exact bQ hT h l _ _ _ _ _ hin hk
    ·cases hk
  ·cases hk
 | .cell t k e::l,rn,tl,ol,pl',g,hi,hk=>by
  unfold cY at hk
  obtain ⟨hok,hk⟩:=aL hk
  have h6:t < 1000000:=Nat.le_of_ble_eq_true hok
  have hv:=h.vals t
  split at hk
  ·rename_i o hx
   rw [hx] at hv
   obtain ⟨k1,e1,ho1,hlt,hve⟩:=hv.cp_inv
   split at hk
   ·rename_i k' e' hrn ho ht
    obtain ⟨⟨rfl,rfl,rfl⟩,hk⟩:=aI hk
    rw [ho1] at ho
    cases ho
    have hin:=hi.addObj (rn':=(o,none)::rn) ht (.cell k1 e1) (pl o) (some o) (fv:= .cp o 0)
     (VRep.mkCp (by rw [cT,ht,if_pos rfl]) hlt (by rw [aC];exact hve))
     (.inl h6)
     (.inr (.inr (.inr (.inl ⟨k1,e1,ho1,rfl,rfl,by simp⟩))))
     (fun o' ho'=>by cases ho';exact ⟨hrn,by simp [cO]⟩)
     (fun o' ho'=>by
      simp only [cO]
      rw [if_neg (fun e=>by subst e;rw [hrn] at ho';cases ho')])
     (fun o' n hl'=>by
      simp only [cO] at hl'
      split at hl'
      ·cases hl'
      ·exact .inl hl')
    exact bQ hT h l _ _ _ _ _ hin hk
   ·cases hk
  ·cases hk
 | .mp t k1 k2::l,rn,tl,ol,pl',g,hi,hk=>by
  unfold cY at hk
  obtain ⟨hok,hk⟩:=aL hk
  have h6:t < 1000000:=Nat.le_of_ble_eq_true hok
  have hv:=h.vals t
  split at hk
  ·rename_i o hx
   rw [hx] at hv
   have hv1:VRep1 w (Av E s.objs pl) s.objs pl (.mp o) (dU w s.objs pl a t):=by
    rcases hv with hv | ⟨l,_,hl⟩
    ·exact hv
    ·exact hl.elim
   obtain ⟨a1,b1,es1,ho1,hve⟩:=hv1
   split at hk
   ·rename_i a' b' es hrn ho ht
    obtain ⟨⟨rfl,rfl⟩,hk'⟩:=aI hk
    rw [ho1] at ho
    cases ho
    have hin:=hi.addObj (rn':=(o,none)::rn) ht (.mapo a1 b1 es1) (pl o) (some o) (fv:= .mp t)
     (.inl ⟨a1,b1,es1,by rw [cT,ht,if_pos rfl],by rw [aC];exact hve⟩)
     (.inl h6)
     (.inr (.inr (.inr (.inr ⟨o,a1,b1,es1,ho1,rfl,rfl,by simp⟩))))
     (fun o' ho'=>by cases ho';exact ⟨hrn,by simp [cO]⟩)
     (fun o' ho'=>by
      simp only [cO]
      rw [if_neg (fun e=>by subst e;rw [hrn] at ho';cases ho')])
     (fun o' n hl'=>by
      simp only [cO] at hl'
      split at hl'
      ·cases hl'
      ·exact .inl hl')
    exact bQ hT h l _ _ _ _ _ hin hk'
   ·cases hk
  ·cases hk
theorem wB (hT:TabOk E.P Γ) {l:List NE} (h:Goes E (TM Γ l · κ) r a w):Goes E κ r a w:=by
 obtain ⟨s,⟨pl,h⟩,hk⟩:=h
 exact bQ hT h l [] [] [] pl (fun _=>none) ⟨fun t fv hm=>(by simp at hm),fun t fv hm=>(by simp at hm),fun t obj ho=>(by simp [aF] at ho),fun t o hg=>(by cases hg),fun o n hl=>(by simp [lk] at hl),fun t t' o h1=>(by cases h1)⟩ hk
end
end Go.Proofs.YtoafkjeamgelgaaDoorHF

namespace Go.Proofs.YtoafkjeamgelgaaDoorHF
open Go
set_option linter.unusedVariables false
set_option linter.unusedSimpArgs false
def cX:List (Nat×FObj)→FState→FState
 | [],s=>s
 | (k,o)::l,s=>cX l (s.setO k (some o))
structure Eff where
 ids:List Nat
 l:List (Nat×FObj)
 v:FV
def Eff.app (e:Eff) (s:FState) (d:Option Tmp):FState:=(cX e.l (aK e.ids s)).put d e.v
def cC (s:FState) (o:Oper):List Nat:=(o.op.operands.toList.map (ev s)).flatMap FV.refs++iO s o
def named (d:Option Tmp) (k:Nat):Prop:=∃d' j,d=some d'∧k=d'+j * 1000000
structure iB (o:Oper) (s s2:FState):Prop where
 cel:(o.op.operands.toList.map (ev s)).any FV.isCp=true→∀t,¬t < 1000000→s2.tmps t=s.tmps t
 ops:∀x∈o.op.operands,ev s2 x=ev s x
 objs:∀k∈cC s o,s2.objs k=s.objs k
 new:∀k,named o.dst k→s.objs k=none→s2.objs k=none
theorem aH {s:FState} {o:Oper} {x:Operand} {k:Nat} (hx:x∈o.op.operands) (hk:k∈(ev s x).refs):k∈cC s o:=
 List.mem_append_left _ (List.mem_flatMap.2 ⟨ev s x,List.mem_map.2 ⟨x,by simpa using hx,rfl⟩,hk⟩)
structure Loc (Γ:Ctx) (o:Oper) (s:FState) (e:Eff):Prop where
 ids:∀k∈e.ids,k∈cC s o
 l:∀p∈e.l,p.1∈cC s o∨(s.objs p.1=none∧named o.dst p.1)
 quiet:dG Γ s o=false→e.ids=[]∧∀p∈e.l,s.objs p.1=none∧named o.dst p.1
 v:∀k∈e.v.refs,(k∈cC s o∧k∉e.ids)∨k∈e.l.map (·.1)
 same:∀s2,iB o s s2→∀{γ:Type} (κ2:FState→Option γ),opK Γ o s2 κ2=κ2 (e.app s2 o.dst)
section
variable {Γ:Ctx} {s:FState} {β:Type} {r:β} {κ:FState→Option β}
theorem Loc.val {d:Option Tmp} {op:Op} {ty:TypeId} {pos:String} {af:Array Edge} {g:Option (Nat×Bool)} {v:FV} (hv:∀k∈v.refs,k∈cC s ⟨d,op,ty,pos,af,g⟩)
  (h:∀s2,iB ⟨d,op,ty,pos,af,g⟩ s s2→∀{γ:Type} (κ2:FState→Option γ),opK Γ ⟨d,op,ty,pos,af,g⟩ s2 κ2=κ2 (s2.put d v)):Loc Γ ⟨d,op,ty,pos,af,g⟩ s ⟨[],[],v⟩:=
 ⟨fun k hk=>by simp at hk,fun p hp=>by simp at hp,fun _=>⟨rfl,fun p hp=>by simp at hp⟩,fun k hk=> .inl ⟨hv k hk,by simp⟩,fun s2 hA γ κ2=>h s2 hA κ2⟩
theorem Loc.newRow {d:Nat} {op:Op} {ty:TypeId} {pos:String} {af:Array Edge} {g:Option (Nat×Bool)} {obj:FObj} {v:FV} (hd:s.objs d=none) (hv:∀k∈v.refs,k=d)
  (h:∀s2,iB ⟨some d,op,ty,pos,af,g⟩ s s2→s2.objs d=none→∀{γ:Type} (κ2:FState→Option γ),opK Γ ⟨some d,op,ty,pos,af,g⟩ s2 κ2=κ2 ((s2.setO d (some obj)).set d v)):Loc Γ ⟨some d,op,ty,pos,af,g⟩ s ⟨[],[(d,obj)],v⟩:=by
 have hn:named (some d) d:=⟨d,0,rfl,by omega⟩
 refine ⟨fun k hk=>by simp at hk,fun p hp=>?_,fun _=>⟨rfl,fun p hp=>?_⟩,fun k hk=> .inr (by simp [hv k hk]),fun s2 hA γ κ2=>h s2 hA (hA.new d hn hd) κ2⟩
 ·simp at hp;subst hp;exact .inr ⟨hd,hn⟩
 ·simp at hp;subst hp;exact ⟨hd,hn⟩
theorem Loc.byVal {d:Option Tmp} {op:Op} {ty:TypeId} {pos:String} {af:Array Edge} {g:Option (Nat×Bool)} {v:FV} (hk:κ (s.put d v)=some r) (hv:∀k∈v.refs,k∈cC s ⟨d,op,ty,pos,af,g⟩)
  (h:∀s2,iB ⟨d,op,ty,pos,af,g⟩ s s2→∀{γ:Type} (κ2:FState→Option γ),opK Γ ⟨d,op,ty,pos,af,g⟩ s2 κ2=κ2 (s2.put d v)):∃e,κ (Eff.app e s d)=some r∧Loc Γ ⟨d,op,ty,pos,af,g⟩ s e:=⟨⟨[],[],v⟩,hk,Loc.val hv h⟩
theorem Loc.byRow {d:Nat} {op:Op} {ty:TypeId} {pos:String} {af:Array Edge} {g:Option (Nat×Bool)} {obj:FObj} {v:FV} (hk:κ ((s.setO d (some obj)).set d v)=some r) (hd:s.objs d=none) (hv:∀k∈v.refs,k=d)
  (h:∀s2,iB ⟨some d,op,ty,pos,af,g⟩ s s2→s2.objs d=none→∀{γ:Type} (κ2:FState→Option γ),opK Γ ⟨some d,op,ty,pos,af,g⟩ s2 κ2=κ2 ((s2.setO d (some obj)).set d v)):∃e,κ (Eff.app e s (some d))=some r∧Loc Γ ⟨some d,op,ty,pos,af,g⟩ s e:=
 ⟨⟨[],[(d,obj)],v⟩,hk,Loc.newRow hd hv h⟩
theorem LC {op:BinOp} {t:TypeId} {x y:FV} {f:FV→Option β} (h:fW Γ op t x y f=some r):∃k v,f (.dat k v)=some r∧∀{γ:Type} (f2:FV→Option γ),fW Γ op t x y f2=f2 (.dat k v):=by
 unfold fW at h
 split at h
 ·cases hsh:lV op with
  | true=>
   rw [hsh,cond_true] at h
   unfold kR at h
   split at h
   ·cases h
   ·rename_i hb
    cases op <;> simp only at h <;> first
     | exact ⟨_,_,h,fun f2=>by simp [fW,lV,kR,hb]⟩
     | cases h
  | false=>
  rw [hsh,cond_false] at h
  obtain ⟨rfl,h⟩:=aI h
  cases op <;> simp only [rL] at h <;> first
   | exact ⟨_,_,h,fun f2=>by simp [fW,rL,lV]⟩
   | (split at h <;> first | cases h | exact ⟨_,_,h,fun f2=>by simp [fW,rL,lV, *]⟩)
   | cases h
 ·obtain ⟨rfl,h⟩:=aI h
  cases op <;> simp only [sA] at h <;> first
   | exact ⟨_,_,h,fun f2=>by simp [fW,sA]⟩
   | (obtain ⟨z,hz,h⟩:=gJ h;exact ⟨_,_,h,fun f2=>by simp [fW,sA,onS,hz]⟩)
   | cases h
 ·cases op <;> simp only [rX] at h <;> first
   | exact ⟨_,_,h,fun f2=>by simp [fW,rX]⟩
   | (obtain ⟨hn,h⟩:=eX h;exact ⟨_,_,h,fun f2=>by simp [fW,rX,dS,hn]⟩)
   | cases h
 ·have hh:=eK h
  clear h
  obtain ⟨hkk,h⟩:=hh
  subst hkk
  obtain ⟨⟨ht,he⟩,h⟩:=aI h
  split at h
  ·exact ⟨_,_,h,fun f2=>by simp [fW,jK,ht,he]⟩
  ·exact ⟨_,_,h,fun f2=>by simp [fW,jK,ht,he]⟩
  ·cases h
 ·split at h
  ·rename_i ht
   exact ⟨_,_,h,fun f2=>by simp [fW,ht]⟩
  ·rename_i ht
   exact ⟨_,_,h,fun f2=>by simp [fW,ht]⟩
  ·cases h
 ·split at h
  ·rename_i ht
   exact ⟨_,_,h,fun f2=>by simp [fW,ht]⟩
  ·rename_i ht
   exact ⟨_,_,h,fun f2=>by simp [fW,ht]⟩
  ·cases h
 ·split at h
  ·rename_i ht
   exact ⟨_,_,h,fun f2=>by simp [fW,ht]⟩
  ·rename_i ht
   exact ⟨_,_,h,fun f2=>by simp [fW,ht]⟩
  ·cases h
 ·cases h
theorem QU {op:UnOp} {x:FV} {f:FV→Option β} (h:unK op x f=some r):∃k v,f (.dat k v)=some r∧∀{γ:Type} (f2:FV→Option γ),unK op x f2=f2 (.dat k v):=by
 unfold unK at h
 split at h
 ·exact ⟨_,_,h,fun f2=>rfl⟩
 ·exact ⟨_,_,h,fun f2=>rfl⟩
 ·cases h
theorem sQ {src dst:TypeId} {x:FV} {f:FV→Option β} (h:hU Γ src dst x f=some r):∃k v,f (.dat k v)=some r∧∀{γ:Type} (f2:FV→Option γ),hU Γ src dst x f2=f2 (.dat k v):=by
 unfold hU at h
 split at h
 ·rename_i h1 h2
  exact ⟨_,_,h,fun f2=>by simp [hU,h1,h2]⟩
 ·rename_i h1 h2
  exact ⟨_,_,h,fun f2=>by simp [hU,h1,h2]⟩
 ·rename_i h1 h2
  exact ⟨_,_,h,fun f2=>by simp [hU,h1,h2]⟩
 ·rename_i h1 h2
  obtain ⟨n,hn,h⟩:=gJ h
  exact ⟨_,_,h,fun f2=>by simp [hU,h1,h2,onS,hn]⟩
 ·rename_i h1 h2
  exact ⟨_,_,h,fun f2=>by simp [hU,h1,h2]⟩
 ·cases h
theorem xP {b:Builtin} {x y:FV} {f:FV→Option β} (h:uB b x y f=some r):∃k v,f (.dat k v)=some r∧∀{γ:Type} (f2:FV→Option γ),uB b x y f2=f2 (.dat k v):=by
 unfold uB at h
 split at h
 ·obtain ⟨rfl,h⟩:=aI h
  exact ⟨_,_,h,fun f2=>by simp [uB]⟩
 ·obtain ⟨rfl,h⟩:=aI h
  exact ⟨_,_,h,fun f2=>by simp [uB]⟩
 ·cases h
theorem cH {k:K} {x:k.den} {γ:Type} (f2:k.den→Option γ):eG (.dat k x) k f2=f2 x:=by simp [eG,jK]
theorem PM {s s2:FState} {o:Nat} (h:s2.objs o=s.objs o):fJ s2 o=fJ s o:=by unfold fJ;rw [h]
theorem oO {s s2:FState}:∀{vs:List FV},(∀v∈vs,∀o∈v.refs,s2.objs o=s.objs o)→frz s2 vs=frz s vs
 | [],_=>rfl
 | v::vs,h=>by
  have ih:=oO (s:=s) (s2:=s2) (vs:=vs) (fun v hv=>h v (by simp [hv]))
  cases v with
  | sl o w nn=>simp only [frz,PM (h (.sl o w nn) (List.mem_cons_self ..) o (by simp [FV.refs])),ih]
  | _=>simpa [frz] using ih
theorem gF {s:FState} {o:Nat}:∀{vs:List FV},o∈frz s vs→∃v∈vs,o∈v.refs
 | v::vs,h=>by
  cases v with
  | sl o' w nn=>
   simp only [frz] at h
   cases hr:fJ s o' with
   | true=>
    rw [hr] at h
    obtain ⟨v,h1,h2⟩:=gF (vs:=vs) (by simpa using h)
    exact ⟨v,by simp [h1],h2⟩
   | false=>
    rw [hr] at h
    simp only [cond_false,List.mem_cons] at h
    rcases h with rfl | h
    ·exact ⟨.sl o w nn,List.mem_cons_self ..,by simp [FV.refs]⟩
    ·obtain ⟨v,h1,h2⟩:=gF h
     exact ⟨v,by simp [h1],h2⟩
  | _=>
   obtain ⟨v,h1,h2⟩:=gF (vs:=vs) (by simpa [frz] using h)
   exact ⟨v,by simp [h1],h2⟩
theorem tK {s:FState}:∀{vs:List FV},vs.any FV.isSlB=false→frz s vs=[]
 | [],_=>rfl
 | v::vs,h=>by
  simp only [List.any_cons,Bool.or_eq_false_iff] at h
  cases v with
  | sl o w nn=>simp [FV.isSlB] at h
  | _=>simpa [frz] using tK h.2
theorem gO {s:FState} {v:FV} {k:K} {f:k.den→Option β} (h:dH s v k f=some r):∃y,f y=some r∧∀s2:FState,(∀o∈v.refs,s2.objs o=s.objs o)→∀{γ:Type} (f2:k.den→Option γ),dH s2 v k f2=f2 y:=by
 cases k with
 | sl e k'=>
  simp only [dH] at h
  split at h
  ·exact ⟨_,h,fun s2 _ γ f2=>rfl⟩
  ·rename_i o0 w0 nn0
   obtain ⟨o,wn,nn,k1,e1,rw_,xs,hx',ho,h⟩:=aX h
   cases hx'
   obtain ⟨he,h⟩:=aI h
   have hh:=aP h
   clear h
   obtain ⟨he',h⟩:=hh
   subst he'
   refine ⟨_,h,fun s2 hs γ f2=>?_⟩
   have hso:s2.objs o0=_:=(hs o0 (by simp [FV.refs])).trans ho
   simp only [dH,eE,hso,he,cG,if_true,dite_true]
  ·rename_i h1 h2
   obtain ⟨y,rfl,hh⟩:=bE h
   exact ⟨y,hh,fun s2 _ γ f2=>by simp only [dH];exact cH _⟩
 | int k=>obtain ⟨y,rfl,hh⟩:=bE h;exact ⟨y,hh,fun s2 _ γ f2=>cH (k:= .int k) _⟩
 | bool=>obtain ⟨y,rfl,hh⟩:=bE h;exact ⟨y,hh,fun s2 _ γ f2=>cH (k:= .bool) _⟩
 | str=>obtain ⟨y,rfl,hh⟩:=bE h;exact ⟨y,hh,fun s2 _ γ f2=>cH (k:= .str) _⟩
 | flt k=>obtain ⟨y,rfl,hh⟩:=bE h;exact ⟨y,hh,fun s2 _ γ f2=>cH (k:= .flt k) _⟩
 | err=>obtain ⟨y,rfl,hh⟩:=bE h;exact ⟨y,hh,fun s2 _ γ f2=>cH (k:= .err) _⟩
 | pair k1 k2=>obtain ⟨y,rfl,hh⟩:=bE h;exact ⟨y,hh,fun s2 _ γ f2=>cH (k:= .pair k1 k2) _⟩
theorem xU {d:Option Tmp} {k:K} {y:k.den} (h:putD Γ d s k y κ=some r):
  (∃v:FV,v.refs=[]∧κ (s.put d v)=some r∧∀(s2:FState) {γ:Type} (κ2:FState→Option γ),putD Γ d s2 k y κ2=κ2 (s2.put d v))∨
  ∃(d':Nat) (obj:FObj) (v:FV),d=some d'∧s.objs d'=none∧(∀k∈v.refs,k=d')∧κ ((s.setO d' (some obj)).set d' v)=some r∧∀s2:FState,s2.objs d'=none→∀{γ:Type} (κ2:FState→Option γ),putD Γ d s2 k y κ2=κ2 ((s2.setO d' (some obj)).set d' v):=by
 cases k with
 | sl e k'=>
  unfold putD at h
  obtain ⟨hke,h⟩:=aI h
  obtain ⟨d',rfl,hn,h⟩:=aR h
  exact .inr ⟨d',_,_,rfl,hn,fun k hk=>by simpa [FV.refs] using hk,h,fun s2 h2 γ κ2=>by simp only [putD,hke,if_true,Go.Proofs.YtoafkjeamgelgaaDoorHF.newRow,h2]⟩
 | int k=>exact .inl ⟨.dat (.int k) y,rfl,h,fun _ _ _=>rfl⟩
 | bool=>exact .inl ⟨.dat .bool y,rfl,h,fun _ _ _=>rfl⟩
 | str=>exact .inl ⟨.dat .str y,rfl,h,fun _ _ _=>rfl⟩
 | flt k=>exact .inl ⟨.dat (.flt k) y,rfl,h,fun _ _ _=>rfl⟩
 | err=>exact .inl ⟨.dat .err y,rfl,h,fun _ _ _=>rfl⟩
 | pair k1 k2=>exact .inl ⟨.dat (.pair k1 k2) y,rfl,h,fun _ _ _=>rfl⟩
theorem Loc.byFrz {d:Nat} {op:Op} {ty:TypeId} {pos:String} {af:Array Edge} {g:Option (Nat×Bool)} {obj:FObj} {v:FV} {vs:List FV} (hk:κ (((aK (frz s vs) s).setO d (some obj)).set d v)=some r) (hd:(aK (frz s vs) s).objs d=none) (hv:∀k∈v.refs,k=d)
  (hvs:∀u∈vs,∀o∈u.refs,o∈cC s ⟨some d,op,ty,pos,af,g⟩) (ht:dG Γ s ⟨some d,op,ty,pos,af,g⟩=vs.any FV.isSlB)
  (h:∀s2,iB ⟨some d,op,ty,pos,af,g⟩ s s2→frz s2 vs=frz s vs→(aK (frz s vs) s2).objs d=none→∀{γ:Type} (κ2:FState→Option γ),opK Γ ⟨some d,op,ty,pos,af,g⟩ s2 κ2=κ2 (((aK (frz s vs) s2).setO d (some obj)).set d v)):∃e,κ (Eff.app e s (some d))=some r∧Loc Γ ⟨some d,op,ty,pos,af,g⟩ s e:=by
 have hids:∀k∈frz s vs,k∈cC s ⟨some d,op,ty,pos,af,g⟩:=fun k hk=>by
  obtain ⟨u,h1,h2⟩:=gF hk
  exact hvs u h1 k h2
 refine ⟨⟨frz s vs,[(d,obj)],v⟩,hk,hids,fun p hp=>?_,fun hq=>?_,fun k hk=> .inr (by simp [hv k hk]),fun s2 hA γ κ2=>?_⟩
 ·simp at hp
  subst hp
  rw [bP] at hd
  split at hd
  ·rename_i hm;exact .inl (hids _ hm)
  ·exact .inr ⟨hd,d,0,rfl,by simp⟩
 ·have he:frz s vs=[]:=tK (ht ▸ hq)
  refine ⟨he,fun p hp=>?_⟩
  simp at hp
  subst hp
  rw [he] at hd
  exact ⟨hd,d,0,rfl,by simp⟩
 ·refine h s2 hA (oO fun u hu o ho=>hA.objs o (hvs u hu o ho)) ?_ κ2
  rw [bP] at hd ⊢
  split
  ·rfl
  ·rename_i hm
   rw [if_neg hm] at hd
   exact hA.new d ⟨d,0,rfl,by simp⟩ hd
theorem pN {t:TypeId} {k:K}:∀(ps:List (Nat×Operand)) (x:k.den) {f:k.den→Option β},gN Γ s t k ps x f=some r→
  ∃z,f z=some r∧∀s2:FState,(∀p∈ps,ev s2 p.2=ev s p.2)→(∀p∈ps,∀o∈(ev s p.2).refs,s2.objs o=s.objs o)→∀{γ:Type} (f2:k.den→Option γ),gN Γ s2 t k ps x f2=f2 z
 | [],x,f,h=>⟨x,h,fun _ _ _ γ f2=>rfl⟩
 | (j,v)::ps,x,f,h=>by
  unfold gN at h
  obtain ⟨⟨q,ft⟩,hf,h⟩:=aA h
  obtain ⟨k',hk',h⟩:=aA h
  obtain ⟨y,h,hloc⟩:=gO h
  obtain ⟨z,hz,h⟩:=aA h
  obtain ⟨z',h1,h2⟩:=pN ps z h
  refine ⟨z',h1,fun s2 hs ho γ f2=>?_⟩
  unfold gN
  rw [hf]
  simp only [aO]
  rw [hk']
  simp only
  rw [hs (j,v) (by simp),hloc s2 (ho (j,v) (by simp)),hz]
  exact h2 s2 (fun p hp=>hs p (by simp [hp])) (fun p hp=>ho p (by simp [hp])) f2
theorem pG {k:K}:∀(ps:List (Nat×Operand)) (n:Nat) (acc:List k.den) {f:List k.den→Option β},gZ s k n ps acc f=some r→
  ∃z,f z=some r∧∀s2:FState,(∀p∈ps,ev s2 p.2=ev s p.2)→(∀p∈ps,∀o∈(ev s p.2).refs,s2.objs o=s.objs o)→∀{γ:Type} (f2:List k.den→Option γ),gZ s2 k n ps acc f2=f2 z
 | [],n,acc,f,h=>⟨acc,h,fun _ _ _ γ f2=>rfl⟩
 | (j,v)::ps,n,acc,f,h=>by
  unfold gZ at h
  obtain ⟨hj,h⟩:=aL h
  obtain ⟨y,h,hloc⟩:=gO h
  obtain ⟨z',h1,h2⟩:=pG ps (n+1) (acc++[y]) h
  refine ⟨z',h1,fun s2 hs ho γ f2=>?_⟩
  unfold gZ
  rw [hj]
  simp only [cond_true]
  rw [hs (j,v) (by simp),hloc s2 (ho (j,v) (by simp))]
  exact h2 s2 (fun p hp=>hs p (by simp [hp])) (fun p hp=>ho p (by simp [hp])) f2
theorem LY {u e:TypeId} {k:K} {y:FV} {f:List k.den→Option β} (h:vR Γ s u e k y f=some r):∃ys,f ys=some r∧∀s2:FState,(∀o∈y.refs,s2.objs o=s.objs o)→∀{γ:Type} (f2:List k.den→Option γ),vR Γ s2 u e k y f2=f2 ys:=by
 unfold vR at h
 split at h
 ·obtain ⟨hu,h⟩:=aI h
  exact ⟨_,h,fun s2 _ γ f2=>by simp [vR,hu]⟩
 ·obtain ⟨hu,h⟩:=aI h
  obtain ⟨rfl,h⟩:=aP h
  exact ⟨_,h,fun s2 _ γ f2=>by simp [vR,hu,cG]⟩
 ·obtain ⟨o,wn,nn,k',e',rw_,xs,rfl,ho,h⟩:=aX h
  obtain ⟨hu,h⟩:=aI h
  obtain ⟨rfl,h⟩:=aP h
  refine ⟨_,h,fun s2 hs γ f2=>?_⟩
  have:s2.objs o=_:=(hs o (by simp [FV.refs])).trans ho
  simp [vR,eE,this,hu,cG]
theorem dB:∀(ks:List AK) (vs:List FV) {f:DenA ks→Option β},ks.any AK.isB=false→aN s ks vs f=some r→∃d,f d=some r∧∀s2:FState,(∀v∈vs,∀o∈v.refs,s2.objs o=s.objs o)→∀{γ:Type} (f2:DenA ks→Option γ),aN s2 ks vs f2=f2 d
 | [],[],f,hB,h=>⟨(),h,fun _ _ γ f2=>by simp [aN]⟩
 | [],x::xs,f,hB,h=>by simp [aN] at h
 | .dat k::ks,[],f,hB,h=>by simp [aN] at h
 | .ro k e::ks,[],f,hB,h=>by simp [aN] at h
 | .rw k e::ks,[],f,hB,h=>by simp [aN] at h
 | .pro k e::ks,[],f,hB,h=>by simp [aN] at h
 | .dat k::ks,v::vs,f,hB,h=>by
  unfold aN at h
  have hh:=bE h
  clear h
  obtain ⟨x,rfl,h⟩:=hh
  obtain ⟨d,h1,h2⟩:=dB ks vs (by simpa [AK.isB] using hB) h
  refine ⟨(x,d),h1,fun s2 hs γ f2=>?_⟩
  unfold aN
  rw [cH]
  exact h2 s2 (fun v hv=>hs v (by simp [hv])) _
 | .ro k e::ks,v::vs,f,hB,h=>by
  unfold aN at h
  split at h
  ·obtain ⟨d,h1,h2⟩:=dB ks vs (by simpa [AK.isB] using hB) h
   refine ⟨([],d),h1,fun s2 hs γ f2=>?_⟩
   unfold aN
   exact h2 s2 (fun v hv=>hs v (by simp [hv])) _
  ·obtain ⟨o,wn,nn,k',e',rw_,xs,rfl,ho,h⟩:=aX h
   obtain ⟨he,h⟩:=aI h
   obtain ⟨rfl,h⟩:=aP h
   obtain ⟨d,h1,h2⟩:=dB ks vs (by simpa [AK.isB] using hB) h
   refine ⟨_,h1,fun s2 hs γ f2=>?_⟩
   have hso:s2.objs o=_:=(hs (.sl o wn nn) (by simp) o (by simp [FV.refs])).trans ho
   unfold aN
   simp only [eE,hso,if_pos he,cG,dite_true]
   exact h2 s2 (fun v hv=>hs v (by simp [hv])) _
 | .rw k e::ks,v::vs,f,hB,h=>by
  unfold aN at h
  split at h
  ·obtain ⟨d,h1,h2⟩:=dB ks vs (by simpa [AK.isB] using hB) h
   refine ⟨([],d),h1,fun s2 hs γ f2=>?_⟩
   unfold aN
   exact h2 s2 (fun v hv=>hs v (by simp [hv])) _
  ·obtain ⟨o,wn,nn,k',e',rw_,xs,rfl,ho,h⟩:=aX h
   obtain ⟨he,h⟩:=aI h
   obtain ⟨rfl,h⟩:=aP h
   obtain ⟨d,h1,h2⟩:=dB ks vs (by simpa [AK.isB] using hB) h
   refine ⟨_,h1,fun s2 hs γ f2=>?_⟩
   have hso:s2.objs o=_:=(hs (.sl o wn nn) (by simp) o (by simp [FV.refs])).trans ho
   unfold aN
   simp only [eE,hso,if_pos he,cG,dite_true]
   exact h2 s2 (fun v hv=>hs v (by simp [hv])) _
 | .pro k e::ks,v::vs,f,hB,h=>by
  unfold aN at h
  split at h
  ·rename_i o i
   split at h
   ·rename_i k' e' rw_ xs ho
    obtain ⟨he,h⟩:=aI h
    obtain ⟨rfl,h⟩:=eK h
    obtain ⟨d,h1,h2⟩:=dB ks vs (by simpa [AK.isB] using hB) h
    refine ⟨_,h1,fun s2 hs γ f2=>?_⟩
    have hso:s2.objs o=_:=(hs (.ptr o i 0) (by simp) o (by simp [FV.refs])).trans ho
    unfold aN
    simp only [hso,if_pos he,jK,dite_true]
    exact h2 s2 (fun v hv=>hs v (by simp [hv])) _
   ·cases h
  ·cases h
 | .cel k e::ks,vs,f,hB,h=>by simp [AK.isB] at hB
 | .io k e::ks,vs,f,hB,h=>by simp [AK.isB] at hB
 | .mp a b::ks,vs,f,hB,h=>by simp [AK.isB] at hB
theorem dR {d:Nat}:∀(rs:List RK) (j:Nat) (x:DenR rs) (s:FState) {f:FV→FState→Option β},aW d j rs x s f=some r→
  ∃l v,f v (cX l s)=some r∧(∀p∈l,s.objs p.1=none∧∃i,p.1=d+i * 1000000)∧(∀k∈v.refs,k∈l.map (·.1))∧∀s2:FState,(∀i,s.objs (d+i * 1000000)=none→s2.objs (d+i * 1000000)=none)→∀{γ:Type} (f2:FV→FState→Option γ),aW d j rs x s2 f2=f2 v (cX l s2)
 | [],j,x,s,f,h=>⟨[],.tnil,h,fun p hp=>by simp at hp,fun k hk=>by simp [FV.refs] at hk,fun s2 _ γ f2=>rfl⟩
 | .dat k::rs,j,x,s,f,h=>by
  unfold aW at h
  obtain ⟨l,v,h1,h2,h3,h4⟩:=dR rs (j+1) x.2 s h
  refine ⟨l,.tcons (.dat k x.1) v,h1,h2,fun k hk=>h3 k (by simpa [FV.refs] using hk),fun s2 hs γ f2=>?_⟩
  unfold aW
  exact h4 s2 hs _
 | .nsl::rs,j,x,s,f,h=>by
  unfold aW at h
  obtain ⟨l,v,h1,h2,h3,h4⟩:=dR rs (j+1) x.2 s h
  refine ⟨l,.tcons .nsl v,h1,h2,fun k hk=>h3 k (by simpa [FV.refs] using hk),fun s2 hs γ f2=>?_⟩
  unfold aW
  exact h4 s2 hs _
 | .rw k e::rs,j,x,s,f,h=>by
  unfold aW at h
  split at h
  ·rename_i hn
   obtain ⟨l,v,h1,h2,h3,h4⟩:=dR rs (j+1) x.2 _ h
   refine ⟨(d+j * 1000000,.row k e true x.1)::l,.tcons (.sl (d+j * 1000000) none false) v,h1,fun p hp=>?_,fun q hq=>?_,fun s2 hs γ f2=>?_⟩
   ·rcases List.mem_cons.1 hp with rfl | hp
    ·exact ⟨hn,j,rfl⟩
    ·obtain ⟨g1,i,g2⟩:=h2 p hp
     refine ⟨?_,i,g2⟩
     by_cases e':p.1=d+j * 1000000
     ·rw [e'];exact hn
     ·rwa [aD _ _ _ e'] at g1
   ·simp only [FV.refs,List.singleton_append,List.mem_cons] at hq
    rcases hq with rfl | hq
    ·simp
    ·have:=h3 q hq;simp at this ⊢;exact .inr this
   ·unfold aW
    rw [hs j hn]
    exact h4 _ (fun i hi=>by
     by_cases e':d+i * 1000000=d+j * 1000000
     ·rw [e',aB] at hi;cases hi
     ·rw [aD _ _ _ e'] at hi ⊢;exact hs i hi) _
  ·cases h
 | .ro k e::rs,j,x,s,f,h=>by
  unfold aW at h
  split at h
  ·rename_i hn
   obtain ⟨l,v,h1,h2,h3,h4⟩:=dR rs (j+1) x.2 _ h
   refine ⟨(d+j * 1000000,.row k e false x.1)::l,.tcons (.sl (d+j * 1000000) none false) v,h1,fun p hp=>?_,fun q hq=>?_,fun s2 hs γ f2=>?_⟩
   ·rcases List.mem_cons.1 hp with rfl | hp
    ·exact ⟨hn,j,rfl⟩
    ·obtain ⟨g1,i,g2⟩:=h2 p hp
     refine ⟨?_,i,g2⟩
     by_cases e':p.1=d+j * 1000000
     ·rw [e'];exact hn
     ·rwa [aD _ _ _ e'] at g1
   ·simp only [FV.refs,List.singleton_append,List.mem_cons] at hq
    rcases hq with rfl | hq
    ·simp
    ·have:=h3 q hq;simp at this ⊢;exact .inr this
   ·unfold aW
    rw [hs j hn]
    exact h4 _ (fun i hi=>by
     by_cases e':d+i * 1000000=d+j * 1000000
     ·rw [e',aB] at hi;cases hi
     ·rw [aD _ _ _ e'] at hi ⊢;exact hs i hi) _
  ·cases h
 | .ptr k e::rs,j,x,s,f,h=>by
  unfold aW at h
  split at h
  ·rename_i hn
   obtain ⟨l,v,h1,h2,h3,h4⟩:=dR rs (j+1) x.2 _ h
   refine ⟨(d+j * 1000000,.row k e true [x.1])::l,.tcons (.ptr (d+j * 1000000) 0 0) v,h1,fun p hp=>?_,fun q hq=>?_,fun s2 hs γ f2=>?_⟩
   ·rcases List.mem_cons.1 hp with rfl | hp
    ·exact ⟨hn,j,rfl⟩
    ·obtain ⟨g1,i,g2⟩:=h2 p hp
     refine ⟨?_,i,g2⟩
     by_cases e':p.1=d+j * 1000000
     ·rw [e'];exact hn
     ·rwa [aD _ _ _ e'] at g1
   ·simp only [FV.refs,List.singleton_append,List.mem_cons] at hq
    rcases hq with rfl | hq
    ·simp
    ·have:=h3 q hq;simp at this ⊢;exact .inr this
   ·unfold aW
    rw [hs j hn]
    exact h4 _ (fun i hi=>by
     by_cases e':d+i * 1000000=d+j * 1000000
     ·rw [e',aB] at hi;cases hi
     ·rw [aD _ _ _ e'] at hi ⊢;exact hs i hi) _
  ·cases h
 | .bcel k e::rs,j,x,s,f,h=>by unfold aW at h;cases h
 | .bio k e::rs,j,x,s,f,h=>by unfold aW at h;cases h
 | .bmp a b::rs,j,x,s,f,h=>by unfold aW at h;cases h
theorem cM:∀(ks:List AK) (vs:List FV),∀o∈bT ks vs,∃v∈vs,o∈v.refs
 | [],_,o,h=>by cases ‹List FV› <;> simp [bT] at h
 | .rw k e::ks,[],o,h=>by simp [bT] at h
 | .dat k::ks,[],o,h=>by simp [bT] at h
 | .ro k e::ks,[],o,h=>by simp [bT] at h
 | .pro k e::ks,[],o,h=>by simp [bT] at h
 | .dat k::ks,v::vs,o,h=>by
  obtain ⟨v',h1,h2⟩:=cM ks vs o (by simpa [bT] using h)
  exact ⟨v',by simp [h1],h2⟩
 | .ro k e::ks,v::vs,o,h=>by
  obtain ⟨v',h1,h2⟩:=cM ks vs o (by simpa [bT] using h)
  exact ⟨v',by simp [h1],h2⟩
 | .pro k e::ks,v::vs,o,h=>by
  obtain ⟨v',h1,h2⟩:=cM ks vs o (by simpa [bT] using h)
  exact ⟨v',by simp [h1],h2⟩
 | .rw k e::ks,v::vs,o,h=>by
  cases v with
  | sl p wn nn=>
   simp only [bT,List.mem_cons] at h
   rcases h with rfl | h
   ·exact ⟨.sl o wn nn,by simp,by simp [FV.refs]⟩
   ·obtain ⟨v',h1,h2⟩:=cM ks vs o h
    exact ⟨v',by simp [h1],h2⟩
  | _=>
   obtain ⟨v',h1,h2⟩:=cM ks vs o (by simpa [bT] using h)
   exact ⟨v',by simp [h1],h2⟩
 | .cel k e::ks,[],o,h=>by simp [bT] at h
 | .cel k e::ks,v::vs,o,h=>by
  obtain ⟨v',h1,h2⟩:=cM ks vs o (by simpa [bT] using h)
  exact ⟨v',by simp [h1],h2⟩
 | .io k e::ks,[],o,h=>by simp [bT] at h
 | .io k e::ks,v::vs,o,h=>by
  obtain ⟨v',h1,h2⟩:=cM ks vs o (by simpa [bT] using h)
  exact ⟨v',by simp [h1],h2⟩
 | .mp k e::ks,[],o,h=>by simp [bT] at h
 | .mp k e::ks,v::vs,o,h=>by
  obtain ⟨v',h1,h2⟩:=cM ks vs o (by simpa [bT] using h)
  exact ⟨v',by simp [h1],h2⟩
theorem bZ:∀(ks:List AK) (vs:List FV),∀o∈aV ks vs,∃v∈vs,o∈v.refs
 | [],vs,o,h=>by cases vs <;> simp [aV] at h
 | .rw k e::ks,[],o,h=>by simp [aV] at h
 | .dat k::ks,[],o,h=>by simp [aV] at h
 | .ro k e::ks,[],o,h=>by simp [aV] at h
 | .pro k e::ks,[],o,h=>by simp [aV] at h
 | .dat k::ks,v::vs,o,h=>by
  obtain ⟨v',h1,h2⟩:=bZ ks vs o (by simpa [aV] using h)
  exact ⟨v',by simp [h1],h2⟩
 | .rw k e::ks,v::vs,o,h=>by
  obtain ⟨v',h1,h2⟩:=bZ ks vs o (by simpa [aV] using h)
  exact ⟨v',by simp [h1],h2⟩
 | .ro k e::ks,v::vs,o,h=>by
  cases v with
  | sl p wn nn=>
   simp only [aV,List.mem_cons] at h
   rcases h with rfl | h
   ·exact ⟨.sl o wn nn,by simp,by simp [FV.refs]⟩
   ·obtain ⟨v',h1,h2⟩:=bZ ks vs o h
    exact ⟨v',by simp [h1],h2⟩
  | _=>
   obtain ⟨v',h1,h2⟩:=bZ ks vs o (by simpa [aV] using h)
   exact ⟨v',by simp [h1],h2⟩
 | .pro k e::ks,v::vs,o,h=>by
  cases v with
  | ptr p i off=>
   simp only [aV,List.mem_cons] at h
   rcases h with rfl | h
   ·exact ⟨.ptr o i off,by simp,by simp [FV.refs]⟩
   ·obtain ⟨v',h1,h2⟩:=bZ ks vs o h
    exact ⟨v',by simp [h1],h2⟩
  | _=>
   obtain ⟨v',h1,h2⟩:=bZ ks vs o (by simpa [aV] using h)
   exact ⟨v',by simp [h1],h2⟩
 | .cel k e::ks,[],o,h=>by simp [aV] at h
 | .cel k e::ks,v::vs,o,h=>by
  obtain ⟨v',h1,h2⟩:=bZ ks vs o (by simpa [aV] using h)
  exact ⟨v',by simp [h1],h2⟩
 | .io k e::ks,[],o,h=>by simp [aV] at h
 | .io k e::ks,v::vs,o,h=>by
  obtain ⟨v',h1,h2⟩:=bZ ks vs o (by simpa [aV] using h)
  exact ⟨v',by simp [h1],h2⟩
 | .mp k e::ks,[],o,h=>by simp [aV] at h
 | .mp k e::ks,v::vs,o,h=>by
  obtain ⟨v',h1,h2⟩:=bZ ks vs o (by simpa [aV] using h)
  exact ⟨v',by simp [h1],h2⟩
theorem xB (v:FV):∀k∈(fZ v).refs,k∈v.refs:=by
 intro k hk
 cases v with
 | tcons a b=>cases b <;> simp_all [fZ,FV.refs]
 | _=>exact hk
theorem sF {lo hi:Option FV} {n:Int} {f:Int→Int→Option β} (h:jR lo hi n f=some r):∃A B,f A B=some r∧∀{γ:Type} (f2:Int→Int→Option γ),jR lo hi n f2=f2 A B:=by
 unfold jR at h
 split at h
 ·exact ⟨_,_,h,fun f2=>rfl⟩
 ·obtain ⟨k,m,rfl,h⟩:=bM h
  obtain ⟨h1,h2,h3,h⟩:=fU h
  exact ⟨_,_,h,fun f2=>by simp [jR,eS,bnd,h1,h2,h3]⟩
 ·obtain ⟨k,m,rfl,h⟩:=bM h
  obtain ⟨h1,h2,h3,h⟩:=fU h
  exact ⟨_,_,h,fun f2=>by simp [jR,eS,bnd,h1,h2,h3]⟩
 ·have hh:=bM h
  clear h
  obtain ⟨k,m,rfl,h⟩:=hh
  have hh:=bM h
  clear h
  obtain ⟨k',m',rfl,h⟩:=hh
  obtain ⟨h1,h2,h3,h⟩:=fU h
  exact ⟨_,_,h,fun f2=>by simp [jR,eS,bnd,h1,h2,h3]⟩
theorem yL (t:Bool) (x y:FV):∀k∈(rP t x y).refs,k∈x.refs∨k∈y.refs:=by
 intro k hk
 unfold rP at hk
 split at hk
 ·split at hk <;> simp [FV.refs] at hk
 ·cases t
  ·exact .inr (by simpa using hk)
  ·exact .inl (by simpa using hk)
def hK:List Nat→FState→List (Nat×FObj)
 | [],_=>[]
 | o::l,s=>match s.objs o with
  | some (.row k e true xs)=>(o,.row k e false xs)::hK l (s.setO o (some (.row k e false xs)))
  | _=>hK l s
def fA (S:bJ) (vs:List FV) (s:FState):List (Nat×FObj):=bif S.rets.all RK.flat then [] else hK (aV S.args vs) s
theorem kF:∀(l:List Nat) (s:FState),downAll l s=cX (hK l s) s
 | [],s=>rfl
 | o::l,s=>by
  unfold downAll FState.down
  split
  ·rename_i k e xs ho
   rw [kF l]
   simp only [hK,ho]
   rfl
  ·rename_i hno
   rw [kF l]
   simp only [hK]
theorem jU (S:bJ) (vs:List FV) (s:FState):downFor S vs s=cX (fA S vs s) s:=by
 unfold downFor fA
 cases S.rets.all RK.flat
 ·exact kF _ _
 ·rfl
theorem iL:∀(l:List Nat) (s:FState),∀p∈hK l s,p.1∈l
 | [],s,p,hp=>by simp [hK] at hp
 | o::l,s,p,hp=>by
  unfold hK at hp
  split at hp
  ·rcases List.mem_cons.1 hp with rfl | hp
   ·simp
   ·exact List.mem_cons_of_mem _ (iL l _ p hp)
  ·exact List.mem_cons_of_mem _ (iL l _ p hp)
theorem kT {S:bJ} {vs:List FV} {s:FState}:∀p∈fA S vs s,p.1∈aV S.args vs:=fun p hp=>by
 unfold fA at hp
 cases hf:S.rets.all RK.flat
 ·rw [hf] at hp;exact iL _ _ p hp
 ·rw [hf] at hp;simp at hp
theorem jW:∀(l:List Nat) {s s2:FState},(∀o∈l,s2.objs o=s.objs o)→hK l s2=hK l s
 | [],s,s2,h=>rfl
 | o::l,s,s2,h=>by
  unfold hK
  rw [h o (by simp)]
  split
  ·rename_i k e xs ho
   rw [jW l (s:=s.setO o (some (.row k e false xs))) (s2:=s2.setO o (some (.row k e false xs))) (fun p hp=>by
    by_cases e:p=o
    ·subst e;rw [aB,aB]
    ·rw [aD _ _ _ e,aD _ _ _ e];exact h p (by simp [hp]))]
  ·exact jW l (fun p hp=>h p (by simp [hp]))
theorem mZ {S:bJ} {vs:List FV} {s s2:FState} (h:∀o∈aV S.args vs,s2.objs o=s.objs o):fA S vs s2=fA S vs s:=by
 unfold fA
 rw [jW _ h]
theorem sB:∀(l m:List (Nat×FObj)) (s:FState),cX (l++m) s=cX m (cX l s)
 | [],m,s=>rfl
 | (k,o)::l,m,s=>by rw [List.cons_append,cX,cX,sB l]
theorem pU:∀(l:List (Nat×FObj)) {s s2:FState} {o:Nat},s2.objs o=s.objs o→(cX l s2).objs o=(cX l s).objs o
 | [],s,s2,o,h=>h
 | (k,x)::l,s,s2,o,h=>by
  refine pU l ?_
  by_cases e:o=k
  ·subst e;rw [aB,aB]
  ·rw [aD _ _ _ e,aD _ _ _ e];exact h
theorem GI {s:FState} {o p:Nat} {x:Option FObj} (h:p≠o):(s.setO p x).kill o=(s.kill o).setO p x:=by
 unfold FState.kill FState.setO
 congr 1
 funext q
 by_cases e1:q=o
 ·subst e1;simp [Nat.beq_refl,cF (fun e=>h e.symm)]
 ·simp [cF e1]
theorem qQ {o:Nat}:∀{l:List (Nat×FObj)} {s:FState},(∀p∈l,p.1≠o)→(cX l s).kill o=cX l (s.kill o)
 | [],s,h=>rfl
 | (k,x)::l,s,h=>by
  rw [cX,qQ (fun p hp=>h p (by simp [hp])),GI (h (k,x) (by simp))]
  rfl
theorem rH {ids:List Nat} {l:List (Nat×FObj)} {s:FState} (h:∀p∈l,p.1∉ids):aK ids (cX l s)=cX l (aK ids s):=by
 induction ids generalizing s with
 | nil=>rfl
 | cons o ids ih=>rw [aK,qQ (fun p hp e=>h p hp (by simp [e])),ih (fun p hp hm=>h p hp (by simp [hm]))];rfl
theorem FM {s:FState} {o k:Nat}:(s.down o).objs k=none↔s.objs k=none:=by
 unfold FState.down
 split
 ·rename_i k' e xs ho
  by_cases h:k=o
  ·subst h;rw [aB,ho];simp
  ·rw [aD _ _ _ h]
 ·rfl
theorem lC:∀{l:List Nat} {s:FState} {k:Nat},(downAll l s).objs k=none↔s.objs k=none
 | [],s,k=>Iff.rfl
 | o::l,s,k=>by rw [downAll,lC (l:=l),FM]
theorem sX {S:bJ} {vs:List FV} {s:FState} {k:Nat}:(downFor S vs s).objs k=none↔s.objs k=none:=by
 unfold downFor
 cases S.rets.all RK.flat
 ·exact lC
 ·exact Iff.rfl
structure jL (Γ:Ctx):Prop where
 nat:∀f S,Γ.calls f=some S→∀{β:Type} (d:DenA S.args) (κ:DenR S.rets×DenR S.backs→Option β) (r:β),S.app d κ=some r→∃x,S.app d some=some x∧κ x=some r
 app:∀f S,Γ.calls f=some S→∀(d:DenA S.args) (x:DenR S.rets×DenR S.backs),S.app d some=some x→∀{γ:Type} (κ:DenR S.rets×DenR S.backs→Option γ),S.app d κ=κ x
set_option maxHeartbeats 1000000 in
theorem CS (hN:jL Γ) (o:Oper) (hS:fO Γ s o=true) (h:opK Γ o s κ=some r):∃e,κ (Eff.app e s o.dst)=some r∧Loc Γ o s e:=by
  obtain ⟨d,op,ty,pos,af,g⟩:=o
  cases op <;> simp only [opK] at h
  case move x=>
    refine Loc.byVal (v:=ev s x) h (fun k hk=>aH (x:=x) (by simp [Op.operands]) hk) fun s2 hA γ κ2=>?_
    simp only [opK];rw [hA.ops x (by simp [Op.operands])]
  case assign x=>
    refine Loc.byVal (v:=ev s x) h (fun k hk=>aH (x:=x) (by simp [Op.operands]) hk) fun s2 hA γ κ2=>?_
    simp only [opK];rw [hA.ops x (by simp [Op.operands])]
  case pick c x y=>
    obtain ⟨b,hb,h⟩:=kC h
    refine Loc.byVal (v:=rP b (ev s x) (ev s y)) h (fun k hk=>?_) fun s2 hA γ κ2=>?_
    · rcases yL _ _ _ k hk with hk | hk
      · exact aH (x:=x) (by simp [Op.operands]) hk
      · exact aH (x:=y) (by simp [Op.operands]) hk
    · simp only [opK]
      rw [hA.ops c (by simp [Op.operands]),hA.ops x (by simp [Op.operands]),hA.ops y (by simp [Op.operands]),hb]
      rfl
  case binOp op t x y u=>
    obtain ⟨k,v,h,h2⟩:=LC h
    refine Loc.byVal (v:= .dat k v) h (fun k hk=>by simp [FV.refs] at hk) fun s2 hA γ κ2=>?_
    simp only [opK]
    rw [hA.ops x (by simp [Op.operands]),hA.ops y (by simp [Op.operands]),h2]
  case unOp op t x=>
    obtain ⟨k,v,h,h2⟩:=QU h
    refine Loc.byVal (v:= .dat k v) h (fun k hk=>by simp [FV.refs] at hk) fun s2 hA γ κ2=>?_
    simp only [opK]
    rw [hA.ops x (by simp [Op.operands]),h2]
  case convert src dst x=>
    have hop:x∈(⟨d,.convert src dst x,ty,pos,af,g⟩:Oper).op.operands:=by simp [Op.operands]
    unfold hJ at h
    split at h
    · rename_i z hx
      split at h
      · rename_i e he
        split at h
        · rename_i hs ht
          obtain ⟨hz,h⟩:=aL h
          obtain ⟨d',rfl,hn,h⟩:=aR h
          refine Loc.byRow h hn (fun k hk=>by simpa [FV.refs] using hk) fun s2 hA hn2 γ κ2=>?_
          simp only [opK]
          rw [hA.ops x hop,hx]
          simp only [hJ,he,hs,ht,hz,cond_true,Go.Proofs.YtoafkjeamgelgaaDoorHF.newRow,hn2]
        · rename_i hs ht
          obtain ⟨hz,h⟩:=aL h
          obtain ⟨d',rfl,hn,h⟩:=aR h
          refine Loc.byRow h hn (fun k hk=>by simpa [FV.refs] using hk) fun s2 hA hn2 γ κ2=>?_
          simp only [opK]
          rw [hA.ops x hop,hx]
          simp only [hJ,he,hs,ht,hz,cond_true,Go.Proofs.YtoafkjeamgelgaaDoorHF.newRow,hn2]
        · cases h
      · rename_i he
        obtain ⟨k,v,h,h2⟩:=sQ h
        refine Loc.byVal (v:= .dat k v) h (fun k hk=>by simp [FV.refs] at hk) fun s2 hA γ κ2=>?_
        simp only [opK]
        rw [hA.ops x hop,hx]
        rw [hx] at h2
        simp only [hJ,he]
        rw [h2]
    · rename_i hx
      split at h
      · rename_i e he hs
        split at h
        · rename_i ht
          refine Loc.byVal (v:= .dat .str ⟨#[]⟩) h (fun k hk=>by simp [FV.refs] at hk) fun s2 hA γ κ2=>?_
          simp only [opK]
          rw [hA.ops x hop,hx]
          simp only [hJ,he,hs,ht]
        · rename_i ht
          refine Loc.byVal (v:= .dat .str ⟨#[]⟩) h (fun k hk=>by simp [FV.refs] at hk) fun s2 hA γ κ2=>?_
          simp only [opK]
          rw [hA.ops x hop,hx]
          simp only [hJ,he,hs,ht]
        · cases h
      · cases h
    · rename_i o0 w0 nn0 hx
      obtain ⟨o,wn,nn,k',e',rw_,xs,hx',ho,h⟩:=aX h
      cases hx'
      have hor:o0∈cC s ⟨d,.convert src dst x,ty,pos,af,g⟩:=aH (x:=x) hop (by rw [hx];simp [FV.refs])
      split at h
      · rename_i e e2 k2 he hs
        have hh:=aI h
        clear h
        obtain ⟨hc,h⟩:=hh
        obtain ⟨h0,hpos,h⟩:=jC h
        refine Loc.byVal (v:= .sl o0 w0 true) h (fun k hk=>by simp [FV.refs] at hk;subst hk;exact hor) fun s2 hA γ κ2=>?_
        have hso:s2.objs o0=_:=(hA.objs o0 hor).trans ho
        simp only [opK]
        rw [hA.ops x hop,hx]
        simp only [hJ,eE,hso,he,hs]
        rw [if_pos hc]
        simp only [idx,h0,hpos,if_true]
      · rename_i e he hs
        split at h
        · rename_i ht
          have hh:=aP h
          clear h
          obtain ⟨hk',h⟩:=hh
          subst hk'
          refine Loc.byVal (v:= .dat .str (strOfNums (win xs w0))) h (fun k hk=>by simp [FV.refs] at hk) fun s2 hA γ κ2=>?_
          have hso:s2.objs o0=_:=(hA.objs o0 hor).trans ho
          simp only [opK]
          rw [hA.ops x hop,hx]
          simp only [hJ,eE,hso,he,hs,ht,cG,dite_true]
        · rename_i ht
          have hh:=aP h
          clear h
          obtain ⟨hk',h⟩:=hh
          subst hk'
          refine Loc.byVal (v:= .dat .str (runesBytes (win xs w0))) h (fun k hk=>by simp [FV.refs] at hk) fun s2 hA γ κ2=>?_
          have hso:s2.objs o0=_:=(hA.objs o0 hor).trans ho
          simp only [opK]
          rw [hA.ops x hop,hx]
          simp only [hJ,eE,hso,he,hs,ht,cG,dite_true]
        · cases h
      · cases h
    · rename_i hx1 hx2 hx3
      obtain ⟨k,v,h,h2⟩:=sQ h
      refine Loc.byVal (v:= .dat k v) h (fun k hk=>by simp [FV.refs] at hk) fun s2 hA γ κ2=>?_
      simp only [opK]
      rw [hA.ops x hop]
      cases hx:ev s x with
      | dat k0 x0=>
        rw [hx] at h2
        cases k0 with
        | str=>exact absurd hx (hx1 x0)
        | _=>exact h2 (fun v=>κ2 (s2.put d v))
      | nsl=>exact absurd hx hx2
      | sl o w nn=>exact absurd hx (hx3 o w nn)
      | _=>rw [hx] at h2;exact h2 (fun v=>κ2 (s2.put d v))
  case alloc t=>
    obtain ⟨k,ht,h⟩:=aA h
    have hcb:xC Γ d=false:=by simpa [fO] using hS
    rw [hcb,cond_false] at h
    obtain ⟨d',rfl,hn,h⟩:=aR h
    refine Loc.byRow h hn (fun k hk=>by simpa [FV.refs] using hk) fun s2 hA hn2 γ κ2=>?_
    simp only [opK,ht,aO,hcb,cond_false,Go.Proofs.YtoafkjeamgelgaaDoorHF.newRow,hn2]
  case box t x=>
    obtain ⟨k,ht,h⟩:=aA h
    obtain ⟨y,h,hloc⟩:=gO h
    obtain ⟨d',rfl,hn,h⟩:=aR h
    have hop:x∈(⟨some d',.box t x,ty,pos,af,g⟩:Oper).op.operands:=by simp [Op.operands]
    refine Loc.byFrz h hn (fun k hk=>by simpa [FV.refs] using hk) (fun u hu o ho=>by rw [List.mem_singleton.1 hu] at ho;exact aH hop ho) (by simp [dG]) fun s2 hA hf hn2 γ κ2=>?_
    simp only [opK,ht,aO]
    rw [hA.ops x hop,hloc s2 (fun o ho=>hA.objs o (aH hop ho)),hf]
    simp only [Go.Proofs.YtoafkjeamgelgaaDoorHF.newRow,hn2]
  case build t ps=>
    have hcb:(xC Γ d&&Nat.beq ps.size 0)=false:=by simpa only [fO,Bool.not_eq_true'] using hS
    rw [hcb,cond_false] at h
    split at h
    · rename_i k1 k2 l ht hl
      obtain ⟨z,h,h2⟩:=pN ps.toList _ h
      have hop:∀p∈ps.toList,p.2∈(⟨d,.build t ps,ty,pos,af,g⟩:Oper).op.operands:=fun p hp=>by simp [Op.operands];exact ⟨p.1,by simpa using hp⟩
      have hids:∀k∈frz s (ps.toList.map fun p=>ev s p.2),k∈cC s ⟨d,.build t ps,ty,pos,af,g⟩:=fun k hk=>by
        obtain ⟨u,h1,h3⟩:=gF hk
        obtain ⟨p,hp,rfl⟩:=List.mem_map.1 h1
        exact aH (hop p hp) h3
      refine ⟨⟨frz s (ps.toList.map fun (p:Nat×Operand)=>ev s p.2),[],.dat (.pair k1 k2) z⟩,h,hids,fun p hp=>by simp at hp,fun hq=>⟨tK (by simpa [dG] using hq),fun p hp=>by simp at hp⟩,fun k hk=>by simp [FV.refs] at hk,fun s2 hA γ κ2=>?_⟩
      simp only [opK,ht,hl,hcb,cond_false]
      have hm:(ps.toList.map fun p=>ev s2 p.2)=ps.toList.map fun p=>ev s p.2:=List.map_congr_left fun p hp=>hA.ops p.2 (hop p hp)
      rw [h2 s2 (fun p hp=>hA.ops p.2 (hop p hp)) (fun p hp o ho=>hA.objs o (aH (hop p hp) ho)),hm,oO (s:=s) (s2:=s2) (fun u hu o ho=>by
        obtain ⟨p,hp,rfl⟩:=List.mem_map.1 hu
        exact hA.objs o (aH (hop p hp) ho))]
      rfl
    · cases h
  case buildSlice t n ps=>
    obtain ⟨e,he,h⟩:=aA h
    obtain ⟨k,ht,h⟩:=aA h
    obtain ⟨hc,h⟩:=aL h
    obtain ⟨z,h,h2⟩:=pG ps.toList 0 [] h
    obtain ⟨d',rfl,hn,h⟩:=aR h
    have hop:∀p∈ps.toList,p.2∈(⟨some d',.buildSlice t n ps,ty,pos,af,g⟩:Oper).op.operands:=fun p hp=>by simp [Op.operands];exact ⟨p.1,by simpa using hp⟩
    refine Loc.byFrz h hn (fun k hk=>by simpa [FV.refs] using hk) (fun u hu o ho=>by
      obtain ⟨p,hp,rfl⟩:=List.mem_map.1 hu
      exact aH (hop p hp) ho) (by simp [dG]) fun s2 hA hf hn2 γ κ2=>?_
    simp only [opK,he,ht,aO,hc,cond_true]
    have hm:(ps.toList.map fun p=>ev s2 p.2)=ps.toList.map fun p=>ev s p.2:=List.map_congr_left fun p hp=>hA.ops p.2 (hop p hp)
    rw [h2 s2 (fun p hp=>hA.ops p.2 (hop p hp)) (fun p hp o ho=>hA.objs o (aH (hop p hp) ho)),hm,hf]
    simp only [Go.Proofs.YtoafkjeamgelgaaDoorHF.newRow,hn2]
  case load t x=>
    split at h
    · rename_i p i off hx
      split at h
      · rename_i k e rw_ xs ho
        obtain ⟨k',hk',h⟩:=aA h
        obtain ⟨y,hy,h⟩:=aA h
        have hop:x∈(⟨d,.load t x,ty,pos,af,g⟩:Oper).op.operands:=by simp [Op.operands]
        have hst:∀s2,iB ⟨d,.load t x,ty,pos,af,g⟩ s s2→∀{γ:Type} (κ2:FState→Option γ),opK Γ ⟨d,.load t x,ty,pos,af,g⟩ s2 κ2=putD Γ d s2 k' y κ2:=fun s2 hA γ κ2=>by
          have hso:s2.objs p=_:=(hA.objs p (aH (x:=x) hop (by rw [hx];simp [FV.refs]))).trans ho
          simp only [opK]
          rw [hA.ops x hop,hx]
          simp only [hso,hk',aO,hy]
        rcases xU h with ⟨v,hv,h1,h2⟩ | ⟨d',obj,v,rfl,hn,hv,h1,h2⟩
        · exact Loc.byVal h1 (fun k hk=>by rw [hv] at hk;simp at hk) fun s2 hA γ κ2=>(hst s2 hA κ2).trans (h2 s2 κ2)
        · exact Loc.byRow h1 hn hv fun s2 hA hn2 γ κ2=>(hst s2 hA κ2).trans (h2 s2 hn2 κ2)
      · cases h
    · rename_i p off hx
      split at h
      · rename_i k e ho
        obtain ⟨k',hk',h⟩:=aA h
        obtain ⟨hc,h⟩:=aL h
        have hop:x∈(⟨d,.load t x,ty,pos,af,g⟩:Oper).op.operands:=by simp [Op.operands]
        simp only [fO,hx,hk'] at hS
        have hcp:((⟨d,.load t x,ty,pos,af,g⟩:Oper).op.operands.toList.map (ev s)).any FV.isCp=true:=by simp [Op.operands,hx,FV.isCp]
        have hst:∀s2,iB ⟨d,.load t x,ty,pos,af,g⟩ s s2→s2.tmps (fld p off)=s.tmps (fld p off)∧∀{γ:Type} (κ2:FState→Option γ),opK Γ ⟨d,.load t x,ty,pos,af,g⟩ s2 κ2=mU Γ d s2 p off k' κ2:=fun s2 hA=>by
          have hso:s2.objs p=_:=(hA.objs p (aH (x:=x) hop (by rw [hx];simp [FV.refs]))).trans ho
          refine ⟨hA.cel hcp _ (tR p off),fun κ2=>?_⟩
          simp only [opK]
          rw [hA.ops x hop,hx]
          simp only [hso,hk',aO,hc,cond_true]
        have key:∀(k1:K) (y:k1.den),s.tmps (fld p off)= .dat k1 y→(∀e' k'',k1≠ .sl e' k'')→k'.isPair=false→∃e,κ (Eff.app e s d)=some r∧Loc Γ ⟨d,.load t x,ty,pos,af,g⟩ s e:=fun k1 y hy hns hnp=>by
          have hl:∀(s2:FState) {γ:Type} (κ2:FState→Option γ),s2.tmps (fld p off)= .dat k1 y→mU Γ d s2 p off k' κ2=κ2 (s2.put d (.dat k1 y)):=fun s2 γ κ2 hy2=>by
            cases k' <;> first
              | (simp [K.isPair] at hnp;done)
              | (simp only [mU,hy2]
                 cases k1 <;> first
                   | rfl
                   | exact absurd rfl (hns _ _))
          rw [hl s κ hy] at h
          exact Loc.byVal h (fun k hk=>by simp [FV.refs] at hk) fun s2 hA γ κ2=>((hst s2 hA).2 κ2).trans (hl s2 κ2 ((hst s2 hA).1.trans hy))
        cases hy:s.tmps (fld p off) with
        | dat k1 y=>
          rw [hy] at hS
          refine key k1 y hy (fun e' k'' e1=>?_) ?_
          · subst e1;cases k' <;> simp at hS
          · cases k' <;> first | rfl | (simp at hS;done)
        | sl q wd nn=>
          rw [hy] at hS
          have hnp:k'.isPair=false:=by cases k' <;> first | rfl | (simp at hS;done)
          have hl:∀(s2:FState) {γ:Type} (κ2:FState→Option γ),s2.tmps (fld p off)= .sl q wd nn→mU Γ d s2 p off k' κ2=κ2 (s2.put d (.sl q wd nn)):=fun s2 γ κ2 hy2=>by
            cases k' <;> first
              | (simp [K.isPair] at hnp;done)
              | simp only [mU,hy2]
          rw [hl s κ hy] at h
          exact Loc.byVal h (fun k hk=>List.mem_append_right _ (by simp only [iO,hx,hy];exact hk)) fun s2 hA γ κ2=>((hst s2 hA).2 κ2).trans (hl s2 κ2 ((hst s2 hA).1.trans hy))
        | _=>rw [hy] at hS;cases k' <;> simp at hS
      · cases h
    · cases h
  case store t x y=>
    simp only [fO] at hS
    split at h
    · rename_i p i off hx
      split at h
      · rename_i k e xs ho
        obtain ⟨k',hk',h⟩:=aA h
        obtain ⟨u,h,hloc⟩:=gO h
        obtain ⟨z,hz,h0⟩:=aA h
        clear h
        have hopx:x∈(⟨none,.store t x y,ty,pos,af,g⟩:Oper).op.operands:=by simp [Op.operands]
        have hopy:y∈(⟨none,.store t x y,ty,pos,af,g⟩:Oper).op.operands:=by simp [Op.operands]
        have hpn:cV p (frz s [ev s y])=false∧κ ((aK (frz s [ev s y]) s).setO p (some (.row k e true (xs.set i.toNat z))))=some r:=by
          cases hm:cV p (frz s [ev s y]) with
          | true=>rw [hm] at h0;cases h0
          | false=>rw [hm] at h0;exact ⟨rfl,h0⟩
        obtain ⟨hpn,h⟩:=hpn
        have hp:p∈cC s ⟨none,.store t x y,ty,pos,af,g⟩:=aH (x:=x) hopx (by rw [hx];simp [FV.refs])
        have hids:∀k∈frz s [ev s y],k∈cC s ⟨none,.store t x y,ty,pos,af,g⟩:=fun k hk=>by
          obtain ⟨v,h1,h2⟩:=gF hk
          rw [List.mem_singleton.1 h1] at h2
          exact aH hopy h2
        refine ⟨⟨frz s [ev s y],[(p,.row k e true (xs.set i.toNat z))],.dead⟩,h,hids,fun q hq=>?_,fun ht=>by simp [dG] at ht,fun k hk=>by simp [FV.refs] at hk,fun s2 hA γ κ2=>?_⟩
        · simp at hq;subst hq;exact .inl hp
        · have hso:s2.objs p=_:=(hA.objs p hp).trans ho
          simp only [opK]
          rw [hA.ops x hopx,hA.ops y hopy,hx]
          simp only [hso,hk',aO]
          rw [hloc s2 (fun o ho=>hA.objs o (aH hopy ho)),oO (s:=s) (s2:=s2) (fun v hv o ho=>by rw [List.mem_singleton.1 hv] at ho;exact hA.objs o (aH hopy ho))]
          simp only [hz,hpn,cond_false]
          rfl
      · cases h
    · rename_i p off hx
      rw [hx] at hS
      simp [FV.isCp] at hS
    · cases h
  case makeMap t rs=>
    cases rs with
    | some x=>cases h
    | none=>
    obtain ⟨p,ka,kb,hp,hka,hkb,hk1,hk2,h⟩:=gH h
    obtain ⟨d',rfl,hn,h⟩:=aR h
    refine Loc.byRow h hn (fun k hk=>by simpa [FV.refs] using hk) fun s2 hA hn2 γ κ2=>?_
    simp only [opK,qW,hp,hka,hkb,hk1,hk2,aO,Bool.and_self,cond_true,Go.Proofs.YtoafkjeamgelgaaDoorHF.newRow,hn2]
  case lookup t x i ok=>
    have hopx:x∈(⟨d,.lookup t x i ok,ty,pos,af,g⟩:Oper).op.operands:=by simp [Op.operands]
    have hopi:i∈(⟨d,.lookup t x i ok,ty,pos,af,g⟩:Oper).op.operands:=by simp [Op.operands]
    obtain ⟨p,ka,kb,hp,hka,hkb,hk1,hk2,h⟩:=gH h
    obtain ⟨o,a',b',es,hx,ho,h⟩:=iZ h
    split at h
    · rename_i hab
      obtain ⟨rfl,rfl⟩:=hab
      obtain ⟨key,hi,h⟩:=bE h
      simp only at h
      refine Loc.byVal h (fun k hk=>by unfold qU at hk;cases ok <;> simp [FV.refs] at hk) fun s2 hA γ κ2=>?_
      have hso:s2.objs o=_:=(hA.objs o (aH hopx (by rw [hx];simp [FV.refs]))).trans ho
      simp only [opK,qW,hp,hka,hkb,hk1,hk2,aO,Bool.and_self,cond_true]
      rw [hA.ops x hopx,hA.ops i hopi,hx,hi]
      simp only [nA,hso,and_self,dite_true,cH]
    · cases h
  case mapUpdate t x i y=>
    have hopx:x∈(⟨d,.mapUpdate t x i y,ty,pos,af,g⟩:Oper).op.operands:=by simp [Op.operands]
    have hopi:i∈(⟨d,.mapUpdate t x i y,ty,pos,af,g⟩:Oper).op.operands:=by simp [Op.operands]
    have hopy:y∈(⟨d,.mapUpdate t x i y,ty,pos,af,g⟩:Oper).op.operands:=by simp [Op.operands]
    split at h
    · obtain ⟨p,ka,kb,hp,hka,hkb,hk1,hk2,h⟩:=gH h
      obtain ⟨o,a',b',es,hx,ho,h⟩:=iZ h
      split at h
      · rename_i hab
        obtain ⟨rfl,rfl⟩:=hab
        obtain ⟨key,hi,h⟩:=bE h
        obtain ⟨z,hz,h⟩:=bE h
        simp only at h
        have hp':o∈cC s ⟨none,.mapUpdate t x i y,ty,pos,af,g⟩:=aH hopx (by rw [hx];simp [FV.refs])
        refine ⟨⟨[],[(o,.mapo a' b' (rC key z es))],.dead⟩,h,fun k hk=>by simp at hk,fun q hq=>?_,fun ht=>by simp [dG] at ht,fun k hk=>by simp [FV.refs] at hk,fun s2 hA γ κ2=>?_⟩
        · simp at hq;subst hq;exact .inl hp'
        · have hso:s2.objs o=_:=(hA.objs o hp').trans ho
          simp only [opK,qW,hp,hka,hkb,hk1,hk2,aO,Bool.and_self,cond_true]
          rw [hA.ops x hopx,hA.ops i hopi,hA.ops y hopy,hx,hi,hz]
          simp only [nA,hso,and_self,dite_true,cH]
          rfl
      · cases h
    · cases h
  case nilCheck x=>
    split at h
    · rename_i p i off hx
      refine Loc.byVal (v:= .ptr p i off) h (fun k hk=>aH (x:=x) (by simp [Op.operands]) (by rw [hx];exact hk)) fun s2 hA γ κ2=>?_
      simp only [opK]
      rw [hA.ops x (by simp [Op.operands]),hx]
    · rename_i p off hx
      refine Loc.byVal (v:= .cp p off) h (fun k hk=>aH (x:=x) (by simp [Op.operands]) (by rw [hx];exact hk)) fun s2 hA γ κ2=>?_
      simp only [opK]
      rw [hA.ops x (by simp [Op.operands]),hx]
    · cases h
  case makeSlice t x y=>
    unfold wC at h
    obtain ⟨e,hse,h⟩:=aA h
    obtain ⟨k,hke,h⟩:=aA h
    obtain ⟨k1,l,hx,h⟩:=bM h
    obtain ⟨k2,c,hy,h⟩:=bM h
    obtain ⟨h1,h2,h3,h⟩:=fU h
    obtain ⟨hr,h⟩:=sS h
    obtain ⟨d',rfl,hn,h⟩:=aR h
    refine Loc.byRow h hn (fun k hk=>by simpa [FV.refs] using hk) fun s2 hA hn2 γ κ2=>?_
    simp only [opK]
    rw [hA.ops x (by simp [Op.operands]),hA.ops y (by simp [Op.operands]),hx,hy]
    simp only [wC,hse,hke,aO,eS,bnd,h1,h2,h3,LI,hr,if_true,Go.Proofs.YtoafkjeamgelgaaDoorHF.newRow,hn2]
  case range t x=>
    unfold qP at h
    obtain ⟨z,hx,h⟩:=iY h
    obtain ⟨ht,h⟩:=aI h
    obtain ⟨d',rfl,hn,h⟩:=aR h
    refine Loc.byRow h hn (fun k hk=>by simpa [FV.refs] using hk) fun s2 hA hn2 γ κ2=>?_
    simp only [opK]
    rw [hA.ops x (by simp [Op.operands]),hx]
    simp only [qP,rR,ht,if_true,Go.Proofs.YtoafkjeamgelgaaDoorHF.newRow,hn2]
  case next x b=>
    cases b with
    | false=>cases h
    | true=>
      simp only at h
      unfold sN at h
      split at h
      · rename_i p hx
        split at h
        · rename_i z q ho
          have hp:p∈cC s ⟨d,.next x true,ty,pos,af,g⟩:=aH (x:=x) (by simp [Op.operands]) (by rw [hx];simp [FV.refs])
          cases hb:Nat.blt q z.size with
          | true=>
            rw [hb,cond_true] at h
            refine ⟨⟨[],[(p,.siter z (q+(Utf8.decode z q).2))],_⟩,h,fun k hk=>by simp at hk,fun q' hq=>?_,fun ht=>by simp [dG] at ht,fun k hk=>by simp [FV.refs] at hk,fun s2 hA γ κ2=>?_⟩
            · simp at hq;subst hq;exact .inl hp
            · have hso:s2.objs p=_:=(hA.objs p hp).trans ho
              simp only [opK]
              rw [hA.ops x (by simp [Op.operands]),hx]
              simp only [sN,hso,hb,cond_true]
              rfl
          | false=>
            rw [hb,cond_false] at h
            refine ⟨⟨[],[],_⟩,h,fun k hk=>by simp at hk,fun q' hq=>by simp at hq,fun ht=>by simp [dG] at ht,fun k hk=>by simp [FV.refs] at hk,fun s2 hA γ κ2=>?_⟩
            have hso:s2.objs p=_:=(hA.objs p hp).trans ho
            simp only [opK]
            rw [hA.ops x (by simp [Op.operands]),hx]
            simp only [sN,hso,hb,cond_false]
            rfl
        · cases h
      · cases h
  case slice t x lo hi mx=>
    cases mx with
    | some m=>cases h
    | none=>
      have hlo:∀s2,iB ⟨d,.slice t x lo hi none,ty,pos,af,g⟩ s s2→lo.map (ev s2)=lo.map (ev s):=fun s2 hA=>by
        cases lo with
        | none=>rfl
        | some lo=>simp only [Option.map];rw [hA.ops lo (by simp [Op.operands])]
      have hhi:∀s2,iB ⟨d,.slice t x lo hi none,ty,pos,af,g⟩ s s2→hi.map (ev s2)=hi.map (ev s):=fun s2 hA=>by
        cases hi with
        | none=>rfl
        | some hi=>simp only [Option.map];rw [hA.ops hi (by simp [Op.operands])]
      simp only at h
      unfold jX at h
      split at h
      · rename_i z hx
        obtain ⟨ht,h⟩:=aI h
        obtain ⟨A,B,h,h2⟩:=sF h
        refine Loc.byVal (v:= .dat .str (dY z A B)) h (fun k hk=>by simp [FV.refs] at hk) fun s2 hA γ κ2=>?_
        simp only [opK]
        rw [hlo s2 hA,hhi s2 hA,hA.ops x (by simp [Op.operands]),hx]
        simp only [jX,ht,if_true]
        rw [h2]
      · obtain ⟨o,wn,nn,k,e,rw_,xs,hx,ho,h⟩:=aX h
        obtain ⟨ht,h⟩:=aI h
        obtain ⟨A,B,h,h2⟩:=sF h
        have hor:o∈cC s ⟨d,.slice t x lo hi none,ty,pos,af,g⟩:=aH (x:=x) (by simp [Op.operands]) (by rw [hx];simp [FV.refs])
        cases rw_ with
        | true=>
          simp only [cond_true] at h
          refine Loc.byVal (v:= .sl o (some (bB wn A,B - A)) false) h (fun k hk=>by simp [FV.refs] at hk;subst hk;exact hor) fun s2 hA γ κ2=>?_
          have hso:s2.objs o=_:=(hA.objs o hor).trans ho
          simp only [opK]
          rw [hlo s2 hA,hhi s2 hA,hA.ops x (by simp [Op.operands]),hx]
          simp only [jX,eE,hso,ht,if_true]
          rw [h2]
          rfl
        | false=>
          simp only [cond_false] at h
          obtain ⟨d',rfl,hn,h⟩:=aR h
          refine Loc.byRow h hn (fun k hk=>by simpa [FV.refs] using hk) fun s2 hA hn2 γ κ2=>?_
          have hso:s2.objs o=_:=(hA.objs o hor).trans ho
          simp only [opK]
          rw [hlo s2 hA,hhi s2 hA,hA.ops x (by simp [Op.operands]),hx]
          simp only [jX,eE,hso,ht,if_true]
          rw [h2]
          simp only [cond_false,Go.Proofs.YtoafkjeamgelgaaDoorHF.newRow,hn2]
  case fieldAddr t x j=>
    split at h
    · rename_i p i off hx
      obtain ⟨⟨q,ft⟩,hf,h⟩:=aA h
      obtain ⟨k',hk',h⟩:=aA h
      refine Loc.byVal (v:= .ptr p i (off+q)) h (fun k hk=>aH (x:=x) (by simp [Op.operands]) (by rw [hx];exact hk)) fun s2 hA γ κ2=>?_
      simp only [opK]
      rw [hA.ops x (by simp [Op.operands]),hx]
      simp only [hf,aO,hk']
    · rename_i p off hx
      split at h
      · rename_i k e ho
        obtain ⟨⟨q,ft⟩,hf,h⟩:=aA h
        obtain ⟨k',hk',h⟩:=aA h
        obtain ⟨hc,h⟩:=aL h
        refine Loc.byVal (v:= .cp p (off+q)) h (fun k hk=>aH (x:=x) (by simp [Op.operands]) (by rw [hx];exact hk)) fun s2 hA γ κ2=>?_
        have hso:s2.objs p=_:=(hA.objs p (aH (x:=x) (by simp [Op.operands]) (by rw [hx];simp [FV.refs]))).trans ho
        simp only [opK]
        rw [hA.ops x (by simp [Op.operands]),hx]
        simp only [hso,hf,aO,hk',hc,cond_true]
      · cases h
    · cases h
  case field t x j=>
    split at h
    · rename_i k1 k2 y hx
      obtain ⟨⟨q,ft⟩,hf,h⟩:=aA h
      obtain ⟨k',hk',h⟩:=aA h
      obtain ⟨z,hz,h⟩:=aA h
      have hst:∀s2,iB ⟨d,.field t x j,ty,pos,af,g⟩ s s2→∀{γ:Type} (κ2:FState→Option γ),opK Γ ⟨d,.field t x j,ty,pos,af,g⟩ s2 κ2=putD Γ d s2 k' z κ2:=fun s2 hA γ κ2=>by
        simp only [opK]
        rw [hA.ops x (by simp [Op.operands]),hx]
        simp only [hf,aO,hk',hz]
      rcases xU h with ⟨v,hv,h1,h2⟩ | ⟨d',obj,v,rfl,hn,hv,h1,h2⟩
      · exact Loc.byVal h1 (fun k hk=>by rw [hv] at hk;simp at hk) fun s2 hA γ κ2=>(hst s2 hA κ2).trans (h2 s2 κ2)
      · exact Loc.byRow h1 hn hv fun s2 hA hn2 γ κ2=>(hst s2 hA κ2).trans (h2 s2 hn2 κ2)
    · cases h
  case indexAddr t x ix=>
    obtain ⟨o,wn,nn,k,e,rw_,xs,hx,ho,h⟩:=aX h
    obtain ⟨ht,h⟩:=aI h
    obtain ⟨ik,i,hi,h⟩:=bM h
    obtain ⟨h0,h1,h⟩:=jC h
    have hor:o∈cC s ⟨d,.indexAddr t x ix,ty,pos,af,g⟩:=aH (x:=x) (by simp [Op.operands]) (by rw [hx];simp [FV.refs])
    refine Loc.byVal (v:= .ptr o (bB wn i) 0) h (fun k hk=>by simp [FV.refs] at hk;subst hk;exact hor) fun s2 hA γ κ2=>?_
    have hso:s2.objs o=_:=(hA.objs o hor).trans ho
    simp only [opK]
    rw [hA.ops x (by simp [Op.operands]),hA.ops ix (by simp [Op.operands]),hx,hi]
    simp only [eE,hso,ht,if_true,eS,idx,h0,h1]
  case index t x ix=>
    obtain ⟨z,hx,h⟩:=iY h
    obtain ⟨ht,h⟩:=aI h
    obtain ⟨ik,i,hi,h⟩:=bM h
    obtain ⟨h0,h1,h⟩:=jC h
    refine Loc.byVal (v:= .dat (.int .u8) (byteAt z i)) h (fun k hk=>by simp [FV.refs] at hk) fun s2 hA γ κ2=>?_
    simp only [opK]
    rw [hA.ops x (by simp [Op.operands]),hA.ops ix (by simp [Op.operands]),hx,hi]
    simp only [rR,ht,if_true,eS,idx,h0,h1]
  case extract x j=>
    have key:∀(f:FV),(∀k∈f.refs,k∈(ev s x).refs)→κ (s.put d f)=some r→(∀s2,iB ⟨d,.extract x j,ty,pos,af,g⟩ s s2→∀{γ:Type} (κ2:FState→Option γ),opK Γ ⟨d,.extract x j,ty,pos,af,g⟩ s2 κ2=κ2 (s2.put d f))→
        ∃e,κ (Eff.app e s d)=some r∧Loc Γ ⟨d,.extract x j,ty,pos,af,g⟩ s e:=fun f hf hk hs=>
      Loc.byVal (v:=f) hk (fun k hk=>aH (x:=x) (by simp [Op.operands]) (hf k hk)) hs
    split at h
    · rename_i y z hx
      refine key y (fun k hk=>by rw [hx];simp [FV.refs,hk]) h (fun s2 hA γ κ2=>?_)
      simp only [opK]
      rw [hA.ops x (by simp [Op.operands]),hx]
      rfl
    · rename_i y0 y z hx
      refine key y (fun k hk=>by rw [hx];simp [FV.refs,hk]) h (fun s2 hA γ κ2=>?_)
      simp only [opK]
      rw [hA.ops x (by simp [Op.operands]),hx]
      rfl
    · rename_i y0 y1 y z hx
      refine key y (fun k hk=>by rw [hx];simp [FV.refs,hk]) h (fun s2 hA γ κ2=>?_)
      simp only [opK]
      rw [hA.ops x (by simp [Op.operands]),hx]
      rfl
    · cases h
  case call c=>
    obtain ⟨callee,args,ats⟩:=c
    obtain ⟨args⟩:=args
    obtain ⟨ats⟩:=ats
    simp only at h
    split at h
    · split at h
      · rename_i x t
        have hop:x∈(⟨d,.call {callee:= .builtin .len,args:=#[x],argTypes:=#[t]},ty,pos,af,g⟩:Oper).op.operands:=by simp [Op.operands,Call.operands]
        split at h
        · rename_i z hx
          obtain ⟨ht,h⟩:=aI h
          refine Loc.byVal (v:= .dat (.int .i64) (z.size:Int)) h (fun k hk=>by simp [FV.refs] at hk) fun s2 hA γ κ2=>?_
          simp only [opK]
          rw [hA.ops x hop,hx]
          simp only [ht,if_true]
        · rename_i hx
          obtain ⟨e,he,h⟩:=aA h
          refine Loc.byVal (v:= .dat (.int .i64) (0:Int)) h (fun k hk=>by simp [FV.refs] at hk) fun s2 hA γ κ2=>?_
          simp only [opK]
          rw [hA.ops x hop,hx]
          simp only [he,aO]
        · obtain ⟨o,wn,nn,k,e,rw_,xs,hx,ho,h⟩:=aX h
          obtain ⟨e',he,h⟩:=aA h
          refine Loc.byVal (v:= .dat (.int .i64) (bK xs wn)) h (fun k hk=>by simp [FV.refs] at hk) fun s2 hA γ κ2=>?_
          have hso:s2.objs o=_:=(hA.objs o (aH (x:=x) hop (by rw [hx];simp [FV.refs]))).trans ho
          simp only [opK]
          rw [hA.ops x hop,hx]
          simp only [eE,hso,he,aO]
      · cases h
    · split at h
      · rename_i x y t u
        have hopx:x∈(⟨d,.call {callee:= .builtin .append,args:=#[x,y],argTypes:=#[t,u]},ty,pos,af,g⟩:Oper).op.operands:=by simp [Op.operands,Call.operands]
        have hopy:y∈(⟨d,.call {callee:= .builtin .append,args:=#[x,y],argTypes:=#[t,u]},ty,pos,af,g⟩:Oper).op.operands:=by simp [Op.operands,Call.operands]
        unfold iW at h
        obtain ⟨e,hse,h⟩:=aA h
        obtain ⟨k,hke,h⟩:=aA h
        obtain ⟨ys,h,hsrc⟩:=LY h
        split at h
        · rename_i hx
          obtain ⟨hroom,h⟩:=eX h
          obtain ⟨d',rfl,hn,h⟩:=aR h
          refine Loc.byRow h hn (fun k hk=>by simpa [FV.refs] using hk) fun s2 hA hn2 γ κ2=>?_
          simp only [opK]
          rw [hA.ops x hopx,hA.ops y hopy]
          simp only [iW,hse,hke,aO]
          rw [hsrc s2 (fun o ho=>hA.objs o (aH hopy ho)),hx]
          simp only [dS,hroom,if_true,Go.Proofs.YtoafkjeamgelgaaDoorHF.newRow,hn2]
        · obtain ⟨o,wn,nn,k',e',rw_,xs,hx,ho,h⟩:=aX h
          have hh:=aI h
          clear h
          obtain ⟨⟨hr,he⟩,h⟩:=hh
          have hh:=aP h
          clear h
          obtain ⟨hk,h⟩:=hh
          subst hr
          subst he
          subst hk
          simp only at h
          obtain ⟨hroom,h⟩:=eX h
          have hor:o∈cC s ⟨d,.call {callee:= .builtin .append,args:=#[x,y],argTypes:=#[t,u]},ty,pos,af,g⟩:=aH (x:=x) hopx (by rw [hx];simp [FV.refs])
          refine ⟨⟨[o],[(o,.row k' e' true (win xs wn++ys))],.sl o none false⟩,h,fun k hk=>?_,fun q hq=>?_,fun ht=>by simp [dG] at ht,fun k hk=>?_,fun s2 hA γ κ2=>?_⟩
          · simp at hk;subst hk;exact hor
          · simp at hq;subst hq;exact .inl hor
          · simp [FV.refs] at hk;subst hk;exact .inr (by simp)
          · have hso:s2.objs o=_:=(hA.objs o hor).trans ho
            simp only [opK]
            rw [hA.ops x hopx,hA.ops y hopy]
            simp only [iW,hse,hke,aO]
            rw [hsrc s2 (fun o ho=>hA.objs o (aH hopy ho)),hx]
            simp only [eE,hso,cG,dS,hroom,if_true,and_self,dite_true]
            rfl
      · cases h
    · split at h
      · rename_i x y t u
        have hopx:x∈(⟨d,.call {callee:= .builtin .copy,args:=#[x,y],argTypes:=#[t,u]},ty,pos,af,g⟩:Oper).op.operands:=by simp [Op.operands,Call.operands]
        have hopy:y∈(⟨d,.call {callee:= .builtin .copy,args:=#[x,y],argTypes:=#[t,u]},ty,pos,af,g⟩:Oper).op.operands:=by simp [Op.operands,Call.operands]
        unfold xJ at h
        obtain ⟨e,hse,h⟩:=aA h
        obtain ⟨k,hke,h⟩:=aA h
        obtain ⟨o,wn,nn,k1,e1,rw1,xs,hx,ho,h⟩:=aX h
        have hh:=aI h
        clear h
        obtain ⟨⟨hrw,he1⟩,h⟩:=hh
        subst hrw
        subst he1
        have hh:=aP h
        clear h
        obtain ⟨hk1,h⟩:=hh
        subst hk1
        obtain ⟨o2,wn2,nn2,k2,e2,rw2,ys,hy,ho2,h⟩:=aX h
        have hh:=aP h
        clear h
        obtain ⟨hk2,h⟩:=hh
        subst hk2
        simp only at h
        have hp:o∈cC s ⟨d,.call {callee:= .builtin .copy,args:=#[x,y],argTypes:=#[t,u]},ty,pos,af,g⟩:=aH (x:=x) hopx (by rw [hx];simp [FV.refs])
        have hp2:o2∈cC s ⟨d,.call {callee:= .builtin .copy,args:=#[x,y],argTypes:=#[t,u]},ty,pos,af,g⟩:=aH (x:=y) hopy (by rw [hy];simp [FV.refs])
        refine ⟨⟨[],[(o,.row k2 e1 true (eM xs (bB wn 0) (bK xs wn) (win ys wn2)))],_⟩,h,fun k hk=>by simp at hk,fun q' hq=>?_,fun ht=>by simp [dG] at ht,fun k hk=>by simp [FV.refs] at hk,fun s2 hA γ κ2=>?_⟩
        · simp at hq;subst hq;exact .inl hp
        · have hso:s2.objs o=_:=(hA.objs o hp).trans ho
          have hso2:s2.objs o2=_:=(hA.objs o2 hp2).trans ho2
          simp only [opK]
          rw [hA.ops x hopx,hA.ops y hopy,hx,hy]
          simp only [xJ,hse,hke,aO,eE,hso,hso2,cG,if_true,and_self,dite_true]
          rfl
      · cases h
    · split at h
      · rename_i x y
        obtain ⟨k,v,h,h2⟩:=xP h
        refine Loc.byVal (v:= .dat k v) h (fun k hk=>by simp [FV.refs] at hk) fun s2 hA γ κ2=>?_
        simp only [opK]
        rw [hA.ops x (by simp [Op.operands,Call.operands]),hA.ops y (by simp [Op.operands,Call.operands]),h2]
      · cases h
    · split at h
      · rename_i x y
        obtain ⟨k,v,h,h2⟩:=xP h
        refine Loc.byVal (v:= .dat k v) h (fun k hk=>by simp [FV.refs] at hk) fun s2 hA γ κ2=>?_
        simp only [opK]
        rw [hA.ops x (by simp [Op.operands,Call.operands]),hA.ops y (by simp [Op.operands,Call.operands]),h2]
      · cases h
    · rename_i fo
      have hS0:=hS
      clear hS
      split at h
      · rename_i f hf
        obtain ⟨S,hS,h⟩:=aA h
        have hopf:fo∈(⟨d,.call {callee:= .value fo,args:=⟨args⟩,argTypes:=⟨ats⟩},ty,pos,af,g⟩:Oper).op.operands:=by simp [Op.operands,Call.operands]
        have hopa:∀x∈args,x∈(⟨d,.call {callee:= .value fo,args:=⟨args⟩,argTypes:=⟨ats⟩},ty,pos,af,g⟩:Oper).op.operands:=fun x hx=>by simp [Op.operands,Call.operands,hx]
        have hB:S.args.any AK.isB=false:=by simpa [fO,hf,hS] using hS0
        rcases d with _ | d
        · simp [sL,hB] at h
        unfold sL at h
        rw [hB,cond_false] at h
        simp only at h
        obtain ⟨hc,h⟩:=aL h
        obtain ⟨dd,h,hargs⟩:=dB _ _ hB h
        obtain ⟨x,hx,hput⟩:=hN.nat f S hS _ _ _ h
        obtain ⟨l,v,h,hl,hv,hsame⟩:=dR _ _ _ _ hput
        have hids:∀k∈bT S.args (args.map (ev s)),k∈cC s ⟨some d,.call {callee:= .value fo,args:=⟨args⟩,argTypes:=⟨ats⟩},ty,pos,af,g⟩:=fun k hk=>by
          obtain ⟨v',hv',hk'⟩:=cM _ _ k hk
          obtain ⟨x',hx',rfl⟩:=List.mem_map.1 hv'
          exact aH (hopa x' hx') hk'
        have hrids:∀k∈aV S.args (args.map (ev s)),k∈cC s ⟨some d,.call {callee:= .value fo,args:=⟨args⟩,argTypes:=⟨ats⟩},ty,pos,af,g⟩:=fun k hk=>by
          obtain ⟨v',hv',hk'⟩:=bZ _ _ k hk
          obtain ⟨x',hx',rfl⟩:=List.mem_map.1 hv'
          exact aH (hopa x' hx') hk'
        have hdj:∀o∈bT S.args (args.map (ev s)),o∉aV S.args (args.map (ev s)):=fun o ho hr=>by
          simp only [Bool.and_eq_true,List.all_eq_true] at hc
          have:=hc.1.2 o ho
          rw [aZ hr] at this
          simp at this
        have happ:∀s2:FState,(∀o∈aV S.args (args.map (ev s)),s2.objs o=s.objs o)→Eff.app ⟨bT S.args (args.map (ev s)),l,fZ v⟩ (downFor S (args.map (ev s)) s2) (some d)=Eff.app ⟨bT S.args (args.map (ev s)),fA S (args.map (ev s)) s++l,fZ v⟩ s2 (some d):=fun s2 ho=>by
          unfold Eff.app
          simp only
          rw [sB,jU,mZ ho,rH (fun p hp hm=>hdj _ hm (kT p hp))]
        have hnone:∀(s2:FState) k,(downFor S (args.map (ev s)) s2).objs k=none↔s2.objs k=none:=fun s2 k=>sX
        refine ⟨⟨bT S.args (args.map (ev s)),fA S (args.map (ev s)) s++l,fZ v⟩,by rw [←happ s (fun _ _=>rfl)];exact h,hids,fun p hp=>?_,fun ht=>?_,fun k hk=> .inr (by rw [List.map_append];exact List.mem_append_right _ (hv k (xB v k hk))),fun s2 hA γ κ2=>?_⟩
        · rcases List.mem_append.1 hp with hp | hp
          · exact .inl (hrids _ (kT p hp))
          · obtain ⟨h1,i,h2⟩:=hl p hp
            rw [bP] at h1
            split at h1
            · rename_i hm;exact .inl (hids _ hm)
            · exact .inr ⟨(hnone s _).1 h1,d,i,rfl,h2⟩
        · simp only [dG,hf,hS,Bool.not_eq_false',Bool.and_eq_true,Bool.or_eq_true] at ht
          have he:bT S.args (args.map (ev s))=[]:=by simpa using ht.1
          have hD:fA S (args.map (ev s)) s=[]:=by
            unfold fA
            rcases ht.2 with h1 | h1
            · rw [h1];rfl
            · rw [show aV S.args (args.map (ev s))=[] by simpa using h1];cases S.rets.all RK.flat <;> rfl
          refine ⟨he,fun p hp=>?_⟩
          rw [hD,List.nil_append] at hp
          obtain ⟨h1,i,h2⟩:=hl p hp
          rw [he] at h1
          exact ⟨(hnone s _).1 h1,d,i,rfl,h2⟩
        · have hm:args.map (ev s2)=args.map (ev s):=List.map_congr_left fun x hx=>hA.ops x (hopa x hx)
          have hobj0:∀v∈args.map (ev s),∀o∈v.refs,s2.objs o=s.objs o:=fun v hv o ho=>by
            obtain ⟨x',hx',rfl⟩:=List.mem_map.1 hv
            exact hA.objs o (aH (hopa x' hx') ho)
          have hro0:∀o∈aV S.args (args.map (ev s)),s2.objs o=s.objs o:=fun o ho=>hA.objs o (hrids o ho)
          have hobj:∀v∈args.map (ev s),∀o∈v.refs,(downFor S (args.map (ev s)) s2).objs o=(downFor S (args.map (ev s)) s).objs o:=fun v hv o ho=>by
            rw [jU,jU,mZ hro0]
            exact pU _ (hobj0 v hv o ho)
          have hro:(aV S.args (args.map (ev s))).all (fJ (downFor S (args.map (ev s)) s2))=(aV S.args (args.map (ev s))).all (fJ (downFor S (args.map (ev s)) s)):=by
            have:∀o∈aV S.args (args.map (ev s)),fJ (downFor S (args.map (ev s)) s2) o=fJ (downFor S (args.map (ev s)) s) o:=fun o ho=>by
              obtain ⟨v',hv',hk'⟩:=bZ _ _ o ho
              unfold fJ
              rw [hobj v' hv' o hk']
            rw [Bool.eq_iff_iff,List.all_eq_true,List.all_eq_true]
            exact ⟨fun h o ho=>(this o ho) ▸ h o ho,fun h o ho=>(this o ho).symm ▸ h o ho⟩
          rw [←happ s2 hro0]
          simp only [opK]
          rw [hA.ops fo hopf,hf]
          simp only [aO,hS,sL,hm,hB,cond_false]
          rw [hro,hc]
          simp only [cond_true]
          rw [hargs _ hobj,hN.app f S hS dd x hx,hsame (aK (bT S.args (args.map (ev s))) (downFor S (args.map (ev s)) s2)) (fun i hi=>?_)]
          · rfl
          · rw [bP] at hi ⊢
            split at hi
            · rename_i hm';rw [if_pos hm']
            · rename_i hm';rw [if_neg hm'];exact (hnone s2 _).2 (hA.new _ ⟨d,i,rfl,rfl⟩ ((hnone s _).1 hi))
      · cases h
    · cases h
  all_goals cases h
end
end Go.Proofs.YtoafkjeamgelgaaDoorHF

namespace Go.Proofs.YtoafkjeamgelgaaDoorHF
open Go
set_option linter.unusedVariables false
set_option linter.unusedSimpArgs false
theorem pT {s:FState} {d:Nat} {v:FV} (h:s.tmps d=v):s.set d v=s:=by
 unfold FState.set
 have:(fun t=>bif Nat.beq t d then v else s.tmps t)=s.tmps:=by
  funext t
  by_cases e:t=d
  ·subst e;simp [Nat.beq_refl,h]
  ·simp [cF e]
 rw [this]
def eR (all:List Oper) (o:Oper):Option Tmp:=match o.guard with | some (j,_)=>(all[j]?).bind (·.dst) | none=>none
def MN:dX:=⟨false,[],true,false⟩
def nL (Γ:Ctx) (s:FState) (o:Oper) (wd:Bool):dX:=bif wd then eO Γ s o else MN
structure GLoc (Γ:Ctx) (all:List Oper) (o:Oper) (s:FState) (wd:Bool) (e:Eff) (inf:dX):Prop where
 g6:∀d,eR all o=some d→d < 1000000
 hinf:inf=nL Γ s o wd
 gt:∀d,eR all o=some d→(∃b,s.tmps d= .dat .bool b)∨s.tmps d= .tnil
 ids:∀k∈e.ids,k∈inf.refs
 l:∀p∈e.l,p.1∈inf.refs∨(s.objs p.1=none∧named o.dst p.1)
 quiet:inf.touch=false→e.ids=[]∧∀p∈e.l,s.objs p.1=none∧named o.dst p.1
 v:∀k∈e.v.refs,(k∈inf.refs∧k∉e.ids)∨k∈e.l.map (·.1)
 same:∀s2:FState,(∀d,eR all o=some d→s2.tmps d=s.tmps d)→(wd=true→∀x∈o.op.operands,ev s2 x=ev s x)→(∀k∈inf.refs,s2.objs k=s.objs k)→(∀k,named o.dst k→s.objs k=none→s2.objs k=none)→(inf.cel=true→∀t,¬t < 1000000→s2.tmps t=s.tmps t)→
  ∀{γ:Type} (κ2:Bool→FState→FState→Option γ),gK Γ all o s2 κ2=κ2 wd s2 (e.app s2 o.dst)
section
variable {Γ:Ctx} {all:List Oper} {s:FState} {β:Type} {r:β}
theorem xS {o:Oper} {s s2:FState} (h:∀x∈o.op.operands,ev s2 x=ev s x) (hc:(o.op.operands.toList.map (ev s)).any FV.isCp=true→∀t,¬t < 1000000→s2.tmps t=s.tmps t):iO s2 o=iO s o:=by
 obtain ⟨d,op,ty,pos,af,g⟩:=o
 cases op with
 | load t x=>
  have hx:ev s2 x=ev s x:=h x (by simp [Op.operands])
  simp only [iO,hx]
  cases hv:ev s x with
  | cp p off=>
   simp only
   rw [hc (by simp [Op.operands,hv,FV.isCp]) _ (tR p off)]
  | _=>rfl
 | _=>rfl
theorem mT {o:Oper} {s s2:FState} (h:∀x∈o.op.operands,ev s2 x=ev s x) (hc:(o.op.operands.toList.map (ev s)).any FV.isCp=true→∀t,¬t < 1000000→s2.tmps t=s.tmps t):eO Γ s2 o=eO Γ s o:=by
 have hx:=xS h hc
 have hm:o.op.operands.toList.map (ev s2)=o.op.operands.toList.map (ev s):=List.map_congr_left fun x hx=>h x (by simpa using hx)
 have ht:dG Γ s2 o=dG Γ s o:=by
  unfold dG
  obtain ⟨d,op,ty,pos,af,g⟩:=o
  cases op with
  | call c=>
   obtain ⟨callee,args,ats⟩:=c
   cases callee with
   | value f=>
    have hf:ev s2 f=ev s f:=h f (by simp [Op.operands,Call.operands])
    have ha:args.toList.map (ev s2)=args.toList.map (ev s):=List.map_congr_left fun x hx=>h x (by simp [Op.operands,Call.operands];exact .inr (by simpa using hx))
    simp only [hf,ha]
   | builtin b=>cases b <;> rfl
   | invoke x m=>rfl
  | box t x=>
   have hx:ev s2 x=ev s x:=h x (by simp [Op.operands])
   simp only [hx]
  | build t ps=>
   have:(ps.toList.map fun p=>ev s2 p.2)=ps.toList.map fun p=>ev s p.2:=List.map_congr_left fun p hp=>h p.2 (by simp [Op.operands];exact ⟨p.1,by simpa using hp⟩)
   simp only [this]
  | buildSlice t n ps=>
   have:(ps.toList.map fun p=>ev s2 p.2)=ps.toList.map fun p=>ev s p.2:=List.map_congr_left fun p hp=>h p.2 (by simp [Op.operands];exact ⟨p.1,by simpa using hp⟩)
   simp only [this]
  | _=>rfl
 simp only [eO,hm,ht,hx]
theorem WL (hN:jL Γ) (h6:∀o∈all,∀d,o.dst=some d→d < 1000000) (o:Oper) (hS:fO Γ s o=true) {κ:Bool→FState→FState→Option β} (h:gK Γ all o s κ=some r):∃wd e inf,κ wd s (e.app s o.dst)=some r∧GLoc Γ all o s wd e inf:=by
 unfold gK at h
 split at h
 ·rename_i hg
  obtain ⟨e,h,hL⟩:=CS hN o hS h
  refine ⟨true,e,_,h,fun d hd=>by simp [eR,hg] at hd,rfl,fun d hd=>by simp [eR,hg] at hd,hL.ids,hL.l,hL.quiet,hL.v,fun s2 _ h2 h3 h4 h5 γ κ2=>?_⟩
  unfold gK
  rw [hg]
  exact hL.same s2 ⟨h5,h2 rfl,h3,h4⟩ _
 ·rename_i j want hg
  split at h
  ·cases h
  ·rename_i d hd
   have hgt:eR all o=some d:=by simp [eR,hg,hd]
   have hg6:∀d',eR all o=some d'→d' < 1000000:=fun d' hd'=>by
    rw [hgt] at hd'
    cases hd'
    cases ha:all[j]? with
    | none=>rw [ha] at hd;cases hd
    | some q=>
     rw [ha] at hd
     exact h6 q (List.mem_of_getElem? ha) d hd
   split at h
   ·rename_i b hb
    rw [show (cond b _ _:Option β)=(fun s=>bif b==want then opK Γ o s fun s'=>κ true s s' else κ false s (s.put o.dst .tnil)) (s.set d (.dat .bool b)) by cases b <;> rfl] at h
    rw [pT hb] at h
    simp only at h
    have key:∀s2:FState,s2.tmps d=s.tmps d→∀{γ:Type} (κ2:Bool→FState→FState→Option γ),gK Γ all o s2 κ2=bif b==want then opK Γ o s2 fun s'=>κ2 true s2 s' else κ2 false s2 (s2.put o.dst .tnil):=fun s2 h1 γ κ2=>by
     unfold gK
     rw [hg]
     simp only [hd]
     rw [h1,hb]
     simp only
     rw [show (cond b _ _:Option γ)=(fun s=>bif b==want then opK Γ o s fun s'=>κ2 true s s' else κ2 false s (s.put o.dst .tnil)) (s2.set d (.dat .bool b)) by cases b <;> rfl]
     rw [pT (h1.trans hb)]
    cases hw:(b==want) with
    | true=>
     rw [hw] at h
     simp only [cond_true] at h
     obtain ⟨e,h,hL⟩:=CS hN o hS h
     refine ⟨true,e,_,h,hg6,rfl,fun d' hd'=> .inl ⟨b,by rw [hgt] at hd';cases hd';exact hb⟩,hL.ids,hL.l,hL.quiet,hL.v,fun s2 h1 h2 h3 h4 h5 γ κ2=>?_⟩
     rw [key s2 (h1 d hgt),hw]
     exact hL.same s2 ⟨h5,h2 rfl,h3,h4⟩ _
    | false=>
     rw [hw] at h
     simp only [cond_false] at h
     refine ⟨false,⟨[],[],.tnil⟩,_,h,hg6,rfl,fun d' hd'=> .inl ⟨b,by rw [hgt] at hd';cases hd';exact hb⟩,fun k hk=>by simp at hk,fun p hp=>by simp at hp,fun _=>⟨rfl,fun p hp=>by simp at hp⟩,fun k hk=>by simp [FV.refs] at hk,fun s2 h1 h2 h3 h4 _ γ κ2=>?_⟩
     rw [key s2 (h1 d hgt),hw]
     rfl
   ·rename_i hb
    refine ⟨false,⟨[],[],.tnil⟩,_,h,hg6,rfl,fun d' hd'=> .inr (by rw [hgt] at hd';cases hd';exact hb),fun k hk=>by simp at hk,fun p hp=>by simp at hp,fun _=>⟨rfl,fun p hp=>by simp at hp⟩,fun k hk=>by simp [FV.refs] at hk,fun s2 h1 h2 h3 h4 _ γ κ2=>?_⟩
    unfold gK
    rw [hg]
    simp only [hd]
    rw [h1 d hgt,hb]
    rfl
   ·cases h
def FV.killL:List Nat→FV→FV
 | [],f=>f
 | o::l,f=>FV.killL l (f.kill o)
def FV.killP (t:Nat):List Nat→FV→FV
 | [],f=>f
 | o::l,f=>FV.killP t l (bif dK o t then .dead else f.kill o)
theorem gP:∀(l:List Nat) (s:FState) (t:Nat),(aK l s).tmps t=FV.killP t l (s.tmps t)
 | [],s,t=>rfl
 | o::l,s,t=>by rw [aK,gP l];rfl
theorem gG {t:Nat} (h:t < 1000000):∀(l:List Nat) (f:FV),FV.killP t l f=FV.killL l f
 | [],f=>rfl
 | o::l,f=>by rw [FV.killP,zC h,gG h l];rfl
theorem oZ (t:Nat):∀(l:List Nat),FV.killP t l .dead= .dead
 | []=>rfl
 | o::l=>by
  rw [FV.killP]
  cases dK o t <;> exact oZ t l
theorem kK {o:Nat}:∀{f:FV},o∉f.refs→f.kill o=f
 | .sl p w nn,h=>by simp [FV.refs] at h;simp [FV.kill,cF (fun e=>h e.symm)]
 | .ptr p i off,h=>by simp [FV.refs] at h;simp [FV.kill,cF (fun e=>h e.symm)]
 | .mp p,h=>by simp [FV.refs] at h;simp [FV.kill,cF (fun e=>h e.symm)]
 | .cp p off,h=>by simp [FV.refs] at h;simp [FV.kill,cF (fun e=>h e.symm)]
 | .it p,h=>by simp [FV.refs] at h;simp [FV.kill,cF (fun e=>h e.symm)]
 | .tcons a b,h=>by
  simp only [FV.refs,List.mem_append,not_or] at h
  simp [FV.kill,kK h.1,kK h.2]
 | .dead,_ | .dat _ _,_ | .nsl,_ | .nilp,_ | .nilif,_ | .tnil,_ | .fn _,_ | .glob _,_ | .zer _,_=>rfl
theorem dQ:∀{l:List Nat} {f:FV},(∀o∈l,o∉f.refs)→FV.killL l f=f
 | [],f,_=>rfl
 | o::l,f,h=>by rw [FV.killL,kK (h o (by simp)),dQ (fun o ho=>h o (by simp [ho]))]
theorem iU {o:Nat}:∀{f:FV},(f.kill o).live=true→f.kill o=f
 | .sl p w nn,h=>by
  by_cases e:p=o
  ·subst e;simp [FV.kill,Nat.beq_refl,FV.live] at h
  ·simp [FV.kill,cF e]
 | .ptr p i off,h=>by
  by_cases e:p=o
  ·subst e;simp [FV.kill,Nat.beq_refl,FV.live] at h
  ·simp [FV.kill,cF e]
 | .mp p,h=>by
  by_cases e:p=o
  ·subst e;simp [FV.kill,Nat.beq_refl,FV.live] at h
  ·simp [FV.kill,cF e]
 | .cp p off,h=>by
  by_cases e:p=o
  ·subst e;simp [FV.kill,Nat.beq_refl,FV.live] at h
  ·simp [FV.kill,cF e]
 | .it p,h=>by
  by_cases e:p=o
  ·subst e;simp [FV.kill,Nat.beq_refl,FV.live] at h
  ·simp [FV.kill,cF e]
 | .tcons a b,h=>by
  simp only [FV.kill,FV.live,Bool.and_eq_true] at h
  simp [FV.kill,iU h.1,iU h.2]
 | .dead,_ | .dat _ _,_ | .nsl,_ | .nilp,_ | .nilif,_ | .tnil,_ | .fn _,_ | .glob _,_ | .zer _,_=>rfl
theorem vQ {o:Nat}:∀{f:FV},(f.kill o).live=true→f.live=true:=fun {f} h=>by rw [←iU h];exact h
theorem jS:∀{l:List Nat} {f:FV},(FV.killL l f).live=true→f.live=true
 | [],f,h=>h
 | o::l,f,h=>vQ (jS (l:=l) h)
theorem pI:∀{l:List Nat} {f:FV},(FV.killL l f).live=true→FV.killL l f=f
 | [],f,_=>rfl
 | o::l,f,h=>by
  rw [FV.killL] at h ⊢
  rw [pI h]
  exact iU (jS h)
theorem lZ (o p:Nat):∀f:FV,(f.kill o).kill p=(f.kill p).kill o
 | .sl q w nn=>by cases h1:Nat.beq q o <;> cases h2:Nat.beq q p <;> simp [FV.kill,h1,h2]
 | .ptr q i off=>by cases h1:Nat.beq q o <;> cases h2:Nat.beq q p <;> simp [FV.kill,h1,h2]
 | .mp q=>by cases h1:Nat.beq q o <;> cases h2:Nat.beq q p <;> simp [FV.kill,h1,h2]
 | .cp q off=>by cases h1:Nat.beq q o <;> cases h2:Nat.beq q p <;> simp [FV.kill,h1,h2]
 | .it q=>by cases h1:Nat.beq q o <;> cases h2:Nat.beq q p <;> simp [FV.kill,h1,h2]
 | .tcons a b=>by simp [FV.kill,lZ o p a,lZ o p b]
 | .dead | .dat _ _ | .nsl | .nilp | .nilif | .tnil | .fn _ | .glob _ | .zer _=>rfl
theorem oV (t o:Nat):∀(l:List Nat) (f:FV),FV.killP t l (bif dK o t then .dead else f.kill o)=bif dK o t then .dead else (FV.killP t l f).kill o
 | [],f=>rfl
 | p::l,f=>by
  rw [FV.killP,FV.killP]
  have ih:=oV t o l (bif dK p t then .dead else f.kill p)
  rw [←ih]
  congr 1
  cases dK o t <;> cases dK p t <;> simp [FV.kill,lZ]
theorem qS (t:Nat):∀(l m:List Nat) (f:FV),FV.killP t l (FV.killP t m f)=FV.killP t m (FV.killP t l f)
 | [],m,f=>rfl
 | o::l,m,f=>by rw [FV.killP,FV.killP,←oV t o m f,qS t l m]
theorem OJ {o:Nat} {f:FV} {k:K} {x:k.den} (h:f.kill o= .dat k x):f= .dat k x:=by
 cases f <;> simp only [FV.kill] at h <;> first
  | exact h
  | (rename_i q _ _;by_cases e:q=o <;> simp [e,Nat.beq_refl,cF] at h;done)
  | (rename_i q;by_cases e:q=o <;> simp [e,Nat.beq_refl,cF] at h;done)
  | (rename_i q _;by_cases e:q=o <;> simp [e,Nat.beq_refl,cF] at h;done)
  | (exfalso;simp at h;done)
theorem EW {o:Nat} {f:FV} (h:f.kill o= .tnil):f= .tnil:=by
 cases f <;> simp only [FV.kill] at h <;> first
  | exact h
  | (rename_i q _ _;by_cases e:q=o <;> simp [e,Nat.beq_refl,cF] at h;done)
  | (rename_i q;by_cases e:q=o <;> simp [e,Nat.beq_refl,cF] at h;done)
  | (rename_i q _;by_cases e:q=o <;> simp [e,Nat.beq_refl,cF] at h;done)
  | (exfalso;simp at h;done)
  | rfl
theorem rK {t:Nat}:∀{l:List Nat} {f:FV} {k:K} {x:k.den},FV.killP t l f= .dat k x→f= .dat k x
 | [],f,k,x,h=>h
 | o::l,f,k,x,h=>by
  have:=rK (l:=l) h
  cases hb:dK o t with
  | true=>rw [hb] at this;cases this
  | false=>rw [hb] at this;exact OJ this
theorem pP {t:Nat}:∀{l:List Nat} {f:FV},FV.killP t l f= .tnil→f= .tnil
 | [],f,h=>h
 | o::l,f,h=>by
  have:=pP (l:=l) h
  cases hb:dK o t with
  | true=>rw [hb] at this;cases this
  | false=>rw [hb] at this;exact EW this
theorem gB {o k:Nat}:∀{f:FV},k∈(f.kill o).refs→k∈f.refs∧k≠o
 | .sl p w nn,h=>by
  by_cases e:p=o
  ·subst e;simp [FV.kill,Nat.beq_refl,FV.refs] at h
  ·simp [FV.kill,cF e,FV.refs] at h ⊢;exact ⟨h,h ▸ e⟩
 | .ptr p i off,h=>by
  by_cases e:p=o
  ·subst e;simp [FV.kill,Nat.beq_refl,FV.refs] at h
  ·simp [FV.kill,cF e,FV.refs] at h ⊢;exact ⟨h,h ▸ e⟩
 | .mp p,h=>by
  by_cases e:p=o
  ·subst e;simp [FV.kill,Nat.beq_refl,FV.refs] at h
  ·simp [FV.kill,cF e,FV.refs] at h ⊢;exact ⟨h,h ▸ e⟩
 | .it p,h=>by
  by_cases e:p=o
  ·subst e;simp [FV.kill,Nat.beq_refl,FV.refs] at h
  ·simp [FV.kill,cF e,FV.refs] at h ⊢;exact ⟨h,h ▸ e⟩
 | .cp p off,h=>by
  by_cases e:p=o
  ·subst e;simp [FV.kill,Nat.beq_refl,FV.refs] at h
  ·simp [FV.kill,cF e,FV.refs] at h ⊢;exact ⟨h,h ▸ e⟩
 | .tcons a b,h=>by
  simp only [FV.kill,FV.refs,List.mem_append] at h ⊢
  rcases h with h | h
  ·exact ⟨.inl (gB h).1,(gB h).2⟩
  ·exact ⟨.inr (gB h).1,(gB h).2⟩
 | .dead,h | .dat _ _,h | .nsl,h | .nilp,h | .nilif,h | .tnil,h | .fn _,h | .glob _,h | .zer _,h=>by simp [FV.kill,FV.refs] at h
theorem qN {t k:Nat}:∀{l:List Nat} {f:FV},k∈(FV.killP t l f).refs→k∈f.refs∧k∉l
 | [],f,h=>⟨h,by simp⟩
 | o::l,f,h=>by
  rw [FV.killP] at h
  cases hb:dK o t with
  | true=>rw [hb,cond_true,oZ] at h;simp [FV.refs] at h
  | false=>
   rw [hb] at h
   obtain ⟨h1,h2⟩:=qN (l:=l) h
   obtain ⟨h3,h4⟩:=gB h1
   exact ⟨h3,by simp [h4,h2]⟩
def dZ:List (Nat×FObj)→Nat→Option FObj
 | [],_=>none
 | (q,o)::l,k=>match dZ l k with | some x=>some x | none=>if k=q then some o else none
theorem xX:∀(l:List (Nat×FObj)) (s:FState) (k:Nat),(cX l s).objs k=match dZ l k with | some x=>some x | none=>s.objs k
 | [],s,k=>rfl
 | (q,o)::l,s,k=>by
  rw [cX,xX l,dZ]
  cases dZ l k with
  | some x=>rfl
  | none=>
   by_cases e:k=q
   ·subst e;simp [aB]
   ·simp [aD _ _ _ e,e]
theorem dN {l:List (Nat×FObj)} {k:Nat} (h:k∉l.map (·.1)):dZ l k=none:=by
 induction l with
 | nil=>rfl
 | cons p l ih=>
  obtain ⟨q,o⟩:=p
  simp only [List.map_cons,List.mem_cons,not_or] at h
  simp [dZ,ih h.2,h.1]
theorem iE {l:List (Nat×FObj)} {k:Nat} (h:k∈l.map (·.1)):(dZ l k).isSome=true:=by
 induction l with
 | nil=>simp at h
 | cons p l ih=>
  obtain ⟨q,o⟩:=p
  simp only [List.map_cons,List.mem_cons] at h
  simp only [dZ]
  cases hl:dZ l k with
  | some x=>rfl
  | none=>
   rcases h with rfl | h
   ·simp
   ·have:=ih h;rw [hl] at this;cases this
theorem kL:∀(l:List (Nat×FObj)) (s:FState),(cX l s).tmps=s.tmps
 | [],s=>rfl
 | (q,o)::l,s=>by rw [cX,kL l];rfl
theorem cR (e:Eff) (s:FState) (d:Option Tmp) (t:Nat):(e.app s d).tmps t=if d=some t then e.v else FV.killP t e.ids (s.tmps t):=by
 cases d with
 | none=>simp [Eff.app,FState.put,kL,gP]
 | some d=>
  simp only [Eff.app,FState.put,FState.set,kL,gP]
  by_cases h:t=d
  ·subst h;simp [Nat.beq_refl]
  ·rw [cF h,if_neg (fun e=>h (by cases e;rfl))];rfl
theorem eD (e:Eff) (s:FState) (d:Option Tmp) (k:Nat):(e.app s d).objs k=match dZ e.l k with | some x=>some x | none=>if k∈e.ids then none else s.objs k:=by
 have:(e.app s d).objs=(cX e.l (aK e.ids s)).objs:=by cases d <;> rfl
 rw [this,xX]
 cases dZ e.l k <;> simp [bP]
def WF (s:FState):Prop:=∀t,∀k∈(s.tmps t).refs,(s.objs k).isSome=true
theorem uA (v:Value):(vK v).refs=[]:=by
 cases v with
 | slice a l c=>
  cases a with
  | some a=>rfl
  | none=>cases l <;> cases c <;> rfl
 | pointer a=>cases a <;> rfl
 | tuple l=>
  obtain ⟨l⟩:=l
  cases l <;> rfl
 | _=>rfl
theorem WF.ev {s:FState} (h:WF s) (x:Operand):∀k∈(ev s x).refs,(s.objs k).isSome=true:=by
 cases x with
 | tmp t=>
  simp only [Go.Proofs.YtoafkjeamgelgaaDoorHF.ev]
  cases Nat.blt t 1000000
  ·intro k hk;simp [FV.refs] at hk
  ·exact h t
 | const v=>intro k hk;simp [Go.Proofs.YtoafkjeamgelgaaDoorHF.ev,uA] at hk
 | global g=>intro k hk;simp [Go.Proofs.YtoafkjeamgelgaaDoorHF.ev,FV.refs] at hk
 | func f=>intro k hk;simp [Go.Proofs.YtoafkjeamgelgaaDoorHF.ev,FV.refs] at hk
theorem WF.info {s:FState} (h:WF s) (o:Oper) (wd:Bool):∀k∈(nL Γ s o wd).refs,(s.objs k).isSome=true:=by
 intro k hk
 cases wd with
 | false=>simp [nL,MN] at hk
 | true=>
  simp only [nL,cond_true,eO,List.mem_append,List.mem_flatMap,List.mem_map] at hk
  rcases hk with ⟨_,⟨x,_,rfl⟩,hk⟩ | hk
  ·exact h.ev x k hk
  ·obtain ⟨d,op,ty,pos,af,g⟩:=o
   cases op with
   | load t x=>
    simp only [iO] at hk
    split at hk
    ·exact h _ k hk
    ·simp at hk
   | _=>simp [iO] at hk
theorem GLoc.wf {o:Oper} {wd:Bool} {e:Eff} {inf:dX} (h:GLoc Γ all o s wd e inf) (hw:WF s):WF (e.app s o.dst):=by
 have hin:∀k∈inf.refs,(s.objs k).isSome=true:=by rw [h.hinf];exact hw.info o wd
 intro t k hk
 rw [cR] at hk
 have key:(k∉e.ids∧(s.objs k).isSome=true)∨k∈e.l.map (·.1):=by
  split at hk
  ·rcases h.v k hk with ⟨h1,h2⟩ | h1
   ·exact .inl ⟨h2,hin k h1⟩
   ·exact .inr h1
  ·obtain ⟨h1,h2⟩:=qN hk
   exact .inl ⟨h2,hw t k h1⟩
 rw [eD]
 rcases key with ⟨h1,h2⟩ | h1
 ·cases dZ e.l k <;> simp [h1,h2]
 ·have:=iE h1
  cases hl:dZ e.l k with
  | some x=>rfl
  | none=>rw [hl] at this;cases this
theorem pR {ops:Array Oper} {o:Oper} {t:Tmp} (h:Operand.tmp t∈o.op.operands):t∈o.looksAt ops:=by
 unfold Oper.looksAt
 refine List.mem_append.2 (.inl (List.mem_filterMap.2 ⟨.tmp t,by simpa using h,rfl⟩))
theorem jN {o:Oper} {t:Tmp} (h:eR all o=some t):t∈o.looksAt all.toArray:=by
 unfold Oper.looksAt
 refine List.mem_append.2 (.inr ?_)
 unfold eR at h
 split at h
 ·rename_i j want hg
  rw [hg]
  simp [h]
 ·cases h
theorem BQ {l m:List Nat} (h:NY l m=true):∀k,k∈l→k∉m:=fun k hk hm=>by
 unfold NY at h
 have:=List.all_eq_true.1 h k hk
 rw [aZ hm] at this
 simp at this
theorem yS {d:Option Tmp} {l:List Nat} (h:sV d l=true) (hd:∀x,d=some x→x < 1000000) {k:Nat} (hk:named d k):k∉l:=fun hm=>by
 obtain ⟨d',j,rfl,rfl⟩:=hk
 unfold sV at h
 have h1:=List.all_eq_true.1 h _ hm
 have h2:(d':Nat) < 1000000:=hd d' rfl
 have:(d'+j * 1000000) % 1000000=d':=by rw [Nat.add_mul_mod_self_right];exact Nat.mod_eq_of_lt h2
 rw [this,Nat.beq_refl] at h1
 simp at h1
theorem wF {d d':Option Tmp} (h:∀x,d=some x→d'≠some x) (hd:∀x,d=some x→x < 1000000) (hd':∀x,d'=some x→x < 1000000) {k:Nat} (hk:named d k):¬named d' k:=by
 rintro ⟨b,j,rfl,e⟩
 obtain ⟨a,i,rfl,rfl⟩:=hk
 have h1:(a:Nat) < 1000000:=hd a rfl
 have h2:(b:Nat) < 1000000:=hd' b rfl
 have e1:(a+i * 1000000) % 1000000=a:=by rw [Nat.add_mul_mod_self_right];exact Nat.mod_eq_of_lt h1
 have e2:(b+j * 1000000) % 1000000=b:=by rw [Nat.add_mul_mod_self_right];exact Nat.mod_eq_of_lt h2
 have:a=b:=by rw [←e1,←e2,e]
 subst this
 exact h a rfl rfl
structure XH (oi oj:Oper) (all:List Oper) (x y:dX):Prop where
 a1:∀d,oi.dst=some d→d∉oj.looksAt all.toArray
 a2:∀d,oi.dst=some d→oj.dst≠some d
 a3:∀d,oj.dst=some d→d∉oi.looksAt all.toArray
 d1:∀d,oi.dst=some d→d < 1000000
 d2:∀d,oj.dst=some d→d < 1000000
 n1:sV oi.dst y.refs=true
 n2:sV oj.dst x.refs=true
 p:(x.touch=false∧y.touch=false)∨((∀k,k∈x.refs→k∉y.refs)∧x.live=true∧y.live=true∧x.cel=false∧y.cel=false)
theorem AA {e:Eff} {d:Option Tmp} {x:Operand} (hx:∀t,x= .tmp t→d≠some t):ev (e.app s d) x=match x with | .tmp t=>bif Nat.blt t 1000000 then FV.killL e.ids (s.tmps t) else .dead | x=>ev s x:=by
 cases x with
 | tmp t=>
  simp only [Go.Proofs.YtoafkjeamgelgaaDoorHF.ev]
  cases hb:Nat.blt t 1000000 with
  | false=>rfl
  | true=>
   simp only [cond_true]
   rw [cR,if_neg (hx t rfl),gG (Nat.le_of_ble_eq_true hb)]
 | _=>rfl
theorem tM {o:Oper} {x:Operand} (hx:x∈o.op.operands) (h:(eO Γ s o).live=true):(ev s x).live=true:=by
 simp only [eO,List.all_eq_true,List.mem_map] at h
 exact h _ ⟨x,by simpa using hx,rfl⟩
theorem uF {o:Oper} {x:Operand} (hx:x∈o.op.operands) {k:Nat} (hk:k∈(ev s x).refs):k∈(eO Γ s o).refs:=by
 simp only [eO,List.mem_append,List.mem_flatMap,List.mem_map]
 exact .inl ⟨ev s x,⟨x,by simpa using hx,rfl⟩,hk⟩
theorem YN {oj oi:Oper} {wj wi:Bool} {ej ei:Eff} {x y:dX} (hw:WF s) (hj:GLoc Γ all oj s wj ej x) (hi:GLoc Γ all oi (ej.app s oj.dst) wi ei y) (hf:XH oj oi all x y):
  GLoc Γ all oi s wi ei y∧GLoc Γ all oj (ei.app s oi.dst) wj ej x∧ej.app (ei.app s oi.dst) oj.dst=ei.app (ej.app s oj.dst) oi.dst:=by
 have hxl:∀k∈x.refs,(s.objs k).isSome=true:=by rw [hj.hinf];exact hw.info oj wj
 have hiops:wi=true→∀z∈oi.op.operands,ev s z=ev (ej.app s oj.dst) z:=fun hwi z hz=>by
  have hne:∀t,z= .tmp t→oj.dst≠some t:=fun t e hd=>hf.a1 t hd (pR (e ▸ hz))
  rw [AA hne]
  cases z with
  | tmp t=>
   simp only [Go.Proofs.YtoafkjeamgelgaaDoorHF.ev]
   cases hb:Nat.blt t 1000000 with
   | false=>rfl
   | true=>
    simp only [cond_true]
    rcases hf.p with ⟨h1,_⟩ | ⟨_,_,h3,_⟩
    ·rw [(hj.quiet h1).1];rfl
    ·rw [hi.hinf,nL,hwi] at h3
     have h4:=tM hz h3
     rw [AA hne] at h4
     simp only [hb,cond_true] at h4
     exact (pI h4).symm
  | _=>rfl
 have higt:∀d,eR all oi=some d→s.tmps d=(ej.app s oj.dst).tmps d:=fun d hd=>by
  have hne:oj.dst≠some d:=fun e=>hf.a1 d e (jN hd)
  rcases hi.gt d hd with ⟨b,hb⟩ | hb
  ·rw [cR,if_neg hne] at hb ⊢
   rw [hb];exact rK hb
  ·rw [cR,if_neg hne] at hb ⊢
   rw [hb];exact pP hb
 have hicel:y.cel=true→∀t,¬t < 1000000→(ej.app s oj.dst).tmps t=s.tmps t:=fun hc t ht=>by
  rw [cR,if_neg (fun e=>ht (hf.d1 t e))]
  rcases hf.p with ⟨h2,_⟩ | ⟨_,_,_,_,h2⟩
  ·rw [(hj.quiet h2).1];rfl
  ·rw [h2] at hc;cases hc
 have hyi:y=nL Γ s oi wi:=by
  rw [hi.hinf]
  cases wi with
  | false=>rfl
  | true=>exact (mT (fun z hz=>(hiops rfl z hz).symm) fun hc t ht=>hicel (by
    rw [hi.hinf]
    have hm:oi.op.operands.toList.map (ev (ej.app s oj.dst))=oi.op.operands.toList.map (ev s):=List.map_congr_left fun x hx=>(hiops rfl x (by simpa using hx)).symm
    simp only [nL,cond_true,eO,hm];exact hc) t ht)
 have hyl:∀k∈y.refs,(s.objs k).isSome=true:=by rw [hyi];exact hw.info oi wi
 have hjk:∀k∈y.refs,k∉ej.ids∧k∉ej.l.map (·.1):=fun k hk=>by
  refine ⟨fun h1=>?_,fun h1=>?_⟩
  ·rcases hf.p with ⟨h2,_⟩ | ⟨h2,_⟩
   ·rw [(hj.quiet h2).1] at h1;simp at h1
   ·exact h2 k (hj.ids k h1) hk
  ·obtain ⟨p,hp,rfl⟩:=List.mem_map.1 h1
   have hl:=hyl _ hk
   rcases hf.p with ⟨h2,_⟩ | ⟨h2,_⟩
   ·rw [((hj.quiet h2).2 p hp).1] at hl;cases hl
   ·rcases hj.l p hp with h3 | ⟨h3,_⟩
    ·exact h2 _ h3 hk
    ·rw [h3] at hl;cases hl
 have hiobjs:∀k∈y.refs,s.objs k=(ej.app s oj.dst).objs k:=fun k hk=>by
  rw [eD,dN (hjk k hk).2];simp [(hjk k hk).1]
 have hinew:∀k,named oi.dst k→(ej.app s oj.dst).objs k=none→s.objs k=none:=fun k hn hk=>by
  rw [eD] at hk
  cases hl:dZ ej.l k with
  | some z=>rw [hl] at hk;cases hk
  | none=>
   rw [hl] at hk
   simp only at hk
   split at hk
   ·rename_i hm;exact absurd (hj.ids k hm) (yS hf.n2 hf.d2 hn)
   ·exact hk
 have hi':GLoc Γ all oi s wi ei y:=by
  refine ⟨hi.g6,hyi,fun d hd=>by rw [higt d hd];exact hi.gt d hd,hi.ids,fun p hp=>(hi.l p hp).imp id (fun ⟨h1,h2⟩=>⟨hinew _ h2 h1,h2⟩),fun hq=>⟨(hi.quiet hq).1,fun p hp=>⟨hinew _ ((hi.quiet hq).2 p hp).2 ((hi.quiet hq).2 p hp).1,((hi.quiet hq).2 p hp).2⟩⟩,hi.v,fun s2 h1 h2 h3 h4 h5 γ κ2=>?_⟩
  exact hi.same s2 (fun d hd=>(h1 d hd).trans (higt d hd)) (fun hwi z hz=>(h2 hwi z hz).trans (hiops hwi z hz)) (fun k hk=>(h3 k hk).trans (hiobjs k hk)) (fun k hn hk=>h4 k hn (hinew k hn hk)) (fun hc t ht=>(h5 hc t ht).trans (hicel hc t ht).symm) κ2
 have hik:∀k∈x.refs,k∉ei.ids∧k∉ei.l.map (·.1):=fun k hk=>by
  refine ⟨fun h1=>?_,fun h1=>?_⟩
  ·rcases hf.p with ⟨_,h2⟩ | ⟨h2,_⟩
   ·rw [(hi.quiet h2).1] at h1;simp at h1
   ·exact h2 k hk (hi.ids k h1)
  ·obtain ⟨p,hp,rfl⟩:=List.mem_map.1 h1
   have hl:=hxl _ hk
   rcases hf.p with ⟨_,h2⟩ | ⟨h2,_⟩
   ·rw [((hi'.quiet h2).2 p hp).1] at hl;cases hl
   ·rcases hi'.l p hp with h3 | ⟨h3,_⟩
    ·exact h2 _ hk h3
    ·rw [h3] at hl;cases hl
 have hjops:wj=true→∀z∈oj.op.operands,ev (ei.app s oi.dst) z=ev s z:=fun hwj z hz=>by
  have hne:∀t,z= .tmp t→oi.dst≠some t:=fun t e hd=>hf.a3 t hd (pR (e ▸ hz))
  rw [AA hne]
  cases z with
  | tmp t=>
   simp only [Go.Proofs.YtoafkjeamgelgaaDoorHF.ev]
   cases hb:Nat.blt t 1000000 with
   | false=>rfl
   | true=>
    simp only [cond_true]
    refine dQ fun o ho hr=>?_
    have:o∈x.refs:=by rw [hj.hinf,nL,hwj];exact uF hz (by simp only [Go.Proofs.YtoafkjeamgelgaaDoorHF.ev,hb,cond_true];exact hr)
    exact (hik o this).1 ho
  | _=>rfl
 have hjgt:∀d,eR all oj=some d→(ei.app s oi.dst).tmps d=s.tmps d:=fun d hd=>by
  have hne:oi.dst≠some d:=fun e=>hf.a3 d e (jN hd)
  rcases hj.gt d hd with ⟨b,hb⟩ | hb
  ·rw [cR,if_neg hne,hb,gG (hj.g6 d hd)]
   exact dQ (fun o _=>by simp [FV.refs])
  ·rw [cR,if_neg hne,hb,gG (hj.g6 d hd)]
   exact dQ (fun o _=>by simp [FV.refs])
 have hjobjs:∀k∈x.refs,(ei.app s oi.dst).objs k=s.objs k:=fun k hk=>by
  rw [eD,dN (hik k hk).2];simp [(hik k hk).1]
 have hlnone:∀(k:Nat),s.objs k=none→k∉ei.ids∧k∉ej.ids:=fun k hk=>
  ⟨fun h=>(by have:=hyl k (hi.ids k h);rw [hk] at this;cases this),fun h=>(by have:=hxl k (hj.ids k h);rw [hk] at this;cases this)⟩
 have hjnew:∀k,named oj.dst k→s.objs k=none→(ei.app s oi.dst).objs k=none:=fun k hn hk=>by
  have hnl:k∉ei.l.map (·.1):=fun h1=>by
   obtain ⟨p,hp,rfl⟩:=List.mem_map.1 h1
   rcases hi'.l p hp with h3 | ⟨_,h3⟩
   ·have:=hyl _ h3;rw [hk] at this;cases this
   ·exact wF hf.a2 hf.d1 hf.d2 hn h3
  rw [eD,dN hnl]
  simp [(hlnone k hk).1,hk]
 have hjcel:x.cel=true→∀t,¬t < 1000000→(ei.app s oi.dst).tmps t=s.tmps t:=fun hc t ht=>by
  rw [cR,if_neg (fun e=>ht (hf.d2 t e))]
  rcases hf.p with ⟨_,h2⟩ | ⟨_,_,_,h2,_⟩
  ·rw [(hi.quiet h2).1];rfl
  ·rw [h2] at hc;cases hc
 have hj':GLoc Γ all oj (ei.app s oi.dst) wj ej x:=by
  refine ⟨hj.g6,?_,fun d hd=>by rw [hjgt d hd];exact hj.gt d hd,hj.ids,fun p hp=>(hj.l p hp).imp id (fun ⟨h1,h2⟩=>⟨hjnew _ h2 h1,h2⟩),fun hq=>⟨(hj.quiet hq).1,fun p hp=>⟨hjnew _ ((hj.quiet hq).2 p hp).2 ((hj.quiet hq).2 p hp).1,((hj.quiet hq).2 p hp).2⟩⟩,hj.v,fun s2 h1 h2 h3 h4 h5 γ κ2=>?_⟩
  ·rw [hj.hinf]
   cases wj with
   | false=>rfl
   | true=>exact (mT (hjops rfl) fun hc t ht=>hjcel (by rw [hj.hinf];exact hc) t ht).symm
  ·exact hj.same s2 (fun d hd=>(h1 d hd).trans (hjgt d hd)) (fun hwj z hz=>(h2 hwj z hz).trans (hjops hwj z hz)) (fun k hk=>(h3 k hk).trans (hjobjs k hk)) (fun k hn hk=>h4 k hn (hjnew k hn hk)) (fun hc t ht=>(h5 hc t ht).trans (hjcel hc t ht)) κ2
 refine ⟨hi',hj',?_⟩
 have hkey:∀k,k∈ej.l.map (·.1)→k∉ei.l.map (·.1)∧k∉ei.ids:=fun k hk=>by
  obtain ⟨p,hp,rfl⟩:=List.mem_map.1 hk
  rcases hj.l p hp with h1 | ⟨h1,h2⟩
  ·exact ⟨(hik _ h1).2,(hik _ h1).1⟩
  ·refine ⟨fun h3=>?_,(hlnone _ h1).1⟩
   obtain ⟨q,hq,e⟩:=List.mem_map.1 h3
   rcases hi'.l q hq with h4 | ⟨_,h4⟩
   ·have:=hyl _ h4;rw [e,h1] at this;cases this
   ·rw [e] at h4;exact wF hf.a2 hf.d1 hf.d2 h2 h4
 have hkey':∀k,k∈ei.l.map (·.1)→k∉ej.ids:=fun k hk h2=>(hik k (hj.ids k h2)).2 hk
 have hvj:∀o∈ei.ids,o∉ej.v.refs:=fun o ho hr=>by
  rcases hj.v o hr with ⟨h1,_⟩ | h1
  ·exact (hik o h1).1 ho
  ·exact (hkey o h1).2 ho
 have hvi:∀o∈ej.ids,o∉ei.v.refs:=fun o ho hr=>by
  rcases hi.v o hr with ⟨h1,_⟩ | h1
  ·exact (hjk o h1).1 ho
  ·exact hkey' o h1 ho
 have ht:(ej.app (ei.app s oi.dst) oj.dst).tmps=(ei.app (ej.app s oj.dst) oi.dst).tmps:=by
  funext t
  rw [cR,cR,cR,cR]
  by_cases h1:oj.dst=some t
  ·rw [if_pos h1,if_neg (hf.a2 t h1),if_pos h1,gG (hf.d1 t h1)]
   exact (dQ hvj).symm
  ·rw [if_neg h1]
   by_cases h2:oi.dst=some t
   ·rw [if_pos h2,if_pos h2,gG (hf.d2 t h2)];exact dQ hvi
   ·rw [if_neg h2,if_neg h2,if_neg h1];exact qS _ _ _ _
 have ho:(ej.app (ei.app s oi.dst) oj.dst).objs=(ei.app (ej.app s oj.dst) oi.dst).objs:=by
  funext k
  rw [eD,eD,eD,eD]
  by_cases h1:k∈ej.l.map (·.1)
  ·rw [dN (hkey k h1).1]
   obtain ⟨z,hz⟩:=Option.isSome_iff_exists.1 (iE h1)
   rw [hz]
   simp [(hkey k h1).2]
  ·rw [dN h1]
   by_cases h2:k∈ei.l.map (·.1)
   ·obtain ⟨z,hz⟩:=Option.isSome_iff_exists.1 (iE h2)
    rw [hz]
    simp [hkey' k h2]
   ·rw [dN h2]
    by_cases h3:k∈ei.ids <;> by_cases h4:k∈ej.ids <;> simp [h3,h4]
 cases hA:ej.app (ei.app s oi.dst) oj.dst
 cases hB:ei.app (ej.app s oj.dst) oi.dst
 rw [hA,hB] at ht ho
 simp only at ht ho
 rw [ht,ho]
inductive RunL (Γ:Ctx) (all:List Oper):List (Nat×dX)→FState→FState→Prop
 | nil (s:FState):RunL Γ all [] s s
 | cons {i:Nat} {o:Oper} {inf:dX} {wd:Bool} {e:Eff} {L:List (Nat×dX)} {s s':FState} (ho:all[i]? =some o) (hg:GLoc Γ all o s wd e inf) (hr:RunL Γ all L (e.app s o.dst) s'):RunL Γ all ((i,inf)::L) s s'
def BF (all:List Oper) (p q:Nat×dX):Prop:=∀a b,all[p.1]? =some a→all[q.1]? =some b→XH a b all p.2 q.2
theorem RunL.move {i:Nat} {inf:dX} {R:List (Nat×dX)}:∀{J:List (Nat×dX)} {s s':FState},WF s→RunL Γ all (J++(i,inf)::R) s s'→(∀p∈J,BF all p (i,inf))→RunL Γ all ((i,inf)::(J++R)) s s'
 | [],s,s',_,h,_=>h
 | (j,infj)::J,s,s',hw,h,hf=>by
  cases h with
  | cons ho hg hr=>
   have h2:=RunL.move (hg.wf hw) hr (fun p hp=>hf p (by simp [hp]))
   cases h2 with
   | cons ho2 hg2 hr2=>
    obtain ⟨g1,g2,g3⟩:=YN hw hg hg2 (hf (j,infj) (by simp) _ _ ho ho2)
    refine .cons ho2 g1 (.cons ho g2 ?_)
    rw [g3];exact hr2
end
end Go.Proofs.YtoafkjeamgelgaaDoorHF

namespace Go.Proofs.YtoafkjeamgelgaaDoorHF
open Go
set_option linter.unusedVariables false
set_option linter.unusedSimpArgs false
theorem CtxOk.natOk {P:Program} {Γ:Ctx} (h:CtxOk P Γ) (happ:∀f S,Γ.calls f=some S→∀(d:DenA S.args) (x:DenR S.rets×DenR S.backs),S.app d some=some x→∀{γ:Type} (κ:DenR S.rets×DenR S.backs→Option γ),S.app d κ=κ x):jL Γ:=
 ⟨fun f S hS=>(h.calls f S hS).nat,happ⟩
section
variable {E:Env} {pl:Nat→Pl} {Γ:Ctx} {w w':World} {a:Act} {s:FState} {β:Type} {r:β} {κ:FState→Option β} {Q:Exit→Act→World→Prop}
theorem RelP.wf (h:RelP E pl w a s):WF s:=by
 intro t k hk
 have key1:∀{f:FV} {v:Value},VRep1 w (Av E s.objs pl) s.objs pl f v→k∈f.refs→(s.objs k).isSome=true:=fun {f v} hv hk=>by
  cases f <;> simp only [FV.refs,List.mem_singleton,List.not_mem_nil] at hk <;> simp only [VRep1] at hv
  case sl=>subst hk;obtain ⟨_,_,_,_,ho,_⟩:=hv;rw [ho];rfl
  case ptr=>subst hk;obtain ⟨_,_,_,_,ho,_⟩:=hv;rw [ho];rfl
  case it=>subst hk;obtain ⟨_,_,ho,_⟩:=hv;rw [ho];rfl
  case mp=>subst hk;obtain ⟨_,_,_,ho,_⟩:=hv;rw [ho];rfl
  case cp=>subst hk;obtain ⟨_,_,ho,_⟩:=hv;rw [ho];rfl
 have keyL:∀{f:FV} {l:List Value},VRepL w (Av E s.objs pl) s.objs pl f l→k∈f.refs→(s.objs k).isSome=true:=by
  intro f
  induction f with
  | tcons a b _ ih=>
   intro l hl hk
   obtain ⟨x,l',rfl,h1,h2⟩:=hl
   simp only [FV.refs,List.mem_append] at hk
   rcases hk with hk | hk
   ·exact key1 h1 hk
   ·exact ih h2 hk
  | _=>intro l hl hk;first | exact hl.elim | simp [FV.refs] at hk
 rcases h.vals t with hv | ⟨l,_,hl⟩
 ·exact key1 hv hk
 ·exact keyL hl hk
theorem RunL.inv {all:List Oper} {i:Nat} {inf:dX} {L:List (Nat×dX)} {s':FState} (h:RunL Γ all ((i,inf)::L) s s'):∃o wd e,all[i]? =some o∧GLoc Γ all o s wd e inf∧RunL Γ all L (e.app s o.dst) s':=by
 cases h with
 | cons ho hg hr=>exact ⟨_,_,_,ho,hg,hr⟩
def rQ (N:Nat) (ps:List Nat) (os:List Oper):Bool:=os.all fun o=>match o.dst with | some d=>Nat.blt d N&& !cV d ps | none=>true
abbrev Env.ps (E:Env):List Nat:=E.par.map (·.1)
theorem lS {os:List Oper} (h:rQ E.N E.ps os=true) {o:Oper} (ho:o∈os):bH E o.dst:=fun x hx=>by
 have:=List.all_eq_true.1 h o ho
 rw [hx] at this
 simp only [Bool.and_eq_true,Bool.not_eq_true'] at this
 refine ⟨Nat.le_of_ble_eq_true this.1,fun p hp e=>?_⟩
 rw [aZ (List.mem_map.2 ⟨p,hp,e⟩)] at this
 simp at this
theorem BM {ops:Array Oper} {j d:Nat} {b:Bool} (hd:(ops[j]?).bind (·.dst)=some d) (hb:a.tmps.getD d undef= .bool b):yielded ops a.tmps j=some b:=by
 unfold yielded
 rw [hd]
 simp only [Option.bind_some]
 rw [Array.getD_eq_getD_getElem?] at hb
 cases h:a.tmps[d]? with
 | none=>rw [h] at hb;simp [undef] at hb
 | some v=>rw [h] at hb;simp at hb;subst hb;rfl
theorem VRep.undef {w:World} {A:Nat→Prop} {O:cE} (pl:Nat→Pl):VRep w A O pl .tnil undef:= .inr ⟨[],rfl,rfl⟩
theorem xY (hΓ:CtxOk E.P Γ) {ops:Array Oper} (hall:rQ E.N E.ps ops.toList=true) (h:Rel E w a s) {i:Nat} {o:Oper} (ho:ops[i]? =some o) (hd:bH E o.dst) (hk:gK Γ ops.toList o s (fun _ _ s=>κ s)=some r):wpOp E.P ops Q i (Goes E κ r) a w:=by
 unfold wpOp
 rw [ho]
 simp only
 unfold gK at hk
 split at hk
 ·rename_i hg
  have:Region.wanted o (yielded ops a.tmps)=true:=by unfold Region.wanted;rw [hg]
  rw [this]
  exact .inl (sU hΓ h o hd hk)
 ·rename_i j want hg
  split at hk
  ·cases hk
  ·rename_i d hdd
   have hd6:d < 1000000:=by
    cases ha:ops.toList[j]? with
    | none=>rw [ha] at hdd;cases hdd
    | some q=>
     rw [ha] at hdd
     exact Nat.lt_of_lt_of_le (lS hall (List.mem_of_getElem? ha) d hdd).lt E.hN
   split at hk
   ·rename_i b hb
    rw [show (cond b _ _:Option β)=(fun s=>bif b==want then opK Γ o s κ else κ (s.put o.dst .tnil)) (s.set d (.dat .bool b)) by cases b <;> rfl] at hk
    rw [pT hb] at hk
    simp only at hk
    obtain ⟨pl,h'⟩:=h
    have hv:=(h'.vals d)
    rw [hb,cP hd6] at hv
    have hy:=BM (ops:=ops) (j:=j) (by simpa using hdd) hv.bool_inv
    have:Region.wanted o (yielded ops a.tmps)=(b==want):=by
     unfold Region.wanted
     rw [hg]
     simp only [hy]
     cases b <;> cases want <;> rfl
    rw [this]
    cases hw:(b==want) with
    | true=>
     rw [hw] at hk
     simp only [cond_true] at hk
     exact .inl (sU hΓ ⟨pl,h'⟩ o hd hk)
    | false=>
     rw [hw] at hk
     simp only [cond_false] at hk
     exact ⟨_,⟨pl,h'.put hd (VRep.undef _)⟩,hk⟩
   ·rename_i hb
    obtain ⟨pl,h'⟩:=h
    have hv:=(h'.vals d)
    rw [hb,cP hd6] at hv
    have hu:a.tmps.getD d undef=undef:=by
     rcases hv with hv | ⟨l,h1,h2⟩
     ·exact hv.elim
     ·rw [h1]
      obtain rfl:l=[]:=h2
      rfl
    have hy:yielded ops a.tmps j=none:=by
     unfold yielded
     rw [show (ops[j]?).bind (·.dst)=some d by simpa using hdd]
     simp only [Option.bind_some]
     rw [Array.getD_eq_getD_getElem?] at hu
     cases h:a.tmps[d]? with
     | none=>rfl
     | some v=>rw [h] at hu;simp at hu;subst hu;rfl
    have:Region.wanted o (yielded ops a.tmps)=false:=by
     unfold Region.wanted
     rw [hg]
     simp only [hy]
     cases want <;> rfl
    rw [this]
    exact ⟨_,⟨pl,h'.put hd (VRep.undef _)⟩,hk⟩
   ·cases hk
theorem qX (hΓ:CtxOk E.P Γ) (hN:jL Γ) {ops:Array Oper} (hd:rQ E.N E.ps ops.toList=true):∀(os:List Oper) (i:Nat) (s:FState) (a:Act) (w:World),ops.toList.drop i=os→Rel E w a s→RJ Γ ops.toList os s κ=some r→
  wpOps E.P ops (fun e a w=>match e with | .normal=>Goes E κ r a w | _=>False) (List.range' i os.length) a w
 | [],i,s,a,w,hdr,h,hk=>by
  show Goes E κ r a w
  exact ⟨s,h,hk⟩
 | o::os,i,s,a,w,hdr,h,hk=>by
  have hoi:ops[i]? =some o:=by
   have:(ops.toList.drop i)[0]? =some o:=by rw [hdr];rfl
   rw [List.getElem?_drop] at this
   simpa using this
  have hmem:o∈ops.toList:=List.mem_of_mem_drop (i:=i) (by rw [hdr];simp)
  have hdr':ops.toList.drop (i+1)=os:=by
   have:=congrArg (List.drop 1) hdr
   simpa [List.drop_drop] using this
  rw [List.length_cons,List.range'_succ,wpOps_cons]
  unfold RJ at hk
  exact wpOp_mono (fun a' w' ⟨s',hs',hk'⟩=>qX hΓ hN hd os (i+1) s' a' w' hdr' hs' hk') (xY hΓ hd h hoi (lS hd hmem) hk)
theorem dO:∀(os:List Oper) (n:Nat),iM n os=true→∀i o,os[i]? =some o→(∀e∈o.after,Region.binds .any e=true→e.on < n+i)∧(∀d,o.dst=some d→d < 1000000)
 | [],n,_,i,o,h=>by simp at h
 | o'::os,n,h,i,o,ho=>by
  simp only [iM,Bool.and_eq_true] at h
  cases i with
  | zero=>
   simp at ho
   subst ho
   refine ⟨fun e he hb=>?_,fun d hd=>?_⟩
   ·have:=List.all_eq_true.1 h.1.1 e (by simpa using he)
    rw [hb] at this
    have:=Nat.le_of_ble_eq_true (by simpa using this:Nat.blt e.on n=true)
    omega
   ·have:=h.1.2
    rw [hd] at this
    exact Nat.le_of_ble_eq_true this
  | succ i=>
   obtain ⟨h1,h2⟩:=dO os (n+1) h.2 i o (by simpa using ho)
   exact ⟨fun e he hb=>by have:=h1 e he hb;omega,h2⟩
theorem sC (all:List Oper) (an:List (List Nat)):∀(os:List Oper) (n:Nat),BD all an n os=true→∀i o,os[i]? =some o→∀x∈an[n+i]?.getD [],∃e∈o.after,Region.binds .any e=true∧(x=e.on∨x∈an[e.on]?.getD [])
 | [],n,_,i,o,h=>by simp at h
 | o'::os,n,h,i,o,ho=>by
  simp only [BD,Bool.and_eq_true] at h
  cases i with
  | zero=>
   simp at ho
   subst ho
   intro x hx
   have:=List.all_eq_true.1 h.1 x (by simpa using hx)
   obtain ⟨e,he,h2⟩:=List.any_eq_true.1 this
   simp only [Bool.and_eq_true,Bool.or_eq_true] at h2
   exact ⟨e,by simpa using he,h2.1,h2.2.imp Nat.eq_of_beq_eq_true dP⟩
  | succ i=>
   intro x hx
   exact sC all an os (n+1) h.2 i o (by simpa using ho) x (by rw [show n+1+i=n+(i+1) by omega];exact hx)
def XK (all:List Oper) (p q:Nat×dX):Prop:=cV p.1 ((rF all)[q.1]?.getD [])=true∨(CT p.2 q.2&&vC all p.1 q.1 p.2 q.2)=true
theorem nI (all:List Oper):∀l:List (Nat×dX),pY all (rF all) l=true→l.Pairwise (fun q p=>XK all p q)
 | [],_=>List.Pairwise.nil
 | (i,x)::l,h=>by
  simp only [pY,Bool.and_eq_true] at h
  refine List.Pairwise.cons (fun p hp=>?_) (nI all l h.2)
  have:=List.all_eq_true.1 h.1 p hp
  simp only [Bool.or_eq_true] at this
  exact this
theorem wR (hN:jL Γ) {all:List Oper} (h6:∀o∈all,∀d,o.dst=some d→d < 1000000):∀(os:List Oper) (i:Nat) (s:FState) (log:List (Nat×dX)),all.drop i=os→EY Γ all i os s log κ=some r→
  ∃L s',RunL Γ all L s s'∧κ s'=some r∧pY all (rF all) (L.reverse++log)=true∧BD all (rF all) 0 all=true∧L.map (·.1)=List.range' i os.length
 | [],i,s,log,hdr,hk=>by
  unfold EY at hk
  obtain ⟨hc,hk⟩:=aL hk
  simp only [Bool.and_eq_true] at hc
  exact ⟨[],s,.nil s,hk,by simpa using hc.2,hc.1,rfl⟩
 | o::os,i,s,log,hdr,hk=>by
  unfold EY at hk
  obtain ⟨hsm,hk⟩:=aL hk
  obtain ⟨wd,e,inf,hk,hg⟩:=WL hN h6 o hsm hk
  have hoi:all[i]? =some o:=by
   have:(all.drop i)[0]? =some o:=by rw [hdr];rfl
   rw [List.getElem?_drop] at this
   simpa using this
  have hdr':all.drop (i+1)=os:=by
   have:=congrArg (List.drop 1) hdr
   simpa [List.drop_drop] using this
  obtain ⟨L,s',h1,h2,h3,h4,h5⟩:=wR hN h6 os (i+1) _ _ hdr' hk
  refine ⟨(i,inf)::L,s',.cons hoi hg h1,h2,?_,h4,by simp [h5,List.range'_succ]⟩
  have e1:(bif wd then eO Γ s o else (⟨false,[],true,false⟩:dX))=inf:=hg.hinf.symm
  rw [e1] at h3
  simpa [List.append_assoc] using h3
def YG (listed:Array Bool) (i:Nat):Bool:=listed.getD i true
theorem SD {all:List Oper} (hE:iM 0 all=true) {p q:Nat×dX} (h:(CT p.2 q.2&&vC all p.1 q.1 p.2 q.2)=true):BF all p q:=by
 intro a b ha hb
 simp only [Bool.and_eq_true] at h
 obtain ⟨h1,h2⟩:=h
 unfold vC at h2
 rw [ha,hb] at h2
 simp only [Bool.and_eq_true] at h2
 obtain ⟨g1,g2,g3⟩:=Oper.apart_spec h2.1.1
 refine ⟨g1,g2,g3,(dO all 0 hE _ _ ha).2,(dO all 0 hE _ _ hb).2,h2.1.2,h2.2,?_⟩
 unfold CT at h1
 simp only [Bool.or_eq_true,Bool.and_eq_true,Bool.not_eq_true'] at h1
 rcases h1 with h1 | h1
 ·exact .inl h1
 ·exact .inr ⟨BQ h1.1.1.1.1,h1.1.1.1.2,h1.1.1.2,h1.1.2,h1.2⟩
theorem mem_ready {ops:Array Oper} {listed:Array Bool} {i:Nat}:i∈Region.ready .any ops listed↔i < ops.size∧listed.getD i true=false∧∀o,ops[i]? =some o→∀e∈o.after,Region.binds .any e=true→listed.getD e.on false=true:=by
 unfold Region.ready
 rw [List.mem_filter,List.mem_range]
 refine and_congr_right fun hi=>?_
 rw [Array.getElem?_eq_getElem hi]
 simp only [Option.map_some,Option.getD_some,Bool.and_eq_true,Bool.not_eq_true',Option.some.injEq]
 refine and_congr_right fun _=>?_
 constructor
 ·rintro h o rfl e he hb
  have:=(Array.all_eq_true_iff_forall_mem.1 h) e he
  rw [hb] at this
  simpa using this
 ·intro h
  refine Array.all_eq_true_iff_forall_mem.2 fun e he=>?_
  have:=h _ rfl e he
  cases hb:Region.binds .any e with
  | false=>rfl
  | true=>simpa [hb] using this hb
structure YD (all:List Oper) (listed:Array Bool) (L:List (Nat×dX)):Prop where
 size:listed.size=all.length
 mem:∀i,i < all.length→(listed.getD i true=false↔i∈L.map (·.1))
 lt:∀p∈L,p.1 < all.length
 ord:L.Pairwise fun p q=>p.1 < q.1∧XK all p q
 closed:∀i,i < all.length→listed.getD i true=true→∀o,all[i]? =some o→∀e∈o.after,Region.binds .any e=true→listed.getD e.on true=true
theorem hH {listed:Array Bool} {i:Nat} (h:i < listed.size):listed.getD i true=listed.getD i false:=by
 simp [h]
theorem zM {all:List Oper} {listed:Array Bool} (hE:iM 0 all=true) (hA:BD all (rF all) 0 all=true) (hc:∀i,i < all.length→listed.getD i true=true→∀o,all[i]? =some o→∀e∈o.after,Region.binds .any e=true→listed.getD e.on true=true):
  ∀(i:Nat),i < all.length→(∀o,all[i]? =some o→∀e∈o.after,Region.binds .any e=true→listed.getD e.on true=true)→∀x∈(rF all)[i]?.getD [],listed.getD x true=true:=by
 intro i
 induction i using Nat.strongRecOn with
 | _ i ih=>
  intro hi hdep x hx
  obtain ⟨o,ho⟩:∃o,all[i]? =some o:=⟨all[i],List.getElem?_eq_getElem hi⟩
  obtain ⟨e,he,hb,hx⟩:=sC all (rF all) all 0 hA i o ho x (by simpa using hx)
  have hlt:=(dO all 0 hE i o ho).1 e he hb
  have hl:=hdep o ho e he hb
  rcases hx with rfl | hx
  ·exact hl
  ·exact ih e.on (by omega) (by omega) (fun o' ho' e' he' hb'=>hc e.on (by omega) hl o' ho' e' he' hb') x hx
theorem JE (hΓ:CtxOk E.P Γ) (hN:jL Γ) {ops:Array Oper} (hd:rQ E.N E.ps ops.toList=true) (hE:iM 0 ops.toList=true) (hA:BD ops.toList (rF ops.toList) 0 ops.toList=true) {sf:FState} (hf:κ sf=some r):
  ∀(fuel:Nat) (listed:Array Bool) (L:List (Nat×dX)) (s:FState) (a:Act) (w:World),Rel E w a s→RunL Γ ops.toList L s sf→YD ops.toList listed L→L.length≤fuel→
  wpAny E.P .any ops (fun e a w=>match e with | .normal=>Goes E κ r a w | _=>False) fuel listed a w:=by
 intro fuel
 have hfirst:∀(listed:Array Bool) (p:Nat×dX) (L:List (Nat×dX)),YD ops.toList listed (p::L)→p.1∈Region.ready .any ops listed:=fun listed p L hl=>by
  have hp:=hl.lt p (by simp)
  refine mem_ready.2 ⟨by simpa using hp,(hl.mem p.1 hp).2 (by simp),fun o ho e he hb=>?_⟩
  have hlt:=(dO ops.toList 0 hE p.1 o (by simpa using ho)).1 e he hb
  have hel:e.on < ops.toList.length:=by omega
  rw [←hH (by rw [hl.size];exact hel)]
  cases h:listed.getD e.on true with
  | true=>rfl
  | false=>
   have hm:=(hl.mem e.on hel).1 h
   obtain ⟨q,hq,e'⟩:=List.mem_map.1 hm
   rcases List.mem_cons.1 hq with rfl | hq
   ·omega
   ·have:=(List.pairwise_cons.1 hl.ord).1 q hq;omega
 induction fuel with
 | zero=>
  intro listed L s a w hR hL hl hlen
  have:L=[]:=List.eq_nil_of_length_eq_zero (by omega)
  subst this
  cases hL
  refine ⟨?_,_,hR,hf⟩
  refine List.eq_nil_iff_forall_not_mem.2 fun i hi=>?_
  obtain ⟨h1,h2,_⟩:=mem_ready.1 hi
  have:=(hl.mem i (by simpa using h1)).1 h2
  simp at this
 | succ fuel ih=>
  intro listed L s a w hR hL hl hlen
  refine ⟨fun h0=>?_,fun i hi=>?_⟩
  ·cases L with
   | nil=>cases hL;exact ⟨_,hR,hf⟩
   | cons p L=>have:=hfirst listed p L hl;rw [h0] at this;cases this
  ·obtain ⟨h1,h2,h3⟩:=mem_ready.1 hi
   have hi':i < ops.toList.length:=by simpa using h1
   have hm:=(hl.mem i hi').1 h2
   obtain ⟨⟨i',inf⟩,hq,rfl⟩:=List.mem_map.1 hm
   obtain ⟨J,R,rfl⟩:=List.append_of_mem hq
   simp only at h1 h2 h3 hi'
   have hdep:∀o,ops.toList[i']? =some o→∀e∈o.after,Region.binds .any e=true→listed.getD e.on true=true:=fun o ho e he hb=>by
    have hlt:=(dO ops.toList 0 hE i' o ho).1 e he hb
    rw [hH (by rw [hl.size];omega)]
    exact h3 o (by simpa using ho) e he hb
   have hanc:=zM hE hA hl.closed i' hi' hdep
   have hord:=List.pairwise_append.1 hl.ord
   have hfree:∀p∈J,BF ops.toList p (i',inf):=fun p hp=>by
    have hc:=(hord.2.2 p hp (i',inf) (by simp)).2
    rcases hc with hc | hc
    ·have:=hanc p.1 (dP hc)
     have h4:=(hl.mem p.1 (hl.lt p (by simp [hp]))).2 (by simp;exact .inl ⟨p.2,hp⟩)
     rw [this] at h4;cases h4
    ·exact SD hE hc
   obtain ⟨pl,hR'⟩:=hR
   have hmv:=hL.move hR'.wf hfree
   obtain ⟨o,wd,e,ho,hg,hr⟩:=hmv.inv
   ·have hoi:ops[i']? =some o:=by simpa using ho
    have hstep:=hg.same s (fun _ _=>rfl) (fun _ _ _=>rfl) (fun _ _=>rfl) (fun _ _ h=>h) (fun _ _ _=>rfl) (fun _ _ s'=>some s')
    have hdo:bH E o.dst:=lS hd (List.mem_of_getElem? ho)
    have hgo:=xY (κ:=some) (r:=e.app s o.dst) (Q:=fun e a w=>match e with | .normal=>Goes E κ r a w | _=>False) hΓ hd ⟨pl,hR'⟩ hoi hdo hstep
    refine wpOp_mono (fun a' w' ⟨s',hs',hk'⟩=>?_) hgo
    cases hk'
    have hord2:=(List.pairwise_cons.1 hord.2.1)
    refine ih (listed.setIfInBounds i' true) (J++R) _ a' w' hs' hr ?_ (by simp at hlen ⊢;omega)
    have hset:∀j,(listed.setIfInBounds i' true).getD j true=(if j=i' then true else listed.getD j true):=fun j=>by
     simp only [Array.getD_eq_getD_getElem?,Array.getElem?_setIfInBounds]
     by_cases e:i'=j
     ·subst e;simp;split <;> rfl
     ·rw [if_neg e,if_neg (fun h=>e h.symm)]
    refine ⟨by simpa using hl.size,fun j hj=>?_,fun p hp=>hl.lt p (by simp at hp ⊢;rcases hp with h | h <;> simp [h]),?_,fun j hj hjl o' ho' e' he' hb'=>?_⟩
    ·rw [hset]
     by_cases e:j=i'
     ·subst e
      simp only [if_true]
      refine ⟨fun h=>(by cases h),fun h=>?_⟩
      obtain ⟨q,hq,e⟩:=List.mem_map.1 h
      rcases List.mem_append.1 hq with hq | hq
      ·have:=(hord.2.2 q hq (j,inf) (by simp)).1;simp only at this;omega
      ·have:=(hord2.1 q hq).1;simp only at this;omega
     ·rw [if_neg e,hl.mem j hj]
      simp only [List.map_append,List.map_cons,List.mem_append,List.mem_cons]
      constructor
      ·rintro (h | h | h)
       ·exact .inl h
       ·exact absurd h e
       ·exact .inr h
      ·rintro (h | h)
       ·exact .inl h
       ·exact .inr (.inr h)
    ·exact List.pairwise_append.2 ⟨hord.1,hord2.2,fun p hp q hq=>hord.2.2 p hp q (by simp [hq])⟩
    ·rw [hset] at hjl ⊢
     by_cases e1:e'.on=i'
     ·rw [if_pos e1]
     ·rw [if_neg e1]
      by_cases e2:j=i'
      ·subst e2
       exact hdep o' ho' e' he' hb'
      ·rw [if_neg e2] at hjl
       exact hl.closed j hj hjl o' ho' e' he' hb'
theorem BS (hΓ:CtxOk E.P Γ) (hN:jL Γ) (hm:E.P.follows .mixedOrders=true) {ops:Array Oper} (hd:rQ E.N E.ps ops.toList=true) (hE:iM 0 ops.toList=true) (h:Rel E w a s) {id:Nat} (hk:EY Γ ops.toList 0 ops.toList s [] κ=some r):
  (Code.region id ops true).wp E.P (fun e a w=>match e with | .normal=>Goes E κ r a w | _=>False) a w:=by
 obtain ⟨L,s',h1,h2,h3,h4,h5⟩:=wR hN (fun o ho d hdd=>Nat.lt_of_lt_of_le (lS hd ho d hdd).lt E.hN) ops.toList 0 s [] rfl hk
 obtain ⟨pl,h⟩:=h
 have hw':RelP E pl {w with drawn:=w.drawn+1} a s:=h.world rfl rfl rfl rfl
 refine wp_region_any hm (JE hΓ hN hd hE h4 h2 ops.size _ L s a _ ⟨pl,hw'⟩ h1 ?_ (by have:=congrArg List.length h5;simp at this;omega))
 have hp:=nI _ _ h3
 rw [List.append_nil,List.pairwise_reverse] at hp
 have hsort:L.Pairwise fun p q=>p.1 < q.1:=by
  have:(L.map (·.1)).Pairwise (· < ·):=by rw [h5];exact List.pairwise_lt_range'
  exact List.pairwise_map.1 this
 refine ⟨by simp,fun i hi=>?_,fun p hp=>?_,hsort.imp₂ (fun p q h1 h2=>⟨h1,h2⟩) hp,fun i hi hl=>?_⟩
 ·rw [h5]
  simp only [List.mem_range'_1]
  simp at hi
  simp [hi]
 ·have:p.1∈L.map (·.1):=List.mem_map.2 ⟨p,hp,rfl⟩
  rw [h5] at this
  simpa using this
 ·simp at hi
  simp [hi] at hl
def iJ (N:Nat) (ps:List Nat):Code→Bool
 | .region _ ops _=>rQ N ps ops.toList
 | .seq a b=>iJ N ps a&&iJ N ps b
 | .cond _ a b=>iJ N ps a&&iJ N ps b
 | .block _ a=>iJ N ps a
 | .loop a=>iJ N ps a
 | _=>true
def mX (E:Env) (cx:Cx β) (r:β):Exit→Act→World→Prop
 | .normal=>Goes E cx.nrm r
 | .ret=>Goes E cx.ret r
 | .exit id=>Goes E (cx.ex id) r
 | _=>fun _ _=>False
theorem bG (hT:TabOk E.P Γ) {l:Option (List NE)} (h:Goes E (dL Γ l κ) r a w):Goes E κ r a w:=by
 cases l with
 | none=>exact h
 | some l=>exact wB hT h
theorem dA (hT:TabOk E.P Γ) {sk:Sk} {cx:Cx β} {e:Exit} (h:mX E (sk.wrap Γ cx) r e a w):mX E cx r e a w:=by
 cases sk with
 | fin i n x l b=>
  cases e with
  | normal=>exact bG hT h
  | ret=>exact bG hT h
  | exit id=>exact bG hT h
  | _=>exact h
 | _=>exact h
def RW (P:Program) (c:Code) (Q:Exit→Act→World→Prop) (a:Act) (w:World):Prop:=
 ∀(b:Frame) (k:List Item) (cs:List Frame),∃e a' w',Q e a' w'∧Arrives P (lone (b.at a (.code c:: .inLoop c::k)) cs w) b k cs e a' w'
theorem GF {P:Program} {c:Code} (h:c.wp P (Exit.then (RW P c Q) Q) a w):RW P c Q a w:=by
 intro b k cs
 obtain ⟨e,a₁,w₁,hq,harr⟩:=h b (.inLoop c::k) cs
 cases e with
 | normal=>
  obtain ⟨e₂,a₂,w₂,hq₂,harr₂⟩:=hq b k cs
  exact ⟨e₂,a₂,w₂,hq₂,.of_steps (Steps.trans harr (.one step_inLoop)) harr₂⟩
 | exit id=>exact ⟨_,a₁,w₁,hq,.pass (x:= .inLoop c) rfl (fun _ _=> .inl (by simp)) harr⟩
 | goto l=>exact ⟨_,a₁,w₁,hq,.pass (x:= .inLoop c) rfl (fun _ _=> .inl (by simp)) harr⟩
 | ret=>exact ⟨_,a₁,w₁,hq,.pass (x:= .inLoop c) rfl (fun _ _=> .inl (by simp)) harr⟩
 | panic ch=>exact ⟨_,a₁,w₁,hq,.pass (x:= .inLoop c) rfl (fun _ _=> .inl (by simp)) harr⟩
 | outgrown=>exact ⟨_,a₁,w₁,hq,.pass (x:= .inLoop c) rfl (fun _ _=> .inl (by simp)) harr⟩
theorem zX {P:Program} {c:Code} (h:RW P c Q a w):(Code.loop c).wp P Q a w:=by
 intro b k cs
 obtain ⟨e,a',w',hq,harr⟩:=h b k cs
 exact ⟨e,a',w',hq,.of_steps (.one step_loop) harr⟩
theorem OF (hΓ:CtxOk E.P Γ) (hN:jL Γ) (hm:E.P.follows .mixedOrders=true) (n:Nat):∀(c:Code) (sk:Sk) (s:FState) (cx:Cx β) (a:Act) (w:World),iJ E.N E.ps c=true→Rel E w a s→FX Γ n c sk s cx=some r→c.wp E.P (mX E cx r) a w:=by
 intro c
 induction c with
 | skip=>
  intro sk s cx a w hB h hk
  unfold FX at hk
  obtain ⟨s,h,hk⟩:=bG hΓ.tab (l:=sk.ini) ⟨s,h,hk⟩
  exact wp_skip (dA hΓ.tab (sk:=sk) ⟨s,h,hk⟩)
 | ret=>
  intro sk s cx a w hB h hk
  unfold FX at hk
  obtain ⟨s,h,hk⟩:=bG hΓ.tab (l:=sk.ini) ⟨s,h,hk⟩
  exact wp_ret (dA hΓ.tab (sk:=sk) (e:= .ret) ⟨s,h,hk⟩)
 | exit id=>
  intro sk s cx a w hB h hk
  unfold FX at hk
  obtain ⟨s,h,hk⟩:=bG hΓ.tab (l:=sk.ini) ⟨s,h,hk⟩
  exact wp_exit (dA hΓ.tab (sk:=sk) (e:= .exit id) ⟨s,h,hk⟩)
 | region id ops draw=>
  intro sk s cx a w hB h hk
  unfold FX at hk
  obtain ⟨s,h,hk⟩:=bG hΓ.tab (l:=sk.ini) ⟨s,h,hk⟩
  refine wp_mono (Q:=fun e a w=>match e with | .normal=>Goes E (sk.wrap Γ cx).nrm r a w | _=>False) ?_ (fun e a w hq=>?_)
  ·cases draw with
   | true=>
    simp only [cond_true] at hk
    obtain ⟨hE,hk⟩:=aL hk
    exact BS hΓ hN hm hB hE h hk
   | false=>
    simp only [cond_false] at hk
    refine wp_region ?_
    have:=qX hΓ hN hB ops.toList 0 s a w rfl h hk
    rw [List.range_eq_range']
    simpa using this
  ·cases e with
   | normal=>exact dA hΓ.tab (sk:=sk) (e:= .normal) hq
   | _=>exact hq.elim
 | seq x y ihx ihy=>
  intro sk s cx a w hB h hk
  simp only [iJ,Bool.and_eq_true] at hB
  unfold FX at hk
  obtain ⟨s,h,hk⟩:=bG hΓ.tab (l:=sk.ini) ⟨s,h,hk⟩
  refine wp_mono (Q:=mX E (sk.wrap Γ cx) r) ?_ (fun e a w hq=>dA hΓ.tab hq)
  refine wp_seq (wp_mono (ihx _ s _ a w hB.1 h hk) (fun e a w hq=>?_))
  cases e with
  | normal=>
   obtain ⟨s',hs',hk'⟩:=hq
   exact ihy _ s' _ a w hB.2 hs' hk'
  | _=>exact hq
 | cond o x y ihx ihy=>
  intro sk s cx a w hB h hk
  simp only [iJ,Bool.and_eq_true] at hB
  unfold FX at hk
  obtain ⟨s,h,hk⟩:=bG hΓ.tab (l:=sk.ini) ⟨s,h,hk⟩
  obtain ⟨b,hb,hk⟩:=kC hk
  obtain ⟨pl,h'⟩:=h
  have he:=(h'.ev o _ hb).bool_inv
  refine wp_mono (Q:=mX E (sk.wrap Γ cx) r) ?_ (fun e a w hq=>dA hΓ.tab hq)
  refine wp_cond he ?_
  cases b with
  | true=>exact ihx _ s _ a w hB.1 ⟨pl,h'⟩ hk
  | false=>exact ihy _ s _ a w hB.2 ⟨pl,h'⟩ hk
 | block id x ihx=>
  intro sk s cx a w hB h hk
  unfold FX at hk
  obtain ⟨s,h,hk⟩:=bG hΓ.tab (l:=sk.ini) ⟨s,h,hk⟩
  refine wp_mono (Q:=mX E (sk.wrap Γ cx) r) ?_ (fun e a w hq=>dA hΓ.tab hq)
  refine wp_block (wp_mono (ihx _ s _ a w hB h hk) (fun e a w hq=>?_))
  cases e with
  | exit j=>
   obtain ⟨s',hs',hk'⟩:=hq
   simp only [Exit.inBlock]
   by_cases hj:j=id
   ·subst hj
    rw [if_pos rfl]
    simp only [Nat.beq_refl,cond_true] at hk'
    exact ⟨s',hs',hk'⟩
   ·rw [if_neg hj]
    simp only [cF hj,cond_false] at hk'
    exact ⟨s',hs',hk'⟩
  | _=>exact hq
 | loop x ihx=>
  intro sk s cx a w hB h hk
  unfold FX at hk
  obtain ⟨s,h,hk⟩:=bG hΓ.tab (l:=sk.ini) ⟨s,h,hk⟩
  refine wp_mono (Q:=mX E (sk.wrap Γ cx) r) ?_ (fun e a w hq=>dA hΓ.tab hq)
  refine zX ?_
  have key:∀(m:Nat) (s:FState) (a:Act) (w:World),Rel E w a s→bD (fun again s=>FX Γ n x sk.body.l s {sk.wrap Γ cx with nrm:=again}) m s=some r→RW E.P x (mX E (sk.wrap Γ cx) r) a w:=by
   intro m
   induction m with
   | zero=>intro s a w h hk;simp [bD] at hk
   | succ m ih=>
    intro s a w h hk
    simp only [bD] at hk
    refine GF (wp_mono (ihx _ s _ a w hB h hk) (fun e a w hq=>?_))
    cases e with
    | normal=>
     obtain ⟨s',hs',hk'⟩:=hq
     exact ih s' a w hs' hk'
    | _=>exact hq
  exact key n s a w h hk
 | _=>
  intro sk s cx a w hB h hk
  simp [FX] at hk
end
end Go.Proofs.YtoafkjeamgelgaaDoorHF
