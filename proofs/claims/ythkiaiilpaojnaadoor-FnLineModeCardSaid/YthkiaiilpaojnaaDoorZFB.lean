/- FX: a plain machine beside the model's, and that the model comes to what it comes to. -/
import Derived.Test.YthkiaiilpaojnaaDoorZFC
import Derived.Defers
import Derived.Recover
import Derived.Below
import Derived.Deep.Slices
import Derived.Deep.Fields
import Derived.ChangeSame
import Derived.OpenVars
import Derived.OpenShut
import Derived.ShutString
import Derived.SizedLaws
import Derived.Handed
namespace Go.Proofs.YthkiaiilpaojnaaDoorZF
open Go
set_option linter.unusedVariables false
set_option linter.unusedSimpArgs false
def jP:Nat→(ks:List AK)→DenA ks→List (Nat×FV)
 | _,[],_=>[]
 | j,.dat k::ks,x=>(j,.dat k x.1)::jP (j+1) ks x.2
 | j,.ro k e::ks,x=>(j,.sl j none false)::jP (j+1) ks x.2
 | j,.rw k e::ks,x=>(j,.sl j none false)::jP (j+1) ks x.2
 | j,.pro k e::ks,x=>(j,.ptr j 0 0)::jP (j+1) ks x.2
 | j,.cel k e::ks,x=>(j,.dead)::jP (j+1) ks x.2
 | j,.io k e::ks,x=>(j,.dead)::jP (j+1) ks x.2
 | j,.mp a b::ks,x=>(j,.dead)::jP (j+1) ks x.2
def kX:Nat→(ks:List AK)→DenA ks→List (Nat×FObj)
 | _,[],_=>[]
 | j,.dat k::ks,x=>kX (j+1) ks x.2
 | j,.ro k e::ks,x=>(j,.row k e false x.1)::kX (j+1) ks x.2
 | j,.rw k e::ks,x=>(j,.row k e true x.1)::kX (j+1) ks x.2
 | j,.pro k e::ks,x=>(j,.row k e false [x.1])::kX (j+1) ks x.2
 | j,.cel k e::ks,x=>kX (j+1) ks x.2
 | j,.io k e::ks,x=>kX (j+1) ks x.2
 | j,.mp a b::ks,x=>kX (j+1) ks x.2
def mH (ks:List AK) (d:DenA ks):FState:=⟨aM (jP 0 ks d),aE (kX 0 ks d)⟩
def fK (Γ:Ctx):List AK→Bool
 | []=>true
 | .dat _::ks=>fK Γ ks
 | .ro k e::ks=>(match lk Γ.kt e with | some k'=>decide (k'=k) | none=>false)&&fK Γ ks
 | .rw k e::ks=>(match lk Γ.kt e with | some k'=>decide (k'=k) | none=>false)&&fK Γ ks
 | .pro k e::ks=>(match lk Γ.kt e with | some k'=>decide (k'=k) | none=>false)&&fK Γ ks
 | .cel _ _::_ | .io _ _::_ | .mp _ _::_=>false
def hH (Γ:Ctx):List RK→Bool
 | []=>true
 | .dat _::ks=>hH Γ ks
 | .nsl::ks=>hH Γ ks
 | .ro k e::ks=>(match lk Γ.kt e with | some k'=>decide (k'=k) | none=>false)&&hH Γ ks
 | .rw k e::ks=>(match lk Γ.kt e with | some k'=>decide (k'=k) | none=>false)&&hH Γ ks
 | .ptr k e::ks=>(match lk Γ.kt e with | some k'=>decide (k'=k) | none=>false)&&hH Γ ks
 | .bcel _ _::_ | .bio _ _::_ | .bmp _ _::_=>false
theorem pJ {Γ:Ctx} {e:Nat} {k:K} (h:(match lk Γ.kt e with | some k'=>decide (k'=k) | none=>false)=true):lk Γ.kt e=some k:=by
 cases hl:lk Γ.kt e with
 | none=>rw [hl] at h;cases h
 | some k'=>rw [hl] at h;simp at h;rw [h]
section
variable {β:Type}
def kJ (s:FState):(rs:List RK)→List FV→(DenR rs→Option β)→Option β
 | [],[],κ=>κ ()
 | .dat k::rs,t::ts,κ=>kY t k fun x=>kJ s rs ts fun xs=>κ (x,xs)
 | .nsl::rs,t::ts,κ=>(match t with | .nsl=>kJ s rs ts fun xs=>κ ((),xs) | _=>none)
 | .rw k e::rs,t::ts,κ=>
  (match t with
  | .nsl=>kJ s rs ts fun xs=>κ ([],xs)
  | v=>kS s v fun _ k' e' rw xs w=>if e'=e∧rw=true then gC k' k xs fun xs=>kJ s rs ts fun r=>κ (win xs w,r) else none)
 | .ro k e::rs,t::ts,κ=>
  (match t with
  | .nsl=>kJ s rs ts fun xs=>κ ([],xs)
  | .dat (.sl e1 k1) xs=>if e1=e then gC k1 k xs fun xs=>kJ s rs ts fun r=>κ (xs,r) else none
  | v=>kS s v fun _ k' e' _ xs w=>if e'=e then gC k' k xs fun xs=>kJ s rs ts fun r=>κ (win xs w,r) else none)
 | .ptr k e::rs,t::ts,κ=>
  (match t with
  | .ptr o 0 0=>match s.objs o with | some (.row k' e' true [x])=>if e'=e then vE k' k x fun x=>kJ s rs ts fun r=>κ (x,r) else none | _=>none
  | _=>none)
 | _,_,_=>none
def eA:List FV→List Nat
 | []=>[]
 | t::ts=>match t with | .sl o _ _=>o::eA ts | .ptr o _ _=>o::eA ts | _=>eA ts
def rvF (Γ:Ctx) (s:FState) (r:Nat×Option TypeId):FV:=
 match r.2 with
 | none=>Go.Proofs.YthkiaiilpaojnaaDoorZF.ev s (.tmp r.1)
 | some ty=>match Go.Proofs.YthkiaiilpaojnaaDoorZF.ev s (.tmp r.1) with
  | .ptr o 0 0=>(match s.objs o with | some (.row k _ _ [x])=>if lk Γ.kt ty=some k then .dat k x else .dead | _=> .dead)
  | _=> .dead
def rvV (r:Nat×Option TypeId):ResultVar:=match r.2 with | none=> .tmp r.1 | some ty=> .cell r.1 ty
def fin (Γ:Ctx) (rs:List RK) (ts:List (Nat×Option TypeId)) (s:FState):Option (DenR rs):=bif dX (eA (ts.map (rvF Γ s))) then kJ s rs (ts.map (rvF Γ s)) some else none
def cS (Γ:Ctx) (rs:List RK) (ts:List (Nat×Option TypeId)):Cx (DenR rs):=⟨fin Γ rs ts,fin Γ rs ts,fun _ _=>none⟩
def d4 (w:World) (A:Nat→Prop) (O:fE) (pl:Nat→Pl):List FV→List Value→Prop
 | [],[]=>True
 | f::fs,v::vs=>VRep w A O pl f v∧d4 w A O pl fs vs
 | _,_=>False
end
structure InitI (P:Program) (w:World) (A:Nat→Prop) (own:List Nat) (j:Nat) (tl:List (Nat×FV)) (ol:List (Nat×FObj)) (vs:List Value) (pl:Nat→Pl):Prop where
 vals:∀t fv,(t,fv)∈tl→j≤t∧∃v,vs[t - j]? =some v∧VRep w A (aE ol) pl fv v
 objs:∀o obj,aE ol o=some obj→j≤o∧ObjAt P w A (pl o) obj∧(occ (pl o) obj→(pl o).b∈own)
 sep:∀o o' obj obj',o≠o'→aE ol o=some obj→aE ol o'=some obj'→occ (pl o) obj→occ (pl o') obj'→(pl o).b≠(pl o').b
theorem fD (t:Nat) (obj:FObj) (ol:List (Nat×FObj)) (o:Nat):aE ((t,obj)::ol) o=if o=t then some obj else aE ol o:=by
 simp only [aE]
 by_cases h:o=t
 ·subst h;simp [Nat.beq_refl]
 ·simp [fV h,h]
section
variable {P:Program} {Γ:Ctx} {w:World} {A:Nat→Prop}
theorem InitI.consV {own:List Nat} {j:Nat} {tl:List (Nat×FV)} {ol:List (Nat×FObj)} {vs:List Value} {pl:Nat→Pl} (h:InitI P w A own (j+1) tl ol vs pl) {fv:FV} {v:Value} (hv:VRep w A (aE ol) pl fv v):
  InitI P w A own j ((j,fv)::tl) ol (v::vs) pl:=by
 refine ⟨fun t f hm=>?_,fun o obj ho=>⟨by have:=(h.objs o obj ho).1;omega,(h.objs o obj ho).2⟩,h.sep⟩
 rcases List.mem_cons.1 hm with e | hm
 ·cases e;exact ⟨Nat.le_refl _,v,by simp,hv⟩
 ·obtain ⟨h1,v',h2,h3⟩:=h.vals t f hm
  refine ⟨by omega,v',?_,h3⟩
  rw [show t - j=(t - (j+1))+1 by omega];simpa using h2
theorem InitI.consO {o1 o2:List Nat} {j:Nat} {tl:List (Nat×FV)} {ol:List (Nat×FObj)} {vs:List Value} {pl:Nat→Pl} (h:InitI P w A o2 (j+1) tl ol vs pl) {fv:FV} {v:Value} (obj:FObj) (p:Pl) (hnd:(o1++o2).Nodup)
  (hv:VRep w A (aE ((j,obj)::ol)) (upd pl j p) fv v) (hobj:ObjAt P w A p obj) (hocc:occ p obj→p.b∈o1):InitI P w A (o1++o2) j ((j,fv)::tl) ((j,obj)::ol) (v::vs) (upd pl j p):=by
 have hO:∀o ob,aE ol o=some ob→aE ((j,obj)::ol) o=some ob∧upd pl j p o=pl o:=fun o ob ho=>by
  have hne:o≠j:=by have:=(h.objs o ob ho).1;omega
  exact ⟨by rw [fD,if_neg hne];exact ho,bJ _ _ _ hne⟩
 refine ⟨fun t f hm=>?_,fun o ob ho=>?_,fun o o' ob ob' hne ho ho' hc hc'=>?_⟩
 ·rcases List.mem_cons.1 hm with e | hm
  ·cases e;exact ⟨Nat.le_refl _,v,by simp,hv⟩
  ·obtain ⟨h1,v',h2,h3⟩:=h.vals t f hm
   refine ⟨by omega,v',?_,h3.move (fun _ _ _ h=>h) (fun o ob ho=>⟨ob,(hO o ob ho).1,ob.like_refl,(hO o ob ho).2⟩)⟩
   rw [show t - j=(t - (j+1))+1 by omega];simpa using h2
 ·rw [fD] at ho
  split at ho
  ·rename_i e
   subst e
   cases ho
   rw [aT]
   exact ⟨Nat.le_refl _,hobj,fun hc=>List.mem_append.2 (.inl (hocc hc))⟩
  ·rename_i hne
   rw [bJ _ _ _ hne]
   obtain ⟨h1,h2,h3⟩:=h.objs o ob ho
   exact ⟨by omega,h2,fun hc=>List.mem_append.2 (.inr (h3 hc))⟩
 ·have hd:=(List.nodup_append.1 hnd).2.2
  rw [fD] at ho ho'
  split at ho <;> split at ho'
  ·simp_all
  ·rename_i e e'
   subst e
   cases ho
   rw [aT] at hc ⊢
   rw [bJ _ _ _ e'] at hc' ⊢
   exact hd _ (hocc hc) _ ((h.objs o' ob' ho').2.2 hc')
  ·rename_i e e'
   subst e'
   cases ho'
   rw [aT] at hc' ⊢
   rw [bJ _ _ _ e] at hc ⊢
   exact (hd _ (hocc hc') _ ((h.objs o ob ho).2.2 hc)).symm
  ·rename_i e e'
   rw [bJ _ _ _ e] at hc ⊢
   rw [bJ _ _ _ e'] at hc' ⊢
   exact h.sep o o' ob ob' hne ho ho' hc hc'
theorem InitI.own {o1 o2:List Nat} {j:Nat} {tl:List (Nat×FV)} {ol:List (Nat×FObj)} {vs:List Value} {pl:Nat→Pl} (h:InitI P w A o2 j tl ol vs pl) (hs:∀b∈o2,b∈o1):InitI P w A o1 j tl ol vs pl:=
 ⟨h.vals,fun o obj ho=>⟨(h.objs o obj ho).1,(h.objs o obj ho).2.1,fun hc=>hs _ ((h.objs o obj ho).2.2 hc)⟩,h.sep⟩
theorem zF (hT:TabOk P Γ):∀(ks:List AK) (j:Nat) (d:DenA ks) (vs:List Value) (own:List Nat),fK Γ ks=true→own.Nodup→ArgsRep w A ks d vs own→∃pl,InitI P w A own j (jP j ks d) (kX j ks d) vs pl
 | [],j,d,vs,own,_,_,h=>by
  obtain ⟨rfl,rfl⟩:=h
  exact ⟨fun _=>⟨0,0,0⟩,fun t fv hm=>by simp [jP] at hm,fun o obj ho=>by simp [kX,aE] at ho,fun o o' obj obj' _ ho=>by simp [kX,aE] at ho⟩
 | .dat k::ks,j,d,vs,own,hk,hnd,h=>by
  obtain ⟨v,vs',o1,o2,rfl,rfl,h1,h2⟩:=h
  obtain ⟨rfl,cs,hc,hv⟩:=h1
  obtain ⟨pl,hi⟩:=zF hT ks (j+1) d.2 vs' o2 (by simpa [fK] using hk) (List.nodup_append.1 hnd).2.1 h2
  exact ⟨pl,hi.consV (.inl ⟨cs,hc,hv⟩)⟩
 | .ro k e::ks,j,d,vs,own,hk,hnd,h=>by
  obtain ⟨v,vs',o1,o2,rfl,rfl,h1,h2⟩:=h
  simp only [fK,Bool.and_eq_true] at hk
  have hTy:=hT.kt e k (pJ hk.1)
  obtain ⟨rfl,ad,cap,rfl,hle,hx⟩:=h1
  obtain ⟨pl,hi⟩:=zF hT ks (j+1) d.2 vs' o2 hk.2 (List.nodup_append.1 hnd).2.1 h2
  by_cases hx0:d.1=[]
  ·refine ⟨_,hi.consO (o1:=[]) (.row k e false d.1) ⟨0,0,d.1.length⟩ hnd (VRep.mkSl (by rw [fD,if_pos rfl]) (off:=0) (len:=d.1.length) ⟨rfl,rfl⟩ rfl hle (fun hh=>by cases hh) (fun hh=>?_) (fun hn=>by cases hn)) ⟨hTy,Nat.le_refl _,fun hh=>(by cases hh),fun _ hne=>absurd hx0 hne,by rw [hx0];exact RowAt.nil _ _ _ _ _⟩ (fun hc=>by cases hc.1)⟩
   rcases hh with hh | hh
   ·rw [hx0] at hh;simp at hh
   ·cases hh.1
  ·obtain ⟨b,off,rfl,hb,hrow⟩:=hx hx0
   exact ⟨_,hi.consO (o1:=[]) (.row k e false d.1) ⟨b,off,d.1.length⟩ hnd (VRep.mkSl (by rw [fD,if_pos rfl]) (off:=0) (len:=d.1.length) ⟨rfl,rfl⟩ rfl hle (fun hh=>by cases hh) (fun hh=>by rw [aT];simp) (fun hn=>by cases hn)) ⟨hTy,Nat.le_refl _,fun hh=>(by cases hh),fun _ _=>hb,hrow⟩ (fun hc=>by cases hc.1)⟩
 | .rw k e::ks,j,d,vs,own,hk,hnd,h=>by
  obtain ⟨v,vs',o1,o2,rfl,rfl,h1,h2⟩:=h
  simp only [fK,Bool.and_eq_true] at hk
  have hTy:=hT.kt e k (pJ hk.1)
  obtain ⟨ad,p,cap,rfl,hle,hpc,had,hc1,hc2⟩:=h1.obj_rw
  obtain ⟨pl,hi⟩:=zF hT ks (j+1) d.2 vs' o2 hk.2 (List.nodup_append.1 hnd).2.1 h2
  refine ⟨_,hi.consO (o1:=o1) (.row k e true d.1) p hnd (VRep.mkSl (by rw [fD,if_pos rfl]) (off:=0) (len:=d.1.length) ⟨rfl,rfl⟩ rfl hle (fun _=>by rw [aT];omega) (fun hh=>by rw [aT,had (by omega)];simp) (fun hn=>by cases hn)) ⟨hTy,by omega,fun _ hcp=>(hc1 (by omega)).2.2,fun hh=>(by cases hh),?_⟩ (fun hc=>by rw [(hc1 (by have:=hc.2;omega)).1];simp)⟩
  by_cases hcp:0 < cap
  ·exact (hc1 hcp).2.1
  ·rw [(hc2 hcp).2];exact RowAt.nil _ _ _ _ _
 | .pro k e::ks,j,d,vs,own,hk,hnd,h=>by
  obtain ⟨v,vs',o1,o2,rfl,rfl,h1,h2⟩:=h
  simp only [fK,Bool.and_eq_true] at hk
  have hTy:=hT.kt e k (pJ hk.1)
  obtain ⟨rfl,b,off,rfl,hb,hrow⟩:=h1
  obtain ⟨pl,hi⟩:=zF hT ks (j+1) d.2 vs' o2 hk.2 (List.nodup_append.1 hnd).2.1 h2
  exact ⟨_,hi.consO (o1:=[]) (.row k e false [d.1]) ⟨b,off,1⟩ hnd (VRep.mkPtr (by rw [fD,if_pos rfl]) (Int.le_refl _) (by simp) (by rw [aT];simp)) ⟨hTy,Nat.le_refl _,fun hh=>(by cases hh),fun _ _=>hb,hrow⟩ (fun hc=>by cases hc.1)⟩
 | .cel k e::ks,j,d,vs,own,hk,hnd,h=>by simp [fK] at hk
 | .io k e::ks,j,d,vs,own,hk,hnd,h=>by simp [fK] at hk
 | .mp a b::ks,j,d,vs,own,hk,hnd,h=>by simp [fK] at hk
theorem zW:∀(ks:List AK) (j:Nat) (d:DenA ks) (t:Nat) (fv:FV),(t,fv)∈jP j ks d→t < j+ks.length
 | [],j,d,t,fv,h=>by simp [jP] at h
 | k::ks,j,d,t,fv,h=>by
  have key:∀g:FV,(t,fv)∈(j,g)::jP (j+1) ks d.2→t < j+(k::ks).length:=fun g h=>by
   rcases List.mem_cons.1 h with h | h
   ·have:t=j:=(Prod.mk.inj h).1
    simp only [List.length_cons];omega
   ·have:=zW ks (j+1) d.2 t fv h
    simp only [List.length_cons];omega
  cases k <;> exact key _ h
end
section
variable {E:Env} {pl:Nat→Pl} {Γ:Ctx} {w w':World} {a:Act} {s:FState} {β:Type} {r:β}
theorem gF (hT:TabOk E.P Γ) (h:RelP E pl w a s):∀(rs:List RK) (ts:List FV) (vs:List Value) {f:DenR rs→Option β},d4 w (Av E s.objs pl) s.objs pl ts vs→kJ s rs ts f=some r→hH Γ rs=true→dX (eA ts)=true→
  ∃(x:DenR rs) (own:List Nat),f x=some r∧own.Nodup∧(∀b∈own,∃o∈eA ts,∃obj,s.objs o=some obj∧occ (pl o) obj∧(pl o).b=b)∧
   ∀A:Nat→Prop,(∀b,A b→Av E s.objs pl b)→(∀o∈eA ts,∀b,A b→b=(pl o).b→b∈own∨¬∃obj,s.objs o=some obj∧occ (pl o) obj)→RessRep E.P w A rs x vs own
 | [],[],[],f,_,hk,_,_=>⟨(),[],hk,List.nodup_nil,fun b hb=>by simp at hb,fun A hA _=>⟨rfl,rfl⟩⟩
 | [],t::ts,_,f,_,hk,_,_=>by simp [kJ] at hk
 | [],[],v::vs,f,hv,hk,_,_=>hv.elim
 | .dat k::rs,[],_,f,_,hk,_,_=>by simp [kJ] at hk
 | .nsl::rs,[],_,f,_,hk,_,_=>by simp [kJ] at hk
 | .rw k e::rs,[],_,f,_,hk,_,_=>by simp [kJ] at hk
 | .ro k e::rs,[],_,f,_,hk,_,_=>by simp [kJ] at hk
 | .ptr k e::rs,[],_,f,_,hk,_,_=>by simp [kJ] at hk
 | .dat k::rs,t::ts,[],f,hv,_,_,_=>hv.elim
 | .dat k::rs,t::ts,v0::vs,f,hvs,hk,hr,hn=>by
  obtain ⟨hv,hvs⟩:=hvs
  unfold kJ at hk
  obtain ⟨x,hx,hk⟩:=cY hk
  have hids:eA (t::ts)=eA ts:=by simp [eA,hx]
  rw [hids] at hn ⊢
  obtain ⟨xs,own,h1,h2,h3,h4⟩:=gF hT h rs ts vs hvs hk (by simpa [hH] using hr) hn
  rw [hx] at hv
  obtain ⟨cs,hc,hvv⟩:=hv.dat_inv
  exact ⟨(x,xs),own,h1,h2,h3,fun A hA hB=>⟨_,_,[],own,rfl,rfl,⟨rfl,cs,hc.mono hA,hvv⟩,h4 A hA hB⟩⟩
 | .nsl::rs,t::ts,[],f,hv,_,_,_=>hv.elim
 | .nsl::rs,t::ts,v0::vs,f,hvs,hk,hr,hn=>by
  obtain ⟨hv,hvs⟩:=hvs
  unfold kJ at hk
  split at hk
  ·have hids:eA (FV.nsl::ts)=eA ts:=rfl
   rw [hids] at hn ⊢
   obtain ⟨xs,own,h1,h2,h3,h4⟩:=gF hT h rs ts vs hvs hk (by simpa [hH] using hr) hn
   have hve:v0= .slice none 0 0:=by
    rcases hv with hv | ⟨l,_,hl⟩
    ·exact hv
    ·exact hl.elim
   exact ⟨((),xs),own,h1,h2,h3,fun A hA hB=>⟨_,_,[],own,rfl,rfl,⟨rfl,hve⟩,h4 A hA hB⟩⟩
  ·cases hk
 | .rw k e::rs,t::ts,[],f,hv,_,_,_=>hv.elim
 | .rw k e::rs,t::ts,v0::vs,f,hvs,hk,hr,hn=>by
  obtain ⟨hv,hvs⟩:=hvs
  simp only [hH,Bool.and_eq_true] at hr
  have hTy:=hT.kt e k (pJ hr.1)
  unfold kJ at hk
  split at hk
  ·have hids:eA (FV.nsl::ts)=eA ts:=rfl
   rw [hids] at hn ⊢
   obtain ⟨xs,own,h1,h2,h3,h4⟩:=gF hT h rs ts vs hvs hk hr.2 hn
   have hve:v0= .slice none 0 0:=by
    rcases hv with hv | ⟨l,_,hl⟩
    ·exact hv
    ·exact hl.elim
   exact ⟨([],xs),own,h1,h2,h3,fun A hA hB=>⟨_,_,[],own,rfl,rfl,⟨hTy,none,0,hve,Nat.le_refl _,.inl ⟨rfl,rfl⟩⟩,h4 A hA hB⟩⟩
  ·obtain ⟨o,wn,nn,k',e',rw_,ys,hx,ho,hk⟩:=cQ hk
   have hh:=bN hk
   clear hk
   obtain ⟨⟨he,hrw⟩,hk⟩:=hh
   subst hrw
   have hh:=cB hk
   clear hk
   obtain ⟨he',hk⟩:=hh
   subst he'
   have hids:eA (t::ts)=o::eA ts:=by simp [eA,hx]
   rw [hids] at hn ⊢
   simp only [dX,Bool.and_eq_true] at hn
   obtain ⟨xs,own,h1,h2,h3,h4⟩:=gF hT h rs ts vs hvs hk hr.2 hn.2
   rw [hx] at hv
   obtain ⟨k1,e1,rw1,xs1,ho1,ad,cap,off,len,hw,hxe,hl,hc1,hc2,_⟩:=hv.sl_inv
   rw [ho] at ho1
   cases ho1
   obtain ⟨_,hxl,hmem,hro,hrow⟩:=h.objs o _ ho
   obtain ⟨hrw',hwl⟩:=hrow.winC hw
   have hpc:=hc1 rfl
   by_cases hcap:0 < cap
   ·have hocc:occ (pl o) (.row k' e' true ys):=⟨rfl,by omega⟩
    obtain ⟨row,tt,hrm,hsz⟩:=hmem rfl (by omega)
    have hnot:(pl o).b∉own:=fun hb=>by
     obtain ⟨o',g1,obj,g2,g3,g4⟩:=h3 _ hb
     by_cases e:o'=o
     ·subst e
      rw [cI g1] at hn
      simp at hn
     ·exact h.sep o' o obj _ e g2 ho g3 hocc g4
    refine ⟨(win ys wn,xs),(pl o).b::own,h1,List.nodup_cons.2 ⟨hnot,h2⟩,fun b hb=>?_,fun A hA hB=>⟨_,_,[(pl o).b],own,rfl,rfl,⟨hTy,ad,cap,by rw [hwl];exact hxe,by rw [hwl];exact hl,.inr ⟨(pl o).b,(pl o).off+off * k'.size,row,tt,hcap,rfl,hc2 (.inr ⟨rfl,hcap⟩),hrw'.mono hA,hrm,?_⟩⟩,h4 A hA (fun o' ho' b hb e=>?_)⟩⟩
    ·rcases List.mem_cons.1 hb with rfl | hb
     ·exact ⟨o,by simp,_,ho,hocc,rfl⟩
     ·obtain ⟨o',g1,g2⟩:=h3 b hb
      exact ⟨o',by simp [g1],g2⟩
    ·have:off * k'.size+cap * k'.size=(pl o).cap * k'.size:=by rw [←Nat.add_mul,hpc]
     omega
    ·rcases hB o' (by simp [ho']) b hb e with h5 | h5
     ·rcases List.mem_cons.1 h5 with h5 | h5
      ·right
       rintro ⟨obj,g2,g3⟩
       have hne:o'≠o:=fun e=>by subst e;rw [cI ho'] at hn;simp at hn
       exact h.sep o' o obj _ hne g2 ho g3 hocc (e.symm.trans h5)
      ·exact .inl h5
     ·exact .inr h5
   ·refine ⟨(win ys wn,xs),own,h1,h2,fun b hb=>?_,fun A hA hB=>⟨_,_,[],own,rfl,rfl,⟨hTy,ad,cap,by rw [hwl];exact hxe,by rw [hwl];exact hl,.inl ⟨by omega,rfl⟩⟩,h4 A hA (fun o' ho' b hb e=>hB o' (by simp [ho']) b hb e)⟩⟩
    obtain ⟨o',g1,g2⟩:=h3 b hb
    exact ⟨o',by simp [g1],g2⟩
 | .ro k e::rs,t::ts,[],f,hv,_,_,_=>hv.elim
 | .ro k e::rs,t::ts,v0::vs,f,hvs,hk,hr,hn=>by
  obtain ⟨hv,hvs⟩:=hvs
  simp only [hH,Bool.and_eq_true] at hr
  have hTy:=hT.kt e k (pJ hr.1)
  unfold kJ at hk
  split at hk
  ·have hids:eA (FV.nsl::ts)=eA ts:=rfl
   rw [hids] at hn ⊢
   obtain ⟨xs,own,h1,h2,h3,h4⟩:=gF hT h rs ts vs hvs hk hr.2 hn
   have hve:v0= .slice none 0 0:=by
    rcases hv with hv | ⟨l,_,hl⟩
    ·exact hv
    ·exact hl.elim
   exact ⟨([],xs),own,h1,h2,h3,fun A hA hB=>⟨_,_,[],own,rfl,rfl,⟨hTy,rfl,none,0,hve,Nat.le_refl _,fun hne=>absurd rfl hne⟩,h4 A hA hB⟩⟩
  ·rename_i e1 k1 zs
   obtain ⟨he,hk⟩:=bN hk
   have hh:=cB hk
   clear hk
   obtain ⟨he',hk⟩:=hh
   subst he'
   subst he
   have hids:eA (FV.dat (.sl e1 k1) zs::ts)=eA ts:=rfl
   rw [hids] at hn ⊢
   obtain ⟨xs,own,h1,h2,h3,h4⟩:=gF hT h rs ts vs hvs hk hr.2 hn
   obtain ⟨cs,hc,hvv⟩:=hv.dat_inv
   obtain ⟨ad,cap,hcs,hle,hrow⟩:=hc
   simp only [K.isPair,Bool.false_eq_true,if_false] at hvv
   rw [hvv] at hcs
   have hve:v0= .slice ad zs.length cap:=by simpa using hcs
   refine ⟨(zs,xs),own,h1,h2,h3,fun A hA hB=>⟨_,_,[],own,rfl,rfl,⟨hTy,rfl,ad,cap,hve,hle,fun hne=>?_⟩,h4 A hA hB⟩⟩
   obtain ⟨b,off,hab,hb,hr'⟩:=hrow.resolve_left hne
   refine ⟨b,off,hab,fun hAb=>hb (hA b hAb),fun i z hz=>?_⟩
   obtain ⟨ds,g1,g2⟩:=hr' i z hz
   exact ⟨ds,g1.mono hA,g2⟩
  ·obtain ⟨o,wn,nn,k',e',rw_,ys,hx,ho,hk⟩:=cQ hk
   obtain ⟨he,hk⟩:=bN hk
   have hh:=cB hk
   clear hk
   obtain ⟨he',hk⟩:=hh
   subst he'
   have hids:eA (t::ts)=o::eA ts:=by simp [eA,hx]
   rw [hids] at hn ⊢
   simp only [dX,Bool.and_eq_true] at hn
   obtain ⟨xs,own,h1,h2,h3,h4⟩:=gF hT h rs ts vs hvs hk hr.2 hn.2
   rw [hx] at hv
   obtain ⟨k1,e1,rw1,xs1,ho1,ad,cap,off,len,hw,hxe,hl,hc1,hc2,_⟩:=hv.sl_inv
   rw [ho] at ho1
   cases ho1
   obtain ⟨_,hxl,hmem,hro,hrow⟩:=h.objs o _ ho
   obtain ⟨hrw',hwl⟩:=hrow.winC hw
   refine ⟨(win ys wn,xs),own,h1,h2,fun b hb=>?_,fun A hA hB=>⟨_,_,[],own,rfl,rfl,⟨hTy,rfl,ad,cap,by rw [hwl];exact hxe,by rw [hwl];exact hl,fun hne=>?_⟩,h4 A hA (fun o' ho' b hb e=>hB o' (by simp [ho']) b hb e)⟩⟩
   ·obtain ⟨o',g1,g2⟩:=h3 b hb
    exact ⟨o',by simp [g1],g2⟩
   ·have hlen:0 < len:=by have:=gD hne;rw [hwl] at this;exact this
    have hys:ys≠[]:=by
     have:=hw.bd.1
     exact oQ (by omega)
    refine ⟨_,_,hc2 (.inl hlen),fun hAb=>?_,hrw'.mono hA⟩
    cases rw_ with
    | false=>exact hro rfl hys (hA _ hAb)
    | true=>
     have hocc:occ (pl o) (.row k' e' true ys):=⟨rfl,by have:=gD hys;omega⟩
     rcases hB o (by simp) _ hAb rfl with h5 | h5
     ·obtain ⟨o',g1,obj,g2,g3,g4⟩:=h3 _ h5
      by_cases e:o'=o
      ·subst e
       rw [cI g1] at hn
       simp at hn
      ·exact h.sep o' o obj _ e g2 ho g3 hocc g4
     ·exact h5 ⟨_,ho,hocc⟩
 | .ptr k e::rs,t::ts,[],f,hv,_,_,_=>hv.elim
 | .ptr k e::rs,t::ts,v0::vs,f,hvs,hk,hr,hn=>by
  obtain ⟨hv,hvs⟩:=hvs
  simp only [hH,Bool.and_eq_true] at hr
  have hTy:=hT.kt e k (pJ hr.1)
  unfold kJ at hk
  split at hk
  ·rename_i o
   split at hk
   ·rename_i k' e' x ho
    obtain ⟨he,hk⟩:=bN hk
    have hh:=lI hk
    clear hk
    obtain ⟨he',hk⟩:=hh
    subst he'
    have hids:eA (FV.ptr o 0 0::ts)=o::eA ts:=rfl
    rw [hids] at hn ⊢
    simp only [dX,Bool.and_eq_true] at hn
    obtain ⟨xs,own,h1,h2,h3,h4⟩:=gF hT h rs ts vs hvs hk hr.2 hn.2
    obtain ⟨k1,e1,rw1,xs1,ho1,hi0,hi1,hve⟩:=hv.ptr_inv
    rw [ho] at ho1
    cases ho1
    obtain ⟨_,hxl,hmem,hro,hrow⟩:=h.objs o _ ho
    have hocc:occ (pl o) (.row k' e' true [x]):=⟨rfl,by simp at hxl;omega⟩
    obtain ⟨row,tt,hrm,hsz⟩:=hmem rfl hocc.2
    have hnot:(pl o).b∉own:=fun hb=>by
     obtain ⟨o',g1,obj,g2,g3,g4⟩:=h3 _ hb
     by_cases e:o'=o
     ·subst e
      rw [cI g1] at hn
      simp at hn
     ·exact h.sep o' o obj _ e g2 ho g3 hocc g4
    refine ⟨(x,xs),(pl o).b::own,h1,List.nodup_cons.2 ⟨hnot,h2⟩,fun b hb=>?_,fun A hA hB=>⟨_,_,[(pl o).b],own,rfl,rfl,⟨hTy,(pl o).b,(pl o).off,row,tt,rfl,by simpa using hve,hrow.mono hA,hrm,?_⟩,h4 A hA (fun o' ho' b hb e=>?_)⟩⟩
    ·rcases List.mem_cons.1 hb with rfl | hb
     ·exact ⟨o,by simp,_,ho,hocc,rfl⟩
     ·obtain ⟨o',g1,g2⟩:=h3 b hb
      exact ⟨o',by simp [g1],g2⟩
    ·have:=Nat.mul_le_mul_right k'.size (show 1≤(pl o).cap from hocc.2)
     omega
    ·rcases hB o' (by simp [ho']) b hb e with h5 | h5
     ·rcases List.mem_cons.1 h5 with h5 | h5
      ·right
       rintro ⟨obj,g2,g3⟩
       have hne:o'≠o:=fun e=>by subst e;rw [cI ho'] at hn;simp at hn
       exact h.sep o' o obj _ hne g2 ho g3 hocc (e.symm.trans h5)
      ·exact .inl h5
     ·exact .inr h5
   ·cases hk
  ·cases hk
end
def bI2 (P:Program) (tmps:Array Value) (w:World):List (Nat×Option TypeId)→List Value→Prop
 | [],[]=>True
 | r::rs,v::vs=>(match r.2 with
  | none=>v=tmps.getD r.1 undef
  | some ty=>∃ad,tmps.getD r.1 undef= .pointer (some ad)∧(loadVar ty ad).run P w= .ok v w)∧bI2 P tmps w rs vs
 | _,_=>False
theorem IS (P:Program) {fn:Func} {ts:List (Nat×Option TypeId)} (h:fn.results=(ts.map rvV).toArray) (tmps:Array Value) (w:World) {vs:List Value} (hv:bI2 P tmps w ts vs):(results fn tmps).run P w= .ok (rL vs) w:=by
 have key:∀(f:ResultVar→Sem Value) (ts:List (Nat×Option TypeId)) (vs:List Value),(∀u,f (.tmp u)=pure (tmps.getD u undef))→(∀a t,f (.cell a t)=(do loadVar t (←asAddr (tmps.getD a undef))))→bI2 P tmps w ts vs→((ts.map rvV).mapM f).run P w= .ok vs w:=by
  intro f ts
  induction ts with
  | nil=>intro vs hf hc hv;cases vs with | nil=>simp | cons v vs=>exact hv.elim
  | cons r ts ih=>
   intro vs hf hc hv
   cases vs with
   | nil=>exact hv.elim
   | cons v vs=>
    obtain ⟨h1,h2⟩:=hv
    obtain ⟨u,o⟩:=r
    cases o with
    | none=>
     simp only at h1
     subst h1
     rw [List.map_cons,List.mapM_cons,Sem.run_bind]
     simp only [rvV,hf,Sem.run_pure,Result.andThen_ok,Sem.run_bind,ih _ hf hc h2]
    | some ty=>
     obtain ⟨ad,g1,g2⟩:=h1
     have hone:(f (rvV (u,some ty))).run P w= .ok v w:=by
      simp only at g1
      simp only [rvV,hc,g1,asAddr]
      simp [g2]
     rw [List.map_cons,List.mapM_cons,Sem.run_bind,hone]
     simp only [Result.andThen_ok,Sem.run_bind,ih _ hf hc h2,Sem.run_pure]
 unfold results
 rw [h,List.mapM_toArray]
 simp only [Sem.run_bind,Sem.run_map]
 rw [key _ ts vs (fun u=>rfl) (fun a t=>rfl) hv]
 cases vs with
 | nil=>simp [rL]
 | cons t ts=>
  cases ts with
  | nil=>simp [rL]
  | cons t' ts=>simp [rL]
section
variable {E:Env} {pl:Nat→Pl} {Γ:Ctx} {w:World} {a:Act} {s:FState}
theorem aI3 (hT:TabOk E.P Γ) (h:RelP E pl w a s):∀(ts:List (Nat×Option TypeId)),(∀r∈ts,∀ty,r.2=some ty→rvF Γ s r≠ .dead)→∃vs,bI2 E.P a.tmps w ts vs∧d4 w (Av E s.objs pl) s.objs pl (ts.map (rvF Γ s)) vs
 | [],_=>⟨[],trivial,trivial⟩
 | (t,o)::ts,hd=>by
  obtain ⟨vs,h1,h2⟩:=aI3 hT h ts (fun r hr=>hd r (by simp [hr]))
  cases o with
  | none=>exact ⟨a.tmps.getD t undef::vs,⟨rfl,h1⟩,h.ev (.tmp t) _ rfl,h2⟩
  | some ty=>
   have hdd:=hd (t,some ty) (by simp) ty rfl
   unfold rvF at hdd
   simp only at hdd
   split at hdd
   ·rename_i o hx
    split at hdd
    ·rename_i k e rw_ x ho
     split at hdd
     ·rename_i hk
      have hv:=h.ev (.tmp t) _ hx
      obtain ⟨k1,e1,rw1,xs1,ho1,hi0,hi1,hve⟩:=hv.ptr_inv
      have hve:a.tmps.getD t undef=_:=hve
      rw [ho] at ho1
      cases ho1
      obtain ⟨_,_,_,_,hrow⟩:=h.objs o _ ho
      obtain ⟨ds,hds,hcell⟩:=hrow 0 x rfl
      have hlen:=hds.len
      obtain ⟨v,hvv⟩:∃v,if k.isPair then v=Value.agg ds.toArray else ds=[v]:=by
       by_cases hp:k.isPair=true
       ·exact ⟨_,by rw [if_pos hp]⟩
       ·have h1:k.size=1:=by cases k <;> first | rfl | simp [K.isPair] at hp
        rw [h1] at hlen
        obtain ⟨v,hv⟩:=List.length_eq_one_iff.1 hlen
        exact ⟨v,by rw [if_neg hp];exact hv⟩
      have hrange:w.rangeAt (pl o).b (pl o).off ds:=fun j u hu=>by
       have hj:=(List.getElem?_eq_some_iff.1 hu).1
       have:=hcell j (by omega)
       rw [←hu,←this]
       congr 2
       omega
      have hload:=kF (hT.kt ty k hk) hrange hlen hvv
      refine ⟨v::vs,⟨⟨⟨(pl o).b,(pl o).off,none⟩,by rw [hve];simp,hload⟩,h1⟩,?_,h2⟩
      simp only [rvF,hx,ho,hk,if_true]
      exact .ofCells hds hvv
     ·exact absurd rfl hdd
    ·exact absurd rfl hdd
   ·exact absurd rfl hdd
end
theorem iE {s:FState} {β:Type} {r:β}:∀(rs:List RK) (ts:List FV) {f:DenR rs→Option β},kJ s rs ts f=some r→∀t∈ts,t≠ .dead
 | [],[],f,_,t,ht=>by simp at ht
 | [],t0::ts,f,hk,t,ht=>by simp [kJ] at hk
 | .dat k::rs,[],f,hk,t,ht=>by simp at ht
 | .nsl::rs,[],f,hk,t,ht=>by simp at ht
 | .rw k e::rs,[],f,hk,t,ht=>by simp at ht
 | .ro k e::rs,[],f,hk,t,ht=>by simp at ht
 | .ptr k e::rs,[],f,hk,t,ht=>by simp at ht
 | .dat k::rs,t0::ts,f,hk,t,ht=>by
  unfold kJ at hk
  obtain ⟨x,rfl,hh⟩:=cY hk
  rcases List.mem_cons.1 ht with rfl | ht
  ·simp
  ·exact iE rs ts hh t ht
 | .nsl::rs,t0::ts,f,hk,t,ht=>by
  unfold kJ at hk
  split at hk
  ·rcases List.mem_cons.1 ht with rfl | ht
   ·simp
   ·exact iE rs ts hk t ht
  ·cases hk
 | .rw k e::rs,t0::ts,f,hk,t,ht=>by
  unfold kJ at hk
  split at hk
  ·rcases List.mem_cons.1 ht with rfl | ht
   ·simp
   ·exact iE rs ts hk t ht
  ·obtain ⟨o,wn,nn,k',e',rw_,ys,rfl,ho,h1⟩:=cQ hk
   obtain ⟨he,h2⟩:=bN h1
   obtain ⟨he',h3⟩:=cB h2
   clear hk
   have hk:=h3
   rcases List.mem_cons.1 ht with rfl | ht
   ·simp
   ·exact iE rs ts hk t ht
 | .ro k e::rs,t0::ts,f,hk,t,ht=>by
  unfold kJ at hk
  split at hk
  ·rcases List.mem_cons.1 ht with rfl | ht
   ·simp
   ·exact iE rs ts hk t ht
  ·obtain ⟨he,hk⟩:=bN hk
   obtain ⟨he',hk⟩:=cB hk
   rcases List.mem_cons.1 ht with rfl | ht
   ·simp
   ·exact iE rs ts hk t ht
  ·obtain ⟨o,wn,nn,k',e',rw_,ys,rfl,ho,h1⟩:=cQ hk
   obtain ⟨he,h2⟩:=bN h1
   obtain ⟨he',h3⟩:=cB h2
   clear hk
   have hk:=h3
   rcases List.mem_cons.1 ht with rfl | ht
   ·simp
   ·exact iE rs ts hk t ht
 | .ptr k e::rs,t0::ts,f,hk,t,ht=>by
  unfold kJ at hk
  split at hk
  ·split at hk
   ·obtain ⟨he,hk⟩:=bN hk
    obtain ⟨he',hk⟩:=lI hk
    rcases List.mem_cons.1 ht with rfl | ht
    ·simp
    ·exact iE rs ts hk t ht
   ·cases hk
  ·cases hk
theorem KC:∀(ks:List AK) (d:DenA ks) (vs:List Value) (own:List Nat) {w:World} (A:Nat→Prop),ArgsRep w A ks d vs own→vs.length=ks.length:=by
 intro ks
 induction ks with
 | nil=>intro d vs own w A h;rw [h.1];rfl
 | cons k ks ih=>intro d vs own w A h;obtain ⟨v,vs',o1,o2,rfl,_,_,h4⟩:=h;simp [ih _ _ _ _ h4]
theorem G6 {P:Program} {Γ:Ctx} {args:List AK} {N:Nat} (hT:TabOk P Γ) (h6:N≤1000000) (hnt:args.length≤N) (ha:fK Γ args=true) {w:World} {Z:Nat→Prop} {vs:List Value} {own:List Nat} {d:DenA args} (hGk:GOk P w (·∈own)) (hZ:∀b,Z b→b < w.heap.size) (hnd:own.Nodup) (hown:∀b∈own,b < w.heap.size∧¬Z b)
  (hargs:ArgsRep w (fun b=>Z b∨b∈own) args d vs own):Rel ⟨P,w,(·∈own),Z,N,[],h6,[],hGk⟩ w {tmps:=vs.toArray++Array.replicate (N - vs.toArray.size) undef,defers:=[]} (mH args d):=by
 have hvl:=KC _ _ _ _ _ hargs
 obtain ⟨pl,hi⟩:=zF hT args 0 d vs own ha hnd hargs
 let E:Env:=⟨P,w,(·∈own),Z,N,[],h6,[],hGk⟩
 have hOwn:∀b,Own (aE (kX 0 args d)) pl b→b∈own:=fun b ⟨o,obj,ho,hc,hb⟩=>hb ▸ (hi.objs o obj ho).2.2 hc
 have hAv:∀b,Av E (aE (kX 0 args d)) pl b→Z b∨b∈own:=fun b hb=>hb.imp id (hOwn b)
 have hst:∀(A':Nat→Prop),(∀b,A' b→Z b∨b∈own)→Stay w (fun b=>Z b∨b∈own) w A':=fun A' hA b _ hn=>⟨fun h=>hn (hA b h),rfl⟩
 refine ⟨pl,fun t=>?_,fun o obj ho=>((hi.objs o obj ho).2.1).stay (hst _ hAv) (fun _=>rfl),hi.sep,fun b hb=>⟨(hown b (hOwn b hb)).1,.inl (hOwn b hb),(hown b (hOwn b hb)).2⟩,⟨rfl,rfl,rfl,Nat.le_refl _,fun _ _ _=>rfl⟩,⟨rfl,fun p hp=>by cases hp⟩,?_,hZ⟩
 ·rcases pN (jP 0 args d) t with h | h
  ·show VRep _ _ _ _ (aM (jP 0 args d) t) _
   rw [h];exact VRep.dead _
  ·obtain ⟨_,v,h2,h3⟩:=hi.vals t _ h
   have hlt:=zW _ _ _ _ _ h
   rw [eV (by omega)]
   have:(vs.toArray++Array.replicate (N - vs.toArray.size) undef).getD t undef=v:=by
    rw [Array.getD_eq_getD_getElem?,Array.getElem?_append_left (by simp;omega)]
    simp at h2 ⊢
    rw [h2];rfl
   rw [this]
   exact h3.move (fun k x cs hc=>hc.stay (hst _ hAv)) (fun o obj ho=>⟨obj,ho,obj.like_refl,rfl⟩)
 ·show (vs.toArray++Array.replicate (N - vs.toArray.size) undef).size=N
  simp;omega
theorem b6 {E:Env} {Γ:Ctx} {fn:Func} {rets:List RK} {ts:List (Nat×Option TypeId)} {own:List Nat} (hT:TabOk E.P Γ) (hr:hH Γ rets=true) (hres:fn.results=(ts.map rvV).toArray) (hown:E.own=(·∈own)) {x:DenR rets} {a':Act} {w':World} (hg:Goes E (fin Γ rets ts) x a' w'):
  a'.defers=E.dfs∧∃v,(results fn a'.tmps).run E.P w'= .ok v w'∧(∃us own',Ending.returned v= .returned (rL us)∧RessRep E.P w' (fun b=>E.Z b∨b∈own') rets x us own'∧own'.Nodup∧(∀b∈own',(b∈own∨E.w0.heap.size≤b)∧b < w'.heap.size)∧Fr E.w0 (·∈own) w'):=by
 obtain ⟨s',⟨pl',h'⟩,hk⟩:=hg
 unfold fin at hk
 obtain ⟨hnd',hk⟩:=bX hk
 obtain ⟨vs',hres',hall⟩:=aI3 (E:=E) hT h' ts (fun q hq ty _=>iE _ _ hk _ (List.mem_map.2 ⟨q,hq,rfl⟩))
 obtain ⟨y,own',h1,h2,h3,h4⟩:=gF (E:=E) hT h' rets _ _ hall hk hr hnd'
 cases h1
 have hOwn':∀b∈own',Own s'.objs pl' b:=fun b hb=>by obtain ⟨o,_,obj,g1,g2,g3⟩:=h3 b hb;exact ⟨o,obj,g1,g2,g3⟩
 have hfr:=h'.frame
 rw [hown] at hfr
 refine ⟨h'.dfr.1,_,IS E.P hres a'.tmps w' hres',_,own',rfl,h4 _ (fun b hb=>hb.imp id (hOwn' b)) (fun o ho b hb e=>?_),h2,fun b hb=>⟨?_,(h'.fresh b (hOwn' b hb)).1⟩,hfr⟩
 ·rcases hb with hb | hb
  ·right
   rintro ⟨obj,g1,g2⟩
   exact (h'.fresh _ ⟨o,obj,g1,g2,rfl⟩).2.2 (e ▸ hb)
  ·exact .inl hb
 ·have:=(h'.fresh b (hOwn' b hb)).2.1
  rw [hown] at this
  exact this
theorem lB {Γ:Ctx}:∀{ks:List AK},fK Γ ks=true→ks.any AK.isB=false
 | [],_=>rfl
 | .dat _::ks,h=>by simpa [AK.isB] using lB (ks:=ks) (by simpa [fK] using h)
 | .ro _ _::ks,h=>by simp only [fK,Bool.and_eq_true] at h;simpa [AK.isB] using lB h.2
 | .rw _ _::ks,h=>by simp only [fK,Bool.and_eq_true] at h;simpa [AK.isB] using lB h.2
 | .pro _ _::ks,h=>by simp only [fK,Bool.and_eq_true] at h;simpa [AK.isB] using lB h.2
 | .cel _ _::ks,h | .io _ _::ks,h | .mp _ _::ks,h=>by simp [fK] at h
theorem DM:∀{ks:List AK} (vs:List Value),ks.any AK.isB=false→gO ks vs=[]
 | [],vs,_=>by cases vs <;> rfl
 | k::ks,[],h=>by cases k <;> rfl
 | k::ks,v::vs,h=>by
  simp only [List.any_cons,Bool.or_eq_false_iff] at h
  have ih:=DM (ks:=ks) vs h.2
  cases k <;> first
   | (simp [AK.isB] at h;done)
   | (simp [gO,ih])
theorem HE {P:Program} {S:Spec} {w:World} {Z:Nat→Prop} {own:List Nat} {vs:List Value} {x:DenR S.rets×DenR S.backs} (hbs:S.backs=[]) (hnb:S.args.any AK.isB=false):∀(e:Ending) (w':World),(∃us own',e= .returned (rL us)∧RessRep P w' (fun b=>Z b∨b∈own') S.rets x.1 us own'∧own'.Nodup∧(∀b∈own',(b∈own∨w.heap.size≤b)∧b < w'.heap.size)∧Fr w (·∈own) w')→
  ∃us o1 o2,e= .returned (rL us)∧RessRep P w' (fun b=>Z b∨b∈o1++o2) S.rets x.1 us o1∧RessRep P w' (fun b=>Z b∨b∈o1++o2) S.backs x.2 (gO S.args vs) o2∧(o1++o2).Nodup∧(∀b∈o1++o2,(b∈own∨w.heap.size≤b)∧b < w'.heap.size)∧Fr w (·∈own) w':=by
 rintro e w' ⟨us,own',h1,h2,h3,h4,h5⟩
 refine ⟨us,own',[],h1,by rw [List.append_nil];exact h2,?_,by rw [List.append_nil];exact h3,by rw [List.append_nil];exact h4,h5⟩
 rw [DM vs hnb]
 have key:∀(rs:List RK) (y:DenR rs),rs=[]→RessRep P w' (fun b=>Z b∨b∈own'++[]) rs y [] []:=fun rs y h=>by subst h;exact ⟨rfl,rfl⟩
 exact key _ _ hbs
theorem G9 {P:Program} {f:FuncId} {fn:Func} {c:Code} {S:Spec} {Γ:Ctx} {n:Nat} {sk:Sk} {ts:List (Nat×Option TypeId)} (hf:P.funcs[f]? =some fn) (hb:fn.body=some c) (hcall:aS P f) (hΓ:CtxOk P Γ) (hN:qX Γ) (hm:P.follows .mixedOrders=true)
  (hnat:∀{β:Type} (d:DenA S.args) (κ:DenR S.rets×DenR S.backs→Option β) (r:β),S.app d κ=some r→∃x,S.app d some=some x∧κ x=some r)
  (hbs:S.backs=[]) (hres:fn.results=(ts.map rvV).toArray) (hB:kW fn.ntmps [] c=true) (h6:fn.ntmps≤1000000) (hnt:S.args.length≤fn.ntmps) (ha:fK Γ S.args=true) (hr:hH Γ S.rets=true)
  (hX:∀(d:DenA S.args) (x:DenR S.rets×DenR S.backs),S.app d some=some x→FX Γ n c sk (mH S.args d) (cS Γ S.rets ts)=some x.1):JT P f S:=by
 have hnb:=lB ha
 refine ⟨hcall,hbs.trans (lD _ hnb).symm,hnat,fun w Z vs own d x hGk hZ hnd hown hargs hx=>?_⟩
 have hwp:=xD (E:=⟨P,w,(·∈own),Z,fn.ntmps,[],h6,[],hGk⟩) hΓ hN hm n c sk (mH S.args d) (cS Γ S.rets ts) _ w hB (G6 hΓ.tab h6 hnt ha hGk hZ hnd hown hargs) (hX d x hx)
 refine Calls.mono (calls_of_wp (R:=fun e w'=>∃us own',e= .returned (rL us)∧RessRep P w' (fun b=>Z b∨b∈own') S.rets x.1 us own'∧own'.Nodup∧(∀b∈own',(b∈own∨w.heap.size≤b)∧b < w'.heap.size)∧Fr w (·∈own) w') hf hb (wp_mono hwp ?_)) (HE hbs hnb)
 intro e a' w' hq
 cases e with
 | normal=>exact b6 (own:=own) hΓ.tab hr hres rfl hq
 | ret=>exact b6 (own:=own) hΓ.tab hr hres rfl hq
 | exit id=>obtain ⟨s',_,hk⟩:=hq;cases hk
 | _=>exact hq.elim
theorem aX3 {P:Program} {ops:Array Oper} {Q:Exit→Act→World→Prop} {i:Nat} {K:Act→World→Prop} {a:Act} {w:World} {o:Oper} (ho:ops[i]? =some o) (hg:o.guard=none) (h:o.wp P a w K Q):wpOp P ops Q i K a w:=by
 unfold wpOp
 rw [ho]
 have:Region.wanted o (yielded ops a.tmps)=true:=by unfold Region.wanted;rw [hg]
 simp only [this,if_true]
 exact .inl h
def eX3 (P:Program) (g:FuncId) (n:Nat):Prop:=∀(vs:Array Value) (w:World),vs.size=n→CallsD P g vs .returning w fun e u' w'=>e= .returned (.tuple #[])∧u'= .returning∧w'=w
theorem NF {P:Program} {f g:FuncId} {fn:Func} {c0 c1:Code} {S:Spec} {Γ:Ctx} {n:Nat} {sk0 sk1:Sk} {ts:List (Nat×Option TypeId)} {id:Nat} {tm:Tmp} {caps:Array Operand} {ty1 ty2:TypeId} {pos1 pos2:String} {af1 af2:Array Edge}
  (hf:P.funcs[f]? =some fn) (hb:fn.body=some (.seq c0 (.seq (.region id #[⟨some tm,.makeFunc (.func g) #[] caps,ty1,pos1,af1,none⟩,⟨none,.defer {callee:= .value (.tmp tm),args:=#[],argTypes:=#[]},ty2,pos2,af2,none⟩] false) c1)))
  (hcall:aS P f) (hΓ:CtxOk P Γ) (hN:qX Γ) (hm:P.follows .mixedOrders=true) (hg:aS P g) (hidle:eX3 P g caps.size)
  (hnat:∀{β:Type} (d:DenA S.args) (κ:DenR S.rets×DenR S.backs→Option β) (r:β),S.app d κ=some r→∃x,S.app d some=some x∧κ x=some r)
  (hbs:S.backs=[]) (hres:fn.results=(ts.map rvV).toArray) (hB0:kW fn.ntmps [] c0=true) (hB1:kW fn.ntmps [] c1=true) (h6:fn.ntmps≤1000000) (htm:tm < fn.ntmps) (hnt:S.args.length≤fn.ntmps) (ha:fK Γ S.args=true) (hr:hH Γ S.rets=true)
  (hX:∀(d:DenA S.args) (x:DenR S.rets×DenR S.backs),S.app d some=some x→FX Γ n c0 sk0 (mH S.args d) ⟨fun s=>FX Γ n c1 sk1 (s.set tm .dead) (cS Γ S.rets ts),fun _=>none,fun _ _=>none⟩=some x.1):JT P f S:=by
 have hnb:=lB ha
 refine ⟨hcall,hbs.trans (lD _ hnb).symm,hnat,fun w Z vs own d x hGk hZ hnd hown hargs hx=>?_⟩
 refine Calls.mono (R:=fun e w'=>∃us own',e= .returned (rL us)∧RessRep P w' (fun b=>Z b∨b∈own') S.rets x.1 us own'∧own'.Nodup∧(∀b∈own',(b∈own∨w.heap.size≤b)∧b < w'.heap.size)∧Fr w (·∈own) w') ?_ (HE hbs hnb)
 have hwp:=xD (E:=⟨P,w,(·∈own),Z,fn.ntmps,[],h6,[],hGk⟩) hΓ hN hm n c0 sk0 (mH S.args d) _ _ w hB0 (G6 hΓ.tab h6 hnt ha hGk hZ hnd hown hargs) (hX d x hx)
 refine calls_of_wp_defers hf hb (wp_seq (wp_mono hwp ?_))
 intro e a w1 hq
 cases e with
 | normal=>
  obtain ⟨s,⟨pl,h⟩,hk⟩:=hq
  refine wp_seq (wp_region ?_)
  have hput:=h.put (d:=some tm) (fun t ht=>by cases ht;exact ⟨htm,fun p hp=>by cases hp⟩) (f:= .dead) (v:= .func (.func g) #[] (caps.map a.eval)) (VRep.dead _)
  have hget:(a.put (some tm) (.func (.func g) #[] (caps.map a.eval))).tmps.getD tm undef= .func (.func g) #[] (caps.map a.eval):=by
   have:=yT a tm (.func (.func g) #[] (caps.map a.eval)) (by rw [h.N];exact htm) tm
   rw [this,if_pos rfl]
  have hrel:RelP ⟨P,w,(·∈own),Z,fn.ntmps,[{target:= .fn (.func g) (caps.map a.eval),args:=#[]}],h6,[],hGk⟩ pl w1 {(a.put (some tm) (.func (.func g) #[] (caps.map a.eval))) with defers:=[{target:= .fn (.func g) (caps.map a.eval),args:=#[]}]} (s.put (some tm) .dead):=
   ⟨fun t=>hput.vals t,hput.objs,hput.sep,hput.fresh,hput.frame,⟨rfl,fun p hp=>by cases hp⟩,hput.N,hput.zlt⟩
  have hwp1:=xD (E:=⟨P,w,(·∈own),Z,fn.ntmps,[{target:= .fn (.func g) (caps.map a.eval),args:=#[]}],h6,[],hGk⟩) hΓ hN hm n c1 sk1 _ _ _ w1 hB1 ⟨pl,hrel⟩ hk
  have hfin:=wp_mono (Q':=bodyPostD P fn fun e w'=>∃us own',e= .returned (rL us)∧RessRep P w' (fun b=>Z b∨b∈own') S.rets x.1 us own'∧own'.Nodup∧(∀b∈own',(b∈own∨w.heap.size≤b)∧b < w'.heap.size)∧Fr w (·∈own) w') hwp1 (by
   have hend:∀a' w',Goes ⟨P,w,(·∈own),Z,fn.ntmps,[{target:= .fn (.func g) (caps.map a.eval),args:=#[]}],h6,[],hGk⟩ (fin Γ S.rets ts) x.1 a' w'→Leaves P fn a'.tmps (fun e w'=>∃us own',e= .returned (rL us)∧RessRep P w' (fun b=>Z b∨b∈own') S.rets x.1 us own'∧own'.Nodup∧(∀b∈own',(b∈own∨w.heap.size≤b)∧b < w'.heap.size)∧Fr w (·∈own) w') a'.defers .returning w':=fun a' w' hq=>by
    obtain ⟨hdf,v,hv,hR⟩:=b6 (own:=own) hΓ.tab hr hres rfl hq
    rw [hdf]
    refine leaves_cons (f:=g) (args:=caps.map a.eval) (by simp) (by simp [invoke,xW P g hg]) ((hidle _ _ (by simp)).mono ?_)
    rintro e u w2 ⟨rfl,rfl,rfl⟩
    exact ⟨v,hv,hR⟩
   intro e a' w' hq
   cases e with
   | normal=>exact hend a' w' hq
   | ret=>exact hend a' w' hq
   | exit id=>obtain ⟨s',_,hk⟩:=hq;cases hk
   | _=>exact hq.elim)
  have had:a.defers=[]:=h.dfr.1
  have hpd:(a.put (some tm) (.func (.func g) #[] (caps.map a.eval))).defers=[]:=by rw [bC1];exact had
  have h1:(execOp a.eval (⟨some tm,.makeFunc (.func g) #[] caps,ty1,pos1,af1,none⟩:Oper)).run P w1= .ok (.value (.func (.func g) #[] (caps.map a.eval))) w1:=by simp [execOp,Instr.makeFunc]
  have h2:(execOp (a.put (some tm) (.func (.func g) #[] (caps.map a.eval))).eval (⟨none,.defer {callee:= .value (.tmp tm),args:=#[],argTypes:=#[]},ty2,pos2,af2,none⟩:Oper)).run P w1= .ok (.defer {target:= .fn (.func g) (caps.map a.eval),args:=#[]}) w1:=by
   have he:(a.put (some tm) (.func (.func g) #[] (caps.map a.eval))).eval (.tmp tm)= .func (.func g) #[] (caps.map a.eval):=hget
   simp [execOp,resolve,he,Deferred.ofValue]
  show wpOps P _ _ [0,1] a w1
  rw [wpOps_cons]
  refine aX3 (o:=⟨some tm,.makeFunc (.func g) #[] caps,ty1,pos1,af1,none⟩) rfl rfl ?_
  unfold Oper.wp
  rw [h1,Oper.upon_value,wpOps_cons]
  refine aX3 (o:=⟨none,.defer {callee:= .value (.tmp tm),args:=#[],argTypes:=#[]},ty2,pos2,af2,none⟩) rfl rfl ?_
  unfold Oper.wp
  rw [h2,Oper.upon_defer]
  simp only [wpOps,Exit.then,hpd]
  exact hfin
 | ret=>obtain ⟨s,_,hk⟩:=hq;cases hk
 | exit id=>obtain ⟨s,_,hk⟩:=hq;cases hk
 | _=>exact hq.elim
end Go.Proofs.YthkiaiilpaojnaaDoorZF

namespace Go.Proofs.YthkiaiilpaojnaaDoorZF
open Go
set_option linter.unusedVariables false
set_option linter.unusedSimpArgs false
def toB:(ks:List AK)→DenA ks→DenR (bM ks)
 | [],_=>()
 | .dat _::ks,x=>toB ks x.2
 | .ro _ _::ks,x=>toB ks x.2
 | .rw _ _::ks,x=>toB ks x.2
 | .pro _ _::ks,x=>toB ks x.2
 | .cel _ _::ks,x=>(x.1,toB ks x.2)
 | .io _ _::ks,x=>(x.1,toB ks x.2)
 | .mp _ _::ks,x=>(x.1,toB ks x.2)
def gH:List AK→Nat→List Nat
 | [],_=>[]
 | .cel _ _::ks,j=>j::gH ks (j+1)
 | .io _ _::ks,j=>j::gH ks (j+1)
 | .mp _ _::ks,j=>j::gH ks (j+1)
 | _::ks,j=>gH ks (j+1)
def sJ:List AK→Nat→List FV
 | [],_=>[]
 | .cel _ _::ks,j=> .cp j 0::sJ ks (j+1)
 | .io _ _::ks,j=> .sl j none false::sJ ks (j+1)
 | .mp _ _::ks,j=> .mp j::sJ ks (j+1)
 | _::ks,j=> .dead::sJ ks (j+1)
def rC:List AK→Nat→FState→FState
 | [],_,s=>s
 | .cel _ _::ks,j,s=>rC ks (j+1) (s.set j (.cp j 0))
 | .io _ _::ks,j,s=>rC ks (j+1) (s.set j (.sl j none false))
 | .mp _ _::ks,j,s=>rC ks (j+1) (s.set j (.mp j))
 | _::ks,j,s=>rC ks (j+1) s
def LB (Γ:Ctx):K→Bool
 | .pair a b=>LB Γ a&&LB Γ b
 | .sl e k=>(match lk Γ.kt e with | some k'=>decide (k'=k) | none=>false)
 | _=>true
theorem uO {P:Program} {Γ:Ctx} (hT:TabOk P Γ):∀{k:K},LB Γ k=true→N8 P k
 | .pair a b,h=>by
  simp only [LB,Bool.and_eq_true] at h
  exact ⟨uO hT h.1,uO hT h.2⟩
 | .sl e k,h=>hT.kt e k (pJ h)
 | .int _,_ | .bool,_ | .str,_ | .flt _,_ | .err,_=>trivial
def dA (Γ:Ctx):List AK→Bool
 | []=>true
 | .dat _::ks=>dA Γ ks
 | .ro k e::ks=>(match lk Γ.kt e with | some k'=>decide (k'=k) | none=>false)&&dA Γ ks
 | .rw k e::ks=>(match lk Γ.kt e with | some k'=>decide (k'=k) | none=>false)&&dA Γ ks
 | .pro k e::ks=>(match lk Γ.kt e with | some k'=>decide (k'=k) | none=>false)&&dA Γ ks
 | .cel k e::ks=>((match lk Γ.kt e with | some k'=>decide (k'=k) | none=>false)&&LB Γ k)&&dA Γ ks
 | .io k e::ks=>(match lk Γ.kt e with | some k'=>decide (k'=k) | none=>false)&&dA Γ ks
 | .mp _ _::ks=>dA Γ ks
section
variable {P:Program} {Γ:Ctx} {w:World} {A:Nat→Prop}
theorem lU (hT:TabOk P Γ):∀(ks:List AK) (j:Nat) (d:DenA ks) (vs:List Value) (own:List Nat),dA Γ ks=true→own.Nodup→ArgsRep w A ks d vs own→∃pl u1 u2,InitI P w A u1 j (jP j ks d) (kX j ks d) vs pl∧RessRep P w A (bM ks) (toB ks d) (gO ks vs) u2∧(u1++u2).Nodup∧∀b∈u1++u2,b∈own
 | [],j,d,vs,own,_,_,h=>by
  obtain ⟨rfl,rfl⟩:=h
  exact ⟨fun _=>⟨0,0,0⟩,[],[],⟨fun t fv hm=>by simp [jP] at hm,fun o obj ho=>by simp [kX,aE] at ho,fun o o' obj obj' _ ho=>by simp [kX,aE] at ho⟩,⟨rfl,rfl⟩,List.nodup_nil,fun b hb=>by simp at hb⟩
 | .dat k::ks,j,d,vs,own,hk,hnd,h=>by
  obtain ⟨v,vs',o1,o2,rfl,rfl,h1,h2⟩:=h
  obtain ⟨rfl,cs,hc,hv⟩:=h1
  obtain ⟨pl,u1,u2,hi,hR,hN,hS⟩:=lU hT ks (j+1) d.2 vs' o2 (by simpa [dA] using hk) (List.nodup_append.1 hnd).2.1 h2
  exact ⟨pl,u1,u2,hi.consV (.inl ⟨cs,hc,hv⟩),hR,hN,fun b hb=>by simpa using hS b hb⟩
 | .ro k e::ks,j,d,vs,own,hk,hnd,h=>by
  obtain ⟨v,vs',o1,o2,rfl,rfl,h1,h2⟩:=h
  simp only [dA,Bool.and_eq_true] at hk
  have hTy:=hT.kt e k (pJ hk.1)
  obtain ⟨rfl,ad,cap,rfl,hle,hx⟩:=h1
  obtain ⟨pl,u1,u2,hi,hR,hN,hS⟩:=lU hT ks (j+1) d.2 vs' o2 hk.2 (List.nodup_append.1 hnd).2.1 h2
  by_cases hx0:d.1=[]
  ·refine ⟨_,[]++u1,u2,hi.consO (o1:=[]) (.row k e false d.1) ⟨0,0,d.1.length⟩ (by simpa using (List.nodup_append.1 hN).1) (VRep.mkSl (by rw [fD,if_pos rfl]) (off:=0) (len:=d.1.length) ⟨rfl,rfl⟩ rfl hle (fun hh=>by cases hh) (fun hh=>?_) (fun hn=>by cases hn)) ⟨hTy,Nat.le_refl _,fun hh=>(by cases hh),fun _ hne=>absurd hx0 hne,by rw [hx0];exact RowAt.nil _ _ _ _ _⟩ (fun hc=>by cases hc.1),hR,hN,fun b hb=>by simpa using hS b hb⟩
   rcases hh with hh | hh
   ·rw [hx0] at hh;simp at hh
   ·cases hh.1
  ·obtain ⟨b,off,rfl,hb,hrow⟩:=hx hx0
   exact ⟨_,[]++u1,u2,hi.consO (o1:=[]) (.row k e false d.1) ⟨b,off,d.1.length⟩ (by simpa using (List.nodup_append.1 hN).1) (VRep.mkSl (by rw [fD,if_pos rfl]) (off:=0) (len:=d.1.length) ⟨rfl,rfl⟩ rfl hle (fun hh=>by cases hh) (fun hh=>by rw [aT];simp) (fun hn=>by cases hn)) ⟨hTy,Nat.le_refl _,fun hh=>(by cases hh),fun _ _=>hb,hrow⟩ (fun hc=>by cases hc.1),hR,hN,fun b hb=>by simpa using hS b hb⟩
 | .rw k e::ks,j,d,vs,own,hk,hnd,h=>by
  obtain ⟨v,vs',o1,o2,rfl,rfl,h1,h2⟩:=h
  simp only [dA,Bool.and_eq_true] at hk
  have hTy:=hT.kt e k (pJ hk.1)
  obtain ⟨ad,p,cap,rfl,hle,hpc,had,hc1,hc2⟩:=h1.obj_rw
  obtain ⟨pl,u1,u2,hi,hR,hN,hS⟩:=lU hT ks (j+1) d.2 vs' o2 hk.2 (List.nodup_append.1 hnd).2.1 h2
  have hnd':=List.nodup_append.1 hnd
  have hN':=List.nodup_append.1 hN
  have hN2:(o1++u1).Nodup:=List.nodup_append.2 ⟨hnd'.1,hN'.1,fun x hx y hy e=>hnd'.2.2 x hx y (hS y (by simp [hy])) e⟩
  refine ⟨_,o1++u1,u2,hi.consO (o1:=o1) (.row k e true d.1) p hN2 (VRep.mkSl (by rw [fD,if_pos rfl]) (off:=0) (len:=d.1.length) ⟨rfl,rfl⟩ rfl hle (fun _=>by rw [aT];omega) (fun hh=>by rw [aT,had (by omega)];simp) (fun hn=>by cases hn)) ⟨hTy,by omega,fun _ hcp=>(hc1 (by omega)).2.2,fun hh=>(by cases hh),?_⟩ (fun hc=>by rw [(hc1 (by have:=hc.2;omega)).1];simp),hR,by
   rw [List.append_assoc]
   exact List.nodup_append.2 ⟨hnd'.1,hN,fun x hx y hy e=>hnd'.2.2 x hx y (hS y hy) e⟩,fun b hb=>by
   rw [List.append_assoc] at hb
   rcases List.mem_append.1 hb with hb | hb
   ·simp [hb]
   ·simp [hS b hb]⟩
  by_cases hcp:0 < cap
  ·exact (hc1 hcp).2.1
  ·rw [(hc2 hcp).2];exact RowAt.nil _ _ _ _ _
 | .pro k e::ks,j,d,vs,own,hk,hnd,h=>by
  obtain ⟨v,vs',o1,o2,rfl,rfl,h1,h2⟩:=h
  simp only [dA,Bool.and_eq_true] at hk
  have hTy:=hT.kt e k (pJ hk.1)
  obtain ⟨rfl,b,off,rfl,hb,hrow⟩:=h1
  obtain ⟨pl,u1,u2,hi,hR,hN,hS⟩:=lU hT ks (j+1) d.2 vs' o2 hk.2 (List.nodup_append.1 hnd).2.1 h2
  exact ⟨_,[]++u1,u2,hi.consO (o1:=[]) (.row k e false [d.1]) ⟨b,off,1⟩ (by simpa using (List.nodup_append.1 hN).1) (VRep.mkPtr (by rw [fD,if_pos rfl]) (Int.le_refl _) (by simp) (by rw [aT];simp)) ⟨hTy,Nat.le_refl _,fun hh=>(by cases hh),fun _ _=>hb,hrow⟩ (fun hc=>by cases hc.1),hR,hN,fun b hb=>by simpa using hS b hb⟩
 | .cel k e::ks,j,d,vs,own,hk,hnd,h=>by
  obtain ⟨v,vs',o1,o2,rfl,rfl,h1,h2⟩:=h
  simp only [dA,Bool.and_eq_true] at hk
  have hnd':=List.nodup_append.1 hnd
  obtain ⟨pl,u1,u2,hi,hR,hN,hS⟩:=lU hT ks (j+1) d.2 vs' o2 hk.2 hnd'.2.1 h2
  have hN':=List.nodup_append.1 hN
  refine ⟨pl,u1,o1++u2,hi.consV (VRep.dead _),⟨v,_,o1,u2,rfl,rfl,⟨hT.kt e k (pJ hk.1.1),uO hT hk.1.2,h1⟩,hR⟩,?_,fun b hb=>?_⟩
  ·refine List.nodup_append.2 ⟨hN'.1,List.nodup_append.2 ⟨hnd'.1,hN'.2.1,fun x hx y hy e=>hnd'.2.2 x hx y (hS y (by simp [hy])) e⟩,fun x hx y hy e=>?_⟩
   rcases List.mem_append.1 hy with hy | hy
   ·exact hnd'.2.2 y hy x (hS x (by simp [hx])) e.symm
   ·exact hN'.2.2 x hx y hy e
  ·simp only [List.mem_append] at hb ⊢
   rcases hb with hb | hb | hb
   ·exact .inr (hS b (by simp [hb]))
   ·exact .inl hb
   ·exact .inr (hS b (by simp [hb]))
 | .io k e::ks,j,d,vs,own,hk,hnd,h=>by
  obtain ⟨v,vs',o1,o2,rfl,rfl,h1,h2⟩:=h
  simp only [dA,Bool.and_eq_true] at hk
  have hnd':=List.nodup_append.1 hnd
  obtain ⟨pl,u1,u2,hi,hR,hN,hS⟩:=lU hT ks (j+1) d.2 vs' o2 hk.2 hnd'.2.1 h2
  have hN':=List.nodup_append.1 hN
  refine ⟨pl,u1,o1++u2,hi.consV (VRep.dead _),⟨v,_,o1,u2,rfl,rfl,⟨hT.kt e k (pJ hk.1),h1⟩,hR⟩,?_,fun b hb=>?_⟩
  ·refine List.nodup_append.2 ⟨hN'.1,List.nodup_append.2 ⟨hnd'.1,hN'.2.1,fun x hx y hy e=>hnd'.2.2 x hx y (hS y (by simp [hy])) e⟩,fun x hx y hy e=>?_⟩
   rcases List.mem_append.1 hy with hy | hy
   ·exact hnd'.2.2 y hy x (hS x (by simp [hx])) e.symm
   ·exact hN'.2.2 x hx y hy e
  ·simp only [List.mem_append] at hb ⊢
   rcases hb with hb | hb | hb
   ·exact .inr (hS b (by simp [hb]))
   ·exact .inl hb
   ·exact .inr (hS b (by simp [hb]))
 | .mp a b::ks,j,d,vs,own,hk,hnd,h=>by
  obtain ⟨v,vs',o1,o2,rfl,rfl,h1,h2⟩:=h
  have hnd':=List.nodup_append.1 hnd
  obtain ⟨pl,u1,u2,hi,hR,hN,hS⟩:=lU hT ks (j+1) d.2 vs' o2 (by simpa [dA] using hk) hnd'.2.1 h2
  have hN':=List.nodup_append.1 hN
  refine ⟨pl,u1,o1++u2,hi.consV (VRep.dead _),⟨v,_,o1,u2,rfl,rfl,h1,hR⟩,?_,fun b hb=>?_⟩
  ·refine List.nodup_append.2 ⟨hN'.1,List.nodup_append.2 ⟨hnd'.1,hN'.2.1,fun x hx y hy e=>hnd'.2.2 x hx y (hS y (by simp [hy])) e⟩,fun x hx y hy e=>?_⟩
   rcases List.mem_append.1 hy with hy | hy
   ·exact hnd'.2.2 y hy x (hS x (by simp [hx])) e.symm
   ·exact hN'.2.2 x hx y hy e
  ·simp only [List.mem_append] at hb ⊢
   rcases hb with hb | hb | hb
   ·exact .inr (hS b (by simp [hb]))
   ·exact .inl hb
   ·exact .inr (hS b (by simp [hb]))
end
theorem ResRep.monoB {P:Program} {w:World} {A A':Nat→Prop} (hA:∀b,A' b→A b):∀{k:RK} {x:k.den} {v:Value} {own:List Nat},ResRep P w A k x v own→ResRep P w A' k x v own
 | .dat k,x,v,own,h=>(ArgRep.mono (k:= .dat k) hA (show ArgRep w A (.dat k) x v own from h):ArgRep w A' (.dat k) x v own)
 | .rw k e,x,v,own,h=>⟨h.1,ArgRep.mono (k:= .rw k e) hA h.2⟩
 | .nsl,x,v,own,h=>h
 | .ro k e,x,v,own,h=>⟨h.1,ArgRep.mono (k:= .ro k e) hA h.2⟩
 | .ptr _ _,_,_,_,⟨h,b,off,cs,t,h1,h2,h3,h4⟩=>⟨h,b,off,cs,t,h1,h2,h3.mono hA,h4⟩
 | .bcel _ _,_,_,_,⟨h1,h2,h3⟩=>⟨h1,h2,h3.mono hA⟩
 | .bio _ _,_,_,_,⟨h1,h2⟩=>⟨h1,h2.mono hA⟩
 | .bmp _ _,_,_,_,h=>MapAt.mono hA h
theorem RessRep.monoB {P:Program} {w:World} {A A':Nat→Prop} (hA:∀b,A' b→A b):∀{ks:List RK} {x:DenR ks} {vs:List Value} {own:List Nat},RessRep P w A ks x vs own→RessRep P w A' ks x vs own
 | [],_,_,_,h=>h
 | k::ks,_,_,_,⟨v,vs',o1,o2,h1,h2,h3,h4⟩=>⟨v,vs',o1,o2,h1,h2,h3.monoB hA,h4.monoB hA⟩
def fI:List AK→Nat→List Value→List (Nat×Value)
 | .cel _ _::ks,j,v::vs=>(j,v)::fI ks (j+1) vs
 | .io _ _::ks,j,v::vs=>(j,v)::fI ks (j+1) vs
 | .mp _ _::ks,j,v::vs=>(j,v)::fI ks (j+1) vs
 | _::ks,j,_::vs=>fI ks (j+1) vs
 | _,_,_=>[]
theorem YF:∀(ks:List AK) (j:Nat) (vs:List Value),vs.length=ks.length→(fI ks j vs).map (·.1)=gH ks j
 | [],j,[],_=>rfl
 | k::ks,j,v::vs,h=>by
  have ih:=YF ks (j+1) vs (by simpa using h)
  cases k <;> simp [fI,gH,ih]
theorem CQ:∀(ks:List AK) (j:Nat) (vs:List Value) (p:Nat×Value),p∈fI ks j vs→j≤p.1∧vs[p.1 - j]? =some p.2
  | [],j,vs,p,h=>by cases vs <;> simp [fI] at h
  | k::ks,j,[],p,h=>by cases k <;> simp [fI] at h
  | k::ks,j,v::vs,p,h=>by
    have key:p∈fI ks (j+1) vs→j≤p.1∧(v::vs)[p.1 - j]? =some p.2:=fun h=>by
      obtain ⟨h1,h2⟩:=CQ ks (j+1) vs p h
      refine ⟨by omega,?_⟩
      rw [show p.1 - j=(p.1 - (j+1))+1 by omega];simpa using h2
    cases k <;> simp only [fI,List.mem_cons] at h <;> first
      | exact key h
      | (rcases h with rfl | h
         · exact ⟨Nat.le_refl _,by simp⟩
         · exact key h)
section
variable {β:Type}
def rF (s:FState):(ks:List AK)→Nat→(DenR (bM ks)→Option β)→Option β
 | [],_,κ=>κ ()
 | .cel k e::ks,j,κ=>(match ev s (.tmp j) with
  | .cp o 0=>(match s.objs o with | some (.cell k' e')=>if o < 1000000∧k'=k∧e'=e then wD s o k 0 fun x=>rF s ks (j+1) fun y=>κ (x,y) else none | _=>none)
  | _=>none)
 | .io k e::ks,j,κ=>(match ev s (.tmp j) with
  | .sl o none _=>(match s.objs o with | some (.row k' e' true xs)=>if e'=e then gC k' k xs fun xs=>rF s ks (j+1) fun y=>κ (xs,y) else none | _=>none)
  | _=>none)
 | .mp a b::ks,j,κ=>(match ev s (.tmp j) with
  | .mp o=>(match s.objs o with | some (.mapo a' b' es)=>if h:a'=a∧b'=b then rF s ks (j+1) fun y=>κ (h.1 ▸ h.2 ▸ es,y) else none | _=>none)
  | _=>none)
 | .dat _::ks,j,κ=>rF s ks (j+1) κ
 | .ro _ _::ks,j,κ=>rF s ks (j+1) κ
 | .rw _ _::ks,j,κ=>rF s ks (j+1) κ
 | .pro _ _::ks,j,κ=>rF s ks (j+1) κ
def nS (s:FState):List AK→Nat→List Nat
 | [],_=>[]
 | .cel k _::ks,j=>(match ev s (.tmp j) with | .cp o _=>o::lC s o k 0 | _=>[])++nS s ks (j+1)
 | .io _ _::ks,j=>(match ev s (.tmp j) with | .sl o _ _=>[o] | _=>[])++nS s ks (j+1)
 | .mp _ _::ks,j=>(match ev s (.tmp j) with | .mp o=>[o] | _=>[])++nS s ks (j+1)
 | _::ks,j=>nS s ks (j+1)
def eJ8 (Γ:Ctx) (args:List AK) (rs:List RK) (ts:List (Nat×Option TypeId)) (s:FState):Option (DenR rs×DenR (bM args)):=
 bif dX (eA (ts.map (rvF Γ s))++nS s args 0) then kJ s rs (ts.map (rvF Γ s)) fun x=>rF s args 0 fun y=>some (x,y) else none
def sR (Γ:Ctx) (args:List AK) (rs:List RK) (ts:List (Nat×Option TypeId)):Cx (DenR rs×DenR (bM args)):=⟨eJ8 Γ args rs ts,eJ8 Γ args rs ts,fun _ _=>none⟩
end
section
variable {E:Env} {pl:Nat→Pl} {Γ:Ctx} {w w':World} {a:Act} {s:FState} {β:Type} {r:β}
theorem gU (hT:TabOk E.P Γ) (h:RelP E pl w a s):∀(ks:List AK) (j:Nat) (vs:List Value) {f:DenR (bM ks)→Option β},dA Γ ks=true→vs.length=ks.length→(∀p∈fI ks j vs,p∈E.par)→rF s ks j f=some r→dX (nS s ks j)=true→
  ∃(y:DenR (bM ks)) (own:List Nat),f y=some r∧RessRep E.P w (Av E s.objs pl) (bM ks) y (gO ks vs) own∧(∀b∈own,∃o∈nS s ks j,∃obj,s.objs o=some obj∧occ (pl o) obj∧(pl o).b=b)∧own.Nodup
 | [],j,vs,f,_,hl,hp,hk,_=>by
  have:vs=[]:=List.eq_nil_of_length_eq_zero (by simpa using hl)
  subst this
  exact ⟨(),[],hk,⟨rfl,rfl⟩,fun b hb=>by simp at hb,List.nodup_nil⟩
 | k::ks,j,[],f,_,hl,_,_,_=>by simp at hl
 | .dat k::ks,j,v::vs,f,ha,hl,hp,hk,hn=>gU hT h ks (j+1) vs (by simpa [dA] using ha) (by simpa using hl) hp hk hn
 | .ro k e::ks,j,v::vs,f,ha,hl,hp,hk,hn=>gU hT h ks (j+1) vs (by simp only [dA,Bool.and_eq_true] at ha;exact ha.2) (by simpa using hl) hp hk hn
 | .rw k e::ks,j,v::vs,f,ha,hl,hp,hk,hn=>gU hT h ks (j+1) vs (by simp only [dA,Bool.and_eq_true] at ha;exact ha.2) (by simpa using hl) hp hk hn
 | .pro k e::ks,j,v::vs,f,ha,hl,hp,hk,hn=>gU hT h ks (j+1) vs (by simp only [dA,Bool.and_eq_true] at ha;exact ha.2) (by simpa using hl) hp hk hn
 | .cel k e::ks,j,v::vs,f,ha,hl,hp,hk,hn=>by
  simp only [dA,Bool.and_eq_true] at ha
  unfold rF at hk
  split at hk
  ·rename_i o hx
   split at hk
   ·rename_i k' e' ho
    obtain ⟨⟨h6,rfl,rfl⟩,hk⟩:=bN hk
    obtain ⟨x,hk,hy⟩:=zJ h h6 ho k' 0 (by omega) hk
    simp only [nS,hx,List.cons_append,dX,Bool.and_eq_true,Bool.not_eq_true'] at hn
    obtain ⟨hn1,hn2⟩:=hn
    obtain ⟨hn3,hn4,hn5⟩:=nA hn2
    obtain ⟨us,o2,g1,g2,g3,g4⟩:=hy hn3
    obtain ⟨y,own,h1,h2,h3,h4⟩:=gU hT h ks (j+1) vs ha.2 (by simpa using hl) (fun p hpp=>hp p (by simp [fI,hpp])) hk hn4
    have hv:a.tmps.getD j undef=v:=h.dfr.2 (j,v) (hp _ (by simp [fI]))
    obtain ⟨_,_,_,_,hve⟩:=(h.ev (.tmp j) _ hx).cp_inv
    have hve:a.tmps.getD j undef=_:=hve
    rw [hv] at hve
    obtain ⟨hTy,cs,t,hc,hs⟩:=h.objs o _ ho
    have hnm:∀q,q∈lC s o k' 0∨q∈nS s ks (j+1)→q≠o:=fun q hq e=>by
     subst e
     rw [cI (List.mem_append.2 hq)] at hn1
     cases hn1
    refine ⟨(x,y),((pl o).b::o2)++own,h1,⟨v,_,(pl o).b::o2,own,rfl,rfl,⟨hTy,uO hT ha.1.2,(pl o).b,(pl o).off,cs,t,us,o2,rfl,by simpa using hve,hc,hs,fun i hi=>by simpa using g1 i hi,g2⟩,h2⟩,?_,?_⟩
    ·intro b hb
     simp only [nS,hx,List.cons_append]
     rcases List.mem_append.1 hb with hb | hb
     ·rcases List.mem_cons.1 hb with rfl | hb
      ·exact ⟨o,by simp,_,ho,trivial,rfl⟩
      ·obtain ⟨q,q1,q2⟩:=g3 b hb
       exact ⟨q,by simp [q1],q2⟩
     ·obtain ⟨q,q1,q2⟩:=h3 b hb
      exact ⟨q,by simp [q1],q2⟩
    ·have key:∀b q q' obj obj',q≠q'→s.objs q=some obj→s.objs q'=some obj'→occ (pl q) obj→occ (pl q') obj'→(pl q).b=b→(pl q').b=b→False:=fun b q q' obj obj' hne a1 a2 a3 a4 a5 a6=>h.sep q q' obj obj' hne a1 a2 a3 a4 (a5.trans a6.symm)
     have hoc:occ (pl o) (.cell k' e'):=trivial
     refine List.nodup_append.2 ⟨List.nodup_cons.2 ⟨fun hb=>?_,g4⟩,h4,fun b hb b' hb' e=>?_⟩
     ·obtain ⟨q,q1,obj,q2,q3,q4⟩:=g3 _ hb
      exact key _ q o obj _ (hnm q (.inl q1)) q2 ho q3 hoc q4 rfl
     ·subst e
      obtain ⟨q',q1',obj',q2',q3',q4'⟩:=h3 _ hb'
      rcases List.mem_cons.1 hb with rfl | hb
      ·exact key _ q' o obj' _ (hnm q' (.inr q1')) q2' ho q3' hoc q4' rfl
      ·obtain ⟨q,q1,obj,q2,q3,q4⟩:=g3 _ hb
       exact key _ q q' obj obj' (fun e=>hn5 q q1 (e ▸ q1')) q2 q2' q3 q3' q4 q4'
   ·cases hk
  ·cases hk
 | .io k e::ks,j,v::vs,f,ha,hl,hp,hk,hn=>by
  simp only [dA,Bool.and_eq_true] at ha
  unfold rF at hk
  split at hk
  ·rename_i o nn hx
   split at hk
   ·rename_i k' e' ys ho
    obtain ⟨he,hk⟩:=bN hk
    subst he
    obtain ⟨rfl,hk⟩:=cB hk
    simp only [nS,hx,List.cons_append,List.nil_append,dX,Bool.and_eq_true,Bool.not_eq_true'] at hn
    obtain ⟨y,own,h1,h2,h3,h4⟩:=gU hT h ks (j+1) vs ha.2 (by simpa using hl) (fun p hpp=>hp p (by simp [fI,hpp])) hk hn.2
    have hv:a.tmps.getD j undef=v:=h.dfr.2 (j,v) (hp _ (by simp [fI]))
    have hev:=h.ev (.tmp j) _ hx
    have hev:VRep w (Av E s.objs pl) s.objs pl (.sl o none nn) (a.tmps.getD j undef):=hev
    rw [hv] at hev
    obtain ⟨q1,q2,q3,q4⟩:=PR h hev ho
    refine ⟨(ys,y),q1++own,h1,⟨v,_,q1,own,rfl,rfl,⟨hT.kt _ _ (pJ ha.1),q2⟩,h2⟩,fun b hb=>?_,List.nodup_append.2 ⟨q4,h4,fun b hb b' hb' e=>?_⟩⟩
    ·simp only [nS,hx,List.cons_append,List.nil_append]
     rcases List.mem_append.1 hb with hb | hb
     ·exact ⟨o,by simp,_,ho,(q3 b hb).1,(q3 b hb).2⟩
     ·obtain ⟨q,g1,g2⟩:=h3 b hb
      exact ⟨q,by simp [g1],g2⟩
    ·subst e
     obtain ⟨q,g1,obj,g2,g3,g4⟩:=h3 _ hb'
     have hne:q≠o:=fun e=>by subst e;rw [cI g1] at hn;simp at hn
     exact h.sep q o obj _ hne g2 ho g3 (q3 b hb).1 (g4.trans (q3 b hb).2.symm)
   ·cases hk
  ·cases hk
 | .mp k1 k2::ks,j,v::vs,f,ha,hl,hp,hk,hn=>by
  unfold rF at hk
  split at hk
  ·rename_i o hx
   split at hk
   ·rename_i a' b' es ho
    split at hk
    ·rename_i hab
     obtain ⟨rfl,rfl⟩:=hab
     simp only at hk
     simp only [nS,hx,List.cons_append,List.nil_append,dX,Bool.and_eq_true,Bool.not_eq_true'] at hn
     obtain ⟨y,own,h1,h2,h3,h4⟩:=gU hT h ks (j+1) vs (by simpa [dA] using ha) (by simpa using hl) (fun p hpp=>hp p (by simp [fI,hpp])) hk hn.2
     have hv:a.tmps.getD j undef=v:=h.dfr.2 (j,v) (hp _ (by simp [fI]))
     have hve:a.tmps.getD j undef=_:=(h.ev (.tmp j) _ hx).mp_inv
     rw [hv] at hve
     obtain ⟨ms,clock,hm,hr⟩:=h.objs o _ ho
     refine ⟨(es,y),[(pl o).b]++own,h1,⟨v,_,[(pl o).b],own,rfl,rfl,⟨(pl o).b,ms,clock,rfl,hve,hm,hr⟩,h2⟩,fun b hb=>?_,List.nodup_append.2 ⟨by simp,h4,fun b hb b' hb' e=>?_⟩⟩
     ·simp only [nS,hx,List.cons_append,List.nil_append]
      rcases List.mem_append.1 hb with hb | hb
      ·simp at hb
       subst hb
       exact ⟨o,by simp,_,ho,trivial,rfl⟩
      ·obtain ⟨q,g1,g2⟩:=h3 b hb
       exact ⟨q,by simp [g1],g2⟩
     ·subst e
      simp at hb
      subst hb
      obtain ⟨q,g1,obj,g2,g3,g4⟩:=h3 _ hb'
      have hne:q≠o:=fun e=>by subst e;rw [cI g1] at hn;simp at hn
      exact h.sep q o obj _ hne g2 ho g3 trivial g4
    ·cases hk
   ·cases hk
  ·cases hk
end
def bF3:AK→Value→Option FObj
 | .cel k e,_=>some (.cell k e)
 | .io k e,.slice _ n _=>some (.row k e true (List.replicate n k.dflt))
 | .mp a b,_=>some (.mapo a b [])
 | _,_=>none
def cG3:Value→Pl
 | .pointer (some a)=>⟨a.block,a.off,1⟩
 | .slice (some a) _ cap=>⟨a.block,a.off,cap⟩
 | .slice none _ cap=>⟨0,0,cap⟩
 | .map (some r)=>⟨r,0,1⟩
 | _=>⟨0,0,0⟩
theorem nQ {P:Program} {w:World} {A A0:Nat→Prop} {O:fE} {pl:Nat→Pl}:∀(ks:List AK) (j:Nat) (vs:List Value) (x:DenR (bM ks)) (own:List Nat),(∀i k v,ks[i]? =some k→vs[i]? =some v→O (j+i)=bF3 k v∧pl (j+i)=cG3 v)→RessRep P w A (bM ks) x (gO ks vs) own→vs.length=ks.length→j+ks.length≤1000000→JM w A0 O pl ks (sJ ks j) vs
 | [],j,[],_,_,_,_,_,_=>trivial
 | k::ks,j,v::vs,x,own,hO,hr,hl,hj=>by
  obtain ⟨h1,h2⟩:=hO 0 k v rfl rfl
  rw [Nat.add_zero] at h1 h2
  have hO':∀i k' v',ks[i]? =some k'→vs[i]? =some v'→O (j+1+i)=bF3 k' v'∧pl (j+1+i)=cG3 v':=fun i k' v' hk hv=>by
   have:=hO (i+1) k' v' (by simpa using hk) (by simpa using hv)
   rw [show j+(i+1)=j+1+i by omega] at this
   exact this
  have hl':vs.length=ks.length:=by simpa using hl
  have hj':j+1+ks.length≤1000000:=by simp at hj;omega
  have hj6:j < 1000000:=by simp at hj;omega
  cases k with
  | dat k=>exact nQ ks (j+1) vs x own hO' hr hl' hj'
  | ro k e=>exact nQ ks (j+1) vs x own hO' hr hl' hj'
  | rw k e=>exact nQ ks (j+1) vs x own hO' hr hl' hj'
  | pro k e=>exact nQ ks (j+1) vs x own hO' hr hl' hj'
  | cel k e=>
   obtain ⟨_,_,u1,u2,hqq,rfl,⟨_,_,b,off,cs,t,us,o2,rfl,hv1,_,hsz,_,hown⟩,hr2⟩:=hr
   simp only [gO,List.cons.injEq] at hqq
   obtain ⟨rfl,rfl⟩:=hqq
   refine ⟨⟨j,rfl,hj6,h1,k,e,h1,k.size_pos,?_⟩,nQ ks (j+1) vs x.2 u2 hO' hr2 hl' hj'⟩
   rw [h2,hv1];rfl
  | io k e=>
   obtain ⟨_,_,u1,u2,hqq,rfl,⟨_,ad,cap,hv1,hle,hc⟩,hr2⟩:=hr
   simp only [gO,List.cons.injEq] at hqq
   obtain ⟨rfl,rfl⟩:=hqq
   rw [hv1] at h1 h2
   refine ⟨⟨j,false,_,rfl,h1,k,e,true,_,h1,ad,cap,0,x.1.length,⟨rfl,by simp⟩,hv1,hle,fun _=>?_,fun hh=>?_,fun hn=>by cases hn⟩,nQ ks (j+1) vs x.2 u2 hO' hr2 hl' hj'⟩
   ·rw [h2];cases ad <;> simp [cG3]
   ·rcases hc with ⟨rfl,_⟩ | ⟨b,off,cs,t,_,_,rfl,_⟩
    ·rcases hh with hh | ⟨_,hh⟩ <;> omega
    ·rw [h2];simp [cG3]
  | mp a b=>
   obtain ⟨_,_,u1,u2,hqq,rfl,⟨rr,ms,clock,rfl,hv1,_⟩,hr2⟩:=hr
   simp only [gO,List.cons.injEq] at hqq
   obtain ⟨rfl,rfl⟩:=hqq
   refine ⟨⟨j,[],rfl,h1,a,b,[],h1,?_⟩,nQ ks (j+1) vs x.2 u2 hO' hr2 hl' hj'⟩
   rw [h2,hv1];rfl
theorem nY:∀(ks:List AK) (j:Nat),bU ks (sJ ks j)=gH ks j
 | [],_=>rfl
 | k::ks,j=>by
  have ih:=nY ks (j+1)
  cases k <;> simp [sJ,bU,gH,ih]
theorem ZP:∀(ks:List AK) (j:Nat),∀o∈gH ks j,j≤o
  | [],_,o,h=>by simp [gH] at h
  | k::ks,j,o,h=>by
    have ih:=ZP ks (j+1)
    cases k <;> simp only [gH,List.mem_cons] at h <;> first
      | (have:=ih o h;omega)
      | (rcases h with rfl | h
         · exact Nat.le_refl _
         · have:=ih o h;omega)
theorem EA:∀(ks:List AK) (j:Nat),(gH ks j).Nodup
 | [],_=>List.nodup_nil
 | k::ks,j=>by
  have ih:=EA ks (j+1)
  have hge:=ZP ks (j+1)
  cases k <;> simp only [gH] <;> first
   | exact ih
   | exact List.nodup_cons.2 ⟨fun h=>by have:=hge j h;omega,ih⟩
section
variable {E:Env} {pl:Nat→Pl} {Γ:Ctx} {w w':World} {a:Act} {s:FState} {β:Type} {r:β}
theorem gV {w0:World} {A0:Nat→Prop} {O0:fE} {pl0:Nat→Pl}:∀(ks:List AK) (j:Nat) (vs:List Value) {s:FState},RelP E pl w a s→JM w0 A0 O0 pl0 ks (sJ ks j) vs→(∀o∈gH ks j,Same w0 A0 O0 pl0 w (Av E s.objs pl) s.objs pl o)→(∀p∈fI ks j vs,p∈E.par∧p.1 < 1000000)→RelP E pl w a (rC ks j s)
 | [],_,_,s,h,_,_,_=>h
 | k::ks,j,[],s,h,hi,_,_=>by cases k <;> exact hi.elim
 | k::ks,j,v::vs,s,h,hi,hs,hp=>by
  cases k with
  | dat k=>exact gV ks (j+1) vs h hi hs hp
  | ro k e=>exact gV ks (j+1) vs h hi hs hp
  | rw k e=>exact gV ks (j+1) vs h hi hs hp
  | pro k e=>exact gV ks (j+1) vs h hi hs hp
  | cel k e=>
   obtain ⟨⟨o,ho,_,_,hv⟩,hi⟩:=hi
   cases ho
   have hpj:=hp (j,v) (by simp [fI])
   refine gV ks (j+1) vs (s:=s.set j (.cp j 0)) (h.know j (.inl ?_)) hi (fun o ho=>hs o (by simp [gH,ho])) (fun p hpp=>hp p (by simp [fI,hpp]))
   rw [eV hpj.2,h.dfr.2 _ hpj.1]
   exact (hs j (by simp [gH])).1 0 v hv
  | io k e=>
   obtain ⟨⟨o,nn,xs,ho,_,hv⟩,hi⟩:=hi
   cases ho
   have hpj:=hp (j,v) (by simp [fI])
   refine gV ks (j+1) vs (s:=s.set j (.sl j none false)) (h.know j (.inl ?_)) hi (fun o ho=>hs o (by simp [gH,ho])) (fun p hpp=>hp p (by simp [fI,hpp]))
   rw [eV hpj.2,h.dfr.2 _ hpj.1]
   exact (hs j (by simp [gH])).2.1 none false v hv
  | mp k1 k2=>
   obtain ⟨⟨o,es,ho,_,hv⟩,hi⟩:=hi
   cases ho
   have hpj:=hp (j,v) (by simp [fI])
   refine gV ks (j+1) vs (s:=s.set j (.mp j)) (h.know j (.inl ?_)) hi (fun o ho=>hs o (by simp [gH,ho])) (fun p hpp=>hp p (by simp [fI,hpp]))
   rw [eV hpj.2,h.dfr.2 _ hpj.1]
   exact (hs j (by simp [gH])).2.2 v hv
end
theorem cE4 {P:Program} {Γ:Ctx} {args:List AK} {N:Nat} {β:Type} {r:β} {κ:FState→Option β} (hT:TabOk P Γ) (h6:N≤1000000) (hnt:args.length≤N) (ha:dA Γ args=true) {w:World} {Z:Nat→Prop} {vs:List Value} {own:List Nat} {d:DenA args} (hGk:GOk P w (·∈own)) (hZ:∀b,Z b→b < w.heap.size) (hnd:own.Nodup) (hown:∀b∈own,b < w.heap.size∧¬Z b)
  (hargs:ArgsRep w (fun b=>Z b∨b∈own) args d vs own) (hk:dM 0 0 (bM args) (gH args 0) (toB args d) (mH args d) (fun s=>κ (rC args 0 s))=some r):
  ∃s,Rel ⟨P,w,(·∈own),Z,N,[],h6,fI args 0 vs,hGk⟩ w {tmps:=vs.toArray++Array.replicate (N - vs.toArray.size) undef,defers:=[]} s∧κ s=some r:=by
 have hvl:=KC _ _ _ _ _ hargs
 obtain ⟨pl,u1,u2,hi,hR,hN,hS⟩:=lU hT args 0 d vs own ha hnd hargs
 have hN':=List.nodup_append.1 hN
 let E:Env:=⟨P,w,(·∈own),Z,N,[],h6,fI args 0 vs,hGk⟩
 let a:Act:={tmps:=vs.toArray++Array.replicate (N - vs.toArray.size) undef,defers:=[]}
 have hget:∀i v,vs[i]? =some v→a.tmps.getD i undef=v:=fun i v hv=>by
  have hlt:=(List.getElem?_eq_some_iff.1 hv).1
  show (vs.toArray++Array.replicate (N - vs.toArray.size) undef).getD i undef=v
  rw [Array.getD_eq_getD_getElem?,Array.getElem?_append_left (by simp;omega)]
  simp at hv ⊢
  rw [hv];rfl
 have hOwn:∀b,Own (aE (kX 0 args d)) pl b→b∈u1:=fun b ⟨o,obj,ho,hc,hb⟩=>hb ▸ (hi.objs o obj ho).2.2 hc
 have hAv:∀b,Av (E.withZ fun b=>Z b∨b∈u2) (aE (kX 0 args d)) pl b→Z b∨b∈own:=fun b hb=>by
  rcases hb with (hb | hb) | hb
  ·exact .inl hb
  ·exact .inr (hS b (by simp [hb]))
  ·exact .inr (hS b (by simp [hOwn b hb]))
 have hst:∀(A':Nat→Prop),(∀b,A' b→Z b∨b∈own)→Stay w (fun b=>Z b∨b∈own) w A':=fun A' hA b _ hn=>⟨fun h=>hn (hA b h),rfl⟩
 have h0:RelP (E.withZ fun b=>Z b∨b∈u2) pl w a (mH args d):=by
  refine ⟨fun t=>?_,fun o obj ho=>((hi.objs o obj ho).2.1).stay (hst _ hAv) (fun _=>rfl),hi.sep,fun b hb=>⟨(hown b (hS b (by simp [hOwn b hb]))).1,.inl (hS b (by simp [hOwn b hb])),fun hz=>?_⟩,⟨rfl,rfl,rfl,Nat.le_refl _,fun _ _ _=>rfl⟩,⟨rfl,fun p hp=>?_⟩,?_,fun b hz=>?_⟩
  ·rcases pN (jP 0 args d) t with h | h
   ·show VRep _ _ _ _ (aM (jP 0 args d) t) _
    rw [h];exact VRep.dead _
   ·obtain ⟨_,v,h2,h3⟩:=hi.vals t _ h
    have hlt:=zW _ _ _ _ _ h
    rw [eV (by omega),hget t v (by simpa using h2)]
    exact h3.move (fun k x cs hc=>hc.stay (hst _ hAv)) (fun o obj ho=>⟨obj,ho,obj.like_refl,rfl⟩)
  ·rcases hz with hz | hz
   ·exact (hown b (hS b (by simp [hOwn b hb]))).2 hz
   ·exact hN'.2.2 b (hOwn b hb) b hz rfl
  ·obtain ⟨_,h2⟩:=CQ args 0 vs p hp
   exact hget p.1 p.2 (by simpa using h2)
  ·show (vs.toArray++Array.replicate (N - vs.toArray.size) undef).size=N
   simp;omega
  ·rcases hz with hz | hz
   ·exact hZ b hz
   ·exact (hown b (hS b (by simp [hz]))).1
 let O0:fE:=fun o=>match args[o]?,vs[o]? with | some k,some v=>bF3 k v | _,_=>none
 let pl0:Nat→Pl:=fun o=>match vs[o]? with | some v=>cG3 v | none=>⟨0,0,0⟩
 have hio:JM w (fun b=>Z b∨b∈own) O0 pl0 args (sJ args 0) vs:=nQ args 0 vs _ u2 (fun i k v hk hv=>by
  rw [Nat.zero_add]
  show (match args[i]?,vs[i]? with | some k,some v=>bF3 k v | _,_=>none)=_∧(match vs[i]? with | some v=>cG3 v | none=>(⟨0,0,0⟩:Pl))=_
  rw [hk,hv];exact ⟨rfl,rfl⟩) hR hvl (by omega)
 have hk':dM 0 0 (bM args) (bU args (sJ args 0)) (toB args d) (mH args d) (fun s=>κ (rC args 0 s))=some r:=by rw [nY];exact hk
 obtain ⟨s2,pl2,f1,f2,f3,f4,f5,f6⟩:=dR (E:=E) args (sJ args 0) vs 0 (toB args d) (mH args d) pl u2 hio (by rw [nY];exact EA _ _) hk' h0 hN'.2.1 (fun b hb=>⟨.inl (hS b (by simp [hb])),(hown b (hS b (by simp [hb]))).2⟩) (.inr fun b hb=>hAv b hb) hR
  (fun o _ t ht=>by
   rcases pN (jP 0 args d) t with h | h
   ·exact h
   ·have hlt:=zW _ _ _ _ _ h
    rw [JA (by omega)] at ht
    cases ht)
 exact ⟨_,⟨pl2,gV args 0 vs f2 hio (fun o ho=>f5 o (by rw [nY];exact ho)) (fun p hp=>⟨hp,by
  have:=CQ args 0 vs p hp
  have:=(List.getElem?_eq_some_iff.1 this.2).1
  omega⟩)⟩,f1⟩
theorem bM9 {E:Env} {Γ:Ctx} {fn:Func} {args:List AK} {rets:List RK} {ts:List (Nat×Option TypeId)} {own:List Nat} {vs:List Value} (hT:TabOk E.P Γ) (ha:dA Γ args=true) (hvl:vs.length=args.length) (hpar:E.par=fI args 0 vs) (hr:hH Γ rets=true) (hres:fn.results=(ts.map rvV).toArray) (hown:E.own=(·∈own)) {x:DenR rets×DenR (bM args)} {a':Act} {w':World} (hg:Goes E (eJ8 Γ args rets ts) x a' w'):
  a'.defers=E.dfs∧∃v,(results fn a'.tmps).run E.P w'= .ok v w'∧(∃us o1 o2,Ending.returned v= .returned (rL us)∧RessRep E.P w' (fun b=>E.Z b∨b∈o1++o2) rets x.1 us o1∧RessRep E.P w' (fun b=>E.Z b∨b∈o1++o2) (bM args) x.2 (gO args vs) o2∧(o1++o2).Nodup∧(∀b∈o1++o2,(b∈own∨E.w0.heap.size≤b)∧b < w'.heap.size)∧Fr E.w0 (·∈own) w'):=by
 obtain ⟨s',⟨pl',h'⟩,hk⟩:=hg
 unfold eJ8 at hk
 obtain ⟨hnd',hk⟩:=bX hk
 obtain ⟨n1,n2,n3⟩:=nA hnd'
 obtain ⟨vs',hres',hall⟩:=aI3 (E:=E) hT h' ts (fun q hq ty _=>iE _ _ hk _ (List.mem_map.2 ⟨q,hq,rfl⟩))
 obtain ⟨y,o1,h1,h2,h3,h4⟩:=gF (E:=E) hT h' rets _ _ hall hk hr n1
 obtain ⟨z,o2,g1,g2,g3,g4⟩:=gU (E:=E) hT h' args 0 vs ha hvl (fun p hp=>by rw [hpar];exact hp) h1 n2
 cases g1
 have hO1:∀b∈o1,Own s'.objs pl' b:=fun b hb=>by obtain ⟨o,_,obj,q1,q2,q3⟩:=h3 b hb;exact ⟨o,obj,q1,q2,q3⟩
 have hO2:∀b∈o2,Own s'.objs pl' b:=fun b hb=>by obtain ⟨o,_,obj,q1,q2,q3⟩:=g3 b hb;exact ⟨o,obj,q1,q2,q3⟩
 have hO:∀b∈o1++o2,Own s'.objs pl' b:=fun b hb=>by
  rcases List.mem_append.1 hb with hb | hb
  ·exact hO1 b hb
  ·exact hO2 b hb
 have hA:∀b,(E.Z b∨b∈o1++o2)→Av E s'.objs pl' b:=fun b hb=>hb.imp id (hO b)
 have hfr:=h'.frame
 rw [hown] at hfr
 refine ⟨h'.dfr.1,_,IS E.P hres a'.tmps w' hres',_,o1,o2,rfl,h4 _ hA (fun o ho b hb e=>?_),g2.monoB hA,List.nodup_append.2 ⟨h2,g4,fun b hb b' hb' e=>?_⟩,fun b hb=>⟨?_,(h'.fresh b (hO b hb)).1⟩,hfr⟩
 ·rcases hb with hb | hb
  ·right
   rintro ⟨obj,q1,q2⟩
   exact (h'.fresh _ ⟨o,obj,q1,q2,rfl⟩).2.2 (e ▸ hb)
  ·rcases List.mem_append.1 hb with hb | hb
   ·exact .inl hb
   ·right
    rintro ⟨obj,q1,q2⟩
    obtain ⟨o',q0',obj',q1',q2',q3'⟩:=g3 b hb
    exact h'.sep o o' obj obj' (fun e=>n3 o ho (e ▸ q0')) q1 q1' q2 q2' (e.symm.trans q3'.symm)
 ·subst e
  obtain ⟨o,q0,obj,q1,q2,q3⟩:=h3 b hb
  obtain ⟨o',q0',obj',q1',q2',q3'⟩:=g3 b hb'
  exact h'.sep o o' obj obj' (fun e=>n3 o q0 (e ▸ q0')) q1 q1' q2 q2' (q3.trans q3'.symm)
 ·have:=(h'.fresh b (hO b hb)).2.1
  rw [hown] at this
  exact this
theorem PV {P:Program} {f:FuncId} {fn:Func} {c:Code} {args:List AK} {rets:List RK} {app:{β:Type}→DenA args→(DenR rets×DenR (bM args)→Option β)→Option β} {Γ:Ctx} {n:Nat} {sk:Sk} {nf:List NE} {m:DenA args→FState} {ts:List (Nat×Option TypeId)} (hf:P.funcs[f]? =some fn) (hb:fn.body=some c) (hcall:aS P f) (hΓ:CtxOk P Γ) (hN:qX Γ) (hm:P.follows .mixedOrders=true)
  (hnat:∀{β:Type} (d:DenA args) (κ:DenR rets×DenR (bM args)→Option β) (r:β),app d κ=some r→∃x,app d some=some x∧κ x=some r)
  (hres:fn.results=(ts.map rvV).toArray) (hB:kW fn.ntmps (gH args 0) c=true) (h6:fn.ntmps≤1000000) (hnt:args.length≤fn.ntmps) (ha:dA Γ args=true) (hr:hH Γ rets=true)
  (hM:∀(d:DenA args) (β:Type) (κ:FState→Option β),dM 0 0 (bM args) (gH args 0) (toB args d) (mH args d) (fun s=>vD Γ nf (rC args 0 s) κ)=κ (m d))
  (hX:∀(d:DenA args) (x:DenR rets×DenR (bM args)),app d some=some x→FX Γ n c sk (m d) (sR Γ args rets ts)=some x):JT P f ⟨args,rets,bM args,app⟩:=by
 refine ⟨hcall,rfl,hnat,fun w Z vs own d x hGk hZ hnd hown hargs hx=>?_⟩
 have hvl:=KC _ _ _ _ _ hargs
 obtain ⟨s0,hrel0,hk0⟩:=cE4 (κ:=fun s=>vD Γ nf s fun s=>FX Γ n c sk s (sR Γ args rets ts)) hΓ.tab h6 hnt ha hGk hZ hnd hown hargs ((hM d _ _).trans (hX d x hx))
 obtain ⟨s,hrel,hk⟩:=DX (E:=⟨P,w,(·∈own),Z,fn.ntmps,[],h6,fI args 0 vs,hGk⟩) (Γ:=Γ) (κ:=fun s=>FX Γ n c sk s (sR Γ args rets ts)) hΓ.tab ⟨s0,hrel0,hk0⟩
 have hwp:=xD (E:=⟨P,w,(·∈own),Z,fn.ntmps,[],h6,fI args 0 vs,hGk⟩) hΓ hN hm n c sk s (sR Γ args rets ts) _ w (by
  show kW fn.ntmps ((fI args 0 vs).map (·.1)) c=true
  rw [YF args 0 vs hvl];exact hB) hrel hk
 refine calls_of_wp hf hb (wp_mono hwp ?_)
 intro e a' w' hq
 cases e with
 | normal=>exact bM9 (own:=own) hΓ.tab ha hvl rfl hr hres rfl hq
 | ret=>exact bM9 (own:=own) hΓ.tab ha hvl rfl hr hres rfl hq
 | exit id=>obtain ⟨s',_,hk⟩:=hq;cases hk
 | _=>exact hq.elim
end Go.Proofs.YthkiaiilpaojnaaDoorZF

namespace Go.Proofs.YthkiaiilpaojnaaDoorZF
open Go
set_option linter.unusedVariables false
def kU:Code→Operand
 | .cond c _ _=>c
 | _=> .tmp 0
def nav:Code→List Nat→Code
 | c,[]=>c
 | .seq a b,i::l=>bif Nat.beq i 0 then nav a l else nav b l
 | .cond _ a b,i::l=>bif Nat.beq i 0 then nav a l else nav b l
 | .block _ a,_::l=>nav a l
 | .loop a,_::l=>nav a l
 | c,_=>c
def fb (f:Func):Code:=f.body.getD .skip
def rd {α:Type} (xs:List α) (i:Int) (d:α):α:=xs.getD i.toNat d
def w64 (n:Int):Int:=IntKind.i64.wrap n
def nz {β:Type} (b:Int) (κ:Option β):Option β:=if b=0 then none else κ
def eJ0 {β:Type} (b:Int) (κ:Option β):Option β:=if b < 0 then none else κ
def kQ {β:Type} (z:BA) (κ:Option β):Option β:=bif Nat.ble z.size 70368744177664 then κ else none
def pth:Nat→Nat→List Nat→List Nat
 | 0,_,l=>l
 | f+1,k,l=>bif Nat.ble k 1 then l else pth f (k / 2) (k % 2::l)
abbrev FS1 (β:Type):=FState→Cx β→Option β
def FXs {β:Type} (Γ:Ctx) (n:Nat) (c:Code) (nf r:Option (List NE)) (x:List (Nat×List NE)):List Nat→FS1 β
 | [],s,cx=>cx.nrm s
 | [p],s,cx=>FX Γ n (nav c (pth 1000 p [])) (.fin none nf r x .leaf) s cx
 | p::q::l,s,cx=>FX Γ n (nav c (pth 1000 p [])) (.fin none none r x .leaf) s {cx with nrm:=fun s=>FXs Γ n c nf r x (q::l) s cx}
def aQ (args:List AK) (rets:List RK) (f:DenA args→Option (DenR rets)):Spec:={args:=args,rets:=rets,backs:=[],app:=fun d κ=>(f d).bind fun x=>κ (x,())}
theorem nK {args:List AK} {rets:List RK} (f:DenA args→Option (DenR rets)) {β:Type} (d:DenA args) (κ:DenR rets×DenR []→Option β) (r:β) (h:(aQ args rets f).app d κ=some r):∃x,(aQ args rets f).app d some=some x∧κ x=some r:=by
 have h':(f d).bind (fun x=>κ (x,()))=some r:=h
 show ∃x,(f d).bind (fun x=>some (x,()))=some x∧κ x=some r
 cases hf:f d with
 | none=>rw [hf] at h';cases h'
 | some x=>rw [hf] at h';exact ⟨(x,()),rfl,h'⟩
theorem nC {args:List AK} {rets:List RK} (f:DenA args→Option (DenR rets)) (d:DenA args) (x:DenR rets×DenR []) (h:(aQ args rets f).app d some=some x) {γ:Type} (κ:DenR rets×DenR []→Option γ):(aQ args rets f).app d κ=κ x:=by
 have h':(f d).bind (fun x=>some (x,()))=some x:=h
 show (f d).bind (fun x=>κ (x,()))=κ x
 cases hf:f d with
 | none=>rw [hf] at h';cases h'
 | some y=>rw [hf] at h';cases h';rfl
theorem lK {args:List AK} {rets:List RK} {f:DenA args→Option (DenR rets)} {d:DenA args} {x:DenR rets×DenR []} (h:(aQ args rets f).app d some=some x):f d=some x.1:=by
 have h':(f d).bind (fun x=>some (x,()))=some x:=h
 cases hf:f d with
 | none=>rw [hf] at h';cases h'
 | some y=>rw [hf] at h';cases h';rfl
def nW (args:List AK) (rets:List RK) (f:DenA args→Option (DenR rets×DenR (bM args))):Spec:={args:=args,rets:=rets,backs:=bM args,app:=fun d κ=>(f d).bind κ}
theorem J5 {args:List AK} {rets:List RK} (f:DenA args→Option (DenR rets×DenR (bM args))) {β:Type} (d:DenA args) (κ:DenR rets×DenR (bM args)→Option β) (r:β) (h:(nW args rets f).app d κ=some r):∃x,(nW args rets f).app d some=some x∧κ x=some r:=by
 have h':(f d).bind κ=some r:=h
 show ∃x,(f d).bind some=some x∧κ x=some r
 cases hf:f d with
 | none=>rw [hf] at h';cases h'
 | some x=>rw [hf] at h';exact ⟨x,rfl,h'⟩
theorem G3 {args:List AK} {rets:List RK} (f:DenA args→Option (DenR rets×DenR (bM args))) (d:DenA args) (x:DenR rets×DenR (bM args)) (h:(nW args rets f).app d some=some x) {γ:Type} (κ:DenR rets×DenR (bM args)→Option γ):(nW args rets f).app d κ=κ x:=by
 have h':(f d).bind some=some x:=h
 show (f d).bind κ=κ x
 cases hf:f d with
 | none=>rw [hf] at h';cases h'
 | some y=>rw [hf] at h';cases h';rfl
structure Fit (P:Program) (f:FuncId) (S:Spec):Prop where
 holds:JT P f S
 app:∀(d:DenA S.args) (x:DenR S.rets×DenR S.backs),S.app d some=some x→∀{γ:Type} (κ:DenR S.rets×DenR S.backs→Option γ),S.app d κ=κ x
def lkS:List (Nat×Spec)→Nat→Option Spec
 | [],_=>none
 | (a,x)::l,n=>bif Nat.beq a n then some x else lkS l n
def FitAll (P:Program):List (Nat×Spec)→Prop
 | []=>True
 | p::l=>Fit P p.1 p.2∧FitAll P l
theorem FitAll.get {P:Program}:∀{l:List (Nat×Spec)},FitAll P l→∀f S,lkS l f=some S→Fit P f S
 | [],_,f,S,h=>by cases h
 | (a,x)::l,hl,f,S,h=>by
  unfold lkS at h
  by_cases e:a=f
  ·subst e
   rw [Nat.beq_refl,cond_true] at h
   cases h
   exact hl.1
  ·rw [fV e,cond_false] at h
   exact hl.2.get f S h
theorem eG6 {P:Program} {Γ:Ctx} (hT:TabOk P Γ) (c:Nat→Option Spec):TabOk P {Γ with calls:=c}:=⟨hT.kt,hT.se,hT.fos,hT.eqs,hT.mps⟩
theorem dA3 {P:Program} {Γ:Ctx} {l:List (Nat×Spec)} (hT:TabOk P Γ) (hl:FitAll P l):CtxOk P {Γ with calls:=lkS l}:=
 ⟨eG6 hT _,fun f S h=>(hl.get f S h).holds⟩
theorem natOk {P:Program} {Γ:Ctx} {l:List (Nat×Spec)} (hl:FitAll P l):qX {Γ with calls:=lkS l}:=
 ⟨fun f S h _=>(hl.get f S h).holds.nat,fun f S h=>(hl.get f S h).app⟩
def JJ (P:Program) (t:TypeId) (k:K):Bool:=
 match P.underlying t,k with
 | some (.int k'),.int k=>decide (k'=k)
 | some .bool,.bool=>true
 | some .string,.str=>true
 | some (.float k'),.flt k=>decide (k'=k)
 | some (.interface _),.err=>true
 | some (.struct _),.pair _ _=>true
 | some (.slice e'),.sl e _=>Nat.beq e' e
 | _,_=>false
theorem aZ {P:Program} {t:TypeId} {k:K} (h:JJ P t k=true):eB3 P t k:=by
 unfold JJ at h
 split at h
 ·rename_i hu;simp at h;subst h;exact hu
 ·rename_i hu;exact hu
 ·rename_i hu;exact hu
 ·rename_i hu;simp at h;subst h;exact hu
 ·rename_i hu;exact ⟨_,hu⟩
 ·rename_i hu;exact ⟨_,hu⟩
 ·rename_i hu;have:=Nat.eq_of_beq_eq_true h;subst this;exact hu
 ·cases h
def ktOk (P:Program):List (Nat×K)→Prop
 | []=>True
 | p::l=>TyOk P p.1 p.2∧ktOk P l
def seOk (P:Program):List (Nat×Nat)→Prop
 | []=>True
 | p::l=>P.underlying p.1=some (.slice p.2)∧seOk P l
def foOk (P:Program):List (Nat×List (Nat×Nat))→Prop
 | []=>True
 | p::l=>FoOk P p.1 p.2∧foOk P l
def mpOk (P:Program):List (Nat×(Nat×Nat))→Prop
 | []=>True
 | p::l=>P.underlying p.1=some (.map p.2.1 p.2.2)∧mpOk P l
theorem ME {α:Type}:∀{l:List (Nat×α)} {n:Nat} {x:α},lk l n=some x→(n,x)∈l
 | [],n,x,h=>by cases h
 | (a,y)::l,n,x,h=>by
  unfold lk at h
  by_cases e:a=n
  ·subst e;rw [Nat.beq_refl,cond_true] at h;cases h;simp
  ·rw [fV e,cond_false] at h;exact List.mem_cons_of_mem _ (ME h)
theorem ktOk.get {P:Program}:∀{l:List (Nat×K)},ktOk P l→∀p∈l,TyOk P p.1 p.2
 | [],_,p,h=>by cases h
 | q::l,hl,p,h=>by rcases List.mem_cons.1 h with rfl | h;exact hl.1;exact hl.2.get p h
theorem seOk.get {P:Program}:∀{l:List (Nat×Nat)},seOk P l→∀p∈l,P.underlying p.1=some (.slice p.2)
 | [],_,p,h=>by cases h
 | q::l,hl,p,h=>by rcases List.mem_cons.1 h with rfl | h;exact hl.1;exact hl.2.get p h
theorem foOk.get {P:Program}:∀{l:List (Nat×List (Nat×Nat))},foOk P l→∀p∈l,FoOk P p.1 p.2
 | [],_,p,h=>by cases h
 | q::l,hl,p,h=>by rcases List.mem_cons.1 h with rfl | h;exact hl.1;exact hl.2.get p h
theorem mpOk.get {P:Program}:∀{l:List (Nat×(Nat×Nat))},mpOk P l→∀p∈l,P.underlying p.1=some (.map p.2.1 p.2.2)
 | [],_,p,h=>by cases h
 | q::l,hl,p,h=>by rcases List.mem_cons.1 h with rfl | h;exact hl.1;exact hl.2.get p h
theorem fC0 {P:Program} {kt:List (Nat×K)} {se:List (Nat×Nat)} {fo:List (Nat×List (Nat×Nat))} {eq:List Nat} {mp:List (Nat×(Nat×Nat))} (h1:ktOk P kt) (h2:seOk P se) (h3:foOk P fo) (h4:eq.all (UU P kt)=true) (h5:mpOk P mp):TabOk P {kt:=kt,se:=se,fo:=fo,eqs:=eq,calls:=fun _=>none,mps:=mp}:=
 ⟨fun t k h=>h1.get _ (ME h),fun t e h=>h2.get _ (ME h),fun t l h=>h3.get _ (ME h),fun t h=>List.all_eq_true.1 h4 t (jX h),fun t p h=>h5.get _ (ME h)⟩
theorem eQ7 {P:Program} {Γ:Ctx} (h:TabOk P Γ) (l:List Nat):TabOk P {Γ with cel:=l}:=⟨h.kt,h.se,h.fos,h.eqs,h.mps⟩
theorem cJ {P:Program} {f:FuncId} {fn:Func} {c:Code} {args:List AK} {rets:List RK} {g:DenA args→Option (DenR rets)} {Γ:Ctx} {l:List (Nat×Spec)} {n:Nat} {sk:Sk} {ts:List (Nat×Option TypeId)}
  (hf:P.funcs[f]? =some fn) (hb:fn.body=some c) (hcall:aS P f) (hT:TabOk P Γ) (hl:FitAll P l) (hm:P.follows .mixedOrders=true)
  (hres:fn.results=(ts.map rvV).toArray) (hB:kW fn.ntmps [] c=true) (h6:fn.ntmps≤1000000) (hnt:args.length≤fn.ntmps) (ha:fK {Γ with calls:=lkS l} args=true) (hr:hH {Γ with calls:=lkS l} rets=true)
  (hX:∀(d:DenA args),FX {Γ with calls:=lkS l} n c sk (mH args d) (cS {Γ with calls:=lkS l} rets ts)=g d):Fit P f (aQ args rets g):=by
 exact ⟨G9 (Γ:={Γ with calls:=lkS l}) (n:=n) (sk:=sk) hf hb hcall (dA3 hT hl) (natOk hl) hm (nK g) rfl hres hB h6 hnt ha hr (fun d x hx=>(hX d).trans (lK hx)),nC g⟩
theorem eV9 {β:Type} {Γ:Ctx} {n:Nat} {c a b:Code} {k k1 k2:Sk} {e:List NE} {s:FState} {cx:Cx β} (hc:c= .seq a b) (hk:k= .nd k1 k2):FX Γ n c (.fin (some e) none none [] k) s cx=vD Γ e s fun s=>FX Γ n c k s cx:=by
 subst hc;subst hk;rfl
theorem PO {P:Program} {f:FuncId} {fn:Func} {c:Code} {args:List AK} {rets:List RK} {g:DenA args→Option (DenR rets×DenR (bM args))} {Γ:Ctx} {l:List (Nat×Spec)} {n:Nat} {sk:Sk} {nf:List NE} {m:DenA args→FState} {ts:List (Nat×Option TypeId)}
  (hf:P.funcs[f]? =some fn) (hb:fn.body=some c) (hcall:aS P f) (hT:TabOk P Γ) (hl:FitAll P l) (hm:P.follows .mixedOrders=true)
  (hres:fn.results=(ts.map rvV).toArray) (hB:kW fn.ntmps (gH args 0) c=true) (h6:fn.ntmps≤1000000) (hnt:args.length≤fn.ntmps) (ha:dA {Γ with calls:=lkS l} args=true) (hr:hH {Γ with calls:=lkS l} rets=true)
  (hM:∀(d:DenA args) (β:Type) (κ:FState→Option β),dM 0 0 (bM args) (gH args 0) (toB args d) (mH args d) (fun s=>vD {Γ with calls:=lkS l} nf (rC args 0 s) κ)=κ (m d))
  (hX:∀(d:DenA args),FX {Γ with calls:=lkS l} n c sk (m d) (sR {Γ with calls:=lkS l} args rets ts)=g d):Fit P f (nW args rets g):=by
 refine ⟨PV (Γ:={Γ with calls:=lkS l}) (n:=n) (sk:=sk) hf hb hcall (dA3 hT hl) (natOk hl) hm (J5 g) hres hB h6 hnt ha hr hM (fun d x hx=>(hX d).trans ?_),G3 g⟩
 have h':(g d).bind some=some x:=hx
 cases hg:g d with
 | none=>rw [hg] at h';cases h'
 | some y=>rw [hg] at h';cases h';rfl
theorem mV {P:Program} {f:FuncId} {args:List AK} {rets:List RK} (hcall:aS P f) (hb:bM args=[]:=by rfl):Fit P f (aQ args rets fun _=>none):=
 ⟨⟨hcall,hb.symm,nK _,fun w Z vs own d x _ _ _ _ _ hx=>by cases lK (f:=fun _=>none) hx⟩,nC _⟩
def aR5:Code→Option (Code×Tmp×FuncId×Nat×Code)
 | .seq c0 (.seq (.region _ ⟨[o1,o2]⟩ false) c1)=>(match o1.dst,o1.op,o1.guard,o2.dst,o2.op,o2.guard with
  | some tm,.makeFunc (.func g) ⟨[]⟩ caps,none,none,.defer ⟨.value (.tmp tm'),⟨[]⟩,⟨[]⟩⟩,none=>bif Nat.beq tm' tm then some (c0,tm,g,caps.size,c1) else none
  | _,_,_,_,_,_=>none)
 | _=>none
theorem aM5 {c c0 c1:Code} {tm:Tmp} {g:FuncId} {k:Nat} (h:aR5 c=some (c0,tm,g,k,c1)):
  ∃id caps ty1 ty2 pos1 pos2 af1 af2,caps.size=k∧c= .seq c0 (.seq (.region id #[⟨some tm,.makeFunc (.func g) #[] caps,ty1,pos1,af1,none⟩,⟨none,.defer {callee:= .value (.tmp tm),args:=#[],argTypes:=#[]},ty2,pos2,af2,none⟩] false) c1):=by
 unfold aR5 at h
 split at h
 ·rename_i c0' id o1 o2 c1'
  obtain ⟨d1,op1,ty1,pos1,af1,g1⟩:=o1
  obtain ⟨d2,op2,ty2,pos2,af2,g2⟩:=o2
  simp only at h
  split at h
  ·rename_i tm1 g' caps tm'
   cases hb:Nat.beq tm' tm1 with
   | false=>rw [hb] at h;cases h
   | true=>
    rw [hb] at h
    have:=Nat.eq_of_beq_eq_true hb
    subst this
    cases h
    exact ⟨id,caps,ty1,ty2,pos1,pos2,af1,af2,rfl,rfl⟩
  ·cases h
 ·cases h
theorem F6 {P:Program} {f g:FuncId} {fn:Func} {c c0 c1:Code} {args:List AK} {rets:List RK} {h:DenA args→Option (DenR rets)} {Γ:Ctx} {l:List (Nat×Spec)} {n k:Nat} {sk0 sk1:Sk} {ts:List (Nat×Option TypeId)} {tm:Tmp}
  (hf:P.funcs[f]? =some fn) (hb:fn.body=some c) (hw:aR5 c=some (c0,tm,g,k,c1)) (hcall:aS P f) (hT:TabOk P Γ) (hl:FitAll P l) (hm:P.follows .mixedOrders=true) (hg:aS P g) (hidle:eX3 P g k)
  (hres:fn.results=(ts.map rvV).toArray) (hB0:kW fn.ntmps [] c0=true) (hB1:kW fn.ntmps [] c1=true) (h6:fn.ntmps≤1000000) (htm:tm < fn.ntmps) (hnt:args.length≤fn.ntmps) (ha:fK {Γ with calls:=lkS l} args=true) (hr:hH {Γ with calls:=lkS l} rets=true)
  (hX:∀(d:DenA args),FX {Γ with calls:=lkS l} n c0 sk0 (mH args d) ⟨fun s=>FX {Γ with calls:=lkS l} n c1 sk1 (s.set tm .dead) (cS {Γ with calls:=lkS l} rets ts),fun _=>none,fun _ _=>none⟩=h d):Fit P f (aQ args rets h):=by
 obtain ⟨id,caps,ty1,ty2,pos1,pos2,af1,af2,rfl,rfl⟩:=aM5 hw
 exact ⟨NF (Γ:={Γ with calls:=lkS l}) (n:=n) (sk0:=sk0) (sk1:=sk1) hf hb hcall (dA3 hT hl) (natOk hl) hm hg hidle (nK h) rfl hres hB0 hB1 h6 htm hnt ha hr (fun d x hx=>(hX d).trans (lK hx)),nC h⟩
theorem fE2 {vs:Array Value} (h:vs.size=2):∃a b,vs=#[a,b]:=by
 obtain ⟨l⟩:=vs
 match l,h with
 | [a,b],_=>exact ⟨a,b,rfl⟩
def QK:List AK→Bool
 | []=>true
 | .dat _::l=>QK l
 | _=>false
theorem DQ {w:World} {A:Nat→Prop}:∀{ks:List AK} {d:DenA ks} {vs:List Value} {own:List Nat},QK ks=true→ArgsRep w A ks d vs own→own=[]
 | [],_,_,_,_,h=>h.2
 | .dat k::ks,d,vs,own,hk,h=>by
  obtain ⟨v,vs',o1,o2,rfl,rfl,h1,h2⟩:=h
  rw [h1.1,DQ (ks:=ks) hk h2];rfl
 | .ro _ _::_,_,_,_,hk,_=>by cases hk
 | .rw _ _::_,_,_,_,hk,_=>by cases hk
 | .pro _ _::_,_,_,_,hk,_=>by cases hk
 | .cel _ _::_,_,_,_,hk,_=>by cases hk
 | .io _ _::_,_,_,_,hk,_=>by cases hk
 | .mp _ _::_,_,_,_,hk,_=>by cases hk
theorem vZ:∀{ks:List AK},QK ks=true→ks.any AK.isB=false
 | [],_=>rfl
 | .dat k::ks,h=>by simpa [AK.isB] using vZ (ks:=ks) h
theorem ResRep.mono' {P:Program} {w:World} {A A':Nat→Prop} (hA:∀b,A' b→A b):∀{k:RK} {x:k.den} {v:Value} {own:List Nat},ResRep P w A k x v own→ResRep P w A' k x v own
 | .dat k,x,v,own,h=>(ArgRep.mono (k:= .dat k) hA (show ArgRep w A (.dat k) x v own from h):ArgRep w A' (.dat k) x v own)
 | .rw k e,x,v,own,h=>⟨h.1,ArgRep.mono (k:= .rw k e) hA h.2⟩
 | .nsl,x,v,own,h=>h
 | .ro k e,x,v,own,h=>⟨h.1,ArgRep.mono (k:= .ro k e) hA h.2⟩
 | .ptr _ _,_,_,_,⟨h,b,off,cs,t,h1,h2,h3,h4⟩=>⟨h,b,off,cs,t,h1,h2,h3.mono hA,h4⟩
 | .bcel _ _,_,_,_,⟨h1,h2,h3⟩=>⟨h1,h2,h3.mono hA⟩
 | .bio _ _,_,_,_,⟨h1,h2⟩=>⟨h1,h2.mono hA⟩
 | .bmp _ _,_,_,_,h=>MapAt.mono hA h
theorem RessRep.mono' {P:Program} {w:World} {A A':Nat→Prop} (hA:∀b,A' b→A b):∀{ks:List RK} {x:DenR ks} {vs:List Value} {own:List Nat},RessRep P w A ks x vs own→RessRep P w A' ks x vs own
 | [],_,_,_,h=>h
 | k::ks,_,_,_,⟨v,vs',o1,o2,h1,h2,h3,h4⟩=>⟨v,vs',o1,o2,h1,h2,h3.mono' hA,h4.mono' hA⟩
theorem BC {P:Program} {f:FuncId} {args:List AK} {rets:List RK} {g:DenA args→Option (DenR rets)} (hcall:aS P f) (ha:QK args=true)
  (h:∀(d:DenA args) (x:DenR rets) (w:World) (vs:List Value),GW P w→ArgsRep w (fun _=>False) args d vs []→g d=some x→
   Calls P f vs.toArray w fun e w'=>∃us,e= .returned (rL us)∧RessRep P w' (fun _=>True) rets x us []∧Go.RowKit.Below w.heap.size w w'):Fit P f (aQ args rets g):=by
 refine ⟨⟨hcall,(lD _ (vZ ha)).symm,nK g,fun w Z vs own d x hG hZ hnd hown hargs hx=>?_⟩,nC g⟩
 obtain rfl:=DQ ha hargs
 have hx':=lK hx
 refine Calls.mono ?_ (HE (S:=aQ args rets g) (own:=[]) (vs:=vs) (x:=x) (Z:=Z) (w:=w) rfl (vZ ha))
 refine (h d x.1 w vs hG.tab (hargs.mono fun b hb=>hb.elim) hx').mono fun e w' ⟨us,he,hr,hb⟩=>?_
 exact ⟨us,[],he,hr.mono' (fun _ _=>trivial),List.nodup_nil,fun b hb=>(by cases hb),hb.os,hb.tape,hb.output,hb.size,fun b hb' _=>hb.block b hb'⟩
def uE:List AK→Bool
 | []=>true
 | .dat _::l=>uE l
 | .ro _ _::l=>uE l
 | .pro _ _::l=>uE l
 | _=>false
theorem mP {w:World} {A:Nat→Prop}:∀{ks:List AK} {d:DenA ks} {vs:List Value} {own:List Nat},uE ks=true→ArgsRep w A ks d vs own→own=[]
 | [],_,_,_,_,h=>h.2
 | .dat k::ks,d,vs,own,hk,h=>by
  obtain ⟨v,vs',o1,o2,rfl,rfl,h1,h2⟩:=h
  rw [h1.1,mP (ks:=ks) hk h2];rfl
 | .ro _ _::ks,d,vs,own,hk,h=>by
  obtain ⟨v,vs',o1,o2,rfl,rfl,h1,h2⟩:=h
  rw [h1.1,mP (ks:=ks) hk h2];rfl
 | .pro _ _::ks,d,vs,own,hk,h=>by
  obtain ⟨v,vs',o1,o2,rfl,rfl,h1,h2⟩:=h
  rw [h1.1,mP (ks:=ks) hk h2];rfl
 | .rw _ _::_,_,_,_,hk,_=>by cases hk
 | .cel _ _::_,_,_,_,hk,_=>by cases hk
 | .io _ _::_,_,_,_,hk,_=>by cases hk
 | .mp _ _::_,_,_,_,hk,_=>by cases hk
theorem lS:∀{ks:List AK},uE ks=true→ks.any AK.isB=false
 | [],_=>rfl
 | .dat k::ks,h=>by simpa [AK.isB] using lS (ks:=ks) h
 | .ro _ _::ks,h=>by simpa [AK.isB] using lS (ks:=ks) h
 | .pro _ _::ks,h=>by simpa [AK.isB] using lS (ks:=ks) h
theorem L5 {P:Program} {f:FuncId} {args:List AK} {rets:List RK} {g:DenA args→Option (DenR rets)} (hcall:aS P f) (ha:uE args=true)
  (h:∀(d:DenA args) (x:DenR rets) (w:World) (A:Nat→Prop) (vs:List Value),GW P w→ArgsRep w A args d vs []→g d=some x→
   Calls P f vs.toArray w fun e w'=>∃us,e= .returned (rL us)∧RessRep P w' (fun _=>True) rets x us []∧Go.RowKit.Below w.heap.size w w'):Fit P f (aQ args rets g):=by
 refine ⟨⟨hcall,(lD _ (lS ha)).symm,nK g,fun w Z vs own d x hG hZ hnd hown hargs hx=>?_⟩,nC g⟩
 obtain rfl:=mP ha hargs
 have hx':=lK hx
 refine Calls.mono ?_ (HE (S:=aQ args rets g) (own:=[]) (vs:=vs) (x:=x) (Z:=Z) (w:=w) rfl (lS ha))
 refine (h d x.1 w _ vs hG.tab hargs hx').mono fun e w' ⟨us,he,hr,hb⟩=>?_
 exact ⟨us,[],he,hr.mono' (fun _ _=>trivial),List.nodup_nil,fun b hb=>(by cases hb),hb.os,hb.tape,hb.output,hb.size,fun b hb' _=>hb.block b hb'⟩
theorem gR (xs:List Int):(strOfNums xs).size=xs.length:=by
 show ((xs.map fun x=>UInt8.ofNat x.toNat).toArray).size=_
 simp
theorem aF9 {w:World} {A:Nat→Prop} {b off:Nat} {xs:List BA} (hr:RowAt w A .str b off xs) (j:Nat) (x:BA) (hj:xs[j]? =some x):w.cell? ⟨b,off+j,none⟩=some (.string x):=by
 obtain ⟨ds,h1,h2⟩:=hr j x hj
 have h1':ds=[Value.string x]:=h1
 subst h1'
 have:=h2 0 (by decide)
 rw [show off+j * K.str.size+0=off+j by simp [K.size]] at this
 rw [this];rfl
theorem S6 {w:World} {A:Nat→Prop} {b off:Nat} {xs:List Int} (h:∀x∈xs,0≤x∧x < 256) (hr:RowAt w A (.int .u8) b off xs) (j:Nat) (hj:j < (strOfNums xs).size):w.cell? ⟨b,off+j,none⟩=some (.int .u8 ((strOfNums xs).get! j).toNat):=by
 rw [gR] at hj
 obtain ⟨ds,h1,h2⟩:=hr j xs[j] (List.getElem?_eq_getElem hj)
 have h1':ds=[Value.int .u8 xs[j]]:=h1
 subst h1'
 have:=h2 0 (by decide)
 rw [show off+j * (K.int .u8).size+0=off+j by simp [K.size]] at this
 rw [this]
 have hr:=h xs[j] (by simp)
 have e:(strOfNums xs).get! j=UInt8.ofNat xs[j].toNat:=by
  show ((xs.map fun x=>UInt8.ofNat x.toNat).toArray)[j]! =_
  simp [hj]
 rw [e]
 simp
 omega
end Go.Proofs.YthkiaiilpaojnaaDoorZF

namespace Go.Proofs.YthkiaiilpaojnaaDoorZF
open Go Go.RowKit Go.ChangeShapes Go.WideShapes Go.Deep
set_option linter.unusedVariables false
set_option linter.unusedSimpArgs false
def GoodK:(k:K)→k.den→Prop
 | .int k,n=>(Lit.int k n).wf=true
 | .bool,_=>True
 | .str,s=>ByteArray.size s≤maxLen
 | .flt f,b=>(Lit.float f b).wf=true
 | .err,_=>True
 | .pair a b,x=>GoodK a x.1∧GoodK b x.2
 | .sl _ k,xs=>List.length xs≤maxLen∧∀y∈xs,GoodK k y
def oV (P:Program):K→(TypeId→Bool)×(List Field→Bool)
 | .int k=>let T:=fun t=>JJ P t (.int k);(T,fun | [f]=>T f.type | _=>false)
 | .bool=>let T:=fun t=>JJ P t .bool;(T,fun | [f]=>T f.type | _=>false)
 | .str=>let T:=fun t=>JJ P t .str;(T,fun | [f]=>T f.type | _=>false)
 | .flt .f64=>let T:=fun t=>JJ P t (.flt .f64);(T,fun | [f]=>T f.type | _=>false)
 | .sl e k=>let T:=fun t=>JJ P t (.sl e k)&&Nat.beq (P.cellsOf e) k.size&&(oV P k).1 e;(T,fun | [f]=>T f.type | _=>false)
 | .pair a b=>
  let S:List Field→Bool:=fun | f::f'::fs=>(oV P a).1 f.type&&Nat.beq a.size 1&&(oV P b).2 (f'::fs) | _=>false
  (fun t=>match P.underlying t with | some (.struct fs)=>oneCellFields P fs&&S fs.toList | _=>false,S)
 | _=>(fun _=>false,fun _=>false)
section
variable {H:Type} {enc:TypeId×Value→H} {P:Program} {w:World} {base:Nat} {spare:Nat→Bool} {held:Bool}
def pF (enc:TypeId×Value→H) (P:Program) (w:World) (base:Nat) (spare:Nat→Bool) (held:Bool) (k:K) (t:TypeId):Prop:=
 ∀(n:Nat) (cs:List Value) (x:DataW H×List MemPlace),cs.length=k.size→DataW.trod enc P w base spare held n t cs=some x→∃y:k.den,RepD w (fun _=>False) k y cs∧GoodK k y
theorem bS9 {k:IntKind} {e:TypeId} (he:P.underlying e=some (.int k)):pF enc P w base spare held (.int k) e:=by
 intro n cs x hl h
 obtain ⟨m,rfl,_,hw⟩:=DataW.trod_int he h
 exact ⟨m,rfl,hw⟩
theorem RD {e:TypeId} (he:P.underlying e=some .string):pF enc P w base spare held .str e:=by
 intro n cs x hl h
 obtain ⟨s,rfl,_,hw⟩:=DataW.trod_string he h
 exact ⟨s,rfl,hw⟩
theorem aE5 {e:TypeId} (he:P.underlying e=some .bool):pF enc P w base spare held .bool e:=by
 intro n cs x hl h
 have hb:∃b,cs=[Value.bool b]:=by
  cases n with
  | zero=>simp [DataW.trod] at h
  | succ n=>
   unfold DataW.trod at h
   rw [he] at h
   split at h
   all_goals first | exact ⟨_,rfl⟩ | simp_all
 obtain ⟨b,rfl⟩:=hb
 exact ⟨b,rfl,trivial⟩
theorem bP0 {e:TypeId} (he:P.underlying e=some (.float .f64)):pF enc P w base spare held (.flt .f64) e:=by
 intro n cs x hl h
 cases n with
 | zero=>simp [DataW.trod] at h
 | succ n=>
  unfold DataW.trod at h
  rw [he] at h
  split at h <;> simp_all
  rename_i k1 k2 b hk
  subst hk
  exact ⟨b,rfl,h.1.2⟩
theorem dT2 {k:K} {t e:TypeId} (ht:P.underlying t=some (.slice e)) (hC:P.cellsOf e=k.size) (hel:pF enc P w base spare held k e):pF enc P w base spare held (.sl e k) t:=by
 intro n0 cs x hl0 h
 clear hl0
 rcases open_slice ht h with ⟨rfl,_⟩ | ⟨a,len,cap,m,n,D,Pl,rfl,hb,hl,hm,hmm,hx,hi⟩
 ·exact ⟨[],⟨none,0,rfl,Nat.le_refl _,.inl rfl⟩,Nat.zero_le _,by simp⟩
 ·have hlm:len≤m:=by rw [hmm];split <;> omega
  have hall:∀i,i < len→∃y:k.den,GoodK k y∧∃c:List Value,RepD w (fun _=>False) k y c∧∀j,j < k.size→w.cell? (a.add (i * k.size+j))=c[j]? :=by
   intro i hil
   obtain ⟨cs',hc,ht'⟩:=hi i (by omega)
   obtain ⟨_,hcl,hat⟩:=World.cells?_some hc
   rw [hC] at hcl hat
   obtain ⟨y,hy,hg⟩:=hel n cs' _ hcl ht'
   refine ⟨y,hg,cs',hy,fun j hj=>?_⟩
   rw [←Go.Deep.add_add]
   exact hat j hj
  have:∃xs:List k.den,xs.length=len∧∀i (hi:i < xs.length),GoodK k xs[i]∧∃c:List Value,RepD w (fun _=>False) k xs[i] c∧∀j,j < k.size→w.cell? (a.add (i * k.size+j))=c[j]? :=by
   clear hlm hmm hx hi hl h
   induction len with
   | zero=>exact ⟨[],rfl,fun i hi=>absurd hi (Nat.not_lt_zero _)⟩
   | succ len ih=>
    obtain ⟨xs,hxl,hxs⟩:=ih (fun i hil=>hall i (by omega))
    obtain ⟨y,hy⟩:=hall len (by omega)
    refine ⟨xs++[y],by simp [hxl],fun i hil=>?_⟩
    by_cases e:i < xs.length
    ·rw [List.getElem_append_left e];exact hxs i e
    ·obtain rfl:i=xs.length:=by simp at hil;omega
     rw [List.getElem_append_right (Nat.le_refl _)]
     simpa [hxl] using hy
  obtain ⟨xs,hxl,hxs⟩:=this
  refine ⟨xs,⟨some a,cap,by rw [hxl],by omega,?_⟩,by omega,fun y hy=>?_⟩
  ·by_cases h0:xs=[]
   ·exact .inl h0
   ·right
    have hpos:0 < xs.length:=List.length_pos_iff.2 h0
    have hsp:a.spot=none:=by
     obtain ⟨_,c,hc,hcell⟩:=hxs 0 hpos
     have h1:=hcell 0 k.size_pos
     have hcl:=hc.len
     have hks:=k.size_pos
     rw [List.getElem?_eq_getElem (by omega)] at h1
     unfold World.cell? at h1
     split at h1
     ·split at h1
      ·cases h1
      ·rename_i hs
       rw [Nat.zero_mul,Addr.add_zero'] at hs
       cases hsp:a.spot with
       | none=>rfl
       | some z=>rw [hsp] at hs;simp at hs
     ·cases h1
    obtain ⟨b,off,sp⟩:=a
    simp only at hsp
    subst hsp
    refine ⟨b,off,rfl,fun h=>h,fun i z hz=>?_⟩
    obtain ⟨hil,rfl⟩:=List.getElem?_eq_some_iff.1 hz
    obtain ⟨_,c,hc,hcell⟩:=hxs i hil
    refine ⟨c,hc,fun j hj=>?_⟩
    have:=hcell j hj
    rw [Addr.add_mid] at this
    rw [←this]
    congr 2
    omega
  ·obtain ⟨i,hil,rfl⟩:=List.getElem_of_mem hy
   exact (hxs i hil).1
theorem dK0 {fs:Array Field} {t:TypeId} (ht:P.underlying t=some (.struct fs)) (hone:oneCellFields P fs=true) {n:Nat} {cs:List Value} {x:DataW H×List MemPlace} (h:DataW.trod enc P w base spare held n t cs=some x)
  (i:Nat) (f:Field) (hf:fs[i]? =some f) (v:Value) (hv:cs[i]? =some v):∃(m:Nat) (y:DataW H×List MemPlace),DataW.trod enc P w base spare held m f.type [v]=some y:=by
 obtain ⟨xs,m,_,_,hlen,hxl,hg⟩:=DataW.trod_struct ht h
 obtain ⟨o,k⟩:=hone_of hone i f hf
 have h1:=hg i f hf
 rw [o,k] at h1
 obtain ⟨hil,rfl⟩:=List.getElem?_eq_some_iff.1 hv
 rw [List.drop_eq_getElem_cons hil] at h1
 have hx:i < xs.length:=by rw [hxl];exact (Array.getElem?_eq_some_iff.1 hf).1
 rw [List.getElem?_eq_getElem hx] at h1
 exact ⟨m,_,h1⟩
def wC (enc:TypeId×Value→H) (P:Program) (w:World) (base:Nat) (spare:Nat→Bool) (held:Bool) (k:K) (fs:List Field):Prop:=
 ∀cs:List Value,cs.length=k.size→(∀(i:Nat) (f:Field) (v:Value),fs[i]? =some f→cs[i]? =some v→∃(m:Nat) (y:DataW H×List MemPlace),DataW.trod enc P w base spare held m (Field.type f) [v]=some y)→∃y:k.den,RepD w (fun _=>False) k y cs∧GoodK k y
theorem nN {k:K} (hk:k.size=1) {f:Field} (h:pF enc P w base spare held k f.type):wC enc P w base spare held k [f]:=by
 intro cs hl hf
 rw [hk] at hl
 obtain ⟨v,rfl⟩:=List.length_eq_one_iff.1 hl
 obtain ⟨m,y,hy⟩:=hf 0 f v rfl rfl
 exact h m [v] y (by rw [hk];rfl) hy
theorem jC:∀k:K,(∀t,(oV P k).1 t=true→pF enc P w base spare held k t)∧(∀fs,(oV P k).2 fs=true→wC enc P w base spare held k fs)
 | .int k=>by
  have T:∀t,(oV P (.int k)).1 t=true→pF enc P w base spare held (.int k) t:=fun t h=>bS9 (aZ (k:= .int k) h)
  refine ⟨T,fun fs h=>?_⟩
  match fs,h with
  | [f],h=>exact nN rfl (T _ h)
 | .bool=>by
  have T:∀t,(oV P .bool).1 t=true→pF enc P w base spare held .bool t:=fun t h=>aE5 (aZ (k:= .bool) h)
  refine ⟨T,fun fs h=>?_⟩
  match fs,h with
  | [f],h=>exact nN rfl (T _ h)
 | .str=>by
  have T:∀t,(oV P .str).1 t=true→pF enc P w base spare held .str t:=fun t h=>RD (aZ (k:= .str) h)
  refine ⟨T,fun fs h=>?_⟩
  match fs,h with
  | [f],h=>exact nN rfl (T _ h)
 | .flt .f64=>by
  have T:∀t,(oV P (.flt .f64)).1 t=true→pF enc P w base spare held (.flt .f64) t:=fun t h=>bP0 (aZ (k:= .flt .f64) h)
  refine ⟨T,fun fs h=>?_⟩
  match fs,h with
  | [f],h=>exact nN rfl (T _ h)
 | .flt .f32=>⟨fun t h=>(by cases h),fun fs h=>(by cases h)⟩
 | .err=>⟨fun t h=>(by cases h),fun fs h=>(by cases h)⟩
 | .sl e k=>by
  have T:∀t,(oV P (.sl e k)).1 t=true→pF enc P w base spare held (.sl e k) t:=fun t h=>by
   simp only [oV,Bool.and_eq_true] at h
   exact dT2 (aZ (k:= .sl e k) h.1.1) (Nat.eq_of_beq_eq_true h.1.2) ((jC k).1 e h.2)
  refine ⟨T,fun fs h=>?_⟩
  match fs,h with
  | [f],h=>exact nN rfl (T _ h)
 | .pair a b=>by
  have S:∀fs,(oV P (.pair a b)).2 fs=true→wC enc P w base spare held (.pair a b) fs:=fun fs h=>by
   match fs,h with
   | f::f'::fs,h=>
    simp only [oV,Bool.and_eq_true] at h
    obtain ⟨⟨h1,h2⟩,h3⟩:=h
    have h2:=Nat.eq_of_beq_eq_true h2
    intro cs hl hf
    simp only [K.size,h2] at hl
    cases cs with
    | nil=>simp at hl;omega
    | cons v cs=>
     obtain ⟨m,y,hy⟩:=hf 0 f v rfl rfl
     obtain ⟨y1,g1,g2⟩:=(jC a).1 f.type h1 m [v] y (by rw [h2];rfl) hy
     obtain ⟨y2,g3,g4⟩:=(jC b).2 (f'::fs) h3 cs (by simp at hl;omega) (fun i f0 v0 hf0 hv0=>hf (i+1) f0 v0 (by simpa using hf0) (by simpa using hv0))
     exact ⟨(y1,y2),⟨[v],cs,rfl,g1,g3⟩,g2,g4⟩
  refine ⟨fun t h=>?_,S⟩
  simp only [oV] at h
  split at h
  ·rename_i fs hu
   simp only [Bool.and_eq_true] at h
   intro n cs x hl hx
   exact S fs.toList h.2 cs hl (fun i f v hf hv=>dK0 hu h.1 hx i f (by simpa using hf) v hv)
  ·cases h
end
end Go.Proofs.YthkiaiilpaojnaaDoorZF

namespace Go.Proofs.YthkiaiilpaojnaaDoorZF
open Go Go.RowKit Go.ChangeShapes Go.WideShapes Go.Deep
set_option linter.unusedVariables false
set_option linter.unusedSimpArgs false
def CC (P:Program):AK→TypeId→Bool
 | .dat (.sl _ _),_=>false
 | .dat k,t=>(oV P k).1 t&&Nat.beq (P.cellsOf t) k.size
 | .ro k e,t=>(oV P (.sl e k)).1 t
 | _,_=>false
def DH (P:Program):List AK→List TypeId→Bool
 | [],[]=>true
 | k::ks,t::ts=>CC P k t&&P.readableRec t&&Nat.blt t P.types.size&&DH P ks ts
 | _,_=>false
def dA4:(k:AK)→k.den→Prop
 | .dat k,x=>GoodK k x
 | .ro k e,x=>GoodK (.sl e k) x
 | .rw k e,x=>True
 | .pro k e,x=>True
 | .cel k e,x=>True
 | .io k e,x=>True
 | .mp a b,x=>True
def aY9:(ks:List AK)→DenA ks→Prop
 | [],_=>True
 | k::ks,d=>dA4 k d.1∧aY9 ks d.2
section
variable {H:Type} {enc:TypeId×Value→H} {P:Program} {w:World} {base b0:Nat} {spare:Nat→Bool} {held:Bool} {r:Reach}
theorem XO {t:TypeId} {k:FloatKind} {v:Value} (ht:P.underlying t=some (.float k)) (h:Value.okWide P w r b0 t v):∃n,v= .float k n:=by
 simp only [Value.okWide,ht,Cell.okWide] at h
 cases v <;> simp_all [Cell.ok]
theorem bV0 {k:AK} {t:TypeId} {v:Value} {d:DataW H} {p:List MemPlace} (h:CC P k t=true) (hv:Value.okWide P w r b0 t v) (ht:DataW.Trod enc P w base spare held t v d p):
  ∃x:k.den,ArgRep w (fun _=>False) k x v []∧dA4 k x:=by
 obtain ⟨n,ht⟩:=ht
 match k,h with
 | .dat (.int ik),h=>
  simp only [CC,Bool.and_eq_true] at h
  obtain ⟨m,rfl⟩:=okWide_int (aZ (k:= .int ik) h.1) hv
  obtain ⟨y,h1,h2⟩:=(jC (.int ik)).1 t h.1 n _ _ rfl ht
  exact ⟨y,⟨rfl,_,h1,rfl⟩,h2⟩
 | .dat .bool,h=>
  simp only [CC,Bool.and_eq_true] at h
  obtain ⟨m,rfl⟩:=okWide_bool (aZ (k:= .bool) h.1) hv
  obtain ⟨y,h1,h2⟩:=(jC .bool).1 t h.1 n _ _ rfl ht
  exact ⟨y,⟨rfl,_,h1,rfl⟩,h2⟩
 | .dat .str,h=>
  simp only [CC,Bool.and_eq_true] at h
  obtain ⟨m,rfl⟩:=okWide_string (aZ (k:= .str) h.1) hv
  obtain ⟨y,h1,h2⟩:=(jC .str).1 t h.1 n _ _ rfl ht
  exact ⟨y,⟨rfl,_,h1,rfl⟩,h2⟩
 | .dat (.flt .f64),h=>
  simp only [CC,Bool.and_eq_true] at h
  obtain ⟨m,rfl⟩:=XO (aZ (k:= .flt .f64) h.1) hv
  obtain ⟨y,h1,h2⟩:=(jC (.flt .f64)).1 t h.1 n _ _ rfl ht
  exact ⟨y,⟨rfl,_,h1,rfl⟩,h2⟩
 | .dat (.flt .f32),h=>simp [CC,oV] at h
 | .dat .err,h=>simp [CC,oV] at h
 | .dat (.pair a b),h=>
  simp only [CC,Bool.and_eq_true] at h
  have hs:∃fs,P.underlying t=some (.struct fs):=by
   have h1:=h.1
   simp only [oV] at h1
   split at h1
   ·rename_i fs hu;exact ⟨fs,hu⟩
   ·cases h1
  obtain ⟨fs,hu⟩:=hs
  obtain ⟨cs,rfl,hcs⟩:=okWide_struct hu hv
  have hl:(Value.cells (.agg cs)).toList.length=(K.pair a b).size:=by
   show cs.toList.length=_
   rw [←Nat.eq_of_beq_eq_true h.2,←hcs];simp
  obtain ⟨y,h1,h2⟩:=(jC (.pair a b)).1 t h.1 n _ _ hl ht
  exact ⟨y,⟨rfl,_,h1,by simp [K.isPair,Value.cells]⟩,h2⟩
 | .dat (.sl _ _),h=>simp [CC] at h
 | .ro k e,h=>
  simp only [CC] at h
  have hk:=h
  simp only [oV,Bool.and_eq_true] at hk
  obtain ⟨a,len,cap,rfl⟩:=okWide_slice (aZ (k:= .sl e k) hk.1.1) hv
  obtain ⟨y,h1,h2⟩:=(jC (.sl e k)).1 t h n _ _ rfl ht
  obtain ⟨ad,cap',he,hle,hx⟩:=h1
  have he:(Value.slice a len cap)= .slice ad (List.length y) cap':=by simpa [Value.cells] using he
  exact ⟨y,⟨rfl,ad,cap',he,hle,fun hne=>hx.resolve_left hne⟩,h2⟩
 | .rw k e,h=>simp [CC] at h
 | .pro k e,h=>simp [CC] at h
theorem PB:∀{ks:List AK} {ts:List TypeId} {vs:List Value} {ds:List (DataW H)} {p:List MemPlace},DH P ks ts=true→(∀(j:Nat) t v,ts[j]? =some t→vs[j]? =some v→Value.okWide P w r b0 t v)→DataW.TrodAll enc P w base spare held ts vs ds p→
  ∃d:DenA ks,ArgsRep w (fun _=>False) ks d vs []∧aY9 ks d
 | [],[],vs,ds,p,_,_,ht=>by
  obtain ⟨rfl,rfl,rfl⟩:=trodAll_nil ht
  exact ⟨(),⟨rfl,rfl⟩,trivial⟩
 | k::ks,t::ts,vs,ds,p,h,hv,ht=>by
  obtain ⟨v,vs',d,ds',p,q,rfl,rfl,rfl,h1,h2⟩:=trodAll_cons ht
  simp only [DH,Bool.and_eq_true] at h
  obtain ⟨x,g1,g2⟩:=bV0 h.1.1.1 (hv 0 t v rfl rfl) h1
  obtain ⟨xs,g3,g4⟩:=PB h.2 (fun j t v ht hv'=>hv (j+1) t v (by simpa using ht) (by simpa using hv')) h2
  exact ⟨(x,xs),⟨v,vs',[],[],rfl,rfl,g1,g3⟩,g2,g4⟩
 | [],_::_,_,_,_,h,_,_=>by cases h
 | _::_,[],_,_,_,h,_,_=>by cases h
theorem OV {W W':World} (hl:laidOutB P=true) (hb:Below W.heap.size W W'):∀{ks:List AK} {ts:List TypeId} {vs:List Value} {ds:List (DataW H)} {p:List MemPlace},DH P ks ts=true→
  DataW.TrodAll enc P W 0 (fun _=>true) true ts vs ds p→(∀x∈p,x.block < W.heap.size)→DataW.TrodAll enc P W' 0 (fun b=>decide (b < W.heap.size)) true ts vs ds p
 | [],[],vs,ds,p,_,ht,_=>by
  obtain ⟨rfl,rfl,rfl⟩:=trodAll_nil ht
  exact rfl
 | k::ks,t::ts,vs,ds,p,h,ht,hlt=>by
  obtain ⟨v,vs',d,ds',p,q,rfl,rfl,rfl,h1,h2⟩:=trodAll_cons ht
  simp only [DH,Bool.and_eq_true] at h
  exact trodAll_cons_mk (Below.trod hl h.1.1.2 (Nat.le_of_ble_eq_true h.1.2) h1 hb (fun x hx=>hlt x (by simp [hx]))) (OV hl hb h.2 h2 (fun x hx=>hlt x (by simp [hx])))
 | [],_::_,_,_,_,h,_,_=>by cases h
 | _::_,[],_,_,_,h,_,_=>by cases h
theorem bP2 {f:FuncId} {fn:Func} {s:ChangeSpec} {ks:List AK} {tb:TypeId} {g:Nat→DenA ks→Option (DenR [RK.dat .bool])}
  (hf:∀n,Fit P f (aQ ks [.dat .bool] (g n))) (hl:laidOutB P=true) (hts:DH P ks fn.params.toList=true) (hrt:fn.resultTypes=#[tb]) (htb:P.underlying tb=some .bool) (hvr:varsRowed P s.vars=true)
  (hs:∀(ds gs:List (DataW H)),ds.length=ks.length→gs.length=s.vars.length→s.fn H (ds++gs)=⟨[.lit (.bool true)],ds,gs⟩)
  (hpure:∀d:DenA ks,aY9 ks d→∃n,g n d=some (true,()))
  {W:World} {base:Nat} {args:Array Value} {ds gs:List (DataW H)} {before:List MemPlace}
  (hval:∀(j:Nat) t v,fn.params[j]? =some t→args[j]? =some v→Value.okWide P W .any base t v)
  (hW:DataW.Whole enc P fn.params.toList s.vars false W args.toList ds gs before) (hGW:NG≤W.heap.size∧G0 P W):
  Calls P f args W fun e W'=>∃v,e= .returned v∧s.post enc P fn false true false false W args v W':=by
 have hW':=hW
 have hlt:∀p∈before,p.block < W.heap.size:=fun p hp=>hW'.lt p hp
 obtain ⟨p,q,hA,hV,rfl,hfz,hnd⟩:=hW
 obtain ⟨d,hd,hg⟩:=PB hts (fun j t v ht hv=>hval j t v (by simpa using ht) (by simpa using hv)) hA
 obtain ⟨n,hn⟩:=hpure d hg
 have hc:=(hf n).holds.calls W (fun _=>False) args.toList [] d ((true,()),()) ⟨hGW.1,fun b hb=>(by cases hb),W,hGW.2,fun _ _=>rfl⟩ (fun b hb=>hb.elim) List.nodup_nil (fun b hb=>by cases hb) (by
  show ArgsRep W (fun b=>False∨b∈[]) ks d args.toList []
  exact hd.mono (fun b hb=>by rcases hb with hb | hb;exact hb;cases hb)) (by
  show (g n d).bind (fun x=>some (x,()))=some ((true,()),())
  rw [hn];rfl)
 have ea:args.toList.toArray=args:=by simp
 rw [ea] at hc
 refine hc.mono fun e W' ⟨us,own',own2,he,hr,_,_,_,hF⟩=>?_
 have hus:us=[.bool true]:=by
  obtain ⟨v,vs',o1,o2,rfl,rfl,⟨_,cs,h1,h2⟩,h3,h4⟩:=hr
  subst h3
  have h1:cs=[Value.bool true]:=h1
  subst h1
  simp [K.isPair] at h2
  rw [←h2]
 subst hus
 have hb:Below W.heap.size W W':=⟨hF.os,hF.tape,hF.output,hF.size,fun k hk=>hF.block k hk (fun h=>by cases h)⟩
 have hlen:ds.length=ks.length∧gs.length=s.vars.length:=by
  constructor
  ·have h1:∀{ts:List TypeId} {vs:List Value} {ds:List (DataW H)} {p:List MemPlace},DataW.TrodAll enc P W 0 (fun _=>true) true ts vs ds p→ds.length=ts.length:=by
    intro ts
    induction ts with
    | nil=>intro vs ds p h;obtain ⟨_,rfl,_⟩:=trodAll_nil h;rfl
    | cons t ts ih=>intro vs ds p h;obtain ⟨v,vs',d,ds',p,q,_,rfl,_,_,h2⟩:=trodAll_cons h;simp [ih h2]
   have h2:∀{ks:List AK} {ts:List TypeId},DH P ks ts=true→ks.length=ts.length:=by
    intro ks
    induction ks with
    | nil=>intro ts h;cases ts with | nil=>rfl | cons=>cases h
    | cons k ks ih=>intro ts h;cases ts with | nil=>cases h | cons t ts=>simp only [DH,Bool.and_eq_true] at h;simp [ih h.2]
   rw [h1 hA,h2 hts]
  ·have h1:∀{ns:List String} {gs:List (DataW H)} {q:List MemPlace},DataW.TrodVars enc P W (fun _=>true) ns gs q→gs.length=ns.length:=by
    intro ns
    induction ns with
    | nil=>intro gs q h;cases gs with | nil=>rfl | cons=>exact h.elim
    | cons n ns ih=>intro gs q h;cases gs with | nil=>exact h.elim | cons d gs=>obtain ⟨_,_,_,_,_,_,_,_,_,_,h2,_⟩:=h;simp [ih h2]
   exact h1 hV
 refine ⟨.bool true,by rw [he];rfl,ds,gs,p++q,[],p,q,hW',?_,?_,?_,hb.frame _,fun h=>by cases h⟩
 ·rw [hs ds gs hlen.1 hlen.2,hrt]
  exact trodAll_mk1 (shut_bool htb _)
 ·rw [hs ds gs hlen.1 hlen.2]
  exact OV hl hb hts hA (fun x hx=>hlt x (by simp [hx]))
 ·rw [hs ds gs hlen.1 hlen.2]
  exact Below.trodVars hl hb hvr hV
end
end Go.Proofs.YthkiaiilpaojnaaDoorZF
