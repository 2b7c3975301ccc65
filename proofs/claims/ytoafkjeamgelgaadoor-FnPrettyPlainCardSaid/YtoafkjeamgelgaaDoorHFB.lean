/- FX: a plain machine beside the model's, and that the model comes to what it comes to. -/
import Derived.Test.YtoafkjeamgelgaaDoorHFC
import Derived.Defers
import Derived.Recover
import Derived.Below
import Derived.Deep.Slices
import Derived.Deep.Fields
import Derived.ChangeSame
import Derived.OpenVars
import Derived.OpenShut
import Derived.ShutString
import Derived.SizedLaws
import Derived.Handed
namespace Go.Proofs.YtoafkjeamgelgaaDoorHF
open Go
set_option linter.unusedVariables false
set_option linter.unusedSimpArgs false
def fG:Nat→(ks:List AK)→DenA ks→List (Nat×FV)
 | _,[],_=>[]
 | j,.dat k::ks,x=>(j,.dat k x.1)::fG (j+1) ks x.2
 | j,.ro k e::ks,x=>(j,.sl j none false)::fG (j+1) ks x.2
 | j,.rw k e::ks,x=>(j,.sl j none false)::fG (j+1) ks x.2
 | j,.pro k e::ks,x=>(j,.ptr j 0 0)::fG (j+1) ks x.2
 | j,.cel k e::ks,x=>(j,.dead)::fG (j+1) ks x.2
 | j,.io k e::ks,x=>(j,.dead)::fG (j+1) ks x.2
 | j,.mp a b::ks,x=>(j,.dead)::fG (j+1) ks x.2
def gD:Nat→(ks:List AK)→DenA ks→List (Nat×FObj)
 | _,[],_=>[]
 | j,.dat k::ks,x=>gD (j+1) ks x.2
 | j,.ro k e::ks,x=>(j,.row k e false x.1)::gD (j+1) ks x.2
 | j,.rw k e::ks,x=>(j,.row k e true x.1)::gD (j+1) ks x.2
 | j,.pro k e::ks,x=>(j,.row k e false [x.1])::gD (j+1) ks x.2
 | j,.cel k e::ks,x=>gD (j+1) ks x.2
 | j,.io k e::ks,x=>gD (j+1) ks x.2
 | j,.mp a b::ks,x=>gD (j+1) ks x.2
def DL (ks:List AK) (d:DenA ks):FState:=⟨aQ (fG 0 ks d),aF (gD 0 ks d)⟩
def cI (Γ:Ctx):List AK→Bool
 | []=>true
 | .dat _::ks=>cI Γ ks
 | .ro k e::ks=>(match lk Γ.kt e with | some k'=>decide (k'=k) | none=>false)&&cI Γ ks
 | .rw k e::ks=>(match lk Γ.kt e with | some k'=>decide (k'=k) | none=>false)&&cI Γ ks
 | .pro k e::ks=>(match lk Γ.kt e with | some k'=>decide (k'=k) | none=>false)&&cI Γ ks
 | .cel _ _::_ | .io _ _::_ | .mp _ _::_=>false
def eB (Γ:Ctx):List RK→Bool
 | []=>true
 | .dat _::ks=>eB Γ ks
 | .nsl::ks=>eB Γ ks
 | .ro k e::ks=>(match lk Γ.kt e with | some k'=>decide (k'=k) | none=>false)&&eB Γ ks
 | .rw k e::ks=>(match lk Γ.kt e with | some k'=>decide (k'=k) | none=>false)&&eB Γ ks
 | .ptr k e::ks=>(match lk Γ.kt e with | some k'=>decide (k'=k) | none=>false)&&eB Γ ks
 | .bcel _ _::_ | .bio _ _::_ | .bmp _ _::_=>false
theorem sG {Γ:Ctx} {e:Nat} {k:K} (h:(match lk Γ.kt e with | some k'=>decide (k'=k) | none=>false)=true):lk Γ.kt e=some k:=by
 cases hl:lk Γ.kt e with
 | none=>rw [hl] at h;cases h
 | some k'=>rw [hl] at h;simp at h;rw [h]
section
variable {β:Type}
def dV (s:FState):(rs:List RK)→List FV→(DenR rs→Option β)→Option β
 | [],[],κ=>κ ()
 | .dat k::rs,t::ts,κ=>eG t k fun x=>dV s rs ts fun xs=>κ (x,xs)
 | .nsl::rs,t::ts,κ=>(match t with | .nsl=>dV s rs ts fun xs=>κ ((),xs) | _=>none)
 | .rw k e::rs,t::ts,κ=>
  (match t with
  | .nsl=>dV s rs ts fun xs=>κ ([],xs)
  | v=>eE s v fun _ k' e' rw xs w=>if e'=e∧rw=true then cG k' k xs fun xs=>dV s rs ts fun r=>κ (win xs w,r) else none)
 | .ro k e::rs,t::ts,κ=>
  (match t with
  | .nsl=>dV s rs ts fun xs=>κ ([],xs)
  | .dat (.sl e1 k1) xs=>if e1=e then cG k1 k xs fun xs=>dV s rs ts fun r=>κ (xs,r) else none
  | v=>eE s v fun _ k' e' _ xs w=>if e'=e then cG k' k xs fun xs=>dV s rs ts fun r=>κ (win xs w,r) else none)
 | .ptr k e::rs,t::ts,κ=>
  (match t with
  | .ptr o 0 0=>match s.objs o with | some (.row k' e' true [x])=>if e'=e then jK k' k x fun x=>dV s rs ts fun r=>κ (x,r) else none | _=>none
  | _=>none)
 | _,_,_=>none
def bO:List FV→List Nat
 | []=>[]
 | t::ts=>match t with | .sl o _ _=>o::bO ts | .ptr o _ _=>o::bO ts | _=>bO ts
def rvF (Γ:Ctx) (s:FState) (r:Nat×Option TypeId):FV:=
 match r.2 with
 | none=>Go.Proofs.YtoafkjeamgelgaaDoorHF.ev s (.tmp r.1)
 | some ty=>match Go.Proofs.YtoafkjeamgelgaaDoorHF.ev s (.tmp r.1) with
  | .ptr o 0 0=>(match s.objs o with | some (.row k _ _ [x])=>if lk Γ.kt ty=some k then .dat k x else .dead | _=> .dead)
  | _=> .dead
def rvV (r:Nat×Option TypeId):ResultVar:=match r.2 with | none=> .tmp r.1 | some ty=> .cell r.1 ty
def fin (Γ:Ctx) (rs:List RK) (ts:List (Nat×Option TypeId)) (s:FState):Option (DenR rs):=bif bS (bO (ts.map (rvF Γ s))) then dV s rs (ts.map (rvF Γ s)) some else none
def eC (Γ:Ctx) (rs:List RK) (ts:List (Nat×Option TypeId)):Cx (DenR rs):=⟨fin Γ rs ts,fin Γ rs ts,fun _ _=>none⟩
def AC (w:World) (A:Nat→Prop) (O:cE) (pl:Nat→Pl):List FV→List Value→Prop
 | [],[]=>True
 | f::fs,v::vs=>VRep w A O pl f v∧AC w A O pl fs vs
 | _,_=>False
end
structure InitI (P:Program) (w:World) (A:Nat→Prop) (own:List Nat) (j:Nat) (tl:List (Nat×FV)) (ol:List (Nat×FObj)) (vs:List Value) (pl:Nat→Pl):Prop where
 vals:∀t fv,(t,fv)∈tl→j≤t∧∃v,vs[t - j]? =some v∧VRep w A (aF ol) pl fv v
 objs:∀o obj,aF ol o=some obj→j≤o∧ObjAt P w A (pl o) obj∧(occ (pl o) obj→(pl o).b∈own)
 sep:∀o o' obj obj',o≠o'→aF ol o=some obj→aF ol o'=some obj'→occ (pl o) obj→occ (pl o') obj'→(pl o).b≠(pl o').b
theorem dM (t:Nat) (obj:FObj) (ol:List (Nat×FObj)) (o:Nat):aF ((t,obj)::ol) o=if o=t then some obj else aF ol o:=by
 simp only [aF]
 by_cases h:o=t
 ·subst h;simp [Nat.beq_refl]
 ·simp [cF h,h]
section
variable {P:Program} {Γ:Ctx} {w:World} {A:Nat→Prop}
theorem InitI.consV {own:List Nat} {j:Nat} {tl:List (Nat×FV)} {ol:List (Nat×FObj)} {vs:List Value} {pl:Nat→Pl} (h:InitI P w A own (j+1) tl ol vs pl) {fv:FV} {v:Value} (hv:VRep w A (aF ol) pl fv v):
  InitI P w A own j ((j,fv)::tl) ol (v::vs) pl:=by
 refine ⟨fun t f hm=>?_,fun o obj ho=>⟨by have:=(h.objs o obj ho).1;omega,(h.objs o obj ho).2⟩,h.sep⟩
 rcases List.mem_cons.1 hm with e | hm
 ·cases e;exact ⟨Nat.le_refl _,v,by simp,hv⟩
 ·obtain ⟨h1,v',h2,h3⟩:=h.vals t f hm
  refine ⟨by omega,v',?_,h3⟩
  rw [show t - j=(t - (j+1))+1 by omega];simpa using h2
theorem InitI.consO {o1 o2:List Nat} {j:Nat} {tl:List (Nat×FV)} {ol:List (Nat×FObj)} {vs:List Value} {pl:Nat→Pl} (h:InitI P w A o2 (j+1) tl ol vs pl) {fv:FV} {v:Value} (obj:FObj) (p:Pl) (hnd:(o1++o2).Nodup)
  (hv:VRep w A (aF ((j,obj)::ol)) (upd pl j p) fv v) (hobj:ObjAt P w A p obj) (hocc:occ p obj→p.b∈o1):InitI P w A (o1++o2) j ((j,fv)::tl) ((j,obj)::ol) (v::vs) (upd pl j p):=by
 have hO:∀o ob,aF ol o=some ob→aF ((j,obj)::ol) o=some ob∧upd pl j p o=pl o:=fun o ob ho=>by
  have hne:o≠j:=by have:=(h.objs o ob ho).1;omega
  exact ⟨by rw [dM,if_neg hne];exact ho,aG _ _ _ hne⟩
 refine ⟨fun t f hm=>?_,fun o ob ho=>?_,fun o o' ob ob' hne ho ho' hc hc'=>?_⟩
 ·rcases List.mem_cons.1 hm with e | hm
  ·cases e;exact ⟨Nat.le_refl _,v,by simp,hv⟩
  ·obtain ⟨h1,v',h2,h3⟩:=h.vals t f hm
   refine ⟨by omega,v',?_,h3.move (fun _ _ _ h=>h) (fun o ob ho=>⟨ob,(hO o ob ho).1,ob.like_refl,(hO o ob ho).2⟩)⟩
   rw [show t - j=(t - (j+1))+1 by omega];simpa using h2
 ·rw [dM] at ho
  split at ho
  ·rename_i e
   subst e
   cases ho
   rw [aC]
   exact ⟨Nat.le_refl _,hobj,fun hc=>List.mem_append.2 (.inl (hocc hc))⟩
  ·rename_i hne
   rw [aG _ _ _ hne]
   obtain ⟨h1,h2,h3⟩:=h.objs o ob ho
   exact ⟨by omega,h2,fun hc=>List.mem_append.2 (.inr (h3 hc))⟩
 ·have hd:=(List.nodup_append.1 hnd).2.2
  rw [dM] at ho ho'
  split at ho <;> split at ho'
  ·simp_all
  ·rename_i e e'
   subst e
   cases ho
   rw [aC] at hc ⊢
   rw [aG _ _ _ e'] at hc' ⊢
   exact hd _ (hocc hc) _ ((h.objs o' ob' ho').2.2 hc')
  ·rename_i e e'
   subst e'
   cases ho'
   rw [aC] at hc' ⊢
   rw [aG _ _ _ e] at hc ⊢
   exact (hd _ (hocc hc') _ ((h.objs o ob ho).2.2 hc)).symm
  ·rename_i e e'
   rw [aG _ _ _ e] at hc ⊢
   rw [aG _ _ _ e'] at hc' ⊢
   exact h.sep o o' ob ob' hne ho ho' hc hc'
theorem InitI.own {o1 o2:List Nat} {j:Nat} {tl:List (Nat×FV)} {ol:List (Nat×FObj)} {vs:List Value} {pl:Nat→Pl} (h:InitI P w A o2 j tl ol vs pl) (hs:∀b∈o2,b∈o1):InitI P w A o1 j tl ol vs pl:=
 ⟨h.vals,fun o obj ho=>⟨(h.objs o obj ho).1,(h.objs o obj ho).2.1,fun hc=>hs _ ((h.objs o obj ho).2.2 hc)⟩,h.sep⟩
theorem lL (hT:TabOk P Γ):∀(ks:List AK) (j:Nat) (d:DenA ks) (vs:List Value) (own:List Nat),cI Γ ks=true→own.Nodup→ArgsRep w A ks d vs own→∃pl,InitI P w A own j (fG j ks d) (gD j ks d) vs pl
 | [],j,d,vs,own,_,_,h=>by
  obtain ⟨rfl,rfl⟩:=h
  exact ⟨fun _=>⟨0,0,0⟩,fun t fv hm=>by simp [fG] at hm,fun o obj ho=>by simp [gD,aF] at ho,fun o o' obj obj' _ ho=>by simp [gD,aF] at ho⟩
 | .dat k::ks,j,d,vs,own,hk,hnd,h=>by
  obtain ⟨v,vs',o1,o2,rfl,rfl,h1,h2⟩:=h
  obtain ⟨rfl,cs,hc,hv⟩:=h1
  obtain ⟨pl,hi⟩:=lL hT ks (j+1) d.2 vs' o2 (by simpa [cI] using hk) (List.nodup_append.1 hnd).2.1 h2
  exact ⟨pl,hi.consV (.inl ⟨cs,hc,hv⟩)⟩
 | .ro k e::ks,j,d,vs,own,hk,hnd,h=>by
  obtain ⟨v,vs',o1,o2,rfl,rfl,h1,h2⟩:=h
  simp only [cI,Bool.and_eq_true] at hk
  have hTy:=hT.kt e k (sG hk.1)
  obtain ⟨rfl,ad,cap,rfl,hle,hx⟩:=h1
  obtain ⟨pl,hi⟩:=lL hT ks (j+1) d.2 vs' o2 hk.2 (List.nodup_append.1 hnd).2.1 h2
  by_cases hx0:d.1=[]
  ·refine ⟨_,hi.consO (o1:=[]) (.row k e false d.1) ⟨0,0,d.1.length⟩ hnd (VRep.mkSl (by rw [dM,if_pos rfl]) (off:=0) (len:=d.1.length) ⟨rfl,rfl⟩ rfl hle (fun hh=>by cases hh) (fun hh=>?_) (fun hn=>by cases hn)) ⟨hTy,Nat.le_refl _,fun hh=>(by cases hh),fun _ hne=>absurd hx0 hne,by rw [hx0];exact RowAt.nil _ _ _ _ _⟩ (fun hc=>by cases hc.1)⟩
   rcases hh with hh | hh
   ·rw [hx0] at hh;simp at hh
   ·cases hh.1
  ·obtain ⟨b,off,rfl,hb,hrow⟩:=hx hx0
   exact ⟨_,hi.consO (o1:=[]) (.row k e false d.1) ⟨b,off,d.1.length⟩ hnd (VRep.mkSl (by rw [dM,if_pos rfl]) (off:=0) (len:=d.1.length) ⟨rfl,rfl⟩ rfl hle (fun hh=>by cases hh) (fun hh=>by rw [aC];simp) (fun hn=>by cases hn)) ⟨hTy,Nat.le_refl _,fun hh=>(by cases hh),fun _ _=>hb,hrow⟩ (fun hc=>by cases hc.1)⟩
 | .rw k e::ks,j,d,vs,own,hk,hnd,h=>by
  obtain ⟨v,vs',o1,o2,rfl,rfl,h1,h2⟩:=h
  simp only [cI,Bool.and_eq_true] at hk
  have hTy:=hT.kt e k (sG hk.1)
  obtain ⟨ad,p,cap,rfl,hle,hpc,had,hc1,hc2⟩:=h1.obj_rw
  obtain ⟨pl,hi⟩:=lL hT ks (j+1) d.2 vs' o2 hk.2 (List.nodup_append.1 hnd).2.1 h2
  refine ⟨_,hi.consO (o1:=o1) (.row k e true d.1) p hnd (VRep.mkSl (by rw [dM,if_pos rfl]) (off:=0) (len:=d.1.length) ⟨rfl,rfl⟩ rfl hle (fun _=>by rw [aC];omega) (fun hh=>by rw [aC,had (by omega)];simp) (fun hn=>by cases hn)) ⟨hTy,by omega,fun _ hcp=>(hc1 (by omega)).2.2,fun hh=>(by cases hh),?_⟩ (fun hc=>by rw [(hc1 (by have:=hc.2;omega)).1];simp)⟩
  by_cases hcp:0 < cap
  ·exact (hc1 hcp).2.1
  ·rw [(hc2 hcp).2];exact RowAt.nil _ _ _ _ _
 | .pro k e::ks,j,d,vs,own,hk,hnd,h=>by
  obtain ⟨v,vs',o1,o2,rfl,rfl,h1,h2⟩:=h
  simp only [cI,Bool.and_eq_true] at hk
  have hTy:=hT.kt e k (sG hk.1)
  obtain ⟨rfl,b,off,rfl,hb,hrow⟩:=h1
  obtain ⟨pl,hi⟩:=lL hT ks (j+1) d.2 vs' o2 hk.2 (List.nodup_append.1 hnd).2.1 h2
  exact ⟨_,hi.consO (o1:=[]) (.row k e false [d.1]) ⟨b,off,1⟩ hnd (VRep.mkPtr (by rw [dM,if_pos rfl]) (Int.le_refl _) (by simp) (by rw [aC];simp)) ⟨hTy,Nat.le_refl _,fun hh=>(by cases hh),fun _ _=>hb,hrow⟩ (fun hc=>by cases hc.1)⟩
 | .cel k e::ks,j,d,vs,own,hk,hnd,h=>by simp [cI] at hk
 | .io k e::ks,j,d,vs,own,hk,hnd,h=>by simp [cI] at hk
 | .mp a b::ks,j,d,vs,own,hk,hnd,h=>by simp [cI] at hk
theorem xD:∀(ks:List AK) (j:Nat) (d:DenA ks) (t:Nat) (fv:FV),(t,fv)∈fG j ks d→t < j+ks.length
 | [],j,d,t,fv,h=>by simp [fG] at h
 | k::ks,j,d,t,fv,h=>by
  have key:∀g:FV,(t,fv)∈(j,g)::fG (j+1) ks d.2→t < j+(k::ks).length:=fun g h=>by
   rcases List.mem_cons.1 h with h | h
   ·have:t=j:=(Prod.mk.inj h).1
    simp only [List.length_cons];omega
   ·have:=xD ks (j+1) d.2 t fv h
    simp only [List.length_cons];omega
  cases k <;> exact key _ h
end
section
variable {E:Env} {pl:Nat→Pl} {Γ:Ctx} {w w':World} {a:Act} {s:FState} {β:Type} {r:β}
theorem cQ (hT:TabOk E.P Γ) (h:RelP E pl w a s):∀(rs:List RK) (ts:List FV) (vs:List Value) {f:DenR rs→Option β},AC w (Av E s.objs pl) s.objs pl ts vs→dV s rs ts f=some r→eB Γ rs=true→bS (bO ts)=true→
  ∃(x:DenR rs) (own:List Nat),f x=some r∧own.Nodup∧(∀b∈own,∃o∈bO ts,∃obj,s.objs o=some obj∧occ (pl o) obj∧(pl o).b=b)∧
   ∀A:Nat→Prop,(∀b,A b→Av E s.objs pl b)→(∀o∈bO ts,∀b,A b→b=(pl o).b→b∈own∨¬∃obj,s.objs o=some obj∧occ (pl o) obj)→RessRep E.P w A rs x vs own
 | [],[],[],f,_,hk,_,_=>⟨(),[],hk,List.nodup_nil,fun b hb=>by simp at hb,fun A hA _=>⟨rfl,rfl⟩⟩
 | [],t::ts,_,f,_,hk,_,_=>by simp [dV] at hk
 | [],[],v::vs,f,hv,hk,_,_=>hv.elim
 | .dat k::rs,[],_,f,_,hk,_,_=>by simp [dV] at hk
 | .nsl::rs,[],_,f,_,hk,_,_=>by simp [dV] at hk
 | .rw k e::rs,[],_,f,_,hk,_,_=>by simp [dV] at hk
 | .ro k e::rs,[],_,f,_,hk,_,_=>by simp [dV] at hk
 | .ptr k e::rs,[],_,f,_,hk,_,_=>by simp [dV] at hk
 | .dat k::rs,t::ts,[],f,hv,_,_,_=>hv.elim
 | .dat k::rs,t::ts,v0::vs,f,hvs,hk,hr,hn=>by
  obtain ⟨hv,hvs⟩:=hvs
  unfold dV at hk
  obtain ⟨x,hx,hk⟩:=bE hk
  have hids:bO (t::ts)=bO ts:=by simp [bO,hx]
  rw [hids] at hn ⊢
  obtain ⟨xs,own,h1,h2,h3,h4⟩:=cQ hT h rs ts vs hvs hk (by simpa [eB] using hr) hn
  rw [hx] at hv
  obtain ⟨cs,hc,hvv⟩:=hv.dat_inv
  exact ⟨(x,xs),own,h1,h2,h3,fun A hA hB=>⟨_,_,[],own,rfl,rfl,⟨rfl,cs,hc.mono hA,hvv⟩,h4 A hA hB⟩⟩
 | .nsl::rs,t::ts,[],f,hv,_,_,_=>hv.elim
 | .nsl::rs,t::ts,v0::vs,f,hvs,hk,hr,hn=>by
  obtain ⟨hv,hvs⟩:=hvs
  unfold dV at hk
  split at hk
  ·have hids:bO (FV.nsl::ts)=bO ts:=rfl
   rw [hids] at hn ⊢
   obtain ⟨xs,own,h1,h2,h3,h4⟩:=cQ hT h rs ts vs hvs hk (by simpa [eB] using hr) hn
   have hve:v0= .slice none 0 0:=by
    rcases hv with hv | ⟨l,_,hl⟩
    ·exact hv
    ·exact hl.elim
   exact ⟨((),xs),own,h1,h2,h3,fun A hA hB=>⟨_,_,[],own,rfl,rfl,⟨rfl,hve⟩,h4 A hA hB⟩⟩
  ·cases hk
 | .rw k e::rs,t::ts,[],f,hv,_,_,_=>hv.elim
 | .rw k e::rs,t::ts,v0::vs,f,hvs,hk,hr,hn=>by
  obtain ⟨hv,hvs⟩:=hvs
  simp only [eB,Bool.and_eq_true] at hr
  have hTy:=hT.kt e k (sG hr.1)
  unfold dV at hk
  split at hk
  ·have hids:bO (FV.nsl::ts)=bO ts:=rfl
   rw [hids] at hn ⊢
   obtain ⟨xs,own,h1,h2,h3,h4⟩:=cQ hT h rs ts vs hvs hk hr.2 hn
   have hve:v0= .slice none 0 0:=by
    rcases hv with hv | ⟨l,_,hl⟩
    ·exact hv
    ·exact hl.elim
   exact ⟨([],xs),own,h1,h2,h3,fun A hA hB=>⟨_,_,[],own,rfl,rfl,⟨hTy,none,0,hve,Nat.le_refl _,.inl ⟨rfl,rfl⟩⟩,h4 A hA hB⟩⟩
  ·obtain ⟨o,wn,nn,k',e',rw_,ys,hx,ho,hk⟩:=aX hk
   have hh:=aI hk
   clear hk
   obtain ⟨⟨he,hrw⟩,hk⟩:=hh
   subst hrw
   have hh:=aP hk
   clear hk
   obtain ⟨he',hk⟩:=hh
   subst he'
   have hids:bO (t::ts)=o::bO ts:=by simp [bO,hx]
   rw [hids] at hn ⊢
   simp only [bS,Bool.and_eq_true] at hn
   obtain ⟨xs,own,h1,h2,h3,h4⟩:=cQ hT h rs ts vs hvs hk hr.2 hn.2
   rw [hx] at hv
   obtain ⟨k1,e1,rw1,xs1,ho1,ad,cap,off,len,hw,hxe,hl,hc1,hc2,_⟩:=hv.sl_inv
   rw [ho] at ho1
   cases ho1
   obtain ⟨_,hxl,hmem,hro,hrow⟩:=h.objs o _ ho
   obtain ⟨hrw',hwl⟩:=hrow.winC hw
   have hpc:=hc1 rfl
   by_cases hcap:0 < cap
   ·have hocc:occ (pl o) (.row k' e' true ys):=⟨rfl,by omega⟩
    obtain ⟨row,tt,hrm,hsz⟩:=hmem rfl (by omega)
    have hnot:(pl o).b∉own:=fun hb=>by
     obtain ⟨o',g1,obj,g2,g3,g4⟩:=h3 _ hb
     by_cases e:o'=o
     ·subst e
      rw [aZ g1] at hn
      simp at hn
     ·exact h.sep o' o obj _ e g2 ho g3 hocc g4
    refine ⟨(win ys wn,xs),(pl o).b::own,h1,List.nodup_cons.2 ⟨hnot,h2⟩,fun b hb=>?_,fun A hA hB=>⟨_,_,[(pl o).b],own,rfl,rfl,⟨hTy,ad,cap,by rw [hwl];exact hxe,by rw [hwl];exact hl,.inr ⟨(pl o).b,(pl o).off+off * k'.size,row,tt,hcap,rfl,hc2 (.inr ⟨rfl,hcap⟩),hrw'.mono hA,hrm,?_⟩⟩,h4 A hA (fun o' ho' b hb e=>?_)⟩⟩
    ·rcases List.mem_cons.1 hb with rfl | hb
     ·exact ⟨o,by simp,_,ho,hocc,rfl⟩
     ·obtain ⟨o',g1,g2⟩:=h3 b hb
      exact ⟨o',by simp [g1],g2⟩
    ·have:off * k'.size+cap * k'.size=(pl o).cap * k'.size:=by rw [←Nat.add_mul,hpc]
     omega
    ·rcases hB o' (by simp [ho']) b hb e with h5 | h5
     ·rcases List.mem_cons.1 h5 with h5 | h5
      ·right
       rintro ⟨obj,g2,g3⟩
       have hne:o'≠o:=fun e=>by subst e;rw [aZ ho'] at hn;simp at hn
       exact h.sep o' o obj _ hne g2 ho g3 hocc (e.symm.trans h5)
      ·exact .inl h5
     ·exact .inr h5
   ·refine ⟨(win ys wn,xs),own,h1,h2,fun b hb=>?_,fun A hA hB=>⟨_,_,[],own,rfl,rfl,⟨hTy,ad,cap,by rw [hwl];exact hxe,by rw [hwl];exact hl,.inl ⟨by omega,rfl⟩⟩,h4 A hA (fun o' ho' b hb e=>hB o' (by simp [ho']) b hb e)⟩⟩
    obtain ⟨o',g1,g2⟩:=h3 b hb
    exact ⟨o',by simp [g1],g2⟩
 | .ro k e::rs,t::ts,[],f,hv,_,_,_=>hv.elim
 | .ro k e::rs,t::ts,v0::vs,f,hvs,hk,hr,hn=>by
  obtain ⟨hv,hvs⟩:=hvs
  simp only [eB,Bool.and_eq_true] at hr
  have hTy:=hT.kt e k (sG hr.1)
  unfold dV at hk
  split at hk
  ·have hids:bO (FV.nsl::ts)=bO ts:=rfl
   rw [hids] at hn ⊢
   obtain ⟨xs,own,h1,h2,h3,h4⟩:=cQ hT h rs ts vs hvs hk hr.2 hn
   have hve:v0= .slice none 0 0:=by
    rcases hv with hv | ⟨l,_,hl⟩
    ·exact hv
    ·exact hl.elim
   exact ⟨([],xs),own,h1,h2,h3,fun A hA hB=>⟨_,_,[],own,rfl,rfl,⟨hTy,rfl,none,0,hve,Nat.le_refl _,fun hne=>absurd rfl hne⟩,h4 A hA hB⟩⟩
  ·rename_i e1 k1 zs
   obtain ⟨he,hk⟩:=aI hk
   have hh:=aP hk
   clear hk
   obtain ⟨he',hk⟩:=hh
   subst he'
   subst he
   have hids:bO (FV.dat (.sl e1 k1) zs::ts)=bO ts:=rfl
   rw [hids] at hn ⊢
   obtain ⟨xs,own,h1,h2,h3,h4⟩:=cQ hT h rs ts vs hvs hk hr.2 hn
   obtain ⟨cs,hc,hvv⟩:=hv.dat_inv
   obtain ⟨ad,cap,hcs,hle,hrow⟩:=hc
   simp only [K.isPair,Bool.false_eq_true,if_false] at hvv
   rw [hvv] at hcs
   have hve:v0= .slice ad zs.length cap:=by simpa using hcs
   refine ⟨(zs,xs),own,h1,h2,h3,fun A hA hB=>⟨_,_,[],own,rfl,rfl,⟨hTy,rfl,ad,cap,hve,hle,fun hne=>?_⟩,h4 A hA hB⟩⟩
   obtain ⟨b,off,hab,hb,hr'⟩:=hrow.resolve_left hne
   refine ⟨b,off,hab,fun hAb=>hb (hA b hAb),fun i z hz=>?_⟩
   obtain ⟨ds,g1,g2⟩:=hr' i z hz
   exact ⟨ds,g1.mono hA,g2⟩
  ·obtain ⟨o,wn,nn,k',e',rw_,ys,hx,ho,hk⟩:=aX hk
   obtain ⟨he,hk⟩:=aI hk
   have hh:=aP hk
   clear hk
   obtain ⟨he',hk⟩:=hh
   subst he'
   have hids:bO (t::ts)=o::bO ts:=by simp [bO,hx]
   rw [hids] at hn ⊢
   simp only [bS,Bool.and_eq_true] at hn
   obtain ⟨xs,own,h1,h2,h3,h4⟩:=cQ hT h rs ts vs hvs hk hr.2 hn.2
   rw [hx] at hv
   obtain ⟨k1,e1,rw1,xs1,ho1,ad,cap,off,len,hw,hxe,hl,hc1,hc2,_⟩:=hv.sl_inv
   rw [ho] at ho1
   cases ho1
   obtain ⟨_,hxl,hmem,hro,hrow⟩:=h.objs o _ ho
   obtain ⟨hrw',hwl⟩:=hrow.winC hw
   refine ⟨(win ys wn,xs),own,h1,h2,fun b hb=>?_,fun A hA hB=>⟨_,_,[],own,rfl,rfl,⟨hTy,rfl,ad,cap,by rw [hwl];exact hxe,by rw [hwl];exact hl,fun hne=>?_⟩,h4 A hA (fun o' ho' b hb e=>hB o' (by simp [ho']) b hb e)⟩⟩
   ·obtain ⟨o',g1,g2⟩:=h3 b hb
    exact ⟨o',by simp [g1],g2⟩
   ·have hlen:0 < len:=by have:=cD hne;rw [hwl] at this;exact this
    have hys:ys≠[]:=by
     have:=hw.bd.1
     exact fY (by omega)
    refine ⟨_,_,hc2 (.inl hlen),fun hAb=>?_,hrw'.mono hA⟩
    cases rw_ with
    | false=>exact hro rfl hys (hA _ hAb)
    | true=>
     have hocc:occ (pl o) (.row k' e' true ys):=⟨rfl,by have:=cD hys;omega⟩
     rcases hB o (by simp) _ hAb rfl with h5 | h5
     ·obtain ⟨o',g1,obj,g2,g3,g4⟩:=h3 _ h5
      by_cases e:o'=o
      ·subst e
       rw [aZ g1] at hn
       simp at hn
      ·exact h.sep o' o obj _ e g2 ho g3 hocc g4
     ·exact h5 ⟨_,ho,hocc⟩
 | .ptr k e::rs,t::ts,[],f,hv,_,_,_=>hv.elim
 | .ptr k e::rs,t::ts,v0::vs,f,hvs,hk,hr,hn=>by
  obtain ⟨hv,hvs⟩:=hvs
  simp only [eB,Bool.and_eq_true] at hr
  have hTy:=hT.kt e k (sG hr.1)
  unfold dV at hk
  split at hk
  ·rename_i o
   split at hk
   ·rename_i k' e' x ho
    obtain ⟨he,hk⟩:=aI hk
    have hh:=eK hk
    clear hk
    obtain ⟨he',hk⟩:=hh
    subst he'
    have hids:bO (FV.ptr o 0 0::ts)=o::bO ts:=rfl
    rw [hids] at hn ⊢
    simp only [bS,Bool.and_eq_true] at hn
    obtain ⟨xs,own,h1,h2,h3,h4⟩:=cQ hT h rs ts vs hvs hk hr.2 hn.2
    obtain ⟨k1,e1,rw1,xs1,ho1,hi0,hi1,hve⟩:=hv.ptr_inv
    rw [ho] at ho1
    cases ho1
    obtain ⟨_,hxl,hmem,hro,hrow⟩:=h.objs o _ ho
    have hocc:occ (pl o) (.row k' e' true [x]):=⟨rfl,by simp at hxl;omega⟩
    obtain ⟨row,tt,hrm,hsz⟩:=hmem rfl hocc.2
    have hnot:(pl o).b∉own:=fun hb=>by
     obtain ⟨o',g1,obj,g2,g3,g4⟩:=h3 _ hb
     by_cases e:o'=o
     ·subst e
      rw [aZ g1] at hn
      simp at hn
     ·exact h.sep o' o obj _ e g2 ho g3 hocc g4
    refine ⟨(x,xs),(pl o).b::own,h1,List.nodup_cons.2 ⟨hnot,h2⟩,fun b hb=>?_,fun A hA hB=>⟨_,_,[(pl o).b],own,rfl,rfl,⟨hTy,(pl o).b,(pl o).off,row,tt,rfl,by simpa using hve,hrow.mono hA,hrm,?_⟩,h4 A hA (fun o' ho' b hb e=>?_)⟩⟩
    ·rcases List.mem_cons.1 hb with rfl | hb
     ·exact ⟨o,by simp,_,ho,hocc,rfl⟩
     ·obtain ⟨o',g1,g2⟩:=h3 b hb
      exact ⟨o',by simp [g1],g2⟩
    ·have:=Nat.mul_le_mul_right k'.size (show 1≤(pl o).cap from hocc.2)
     omega
    ·rcases hB o' (by simp [ho']) b hb e with h5 | h5
     ·rcases List.mem_cons.1 h5 with h5 | h5
      ·right
       rintro ⟨obj,g2,g3⟩
       have hne:o'≠o:=fun e=>by subst e;rw [aZ ho'] at hn;simp at hn
       exact h.sep o' o obj _ hne g2 ho g3 hocc (e.symm.trans h5)
      ·exact .inl h5
     ·exact .inr h5
   ·cases hk
  ·cases hk
end
def CC (P:Program) (tmps:Array Value) (w:World):List (Nat×Option TypeId)→List Value→Prop
 | [],[]=>True
 | r::rs,v::vs=>(match r.2 with
  | none=>v=tmps.getD r.1 undef
  | some ty=>∃ad,tmps.getD r.1 undef= .pointer (some ad)∧(loadVar ty ad).run P w= .ok v w)∧CC P tmps w rs vs
 | _,_=>False
theorem yM (P:Program) {fn:Func} {ts:List (Nat×Option TypeId)} (h:fn.results=(ts.map rvV).toArray) (tmps:Array Value) (w:World) {vs:List Value} (hv:CC P tmps w ts vs):(results fn tmps).run P w= .ok (qY vs) w:=by
 have key:∀(f:ResultVar→Sem Value) (ts:List (Nat×Option TypeId)) (vs:List Value),(∀u,f (.tmp u)=pure (tmps.getD u undef))→(∀a t,f (.cell a t)=(do loadVar t (←asAddr (tmps.getD a undef))))→CC P tmps w ts vs→((ts.map rvV).mapM f).run P w= .ok vs w:=by
  intro f ts
  induction ts with
  | nil=>intro vs hf hc hv;cases vs with | nil=>simp | cons v vs=>exact hv.elim
  | cons r ts ih=>
   intro vs hf hc hv
   cases vs with
   | nil=>exact hv.elim
   | cons v vs=>
    obtain ⟨h1,h2⟩:=hv
    obtain ⟨u,o⟩:=r
    cases o with
    | none=>
     simp only at h1
     subst h1
     rw [List.map_cons,List.mapM_cons,Sem.run_bind]
     simp only [rvV,hf,Sem.run_pure,Result.andThen_ok,Sem.run_bind,ih _ hf hc h2]
    | some ty=>
     obtain ⟨ad,g1,g2⟩:=h1
     have hone:(f (rvV (u,some ty))).run P w= .ok v w:=by
      simp only at g1
      simp only [rvV,hc,g1,asAddr]
      simp [g2]
     rw [List.map_cons,List.mapM_cons,Sem.run_bind,hone]
     simp only [Result.andThen_ok,Sem.run_bind,ih _ hf hc h2,Sem.run_pure]
 unfold results
 rw [h,List.mapM_toArray]
 simp only [Sem.run_bind,Sem.run_map]
 rw [key _ ts vs (fun u=>rfl) (fun a t=>rfl) hv]
 cases vs with
 | nil=>simp [qY]
 | cons t ts=>
  cases ts with
  | nil=>simp [qY]
  | cons t' ts=>simp [qY]
section
variable {E:Env} {pl:Nat→Pl} {Γ:Ctx} {w:World} {a:Act} {s:FState}
theorem HM (hT:TabOk E.P Γ) (h:RelP E pl w a s):∀(ts:List (Nat×Option TypeId)),(∀r∈ts,∀ty,r.2=some ty→rvF Γ s r≠ .dead)→∃vs,CC E.P a.tmps w ts vs∧AC w (Av E s.objs pl) s.objs pl (ts.map (rvF Γ s)) vs
 | [],_=>⟨[],trivial,trivial⟩
 | (t,o)::ts,hd=>by
  obtain ⟨vs,h1,h2⟩:=HM hT h ts (fun r hr=>hd r (by simp [hr]))
  cases o with
  | none=>exact ⟨a.tmps.getD t undef::vs,⟨rfl,h1⟩,h.ev (.tmp t) _ rfl,h2⟩
  | some ty=>
   have hdd:=hd (t,some ty) (by simp) ty rfl
   unfold rvF at hdd
   simp only at hdd
   split at hdd
   ·rename_i o hx
    split at hdd
    ·rename_i k e rw_ x ho
     split at hdd
     ·rename_i hk
      have hv:=h.ev (.tmp t) _ hx
      obtain ⟨k1,e1,rw1,xs1,ho1,hi0,hi1,hve⟩:=hv.ptr_inv
      have hve:a.tmps.getD t undef=_:=hve
      rw [ho] at ho1
      cases ho1
      obtain ⟨_,_,_,_,hrow⟩:=h.objs o _ ho
      obtain ⟨ds,hds,hcell⟩:=hrow 0 x rfl
      have hlen:=hds.len
      obtain ⟨v,hvv⟩:∃v,if k.isPair then v=Value.agg ds.toArray else ds=[v]:=by
       by_cases hp:k.isPair=true
       ·exact ⟨_,by rw [if_pos hp]⟩
       ·have h1:k.size=1:=by cases k <;> first | rfl | simp [K.isPair] at hp
        rw [h1] at hlen
        obtain ⟨v,hv⟩:=List.length_eq_one_iff.1 hlen
        exact ⟨v,by rw [if_neg hp];exact hv⟩
      have hrange:w.rangeAt (pl o).b (pl o).off ds:=fun j u hu=>by
       have hj:=(List.getElem?_eq_some_iff.1 hu).1
       have:=hcell j (by omega)
       rw [←hu,←this]
       congr 2
       omega
      have hload:=eA (hT.kt ty k hk) hrange hlen hvv
      refine ⟨v::vs,⟨⟨⟨(pl o).b,(pl o).off,none⟩,by rw [hve];simp,hload⟩,h1⟩,?_,h2⟩
      simp only [rvF,hx,ho,hk,if_true]
      exact .ofCells hds hvv
     ·exact absurd rfl hdd
    ·exact absurd rfl hdd
   ·exact absurd rfl hdd
end
theorem dD {s:FState} {β:Type} {r:β}:∀(rs:List RK) (ts:List FV) {f:DenR rs→Option β},dV s rs ts f=some r→∀t∈ts,t≠ .dead
 | [],[],f,_,t,ht=>by simp at ht
 | [],t0::ts,f,hk,t,ht=>by simp [dV] at hk
 | .dat k::rs,[],f,hk,t,ht=>by simp at ht
 | .nsl::rs,[],f,hk,t,ht=>by simp at ht
 | .rw k e::rs,[],f,hk,t,ht=>by simp at ht
 | .ro k e::rs,[],f,hk,t,ht=>by simp at ht
 | .ptr k e::rs,[],f,hk,t,ht=>by simp at ht
 | .dat k::rs,t0::ts,f,hk,t,ht=>by
  unfold dV at hk
  obtain ⟨x,rfl,hh⟩:=bE hk
  rcases List.mem_cons.1 ht with rfl | ht
  ·simp
  ·exact dD rs ts hh t ht
 | .nsl::rs,t0::ts,f,hk,t,ht=>by
  unfold dV at hk
  split at hk
  ·rcases List.mem_cons.1 ht with rfl | ht
   ·simp
   ·exact dD rs ts hk t ht
  ·cases hk
 | .rw k e::rs,t0::ts,f,hk,t,ht=>by
  unfold dV at hk
  split at hk
  ·rcases List.mem_cons.1 ht with rfl | ht
   ·simp
   ·exact dD rs ts hk t ht
  ·obtain ⟨o,wn,nn,k',e',rw_,ys,rfl,ho,h1⟩:=aX hk
   obtain ⟨he,h2⟩:=aI h1
   obtain ⟨he',h3⟩:=aP h2
   clear hk
   have hk:=h3
   rcases List.mem_cons.1 ht with rfl | ht
   ·simp
   ·exact dD rs ts hk t ht
 | .ro k e::rs,t0::ts,f,hk,t,ht=>by
  unfold dV at hk
  split at hk
  ·rcases List.mem_cons.1 ht with rfl | ht
   ·simp
   ·exact dD rs ts hk t ht
  ·obtain ⟨he,hk⟩:=aI hk
   obtain ⟨he',hk⟩:=aP hk
   rcases List.mem_cons.1 ht with rfl | ht
   ·simp
   ·exact dD rs ts hk t ht
  ·obtain ⟨o,wn,nn,k',e',rw_,ys,rfl,ho,h1⟩:=aX hk
   obtain ⟨he,h2⟩:=aI h1
   obtain ⟨he',h3⟩:=aP h2
   clear hk
   have hk:=h3
   rcases List.mem_cons.1 ht with rfl | ht
   ·simp
   ·exact dD rs ts hk t ht
 | .ptr k e::rs,t0::ts,f,hk,t,ht=>by
  unfold dV at hk
  split at hk
  ·split at hk
   ·obtain ⟨he,hk⟩:=aI hk
    obtain ⟨he',hk⟩:=eK hk
    rcases List.mem_cons.1 ht with rfl | ht
    ·simp
    ·exact dD rs ts hk t ht
   ·cases hk
  ·cases hk
theorem HW:∀(ks:List AK) (d:DenA ks) (vs:List Value) (own:List Nat) {w:World} (A:Nat→Prop),ArgsRep w A ks d vs own→vs.length=ks.length:=by
 intro ks
 induction ks with
 | nil=>intro d vs own w A h;rw [h.1];rfl
 | cons k ks ih=>intro d vs own w A h;obtain ⟨v,vs',o1,o2,rfl,_,_,h4⟩:=h;simp [ih _ _ _ _ h4]
theorem JA {P:Program} {Γ:Ctx} {args:List AK} {N:Nat} (hT:TabOk P Γ) (h6:N≤1000000) (hnt:args.length≤N) (ha:cI Γ args=true) {w:World} {Z:Nat→Prop} {vs:List Value} {own:List Nat} {d:DenA args} (hGk:GOk P w (·∈own)) (hZ:∀b,Z b→b < w.heap.size) (hnd:own.Nodup) (hown:∀b∈own,b < w.heap.size∧¬Z b)
  (hargs:ArgsRep w (fun b=>Z b∨b∈own) args d vs own):Rel ⟨P,w,(·∈own),Z,N,[],h6,[],hGk⟩ w {tmps:=vs.toArray++Array.replicate (N - vs.toArray.size) undef,defers:=[]} (DL args d):=by
 have hvl:=HW _ _ _ _ _ hargs
 obtain ⟨pl,hi⟩:=lL hT args 0 d vs own ha hnd hargs
 let E:Env:=⟨P,w,(·∈own),Z,N,[],h6,[],hGk⟩
 have hOwn:∀b,Own (aF (gD 0 args d)) pl b→b∈own:=fun b ⟨o,obj,ho,hc,hb⟩=>hb ▸ (hi.objs o obj ho).2.2 hc
 have hAv:∀b,Av E (aF (gD 0 args d)) pl b→Z b∨b∈own:=fun b hb=>hb.imp id (hOwn b)
 have hst:∀(A':Nat→Prop),(∀b,A' b→Z b∨b∈own)→Stay w (fun b=>Z b∨b∈own) w A':=fun A' hA b _ hn=>⟨fun h=>hn (hA b h),rfl⟩
 refine ⟨pl,fun t=>?_,fun o obj ho=>((hi.objs o obj ho).2.1).stay (hst _ hAv) (fun _=>rfl),hi.sep,fun b hb=>⟨(hown b (hOwn b hb)).1,.inl (hOwn b hb),(hown b (hOwn b hb)).2⟩,⟨rfl,rfl,rfl,Nat.le_refl _,fun _ _ _=>rfl⟩,⟨rfl,fun p hp=>by cases hp⟩,?_,hZ⟩
 ·rcases mE (fG 0 args d) t with h | h
  ·show VRep _ _ _ _ (aQ (fG 0 args d) t) _
   rw [h];exact VRep.dead _
  ·obtain ⟨_,v,h2,h3⟩:=hi.vals t _ h
   have hlt:=xD _ _ _ _ _ h
   rw [cP (by omega)]
   have:(vs.toArray++Array.replicate (N - vs.toArray.size) undef).getD t undef=v:=by
    rw [Array.getD_eq_getD_getElem?,Array.getElem?_append_left (by simp;omega)]
    simp at h2 ⊢
    rw [h2];rfl
   rw [this]
   exact h3.move (fun k x cs hc=>hc.stay (hst _ hAv)) (fun o obj ho=>⟨obj,ho,obj.like_refl,rfl⟩)
 ·show (vs.toArray++Array.replicate (N - vs.toArray.size) undef).size=N
  simp;omega
theorem LG {E:Env} {Γ:Ctx} {fn:Func} {rets:List RK} {ts:List (Nat×Option TypeId)} {own:List Nat} (hT:TabOk E.P Γ) (hr:eB Γ rets=true) (hres:fn.results=(ts.map rvV).toArray) (hown:E.own=(·∈own)) {x:DenR rets} {a':Act} {w':World} (hg:Goes E (fin Γ rets ts) x a' w'):
  a'.defers=E.dfs∧∃v,(results fn a'.tmps).run E.P w'= .ok v w'∧(∃us own',Ending.returned v= .returned (qY us)∧RessRep E.P w' (fun b=>E.Z b∨b∈own') rets x us own'∧own'.Nodup∧(∀b∈own',(b∈own∨E.w0.heap.size≤b)∧b < w'.heap.size)∧Fr E.w0 (·∈own) w'):=by
 obtain ⟨s',⟨pl',h'⟩,hk⟩:=hg
 unfold fin at hk
 obtain ⟨hnd',hk⟩:=aL hk
 obtain ⟨vs',hres',hall⟩:=HM (E:=E) hT h' ts (fun q hq ty _=>dD _ _ hk _ (List.mem_map.2 ⟨q,hq,rfl⟩))
 obtain ⟨y,own',h1,h2,h3,h4⟩:=cQ (E:=E) hT h' rets _ _ hall hk hr hnd'
 cases h1
 have hOwn':∀b∈own',Own s'.objs pl' b:=fun b hb=>by obtain ⟨o,_,obj,g1,g2,g3⟩:=h3 b hb;exact ⟨o,obj,g1,g2,g3⟩
 have hfr:=h'.frame
 rw [hown] at hfr
 refine ⟨h'.dfr.1,_,yM E.P hres a'.tmps w' hres',_,own',rfl,h4 _ (fun b hb=>hb.imp id (hOwn' b)) (fun o ho b hb e=>?_),h2,fun b hb=>⟨?_,(h'.fresh b (hOwn' b hb)).1⟩,hfr⟩
 ·rcases hb with hb | hb
  ·right
   rintro ⟨obj,g1,g2⟩
   exact (h'.fresh _ ⟨o,obj,g1,g2,rfl⟩).2.2 (e ▸ hb)
  ·exact .inl hb
 ·have:=(h'.fresh b (hOwn' b hb)).2.1
  rw [hown] at this
  exact this
theorem fH {Γ:Ctx}:∀{ks:List AK},cI Γ ks=true→ks.any AK.isB=false
 | [],_=>rfl
 | .dat _::ks,h=>by simpa [AK.isB] using fH (ks:=ks) (by simpa [cI] using h)
 | .ro _ _::ks,h=>by simp only [cI,Bool.and_eq_true] at h;simpa [AK.isB] using fH h.2
 | .rw _ _::ks,h=>by simp only [cI,Bool.and_eq_true] at h;simpa [AK.isB] using fH h.2
 | .pro _ _::ks,h=>by simp only [cI,Bool.and_eq_true] at h;simpa [AK.isB] using fH h.2
 | .cel _ _::ks,h | .io _ _::ks,h | .mp _ _::ks,h=>by simp [cI] at h
theorem nK:∀{ks:List AK} (vs:List Value),ks.any AK.isB=false→eI ks vs=[]
 | [],vs,_=>by cases vs <;> rfl
 | k::ks,[],h=>by cases k <;> rfl
 | k::ks,v::vs,h=>by
  simp only [List.any_cons,Bool.or_eq_false_iff] at h
  have ih:=nK (ks:=ks) vs h.2
  cases k <;> first
   | (simp [AK.isB] at h;done)
   | (simp [eI,ih])
theorem SJ {P:Program} {S:bJ} {w:World} {Z:Nat→Prop} {own:List Nat} {vs:List Value} {x:DenR S.rets×DenR S.backs} (hbs:S.backs=[]) (hnb:S.args.any AK.isB=false):∀(e:Ending) (w':World),(∃us own',e= .returned (qY us)∧RessRep P w' (fun b=>Z b∨b∈own') S.rets x.1 us own'∧own'.Nodup∧(∀b∈own',(b∈own∨w.heap.size≤b)∧b < w'.heap.size)∧Fr w (·∈own) w')→
  ∃us o1 o2,e= .returned (qY us)∧RessRep P w' (fun b=>Z b∨b∈o1++o2) S.rets x.1 us o1∧RessRep P w' (fun b=>Z b∨b∈o1++o2) S.backs x.2 (eI S.args vs) o2∧(o1++o2).Nodup∧(∀b∈o1++o2,(b∈own∨w.heap.size≤b)∧b < w'.heap.size)∧Fr w (·∈own) w':=by
 rintro e w' ⟨us,own',h1,h2,h3,h4,h5⟩
 refine ⟨us,own',[],h1,by rw [List.append_nil];exact h2,?_,by rw [List.append_nil];exact h3,by rw [List.append_nil];exact h4,h5⟩
 rw [nK vs hnb]
 have key:∀(rs:List RK) (y:DenR rs),rs=[]→RessRep P w' (fun b=>Z b∨b∈own'++[]) rs y [] []:=fun rs y h=>by subst h;exact ⟨rfl,rfl⟩
 exact key _ _ hbs
theorem wP {P:Program} {f:FuncId} {fn:Func} {c:Code} {S:bJ} {Γ:Ctx} {n:Nat} {sk:Sk} {ts:List (Nat×Option TypeId)} (hf:P.funcs[f]? =some fn) (hb:fn.body=some c) (hcall:bC P f) (hΓ:CtxOk P Γ) (hN:jL Γ) (hm:P.follows .mixedOrders=true)
  (hnat:∀{β:Type} (d:DenA S.args) (κ:DenR S.rets×DenR S.backs→Option β) (r:β),S.app d κ=some r→∃x,S.app d some=some x∧κ x=some r)
  (hbs:S.backs=[]) (hres:fn.results=(ts.map rvV).toArray) (hB:iJ fn.ntmps [] c=true) (h6:fn.ntmps≤1000000) (hnt:S.args.length≤fn.ntmps) (ha:cI Γ S.args=true) (hr:eB Γ S.rets=true)
  (hX:∀(d:DenA S.args) (x:DenR S.rets×DenR S.backs),S.app d some=some x→FX Γ n c sk (DL S.args d) (eC Γ S.rets ts)=some x.1):xZ P f S:=by
 have hnb:=fH ha
 refine ⟨hcall,hbs.trans (kD _ hnb).symm,hnat,fun w Z vs own d x hGk hZ hnd hown hargs hx=>?_⟩
 have hwp:=OF (E:=⟨P,w,(·∈own),Z,fn.ntmps,[],h6,[],hGk⟩) hΓ hN hm n c sk (DL S.args d) (eC Γ S.rets ts) _ w hB (JA hΓ.tab h6 hnt ha hGk hZ hnd hown hargs) (hX d x hx)
 refine Calls.mono (calls_of_wp (R:=fun e w'=>∃us own',e= .returned (qY us)∧RessRep P w' (fun b=>Z b∨b∈own') S.rets x.1 us own'∧own'.Nodup∧(∀b∈own',(b∈own∨w.heap.size≤b)∧b < w'.heap.size)∧Fr w (·∈own) w') hf hb (wp_mono hwp ?_)) (SJ hbs hnb)
 intro e a' w' hq
 cases e with
 | normal=>exact LG (own:=own) hΓ.tab hr hres rfl hq
 | ret=>exact LG (own:=own) hΓ.tab hr hres rfl hq
 | exit id=>obtain ⟨s',_,hk⟩:=hq;cases hk
 | _=>exact hq.elim
def ZB (P:Program) (g:FuncId) (n:Nat):Prop:=∀(vs:Array Value) (w:World),vs.size=n→CallsD P g vs .returning w fun e u' w'=>e= .returned (.tuple #[])∧u'= .returning∧w'=w
end Go.Proofs.YtoafkjeamgelgaaDoorHF

namespace Go.Proofs.YtoafkjeamgelgaaDoorHF
open Go
set_option linter.unusedVariables false
set_option linter.unusedSimpArgs false
def toB:(ks:List AK)→DenA ks→DenR (aS ks)
 | [],_=>()
 | .dat _::ks,x=>toB ks x.2
 | .ro _ _::ks,x=>toB ks x.2
 | .rw _ _::ks,x=>toB ks x.2
 | .pro _ _::ks,x=>toB ks x.2
 | .cel _ _::ks,x=>(x.1,toB ks x.2)
 | .io _ _::ks,x=>(x.1,toB ks x.2)
 | .mp _ _::ks,x=>(x.1,toB ks x.2)
def EA:List AK→Nat→List Nat
 | [],_=>[]
 | .cel _ _::ks,j=>j::EA ks (j+1)
 | .io _ _::ks,j=>j::EA ks (j+1)
 | .mp _ _::ks,j=>j::EA ks (j+1)
 | _::ks,j=>EA ks (j+1)
def EF:List AK→Nat→List FV
 | [],_=>[]
 | .cel _ _::ks,j=> .cp j 0::EF ks (j+1)
 | .io _ _::ks,j=> .sl j none false::EF ks (j+1)
 | .mp _ _::ks,j=> .mp j::EF ks (j+1)
 | _::ks,j=> .dead::EF ks (j+1)
def DN:List AK→Nat→FState→FState
 | [],_,s=>s
 | .cel _ _::ks,j,s=>DN ks (j+1) (s.set j (.cp j 0))
 | .io _ _::ks,j,s=>DN ks (j+1) (s.set j (.sl j none false))
 | .mp _ _::ks,j,s=>DN ks (j+1) (s.set j (.mp j))
 | _::ks,j,s=>DN ks (j+1) s
def AJ (Γ:Ctx):K→Bool
 | .pair a b=>AJ Γ a&&AJ Γ b
 | .sl e k=>(match lk Γ.kt e with | some k'=>decide (k'=k) | none=>false)
 | _=>true
def gQ (Γ:Ctx):List AK→Bool
 | []=>true
 | .dat _::ks=>gQ Γ ks
 | .ro k e::ks=>(match lk Γ.kt e with | some k'=>decide (k'=k) | none=>false)&&gQ Γ ks
 | .rw k e::ks=>(match lk Γ.kt e with | some k'=>decide (k'=k) | none=>false)&&gQ Γ ks
 | .pro k e::ks=>(match lk Γ.kt e with | some k'=>decide (k'=k) | none=>false)&&gQ Γ ks
 | .cel k e::ks=>((match lk Γ.kt e with | some k'=>decide (k'=k) | none=>false)&&AJ Γ k)&&gQ Γ ks
 | .io k e::ks=>(match lk Γ.kt e with | some k'=>decide (k'=k) | none=>false)&&gQ Γ ks
 | .mp _ _::ks=>gQ Γ ks
section
variable {P:Program} {Γ:Ctx} {w:World} {A:Nat→Prop}
end
def DT:List AK→Nat→List Value→List (Nat×Value)
 | .cel _ _::ks,j,v::vs=>(j,v)::DT ks (j+1) vs
 | .io _ _::ks,j,v::vs=>(j,v)::DT ks (j+1) vs
 | .mp _ _::ks,j,v::vs=>(j,v)::DT ks (j+1) vs
 | _::ks,j,_::vs=>DT ks (j+1) vs
 | _,_,_=>[]
section
variable {β:Type}
def mW (s:FState):(ks:List AK)→Nat→(DenR (aS ks)→Option β)→Option β
 | [],_,κ=>κ ()
 | .cel k e::ks,j,κ=>(match ev s (.tmp j) with
  | .cp o 0=>(match s.objs o with | some (.cell k' e')=>if o < 1000000∧k'=k∧e'=e then kE s o k 0 fun x=>mW s ks (j+1) fun y=>κ (x,y) else none | _=>none)
  | _=>none)
 | .io k e::ks,j,κ=>(match ev s (.tmp j) with
  | .sl o none _=>(match s.objs o with | some (.row k' e' true xs)=>if e'=e then cG k' k xs fun xs=>mW s ks (j+1) fun y=>κ (xs,y) else none | _=>none)
  | _=>none)
 | .mp a b::ks,j,κ=>(match ev s (.tmp j) with
  | .mp o=>(match s.objs o with | some (.mapo a' b' es)=>if h:a'=a∧b'=b then mW s ks (j+1) fun y=>κ (h.1 ▸ h.2 ▸ es,y) else none | _=>none)
  | _=>none)
 | .dat _::ks,j,κ=>mW s ks (j+1) κ
 | .ro _ _::ks,j,κ=>mW s ks (j+1) κ
 | .rw _ _::ks,j,κ=>mW s ks (j+1) κ
 | .pro _ _::ks,j,κ=>mW s ks (j+1) κ
def wO (s:FState):List AK→Nat→List Nat
 | [],_=>[]
 | .cel k _::ks,j=>(match ev s (.tmp j) with | .cp o _=>o::eQ s o k 0 | _=>[])++wO s ks (j+1)
 | .io _ _::ks,j=>(match ev s (.tmp j) with | .sl o _ _=>[o] | _=>[])++wO s ks (j+1)
 | .mp _ _::ks,j=>(match ev s (.tmp j) with | .mp o=>[o] | _=>[])++wO s ks (j+1)
 | _::ks,j=>wO s ks (j+1)
def XI (Γ:Ctx) (args:List AK) (rs:List RK) (ts:List (Nat×Option TypeId)) (s:FState):Option (DenR rs×DenR (aS args)):=
 bif bS (bO (ts.map (rvF Γ s))++wO s args 0) then dV s rs (ts.map (rvF Γ s)) fun x=>mW s args 0 fun y=>some (x,y) else none
def YP (Γ:Ctx) (args:List AK) (rs:List RK) (ts:List (Nat×Option TypeId)):Cx (DenR rs×DenR (aS args)):=⟨XI Γ args rs ts,XI Γ args rs ts,fun _ _=>none⟩
end
section
variable {E:Env} {pl:Nat→Pl} {Γ:Ctx} {w w':World} {a:Act} {s:FState} {β:Type} {r:β}
end
def YX:AK→Value→Option FObj
 | .cel k e,_=>some (.cell k e)
 | .io k e,.slice _ n _=>some (.row k e true (List.replicate n k.dflt))
 | .mp a b,_=>some (.mapo a b [])
 | _,_=>none
def ZF:Value→Pl
 | .pointer (some a)=>⟨a.block,a.off,1⟩
 | .slice (some a) _ cap=>⟨a.block,a.off,cap⟩
 | .slice none _ cap=>⟨0,0,cap⟩
 | .map (some r)=>⟨r,0,1⟩
 | _=>⟨0,0,0⟩
section
variable {E:Env} {pl:Nat→Pl} {Γ:Ctx} {w w':World} {a:Act} {s:FState} {β:Type} {r:β}
end
end Go.Proofs.YtoafkjeamgelgaaDoorHF

namespace Go.Proofs.YtoafkjeamgelgaaDoorHF
open Go
set_option linter.unusedVariables false
def vE:Code→Operand
 | .cond c _ _=>c
 | _=> .tmp 0
def nav:Code→List Nat→Code
 | c,[]=>c
 | .seq a b,i::l=>bif Nat.beq i 0 then nav a l else nav b l
 | .cond _ a b,i::l=>bif Nat.beq i 0 then nav a l else nav b l
 | .block _ a,_::l=>nav a l
 | .loop a,_::l=>nav a l
 | c,_=>c
def fb (f:Func):Code:=f.body.getD .skip
def rd {α:Type} (xs:List α) (i:Int) (d:α):α:=xs.getD i.toNat d
def w64 (n:Int):Int:=IntKind.i64.wrap n
def nz {β:Type} (b:Int) (κ:Option β):Option β:=if b=0 then none else κ
def ZA {β:Type} (b:Int) (κ:Option β):Option β:=if b < 0 then none else κ
def zB {β:Type} (z:BA) (κ:Option β):Option β:=bif Nat.ble z.size 70368744177664 then κ else none
def pth:Nat→Nat→List Nat→List Nat
 | 0,_,l=>l
 | f+1,k,l=>bif Nat.ble k 1 then l else pth f (k / 2) (k % 2::l)
abbrev FS1 (β:Type):=FState→Cx β→Option β
def FXs {β:Type} (Γ:Ctx) (n:Nat) (c:Code) (nf r:Option (List NE)) (x:List (Nat×List NE)):List Nat→FS1 β
 | [],s,cx=>cx.nrm s
 | [p],s,cx=>FX Γ n (nav c (pth 1000 p [])) (.fin none nf r x .leaf) s cx
 | p::q::l,s,cx=>FX Γ n (nav c (pth 1000 p [])) (.fin none none r x .leaf) s {cx with nrm:=fun s=>FXs Γ n c nf r x (q::l) s cx}
def bX (args:List AK) (rets:List RK) (f:DenA args→Option (DenR rets)):bJ:={args:=args,rets:=rets,backs:=[],app:=fun d κ=>(f d).bind fun x=>κ (x,())}
theorem zY {args:List AK} {rets:List RK} (f:DenA args→Option (DenR rets)) {β:Type} (d:DenA args) (κ:DenR rets×DenR []→Option β) (r:β) (h:(bX args rets f).app d κ=some r):∃x,(bX args rets f).app d some=some x∧κ x=some r:=by
 have h':(f d).bind (fun x=>κ (x,()))=some r:=h
 show ∃x,(f d).bind (fun x=>some (x,()))=some x∧κ x=some r
 cases hf:f d with
 | none=>rw [hf] at h';cases h'
 | some x=>rw [hf] at h';exact ⟨(x,()),rfl,h'⟩
theorem yX {args:List AK} {rets:List RK} (f:DenA args→Option (DenR rets)) (d:DenA args) (x:DenR rets×DenR []) (h:(bX args rets f).app d some=some x) {γ:Type} (κ:DenR rets×DenR []→Option γ):(bX args rets f).app d κ=κ x:=by
 have h':(f d).bind (fun x=>some (x,()))=some x:=h
 show (f d).bind (fun x=>κ (x,()))=κ x
 cases hf:f d with
 | none=>rw [hf] at h';cases h'
 | some y=>rw [hf] at h';cases h';rfl
theorem wA {args:List AK} {rets:List RK} {f:DenA args→Option (DenR rets)} {d:DenA args} {x:DenR rets×DenR []} (h:(bX args rets f).app d some=some x):f d=some x.1:=by
 have h':(f d).bind (fun x=>some (x,()))=some x:=h
 cases hf:f d with
 | none=>rw [hf] at h';cases h'
 | some y=>rw [hf] at h';cases h';rfl
def fQ (args:List AK) (rets:List RK) (f:DenA args→Option (DenR rets×DenR (aS args))):bJ:={args:=args,rets:=rets,backs:=aS args,app:=fun d κ=>(f d).bind κ}
theorem mY {args:List AK} {rets:List RK} (f:DenA args→Option (DenR rets×DenR (aS args))) {β:Type} (d:DenA args) (κ:DenR rets×DenR (aS args)→Option β) (r:β) (h:(fQ args rets f).app d κ=some r):∃x,(fQ args rets f).app d some=some x∧κ x=some r:=by
 have h':(f d).bind κ=some r:=h
 show ∃x,(f d).bind some=some x∧κ x=some r
 cases hf:f d with
 | none=>rw [hf] at h';cases h'
 | some x=>rw [hf] at h';exact ⟨x,rfl,h'⟩
theorem nG {args:List AK} {rets:List RK} (f:DenA args→Option (DenR rets×DenR (aS args))) (d:DenA args) (x:DenR rets×DenR (aS args)) (h:(fQ args rets f).app d some=some x) {γ:Type} (κ:DenR rets×DenR (aS args)→Option γ):(fQ args rets f).app d κ=κ x:=by
 have h':(f d).bind some=some x:=h
 show (f d).bind κ=κ x
 cases hf:f d with
 | none=>rw [hf] at h';cases h'
 | some y=>rw [hf] at h';cases h';rfl
structure Fit (P:Program) (f:FuncId) (S:bJ):Prop where
 holds:xZ P f S
 app:∀(d:DenA S.args) (x:DenR S.rets×DenR S.backs),S.app d some=some x→∀{γ:Type} (κ:DenR S.rets×DenR S.backs→Option γ),S.app d κ=κ x
def lkS:List (Nat×bJ)→Nat→Option bJ
 | [],_=>none
 | (a,x)::l,n=>bif Nat.beq a n then some x else lkS l n
def FitAll (P:Program):List (Nat×bJ)→Prop
 | []=>True
 | p::l=>Fit P p.1 p.2∧FitAll P l
theorem FitAll.get {P:Program}:∀{l:List (Nat×bJ)},FitAll P l→∀f S,lkS l f=some S→Fit P f S
 | [],_,f,S,h=>by cases h
 | (a,x)::l,hl,f,S,h=>by
  unfold lkS at h
  by_cases e:a=f
  ·subst e
   rw [Nat.beq_refl,cond_true] at h
   cases h
   exact hl.1
  ·rw [cF e,cond_false] at h
   exact hl.2.get f S h
theorem QV {P:Program} {Γ:Ctx} (hT:TabOk P Γ) (c:Nat→Option bJ):TabOk P {Γ with calls:=c}:=⟨hT.kt,hT.se,hT.fos,hT.eqs,hT.mps⟩
theorem XT {P:Program} {Γ:Ctx} {l:List (Nat×bJ)} (hT:TabOk P Γ) (hl:FitAll P l):CtxOk P {Γ with calls:=lkS l}:=
 ⟨QV hT _,fun f S h=>(hl.get f S h).holds⟩
theorem natOk {P:Program} {Γ:Ctx} {l:List (Nat×bJ)} (hl:FitAll P l):jL {Γ with calls:=lkS l}:=
 ⟨fun f S h _=>(hl.get f S h).holds.nat,fun f S h=>(hl.get f S h).app⟩
def qR (P:Program) (t:TypeId) (k:K):Bool:=
 match P.underlying t,k with
 | some (.int k'),.int k=>decide (k'=k)
 | some .bool,.bool=>true
 | some .string,.str=>true
 | some (.float k'),.flt k=>decide (k'=k)
 | some (.interface _),.err=>true
 | some (.struct _),.pair _ _=>true
 | some (.slice e'),.sl e _=>Nat.beq e' e
 | _,_=>false
theorem aJ {P:Program} {t:TypeId} {k:K} (h:qR P t k=true):RX P t k:=by
 unfold qR at h
 split at h
 ·rename_i hu;simp at h;subst h;exact hu
 ·rename_i hu;exact hu
 ·rename_i hu;exact hu
 ·rename_i hu;simp at h;subst h;exact hu
 ·rename_i hu;exact ⟨_,hu⟩
 ·rename_i hu;exact ⟨_,hu⟩
 ·rename_i hu;have:=Nat.eq_of_beq_eq_true h;subst this;exact hu
 ·cases h
def ktOk (P:Program):List (Nat×K)→Prop
 | []=>True
 | p::l=>TyOk P p.1 p.2∧ktOk P l
def seOk (P:Program):List (Nat×Nat)→Prop
 | []=>True
 | p::l=>P.underlying p.1=some (.slice p.2)∧seOk P l
def foOk (P:Program):List (Nat×List (Nat×Nat))→Prop
 | []=>True
 | p::l=>FoOk P p.1 p.2∧foOk P l
def mpOk (P:Program):List (Nat×(Nat×Nat))→Prop
 | []=>True
 | p::l=>P.underlying p.1=some (.map p.2.1 p.2.2)∧mpOk P l
theorem oT {α:Type}:∀{l:List (Nat×α)} {n:Nat} {x:α},lk l n=some x→(n,x)∈l
 | [],n,x,h=>by cases h
 | (a,y)::l,n,x,h=>by
  unfold lk at h
  by_cases e:a=n
  ·subst e;rw [Nat.beq_refl,cond_true] at h;cases h;simp
  ·rw [cF e,cond_false] at h;exact List.mem_cons_of_mem _ (oT h)
theorem ktOk.get {P:Program}:∀{l:List (Nat×K)},ktOk P l→∀p∈l,TyOk P p.1 p.2
 | [],_,p,h=>by cases h
 | q::l,hl,p,h=>by rcases List.mem_cons.1 h with rfl | h;exact hl.1;exact hl.2.get p h
theorem seOk.get {P:Program}:∀{l:List (Nat×Nat)},seOk P l→∀p∈l,P.underlying p.1=some (.slice p.2)
 | [],_,p,h=>by cases h
 | q::l,hl,p,h=>by rcases List.mem_cons.1 h with rfl | h;exact hl.1;exact hl.2.get p h
theorem foOk.get {P:Program}:∀{l:List (Nat×List (Nat×Nat))},foOk P l→∀p∈l,FoOk P p.1 p.2
 | [],_,p,h=>by cases h
 | q::l,hl,p,h=>by rcases List.mem_cons.1 h with rfl | h;exact hl.1;exact hl.2.get p h
theorem mpOk.get {P:Program}:∀{l:List (Nat×(Nat×Nat))},mpOk P l→∀p∈l,P.underlying p.1=some (.map p.2.1 p.2.2)
 | [],_,p,h=>by cases h
 | q::l,hl,p,h=>by rcases List.mem_cons.1 h with rfl | h;exact hl.1;exact hl.2.get p h
theorem XJ {P:Program} {kt:List (Nat×K)} {se:List (Nat×Nat)} {fo:List (Nat×List (Nat×Nat))} {eq:List Nat} {mp:List (Nat×(Nat×Nat))} (h1:ktOk P kt) (h2:seOk P se) (h3:foOk P fo) (h4:eq.all (uI P kt)=true) (h5:mpOk P mp):TabOk P {kt:=kt,se:=se,fo:=fo,eqs:=eq,calls:=fun _=>none,mps:=mp}:=
 ⟨fun t k h=>h1.get _ (oT h),fun t e h=>h2.get _ (oT h),fun t l h=>h3.get _ (oT h),fun t h=>List.all_eq_true.1 h4 t (dP h),fun t p h=>h5.get _ (oT h)⟩
theorem WA {P:Program} {Γ:Ctx} (h:TabOk P Γ) (l:List Nat):TabOk P {Γ with cel:=l}:=⟨h.kt,h.se,h.fos,h.eqs,h.mps⟩
theorem dI {P:Program} {f:FuncId} {fn:Func} {c:Code} {args:List AK} {rets:List RK} {g:DenA args→Option (DenR rets)} {Γ:Ctx} {l:List (Nat×bJ)} {n:Nat} {sk:Sk} {ts:List (Nat×Option TypeId)}
  (hf:P.funcs[f]? =some fn) (hb:fn.body=some c) (hcall:bC P f) (hT:TabOk P Γ) (hl:FitAll P l) (hm:P.follows .mixedOrders=true)
  (hres:fn.results=(ts.map rvV).toArray) (hB:iJ fn.ntmps [] c=true) (h6:fn.ntmps≤1000000) (hnt:args.length≤fn.ntmps) (ha:cI {Γ with calls:=lkS l} args=true) (hr:eB {Γ with calls:=lkS l} rets=true)
  (hX:∀(d:DenA args),FX {Γ with calls:=lkS l} n c sk (DL args d) (eC {Γ with calls:=lkS l} rets ts)=g d):Fit P f (bX args rets g):=by
 exact ⟨wP (Γ:={Γ with calls:=lkS l}) (n:=n) (sk:=sk) hf hb hcall (XT hT hl) (natOk hl) hm (zY g) rfl hres hB h6 hnt ha hr (fun d x hx=>(hX d).trans (wA hx)),yX g⟩
def YT:Code→Option (Code×Tmp×FuncId×Nat×Code)
 | .seq c0 (.seq (.region _ ⟨[o1,o2]⟩ false) c1)=>(match o1.dst,o1.op,o1.guard,o2.dst,o2.op,o2.guard with
  | some tm,.makeFunc (.func g) ⟨[]⟩ caps,none,none,.defer ⟨.value (.tmp tm'),⟨[]⟩,⟨[]⟩⟩,none=>bif Nat.beq tm' tm then some (c0,tm,g,caps.size,c1) else none
  | _,_,_,_,_,_=>none)
 | _=>none
def WI:List AK→Bool
 | []=>true
 | .dat _::l=>WI l
 | _=>false
theorem ResRep.mono' {P:Program} {w:World} {A A':Nat→Prop} (hA:∀b,A' b→A b):∀{k:RK} {x:k.den} {v:Value} {own:List Nat},ResRep P w A k x v own→ResRep P w A' k x v own
 | .dat k,x,v,own,h=>(ArgRep.mono (k:= .dat k) hA (show ArgRep w A (.dat k) x v own from h):ArgRep w A' (.dat k) x v own)
 | .rw k e,x,v,own,h=>⟨h.1,ArgRep.mono (k:= .rw k e) hA h.2⟩
 | .nsl,x,v,own,h=>h
 | .ro k e,x,v,own,h=>⟨h.1,ArgRep.mono (k:= .ro k e) hA h.2⟩
 | .ptr _ _,_,_,_,⟨h,b,off,cs,t,h1,h2,h3,h4⟩=>⟨h,b,off,cs,t,h1,h2,h3.mono hA,h4⟩
 | .bcel _ _,_,_,_,⟨h1,h2,h3⟩=>⟨h1,h2,h3.mono hA⟩
 | .bio _ _,_,_,_,⟨h1,h2⟩=>⟨h1,h2.mono hA⟩
 | .bmp _ _,_,_,_,h=>MapAt.mono hA h
theorem RessRep.mono' {P:Program} {w:World} {A A':Nat→Prop} (hA:∀b,A' b→A b):∀{ks:List RK} {x:DenR ks} {vs:List Value} {own:List Nat},RessRep P w A ks x vs own→RessRep P w A' ks x vs own
 | [],_,_,_,h=>h
 | k::ks,_,_,_,⟨v,vs',o1,o2,h1,h2,h3,h4⟩=>⟨v,vs',o1,o2,h1,h2,h3.mono' hA,h4.mono' hA⟩
def uS:List AK→Bool
 | []=>true
 | .dat _::l=>uS l
 | .ro _ _::l=>uS l
 | .pro _ _::l=>uS l
 | _=>false
end Go.Proofs.YtoafkjeamgelgaaDoorHF

namespace Go.Proofs.YtoafkjeamgelgaaDoorHF
open Go Go.RowKit Go.ChangeShapes Go.WideShapes Go.Deep
set_option linter.unusedVariables false
set_option linter.unusedSimpArgs false
def lB:(k:K)→k.den→Prop
 | .int k,n=>(Lit.int k n).wf=true
 | .bool,_=>True
 | .str,s=>ByteArray.size s≤maxLen
 | .flt f,b=>(Lit.float f b).wf=true
 | .err,_=>True
 | .pair a b,x=>lB a x.1∧lB b x.2
 | .sl _ k,xs=>List.length xs≤maxLen∧∀y∈xs,lB k y
def gI (P:Program):K→(TypeId→Bool)×(List Field→Bool)
 | .int k=>let T:=fun t=>qR P t (.int k);(T,fun | [f]=>T f.type | _=>false)
 | .bool=>let T:=fun t=>qR P t .bool;(T,fun | [f]=>T f.type | _=>false)
 | .str=>let T:=fun t=>qR P t .str;(T,fun | [f]=>T f.type | _=>false)
 | .flt .f64=>let T:=fun t=>qR P t (.flt .f64);(T,fun | [f]=>T f.type | _=>false)
 | .sl e k=>let T:=fun t=>qR P t (.sl e k)&&Nat.beq (P.cellsOf e) k.size&&(gI P k).1 e;(T,fun | [f]=>T f.type | _=>false)
 | .pair a b=>
  let S:List Field→Bool:=fun | f::f'::fs=>(gI P a).1 f.type&&Nat.beq a.size 1&&(gI P b).2 (f'::fs) | _=>false
  (fun t=>match P.underlying t with | some (.struct fs)=>oneCellFields P fs&&S fs.toList | _=>false,S)
 | _=>(fun _=>false,fun _=>false)
section
variable {H:Type} {enc:TypeId×Value→H} {P:Program} {w:World} {base:Nat} {spare:Nat→Bool} {held:Bool}
def gA (enc:TypeId×Value→H) (P:Program) (w:World) (base:Nat) (spare:Nat→Bool) (held:Bool) (k:K) (t:TypeId):Prop:=
 ∀(n:Nat) (cs:List Value) (x:DataW H×List MemPlace),cs.length=k.size→DataW.trod enc P w base spare held n t cs=some x→∃y:k.den,RepD w (fun _=>False) k y cs∧lB k y
theorem EL {k:IntKind} {e:TypeId} (he:P.underlying e=some (.int k)):gA enc P w base spare held (.int k) e:=by
 intro n cs x hl h
 obtain ⟨m,rfl,_,hw⟩:=DataW.trod_int he h
 exact ⟨m,rfl,hw⟩
theorem uK {e:TypeId} (he:P.underlying e=some .string):gA enc P w base spare held .str e:=by
 intro n cs x hl h
 obtain ⟨s,rfl,_,hw⟩:=DataW.trod_string he h
 exact ⟨s,rfl,hw⟩
theorem zN {e:TypeId} (he:P.underlying e=some .bool):gA enc P w base spare held .bool e:=by
 intro n cs x hl h
 have hb:∃b,cs=[Value.bool b]:=by
  cases n with
  | zero=>simp [DataW.trod] at h
  | succ n=>
   unfold DataW.trod at h
   rw [he] at h
   split at h
   all_goals first | exact ⟨_,rfl⟩ | simp_all
 obtain ⟨b,rfl⟩:=hb
 exact ⟨b,rfl,trivial⟩
theorem ET {e:TypeId} (he:P.underlying e=some (.float .f64)):gA enc P w base spare held (.flt .f64) e:=by
 intro n cs x hl h
 cases n with
 | zero=>simp [DataW.trod] at h
 | succ n=>
  unfold DataW.trod at h
  rw [he] at h
  split at h <;> simp_all
  rename_i k1 k2 b hk
  subst hk
  exact ⟨b,rfl,h.1.2⟩
theorem NR {k:K} {t e:TypeId} (ht:P.underlying t=some (.slice e)) (hC:P.cellsOf e=k.size) (hel:gA enc P w base spare held k e):gA enc P w base spare held (.sl e k) t:=by
 intro n0 cs x hl0 h
 clear hl0
 rcases open_slice ht h with ⟨rfl,_⟩ | ⟨a,len,cap,m,n,D,Pl,rfl,hb,hl,hm,hmm,hx,hi⟩
 ·exact ⟨[],⟨none,0,rfl,Nat.le_refl _,.inl rfl⟩,Nat.zero_le _,by simp⟩
 ·have hlm:len≤m:=by rw [hmm];split <;> omega
  have hall:∀i,i < len→∃y:k.den,lB k y∧∃c:List Value,RepD w (fun _=>False) k y c∧∀j,j < k.size→w.cell? (a.add (i * k.size+j))=c[j]? :=by
   intro i hil
   obtain ⟨cs',hc,ht'⟩:=hi i (by omega)
   obtain ⟨_,hcl,hat⟩:=World.cells?_some hc
   rw [hC] at hcl hat
   obtain ⟨y,hy,hg⟩:=hel n cs' _ hcl ht'
   refine ⟨y,hg,cs',hy,fun j hj=>?_⟩
   rw [←Go.Deep.add_add]
   exact hat j hj
  have:∃xs:List k.den,xs.length=len∧∀i (hi:i < xs.length),lB k xs[i]∧∃c:List Value,RepD w (fun _=>False) k xs[i] c∧∀j,j < k.size→w.cell? (a.add (i * k.size+j))=c[j]? :=by
   clear hlm hmm hx hi hl h
   induction len with
   | zero=>exact ⟨[],rfl,fun i hi=>absurd hi (Nat.not_lt_zero _)⟩
   | succ len ih=>
    obtain ⟨xs,hxl,hxs⟩:=ih (fun i hil=>hall i (by omega))
    obtain ⟨y,hy⟩:=hall len (by omega)
    refine ⟨xs++[y],by simp [hxl],fun i hil=>?_⟩
    by_cases e:i < xs.length
    ·rw [List.getElem_append_left e];exact hxs i e
    ·obtain rfl:i=xs.length:=by simp at hil;omega
     rw [List.getElem_append_right (Nat.le_refl _)]
     simpa [hxl] using hy
  obtain ⟨xs,hxl,hxs⟩:=this
  refine ⟨xs,⟨some a,cap,by rw [hxl],by omega,?_⟩,by omega,fun y hy=>?_⟩
  ·by_cases h0:xs=[]
   ·exact .inl h0
   ·right
    have hpos:0 < xs.length:=List.length_pos_iff.2 h0
    have hsp:a.spot=none:=by
     obtain ⟨_,c,hc,hcell⟩:=hxs 0 hpos
     have h1:=hcell 0 k.size_pos
     have hcl:=hc.len
     have hks:=k.size_pos
     rw [List.getElem?_eq_getElem (by omega)] at h1
     unfold World.cell? at h1
     split at h1
     ·split at h1
      ·cases h1
      ·rename_i hs
       rw [Nat.zero_mul,Addr.add_zero'] at hs
       cases hsp:a.spot with
       | none=>rfl
       | some z=>rw [hsp] at hs;simp at hs
     ·cases h1
    obtain ⟨b,off,sp⟩:=a
    simp only at hsp
    subst hsp
    refine ⟨b,off,rfl,fun h=>h,fun i z hz=>?_⟩
    obtain ⟨hil,rfl⟩:=List.getElem?_eq_some_iff.1 hz
    obtain ⟨_,c,hc,hcell⟩:=hxs i hil
    refine ⟨c,hc,fun j hj=>?_⟩
    have:=hcell j hj
    rw [Addr.add_mid] at this
    rw [←this]
    congr 2
    omega
  ·obtain ⟨i,hil,rfl⟩:=List.getElem_of_mem hy
   exact (hxs i hil).1
theorem LZ {fs:Array Field} {t:TypeId} (ht:P.underlying t=some (.struct fs)) (hone:oneCellFields P fs=true) {n:Nat} {cs:List Value} {x:DataW H×List MemPlace} (h:DataW.trod enc P w base spare held n t cs=some x)
  (i:Nat) (f:Field) (hf:fs[i]? =some f) (v:Value) (hv:cs[i]? =some v):∃(m:Nat) (y:DataW H×List MemPlace),DataW.trod enc P w base spare held m f.type [v]=some y:=by
 obtain ⟨xs,m,_,_,hlen,hxl,hg⟩:=DataW.trod_struct ht h
 obtain ⟨o,k⟩:=hone_of hone i f hf
 have h1:=hg i f hf
 rw [o,k] at h1
 obtain ⟨hil,rfl⟩:=List.getElem?_eq_some_iff.1 hv
 rw [List.drop_eq_getElem_cons hil] at h1
 have hx:i < xs.length:=by rw [hxl];exact (Array.getElem?_eq_some_iff.1 hf).1
 rw [List.getElem?_eq_getElem hx] at h1
 exact ⟨m,_,h1⟩
def jY (enc:TypeId×Value→H) (P:Program) (w:World) (base:Nat) (spare:Nat→Bool) (held:Bool) (k:K) (fs:List Field):Prop:=
 ∀cs:List Value,cs.length=k.size→(∀(i:Nat) (f:Field) (v:Value),fs[i]? =some f→cs[i]? =some v→∃(m:Nat) (y:DataW H×List MemPlace),DataW.trod enc P w base spare held m (Field.type f) [v]=some y)→∃y:k.den,RepD w (fun _=>False) k y cs∧lB k y
theorem fB {k:K} (hk:k.size=1) {f:Field} (h:gA enc P w base spare held k f.type):jY enc P w base spare held k [f]:=by
 intro cs hl hf
 rw [hk] at hl
 obtain ⟨v,rfl⟩:=List.length_eq_one_iff.1 hl
 obtain ⟨m,y,hy⟩:=hf 0 f v rfl rfl
 exact h m [v] y (by rw [hk];rfl) hy
theorem dF:∀k:K,(∀t,(gI P k).1 t=true→gA enc P w base spare held k t)∧(∀fs,(gI P k).2 fs=true→jY enc P w base spare held k fs)
 | .int k=>by
  have T:∀t,(gI P (.int k)).1 t=true→gA enc P w base spare held (.int k) t:=fun t h=>EL (aJ (k:= .int k) h)
  refine ⟨T,fun fs h=>?_⟩
  match fs,h with
  | [f],h=>exact fB rfl (T _ h)
 | .bool=>by
  have T:∀t,(gI P .bool).1 t=true→gA enc P w base spare held .bool t:=fun t h=>zN (aJ (k:= .bool) h)
  refine ⟨T,fun fs h=>?_⟩
  match fs,h with
  | [f],h=>exact fB rfl (T _ h)
 | .str=>by
  have T:∀t,(gI P .str).1 t=true→gA enc P w base spare held .str t:=fun t h=>uK (aJ (k:= .str) h)
  refine ⟨T,fun fs h=>?_⟩
  match fs,h with
  | [f],h=>exact fB rfl (T _ h)
 | .flt .f64=>by
  have T:∀t,(gI P (.flt .f64)).1 t=true→gA enc P w base spare held (.flt .f64) t:=fun t h=>ET (aJ (k:= .flt .f64) h)
  refine ⟨T,fun fs h=>?_⟩
  match fs,h with
  | [f],h=>exact fB rfl (T _ h)
 | .flt .f32=>⟨fun t h=>(by cases h),fun fs h=>(by cases h)⟩
 | .err=>⟨fun t h=>(by cases h),fun fs h=>(by cases h)⟩
 | .sl e k=>by
  have T:∀t,(gI P (.sl e k)).1 t=true→gA enc P w base spare held (.sl e k) t:=fun t h=>by
   simp only [gI,Bool.and_eq_true] at h
   exact NR (aJ (k:= .sl e k) h.1.1) (Nat.eq_of_beq_eq_true h.1.2) ((dF k).1 e h.2)
  refine ⟨T,fun fs h=>?_⟩
  match fs,h with
  | [f],h=>exact fB rfl (T _ h)
 | .pair a b=>by
  have S:∀fs,(gI P (.pair a b)).2 fs=true→jY enc P w base spare held (.pair a b) fs:=fun fs h=>by
   match fs,h with
   | f::f'::fs,h=>
    simp only [gI,Bool.and_eq_true] at h
    obtain ⟨⟨h1,h2⟩,h3⟩:=h
    have h2:=Nat.eq_of_beq_eq_true h2
    intro cs hl hf
    simp only [K.size,h2] at hl
    cases cs with
    | nil=>simp at hl;omega
    | cons v cs=>
     obtain ⟨m,y,hy⟩:=hf 0 f v rfl rfl
     obtain ⟨y1,g1,g2⟩:=(dF a).1 f.type h1 m [v] y (by rw [h2];rfl) hy
     obtain ⟨y2,g3,g4⟩:=(dF b).2 (f'::fs) h3 cs (by simp at hl;omega) (fun i f0 v0 hf0 hv0=>hf (i+1) f0 v0 (by simpa using hf0) (by simpa using hv0))
     exact ⟨(y1,y2),⟨[v],cs,rfl,g1,g3⟩,g2,g4⟩
  refine ⟨fun t h=>?_,S⟩
  simp only [gI] at h
  split at h
  ·rename_i fs hu
   simp only [Bool.and_eq_true] at h
   intro n cs x hl hx
   exact S fs.toList h.2 cs hl (fun i f v hf hv=>LZ hu h.1 hx i f (by simpa using hf) v hv)
  ·cases h
end
end Go.Proofs.YtoafkjeamgelgaaDoorHF

namespace Go.Proofs.YtoafkjeamgelgaaDoorHF
open Go Go.RowKit Go.ChangeShapes Go.WideShapes Go.Deep
set_option linter.unusedVariables false
set_option linter.unusedSimpArgs false
def lY (P:Program):AK→TypeId→Bool
 | .dat (.sl _ _),_=>false
 | .dat k,t=>(gI P k).1 t&&Nat.beq (P.cellsOf t) k.size
 | .ro k e,t=>(gI P (.sl e k)).1 t
 | _,_=>false
def nF (P:Program):List AK→List TypeId→Bool
 | [],[]=>true
 | k::ks,t::ts=>lY P k t&&P.readableRec t&&Nat.blt t P.types.size&&nF P ks ts
 | _,_=>false
def JS:(k:AK)→k.den→Prop
 | .dat k,x=>lB k x
 | .ro k e,x=>lB (.sl e k) x
 | .rw k e,x=>True
 | .pro k e,x=>True
 | .cel k e,x=>True
 | .io k e,x=>True
 | .mp a b,x=>True
def DB:(ks:List AK)→DenA ks→Prop
 | [],_=>True
 | k::ks,d=>JS k d.1∧DB ks d.2
section
variable {H:Type} {enc:TypeId×Value→H} {P:Program} {w:World} {base b0:Nat} {spare:Nat→Bool} {held:Bool} {r:Reach}
theorem uT {t:TypeId} {k:FloatKind} {v:Value} (ht:P.underlying t=some (.float k)) (h:Value.okWide P w r b0 t v):∃n,v= .float k n:=by
 simp only [Value.okWide,ht,Cell.okWide] at h
 cases v <;> simp_all [Cell.ok]
theorem GZ {k:AK} {t:TypeId} {v:Value} {d:DataW H} {p:List MemPlace} (h:lY P k t=true) (hv:Value.okWide P w r b0 t v) (ht:DataW.Trod enc P w base spare held t v d p):
  ∃x:k.den,ArgRep w (fun _=>False) k x v []∧JS k x:=by
 obtain ⟨n,ht⟩:=ht
 match k,h with
 | .dat (.int ik),h=>
  simp only [lY,Bool.and_eq_true] at h
  obtain ⟨m,rfl⟩:=okWide_int (aJ (k:= .int ik) h.1) hv
  obtain ⟨y,h1,h2⟩:=(dF (.int ik)).1 t h.1 n _ _ rfl ht
  exact ⟨y,⟨rfl,_,h1,rfl⟩,h2⟩
 | .dat .bool,h=>
  simp only [lY,Bool.and_eq_true] at h
  obtain ⟨m,rfl⟩:=okWide_bool (aJ (k:= .bool) h.1) hv
  obtain ⟨y,h1,h2⟩:=(dF .bool).1 t h.1 n _ _ rfl ht
  exact ⟨y,⟨rfl,_,h1,rfl⟩,h2⟩
 | .dat .str,h=>
  simp only [lY,Bool.and_eq_true] at h
  obtain ⟨m,rfl⟩:=okWide_string (aJ (k:= .str) h.1) hv
  obtain ⟨y,h1,h2⟩:=(dF .str).1 t h.1 n _ _ rfl ht
  exact ⟨y,⟨rfl,_,h1,rfl⟩,h2⟩
 | .dat (.flt .f64),h=>
  simp only [lY,Bool.and_eq_true] at h
  obtain ⟨m,rfl⟩:=uT (aJ (k:= .flt .f64) h.1) hv
  obtain ⟨y,h1,h2⟩:=(dF (.flt .f64)).1 t h.1 n _ _ rfl ht
  exact ⟨y,⟨rfl,_,h1,rfl⟩,h2⟩
 | .dat (.flt .f32),h=>simp [lY,gI] at h
 | .dat .err,h=>simp [lY,gI] at h
 | .dat (.pair a b),h=>
  simp only [lY,Bool.and_eq_true] at h
  have hs:∃fs,P.underlying t=some (.struct fs):=by
   have h1:=h.1
   simp only [gI] at h1
   split at h1
   ·rename_i fs hu;exact ⟨fs,hu⟩
   ·cases h1
  obtain ⟨fs,hu⟩:=hs
  obtain ⟨cs,rfl,hcs⟩:=okWide_struct hu hv
  have hl:(Value.cells (.agg cs)).toList.length=(K.pair a b).size:=by
   show cs.toList.length=_
   rw [←Nat.eq_of_beq_eq_true h.2,←hcs];simp
  obtain ⟨y,h1,h2⟩:=(dF (.pair a b)).1 t h.1 n _ _ hl ht
  exact ⟨y,⟨rfl,_,h1,by simp [K.isPair,Value.cells]⟩,h2⟩
 | .dat (.sl _ _),h=>simp [lY] at h
 | .ro k e,h=>
  simp only [lY] at h
  have hk:=h
  simp only [gI,Bool.and_eq_true] at hk
  obtain ⟨a,len,cap,rfl⟩:=okWide_slice (aJ (k:= .sl e k) hk.1.1) hv
  obtain ⟨y,h1,h2⟩:=(dF (.sl e k)).1 t h n _ _ rfl ht
  obtain ⟨ad,cap',he,hle,hx⟩:=h1
  have he:(Value.slice a len cap)= .slice ad (List.length y) cap':=by simpa [Value.cells] using he
  exact ⟨y,⟨rfl,ad,cap',he,hle,fun hne=>hx.resolve_left hne⟩,h2⟩
 | .rw k e,h=>simp [lY] at h
 | .pro k e,h=>simp [lY] at h
theorem sP:∀{ks:List AK} {ts:List TypeId} {vs:List Value} {ds:List (DataW H)} {p:List MemPlace},nF P ks ts=true→(∀(j:Nat) t v,ts[j]? =some t→vs[j]? =some v→Value.okWide P w r b0 t v)→DataW.TrodAll enc P w base spare held ts vs ds p→
  ∃d:DenA ks,ArgsRep w (fun _=>False) ks d vs []∧DB ks d
 | [],[],vs,ds,p,_,_,ht=>by
  obtain ⟨rfl,rfl,rfl⟩:=trodAll_nil ht
  exact ⟨(),⟨rfl,rfl⟩,trivial⟩
 | k::ks,t::ts,vs,ds,p,h,hv,ht=>by
  obtain ⟨v,vs',d,ds',p,q,rfl,rfl,rfl,h1,h2⟩:=trodAll_cons ht
  simp only [nF,Bool.and_eq_true] at h
  obtain ⟨x,g1,g2⟩:=GZ h.1.1.1 (hv 0 t v rfl rfl) h1
  obtain ⟨xs,g3,g4⟩:=sP h.2 (fun j t v ht hv'=>hv (j+1) t v (by simpa using ht) (by simpa using hv')) h2
  exact ⟨(x,xs),⟨v,vs',[],[],rfl,rfl,g1,g3⟩,g2,g4⟩
 | [],_::_,_,_,_,h,_,_=>by cases h
 | _::_,[],_,_,_,h,_,_=>by cases h
theorem sW {W W':World} (hl:laidOutB P=true) (hb:Below W.heap.size W W'):∀{ks:List AK} {ts:List TypeId} {vs:List Value} {ds:List (DataW H)} {p:List MemPlace},nF P ks ts=true→
  DataW.TrodAll enc P W 0 (fun _=>true) true ts vs ds p→(∀x∈p,x.block < W.heap.size)→DataW.TrodAll enc P W' 0 (fun b=>decide (b < W.heap.size)) true ts vs ds p
 | [],[],vs,ds,p,_,ht,_=>by
  obtain ⟨rfl,rfl,rfl⟩:=trodAll_nil ht
  exact rfl
 | k::ks,t::ts,vs,ds,p,h,ht,hlt=>by
  obtain ⟨v,vs',d,ds',p,q,rfl,rfl,rfl,h1,h2⟩:=trodAll_cons ht
  simp only [nF,Bool.and_eq_true] at h
  exact trodAll_cons_mk (Below.trod hl h.1.1.2 (Nat.le_of_ble_eq_true h.1.2) h1 hb (fun x hx=>hlt x (by simp [hx]))) (sW hl hb h.2 h2 (fun x hx=>hlt x (by simp [hx])))
 | [],_::_,_,_,_,h,_,_=>by cases h
 | _::_,[],_,_,_,h,_,_=>by cases h
theorem GL {f:FuncId} {fn:Func} {s:ChangeSpec} {ks:List AK} {tb:TypeId} {g:Nat→DenA ks→Option (DenR [RK.dat .bool])}
  (hf:∀n,Fit P f (bX ks [.dat .bool] (g n))) (hl:laidOutB P=true) (hts:nF P ks fn.params.toList=true) (hrt:fn.resultTypes=#[tb]) (htb:P.underlying tb=some .bool) (hvr:varsRowed P s.vars=true)
  (hs:∀(ds gs:List (DataW H)),ds.length=ks.length→gs.length=s.vars.length→s.fn H (ds++gs)=⟨[.lit (.bool true)],ds,gs⟩)
  (hpure:∀d:DenA ks,DB ks d→∃n,g n d=some (true,()))
  {W:World} {base:Nat} {args:Array Value} {ds gs:List (DataW H)} {before:List MemPlace}
  (hval:∀(j:Nat) t v,fn.params[j]? =some t→args[j]? =some v→Value.okWide P W .any base t v)
  (hW:DataW.Whole enc P fn.params.toList s.vars false W args.toList ds gs before) (hGW:NG≤W.heap.size∧G0 P W):
  Calls P f args W fun e W'=>∃v,e= .returned v∧s.post enc P fn false true false false W args v W':=by
 have hW':=hW
 have hlt:∀p∈before,p.block < W.heap.size:=fun p hp=>hW'.lt p hp
 obtain ⟨p,q,hA,hV,rfl,hfz,hnd⟩:=hW
 obtain ⟨d,hd,hg⟩:=sP hts (fun j t v ht hv=>hval j t v (by simpa using ht) (by simpa using hv)) hA
 obtain ⟨n,hn⟩:=hpure d hg
 have hc:=(hf n).holds.calls W (fun _=>False) args.toList [] d ((true,()),()) ⟨hGW.1,fun b hb=>(by cases hb),W,hGW.2,fun _ _=>rfl⟩ (fun b hb=>hb.elim) List.nodup_nil (fun b hb=>by cases hb) (by
  show ArgsRep W (fun b=>False∨b∈[]) ks d args.toList []
  exact hd.mono (fun b hb=>by rcases hb with hb | hb;exact hb;cases hb)) (by
  show (g n d).bind (fun x=>some (x,()))=some ((true,()),())
  rw [hn];rfl)
 have ea:args.toList.toArray=args:=by simp
 rw [ea] at hc
 refine hc.mono fun e W' ⟨us,own',own2,he,hr,_,_,_,hF⟩=>?_
 have hus:us=[.bool true]:=by
  obtain ⟨v,vs',o1,o2,rfl,rfl,⟨_,cs,h1,h2⟩,h3,h4⟩:=hr
  subst h3
  have h1:cs=[Value.bool true]:=h1
  subst h1
  simp [K.isPair] at h2
  rw [←h2]
 subst hus
 have hb:Below W.heap.size W W':=⟨hF.os,hF.tape,hF.output,hF.size,fun k hk=>hF.block k hk (fun h=>by cases h)⟩
 have hlen:ds.length=ks.length∧gs.length=s.vars.length:=by
  constructor
  ·have h1:∀{ts:List TypeId} {vs:List Value} {ds:List (DataW H)} {p:List MemPlace},DataW.TrodAll enc P W 0 (fun _=>true) true ts vs ds p→ds.length=ts.length:=by
    intro ts
    induction ts with
    | nil=>intro vs ds p h;obtain ⟨_,rfl,_⟩:=trodAll_nil h;rfl
    | cons t ts ih=>intro vs ds p h;obtain ⟨v,vs',d,ds',p,q,_,rfl,_,_,h2⟩:=trodAll_cons h;simp [ih h2]
   have h2:∀{ks:List AK} {ts:List TypeId},nF P ks ts=true→ks.length=ts.length:=by
    intro ks
    induction ks with
    | nil=>intro ts h;cases ts with | nil=>rfl | cons=>cases h
    | cons k ks ih=>intro ts h;cases ts with | nil=>cases h | cons t ts=>simp only [nF,Bool.and_eq_true] at h;simp [ih h.2]
   rw [h1 hA,h2 hts]
  ·have h1:∀{ns:List String} {gs:List (DataW H)} {q:List MemPlace},DataW.TrodVars enc P W (fun _=>true) ns gs q→gs.length=ns.length:=by
    intro ns
    induction ns with
    | nil=>intro gs q h;cases gs with | nil=>rfl | cons=>exact h.elim
    | cons n ns ih=>intro gs q h;cases gs with | nil=>exact h.elim | cons d gs=>obtain ⟨_,_,_,_,_,_,_,_,_,_,h2,_⟩:=h;simp [ih h2]
   exact h1 hV
 refine ⟨.bool true,by rw [he];rfl,ds,gs,p++q,[],p,q,hW',?_,?_,?_,hb.frame _,fun h=>by cases h⟩
 ·rw [hs ds gs hlen.1 hlen.2,hrt]
  exact trodAll_mk1 (shut_bool htb _)
 ·rw [hs ds gs hlen.1 hlen.2]
  exact sW hl hb hts hA (fun x hx=>hlt x (by simp [hx]))
 ·rw [hs ds gs hlen.1 hlen.2]
  exact Below.trodVars hl hb hvr hV
end
end Go.Proofs.YtoafkjeamgelgaaDoorHF
