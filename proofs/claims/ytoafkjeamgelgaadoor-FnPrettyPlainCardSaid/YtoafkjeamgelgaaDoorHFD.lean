/- FX: a plain machine beside the model's, and that the model comes to what it comes to. -/
import Derived.Test.YtoafkjeamgelgaaDoorHFA
import Derived.Deep.AppendSrc
import Derived.Deep.Upon
import Derived.Laws.IdiomStrings
import Derived.Shelf.Bytes.SlSmallAll
import Derived.Laws.MakeOwn
import Derived.Laws.RangeString
namespace Go.Proofs.YtoafkjeamgelgaaDoorHF
open Go
set_option linter.unusedVariables false
set_option linter.unusedSimpArgs false
def RT (v:Option Value) (dflt n:Int):Prop:=(v=none∧n=dflt)∨∃k,v=some (.int k n)
theorem dW (P:Program) (w:World) (k:IntKind) (i:Int) (y:Nat) (code:BoundsCode) (h0:0≤i) (h1:i≤y):(Instr.sliceBound (.int k i) y code).run P w= .ok i.toNat w:=by
 simp [Instr.sliceBound,asIntOf,h0,h1]
theorem eZ (P:Program) (w:World) (b:Bool) (len cap:Nat) (lo hi:Option Value) (A B:Int) (hlo:RT lo 0 A) (hhi:RT hi len B) (h0:0≤A) (h1:A≤B) (h2:B≤len) (hc:len≤cap):
  (Instr.sliceBounds b len cap lo hi none).run P w= .ok (A.toNat,B.toNat,cap) w:=by
 unfold Instr.sliceBounds
 rcases hhi with ⟨rfl,rfl⟩ | ⟨kh,rfl⟩
 ·rcases hlo with ⟨rfl,rfl⟩ | ⟨kl,rfl⟩
  ·simp
  ·have:=fun c=>dW P w kl A len c h0 (by omega)
   simp [this]
 ·have hb:=fun c=>dW P w kh B cap c (by omega) (by omega)
  rcases hlo with ⟨rfl,rfl⟩ | ⟨kl,rfl⟩
  ·simp [hb]
  ·have ha:=fun c=>dW P w kl A B.toNat c h0 (by omega)
   simp [hb,ha]
theorem VRep.mkSl {w:World} {A:Nat→Prop} {O:cE} {pl:Nat→Pl} {o:Nat} {wn:Option (Int×Int)} {nn:Bool} {v:Value} {k:K} {e:TypeId} {rw_:Bool} {xs:List k.den} (ho:O o=some (.row k e rw_ xs)) {ad:Option Addr} {cap off len:Nat} (hw:winOk xs wn off len)
  (hv:v= .slice ad len cap) (hl:len≤cap) (h1:rw_=true→off+cap=(pl o).cap) (h2:0 < len∨(rw_=true∧0 < cap)→ad=some ⟨(pl o).b,(pl o).off+off * k.size,none⟩) (h3:nn=true→ad≠none):VRep w A O pl (.sl o wn nn) v:=
 .inl ⟨k,e,rw_,xs,ho,ad,cap,off,len,hw,hv,hl,h1,h2,h3⟩
section
variable {E:Env} {pl:Nat→Pl} {Γ:Ctx} {w w':World} {a:Act} {s:FState} {β:Type} {r:β} {κ:FState→Option β} {Q:Exit→Act→World→Prop}
theorem pD (h:RelP E pl w a s) {lo hi:Option Operand} {n:Int} (hn:0≤n) {f:Int→Int→Option β} (hk:jR (lo.map (ev s)) (hi.map (ev s)) n f=some r):
  ∃A B,RT (lo.map a.eval) 0 A∧RT (hi.map a.eval) n B∧0≤A∧A≤B∧B≤n∧f A B=some r:=by
 unfold jR at hk
 cases lo with
 | none=>
  cases hi with
  | none=>exact ⟨0,n,.inl ⟨rfl,rfl⟩,.inl ⟨rfl,rfl⟩,Int.le_refl _,hn,Int.le_refl _,hk⟩
  | some hi=>
   simp only [Option.map] at hk ⊢
   obtain ⟨k,b,hb,hk⟩:=bM hk
   obtain ⟨h1,h2,h3,hk⟩:=fU hk
   exact ⟨0,b,.inl ⟨rfl,rfl⟩,.inr ⟨k,by rw [(h.ev hi _ hb).int_inv]⟩,Int.le_refl _,h2,h3,hk⟩
 | some lo=>
  cases hi with
  | none=>
   simp only [Option.map] at hk ⊢
   obtain ⟨k,b,hb,hk⟩:=bM hk
   obtain ⟨h1,h2,h3,hk⟩:=fU hk
   exact ⟨b,n,.inr ⟨k,by rw [(h.ev lo _ hb).int_inv]⟩,.inl ⟨rfl,rfl⟩,h1,h2,h3,hk⟩
  | some hi=>
   simp only [Option.map] at hk ⊢
   obtain ⟨k,b,hb,hk⟩:=bM hk
   obtain ⟨k',b',hb',hk⟩:=bM hk
   obtain ⟨h1,h2,h3,hk⟩:=fU hk
   exact ⟨b,b',.inr ⟨k,by rw [(h.ev lo _ hb).int_inv]⟩,.inr ⟨k',by rw [(h.ev hi _ hb').int_inv]⟩,h1,h2,h3,hk⟩
theorem winOk.bd {α:Type} {xs:List α} {wn:Option (Int×Int)} {off len:Nat} (h:winOk xs wn off len):off+len≤xs.length∧∀i,0≤i→(bB wn i).toNat=off+i.toNat∧0≤bB wn i:=by
 cases wn with
 | none=>obtain ⟨rfl,rfl⟩:=h;exact ⟨by omega,fun i hi=>by simp only [bB];omega⟩
 | some fl=>
  obtain ⟨f,l⟩:=fl
  obtain ⟨g1,g2,g3,rfl,rfl⟩:=h
  exact ⟨by omega,fun i hi=>by simp only [bB];omega⟩
theorem wY (hT:TabOk E.P Γ) (h:Rel E w a s) {d:Option Tmp} (hd:bH E d) {t:TypeId} {x:Operand} {lo hi:Option Operand} {ty:TypeId} {pos:String} {af:Array Edge} {g:Option (Nat×Bool)}
  (hk:jX Γ d t (ev s x) (lo.map (ev s)) (hi.map (ev s)) s κ=some r):Oper.wp E.P ⟨d,.slice t x lo hi none,ty,pos,af,g⟩ a w (Goes E κ r) Q:=by
 obtain ⟨pl,h⟩:=h
 unfold jX at hk
 split at hk
 ·rename_i z hx
  obtain ⟨ht,hk⟩:=aI hk
  obtain ⟨A,B,hA,hB,h0,h1,h2,hk⟩:=pD h (n:=z.size) (by omega) hk
  have hu:E.P.underlying t=some .string:=(hT.kt t _ ht).und
  have hxe:=(h.ev x _ hx).str_inv
  refine Oper.wp_of_value (v:= .string (z.extract A.toNat B.toNat)) (w':=w) ?_ (Goes.put h hd (.str _) hk)
  simp [execOp,hxe,Instr.sliceAt,Instr.slice,run_underlying hu,eZ E.P w false z.size z.size _ _ A B hA hB h0 h1 h2 (Nat.le_refl _)]
 ·obtain ⟨o,wn,nn,k,e,rw_,xs,hx,ho,hk⟩:=aX hk
  obtain ⟨ht,hk⟩:=aI hk
  have hv:=h.ev x _ hx
  obtain ⟨k1,e1,rw1,xs1,ho1,ad,cap,off,len,hw,hxe,hl,hc1,hc2,_⟩:=hv.sl_inv
  rw [ho] at ho1
  cases ho1
  obtain ⟨hTy,hxl,hmem,hro,hrow⟩:=h.objs o _ ho
  obtain ⟨hb1,hb2⟩:=hw.bd
  have hwl:=hw.lenInt
  obtain ⟨A,B,hA,hB,h0,h1,h2,hk⟩:=pD h (n:=bK xs wn) (by omega) hk
  rw [hwl] at hB h2
  obtain ⟨hA1,hA2⟩:=hb2 A h0
  obtain ⟨hB1,hB2⟩:=hb2 B (by omega)
  have hu:=hT.se t e ht
  have hrun:(execOp a.eval (⟨d,.slice t x lo hi none,ty,pos,af,g⟩:Oper)).run E.P w= .ok (.value (.slice (if cap=A.toNat then ad else ad.map (·.add (A.toNat * k.size))) (B.toNat - A.toNat) (cap - A.toNat))) w:=by
   simp [execOp,hxe,Instr.sliceAt,Instr.slice,run_underlying hu,eZ E.P w true len cap _ _ A B hA hB h0 h1 h2 hl,hTy.sizeOf]
  refine Oper.wp_of_value hrun ?_
  have haddr:0 < B.toNat - A.toNat∨(rw_=true∧0 < cap - A.toNat)→(if cap=A.toNat then ad else ad.map (·.add (A.toNat * k.size)))=some ⟨(pl o).b,(pl o).off+(off+A.toNat) * k.size,none⟩:=fun hh=>by
   rw [if_neg (by omega),hc2 (by rcases hh with hh | ⟨h3,h4⟩;exact .inl (by omega);exact .inr ⟨h3,by omega⟩)]
   simp [Addr.add_mid,Nat.add_mul,Nat.add_assoc]
  cases rw_ with
  | true=>
   simp only [cond_true] at hk
   have hpc:=hc1 rfl
   exact Goes.put h hd (.mkSl (wn:=some (bB wn A,B - A)) (nn:=false) ho (off:=off+A.toNat) (len:=B.toNat - A.toNat) ⟨hA2,by omega,by omega,by omega,by omega⟩ rfl (by omega) (fun _=>by omega) haddr (fun hn=>by cases hn)) hk
  | false=>
   simp only [cond_false] at hk
   obtain ⟨d',rfl,hn,hk⟩:=aR hk
   have hcl:(cut xs (bB wn A) (bB wn B)).length=B.toNat - A.toNat:=by
    rw [gX _ _ _ (by cases wn <;> simp only [bB] <;> omega) (by omega),hA1,hB1];omega
   have hnew:RelP E (upd pl d' ⟨(pl o).b,(pl o).off+(off+A.toNat) * k.size,(cut xs (bB wn A) (bB wn B)).length⟩) w a (s.setO d' (some (.row k e false (cut xs (bB wn A) (bB wn B))))):=
    h.new (Ext.refl w) hn _ _ (fun hh=>by cases hh.1) (fun A' hA'=>⟨hTy,Nat.le_refl _,fun hh=>(by cases hh),fun _ hne hAA=>by
      have hxs:xs≠[]:=fun e=>hne (by rw [e];exact CN _ _)
      exact (hA' _ hAA).elim (hro rfl hxs) (fun h3=>by cases h3.1.1),by
     have hst:Stay w (Av E s.objs pl) w A':=Stay.grow (fun _ _=>rfl) (fun b hb hAA=>by
      rcases hA' b hAA with h3 | ⟨⟨h3,_⟩,_⟩
      ·exact h3
      ·cases h3)
     have:=(hrow.stay hst rfl).cut (bB wn A) (bB wn B)
     rwa [hA1] at this⟩)
   exact ⟨_,⟨_,hnew.putSl (hd _ rfl) (aB _ _ _) hcl.symm (by omega) (fun hh=>by cases hh) (fun hh=>by
    rw [aC]
    exact haddr (hh.imp id (fun h=>by cases h.1))) false (fun hn=>by cases hn)⟩,hk⟩
theorem RowC.bytes (w:World) (A:Nat→Prop):∀l:List UInt8,RowC w A (.int .u8) (l.map fun b=>(b.toNat:Int)) (l.map fun b=>Value.int .u8 b.toNat)
 | []=>rfl
 | b::l=>⟨[.int .u8 b.toNat],_,rfl,rfl,RowC.bytes w A l⟩
theorem fY {α:Type} {xs:List α} (h:0 < xs.length):xs≠[]:=by rintro rfl;simp at h
theorem GV (hT:TabOk E.P Γ) (h:RelP E pl w a s) {u e:TypeId} {k:K} {y:Operand} {f:List k.den→Option β}
  (hk:vR Γ s u e k (ev s y) f=some r):
  ∃ys news,f ys=some r∧RowC w (Av E s.objs pl) k ys news∧Src E.P k.size u (a.eval y) ys.length news w:=by
 have hv:=h.ev y _ rfl
 unfold vR at hk
 split at hk
 ·rename_i hy
  rw [hy] at hv
  obtain ⟨hu,hk⟩:=aI hk
  have hve:a.eval y= .slice none 0 0:=by
   rcases hv with hv | ⟨l,_,hl⟩
   ·exact hv
   ·exact hl.elim
  exact ⟨[],[],hk,rfl,by rw [hve];exact Src.ofNil w (hT.se u e hu) 0⟩
 ·rename_i z hy
  rw [hy] at hv
  obtain ⟨hu,hk⟩:=aI hk
  obtain ⟨rfl,hk⟩:=aP hk
  refine ⟨_,byteCells z,hk,RowC.bytes w _ _,?_⟩
  have h1:(z.data.toList.map fun b=>(b.toNat:Int)).length=z.size:=by rw [List.length_map,Array.length_toList];rfl
  rw [hv.str_inv,h1]
  exact Src.ofString w (hT.kt u _ hu).und z
 ·obtain ⟨o,wn,nn,k',e',rw_,xs,hy,ho,hk⟩:=aX hk
  obtain ⟨hu,hk⟩:=aI hk
  obtain ⟨rfl,hk⟩:=aP hk
  rw [hy] at hv
  obtain ⟨k1,e1,rw1,xs1,ho1,ad,cap,off,len,hw,hxe,hl,hc1,hc2,_⟩:=hv.sl_inv
  rw [ho] at ho1
  cases ho1
  obtain ⟨hTy,hxl,hmem,hro,hrow⟩:=h.objs o _ ho
  obtain ⟨hrw,hwl⟩:=hrow.winC hw
  obtain ⟨news,hC,hrange⟩:=hrw.toC
  refine ⟨win xs wn,news,hk,hC,?_⟩
  have hnl:=hC.len
  rw [hxe,hwl]
  by_cases h0:0 < len
  ·rw [hc2 (.inl h0)]
   exact Src.ofSlice w (hT.se u e hu) _ len cap news (by rw [hnl,hwl]) (fun j v hv=>by rw [Addr.add_mid];exact hrange j v hv) hC.one
  ·have:len=0:=by omega
   subst this
   have hn:news=[]:=List.eq_nil_of_length_eq_zero (by rw [hnl,hwl];simp)
   subst hn
   cases ad with
   | none=>exact Src.ofNil w (hT.se u e hu) cap
   | some ad=>exact Src.ofSlice w (hT.se u e hu) ad 0 cap [] (by simp) (fun j v hv=>by simp at hv) (fun _ h=>by cases h)
theorem iR (P:Program) {t tx ty e:TypeId} {k:K} (hTy:TyOk P e k) (ht:P.underlying t=some (.slice e)) {x:Value} (hs:Src P k.size tx x 0 [] w) (base:Option Addr) (cap:Nat):
  (Builtin.append_ #[t,tx] ty #[.slice base 0 cap,x]).run P w= .ok (.slice base 0 cap) w:=by
 obtain ⟨i,hi,hsz,hz,_⟩:=hTy.info'
 have:=run_append_nothing (P:=P) w t tx ty e i ht hi base 0 cap (Nat.zero_le _) x (by rw [hsz];exact hs)
 simpa using this
theorem nE (P:Program) {t tx ty e:TypeId} {k:K} (hTy:TyOk P e k) (ht:P.underlying t=some (.slice e)) {x:Value} {n:Nat} {news olds:List Value} (hs:Src P k.size tx x n news w) {base:Option Addr} {len cap:Nat}
  (hold:(Builtin.firstCells k.size len (.slice base len cap)).run P w.drew= .ok olds.toArray w.drew) (hg:cap < len+n) (hn:len+n≤1099511627776):
  ∃ex:Array Value,(Builtin.append_ #[t,tx] ty #[.slice base len cap,x]).run P w= .ok (.slice (some ⟨w.heap.size,0,none⟩) (len+n) (grownCap w (len+n) cap e))
    (w.drew.alloc (.cells ((olds++news).toArray++ex) e))∧len+n≤grownCap w (len+n) cap e∧(olds.length=len * k.size→grownCap w (len+n) cap e * k.size≤((olds++news).toArray++ex).size):=by
 obtain ⟨i,hi,hsz,hz,hby⟩:=hTy.info'
 have hge:=grownCap_ge w (len+n) cap e
 have h1:=run_append_grow_src (P:=P) w t tx ty e i k.zval ht hi hz base len cap olds (by rw [hsz];exact hold) x n news (by rw [hsz];exact hs) hg (by omega) (growslice_fits hg (by
  have:=Nat.mul_le_mul hn hby
  omega))
 refine ⟨_,h1,hge,fun hl=>?_⟩
 have h3:=hs.newsLen
 simp only [Array.size_append,List.size_toArray,List.length_append,size_zeroCells,K.zval_cells,K.zcells_len,hl,h3,←Nat.add_mul]
 exact Nat.mul_le_mul_right _ (by omega)
theorem vU (hT:TabOk E.P Γ) (h:Rel E w a s) {d:Option Tmp} (hd:bH E d) {t u:TypeId} {x y:Operand} {ty:TypeId} {pos:String} {af:Array Edge} {g:Option (Nat×Bool)}
  (hk:iW Γ d t u (ev s x) (ev s y) s κ=some r):Oper.wp E.P ⟨d,.call {callee:= .builtin .append,args:=#[x,y],argTypes:=#[t,u]},ty,pos,af,g⟩ a w (Goes E κ r) Q:=by
 obtain ⟨pl,h⟩:=h
 unfold iW at hk
 obtain ⟨e,hse,hk⟩:=aA hk
 obtain ⟨k,hke,hk⟩:=aA hk
 obtain ⟨ys,news,hk,hC,hS⟩:=GV hT h hk
 have hTy:=hT.kt e k hke
 have hut:=hT.se t e hse
 have hstep:∀{v:Value} {w':World},(Builtin.append_ #[t,u] ty #[a.eval x,a.eval y]).run E.P w= .ok v w'→Goes E κ r (a.put d v) w'→Oper.wp E.P ⟨d,.call {callee:= .builtin .append,args:=#[x,y],argTypes:=#[t,u]},ty,pos,af,g⟩ a w (Goes E κ r) Q:=fun hr hg=>
  Oper.wp_of_value (by simp [execOp,resolve,invoke,builtin,hr]) hg
 have hnl:=hS.newsLen
 split at hk
 ·rename_i hx
  have hxe:a.eval x= .slice none 0 0:=by
   rcases h.ev x _ hx with hv | ⟨l,_,hl⟩
   ·exact hv
   ·exact hl.elim
  obtain ⟨hroom,hk⟩:=eX hk
  obtain ⟨d',rfl,hn,hk⟩:=aR hk
  by_cases h0:ys.length=0
  ·have hy0:ys=[]:=List.eq_nil_of_length_eq_zero h0
   subst hy0
   have hn0:news=[]:=List.eq_nil_of_length_eq_zero (by simpa using hnl)
   subst hn0
   refine hstep (by rw [hxe];exact iR E.P hTy hut hS none 0) ?_
   have hnew:RelP E (upd pl d' ⟨0,0,0⟩) w a (s.setO d' (some (.row k e true []))):=
    h.new (Ext.refl w) hn _ _ (fun hh=>absurd hh.2 (by simp)) (fun A' hA'=>⟨hTy,Nat.le_refl _,fun _ h=>absurd h (by simp),fun h=>(by cases h),RowAt.nil _ _ _ _ _⟩)
   exact ⟨_,⟨_,hnew.putSl (hd _ rfl) (aB _ _ _) (ad:=none) (len:=0) (cap:=0) rfl (Nat.le_refl _) (fun _=>by rw [aC]) (fun hh=>by rcases hh with hh | ⟨_,hh⟩ <;> omega) false (fun hn=>by cases hn)⟩,hk⟩
  ·obtain ⟨ex,hr,hge,hsz⟩:=nE (w:=w) E.P hTy hut hS (olds:=[]) (base:=none) (len:=0) (cap:=0) (by simp [Builtin.firstCells]) (by omega) (by omega) (ty:=ty)
   simp only [Nat.zero_add,List.nil_append] at hr hge hsz
   refine hstep (by rw [hxe];exact hr) ?_
   have hnew:=h.newRow (w':=w.drew.alloc (.cells (news.toArray++ex) e)) (Ext.drewAlloc w _) hTy hn true hC (row:=news.toArray++ex) (t:=e) (eY w.drew _)
    (fun j v hv=>by rw [Array.getElem?_append_left (by have:=(List.getElem?_eq_some_iff.1 hv).1;simpa using this)];simpa using hv) hge (hsz (by simp)) (.inl rfl) (fun _=>grownCap_le_maxLen w _ 0 e (by unfold maxLen;omega))
   exact ⟨_,⟨_,hnew.putSl (hd _ rfl) (aB _ _ _) rfl hge (fun _=>by rw [aC]) (fun _=>by rw [aC]) false (fun hn=>by cases hn)⟩,hk⟩
 ·obtain ⟨o,wn,nn,k',e',rw_,xs,hx,ho,hk⟩:=aX hk
  have hh:=aI hk
  clear hk
  obtain ⟨⟨hrw,he⟩,hk⟩:=hh
  subst hrw
  subst he
  have hh:=aP hk
  clear hk
  obtain ⟨he,hk⟩:=hh
  subst he
  simp only at hk
  obtain ⟨hroom,hk⟩:=eX hk
  obtain ⟨k1,e1,rw1,xs1,ho1,ad,cap,off,len,hw,hxe,hl,hc1,hc2,_⟩:=(h.ev x _ hx).sl_inv
  rw [ho] at ho1
  cases ho1
  obtain ⟨_,hxl,hmem,hro,hrow⟩:=h.objs o _ ho
  obtain ⟨hrw,hwl⟩:=hrow.winC hw
  obtain ⟨olds,hCo,hro'⟩:=hrw.toC
  have hol:=hCo.len
  rw [hwl] at hol hroom
  have hpc:=hc1 rfl
  have hfin:∀{pl':Nat→Pl} {w':World} {ad':Option Addr} {cap':Nat},RelP E pl' w' a ((s.kill o).setO o (some (.row k' e' true (win xs wn++ys))))→len+ys.length≤cap'→(pl' o).cap=cap'→(0 < cap'→ad'=some ⟨(pl' o).b,(pl' o).off,none⟩)→
    Goes E κ r (a.put d (.slice ad' (len+ys.length) cap')) w':=fun {pl' w' ad' cap'} hrel hle hcap had=>
   Goes.put hrel hd (VRep.mkSl (o:=o) (wn:=none) (nn:=false) (aB _ _ _) (off:=0) (len:=len+ys.length) ⟨rfl,by rw [List.length_append,hwl]⟩ rfl hle (fun _=>by rw [hcap];omega) (fun hh=>by rw [had (by omega)];simp) (fun hn=>by cases hn)) hk
  by_cases hfit:len+ys.length≤cap
  ·by_cases hcap:0 < cap
   ·have had:=hc2 (.inr ⟨rfl,hcap⟩)
    obtain ⟨row,tt,hrowm,hrsz⟩:=hmem rfl (by omega)
    have hth:w.there (pl o).b ((pl o).off+off * k'.size+len * k'.size) news.length:=by
     refine bY hrowm ?_
     have:=Nat.mul_le_mul_right k'.size (show off+len+ys.length≤(pl o).cap by omega)
     rw [Nat.add_mul,Nat.add_mul] at this
     omega
    obtain ⟨i,hi,hsz,hz,hby⟩:=hTy.info'
    have hr:=run_append_room_src (P:=E.P) w t u ty e' i hut hi (pl o).b ((pl o).off+off * k'.size) len cap (a.eval y) ys.length news (by rw [hsz];exact hS) hfit (by rw [hsz];exact fun j hj=>(hth j hj).1) (by rw [hsz];exact fun j hj=>(hth j hj).2)
    rw [hsz] at hr
    refine hstep (by rw [hxe,had];exact hr) ?_
    obtain ⟨row',hrow',hsz'⟩:=hrowm.setCells ((pl o).off+off * k'.size+len * k'.size) news
    have hblt:(pl o).b < (w.setCells (pl o).b ((pl o).off+off * k'.size+len * k'.size) news).heap.size:=hrow'.lt
    have hrel:=h.repl ho (w':=w.setCells (pl o).b ((pl o).off+off * k'.size+len * k'.size) news) (by
      have:=Wr.setCells (pl o).b news ((pl o).off+off * k'.size+len * k'.size) w
      exact ⟨this.os,this.tape,this.output,this.size,fun b hb hn=>this.block b hb (fun hh=>hn ⟨⟨rfl,by omega⟩,hh.2⟩)⟩)
     (.row k' e' true (win xs wn++ys)) ⟨(pl o).b,(pl o).off+off * k'.size,cap⟩ (fun _=>⟨.inl ⟨⟨rfl,by omega⟩,rfl⟩,hblt⟩)
     (fun A' hA' hst=>⟨hTy,by rw [List.length_append,hwl];exact hfit,fun _ _=>⟨row',tt,hrow',by
       rw [hsz']
       have:off * k'.size+cap * k'.size=(pl o).cap * k'.size:=by rw [←Nat.add_mul,hpc]
       simp only
       omega⟩,fun h=>(by cases h),(((hCo.stay hst).app (hC.stay hst))).toAt (fun j v hv=>by
      by_cases hj:j < olds.length
      ·rw [List.getElem?_append_left hj] at hv
       rw [World.cell?_setCells_out _ _ _ _ ⟨_,_,none⟩ (fun _ _=>by left;show (pl o).off+off * k'.size+j < _;omega)]
       exact hro' j v hv
      ·rw [List.getElem?_append_right (by omega)] at hv
       have hjn:j - olds.length < news.length:=(List.getElem?_eq_some_iff.1 hv).1
       have:=World.cell?_setCells_in (pl o).b news ((pl o).off+off * k'.size+len * k'.size) w (fun i hi=>(hth i hi).1) (j - olds.length) hjn
       rw [←hv,List.getElem?_eq_getElem hjn,←this]
       congr 2
       simp only
       omega)⟩)
    exact hfin hrel hfit (by rw [aC]) (fun _=>by rw [aC])
   ·have hy0:ys=[]:=List.eq_nil_of_length_eq_zero (by omega)
    subst hy0
    have hn0:news=[]:=List.eq_nil_of_length_eq_zero (by simpa using hnl)
    subst hn0
    obtain rfl:len=0:=by omega
    obtain rfl:cap=0:=by omega
    refine hstep (by rw [hxe];exact iR E.P hTy hut hS ad 0) ?_
    have hw0:win xs wn=[]:=List.eq_nil_of_length_eq_zero hwl
    have hrel:=h.repl ho (Wr.refl w _ _) (.row k' e' true (win xs wn++[])) ⟨0,0,0⟩ (fun hh=>absurd hh.2 (by simp)) (fun A' hA' hst=>⟨hTy,by simp [hw0],fun _ h=>absurd h (by simp),fun h=>(by cases h),by rw [hw0];exact RowAt.nil _ _ _ _ _⟩)
    exact hfin hrel (by simp) (by rw [aC]) (fun h=>by omega)
  ·have hold:(Builtin.firstCells k'.size len (.slice ad len cap)).run E.P w.drew= .ok olds.toArray w.drew:=by
    by_cases h0:0 < len
    ·rw [hc2 (.inl h0)]
     exact run_firstCells_some w.drew k'.size len _ len cap olds hol (fun j v hv=>by rw [Addr.add_mid];exact hro' j v hv)
    ·obtain rfl:len=0:=by omega
     have ho0:olds=[]:=List.eq_nil_of_length_eq_zero (by rw [hol];simp)
     subst ho0
     cases ad with
     | none=>exact run_firstCells_none w.drew _ _ _ _
     | some ad=>exact run_firstCells_some w.drew k'.size 0 ad 0 cap [] (by simp) (fun j v hv=>by simp at hv)
   obtain ⟨ex,hr,hge,hsz⟩:=nE (w:=w) E.P hTy hut hS hold (by omega) hroom (ty:=ty)
   refine hstep (by rw [hxe];exact hr) ?_
   have hx:Ext w (w.drew.alloc (.cells ((olds++news).toArray++ex) e')):=Ext.drewAlloc w _
   have hrowm:(w.drew.alloc (.cells ((olds++news).toArray++ex) e')).heap[w.heap.size]? =some (.cells ((olds++news).toArray++ex) e' (0,0)):=eY w.drew _
   have hrel:=h.repl ho (hx.wr _ _) (.row k' e' true (win xs wn++ys)) ⟨w.heap.size,0,grownCap w (len+ys.length) cap e'⟩ (fun _=>⟨.inr (Nat.le_refl _),(Array.getElem?_eq_some_iff.1 hrowm).1⟩)
    (fun A' hA' hst=>⟨hTy,by rw [List.length_append,hwl];exact hge,fun _ _=>⟨_,_,CellsAt.mk hrowm,by simpa using hsz hol,grownCap_le_maxLen w _ cap e' (by unfold maxLen;omega)⟩,fun h=>(by cases h),((hCo.stay hst).app (hC.stay hst)).toAt (fun j v hv=>by
     rw [Nat.zero_add,cell_of_row _ _ _ _ _ _ hrowm,Array.getElem?_append_left (by have:=(List.getElem?_eq_some_iff.1 hv).1;simpa using this)]
     simpa using hv)⟩)
   exact hfin hrel hge (by rw [aC]) (fun _=>by rw [aC])
end
end Go.Proofs.YtoafkjeamgelgaaDoorHF

namespace Go.Proofs.YtoafkjeamgelgaaDoorHF
open Go
set_option linter.unusedVariables false
set_option linter.unusedSimpArgs false
theorem iQ (s:BA):∀b i,(eF s b i).length≤b
 | 0,_=>by simp [eF]
 | b+1,i=>by
  unfold eF
  split
  ·simpa using iQ s b _
  ·simp
theorem iP (s:BA):(bN s).length≤s.size:=iQ s _ _
theorem kS (s:BA):∀b i (acc:Array Value),Conv.runesFrom s b i acc=acc++((eF s b i).map (Value.int .i32)).toArray
 | 0,_,acc=>by simp [Conv.runesFrom,eF]
 | b+1,i,acc=>by
  unfold Conv.runesFrom eF
  by_cases h:i < s.size
  ·simp only [h,if_true]
   rw [kS s b _ _]
   simp
  ·simp [h]
theorem kU (s:BA):Conv.runesFrom s s.size 0 #[]=((bN s).map (Value.int .i32)).toArray:=by
 rw [kS];simp [bN]
theorem RowC.ints (w:World) (A:Nat→Prop) (k:IntKind):∀l:List Int,RowC w A (.int k) l (l.map (Value.int k))
 | []=>rfl
 | b::l=>⟨[.int k b],_,rfl,rfl,RowC.ints w A k l⟩
theorem RowAt.int_cell {w:World} {A:Nat→Prop} {k:IntKind} {b off:Nat} {xs:List Int} (h:RowAt w A (.int k) b off xs) {i:Nat} (hi:i < xs.length):w.cell? ⟨b,off+i,none⟩=some (.int k xs[i]):=by
 obtain ⟨ds,hd,hc⟩:=h i xs[i] (List.getElem?_eq_getElem hi)
 obtain rfl:ds=[Value.int k xs[i]]:=hd
 have:=hc 0 (by simp [K.size])
 simpa [K.size] using this
section
variable {E:Env} {pl:Nat→Pl} {Γ:Ctx} {w w':World} {a:Act} {s:FState} {β:Type} {r:β} {κ:FState→Option β} {Q:Exit→Act→World→Prop}
theorem sJ {c:Bool} {x:Option β} (h:(bif c then x else none)=some r):c=true∧x=some r:=by
 cases c
 ·cases h
 ·exact ⟨rfl,h⟩
theorem jP (w:World) (o:Obj):(w.drew.alloc o).heap[w.heap.size]? =some o:=by
 show (w.heap.push o)[w.heap.size]? =_
 simp
theorem mR (hT:TabOk E.P Γ) (h:Rel E w a s) {d:Nat} (hd:E.ok d) {src dst e:TypeId} {x:Operand} {ty:TypeId} {pos:String} {af:Array Edge} {g:Option (Nat×Bool)} {z:BA} (hx:ev s x= .dat .str z)
  (he:lk Γ.se dst=some e) (hs:lk Γ.kt src=some .str) (hk8:lk Γ.kt e=some (.int .i32)) (hsz:z.size≤70368744177664) (hn:s.objs d=none) (hk:κ ((s.setO d (some (.row (.int .i32) e true (bN z)))).set d (.sl d none false))=some r):
  Oper.wp E.P ⟨some d,.convert src dst x,ty,pos,af,g⟩ a w (Goes E κ r) Q:=by
 obtain ⟨pl,h⟩:=h
 have hu0:E.P.underlying src=some .string:=(hT.kt src _ hs).und
 have hu:=hT.se dst e he
 have hTy:=hT.kt e _ hk8
 have hue:E.P.underlying e=some (.int .i32):=hTy.und
 have hxe:=(h.ev x _ hx).str_inv
 have hl:=iP z
 have hrun:=run_runes_of_string (P:=E.P) w src dst e z hu0 hu hue (by rw [kU];simp;omega)
 rw [kU] at hrun
 simp only [List.size_toArray,List.length_map] at hrun
 have hge:=grownCap_ge w (bN z).length 0 e
 have hnew:=h.newRow (w':=w.drew.alloc (.cells (((bN z).map (Value.int .i32)).toArray++Array.replicate (grownCap w (bN z).length 0 e - (bN z).length) (.int .i32 0)) e)) (Ext.drewAlloc _ _) hTy hn true (RowC.ints w _ .i32 (bN z))
  (jP _ _) (fun j v hv=>by
   have hj:=(List.getElem?_eq_some_iff.1 hv).1
   rw [Array.getElem?_append_left (by simpa using hj)]
   simpa using hv) (cap:=grownCap w (bN z).length 0 e) hge (by simp [K.size];omega) (.inl rfl) (fun _=>grownCap_le_maxLen w _ 0 e (by unfold maxLen;omega))
 have hput:=hnew.putSl hd (aB _ _ _) (ad:=some ⟨w.heap.size,0,none⟩) (len:=(bN z).length) (cap:=grownCap w (bN z).length 0 e) rfl hge (fun _=>by rw [aC]) (fun _=>by rw [aC]) false (fun hh=>by cases hh)
 refine Oper.wp_of_value ?_ ⟨_,⟨_,hput⟩,hk⟩
 simp [execOp,hxe,hrun]
theorem mG (hT:TabOk E.P Γ) (h:Rel E w a s) {d:Nat} (hd:E.ok d) {src dst e:TypeId} {x:Operand} {ty:TypeId} {pos:String} {af:Array Edge} {g:Option (Nat×Bool)} {z:BA} (hx:ev s x= .dat .str z)
  (he:lk Γ.se dst=some e) (hs:lk Γ.kt src=some .str) (hk8:lk Γ.kt e=some (.int .u8)) (hsz:z.size≤70368744177664) (hn:s.objs d=none) (hk:κ ((s.setO d (some (.row (.int .u8) e true (aE z)))).set d (.sl d none true))=some r):
  Oper.wp E.P ⟨some d,.convert src dst x,ty,pos,af,g⟩ a w (Goes E κ r) Q:=by
 obtain ⟨pl,h⟩:=h
 have hu0:E.P.underlying src=some .string:=(hT.kt src _ hs).und
 have hu:=hT.se dst e he
 have hTy:=hT.kt e _ hk8
 have hue:E.P.underlying e=some (.int .u8):=hTy.und
 have hxe:=(h.ev x _ hx).str_inv
 have hrun:=run_bytes_of_string (P:=E.P) w src dst e z hu0 hu hue
 have hlen:(aE z).length=z.size:=by unfold aE;rw [List.length_map];rfl
 have hge:=grownCap_ge w z.size 0 e
 have hbs:(bytesRow z (grownCap w z.size 0 e)).size=grownCap w z.size 0 e:=by
  have h1:z.data.size=z.size:=rfl
  unfold bytesRow;simp [h1];omega
 have hnew:=h.newRow (w':=w.drew.alloc (.cells (bytesRow z (grownCap w z.size 0 e)) e ((bytesRow z (grownCap w z.size 0 e)).size,(bytesRow z (grownCap w z.size 0 e)).size+1))) (Ext.drewAlloc _ _) hTy hn true (RowC.bytes w _ z.data.toList)
  (jP _ _) (fun j v hv=>by
   have hj:=(List.getElem?_eq_some_iff.1 hv).1
   unfold bytesRow
   rw [Array.getElem?_append_left (by simpa using hj)]
   simpa using hv) (cap:=grownCap w z.size 0 e) (by rw [List.length_map];exact hge) (by rw [hbs];simp [K.size]) (.inr (Nat.le_refl _)) (fun _=>grownCap_le_maxLen w _ 0 e (by unfold maxLen;omega))
 have hput:=hnew.putSl hd (aB _ _ _) (ad:=some ⟨w.heap.size,0,none⟩) (len:=z.size) (cap:=grownCap w z.size 0 e) hlen.symm hge (fun _=>by rw [aC]) (fun _=>by rw [aC]) true (fun _ hh=>by cases hh)
 refine Oper.wp_of_value ?_ ⟨_,⟨_,hput⟩,hk⟩
 simp [execOp,hxe,hrun]
theorem nB (w:World) (b n:Nat) {cs:Array Value} {t:TypeId} {fz:Nat×Nat} (h:w.heap[b]? =some (.cells cs t fz)):(w.freeze ⟨b,n,none⟩ 1).heap[b]? =some (.cells cs t (if fz.1==fz.2 then (n,n+1) else (min fz.1 n,max fz.2 (n+1)))):=by
 obtain ⟨lo,hi⟩:=fz
 simp [World.freeze,Array.getElem?_modify,h]
theorem Wr.freeze (w:World) (b n:Nat):Wr w (w.freeze ⟨b,n,none⟩ 1) True b:=
 ⟨rfl,rfl,rfl,by simp [World.freeze],fun k hk hn=>by
  simp only [World.freeze,Nat.one_ne_zero,if_false,Array.getElem?_modify]
  rw [if_neg (fun e=>hn ⟨trivial,e.symm⟩)]⟩
theorem CellsAt.freeze {w:World} {b:Nat} {cs:Array Value} {t:TypeId} (h:CellsAt w b cs t):CellsAt (w.freeze ⟨b,cs.size,none⟩ 1) b cs t:=by
 obtain ⟨fz,h,hf⟩:=h
 refine ⟨_,nB w b cs.size h,.inr ?_⟩
 split
 ·exact Nat.le_refl _
 ·rename_i hne
  rcases hf with rfl | hf
  ·simp at hne
  ·exact Nat.le_min.2 ⟨hf,Nat.le_refl _⟩
theorem RowAt.cells_same {w w':World} {A A':Nat→Prop} (hst:Stay w A w' A') {k:K} {b off:Nat} {xs:List k.den} (h:RowAt w A k b off xs) (hc:∀o,w'.cell? ⟨b,o,none⟩=w.cell? ⟨b,o,none⟩):RowAt w' A' k b off xs:=fun i x hi=>
 let ⟨ds,hd,hx⟩:=h i x hi;⟨ds,hd.stay hst,fun j hj=>(hc _).trans (hx j hj)⟩
theorem nR (hT:TabOk E.P Γ) (h:Rel E w a s) {d:Option Tmp} (hd:bH E d) {src:TypeId} {x:Operand} {ty:TypeId} {pos:String} {af:Array Edge} {g:Option (Nat×Bool)} {o:Nat} {wn:Option (Int×Int)} (hx:ev s x= .sl o wn true)
  {e:TypeId} (he:lk Γ.se src=some e) (hk8:lk Γ.kt e=some (.int .u8)) {k':K} {e':TypeId} {xs:List k'.den} (ho:s.objs o=some (.row k' e' true xs)) (hne:0 < bK xs wn) (hk:κ (s.put d (.sl o wn true))=some r):
  Oper.wp E.P ⟨d,.convert src src x,ty,pos,af,g⟩ a w (Goes E κ r) Q:=by
 obtain ⟨pl,h⟩:=h
 have hu:=hT.se src e he
 have hue:E.P.underlying e=some (.int .u8):=(hT.kt e _ hk8).und
 obtain ⟨k1,e1,rw1,xs1,ho1,ad,cap,off,len,hw,hxe,hl,hc1,hc2,hnn⟩:=(h.ev x _ hx).sl_inv
 rw [ho] at ho1
 cases ho1
 obtain ⟨hTy,hxl,hmem,hro,hrow⟩:=h.objs o _ ho
 have hlen:0 < len:=by
  cases wn with
  | none=>obtain ⟨_,rfl⟩:=hw;simpa [bK] using hne
  | some p=>obtain ⟨f,l⟩:=p;obtain ⟨_,h2,_,_,rfl⟩:=hw;simp only [bK] at hne;omega
 have hcp:0 < (pl o).cap:=by
  have:=hc1 rfl
  omega
 obtain ⟨cs,tt,hcells,hsz⟩:=hmem rfl hcp
 have had:=hc2 (.inl hlen)
 have hsh:w.shape? (pl o).b=some (tt,cs.size):=by
  obtain ⟨fz,hc,_⟩:=hcells
  unfold World.shape?;rw [hc]
 have hcell:∀o',(w.freeze ⟨(pl o).b,cs.size,none⟩ 1).cell? ⟨(pl o).b,o',none⟩=w.cell? ⟨(pl o).b,o',none⟩:=fun o'=>by
  obtain ⟨fz,hc,_⟩:=hcells
  rw [cell_of_row _ _ _ _ _ _ (nB w _ cs.size hc),cell_of_row _ _ _ _ _ _ hc]
 have hs':s.setO o (some (.row k' e' true xs))=s:=by
  unfold FState.setO
  congr 1
  funext t
  by_cases ht:t=o
  ·subst ht;rw [Nat.beq_refl,cond_true];exact ho.symm
  ·rw [cF ht,cond_false]
 have hwr:=h.write (obj':= .row k' e' true xs) ho ⟨_,rfl,rfl⟩ ⟨rfl,hcp⟩ (Wr.freeze w (pl o).b cs.size) (fun A' hA' hst=>⟨hTy,hxl,fun _ _=>⟨cs,tt,hcells.freeze,hsz⟩,fun h=>(by cases h),hrow.cells_same hst hcell⟩)
 rw [hs'] at hwr
 refine Oper.wp_of_value (v:= .slice ad len cap) (w':=w.freeze ⟨(pl o).b,cs.size,none⟩ 1) ?_ ⟨_,⟨pl,hwr.put hd (show VRep _ _ _ _ (.sl o wn true) (.slice ad len cap) from .inl ⟨k',e',true,xs,ho,ad,cap,off,len,hw,rfl,hl,hc1,hc2,hnn⟩)⟩,hk⟩
 rw [had] at hxe ⊢
 simp [execOp,hxe,convert,run_underlying hu,run_underlying hue,markStringish,hsh]
theorem nP (hT:TabOk E.P Γ) (h:Rel E w a s) {d:Option Tmp} (hd:bH E d) {src dst e:TypeId} {x:Operand} {ty:TypeId} {pos:String} {af:Array Edge} {g:Option (Nat×Bool)} {o:Nat} {wn:Option (Int×Int)} {nn:Bool} (hx:ev s x= .sl o wn nn)
  (he:lk Γ.se src=some e) (hs:lk Γ.kt dst=some .str) (hk8:lk Γ.kt e=some (.int .u8)) {e':TypeId} {rw_:Bool} {xs:List Int} (ho:s.objs o=some (.row (.int .u8) e' rw_ xs)) (hk:κ (s.put d (.dat .str (strOfNums (win xs wn))))=some r):
  Oper.wp E.P ⟨d,.convert src dst x,ty,pos,af,g⟩ a w (Goes E κ r) Q:=by
 obtain ⟨pl,h⟩:=h
 have hu0:E.P.underlying dst=some .string:=(hT.kt dst _ hs).und
 have hu:=hT.se src e he
 have hue:E.P.underlying e=some (.int .u8):=(hT.kt e _ hk8).und
 obtain ⟨k1,e1,rw1,xs1,ho1,ad,cap,off,len,hw,hxe,hl,hc1,hc2,_⟩:=(h.ev x _ hx).sl_inv
 rw [ho] at ho1
 cases ho1
 obtain ⟨_,_,_,_,hrow⟩:=h.objs o _ ho
 obtain ⟨hrow',hlen⟩:=hrow.winC hw
 refine Oper.wp_of_value (v:= .string (strOfNums (win xs wn))) (w':=w) ?_ (Goes.put h hd (.str _) hk)
 by_cases h0:len=0
 ·have hnil:win xs wn=[]:=List.eq_nil_of_length_eq_zero (by omega)
  subst h0
  have:=run_convert_bytes_zero (P:=E.P) w src e hu hue ad cap dst hu0
  simp [execOp,hxe,this,hnil,strOfNums]
  rfl
 ·rw [hc2 (.inl (by omega))] at hxe
  have:=run_convert_bytes_arg (P:=E.P) w src e hu hue (pl o).b ((pl o).off+off * K.size (.int .u8)) len cap (win xs wn) hlen (fun i hi=>by
   rw [hrow'.int_cell (show i < (win xs wn).length by rw [hlen];exact hi)]
   simp [List.getD,List.getElem?_eq_getElem (show i < (win xs wn).length by rw [hlen];exact hi)]) dst hu0
  simp [execOp,hxe,this]
theorem mP (hT:TabOk E.P Γ) (h:Rel E w a s) {d:Option Tmp} (hd:bH E d) {src dst e:TypeId} {x:Operand} {ty:TypeId} {pos:String} {af:Array Edge} {g:Option (Nat×Bool)} {o:Nat} {wn:Option (Int×Int)} {nn:Bool} (hx:ev s x= .sl o wn nn)
  (he:lk Γ.se src=some e) (hs:lk Γ.kt dst=some .str) (hk8:lk Γ.kt e=some (.int .i32)) {e':TypeId} {rw_:Bool} {xs:List Int} (ho:s.objs o=some (.row (.int .i32) e' rw_ xs)) (hk:κ (s.put d (.dat .str (runesBytes (win xs wn))))=some r):
  Oper.wp E.P ⟨d,.convert src dst x,ty,pos,af,g⟩ a w (Goes E κ r) Q:=by
 obtain ⟨pl,h⟩:=h
 have hu0:E.P.underlying dst=some .string:=(hT.kt dst _ hs).und
 have hu:=hT.se src e he
 have hue:E.P.underlying e=some (.int .i32):=(hT.kt e _ hk8).und
 obtain ⟨k1,e1,rw1,xs1,ho1,ad,cap,off,len,hw,hxe,hl,hc1,hc2,_⟩:=(h.ev x _ hx).sl_inv
 rw [ho] at ho1
 cases ho1
 obtain ⟨_,_,_,_,hrow⟩:=h.objs o _ ho
 obtain ⟨hrow',hlen⟩:=hrow.winC hw
 refine Oper.wp_of_value (v:= .string (runesBytes (win xs wn))) (w':=w) ?_ (Goes.put h hd (.str _) hk)
 by_cases h0:len=0
 ·have hnil:win xs wn=[]:=List.eq_nil_of_length_eq_zero (by omega)
  subst h0
  rcases ad with _ | ad
  ·have:=run_convert_runes_nil (P:=E.P) w src dst e 0 cap hu hue hu0
   simp [execOp,hxe,this,hnil,runesBytes]
  ·have:=run_convert_runes (P:=E.P) w src dst e ad 0 cap [] (by simp) hu hue hu0 (fun j hj=>by simp at hj)
   simp [execOp,hxe,this,hnil,runesBytes]
 ·rw [hc2 (.inl (by omega))] at hxe
  have:=run_convert_runes (P:=E.P) w src dst e ⟨(pl o).b,(pl o).off+off * K.size (.int .i32),none⟩ len cap (win xs wn) (by omega) hu hue hu0 (fun j hj=>by
   rw [Addr.add_mid]
   rw [hrow'.int_cell hj]
   simp [List.getD,List.getElem?_eq_getElem hj])
  rw [List.take_of_length_le (by omega)] at this
  simp [execOp,hxe,this]
theorem xK (hT:TabOk E.P Γ) (h:Rel E w a s) {d:Option Tmp} (hd:bH E d) {src dst:TypeId} {x:Operand} {ty:TypeId} {pos:String} {af:Array Edge} {g:Option (Nat×Bool)}
  (hk:hJ Γ d src dst (ev s x) s κ=some r):Oper.wp E.P ⟨d,.convert src dst x,ty,pos,af,g⟩ a w (Goes E κ r) Q:=by
 unfold hJ at hk
 split at hk
 ·rename_i z hx
  split at hk
  ·rename_i e he
   split at hk
   ·rename_i hs ht
    obtain ⟨hz,hk⟩:=sJ hk
    obtain ⟨d',rfl,hn,hk⟩:=aR hk
    exact mR hT h (hd _ rfl) hx he hs ht (Nat.le_of_ble_eq_true hz) hn hk
   ·rename_i hs ht
    obtain ⟨hz,hk⟩:=sJ hk
    obtain ⟨d',rfl,hn,hk⟩:=aR hk
    exact mG hT h (hd _ rfl) hx he hs ht (Nat.le_of_ble_eq_true hz) hn hk
   ·cases hk
  ·exact pV hT h hd hk
 ·rename_i hx
  obtain ⟨pl,h⟩:=h
  have hxe:a.eval x= .slice none 0 0:=by
   rcases h.ev x _ hx with hv | ⟨l,_,hl⟩
   ·exact hv
   ·exact hl.elim
  split at hk
  ·rename_i e he hs
   have hu0:E.P.underlying dst=some .string:=(hT.kt dst _ hs).und
   have hu:=hT.se src e he
   split at hk
   ·rename_i ht
    have hue:E.P.underlying e=some (.int .u8):=(hT.kt e _ ht).und
    refine Oper.wp_of_value (v:= .string ⟨#[]⟩) (w':=w) ?_ (Goes.put h hd (.str _) hk)
    have:=run_convert_bytes_nil (P:=E.P) w src e hu hue 0 0 dst hu0
    simp [execOp,hxe,this]
    rfl
   ·rename_i ht
    have hue:E.P.underlying e=some (.int .i32):=(hT.kt e _ ht).und
    refine Oper.wp_of_value (v:= .string ⟨#[]⟩) (w':=w) ?_ (Goes.put h hd (.str _) hk)
    have:=run_convert_runes_nil (P:=E.P) w src dst e 0 0 hu hue hu0
    simp [execOp,hxe,this]
    rfl
   ·cases hk
  ·cases hk
 ·rename_i o0 w0 nn0 hx
  obtain ⟨o,wn,nn,k',e',rw_,xs,hx',ho,hk⟩:=aX hk
  cases hx'
  split at hk
  ·rename_i e e2 k2 he hs
   have hh:=aI hk
   clear hk
   obtain ⟨⟨hsd,hn,hr,h8⟩,hk⟩:=hh
   obtain ⟨_,hpos,hkk⟩:=jC hk
   subst hsd
   subst hn
   subst hr
   exact nR hT h hd hx he h8 ho hpos hkk
  ·rename_i e he hs
   split at hk
   ·rename_i ht
    have hh:=aP hk
    clear hk
    obtain ⟨hk',hk⟩:=hh
    subst hk'
    exact nP hT h hd hx he hs ht ho hk
   ·rename_i ht
    have hh:=aP hk
    clear hk
    obtain ⟨hk',hk⟩:=hh
    subst hk'
    exact mP hT h hd hx he hs ht ho hk
   ·cases hk
  ·cases hk
 ·exact pV hT h hd hk
end
end Go.Proofs.YtoafkjeamgelgaaDoorHF

namespace Go.Proofs.YtoafkjeamgelgaaDoorHF
open Go
set_option linter.unusedVariables false
set_option linter.unusedSimpArgs false
theorem RowC.rep {w:World} {A:Nat→Prop} {k:K} {x:k.den} {cs:List Value} (h:RepD w A k x cs):∀n:Nat,RowC w A k (List.replicate n x) ((List.replicate n cs).flatten)
 | 0=>rfl
 | n+1=>⟨cs,(List.replicate n cs).flatten,by simp [List.replicate_succ],h,RowC.rep h n⟩
theorem DI {α:Type} (cs:List α):∀(n j:Nat) (v:α),((List.replicate n cs).flatten)[j]? =some v→j < n * cs.length∧cs[j % cs.length]? =some v
 | 0,j,v,h=>by simp at h
 | n+1,j,v,h=>by
  rw [List.replicate_succ,List.flatten_cons] at h
  by_cases hj:j < cs.length
  ·rw [List.getElem?_append_left hj] at h
   rw [Nat.mod_eq_of_lt hj]
   refine ⟨?_,h⟩
   rw [Nat.add_mul];omega
  ·rw [List.getElem?_append_right (by omega)] at h
   obtain ⟨h1,h2⟩:=DI cs n _ v h
   rw [Nat.add_mul]
   refine ⟨by omega,?_⟩
   rw [Nat.mod_eq_sub_mod (by omega)];exact h2
theorem rJ {α:Type} (xs:List α) (off len:Int) (ys:List α) (h0:0≤off) (h1:0≤len) (h:off+len≤xs.length):(eM xs off len ys).length=xs.length:=by
 simp [eM];omega
theorem zW {α:Type} (xs:List α) (off len:Int) (ys:List α) (h0:0≤off) (h1:0≤len) (h:off+len≤xs.length) (i:Nat):
  (eM xs off len ys)[i]? =if off.toNat≤i∧i < off.toNat+min len.toNat ys.length then ys[i - off.toNat]? else xs[i]? :=by
 unfold eM
 have ho:(xs.take off.toNat).length=off.toNat:=by simp;omega
 have hy:(ys.take (min len.toNat ys.length)).length=min len.toNat ys.length:=by simp
 by_cases h2:i < off.toNat
 ·rw [if_neg (by omega),List.append_assoc,List.getElem?_append_left (by omega),List.getElem?_take,if_pos h2]
 ·by_cases h3:i < off.toNat+min len.toNat ys.length
  ·rw [if_pos ⟨by omega,h3⟩,List.getElem?_append_left (by rw [List.length_append];omega),List.getElem?_append_right (by omega),ho,List.getElem?_take,if_pos (by omega)]
  ·rw [if_neg (by omega),List.getElem?_append_right (by rw [List.length_append];omega),List.length_append,ho,hy,List.getElem?_drop]
   congr 1;omega
theorem rB {P:Program} (w:World) (dT sT ty elem:TypeId) (m:Nat) (A B:Option Addr) (dLen dCap sLen sCap g off:Nat) (cs:List Value)
  (hu:P.underlying dT=some (.slice elem)) (hs:∀w,(sizeOf elem).run P w= .ok m w) (hn:cs.length=Nat.min sLen dLen * m)
  (hpos:0 < cs.length→A=some ⟨g,off,none⟩∧∃ad,B=some ad∧∀j v,cs[j]? =some v→w.cell? (ad.add j)=some v)
  (hc:∀j,j < cs.length→(w.cell? ⟨g,off+j,none⟩).isSome=true∧w.frozen? ⟨g,off+j,none⟩=false) (h1:∀v∈cs,v.oneCell'=true):
  (Builtin.copy_ #[dT,sT] ty #[.slice A dLen dCap,.slice B sLen sCap]).run P w= .ok (goInt (Nat.min sLen dLen)) (w.setCells g off cs):=by
 by_cases h0:cs.length=0
 ·obtain rfl:cs=[]:=List.eq_nil_of_length_eq_zero h0
  have hz:Nat.min sLen dLen * m=0:=by simpa using hn.symm
  have hl:∀(x:Addr),(loadCells x 0).run P w= .ok #[] w:=fun x=>by simpa using run_loadCells_list (P:=P) w x [] (by simp)
  have hsc:w.setCells g off []=w:=rfl
  cases A <;> cases B <;> simp [Builtin.copy_,run_underlying hu,Builtin.lenOf,Builtin.firstCells,hs,hz,storeCells,hl,hsc]
 ·obtain ⟨rfl,ad,rfl,hsrc⟩:=hpos (by omega)
  have hl:=run_loadCells_list (P:=P) w ad cs hsrc
  have hst:=run_storeCells_cells (P:=P) g off cs 0 w (by simpa using fun j hj=>(hc j hj).1) (by simpa using fun j hj=>(hc j hj).2) h1
  simp [Builtin.copy_,run_underlying hu,Builtin.lenOf,Builtin.firstCells,hs,←hn,hl,hst]
section
variable {E:Env} {pl:Nat→Pl} {Γ:Ctx} {w w':World} {a:Act} {s:FState} {β:Type} {r:β} {κ:FState→Option β} {Q:Exit→Act→World→Prop}
theorem YR {A:Nat→Prop} {O:cE} (b:Bool) (n m:Int):VRep w A O pl (.tcons (.dat .bool b) (.tcons (.dat (.int .i64) n) (.tcons (.dat (.int .i32) m) .tnil))) (.tuple #[.bool b,goInt n,.int .i32 m]):=
 .inr ⟨[.bool b,goInt n,.int .i32 m],rfl,.bool b,_,rfl,⟨_,rfl,rfl⟩,goInt n,_,rfl,⟨_,rfl,rfl⟩,.int .i32 m,_,rfl,⟨_,rfl,rfl⟩,rfl⟩
theorem YV {A:Nat→Prop} {O:cE} (b:Bool):VRep w A O pl (.tcons (.dat .bool b) .tnil) (.tuple #[.bool b]):= .inr ⟨[.bool b],rfl,.bool b,_,rfl,⟨_,rfl,rfl⟩,rfl⟩
theorem sS {n:Int} {κ:Option β} (h:LI n κ=some r):n≤1099511627776∧κ=some r:=aI h
theorem BN (hT:TabOk E.P Γ) (h:Rel E w a s) {d:Option Tmp} (hd:bH E d) {t:TypeId} {x y:Operand} {ty:TypeId} {pos:String} {af:Array Edge} {g:Option (Nat×Bool)}
  (hk:wC Γ d t (ev s x) (ev s y) s κ=some r):Oper.wp E.P ⟨d,.makeSlice t x y,ty,pos,af,g⟩ a w (Goes E κ r) Q:=by
 obtain ⟨pl,h⟩:=h
 unfold wC at hk
 obtain ⟨e,hse,hk⟩:=aA hk
 obtain ⟨k,hke,hk⟩:=aA hk
 obtain ⟨k1,l,hx,hk⟩:=bM hk
 obtain ⟨k2,c,hy,hk⟩:=bM hk
 obtain ⟨_,h0,h1,hk⟩:=fU hk
 obtain ⟨hr,hk⟩:=sS hk
 obtain ⟨d',rfl,hn,hk⟩:=aR hk
 have hTy:=hT.kt e k hke
 obtain ⟨i,hi,hsz,hz,hby⟩:=hTy.info'
 have hbytes:(i.bytes:Int) * c≤281474976710656:=by
  have hb:(i.bytes:Int)≤128:=by omega
  have:=Int.mul_le_mul hb hr (by omega) (by omega)
  omega
 have hrun:=run_make (P:=E.P) w t e i k.zval (hT.se t e hse) hi hz k1 k2 l c h0 h1 hbytes (by omega)
 have hxe:=(h.ev x _ hx).int_inv
 have hye:=(h.ev y _ hy).int_inv
 have hnew:=h.newRow (w':=w.alloc (.cells (madeCells k.zval.cells (c.toNat * i.size)) e)) (Ext.alloc _ _) hTy hn true (RowC.rep (RepD.zero w _ k) l.toNat) (eY _ _) (fun j v hv=>by
   obtain ⟨g1,g2⟩:=DI _ _ _ _ hv
   rw [K.zcells_len] at g1 g2
   have hlc:=Nat.mul_le_mul_right k.size (show l.toNat≤c.toNat by omega)
   unfold madeCells
   rw [K.zval_cells,hsz]
   simp only [List.size_toArray,K.zcells_len,Array.getElem?_map]
   rw [Array.getElem?_eq_getElem (by simp;omega)]
   simp only [Array.getElem_range,Option.map_some]
   rw [getElem!_def,List.getElem?_toArray,g2]) (cap:=c.toNat) (by simp;omega) (by rw [size_madeCells,hsz];exact Nat.le_refl _)
 have hput:=hnew.putSl (hd _ rfl) (aB _ _ _) (ad:=some ⟨w.heap.size,0,none⟩) (len:=l.toNat) (cap:=c.toNat) (by simp) (by omega) (fun _=>by rw [aC]) (fun _=>by rw [aC]) true (fun _=>by simp)
 refine Oper.wp_of_value ?_ ⟨_,⟨_,hput⟩,hk⟩
 simp [execOp,hxe,hye,hrun]
theorem RowAt.paste {w w':World} {A A':Nat→Prop} {k:K} {b off0:Nat} {xs ys:List k.den} (h:RowAt w A k b off0 xs) (hs:Stay w A w' A') {off len:Int} (h0:0≤off) (h1:0≤len) (hle:off+len≤xs.length) {cs:List Value}
  (hC:RowC w A k (ys.take (min len.toNat ys.length)) cs) (hth:∀j,j < cs.length→(w.cell? ⟨b,off0+off.toNat * k.size+j,none⟩).isSome=true) (hw:w'=w.setCells b (off0+off.toNat * k.size) cs):RowAt w' A' k b off0 (eM xs off len ys):=by
 have hcl:=hC.len
 simp only [List.length_take,Nat.min_eq_left (Nat.min_le_right len.toNat ys.length)] at hcl
 intro i x hi
 rw [zW xs off len ys h0 h1 hle] at hi
 split at hi
 ·rename_i hin
  obtain ⟨ds,hd,hc⟩:=hC.at_ (i - off.toNat) x (by rw [List.getElem?_take,if_pos (by omega)];exact hi)
  refine ⟨ds,hd.stay hs,fun j hj=>?_⟩
  rw [←hc j hj]
  have hlt:(i - off.toNat) * k.size+j < cs.length:=by
   rw [hcl]
   have:=Nat.mul_le_mul_right k.size (show i - off.toNat+1≤min len.toNat ys.length by omega)
   rw [Nat.add_mul] at this
   omega
  have:=World.cell?_setCells_in b cs (off0+off.toNat * k.size) w hth _ hlt
  rw [List.getElem?_eq_getElem hlt,←this,hw]
  have e:off.toNat * k.size+(i - off.toNat) * k.size=i * k.size:=by rw [←Nat.add_mul];congr 1;omega
  congr 2
  omega
 ·rename_i hout
  obtain ⟨ds,hd,hc⟩:=h i x hi
  refine ⟨ds,hd.stay hs,fun j hj=>?_⟩
  rw [hw,World.cell?_setCells_out b cs _ w ⟨b,_,none⟩ (fun _ _=>by
   show off0+i * k.size+j < _∨_≤off0+i * k.size+j
   rw [hcl]
   by_cases hlt:i < off.toNat
   ·left
    have:=Nat.mul_le_mul_right k.size (show i+1≤off.toNat from hlt)
    rw [Nat.add_mul] at this
    omega
   ·right
    have:=Nat.mul_le_mul_right k.size (show off.toNat+min len.toNat ys.length≤i by omega)
    rw [Nat.add_mul] at this
    omega)]
  exact hc j hj
theorem RowC.take {w:World} {A:Nat→Prop} {k:K}:∀{xs:List k.den} {cs:List Value} (n:Nat),RowC w A k xs cs→RowC w A k (xs.take n) (cs.take (n * k.size))
 | [],cs,n,h=>by cases h;simp;rfl
 | x::xs,cs,0,h=>by simp;rfl
 | x::xs,cs,n+1,h=>by
  obtain ⟨c,r,rfl,h1,h2⟩:=h
  have hl:=h1.len
  refine ⟨c,r.take (n * k.size),?_,h1,RowC.take n h2⟩
  rw [List.take_append,List.take_of_length_le (by rw [hl,Nat.add_mul];omega)]
  congr 2
  rw [hl,Nat.add_mul];omega
theorem yW (hT:TabOk E.P Γ) (h:Rel E w a s) {d:Option Tmp} (hd:bH E d) {t u:TypeId} {x y:Operand} {ty:TypeId} {pos:String} {af:Array Edge} {g:Option (Nat×Bool)}
  (hk:xJ Γ d t (ev s x) (ev s y) s κ=some r):Oper.wp E.P ⟨d,.call {callee:= .builtin .copy,args:=#[x,y],argTypes:=#[t,u]},ty,pos,af,g⟩ a w (Goes E κ r) Q:=by
 obtain ⟨pl,h⟩:=h
 unfold xJ at hk
 obtain ⟨e,hse,hk⟩:=aA hk
 obtain ⟨k,hke,hk⟩:=aA hk
 obtain ⟨o,wn,nn,k1,e1,rw1,xs,hx,ho,hk⟩:=aX hk
 have hh:=aI hk
 clear hk
 obtain ⟨⟨hrw,he1⟩,hk⟩:=hh
 subst hrw
 subst he1
 have hh:=aP hk
 clear hk
 obtain ⟨hk1,hk⟩:=hh
 subst hk1
 obtain ⟨o2,wn2,nn2,k2,e2,rw2,ys,hy,ho2,hk⟩:=aX hk
 have hh:=aP hk
 clear hk
 obtain ⟨hk2,hk⟩:=hh
 subst hk2
 simp only at hk
 have hTy:=hT.kt e1 k2 hke
 obtain ⟨kx,ex,rwx,xs',ho',ad,cap,off,len,hw,hxe,hl,hc1,hc2,_⟩:=(h.ev x _ hx).sl_inv
 rw [ho] at ho'
 cases ho'
 obtain ⟨ky,ey,rwy,ys',ho2',ad2,cap2,off2,len2,hw2,hye,hl2,hd1,hd2,_⟩:=(h.ev y _ hy).sl_inv
 rw [ho2] at ho2'
 cases ho2'
 obtain ⟨h0,h1,hmem,_,hrow⟩:=h.objs o _ ho
 obtain ⟨_,_,_,_,hrow2⟩:=h.objs o2 _ ho2
 obtain ⟨hr2,hwl2⟩:=hrow2.winC hw2
 obtain ⟨news,hC,hrange⟩:=hr2.toC
 have hnl:=hC.len
 rw [hwl2] at hnl
 have hCt:=hC.take (min len len2)
 have hctl:=hCt.len
 have hbd:=hw.bd
 have hoff:(bB wn 0).toNat=off∧0≤bB wn 0:=by have:=hbd.2 0 (Int.le_refl _);simpa using this
 have hlen:bK xs wn=(len:Int):=hw.lenInt
 have hlen2:bK ys wn2=(len2:Int):=hw2.lenInt
 have hmn:((win ys wn2).take (min len len2)).length=min len len2:=by rw [List.length_take,hwl2];omega
 rw [hmn] at hctl
 have hpos:0 < (news.take (min len len2 * k2.size)).length→0 < min len len2:=fun hh=>by
  rcases Nat.eq_zero_or_pos (min len len2) with h2 | h2
  ·rw [hctl,h2] at hh;simp at hh
  ·exact h2
 have hth:∀j,j < (news.take (min len len2 * k2.size)).length→(w.cell? ⟨(pl o).b,(pl o).off+off * k2.size+j,none⟩).isSome=true∧w.frozen? ⟨(pl o).b,(pl o).off+off * k2.size+j,none⟩=false:=by
  intro j hj
  have hm:=hpos (by omega)
  obtain ⟨row,tt,hrowm,hrsz⟩:=hmem rfl (by omega)
  have hthr:w.there (pl o).b ((pl o).off+off * k2.size) (min len len2 * k2.size):=by
   refine bY hrowm ?_
   have:=Nat.mul_le_mul_right k2.size (show off+min len len2≤(pl o).cap by omega)
   rw [Nat.add_mul] at this
   omega
  exact hthr j (by omega)
 have hrun:=rB (P:=E.P) w t u ty e1 k2.size ad ad2 len cap len2 cap2 (pl o).b ((pl o).off+off * k2.size) (news.take (min len len2 * k2.size)) (hT.se t e1 hse) (fun w=>hTy.sizeOf)
  (by rw [hctl,Nat.min_comm]) (fun hh=>by
   have hm:=hpos hh
   refine ⟨hc2 (.inl (by omega)),_,hd2 (.inl (by omega)),fun j v hv=>?_⟩
   rw [Addr.add_mid]
   refine hrange j v ?_
   rw [List.getElem?_take] at hv
   split at hv
   ·exact hv
   ·cases hv) hth hCt.one
 have hmin:(goInt (Nat.min len2 len))=Value.int .i64 (rG (bK xs wn) (bK ys wn2)):=by
  rw [hlen,hlen2]
  unfold rG goInt
  congr 1
  have:Nat.min len2 len=min len2 len:=rfl
  split <;> omega
 refine Oper.wp_of_value (v:=goInt (Nat.min len2 len)) (w':=w.setCells (pl o).b ((pl o).off+off * k2.size) (news.take (min len len2 * k2.size))) ?_ ?_
 ·simp [execOp,resolve,invoke,builtin,hxe,hye,hrun]
 ·have hpe:eM xs (bB wn 0) (bK xs wn) (win ys wn2)=eM xs (bB wn 0) (bK xs wn) (win ys wn2):=rfl
  have hple:bB wn 0+bK xs wn≤xs.length:=by rw [hlen];have:=hbd.1;omega
  have hplen:=rJ xs (bB wn 0) (bK xs wn) (win ys wn2) hoff.2 (by rw [hlen];omega) hple
  have hCt':RowC w (Av E s.objs pl) k2 ((win ys wn2).take (min (bK xs wn).toNat (win ys wn2).length)) (news.take (min len len2 * k2.size)):=by
   rw [hlen,hwl2];exact hCt
  by_cases hcap:0 < (pl o).cap
  ·have hrel:=h.write ho (w':=w.setCells (pl o).b ((pl o).off+off * k2.size) (news.take (min len len2 * k2.size))) (obj':= .row k2 e1 true (eM xs (bB wn 0) (bK xs wn) (win ys wn2))) ⟨_,rfl,hplen⟩ ⟨rfl,hcap⟩ (Wr.setCells _ _ _ _)
    (fun A' hA' hst=>⟨h0,by rw [hplen];exact h1,fun _ hc=>by
      obtain ⟨row,tt,hrowm,hrsz⟩:=hmem rfl hc
      obtain ⟨row',hrow',hsz'⟩:=hrowm.setCells ((pl o).off+off * k2.size) (news.take (min len len2 * k2.size))
      exact ⟨row',tt,hrow',by rw [hsz'];exact hrsz⟩,fun h=>(by cases h),hrow.paste hst hoff.2 (by rw [hlen];omega) hple hCt' (by rw [hoff.1];exact fun j hj=>(hth j hj).1) (by rw [hoff.1])⟩)
   rw [hmin]
   exact Goes.put hrel hd (.int _ _) hk
  ·have hx0:xs=[]:=List.eq_nil_of_length_eq_zero (by omega)
   have hn0:news.take (min len len2 * k2.size)=[]:=by
    have:=hbd.1
    rw [hx0] at this
    simp at this
    refine List.eq_nil_of_length_eq_zero ?_
    rw [hctl];simp [this]
   have hp0:eM xs (bB wn 0) (bK xs wn) (win ys wn2)=xs:=by rw [hx0] at hplen ⊢;exact List.eq_nil_of_length_eq_zero hplen
   have hsame:s.setO o (some (.row k2 e1 true (eM xs (bB wn 0) (bK xs wn) (win ys wn2))))=s:=by
    rw [hp0]
    unfold FState.setO
    cases s with
    | mk tm ob=>
     congr 1
     funext q
     by_cases hq:q=o
     ·subst hq;simp [Nat.beq_refl];exact ho.symm
     ·simp [cF hq]
   rw [hsame] at hk
   rw [hn0,hmin]
   exact Goes.put h hd (.int _ _) hk
theorem wQ (hT:TabOk E.P Γ) (h:Rel E w a s) {d:Option Tmp} (hd:bH E d) {t:TypeId} {x:Operand} {ty:TypeId} {pos:String} {af:Array Edge} {g:Option (Nat×Bool)}
  (hk:qP Γ d t (ev s x) s κ=some r):Oper.wp E.P ⟨d,.range t x,ty,pos,af,g⟩ a w (Goes E κ r) Q:=by
 obtain ⟨pl,h⟩:=h
 unfold qP at hk
 obtain ⟨z,hx,hk⟩:=iY hk
 obtain ⟨ht,hk⟩:=aI hk
 obtain ⟨d',rfl,hn,hk⟩:=aR hk
 have hxe:=(h.ev x _ hx).str_inv
 have hrun:=run_range_string (P:=E.P) w t z (hT.kt t _ ht).und
 have hrow:(w.iter z 0).heap[w.heap.size]? =some (.stringIter z 0):=World.iter_heap w z 0
 have hnew:=h.new (w':=w.iter z 0) (Ext.alloc _ _) hn (.siter z 0) ⟨w.heap.size,0,0⟩ (fun _=>⟨Nat.le_refl _,(Array.getElem?_eq_some_iff.1 hrow).1⟩) (fun A' hA'=>hrow)
 have hput:=hnew.put (d:=some d') hd (f:= .it d') (v:= .pointer (some ⟨w.heap.size,0,none⟩)) (.inl ⟨z,0,aB _ _ _,by rw [aC]⟩)
 refine Oper.wp_of_value ?_ ⟨_,⟨_,hput⟩,hk⟩
 simp [execOp,hxe,hrun]
theorem BG (h:Rel E w a s) {d:Option Tmp} (hd:bH E d) {x:Operand} {ty:TypeId} {pos:String} {af:Array Edge} {g:Option (Nat×Bool)}
  (hk:sN d (ev s x) s κ=some r):Oper.wp E.P ⟨d,.next x true,ty,pos,af,g⟩ a w (Goes E κ r) Q:=by
 obtain ⟨pl,h⟩:=h
 unfold sN at hk
 split at hk
 ·rename_i p hx
  split at hk
  ·rename_i z q ho
   obtain ⟨z1,q1,ho1,hxe⟩:=(h.ev x _ hx).it_inv
   have hrow:w.heap[(pl p).b]? =some (.stringIter z q):=h.objs p _ ho
   cases hb:Nat.blt q z.size with
   | true=>
    rw [hb,cond_true] at hk
    have hlt:q < z.size:=Nat.le_of_ble_eq_true hb
    have hblt:(pl p).b < w.heap.size:=(Array.getElem?_eq_some_iff.1 hrow).1
    let w':World:={w with heap:=w.heap.setIfInBounds (pl p).b (.stringIter z (q+(Utf8.decode z q).2))}
    have hW:Wr w w' True (pl p).b:=⟨rfl,rfl,rfl,by simp [w'],fun b hb hn=>by
     show (w.heap.setIfInBounds _ _)[b]? =_
     rw [Array.getElem?_setIfInBounds_ne (fun e=>hn ⟨trivial,e.symm⟩)]⟩
    have hrel:=h.write ho (w':=w') (obj':= .siter z (q+(Utf8.decode z q).2)) ⟨_,_,rfl⟩ trivial hW (fun A' hA' hst=>by
     show (w.heap.setIfInBounds _ _)[(pl p).b]? =_
     rw [Array.getElem?_setIfInBounds_self_of_lt hblt])
    refine Oper.wp_of_value (v:= .tuple #[.bool true,goInt q,.int .i32 (Utf8.decode z q).1]) (w':=w') ?_ (Goes.put hrel hd (YR _ _ _) hk)
    simp [execOp,hxe,Instr.next,getObj,setObj,Sem.run,hrow,hlt,w',goInt,Result.andThen]
   | false=>
    rw [hb,cond_false] at hk
    have hlt:¬q < z.size:=fun hh=>by rw [show Nat.blt q z.size=true from Nat.ble_eq_true_of_le hh] at hb;cases hb
    refine Oper.wp_of_value (v:= .tuple #[.bool false]) (w':=w) ?_ (Goes.put h hd (YV _) hk)
    simp [execOp,hxe,Instr.next,getObj,Sem.run,hrow,hlt]
  ·cases hk
 ·cases hk
end
end Go.Proofs.YtoafkjeamgelgaaDoorHF

namespace Go.Proofs.YtoafkjeamgelgaaDoorHF
open Go
set_option linter.unusedVariables false
set_option linter.unusedSimpArgs false
theorem DQ {o j:Nat} (h:o < 1000000):fld o j % 1000000=o:=by unfold fld;rw [Nat.add_mul_mod_self_right];exact Nat.mod_eq_of_lt h
theorem SA {o j:Nat} (h:o < 1000000):fld o j / 1000000 - 1=j:=by
 unfold fld
 rw [Nat.add_mul_div_right _ _ (by omega),Nat.div_eq_of_lt h];omega
theorem tR (o j:Nat):¬fld o j < 1000000:=by unfold fld;rw [Nat.add_mul];omega
theorem BO (s:FState) (d:Nat) (f:FV) (t:Nat):(s.set d f).tmps t=if t=d then f else s.tmps t:=by
 simp only [FState.set]
 by_cases h:t=d
 ·subst h;simp [Nat.beq_refl]
 ·simp [cF h,h]
theorem gC:∀(fs:List FV) (s:FState) (o j:Nat),(s.setF o j fs).objs=s.objs
 | [],_,_,_=>rfl
 | f::fs,s,o,j=>by rw [FState.setF,gC fs];rfl
section
variable {E:Env} {pl:Nat→Pl} {Γ:Ctx} {w w':World} {a:Act} {s:FState} {β:Type} {r:β} {κ:FState→Option β} {Q:Exit→Act→World→Prop}
theorem pF {O:cE} {o j:Nat} (h6:o < 1000000) {k:K} {e:TypeId} (ho:O o=some (.cell k e)):dU w O pl a (fld o j)=(w.cell? ⟨(pl o).b,(pl o).off+j,none⟩).getD undef:=by
 unfold dU
 rw [if_neg (tR o j),DQ h6,ho,SA h6]
theorem RelP.cellAt (h:RelP E pl w a s) {o:Nat} {k:K} {e:TypeId} (ho:s.objs o=some (.cell k e)) {j:Nat} (hj:j < k.size):∃v,w.cell? ⟨(pl o).b,(pl o).off+j,none⟩=some v:=by
 obtain ⟨_,cs,t,⟨fz,hc,_⟩,hs⟩:=h.objs o _ ho
 rw [cell_of_row _ _ _ _ _ _ hc]
 exact ⟨cs[(pl o).off+j]'(by omega),by simp⟩
theorem RelP.field (h:RelP E pl w a s) {o:Nat} (h6:o < 1000000) {k:K} {e:TypeId} (ho:s.objs o=some (.cell k e)) {j:Nat} (hj:j < k.size):
  ∃v,w.cell? ⟨(pl o).b,(pl o).off+j,none⟩=some v∧VRep w (Av E s.objs pl) s.objs pl (s.tmps (fld o j)) v:=by
 obtain ⟨v,hv⟩:=h.cellAt ho hj
 have:=h.vals (fld o j)
 rw [pF h6 ho,hv] at this
 exact ⟨v,hv,this⟩
theorem RelP.know (h:RelP E pl w a s) (t:Nat) {f:FV} (hf:VRep w (Av E s.objs pl) s.objs pl f (dU w s.objs pl a t)):RelP E pl w a (s.set t f):=
 ⟨fun t'=>by
  rw [BO]
  split
  ·rename_i e;subst e;exact hf
  ·exact h.vals t',h.objs,h.sep,h.fresh,h.frame,h.dfr,h.N,h.zlt⟩
theorem RelP.poke (h:RelP E pl w a s) {o:Nat} (h6:o < 1000000) {k:K} {e:TypeId} (ho:s.objs o=some (.cell k e)) {j:Nat} (v:Value) (hd:s.tmps (fld o j)= .dead):RelP E pl (w.setCell ⟨(pl o).b,(pl o).off+j,none⟩ v) a s:=by
 have hw:Wr w (w.setCell ⟨(pl o).b,(pl o).off+j,none⟩ v) True (pl o).b:=Wr.setCell w (pl o).b ((pl o).off+j) v
 have hb:∀p ob,p≠o→s.objs p=some ob→occ (pl p) ob→(w.setCell ⟨(pl o).b,(pl o).off+j,none⟩ v).heap[(pl p).b]? =w.heap[(pl p).b]? :=fun p ob hp hpo hc=>
  hw.block _ (h.fresh _ ⟨p,ob,hpo,hc,rfl⟩).1 (fun hh=>h.sep p o ob _ hp hpo ho hc trivial hh.2)
 have hst:Stay w (Av E s.objs pl) (w.setCell ⟨(pl o).b,(pl o).off+j,none⟩ v) (Av E s.objs pl):=fun b hbs hA=>⟨hA,hw.block b hbs (fun hh=>h.ne hA ho trivial hh.2)⟩
 refine ⟨fun t=>?_,fun p ob hp=>?_,h.sep,fun b hbb=>?_,h.frame.ext hw (fun _=>(h.fresh _ ⟨o,_,ho,trivial,rfl⟩).2.1),h.dfr,h.N,fun b hz=>Nat.lt_of_lt_of_le (h.zlt b hz) hw.size⟩
 ·by_cases ht:t=fld o j
  ·subst ht;rw [hd];exact VRep.dead _
  ·have:dU (w.setCell ⟨(pl o).b,(pl o).off+j,none⟩ v) s.objs pl a t=dU w s.objs pl a t:=by
    by_cases hto:t % 1000000=o
    ·unfold dU
     split
     ·rfl
     ·rename_i ht6
      rw [hto,ho]
      simp only
      rw [World.cell?_setCell_other]
      intro e'
      simp only [Addr.mk.injEq,true_and,and_true] at e'
      apply ht
      have h1:t / 1000000 - 1=j:=by omega
      unfold fld
      omega
    ·exact cU (fun k e hk=>⟨hk,rfl,hb _ _ hto hk trivial⟩) (fun k e hk=>⟨k,e,hk⟩)
   rw [this]
   exact (h.vals t).move (fun k x cs hc=>hc.stay hst) (fun o obj hob=>⟨obj,hob,obj.like_refl,rfl⟩)
 ·by_cases hpo:p=o
  ·subst hpo
   rw [ho] at hp
   cases hp
   obtain ⟨h0,cs,t,hc,hs⟩:=h.objs p _ ho
   obtain ⟨cs',hc',hs'⟩:=hc.setCells ((pl p).off+j) [v]
   exact ⟨h0,cs',t,hc',by rw [hs'];exact hs⟩
  ·exact (h.objs p ob hp).stay hst (fun hc=>hb p ob hpo hp hc)
 ·have h1:=h.fresh b hbb
  exact ⟨Nat.lt_of_lt_of_le h1.1 hw.size,h1.2⟩
def FsRep (w:World) (A:Nat→Prop) (O:cE) (pl:Nat→Pl):List FV→List Value→Prop
 | [],vs=>vs=[]
 | f::fs,vs=>∃v vs',vs=v::vs'∧VRep w A O pl f v∧FsRep w A O pl fs vs'
theorem FsRep.move {A A':Nat→Prop} {O O':cE} {pl pl':Nat→Pl} (hD:∀k x cs,RepD w A k x cs→RepD w' A' k x cs) (hO:∀o obj,O o=some obj→∃obj',O' o=some obj'∧obj.like obj'∧pl' o=pl o):∀{fs:List FV} {vs:List Value},FsRep w A O pl fs vs→FsRep w' A' O' pl' fs vs
 | [],_,h=>h
 | f::fs,_,⟨v,vs',h1,h2,h3⟩=>⟨v,vs',h1,h2.move hD hO,h3.move hD hO⟩
theorem FsRep.app {A:Nat→Prop} {O:cE}:∀{fs gs:List FV} {vs us:List Value},FsRep w A O pl fs vs→FsRep w A O pl gs us→FsRep w A O pl (fs++gs) (vs++us)
 | [],_,_,_,h,h'=>by rw [h];exact h'
 | f::fs,_,_,_,⟨v,vs',h1,h2,h3⟩,h'=>⟨v,vs'++_,by rw [h1];rfl,h2,h3.app h'⟩
theorem FsRep.len {A:Nat→Prop} {O:cE}:∀{fs:List FV} {vs:List Value},FsRep w A O pl fs vs→vs.length=fs.length
 | [],_,h=>by rw [h];rfl
 | f::fs,_,⟨v,vs',h1,h2,h3⟩=>by rw [h1];simp [h3.len]
theorem RelP.storeF {o:Nat} (h6:o < 1000000) {k:K} {e:TypeId}:∀(fs:List FV) (vs:List Value) (j:Nat) {w:World} {s:FState},RelP E pl w a s→s.objs o=some (.cell k e)→j+fs.length≤k.size→FsRep w (Av E s.objs pl) s.objs pl fs vs→
  RelP E pl (w.setCells (pl o).b ((pl o).off+j) vs) a (s.setF o j fs)
 | [],vs,j,w,s,h,ho,hj,hv=>by rw [hv];exact h
 | f::fs,_,j,w,s,h,ho,hj,⟨v,vs,rfl,hv,hvs⟩=>by
  simp only [List.length_cons] at hj
  have h1:=(h.know (fld o j) (f:= .dead) (VRep.dead _)).poke h6 (j:=j) (k:=k) (e:=e) ho v (by rw [BO,if_pos rfl])
  obtain ⟨u,hu⟩:=h.cellAt ho (j:=j) (by omega)
  have hst:Stay w (Av E s.objs pl) (w.setCell ⟨(pl o).b,(pl o).off+j,none⟩ v) (Av E s.objs pl):=fun b hbs hA=>⟨hA,(Wr.setCell w (pl o).b ((pl o).off+j) v).block b hbs (fun hh=>h.ne hA ho trivial hh.2)⟩
  have hmv:∀k x cs,RepD w (Av E s.objs pl) k x cs→RepD (w.setCell ⟨(pl o).b,(pl o).off+j,none⟩ v) (Av E s.objs pl) k x cs:=fun k x cs hc=>hc.stay hst
  have hid:∀o obj,s.objs o=some obj→∃obj',s.objs o=some obj'∧obj.like obj'∧pl o=pl o:=fun o obj hob=>⟨obj,hob,obj.like_refl,rfl⟩
  have h2:=h1.know (fld o j) (f:=f) (by
   have e':dU (w.setCell ⟨(pl o).b,(pl o).off+j,none⟩ v) (s.set (fld o j) .dead).objs pl a (fld o j)=v:=by
    rw [pF h6 (O:=(s.set (fld o j) .dead).objs) ho,World.cell?_setCell_same _ _ _ hu];rfl
   rw [e']
   exact hv.move hmv hid)
  have e2:(s.set (fld o j) .dead).set (fld o j) f=s.set (fld o j) f:=by
   unfold FState.set
   congr 1
   funext t
   cases hb:Nat.beq t (fld o j) <;> simp [hb]
  rw [e2] at h2
  have h3:=RelP.storeF h6 fs vs (j+1) h2 ho (by omega) (hvs.move hmv hid)
  rw [←Nat.add_assoc] at h3
  exact h3
theorem RelP.knowF {o:Nat} (h6:o < 1000000) {k:K} {e:TypeId}:∀(fs:List FV) (vs:List Value) (j:Nat) {s:FState},RelP E pl w a s→s.objs o=some (.cell k e)→(∀i v,vs[i]? =some v→w.cell? ⟨(pl o).b,(pl o).off+(j+i),none⟩=some v)→FsRep w (Av E s.objs pl) s.objs pl fs vs→
  RelP E pl w a (s.setF o j fs)
 | [],vs,j,s,h,ho,hc,hv=>h
 | f::fs,vs0,j,s,h,ho,hc,hvs0=>by
  obtain ⟨v,vs,rfl,hv,hvs⟩:=hvs0
  have h2:=h.know (fld o j) (f:=f) (by
   have:=hc 0 v rfl
   rw [Nat.add_zero] at this
   rw [pF h6 ho,this];exact hv)
  exact RelP.knowF h6 fs vs (j+1) h2 ho (fun i u hu=>by rw [←hc (i+1) u (by simpa using hu)];congr 2;omega) hvs
theorem gR (A:Nat→Prop) (O:cE):∀k:K,FsRep w A O pl (fD k) k.zcells
 | .pair a b=>(gR A O a).app (gR A O b)
 | .sl _ _=>⟨_,[],rfl,.inl rfl,rfl⟩
 | .int k=>⟨_,[],rfl,.inl ⟨_,rfl,rfl⟩,rfl⟩
 | .bool=>⟨_,[],rfl,.inl ⟨_,rfl,rfl⟩,rfl⟩
 | .str=>⟨_,[],rfl,.inl ⟨_,rfl,rfl⟩,rfl⟩
 | .flt k=>⟨_,[],rfl,.inl ⟨_,rfl,rfl⟩,rfl⟩
 | .err=>⟨_,[],rfl,.inl ⟨[.nilIface],⟨_,rfl,.inl ⟨rfl,rfl⟩⟩,rfl⟩,rfl⟩
theorem kH:∀k:K,(fD k).length=k.size
 | .pair a b=>by simp [fD,K.size,kH a,kH b]
 | .sl _ _ | .int _ | .bool | .str | .flt _ | .err=>rfl
theorem kG:∀(k:K) (x:k.den),(iG k x).length=k.size
 | .pair a b,x=>by simp [iG,K.size,kG a,kG b]
 | .sl _ _,_ | .int _,_ | .bool,_ | .str,_ | .flt _,_ | .err,_=>rfl
theorem qD {A:Nat→Prop} {O:cE} {k:K} (hk:k.isPair=false) {x:k.den} {cs:List Value} (h:RepD w A k x cs):FsRep w A O pl [.dat k x] cs:=by
 have hl:=h.len
 have h1:k.size=1:=by cases k <;> first | rfl | simp [K.isPair] at hk
 rw [h1] at hl
 obtain ⟨v,rfl⟩:=List.length_eq_one_iff.1 hl
 exact ⟨v,[],rfl,.inl ⟨_,h,by rw [if_neg (by simp [hk])]⟩,rfl⟩
theorem kB {A:Nat→Prop} {O:cE}:∀{k:K} {x:k.den} {cs:List Value},RepD w A k x cs→FsRep w A O pl (iG k x) cs
 | .pair a b,x,_,⟨c1,c2,rfl,h1,h2⟩=>(kB h1).app (kB h2)
 | .sl _ _,_,_,h=>qD rfl h
 | .int _,_,_,h=>qD rfl h
 | .bool,_,_,h=>qD rfl h
 | .str,_,_,h=>qD rfl h
 | .flt _,_,_,h=>qD rfl h
 | .err,_,_,h=>qD rfl h
theorem xF {d:Option Tmp} {k:K} {e:TypeId} {fs:List FV} (h:oQ d s k e fs κ=some r):∃d',d=some d'∧s.objs d'=none∧d' < 1000000∧κ ((((s.kill d').setO d' (some (.cell k e))).setF d' 0 fs).set d' (.cp d' 0))=some r:=by
 unfold oQ at h
 split at h
 ·rename_i d'
  split at h
  ·rename_i hn
   cases hb:Nat.blt d' 1000000 with
   | false=>rw [hb] at h;cases h
   | true=>rw [hb] at h;exact ⟨d',rfl,hn,Nat.le_of_ble_eq_true hb,h⟩
  ·cases h
 ·cases h
theorem VRep.mkCp {A:Nat→Prop} {O:cE} {o off:Nat} {k:K} {e:TypeId} (ho:O o=some (.cell k e)) (h:off < k.size) {v:Value} (hv:v= .pointer (some ⟨(pl o).b,(pl o).off+off,none⟩)):VRep w A O pl (.cp o off) v:= .inl ⟨k,e,ho,h,hv⟩
theorem VRep.cp_inv {A:Nat→Prop} {O:cE} {o off:Nat} {v:Value} (h:VRep w A O pl (.cp o off) v):∃k e,O o=some (.cell k e)∧off < k.size∧v= .pointer (some ⟨(pl o).b,(pl o).off+off,none⟩):=by
 rcases h with h | ⟨l,_,hl⟩
 ·exact h
 ·exact hl.elim
theorem rT (o t:Nat) (h:dK o t=true):(s.kill o).tmps t= .dead:=by
 show (bif dK o t then FV.dead else _)=_
 rw [h];rfl
theorem vL (hT:TabOk E.P Γ) (h:Rel E w a s) {d:Option Tmp} (hd:bH E d) {t:TypeId} {ty:TypeId} {pos:String} {af:Array Edge} {g:Option (Nat×Bool)} {k:K} (ht:lk Γ.kt t=some k)
  (hk:oQ d s k t (fD k) κ=some r):Oper.wp E.P ⟨d,.alloc t,ty,pos,af,g⟩ a w (Goes E κ r) Q:=by
 obtain ⟨pl,h⟩:=h
 obtain ⟨d',rfl,hn,h6,hk⟩:=xF hk
 have hTy:=hT.kt t k ht
 have hlen:=K.zcells_len k
 have hcell:∀j,(w.alloc (.cells k.zcells.toArray t)).cell? ⟨w.heap.size,0+j,none⟩=k.zcells[j]? :=fun j=>by
  rw [cell_of_row _ _ _ _ _ (0,0) (heap_alloc_new w _)];simp
 have h1:=(h.kill d').new (Ext.alloc w (.cells k.zcells.toArray t)) (d:=d') (by rw [bV,if_pos rfl]) (.cell k t) ⟨w.heap.size,0,1⟩ (fun _=>⟨Nat.le_refl _,by simp⟩)
  (fun A' _=>⟨hTy,k.zcells.toArray,t,.mk (heap_alloc_new w _),by simp [hlen]⟩) (.inr fun t' ht'=>rT d' t' ht')
 have h2:=RelP.knowF h6 (fD k) k.zcells 0 h1 (aB _ _ _) (fun i v hi=>by rw [aC,Nat.zero_add];exact (hcell i).trans hi) (gR _ _ k)
 refine Oper.wp_of_value (v:= .pointer (some ⟨w.heap.size,0,none⟩)) (w':=w.alloc (.cells k.zcells.toArray t)) ?_ (Goes.put (d:=some d') h2 hd (VRep.mkCp (k:=k) (e:=t) (by rw [gC];exact aB _ _ _) k.size_pos (by rw [aC])) hk)
 simp [execOp,Instr.alloc,hTy.zero,kI,K.zval_cells]
theorem uM (h:RelP E pl w a s) {o:Nat} (h6:o < 1000000) {k0:K} {e:TypeId} (ho:s.objs o=some (.cell k0 e)) (ids:List Nat):∀(k:K) (j:Nat),j+k.size≤k0.size→∀{f:k.den→Option β},oU s o k j f=some r→
  (∀i,i < k.size→∀q wn nn,s.tmps (fld o (j+i))= .sl q wn nn→fJ s q=false→q∈ids)→
  ∃y cs,f y=some r∧RepD w (Av E (aK ids s).objs pl) k y cs∧∀i,i < k.size→w.cell? ⟨(pl o).b,(pl o).off+(j+i),none⟩=cs[i]? :=by
 have leaf:∀(k:K),k.isPair=false→∀(j:Nat),j+k.size≤k0.size→∀{f:k.den→Option β},dH s (s.tmps (fld o j)) k f=some r→
   (∀i,i < k.size→∀q wn nn,s.tmps (fld o (j+i))= .sl q wn nn→fJ s q=false→q∈ids)→
   ∃y cs,f y=some r∧RepD w (Av E (aK ids s).objs pl) k y cs∧∀i,i < k.size→w.cell? ⟨(pl o).b,(pl o).off+(j+i),none⟩=cs[i]? :=fun k hp j hj f hk hids=>by
  have h1:k.size=1:=by cases k <;> first | rfl | simp [K.isPair] at hp
  obtain ⟨v,hv,hrep⟩:=h.field h6 ho (j:=j) (by omega)
  obtain ⟨y,cs,g1,g2,_,g4⟩:=pE h hrep hk ids (fun q wn nn hq hr=>hids 0 (by omega) q wn nn hq hr)
  rw [if_neg (by simp [hp])] at g4
  refine ⟨y,cs,g1,g2,fun i hi=>?_⟩
  have:i=0:=by omega
  subst this
  rw [g4];exact hv
 intro k
 induction k with
 | pair k1 k2 ih1 ih2=>
  intro j hj f hk hids
  simp only [K.size] at hj hids ⊢
  unfold oU at hk
  obtain ⟨y1,c1,hk1,g1,g2⟩:=ih1 j (by omega) hk (fun i hi=>hids i (by omega))
  obtain ⟨y2,c2,hk2,g3,g4⟩:=ih2 (j+k1.size) (by omega) hk1 (fun i hi q wn nn hq=>hids (k1.size+i) (by omega) q wn nn (by rw [←Nat.add_assoc];exact hq))
  refine ⟨(y1,y2),c1++c2,hk2,⟨c1,c2,rfl,g1,g3⟩,fun i hi=>?_⟩
  have hl:=g1.len
  by_cases hi1:i < k1.size
  ·rw [List.getElem?_append_left (by omega)];exact g2 i hi1
  ·rw [List.getElem?_append_right (by omega),hl,←g4 (i - k1.size) (by omega)]
   congr 2;omega
 | sl e k ih=>intro j hj f hk hids;exact leaf _ rfl j hj hk hids
 | int k=>intro j hj f hk hids;exact leaf _ rfl j hj hk hids
 | bool=>intro j hj f hk hids;exact leaf _ rfl j hj hk hids
 | str=>intro j hj f hk hids;exact leaf _ rfl j hj hk hids
 | flt k=>intro j hj f hk hids;exact leaf _ rfl j hj hk hids
 | err=>intro j hj f hk hids;exact leaf _ rfl j hj hk hids
theorem pB {o:Nat}:∀(n j i:Nat),i < n→s.tmps (fld o (j+i))∈pH s o j n
 | 0,j,i,h=>by omega
 | n+1,j,0,h=>by simp [pH]
 | n+1,j,i+1,h=>by
  have:=pB (o:=o) n (j+1) i (by omega)
  rw [show j+(i+1)=j+1+i by omega]
  exact List.mem_cons_of_mem _ this
theorem xM (hT:TabOk E.P Γ) (h:Rel E w a s) {d:Option Tmp} (hd:bH E d) {t:TypeId} {x:Operand} {ty:TypeId} {pos:String} {af:Array Edge} {g:Option (Nat×Bool)}
  {p off:Nat} (hx:ev s x= .cp p off) (h6:p < 1000000) {k:K} {e:TypeId} (ho:s.objs p=some (.cell k e)) {k':K} (hk':lk Γ.kt t=some k') (hle:off+k'.size≤k.size)
  (hk:mU Γ d s p off k' κ=some r):Oper.wp E.P ⟨d,.load t x,ty,pos,af,g⟩ a w (Goes E κ r) Q:=by
 obtain ⟨pl,h⟩:=h
 obtain ⟨_,_,ho1,_,hv⟩:=(h.ev x _ hx).cp_inv
 have one:k'.isPair=false→(match s.tmps (fld p off) with
   | .dat (.sl e k1) xs=>putD Γ d s (.sl e k1) xs κ
   | v=>κ (s.put d v))=some r→Oper.wp E.P ⟨d,.load t x,ty,pos,af,g⟩ a w (Goes E κ r) Q:=fun hp hk=>by
  have h1:k'.size=1:=by cases k' <;> first | rfl | simp [K.isPair] at hp
  obtain ⟨v,hc,hrep⟩:=h.field h6 ho (j:=off) (by omega)
  have hrange:w.rangeAt (pl p).b ((pl p).off+off) [v]:=fun j u hu=>by
   cases j with
   | zero=>cases hu;exact hc
   | succ j=>simp at hu
  have hload:=eA (hT.kt t _ hk') hrange (by simp [h1]) (v:=v) (by rw [if_neg (by simp [hp])])
  refine Oper.wp_of_value (v:=v) (w':=w) (by simp [execOp,hv,Instr.loadAt,Instr.sureAddr,hload]) ?_
  split at hk
  ·rename_i e1 k1 xs hf
   rw [hf] at hrep
   obtain ⟨cs,hcs,hvv⟩:=hrep.dat_inv
   exact Goes.putD hT h hd hcs hvv hk
  ·exact Goes.put h hd hrep hk
 cases k' with
 | pair k1 k2=>
  simp only [mU] at hk
  obtain ⟨y,cs,hk1,hrep,hcell⟩:=uM h h6 ho (frz s (pH s p off (K.pair k1 k2).size)) (.pair k1 k2) off hle hk (fun i hi q wn nn hq hr=>gL (wn:=wn) (nn:=nn) hr (by rw [←hq];exact pB _ _ _ hi))
  have hlen:=hrep.len
  have hrange:w.rangeAt (pl p).b ((pl p).off+off) cs:=fun j u hu=>by
   rw [←hu,←hcell j (by have:=(List.getElem?_eq_some_iff.1 hu).1;omega)]
   congr 2;omega
  have hload:=eA (hT.kt t _ hk') hrange hlen (v:= .agg cs.toArray) (by simp [K.isPair])
  refine Oper.wp_of_value (v:= .agg cs.toArray) (w':=w) (by simp [execOp,hv,Instr.loadAt,Instr.sureAddr,hload]) ?_
  exact Goes.put (h.killsL _) hd (.ofCells hrep (by simp [K.isPair])) hk1
 | sl e k=>exact one rfl hk
 | int k=>exact one rfl hk
 | bool=>exact one rfl hk
 | str=>exact one rfl hk
 | flt k=>exact one rfl hk
 | err=>exact one rfl hk
theorem FA {A:Nat→Prop} {O:cE} {f:FV} {v:Value} (hf:wI f=true) (h:VRep w A O pl f v):v.oneCell'=true:=by
 cases f with
 | dat k x=>
  simp only [wI,Bool.not_eq_true'] at hf
  obtain ⟨cs,hc,hv⟩:=h.dat_inv
  rw [if_neg (by simp [hf])] at hv
  exact hc.one v (by rw [hv];simp)
 | nsl=>
  rcases h with h | ⟨l,_,hl⟩
  ·rw [h];rfl
  ·exact hl.elim
 | sl o wn nn=>
  obtain ⟨k,e,rw_,xs,_,ad,cap,off,len,_,hv,_⟩:=h.sl_inv
  rw [hv];rfl
 | nilp=>
  rcases h with h | ⟨l,_,hl⟩
  ·rw [h];rfl
  ·exact hl.elim
 | _=>simp [wI] at hf
theorem AH {k:K} {v:FV} {f:List FV→Option β} (h:vV k v f=some r):∃fs,f fs=some r∧((k.isPair=true∧v= .zer k∧fs=fD k)∨(k.isPair=true∧∃x,v= .dat k x∧fs=iG k x)∨(k.isPair=false∧wI v=true∧fs=[v])):=by
 have one:k.isPair=false→(bif wI v then f [v] else none)=some r→∃fs,f fs=some r∧((k.isPair=true∧v= .zer k∧fs=fD k)∨(k.isPair=true∧∃x,v= .dat k x∧fs=iG k x)∨(k.isPair=false∧wI v=true∧fs=[v])):=fun hp hh=>by
  cases hb:wI v with
  | false=>rw [hb] at hh;cases hh
  | true=>rw [hb] at hh;exact ⟨_,hh,.inr (.inr ⟨hp,rfl,rfl⟩)⟩
 cases k with
 | pair a b=>
  simp only [vV] at h
  split at h
  ·obtain ⟨rfl,h'⟩:=aI h
   exact ⟨_,h',.inl ⟨rfl,rfl,rfl⟩⟩
  ·obtain ⟨x,hx,h'⟩:=bE h
   exact ⟨_,h',.inr (.inl ⟨rfl,x,hx,rfl⟩)⟩
 | sl e k=>exact one rfl h
 | int k=>exact one rfl h
 | bool=>exact one rfl h
 | str=>exact one rfl h
 | flt k=>exact one rfl h
 | err=>exact one rfl h
theorem tP (hT:TabOk E.P Γ) (h:Rel E w a s) {d:Option Tmp} (hd:d=none) {t:TypeId} {x y:Operand} {ty:TypeId} {pos:String} {af:Array Edge} {g:Option (Nat×Bool)}
  {p off:Nat} (hx:ev s x= .cp p off) (h6:p < 1000000) {k:K} {e:TypeId} (ho:s.objs p=some (.cell k e)) {k':K} (hk':lk Γ.kt t=some k') (hle:off+k'.size≤k.size)
  (hk:vV k' (ev s y) (fun fs=>κ (s.setF p off fs))=some r):Oper.wp E.P ⟨d,.store t x y,ty,pos,af,g⟩ a w (Goes E κ r) Q:=by
 subst hd
 obtain ⟨pl,h⟩:=h
 obtain ⟨_,_,ho1,_,hv⟩:=(h.ev x _ hx).cp_inv
 obtain ⟨fs,hk,hc⟩:=AH hk
 obtain ⟨cs,hcs,hrep,hone,hlen⟩:∃cs,(a.eval y).cells=cs.toArray∧FsRep w (Av E s.objs pl) s.objs pl fs cs∧(∀u∈cs,u.oneCell'=true)∧fs.length=k'.size:=by
  rcases hc with ⟨hp,hy,rfl⟩ | ⟨hp,z,hy,rfl⟩ | ⟨hp,hy,rfl⟩
  ·have hve:a.eval y=k'.zval:=by
    rcases h.ev y _ hy with hv | ⟨l,_,hl⟩
    ·exact hv
    ·exact hl.elim
   exact ⟨k'.zcells,by rw [hve];exact K.zval_cells k',gR _ _ k',(RepD.zero w (fun _=>False) k').one,kH k'⟩
  ·obtain ⟨cs,hcs,hvv⟩:=(h.ev y _ hy).dat_inv
   rw [if_pos hp] at hvv
   exact ⟨cs,by rw [hvv];rfl,kB hcs,hcs.one,kG k' z⟩
  ·have h1:k'.size=1:=by cases k' <;> first | rfl | simp [K.isPair] at hp
   have hv1:=FA hy (h.ev y _ rfl)
   refine ⟨[a.eval y],?_,⟨_,[],rfl,h.ev y _ rfl,rfl⟩,fun u hu=>by simp at hu;subst hu;exact hv1,by simp [h1]⟩
   cases hq:a.eval y <;> first | rfl | (rw [hq] at hv1;simp [Value.oneCell'] at hv1)
 have hcl:=hrep.len
 obtain ⟨h0,row,tt,hrow,hsz⟩:=h.objs p _ ho
 have hth:w.there (pl p).b ((pl p).off+off) k'.size:=bY hrow (by omega)
 refine Oper.wp_of_skip (w':=w.setCells (pl p).b ((pl p).off+off) cs) ?_ ⟨_,⟨pl,RelP.storeF h6 fs cs off h ho (by omega) hrep⟩,hk⟩
 simp [execOp,hv,Instr.storeAt,Instr.sureAddr,iA (hT.kt t _ hk') hcs (by omega) hth hone]
theorem mJ (hT:TabOk E.P Γ) (h:Rel E w a s) {d:Option Tmp} (hd:bH E d) {t:TypeId} {x:Operand} {j:Nat} {ty:TypeId} {pos:String} {af:Array Edge} {g:Option (Nat×Bool)}
  {p off:Nat} (hx:ev s x= .cp p off) {k:K} {e:TypeId} (ho:s.objs p=some (.cell k e)) {q:Nat} {ft:TypeId} (hf:cZ Γ t j=some (q,ft)) {k':K} (hk':lk Γ.kt ft=some k') (hlt:off+q < k.size)
  (hk:κ (s.put d (.cp p (off+q)))=some r):Oper.wp E.P ⟨d,.fieldAddr t x j,ty,pos,af,g⟩ a w (Goes E κ r) Q:=by
 obtain ⟨pl,h⟩:=h
 obtain ⟨_,_,ho1,_,hv⟩:=(h.ev x _ hx).cp_inv
 obtain ⟨fs,f,hu,hfs,rfl,rfl⟩:=hT.fo t j q ft hf
 refine Oper.wp_of_value (v:= .pointer (some ⟨(pl p).b,(pl p).off+off+f.offset,none⟩)) (w':=w) ?_ (Goes.put h hd (VRep.mkCp ho hlt (by rw [Nat.add_assoc])) hk)
 have hsz:=(hT.kt _ _ hk').sizeOf (w:=w)
 have hne:k'.size≠0:=Nat.pos_iff_ne_zero.1 k'.size_pos
 simp [execOp,hv,Instr.fieldAt,run_underlying hu,hfs,Instr.sureAddr,fieldPlace,hsz,hne,Addr.add_mid]
theorem nN (h:Rel E w a s) {d:Option Tmp} (hd:bH E d) {x:Operand} {ty:TypeId} {pos:String} {af:Array Edge} {g:Option (Nat×Bool)}
  {p off:Nat} (hx:ev s x= .cp p off) (hk:κ (s.put d (.cp p off))=some r):Oper.wp E.P ⟨d,.nilCheck x,ty,pos,af,g⟩ a w (Goes E κ r) Q:=by
 obtain ⟨pl,h⟩:=h
 have hv:=h.ev x _ hx
 obtain ⟨k,e,ho,h1,hp⟩:=hv.cp_inv
 refine Oper.wp_of_value (v:=a.eval x) (w':=w) ?_ (Goes.put h hd hv hk)
 simp [execOp,hp]
theorem tY (hT:TabOk E.P Γ) (h:Rel E w a s) {d:Option Tmp} (hd:bH E d) {t:TypeId} {ty:TypeId} {pos:String} {af:Array Edge} {g:Option (Nat×Bool)} {k1 k2:K} (ht:lk Γ.kt t=some (.pair k1 k2)) (hl:(lk Γ.fo t).isSome=true)
  (hk:κ (s.put d (.zer (.pair k1 k2)))=some r):Oper.wp E.P ⟨d,.build t #[],ty,pos,af,g⟩ a w (Goes E κ r) Q:=by
 obtain ⟨pl,h⟩:=h
 refine Oper.wp_of_value (v:=(K.pair k1 k2).zval) (w':=w) ?_ (Goes.put (f:= .zer (.pair k1 k2)) h hd (.inl (show VRep1 _ _ _ _ (.zer (.pair k1 k2)) _ from rfl)) hk)
 have hTy:=hT.kt t _ ht
 obtain ⟨l,hl⟩:=Option.isSome_iff_exists.1 hl
 obtain ⟨fs,places,hu,hm,hpl⟩:=sI hT hl
 have hb:E.P.built t []=some (K.pair k1 k2).zcells.toArray:=by
  obtain ⟨i,hi,_,hz,_⟩:=hTy.info'
  unfold Program.built
  simp only [hi,hu,hz,hm,K.zval_cells]
  rfl
 have:=run_build (P:=E.P) w t #[] _ hb
 simp [execOp,this,K.zval,K.zcells]
end
end Go.Proofs.YtoafkjeamgelgaaDoorHF

namespace Go.Proofs.YtoafkjeamgelgaaDoorHF
open Go
set_option linter.unusedVariables false
set_option linter.unusedSimpArgs false
section
variable {E:Env} {pl:Nat→Pl} {Γ:Ctx} {w w':World} {a:Act} {s:FState} {β:Type} {r:β} {κ:FState→Option β} {Q:Exit→Act→World→Prop}
theorem fF {k:K} (h:k.key=true):k.isPair=false:=by cases k <;> first | rfl | simp [K.key] at h
theorem gH {t:TypeId} {f:K→K→Option β} (h:qW Γ t f=some r):∃p a b,lk Γ.mps t=some p∧lk Γ.kt p.1=some a∧lk Γ.kt p.2=some b∧a.key=true∧b.key=true∧f a b=some r:=by
 unfold qW at h
 obtain ⟨p,h1,h⟩:=aA h
 obtain ⟨a,h2,h⟩:=aA h
 obtain ⟨b,h3,h⟩:=aA h
 cases hk:a.key&&b.key with
 | false=>rw [hk] at h;cases h
 | true=>
  rw [hk] at h
  simp only [Bool.and_eq_true] at hk
  exact ⟨p,a,b,h1,h2,h3,hk.1,hk.2,h⟩
theorem iZ {v:FV} {f:(o:Nat)→(a b:K)→List (a.den×b.den)→Option β} (h:nA s v f=some r):∃o a b es,v= .mp o∧s.objs o=some (.mapo a b es)∧f o a b es=some r:=by
 unfold nA at h
 split at h
 ·split at h
  ·exact ⟨_,_,_,_,rfl,by assumption,h⟩
  ·cases h
 ·cases h
theorem VRep.mp_inv {A:Nat→Prop} {O:cE} {o:Nat} {v:Value} (h:VRep w A O pl (.mp o) v):v= .map (some (pl o).b):=by
 rcases h with ⟨_,_,_,_,h⟩ | ⟨l,_,hl⟩
 ·exact h
 ·exact hl.elim
theorem tB {A:Nat→Prop} {k:K} (hk:k.key=true) {x:k.den} {v:Value} (h:ValRep w A k x v):RepD w A k x [v]:=by
 obtain ⟨cs,hc,hv⟩:=h
 rw [if_neg (by simp [fF hk])] at hv
 rw [←hv];exact hc
theorem kX {A:Nat→Prop} {P:Program} {t:TypeId} {k:K} (hT:TyOk P t k) (hk:k.key=true) {x y:k.den} {u v:Value} (hx:RepD w A k x [u]) (hy:RepD w A k y [v]):
  ∃d,P.underlying t=some d∧Instr.sameNow d u v=some (eqD k x y)∧(eqD k x y=true→∀n,Instr.sameBits (n+1) u v=true):=by
 have hu:=hT.und
 cases k with
 | int ik=>
  have hx:[u]=[Value.int ik x]:=hx
  have hy:[v]=[Value.int ik y]:=hy
  simp only [List.cons.injEq,and_true] at hx hy
  subst hx
  subst hy
  refine ⟨_,hu,by simp [Instr.sameNow,eqD],fun he n=>?_⟩
  simp only [eqD] at he
  simp [Instr.sameBits,he]
 | bool=>
  have hx:[u]=[Value.bool x]:=hx
  have hy:[v]=[Value.bool y]:=hy
  simp only [List.cons.injEq,and_true] at hx hy
  subst hx
  subst hy
  refine ⟨_,hu,by simp [Instr.sameNow,eqD],fun he n=>?_⟩
  simp only [eqD] at he
  simp [Instr.sameBits,he]
 | str=>
  have hx:[u]=[Value.string x]:=hx
  have hy:[v]=[Value.string y]:=hy
  simp only [List.cons.injEq,and_true] at hx hy
  subst hx
  subst hy
  have hb:((show BA from x)==(show BA from y))=eqD .str x y:=by simp [eqD,fE,beq_toListBytes]
  refine ⟨_,hu,by simp only [Instr.sameNow];rw [hb],fun he n=>?_⟩
  simp only [Instr.sameBits]
  rw [hb];exact he
 | _=>simp [K.key] at hk
theorem pK {A:Nat→Prop} {P:Program} {t:TypeId} {k b:K} (hT:TyOk P t k) (hk:k.key=true) (hb:b.key=true) {x:k.den} {u:Value} (hx:RepD w A k x [u]) {d:TypeDesc} (hd:P.underlying t=some d):∀{es:List (k.den×b.den)} {ms:List MapEntry} (i:Nat),MapRep w A k b es ms→
  (lF x es=none∧Instr.findNow d u ms i=some none∧∀y,rC x y es=es++[(x,y)])∨
  ∃j y m,lF x es=some y∧ms[j]? =some m∧RepD w A b y [m.val]∧Instr.findNow d u ms i=some (some (i+j,m.val))∧(∀n,Instr.sameBits (n+1) m.key u=true)∧∀z,rC x z es=es.set j (x,z)
 | [],ms,i,h=>by
  obtain rfl:ms=[]:=h
  exact .inl ⟨rfl,rfl,fun y=>rfl⟩
 | e::es,_,i,⟨m,ms,rfl,h1,h2,h3⟩=>by
  obtain ⟨d',hd',hs,hbits⟩:=kX hT hk hx (tB hk h1)
  rw [hd] at hd'
  cases hd'
  obtain ⟨d'',hd'',hs',hbits'⟩:=kX hT hk (tB hk h1) hx
  cases he:eqD k x e.1 with
  | true=>
   have he':eqD k e.1 x=true:=by
    cases k <;> simp_all [eqD,K.key,fE]
   refine .inr ⟨0,e.2,m,by simp [lF,he],rfl,tB hb h2,?_,hbits' he',fun z=>by simp [rC,he]⟩
   rw [he] at hs
   simp [Instr.findNow,hs]
  | false=>
   rw [he] at hs
   rcases pK hT hk hb hx hd (i+1) h3 with ⟨g1,g2,g4⟩ | ⟨j,y,m',g1,g2,g3,g4,g5,g6⟩
   ·exact .inl ⟨by simp [lF,he,g1],by simp [Instr.findNow,hs,g2],fun y=>by simp [rC,he,g4]⟩
   ·refine .inr ⟨j+1,y,m',by simp [lF,he,g1],by simpa using g2,g3,?_,g5,fun z=>by simp [rC,he,g6]⟩
    simp only [Instr.findNow,hs,g4]
    congr 3;omega
theorem lO {P:Program} {t:TypeId} {k:K} (hT:TyOk P t k) (hk:k.key=true) (em:Bool) (v:Value) (w:World) (hv:∃x A,RepD w A k x [v]):(Instr.checkKey em 10000 t v).run P w= .ok () w:=by
 obtain ⟨x,A,hx⟩:=hv
 have hu:=hT.und
 unfold Instr.checkKey
 cases k with
 | int ik=>
  have hu:P.underlying t=some (.int ik):=hu
  simp [run_underlying hu]
 | bool=>
  have hu:P.underlying t=some .bool:=hu
  simp [run_underlying hu]
 | str=>
  have hu:P.underlying t=some .string:=hu
  simp [run_underlying hu]
 | _=>simp [K.key] at hk
theorem gW {P:Program} {w:World} {r:Nat} {es:Array MapEntry} {clock:Nat} (h:w.heap[r]? =some (.map es clock)):(getObj r).run P w= .ok (.map es clock) w:=by simp [getObj,Sem.run,h]
theorem qA {P:Program} {w:World} {r:Nat} {es:Array MapEntry} {clock:Nat} (o:Obj) (h:w.heap[r]? =some (.map es clock)):(setObj r o).run P w= .ok () {w with heap:=w.heap.setIfInBounds r o}:=by simp [setObj,Sem.run,h]
theorem rA (hT:TabOk E.P Γ) (h:Rel E w a s) {d:Option Tmp} (hd:bH E d) {t:TypeId} {ty:TypeId} {pos:String} {af:Array Edge} {g:Option (Nat×Bool)}
  (hk:qW Γ t (fun a b=>Go.Proofs.YtoafkjeamgelgaaDoorHF.newRow d s (.mapo a b []) (fun d=> .mp d) κ)=some r):Oper.wp E.P ⟨d,.makeMap t none,ty,pos,af,g⟩ a w (Goes E κ r) Q:=by
 obtain ⟨pl,h⟩:=h
 obtain ⟨p,ka,kb,_,_,_,_,_,hk⟩:=gH hk
 obtain ⟨d',rfl,hn,hk⟩:=aR hk
 have h1:=h.new (Ext.alloc w (.map #[] 0)) hn (.mapo ka kb []) ⟨w.heap.size,0,1⟩ (fun _=>⟨Nat.le_refl _,by simp⟩) (fun A' _=>⟨#[],0,heap_alloc_new w _,rfl⟩)
 refine Oper.wp_of_value (v:= .map (some w.heap.size)) (w':=w.alloc (.map #[] 0)) ?_ (Goes.put (d:=some d') (f:= .mp d') h1 hd (.inl ⟨ka,kb,[],aB _ _ _,by rw [aC]⟩) hk)
 simp [execOp,Instr.makeMap]
theorem tD (hT:TabOk E.P Γ) (h:Rel E w a s) {d:Option Tmp} (hd:bH E d) {t:TypeId} {x i:Operand} {ok:Bool} {ty:TypeId} {pos:String} {af:Array Edge} {g:Option (Nat×Bool)}
  (hk:qW Γ t (fun a b=>nA s (ev s x) fun _ a' b' es=>if h:a'=a∧b'=b then eG (ev s i) a fun k=>κ (s.put d (qU (a:=a) (b:=b) ok k (h.1 ▸ h.2 ▸ es))) else none)=some r):Oper.wp E.P ⟨d,.lookup t x i ok,ty,pos,af,g⟩ a w (Goes E κ r) Q:=by
 obtain ⟨pl,h⟩:=h
 obtain ⟨p,ka,kb,hp,hka,hkb,hk1,hk2,hk⟩:=gH hk
 obtain ⟨o,a',b',es,hx,ho,hk⟩:=iZ hk
 split at hk
 ·rename_i hab
  obtain ⟨rfl,rfl⟩:=hab
  obtain ⟨key,hi,hk⟩:=bE hk
  simp only at hk
  have hv:=(h.ev x _ hx).mp_inv
  obtain ⟨cs,hcs,hvi⟩:=(h.ev i _ hi).dat_inv
  rw [if_neg (by simp [fF hk1])] at hvi
  subst hvi
  obtain ⟨ms,clock,hm,hr⟩:=h.objs o _ ho
  have hTa:=hT.kt _ _ hka
  have hTb:=hT.kt _ _ hkb
  have hu:=hT.mps t p hp
  obtain ⟨d0,hd0,_⟩:=kX hTa hk1 hcs hcs
  have hck:=lO hTa hk1 ms.isEmpty (a.eval i) w ⟨key,_,hcs⟩
  have hz:=hTb.zero (w:=w)
  rcases pK hTa hk1 hk2 hcs hd0 0 hr with ⟨g1,g2,_⟩ | ⟨j,y,m,g1,g2,g3,g4,_,_⟩
  ·have hrep:VRep w (Av E s.objs pl) s.objs pl (qU (a:=a') (b:=b') ok key es) (if ok then .tuple #[b'.zval,.bool false] else b'.zval):=by
    have hzv:VRep1 w (Av E s.objs pl) s.objs pl (.dat b' b'.dflt) b'.zval:=⟨_,RepD.zero w _ b',by rw [if_neg (by simp [fF hk2])];cases b' <;> first | rfl | simp [K.key] at hk2⟩
    unfold qU
    rw [g1]
    cases ok
    ·exact .inl hzv
    ·exact .inr ⟨[b'.zval,.bool false],rfl,_,_,rfl,hzv,_,_,rfl,⟨_,rfl,rfl⟩,rfl⟩
   refine Oper.wp_of_value (w':=w) ?_ (Goes.put h hd hrep hk)
   cases ok <;> simp [execOp,Instr.lookup,run_underlying hu,hv,gW hm,hck,Instr.findKey,run_underlying hd0,g2,hz]
  ·have hrep:VRep w (Av E s.objs pl) s.objs pl (qU (a:=a') (b:=b') ok key es) (if ok then .tuple #[m.val,.bool true] else m.val):=by
    have hzv:VRep1 w (Av E s.objs pl) s.objs pl (.dat b' y) m.val:=⟨_,g3,by rw [if_neg (by simp [fF hk2])]⟩
    unfold qU
    rw [g1]
    cases ok
    ·exact .inl hzv
    ·exact .inr ⟨[m.val,.bool true],rfl,_,_,rfl,hzv,_,_,rfl,⟨_,rfl,rfl⟩,rfl⟩
   refine Oper.wp_of_value (w':=w) ?_ (Goes.put h hd hrep hk)
   cases ok <;> simp [execOp,Instr.lookup,run_underlying hu,hv,gW hm,hck,Instr.findKey,run_underlying hd0,g4]
 ·cases hk
theorem MapRep.push {A:Nat→Prop} {a b:K} {x:a.den} {y:b.den} {m:MapEntry} (hx:ValRep w A a x m.key) (hy:ValRep w A b y m.val):∀{es:List (a.den×b.den)} {ms:List MapEntry},MapRep w A a b es ms→MapRep w A a b (es++[(x,y)]) (ms++[m])
 | [],ms,h=>by
  obtain rfl:ms=[]:=h
  exact ⟨m,[],rfl,hx,hy,rfl⟩
 | e::es,_,⟨m',ms',h1,h2,h3,h4⟩=>⟨m',ms'++[m],by rw [h1];rfl,h2,h3,h4.push hx hy⟩
theorem MapRep.setAt {A:Nat→Prop} {a b:K} {x:a.den} {y:b.den} {m:MapEntry} (hx:ValRep w A a x m.key) (hy:ValRep w A b y m.val):∀{es:List (a.den×b.den)} {ms:List MapEntry} (j:Nat),MapRep w A a b es ms→MapRep w A a b (es.set j (x,y)) (ms.set j m)
 | [],ms,j,h=>by
  obtain rfl:ms=[]:=h
  exact rfl
 | e::es,_,0,⟨m',ms',h1,h2,h3,h4⟩=>⟨m,ms',by rw [h1];rfl,hx,hy,h4⟩
 | e::es,_,j+1,⟨m',ms',h1,h2,h3,h4⟩=>⟨m',ms'.set j m,by rw [h1];rfl,h2,h3,h4.setAt hx hy j⟩
theorem nQ (hT:TabOk E.P Γ) (h:Rel E w a s) {t:TypeId} {x i y:Operand} {ty:TypeId} {pos:String} {af:Array Edge} {g:Option (Nat×Bool)}
  (hk:qW Γ t (fun a b=>nA s (ev s x) fun p a' b' es=>if h:a'=a∧b'=b then eG (ev s i) a fun k=>eG (ev s y) b fun z=>κ (s.setO p (some (.mapo a b (rC k z (h.1 ▸ h.2 ▸ es))))) else none)=some r):Oper.wp E.P ⟨none,.mapUpdate t x i y,ty,pos,af,g⟩ a w (Goes E κ r) Q:=by
 obtain ⟨pl,h⟩:=h
 obtain ⟨p,ka,kb,hp,hka,hkb,hk1,hk2,hk⟩:=gH hk
 obtain ⟨o,a',b',es,hx,ho,hk⟩:=iZ hk
 split at hk
 ·rename_i hab
  obtain ⟨rfl,rfl⟩:=hab
  obtain ⟨key,hi,hk⟩:=bE hk
  obtain ⟨z,hz,hk⟩:=bE hk
  simp only at hk
  have hv:=(h.ev x _ hx).mp_inv
  obtain ⟨cs,hcs,hvi⟩:=(h.ev i _ hi).dat_inv
  rw [if_neg (by simp [fF hk1])] at hvi
  subst hvi
  obtain ⟨cs,hcz,hvz⟩:=(h.ev y _ hz).dat_inv
  rw [if_neg (by simp [fF hk2])] at hvz
  subst hvz
  obtain ⟨ms,clock,hm,hr⟩:=h.objs o _ ho
  have hTa:=hT.kt _ _ hka
  have hu:=hT.mps t p hp
  obtain ⟨d0,hd0,_⟩:=kX hTa hk1 hcs hcs
  have hck:=lO hTa hk1 false (a.eval i) w ⟨key,_,hcs⟩
  have hlt:(pl o).b < w.heap.size:=(Array.getElem?_eq_some_iff.1 hm).1
  have hV:∀{A'} {w'} (k:K) (x:k.den) (v:Value),k.key=true→RepD w (Av E s.objs pl) k x [v]→Stay w (Av E s.objs pl) w' A'→ValRep w' A' k x v:=fun k x v hk hc hst=>⟨[v],hc.stay hst,by rw [if_neg (by simp [fF hk])]⟩
  have key':∀(ms':Array MapEntry) (clock':Nat) (es':List (a'.den×b'.den)),rC key z es=es'→(∀(A':Nat→Prop) (w':World),Stay w (Av E s.objs pl) w' A'→MapRep w' A' a' b' es' ms'.toList)→Goes E κ r a {w with heap:=w.heap.setIfInBounds (pl o).b (.map ms' clock')}:=fun ms' clock' es' hp hrep=>by
   have hw:Wr w {w with heap:=w.heap.setIfInBounds (pl o).b (.map ms' clock')} True (pl o).b:=⟨rfl,rfl,rfl,by simp,fun b hb hn=>by
    show (w.heap.setIfInBounds (pl o).b _)[b]? =_
    rw [Array.getElem?_setIfInBounds_ne (fun e=>hn ⟨trivial,e.symm⟩)]⟩
   refine ⟨_,⟨pl,h.write ho (obj':= .mapo a' b' es') ⟨_,rfl⟩ trivial hw (fun A' hA' hst=>⟨ms',clock',by
    show (w.heap.setIfInBounds (pl o).b _)[(pl o).b]? =_
    simp [hlt],hrep A' _ hst⟩)⟩,by rw [←hp];exact hk⟩
  rcases pK hTa hk1 hk2 hcs hd0 0 hr with ⟨_,g2,g4⟩ | ⟨j,y0,m,_,g2,_,g4,g5,g6⟩
  ·refine Oper.wp_of_skip (w':={w with heap:=w.heap.setIfInBounds (pl o).b (.map (ms.push {key:=a.eval i,val:=a.eval y,born:=clock}) (clock+1))}) ?_ (key' _ _ _ (g4 z) (fun A' w' hst=>by
    rw [Array.toList_push]
    exact (hr.stay hst).push (hV _ _ _ hk1 hcs hst) (hV _ _ _ hk2 hcz hst)))
   simp [execOp,Instr.mapUpdate,run_underlying hu,hv,gW hm,hck,Instr.findKey,run_underlying hd0,g2,qA _ hm]
  ·have hgm:ms[j]? =some m:=by simpa using g2
   refine Oper.wp_of_skip (w':={w with heap:=w.heap.setIfInBounds (pl o).b (.map (ms.modify j fun e=>{e with key:=a.eval i,val:=a.eval y}) clock)}) ?_ (key' _ _ _ (g6 z) (fun A' w' hst=>by
    have e1:(ms.modify j fun e=>{e with key:=a.eval i,val:=a.eval y}).toList=ms.toList.set j {m with key:=a.eval i,val:=a.eval y}:=by
     refine List.ext_getElem? fun q=>?_
     rw [Array.getElem?_toList,Array.getElem?_modify,List.getElem?_set]
     by_cases e:j=q
     ·subst e
      simp [hgm]
      exact (Array.getElem?_eq_some_iff.1 hgm).1
     ·simp [e]
    rw [e1]
    exact (hr.stay hst).setAt (hV _ _ _ hk1 hcs hst) (hV _ _ _ hk2 hcz hst) j))
   simp [execOp,Instr.mapUpdate,run_underlying hu,hv,gW hm,hck,Instr.findKey,run_underlying hd0,g4,hgm,Instr.keyThatStays,g5 9999,qA _ hm]
 ·cases hk
end
end Go.Proofs.YtoafkjeamgelgaaDoorHF
