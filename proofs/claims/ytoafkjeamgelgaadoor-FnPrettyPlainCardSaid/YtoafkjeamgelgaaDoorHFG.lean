/- bytes.Buffer, walked by hand. -/
import Derived.Test.YtoafkjeamgelgaaDoorHFB
import Derived.Shelf.LaysM
import Derived.Shelf.RegionOpenPlain
import Derived.Shelf.Bytes.TryGrowAt
import Derived.Shelf.Bytes.GrowSlice
import Derived.Lib.ByteType
import Derived.Lib.BufferWrite
import Derived.Lib.Walk
import Derived.Lib.AppendZeros
import Derived.Lib.Hide
import Derived.Laws.CopyRow
import Derived.Laws.IdiomCopy
import Derived.Laws.MakeOwn
import Derived.WalkKit
import Derived.OwnWalk
import Derived.Defers
import Derived.Recover
import Derived.RegionTactic
import Derived.Deep.RegionWith
import Derived.Deep.Draws
import Derived.BigCall
import Derived.BigGuard
import Derived.Lib.BufferRead
namespace Go.Proofs.YtoafkjeamgelgaaDoorHF
open Go Go.Proofs Go.Shelf Go.RowKit
set_option linter.unusedVariables false
set_option linter.unusedSimpArgs false
variable {P:Program} {ρ:Ren}
theorem XA {w w':World} {a:Addr} (h:∀k,k < w.heap.size→w'.heap[k]? =w.heap[k]?) (hb:a.block < w.heap.size):w'.cell? a=w.cell? a:=World.cell?_of_block (h _ hb)
theorem UL {w w':World} {a:Addr} (h:∀k,k < w.heap.size→w'.heap[k]? =w.heap[k]?) (hb:a.block < w.heap.size):w'.frozen? a=w.frozen? a:=World.frozen?_of_block (h _ hb)
set_option maxHeartbeats 6400000 in
set_option maxRecDepth 100000 in
theorem jI (L:LaysM.n290 P ρ) (a:Addr) (l c n:Nat) (xs:List Value) (w:World) (hxl:xs.length=l) (hsrc:∀j v,xs[j]? =some v→(a.add j).block < w.heap.size∧w.cell? (a.add j)=some v) (hlc:l≤c) (hn:1≤n)
  (hlim:l+n≤140737488355328) (hc2:c≤140737488355328) (h1:∀v∈xs,v.oneCell'=true):
  Calls P (ρ.f 290) #[.slice (some a) l c,.int .i64 n] w fun e w'=>∃cap2 cells,e= .returned (.slice (some ⟨w.heap.size,0,none⟩) l cap2)∧w'.heap[w.heap.size]? =some (.cells cells (ρ.t 5) (0,0))∧
   cells.size=cap2∧cells.toList.take l=xs∧l+n≤cap2∧cap2≤maxLen∧Below w.heap.size w w':=by
 have mixed:=L.mixed
 have t5:=L.t5;have a5:=L.a5;have z5:=L.z5;have v5:=L.v5
 have t37:=L.t37;have a37:=L.a37;have z37:=L.z37;have v37:=L.v37
 have t3:=L.t3;have a3:=L.a3;have z3:=L.z3;have v3:=L.v3
 have t0:=L.t0;have a0:=L.a0;have z0:=L.z0;have v0:=L.v0
 have t4:=L.t4;have a4:=L.a4;have z4:=L.z4;have v4:=L.v4
 obtain ⟨i0,hi,hz0,hz1,hz2⟩:=info_parts L.i5
 have hsz1:(P.info? (ρ.t 5)).map (·.size)=some 1:=by rw [hi];simp [hz1]
 by_cases hC:l+n < 2 * c
 ·have happ:=Lib.run_append_nil_zeros (P:=P) w (ρ.t 37) (ρ.t 3) (ρ.t 37) (ρ.t 5) i0 (.int .u8 0) .i64 .i64 L.t37 L.t3 hi hz0 (2 * c) (by omega) (by omega) (by omega) (by rw [hz2];omega)
  rw [show (((2 * c:Nat)):Int)=2 * (c:Int) by omega] at happ
  generalize hcap:grownCap w (2 * c) 0 (ρ.t 5)=cap2 at happ
  have hcapge:2 * c≤cap2:=by rw [←hcap];exact grownCap_ge w _ 0 (ρ.t 5)
  have hcaple:cap2≤maxLen:=by rw [←hcap];exact grownCap_le_maxLen w _ 0 (ρ.t 5) (by unfold maxLen;omega)
  generalize hZ:(Builtin.zeroCells (Value.int .u8 0).cells (2 * c)++Builtin.zeroCells (Value.int .u8 0).cells (cap2 - (2 * c)))=Z at happ
  have hZs:Z.size=cap2:=by rw [←hZ];simp [size_zeroCells,Value.cells];omega
  clear hcap hZ
  have hcopy:=run_copy_row (P:=P) (w.alloc (.cells Z (ρ.t 5))).drew (ρ.t 37) (ρ.t 37) (ρ.t 3) (ρ.t 5) w.heap.size 0 (2 * c) cap2 a l c Z (ρ.t 5) xs L.t37 hsz1 (heap_alloc_new w _) (by rw [hxl];exact (Nat.min_eq_left (by omega)).symm) (fun j v hv=>(World.cell?_of_block (a:=a.add j) (Below.heap_alloc w _ _ (hsrc j v hv).1)).trans (hsrc j v hv).2) (by rw [hxl];omega) h1
  rw [hxl] at hcopy
  generalize hY:(Z.toList.take 0++xs++Z.toList.drop (0+l)).toArray=Y at hcopy
  go_enter_defers L.f290,Body.n290_ntmps ρ
  go_wp2_with (at_builtin;refine Lib.wpList_append_run _ rfl _ _ _ _ rfl _ _ rfl rfl _ _ happ ?_)
  refine leaves_cons (f:=(ρ.f 324)) (args:=#[]) (by simp) (enters_of L.f324 (by kernel_rfl) rfl _ _) ?_
  refine (Any.growSlice_catch_idle {L with} _).mono ?_
  rintro e u' w'' ⟨rfl,rfl,rfl⟩
  refine ⟨_,results_tmp rfl _ _ _,?_⟩
  have hYl:Y.toList=xs++Z.toList.drop l:=by rw [←hY];simp
  refine ⟨cap2,Y,rfl,setRow_heap _ _ Z Y (ρ.t 5) (0,0) (heap_alloc_new w _),?_,?_,by omega,hcaple,?_⟩
  ·have:Y.toList.length=cap2:=by rw [hYl,List.length_append,hxl,List.length_drop,Array.length_toList,hZs];omega
   simpa using this
  ·rw [hYl,List.take_append_of_le_length (by rw [hxl];exact Nat.le_refl _),List.take_of_length_le (by rw [hxl];exact Nat.le_refl _)]
  ·exact ⟨rfl,rfl,rfl,by simp,fun k hk=>by rw [setRow_other _ _ _ _ (by omega)];exact Below.heap_alloc w _ k hk⟩
 ·have happ:=Lib.run_append_nil_zeros (P:=P) w (ρ.t 37) (ρ.t 3) (ρ.t 37) (ρ.t 5) i0 (.int .u8 0) .i64 .i64 L.t37 L.t3 hi hz0 (l+n) (by omega) (by omega) (by omega) (by rw [hz2];omega)
  rw [show (((l+n:Nat)):Int)=(l:Int)+(n:Int) by omega] at happ
  generalize hcap:grownCap w (l+n) 0 (ρ.t 5)=cap2 at happ
  have hcapge:l+n≤cap2:=by rw [←hcap];exact grownCap_ge w _ 0 (ρ.t 5)
  have hcaple:cap2≤maxLen:=by rw [←hcap];exact grownCap_le_maxLen w _ 0 (ρ.t 5) (by unfold maxLen;omega)
  generalize hZ:(Builtin.zeroCells (Value.int .u8 0).cells (l+n)++Builtin.zeroCells (Value.int .u8 0).cells (cap2 - (l+n)))=Z at happ
  have hZs:Z.size=cap2:=by rw [←hZ];simp [size_zeroCells,Value.cells];omega
  clear hcap hZ
  have hcopy:=run_copy_row (P:=P) (w.alloc (.cells Z (ρ.t 5))).drew (ρ.t 37) (ρ.t 37) (ρ.t 3) (ρ.t 5) w.heap.size 0 (l+n) cap2 a l c Z (ρ.t 5) xs L.t37 hsz1 (heap_alloc_new w _) (by rw [hxl];exact (Nat.min_eq_left (by omega)).symm) (fun j v hv=>(World.cell?_of_block (a:=a.add j) (Below.heap_alloc w _ _ (hsrc j v hv).1)).trans (hsrc j v hv).2) (by rw [hxl];omega) h1
  rw [hxl] at hcopy
  generalize hY:(Z.toList.take 0++xs++Z.toList.drop (0+l)).toArray=Y at hcopy
  go_enter_defers L.f290,Body.n290_ntmps ρ
  go_wp2_with (at_builtin;refine Lib.wpList_append_run _ rfl _ _ _ _ rfl _ _ rfl rfl _ _ happ ?_)
  refine leaves_cons (f:=(ρ.f 324)) (args:=#[]) (by simp) (enters_of L.f324 (by kernel_rfl) rfl _ _) ?_
  refine (Any.growSlice_catch_idle {L with} _).mono ?_
  rintro e u' w'' ⟨rfl,rfl,rfl⟩
  refine ⟨_,results_tmp rfl _ _ _,?_⟩
  have hYl:Y.toList=xs++Z.toList.drop l:=by rw [←hY];simp
  refine ⟨cap2,Y,rfl,setRow_heap _ _ Z Y (ρ.t 5) (0,0) (heap_alloc_new w _),?_,?_,by omega,hcaple,?_⟩
  ·have:Y.toList.length=cap2:=by rw [hYl,List.length_append,hxl,List.length_drop,Array.length_toList,hZs];omega
   simpa using this
  ·rw [hYl,List.take_append_of_le_length (by rw [hxl];exact Nat.le_refl _),List.take_of_length_le (by rw [hxl];exact Nat.le_refl _)]
  ·exact ⟨rfl,rfl,rfl,by simp,fun k hk=>by rw [setRow_other _ _ _ _ (by omega)];exact Below.heap_alloc w _ k hk⟩
set_option maxRecDepth 100000 in
theorem gT (L:LaysM.n181 P ρ) (b q l c:Nat) (ao:Option Addr) (w:World) (c0:w.cell? ⟨b,q,none⟩=some (.slice ao l c)) (c1:w.cell? ⟨b,q+1,none⟩=some (.int .i64 0)) (hl:l≤maxLen):
  Calls P (ρ.f 181) #[.pointer (some ⟨b,q,none⟩)] w fun e w'=>e= .returned (.int .i64 l)∧∃n,w'=w.drewN n:=by
 have mixed:=L.mixed
 have t5:=L.t5;have a5:=L.a5;have z5:=L.z5;have v5:=L.v5
 have t130:=L.t130;have a130:=L.a130;have z130:=L.z130;have v130:=L.v130
 have t3:=L.t3;have a3:=L.a3;have z3:=L.z3;have v3:=L.v3
 have t0:=L.t0;have a0:=L.a0;have z0:=L.z0;have v0:=L.v0
 have t93:=L.t93;have u93:=run_underlying L.t93;have a93:=L.a93;have z93:=L.z93;have v93:=L.v93
 have t37:=L.t37;have a37:=L.a37;have z37:=L.z37;have v37:=L.v37
 unfold maxLen at hl
 go_enter L.f181,Body.n181_ntmps ρ
 go_wp2
 go_region_o
 all_goals (go_wp2;go_ret;exact ⟨by simp,1,rfl⟩)
def BufC (w:World) (b q:Nat) (v lr:Value):Prop:=∃cs t,CellsAt w b cs t∧cs[q]? =some v∧cs[q+1]? =some (.int .i64 0)∧cs[q+2]? =some lr
theorem CellsAt.cell {w:World} {b:Nat} {cs:Array Value} {t:TypeId} (h:CellsAt w b cs t) (j:Nat):w.cell? ⟨b,j,none⟩=cs[j]? :=let ⟨_,h,_⟩:=h;cell_of_row _ _ _ _ _ _ h
theorem CellsAt.setCell {w:World} {b:Nat} {cs:Array Value} {t:TypeId} (h:CellsAt w b cs t) (o:Nat) (v:Value):CellsAt (w.setCell ⟨b,o,none⟩ v) b (cs.setIfInBounds o v) t:=by
 obtain ⟨fz,h,hf⟩:=h
 exact ⟨fz,heap_setCell w b o v h,by simpa using hf⟩
section
variable {w w':World} {b q:Nat} {v lr:Value}
theorem BufC.lt (h:BufC w b q v lr):b < w.heap.size:=let ⟨_,_,h,_⟩:=h;h.lt
theorem BufC.c0 (h:BufC w b q v lr):w.cell? ⟨b,q,none⟩=some v:=let ⟨_,_,h,h0,_⟩:=h;(h.cell q).trans h0
theorem BufC.c1 (h:BufC w b q v lr):w.cell? ⟨b,q+1,none⟩=some (.int .i64 0):=let ⟨_,_,h,_,h0,_⟩:=h;(h.cell _).trans h0
theorem BufC.c2 (h:BufC w b q v lr):w.cell? ⟨b,q+2,none⟩=some lr:=let ⟨_,_,h,_,_,h0⟩:=h;(h.cell _).trans h0
theorem BufC.f (h:BufC w b q v lr) (j:Nat) (hj:j < 3):w.frozen? ⟨b,q+j,none⟩=false:=by
 obtain ⟨cs,t,h,_,_,h0⟩:=h
 have:=(Array.getElem?_eq_some_iff.1 h0).1
 exact (bY (o:=q) (n:=3) h (by omega) j hj).2
theorem BufC.stay (h:BufC w b q v lr) (hb:w'.heap[b]? =w.heap[b]?):BufC w' b q v lr:=let ⟨cs,t,h,h0⟩:=h;⟨cs,t,h.stay hb,h0⟩
theorem BufC.set0 (h:BufC w b q v lr) (v':Value):BufC (w.setCell ⟨b,q,none⟩ v') b q v' lr:=by
 obtain ⟨cs,t,h,h0,h1,h2⟩:=h
 have l0:=(Array.getElem?_eq_some_iff.1 h0).1
 refine ⟨_,_,h.setCell q v',?_,?_,?_⟩
 ·rw [Array.getElem?_setIfInBounds_self_of_lt l0]
 ·rw [Array.getElem?_setIfInBounds_ne (by omega)];exact h1
 ·rw [Array.getElem?_setIfInBounds_ne (by omega)];exact h2
theorem BufC.set1 (h:BufC w b q v lr):BufC (w.setCell ⟨b,q+1,none⟩ (.int .i64 0)) b q v lr:=by
 obtain ⟨cs,t,h,h0,h1,h2⟩:=h
 have l0:=(Array.getElem?_eq_some_iff.1 h1).1
 refine ⟨_,_,h.setCell (q+1) _,?_,?_,?_⟩
 ·rw [Array.getElem?_setIfInBounds_ne (by omega)];exact h0
 ·rw [Array.getElem?_setIfInBounds_self_of_lt l0]
 ·rw [Array.getElem?_setIfInBounds_ne (by omega)];exact h2
theorem BufC.set2 (h:BufC w b q v lr) (x:Value):BufC (w.setCell ⟨b,q+2,none⟩ x) b q v x:=by
 obtain ⟨cs,t,h,h0,h1,h2⟩:=h
 have l0:=(Array.getElem?_eq_some_iff.1 h2).1
 refine ⟨_,_,h.setCell (q+2) _,?_,?_,?_⟩
 ·rw [Array.getElem?_setIfInBounds_ne (by omega)];exact h0
 ·rw [Array.getElem?_setIfInBounds_ne (by omega)];exact h1
 ·rw [Array.getElem?_setIfInBounds_self_of_lt l0]
structure FrB (w:World) (b:Nat) (w':World):Prop where
 os:w'.os=w.os
 tape:w'.tape=w.tape
 output:w'.output=w.output
 size:w.heap.size≤w'.heap.size
 block:∀k,k < w.heap.size→k≠b→w'.heap[k]? =w.heap[k]?
theorem FrB.refl (w:World) (b:Nat):FrB w b w:=⟨rfl,rfl,rfl,Nat.le_refl _,fun _ _ _=>rfl⟩
theorem FrB.trans {w2:World} (h:FrB w b w') (k:FrB w' b w2):FrB w b w2:=⟨k.os.trans h.os,k.tape.trans h.tape,k.output.trans h.output,Nat.le_trans h.size k.size,fun i hi hn=>(k.block i (Nat.lt_of_lt_of_le hi h.size) hn).trans (h.block i hi hn)⟩
theorem FrB.setB (h:FrB w b w') (o:Nat) (x:Value):FrB w b (w'.setCell ⟨b,o,none⟩ x):=
 let W:=Wr.setCell w' b o x
 h.trans ⟨W.os,W.tape,W.output,W.size,fun k hk hn=>W.block k hk (fun h=>hn h.2)⟩
theorem FrB.below {w2:World} (h:FrB w b w') (k:Below w'.heap.size w' w2):FrB w b w2:=h.trans ⟨k.os,k.tape,k.output,k.size,fun i hi _=>k.block i hi⟩
theorem FrB.alloc (h:FrB w b w') (o:Obj):FrB w b (w'.alloc o):=h.trans ⟨rfl,rfl,rfl,by simp,fun i hi _=>Below.heap_alloc w' o i hi⟩
end
def xG (T:TypeId) (w:World) (b q n l:Nat) (xs:List Value) (lr:Value) (w':World):Prop:=∃cap2 cells,BufC w' b q (.slice (some ⟨w.heap.size,0,none⟩) ((l:Nat)+n) cap2) lr∧w'.heap[w.heap.size]? =some (.cells cells T (0,0))∧cells.size=cap2∧cells.toList.take l=xs∧l+n≤cap2∧cap2≤maxLen∧FrB w b w'
theorem mK {w2:World} {g b q:Nat} {o:Obj} {v1 v2 v3:Value} (h:w2.heap[g]? =some o) (hb:b≠g):(((w2.setCell ⟨b,q,none⟩ v1).setCell ⟨b,q+1,none⟩ v2).setCell ⟨b,q,none⟩ v3).heap[g]? =some o:=by
 rw [Below.heap_setCell _ _ _ _ (fun e=>hb e.symm),Below.heap_setCell _ _ _ _ (fun e=>hb e.symm),Below.heap_setCell _ _ _ _ (fun e=>hb e.symm)]
 exact h
set_option maxHeartbeats 12800000 in
set_option maxRecDepth 100000 in
theorem FW (L:LaysM.n252 P ρ) (b q l:Nat) (a:Addr) (c n:Nat) (xs:List Value) (lr:Value) (w:World) (hb:BufC w b q (.slice (some a) l c) lr) (hxl:xs.length=l) (hsrc:∀j v,xs[j]? =some v→(a.add j).block < w.heap.size∧w.cell? (a.add j)=some v)
  (hlc:l≤c) (hcm:c≤maxLen) (h1:∀v∈xs,v.oneCell'=true) (hn:1≤n) (hroom:c - l < n) (hlim:l+n≤140737488355328) (hl0:¬l=0):
  Calls P (ρ.f 252) #[.pointer (some ⟨b,q,none⟩),.int .i64 n] w fun e w'=>e= .returned (.int .i64 l)∧xG (ρ.t 5) w b q n l xs lr w':=by
 have mixed:=L.mixed
 have t5:=L.t5;have a5:=L.a5;have z5:=L.z5;have v5:=L.v5
 have t130:=L.t130;have a130:=L.a130;have z130:=L.z130;have v130:=L.v130
 have t3:=L.t3;have a3:=L.a3;have z3:=L.z3;have v3:=L.v3
 have t4:=L.t4;have a4:=L.a4;have z4:=L.z4;have v4:=L.v4
 have t0:=L.t0;have a0:=L.a0;have z0:=L.z0;have v0:=L.v0
 have t93:=L.t93;have u93:=run_underlying L.t93;have a93:=L.a93;have z93:=L.z93;have v93:=L.v93
 have t131:=L.t131;have a131:=L.a131;have z131:=L.z131;have v131:=L.v131
 have t37:=L.t37;have a37:=L.a37;have z37:=L.z37;have v37:=L.v37
 have t75:=L.t75;have a75:=L.a75;have z75:=L.z75;have v75:=L.v75
 have e181:∀args w,(callFunc (ρ.f 181) args).run P w= .ok (.enter (ρ.f 181) args) w:=enters_of L.f181 (by kernel_rfl) rfl
 have e251:∀args w,(callFunc (ρ.f 251) args).run P w= .ok (.enter (ρ.f 251) args) w:=enters_of L.f251 (by kernel_rfl) rfl
 have e290:∀args w,(callFunc (ρ.f 290) args).run P w= .ok (.enter (ρ.f 290) args) w:=enters_of L.f290 (by kernel_rfl) rfl
 have hnil:∀W,(binOp .eql (ρ.t 37) (.slice (some a) l c) (.slice none 0 0)).run P W= .ok (.bool false) W:=fun W=>Lib.run_eql_slice_some_nil W _ _ _ L.t37
 go_enter L.f252,Body.n252_ntmps ρ
 go_wp2_with (go_at_fn (ρ.f 181);refine (gT {L with} b q l c _ _ hb.c0 hb.c1 (Nat.le_trans hlc hcm)).mono ?_)
 rintro e W0 ⟨rfl,k,hW0⟩
 have hb0:BufC W0 b q (.slice (some a) l c) lr:=by rw [hW0];exact hb
 have c0:=hb0.c0
 have c1:=hb0.c1
 have f0:W0.frozen? ⟨b,q,none⟩=false:=hb0.f 0 (by omega)
 have f1:W0.frozen? ⟨b,q+1,none⟩=false:=hb0.f 1 (by omega)
 have hsrc0:∀j v,xs[j]? =some v→(a.add j).block < W0.heap.size∧W0.cell? (a.add j)=some v:=by rw [hW0];exact hsrc
 have HW0:=Lib.hid hW0
 clear hW0
 have hcm':=hcm
 unfold maxLen at hcm'
 go_wp2_with (go_at_fn (ρ.f 251);refine (Any.Buffer_tryGrow_none_at {L with} b q _ l c n _ c0 hlc hcm hroom).mono ?_;rintro e w' ⟨rfl,rfl⟩)
 have hc2:c≤140737488355328:=by omega
 have hbW:=hb0.lt
 have hwn:IntKind.i64.wrap (n:Int)=n:=by rw [IntKind.wrap_i64];omega
 go_region_with_o (
   go_at_fn (ρ.f 290)
   refine (jI {L with} a l c n xs _ hxl ?_ hlc hn hlim hc2 h1).mono ?_
   exact hsrc0
   rintro e w2 ⟨cap2,cells,rfl,hN,hcsz,htk,hcap2,hcm2,hbel⟩
   have hbk2:BufC w2 b q (.slice (some a) l c) lr:=hb0.stay (hbel.block b hbW)
   have d0:=hbk2.c0
   have d1:=hbk2.c1
   have e0:w2.frozen? ⟨b,q,none⟩=false:=hbk2.f 0 (by omega)
   have e1:w2.frozen? ⟨b,q+1,none⟩=false:=hbk2.f 1 (by omega))
 all_goals (
  go_wp2
  go_ret
  have hsz0:w'.heap.size=w.heap.size:=by rw [HW0.out];rfl
  have hfr0:FrB w b w'.drew:=by rw [HW0.out];exact ⟨rfl,rfl,rfl,Nat.le_refl _,fun _ _ _=>rfl⟩
  have hbn:b≠w.heap.size:=by omega
  exact ⟨rfl,cap2,cells,(by rw [←hsz0];exact ((hbk2.set0 _).set1).set0 _),mK (by rw [←hsz0];exact hN) hbn,hcsz,htk,hcap2,hcm2,(((hfr0.below hbel).setB q _).setB (q+1) _).setB q _⟩)
set_option maxHeartbeats 12800000 in
set_option maxRecDepth 100000 in
theorem EO (L:LaysM.n252 P ρ) (b q:Nat) (a:Addr) (c n:Nat) (xs:List Value) (lr:Value) (w:World) (hb:BufC w b q (.slice (some a) 0 c) lr) (hxl:xs.length=0) (hsrc:∀j v,xs[j]? =some v→(a.add j).block < w.heap.size∧w.cell? (a.add j)=some v)
  (hlc:0≤c) (hcm:c≤maxLen) (h1:∀v∈xs,v.oneCell'=true) (hn:1≤n) (hroom:c - 0 < n) (hlim:0+n≤140737488355328):
  Calls P (ρ.f 252) #[.pointer (some ⟨b,q,none⟩),.int .i64 n] w fun e w'=>e= .returned (.int .i64 0)∧xG (ρ.t 5) w b q n 0 xs lr w':=by
 have mixed:=L.mixed
 have t5:=L.t5;have a5:=L.a5;have z5:=L.z5;have v5:=L.v5
 have t130:=L.t130;have a130:=L.a130;have z130:=L.z130;have v130:=L.v130
 have t3:=L.t3;have a3:=L.a3;have z3:=L.z3;have v3:=L.v3
 have t4:=L.t4;have a4:=L.a4;have z4:=L.z4;have v4:=L.v4
 have t0:=L.t0;have a0:=L.a0;have z0:=L.z0;have v0:=L.v0
 have t93:=L.t93;have u93:=run_underlying L.t93;have a93:=L.a93;have z93:=L.z93;have v93:=L.v93
 have t131:=L.t131;have a131:=L.a131;have z131:=L.z131;have v131:=L.v131
 have t37:=L.t37;have a37:=L.a37;have z37:=L.z37;have v37:=L.v37
 have t75:=L.t75;have a75:=L.a75;have z75:=L.z75;have v75:=L.v75
 have e181:∀args w,(callFunc (ρ.f 181) args).run P w= .ok (.enter (ρ.f 181) args) w:=enters_of L.f181 (by kernel_rfl) rfl
 have e251:∀args w,(callFunc (ρ.f 251) args).run P w= .ok (.enter (ρ.f 251) args) w:=enters_of L.f251 (by kernel_rfl) rfl
 have e290:∀args w,(callFunc (ρ.f 290) args).run P w= .ok (.enter (ρ.f 290) args) w:=enters_of L.f290 (by kernel_rfl) rfl
 have hnil:∀W,(binOp .eql (ρ.t 37) (.slice (some a) 0 c) (.slice none 0 0)).run P W= .ok (.bool false) W:=fun W=>Lib.run_eql_slice_some_nil W _ _ _ L.t37
 go_enter L.f252,Body.n252_ntmps ρ
 go_wp2_with (go_at_fn (ρ.f 181);refine (gT {L with} b q 0 c _ _ hb.c0 hb.c1 (Nat.le_trans hlc hcm)).mono ?_)
 rintro e W0 ⟨rfl,k,hW0⟩
 have hb0:BufC W0 b q (.slice (some a) 0 c) lr:=by rw [hW0];exact hb
 have c0:=hb0.c0
 have c1:=hb0.c1
 have f0:W0.frozen? ⟨b,q,none⟩=false:=hb0.f 0 (by omega)
 have f1:W0.frozen? ⟨b,q+1,none⟩=false:=hb0.f 1 (by omega)
 have hsrc0:∀j v,xs[j]? =some v→(a.add j).block < W0.heap.size∧W0.cell? (a.add j)=some v:=by rw [hW0];exact hsrc
 have HW0:=Lib.hid hW0
 clear hW0
 have hcm':=hcm
 unfold maxLen at hcm'
 go_wp2_with (go_at_fn (ρ.f 251);refine (Any.Buffer_tryGrow_none_at {L with} b q _ 0 c n _ c0 hlc hcm hroom).mono ?_;rintro e w' ⟨rfl,rfl⟩)
 have hc2:c≤140737488355328:=by omega
 have hbW:=hb0.lt
 have hwn:IntKind.i64.wrap (n:Int)=n:=by rw [IntKind.wrap_i64];omega
 go_region_with_o (
   go_at_fn (ρ.f 290)
   refine (jI {L with} a 0 c n xs _ hxl ?_ hlc hn hlim hc2 h1).mono ?_
   exact hsrc0
   rintro e w2 ⟨cap2,cells,rfl,hN,hcsz,htk,hcap2,hcm2,hbel⟩
   have hbk2:BufC w2 b q (.slice (some a) 0 c) lr:=hb0.stay (hbel.block b hbW)
   have d0:=hbk2.c0
   have d1:=hbk2.c1
   have e0:w2.frozen? ⟨b,q,none⟩=false:=hbk2.f 0 (by omega)
   have e1:w2.frozen? ⟨b,q+1,none⟩=false:=hbk2.f 1 (by omega))
 all_goals (
  go_wp2
  go_ret
  have hsz0:w'.heap.size=w.heap.size:=by rw [HW0.out];rfl
  have hfr0:FrB w b w'.drew:=by rw [HW0.out];exact ⟨rfl,rfl,rfl,Nat.le_refl _,fun _ _ _=>rfl⟩
  have hbn:b≠w.heap.size:=by omega
  exact ⟨rfl,cap2,cells,(by rw [←hsz0];simpa using ((hbk2.set0 _).set1).set0 _),mK (by rw [←hsz0];exact hN) hbn,hcsz,htk,hcap2,hcm2,(((hfr0.below hbel).setB q _).setB (q+1) _).setB q _⟩)
end Go.Proofs.YtoafkjeamgelgaaDoorHF

namespace Go.Proofs.YtoafkjeamgelgaaDoorHF
open Go Go.Proofs Go.Shelf Go.RowKit
set_option linter.unusedVariables false
set_option linter.unusedSimpArgs false
variable {P:Program} {ρ:Ren}
set_option maxHeartbeats 6400000 in
set_option maxRecDepth 100000 in
theorem GU (L:LaysM.n252 P ρ) (b q n:Nat) (lr:Value) (w:World) (hb:BufC w b q (.slice none 0 0) lr) (hn:1≤n) (h64:n≤64):
  Calls P (ρ.f 252) #[.pointer (some ⟨b,q,none⟩),.int .i64 n] w fun e w'=>e= .returned (.int .i64 0)∧xG (ρ.t 5) w b q n 0 [] lr w':=by
 have mixed:=L.mixed
 have t5:=L.t5;have a5:=L.a5;have z5:=L.z5;have v5:=L.v5
 have t130:=L.t130;have a130:=L.a130;have z130:=L.z130;have v130:=L.v130
 have t3:=L.t3;have a3:=L.a3;have z3:=L.z3;have v3:=L.v3
 have t4:=L.t4;have a4:=L.a4;have z4:=L.z4;have v4:=L.v4
 have t0:=L.t0;have a0:=L.a0;have z0:=L.z0;have v0:=L.v0
 have t93:=L.t93;have u93:=run_underlying L.t93;have a93:=L.a93;have z93:=L.z93;have v93:=L.v93
 have t131:=L.t131;have a131:=L.a131;have z131:=L.z131;have v131:=L.v131
 have t37:=L.t37;have a37:=L.a37;have z37:=L.z37;have v37:=L.v37
 have t75:=L.t75;have a75:=L.a75;have z75:=L.z75;have v75:=L.v75
 have e181:∀args w,(callFunc (ρ.f 181) args).run P w= .ok (.enter (ρ.f 181) args) w:=enters_of L.f181 (by kernel_rfl) rfl
 have e251:∀args w,(callFunc (ρ.f 251) args).run P w= .ok (.enter (ρ.f 251) args) w:=enters_of L.f251 (by kernel_rfl) rfl
 obtain ⟨i0,hi,hz0,hz1,hz2⟩:=info_parts L.i5
 obtain ⟨M,hM⟩:∃M,M=madeCells (Value.int .u8 0).cells ((64:Int).toNat * i0.size):=⟨_,rfl⟩
 have hMs:M.size=64:=by rw [hM,size_madeCells,hz1];rfl
 have hmk:∀W:World,(Instr.makeSlice (ρ.t 37) (.int .i64 (n:Int)) (.int .i64 64)).run P W= .ok (.slice (some ⟨W.heap.size,0,none⟩) n 64) (W.alloc (.cells M (ρ.t 5))):=fun W=>by
  have h:=run_makeSlice (P:=P) W (ρ.t 37) (ρ.t 5) i0 (.int .u8 0) L.t37 hi hz0 .i64 .i64 (n:Int) 64 (by omega) (by omega) (by rw [hz1];decide) (by rw [hz2];decide) (by decide)
  rw [←hM] at h
  simpa using h
 clear hM
 have hnil:∀W,(binOp .eql (ρ.t 37) (.slice none 0 0) (.slice none 0 0)).run P W= .ok (.bool true) W:=fun W=>Lib.run_eql_slice_nil_nil W _ _ L.t37
 go_enter L.f252,Body.n252_ntmps ρ
 go_wp2_with (go_at_fn (ρ.f 181);refine (gT {L with} b q 0 0 _ _ hb.c0 hb.c1 (Nat.zero_le _)).mono ?_)
 rintro e W0 ⟨rfl,k,hW0⟩
 have hb0:BufC W0 b q (.slice none 0 0) lr:=by rw [hW0];exact hb
 have c0:=hb0.c0
 have c1:=hb0.c1
 have f0:W0.frozen? ⟨b,q,none⟩=false:=hb0.f 0 (by omega)
 have f1:W0.frozen? ⟨b,q+1,none⟩=false:=hb0.f 1 (by omega)
 have hbW0:=hb0.lt
 have c0a:∀o,(W0.alloc o).cell? ⟨b,q,none⟩=some (.slice none 0 0):=fun o=>(World.cell?_of_block (a:=⟨b,q,none⟩) (Below.heap_alloc W0 o b hbW0)).trans c0
 have f0a:∀o,(W0.alloc o).frozen? ⟨b,q,none⟩=false:=fun o=>(World.frozen?_of_block (a:=⟨b,q,none⟩) (Below.heap_alloc W0 o b hbW0)).trans f0
 have HW0:=Lib.hid hW0
 clear hW0
 go_wp2_with (go_at_fn (ρ.f 251);refine (Any.Buffer_tryGrow_none_at {L with} b q _ 0 0 n _ c0 (Nat.le_refl _) (Nat.zero_le _) (by omega)).mono ?_;rintro e w' ⟨rfl,rfl⟩)
 go_ret
 have hsz0:w'.heap.size=w.heap.size:=by rw [HW0.out];rfl
 have hfr0:FrB w b w':=by rw [HW0.out];exact ⟨rfl,rfl,rfl,Nat.le_refl _,fun _ _ _=>rfl⟩
 have hbn:b≠w'.heap.size:=by omega
 have hsz1:∀v,(w'.setCell ⟨b,q,none⟩ v).heap.size=w'.heap.size:=fun v=>by simp [World.setCell]
 refine ⟨rfl,64,M,?_,?_,hMs,by simp,by omega,by unfold maxLen;omega,(hfr0.setB q _).alloc _⟩
 ·rw [←hsz0]
  have:=(hb0.set0 (.slice (some ⟨w'.heap.size,0,none⟩) ((0:Nat)+n) 64)).stay (Below.heap_alloc _ (.cells M (ρ.t 5)) b (by rw [hsz1];exact hbW0))
  simpa using this
 ·rw [←hsz0]
  have:=eY (w'.setCell ⟨b,q,none⟩ (.slice (some ⟨w'.heap.size,0,none⟩) n 64)) (.cells M (ρ.t 5))
  rw [hsz1] at this
  exact this
set_option maxHeartbeats 12800000 in
set_option maxRecDepth 100000 in
theorem EU (L:LaysM.n252 P ρ) (b q n:Nat) (lr:Value) (w:World) (hb:BufC w b q (.slice none 0 0) lr) (h64:64 < n) (hlim:n≤140737488355328):
  Calls P (ρ.f 252) #[.pointer (some ⟨b,q,none⟩),.int .i64 n] w fun e w'=>e= .returned (.int .i64 0)∧xG (ρ.t 5) w b q n 0 [] lr w':=by
 have mixed:=L.mixed
 have t5:=L.t5;have a5:=L.a5;have z5:=L.z5;have v5:=L.v5
 have t130:=L.t130;have a130:=L.a130;have z130:=L.z130;have v130:=L.v130
 have t3:=L.t3;have a3:=L.a3;have z3:=L.z3;have v3:=L.v3
 have t4:=L.t4;have a4:=L.a4;have z4:=L.z4;have v4:=L.v4
 have t0:=L.t0;have a0:=L.a0;have z0:=L.z0;have v0:=L.v0
 have t93:=L.t93;have u93:=run_underlying L.t93;have a93:=L.a93;have z93:=L.z93;have v93:=L.v93
 have t131:=L.t131;have a131:=L.a131;have z131:=L.z131;have v131:=L.v131
 have t37:=L.t37;have a37:=L.a37;have z37:=L.z37;have v37:=L.v37
 have t75:=L.t75;have a75:=L.a75;have z75:=L.z75;have v75:=L.v75
 have e181:∀args w,(callFunc (ρ.f 181) args).run P w= .ok (.enter (ρ.f 181) args) w:=enters_of L.f181 (by kernel_rfl) rfl
 have e251:∀args w,(callFunc (ρ.f 251) args).run P w= .ok (.enter (ρ.f 251) args) w:=enters_of L.f251 (by kernel_rfl) rfl
 have e290:∀args w,(callFunc (ρ.f 290) args).run P w= .ok (.enter (ρ.f 290) args) w:=enters_of L.f290 (by kernel_rfl) rfl
 have hn:1≤n:=by omega
 have hnil:∀W,(binOp .eql (ρ.t 37) (.slice none 0 0) (.slice none 0 0)).run P W= .ok (.bool true) W:=fun W=>Lib.run_eql_slice_nil_nil W _ _ L.t37
 go_enter L.f252,Body.n252_ntmps ρ
 go_wp2_with (go_at_fn (ρ.f 181);refine (gT {L with} b q 0 0 _ _ hb.c0 hb.c1 (Nat.zero_le _)).mono ?_)
 rintro e W0 ⟨rfl,k,hW0⟩
 have hb0:BufC W0 b q (.slice none 0 0) lr:=by rw [hW0];exact hb
 have c0:=hb0.c0
 have c1:=hb0.c1
 have f0:W0.frozen? ⟨b,q,none⟩=false:=hb0.f 0 (by omega)
 have f1:W0.frozen? ⟨b,q+1,none⟩=false:=hb0.f 1 (by omega)
 have HW0:=Lib.hid hW0
 clear hW0
 go_wp2_with (go_at_fn (ρ.f 251);refine (Any.Buffer_tryGrow_none_at {L with} b q _ 0 0 n _ c0 (Nat.le_refl _) (Nat.zero_le _) (by omega)).mono ?_;rintro e w' ⟨rfl,rfl⟩)
 have hbW:=hb0.lt
 have hwn:IntKind.i64.wrap (n:Int)=n:=by rw [IntKind.wrap_i64];omega
 go_region_with_o (
   go_at_fn (ρ.f 290)
   refine (Any.bytes_growSlice_nil {L with} n _ hn hlim).mono ?_
   rintro e w2 ⟨cap2,cells,rfl,hN,hcsz,hcap2,hcm2,hbel⟩
   have hbk2:BufC w2 b q (.slice none 0 0) lr:=hb0.stay (hbel.block b hbW)
   have d0:=hbk2.c0
   have d1:=hbk2.c1
   have e0:w2.frozen? ⟨b,q,none⟩=false:=hbk2.f 0 (by omega)
   have e1:w2.frozen? ⟨b,q+1,none⟩=false:=hbk2.f 1 (by omega))
 all_goals (
  go_wp2
  go_ret
  have hsz0:w'.heap.size=w.heap.size:=by rw [HW0.out];rfl
  have hfr0:FrB w b w'.drew:=by rw [HW0.out];exact ⟨rfl,rfl,rfl,Nat.le_refl _,fun _ _ _=>rfl⟩
  have hbn:b≠w.heap.size:=by omega
  exact ⟨rfl,cap2,cells,(by rw [←hsz0];simpa using ((hbk2.set0 _).set1).set0 _),mK (by rw [←hsz0];exact hN) hbn,hcsz,(by simp),(by omega),hcm2,(((hfr0.below hbel).setB q _).setB (q+1) _).setB q _⟩)
theorem tG (s:BA):∀v∈Lib.byteCells s.data.toList,v.oneCell'=true:=Lib.byteCells_one _
theorem qZ {P:Program} (w:World) (dT sT ty elem:TypeId) (g o dLen dCap:Nat) (s:BA) (hu:P.underlying dT=some (.slice elem)) (hs:(P.info? elem).map (·.size)=some 1) (hle:s.size≤dLen)
  (hc:w.there g o s.size):
  (Builtin.copy_ #[dT,sT] ty #[.slice (some ⟨g,o,none⟩) dLen dCap,.string s]).run P w= .ok (goInt s.size) (w.setCells g o (Lib.byteCells s.data.toList)):=by
 have hlen:(Lib.byteCells s.data.toList).length=s.size:=by rw [Lib.byteCells_length,←Lib.size_eq]
 have hst:=run_storeCells_cells (P:=P) g o (Lib.byteCells s.data.toList) 0 w (by simpa [hlen] using fun j hj=>(hc j hj).1) (by simpa [hlen] using fun j hj=>(hc j hj).2) (tG s)
 have hmin:Nat.min s.size dLen=s.size:=Nat.min_eq_left hle
 have htk:List.take s.size (List.map (fun b:UInt8=>Value.int IntKind.u8 (b.toNat:Int)) s.data.toList)=Lib.byteCells s.data.toList:=by
  rw [List.take_of_length_le (by rw [List.length_map,←Lib.size_eq];exact Nat.le_refl _)]
  rfl
 simp only [Nat.add_zero] at hst
 cases hq:P.info? elem with
 | none=>simp [hq] at hs
 | some i=>
  simp [Builtin.copy_,run_underlying hu,Builtin.lenOf,Builtin.firstCells,sizeOf,typeInfo,hq,hmin]
  rw [htk,hst]
  simp [Result.andThen]
end Go.Proofs.YtoafkjeamgelgaaDoorHF

namespace Go.Proofs.YtoafkjeamgelgaaDoorHF
open Go Go.Proofs Go.Shelf Go.RowKit
set_option linter.unusedVariables false
set_option linter.unusedSimpArgs false
variable {P:Program} {ρ:Ren}
def EN (w:World) (ao:Option Addr) (c:Nat) (xs:List Value) (own:List Nat):Prop:=(c=0∧xs=[]∧own=[])∨∃g off cs t,0 < c∧own=[g]∧ao=some ⟨g,off,none⟩∧CellsAt w g cs t∧off+c≤cs.size∧∀j v,xs[j]? =some v→w.cell? ⟨g,off+j,none⟩=some v
def lH (w:World) (b q:Nat) (own:List Nat) (xs:List Value) (w':World):Prop:=∃ao c own',BufC w' b q (.slice ao xs.length c) (.int .i8 0)∧xs.length≤c∧c≤maxLen∧EN w' ao c xs own'∧(∀g∈own',(g∈own∨w.heap.size≤g)∧g≠b∧g < w'.heap.size)∧
 w'.os=w.os∧w'.tape=w.tape∧w'.output=w.output∧w.heap.size≤w'.heap.size∧∀k,k < w.heap.size→k≠b→k∉own→w'.heap[k]? =w.heap[k]?
theorem getElem?_text {xs:List Value} {s:BA} {j:Nat} {v:Value} (h:(xs++Lib.byteCells s.data.toList)[j]? =some v):(j < xs.length∧xs[j]? =some v)∨(xs.length≤j∧(Lib.byteCells s.data.toList)[j - xs.length]? =some v):=by
 by_cases hj:j < xs.length
 ·rw [List.getElem?_append_left hj] at h;exact .inl ⟨hj,h⟩
 ·rw [List.getElem?_append_right (by omega)] at h;exact .inr ⟨by omega,h⟩
theorem GJ {w:World} {g off c:Nat} {cs:Array Value} {t:TypeId} {xs:List Value} {s:BA} (hc:CellsAt w g cs t) (hfit:off+c≤cs.size) (hxs:xs.length+s.size≤c) (hrow:∀j v,xs[j]? =some v→w.cell? ⟨g,off+j,none⟩=some v):
  ∃cs',CellsAt (w.setCells g (off+xs.length) (Lib.byteCells s.data.toList)) g cs' t∧off+c≤cs'.size∧∀j v,(xs++Lib.byteCells s.data.toList)[j]? =some v→(w.setCells g (off+xs.length) (Lib.byteCells s.data.toList)).cell? ⟨g,off+j,none⟩=some v:=by
 obtain ⟨cs',h1,h2⟩:=hc.setCells (off+xs.length) (Lib.byteCells s.data.toList)
 have hlen:(Lib.byteCells s.data.toList).length=s.size:=by rw [Lib.byteCells_length,←Lib.size_eq]
 refine ⟨cs',h1,by omega,fun j v hv=>?_⟩
 rcases getElem?_text hv with ⟨hj,hv⟩ | ⟨hj,hv⟩
 ·rw [World.cell?_setCells_out g _ _ w ⟨g,off+j,none⟩ (fun _ _=> .inl (by show off+j < off+xs.length;omega))]
  exact hrow j v hv
 ·have hj2:=(List.getElem?_eq_some_iff.1 hv).1
  have hth:=bY (o:=off+xs.length) (n:=s.size) hc (by omega)
  have:=World.cell?_setCells_in g (Lib.byteCells s.data.toList) (off+xs.length) w (fun j hj=>(hth j (by omega)).1) (j - xs.length) hj2
  rw [show off+xs.length+(j - xs.length)=off+j by omega] at this
  rw [this]
  rw [List.getElem?_eq_getElem hj2] at hv
  exact hv
theorem BH {w W:World} {b q c:Nat} {ao:Option Addr} {xs:List Value} {own:List Nat} (hb:BufC W b q (.slice ao xs.length c) (.int .i8 0)) (hfr:FrB w b W) (hR:EN W ao c xs own) (hlc:xs.length≤c) (hcm:c≤maxLen) (hown:∀g∈own,g≠b∧g < w.heap.size):lH w b q own xs W:=
 ⟨ao,c,own,hb,hlc,hcm,hR,fun g hg=>⟨.inl hg,(hown g hg).1,Nat.lt_of_lt_of_le (hown g hg).2 hfr.size⟩,hfr.os,hfr.tape,hfr.output,hfr.size,fun k hk hn _=>hfr.block k hk hn⟩
theorem vH {w W:World} {b q g off c:Nat} {cs:Array Value} {t:TypeId} {xs:List Value} {s:BA} {own:List Nat} (hb:BufC W b q (.slice (some ⟨g,off,none⟩) (xs.length+s.size) c) (.int .i8 0)) (hfr:FrB w b W) (hc:CellsAt W g cs t) (hfit:off+c≤cs.size) (hxs:xs.length+s.size≤c) (hc0:0 < c) (hcm:c≤maxLen)
  (hrow:∀j v,xs[j]? =some v→W.cell? ⟨g,off+j,none⟩=some v) (hg:(g∈own∨w.heap.size≤g)∧g≠b):lH w b q own (xs++Lib.byteCells s.data.toList) (W.setCells g (off+xs.length) (Lib.byteCells s.data.toList)):=by
 obtain ⟨cs',k1,k2,k3⟩:=GJ hc hfit hxs hrow
 have hW:=Wr.setCells g (Lib.byteCells s.data.toList) (off+xs.length) W
 have hlen:(Lib.byteCells s.data.toList).length=s.size:=by rw [Lib.byteCells_length,←Lib.size_eq]
 have hl:(xs++Lib.byteCells s.data.toList).length=xs.length+s.size:=by rw [List.length_append,hlen]
 refine ⟨some ⟨g,off,none⟩,c,[g],?_,by omega,hcm,.inr ⟨g,off,cs',t,hc0,rfl,rfl,k1,k2,k3⟩,fun k hk=>?_,hW.os.trans hfr.os,hW.tape.trans hfr.tape,hW.output.trans hfr.output,Nat.le_trans hfr.size hW.size,fun k hk hn ho=>?_⟩
 ·rw [hl]
  exact hb.stay (hW.block b hb.lt fun h=>hg.2 h.2.symm)
 ·obtain rfl:=List.mem_singleton.1 hk
  exact ⟨hg.1,hg.2,k1.lt⟩
 ·have hkg:k≠g:=fun e=>by
   subst e
   rcases hg.1 with h | h
   ·exact ho h
   ·omega
  exact (hW.block k (Nat.lt_of_lt_of_le hk hfr.size) fun h=>hkg h.2).trans (hfr.block k hk hn)
set_option maxHeartbeats 6400000 in
set_option maxRecDepth 100000 in
theorem nO (L:LaysM.n178 P ρ) (b q c:Nat) (ao:Option Addr) (xs:List Value) (s:BA) (lr:Int) (own:List Nat) (w:World) (hb:BufC w b q (.slice ao xs.length c) (.int .i8 lr)) (hlc:xs.length≤c) (hcm:c≤maxLen) (hR:EN w ao c xs own)
  (hown:∀g∈own,g≠b∧g < w.heap.size) (h1:∀v∈xs,v.oneCell'=true) (hlim:xs.length+s.size≤140737488355328):
  Calls P (ρ.f 178) #[.pointer (some ⟨b,q,none⟩),.string s] w fun e w'=>e= .returned (.tuple #[.int .i64 s.size,.nilIface])∧lH w b q own (xs++Lib.byteCells s.data.toList) w':=by
 have mixed:=L.mixed
 have t5:=L.t5;have a5:=L.a5;have z5:=L.z5;have v5:=L.v5
 have t130:=L.t130;have a130:=L.a130;have z130:=L.z130;have v130:=L.v130
 have t9:=L.t9;have a9:=L.a9;have z9:=L.z9;have v9:=L.v9
 have t3:=L.t3;have a3:=L.a3;have z3:=L.z3;have v3:=L.v3
 have t75:=L.t75;have a75:=L.a75;have z75:=L.z75;have v75:=L.v75
 have t0:=L.t0;have a0:=L.a0;have z0:=L.z0;have v0:=L.v0
 have t93:=L.t93;have u93:=run_underlying L.t93;have a93:=L.a93;have z93:=L.z93;have v93:=L.v93
 have t91:=L.t91;have a91:=L.a91;have z91:=L.z91;have v91:=L.v91
 have t131:=L.t131;have a131:=L.a131;have z131:=L.z131;have v131:=L.v131
 have t4:=L.t4;have a4:=L.a4;have z4:=L.z4;have v4:=L.v4
 have t37:=L.t37;have a37:=L.a37;have z37:=L.z37;have v37:=L.v37
 have e251:∀args w,(callFunc (ρ.f 251) args).run P w= .ok (.enter (ρ.f 251) args) w:=enters_of L.f251 (by kernel_rfl) rfl
 have e252:∀args w,(callFunc (ρ.f 252) args).run P w= .ok (.enter (ρ.f 252) args) w:=enters_of L.f252 (by kernel_rfl) rfl
 have c2:=hb.c2
 have f2:w.frozen? ⟨b,q+2,none⟩=false:=hb.f 2 (by omega)
 have hb':=hb.set2 (.int .i8 0)
 have hfr0:FrB w b (w.setCell ⟨b,q+2,none⟩ (.int .i8 0)):=(FrB.refl w b).setB (q+2) _
 have hbl:=hb.lt
 have hkeep:∀{W:World},FrB w b W→EN W ao c xs own:=fun {W} hW=>by
  rcases hR with h | ⟨g,off,cs,t,k1,k2,k3,k4,k5,k6⟩
  ·exact .inl h
  ·have hg:=hown g (by rw [k2];simp)
   have hbk:=hW.block g hg.2 hg.1
   exact .inr ⟨g,off,cs,t,k1,k2,k3,k4.stay hbk,k5,fun j v hv=>(World.cell?_of_block (a:=⟨g,off+j,none⟩) hbk).trans (k6 j v hv)⟩
 have hinfo:(P.info? (ρ.t 5)).map (·.size)=some 1:=by
  obtain ⟨i0,hi, -,hz1, -⟩:=info_parts L.i5
  rw [hi];simp [hz1]
 have hlen:(Lib.byteCells s.data.toList).length=s.size:=by rw [Lib.byteCells_length,←Lib.size_eq]
 by_cases hs0:s.size=0
 ·have hce:∀d dLen dCap W,(Builtin.copy_ #[(ρ.t 37),(ρ.t 9)] (ρ.t 3) #[.slice d dLen dCap,.string s]).run P W= .ok (goInt 0) W:=fun d dLen dCap W=>Lib.run_copy_empty_string W (ρ.t 37) (ρ.t 9) (ρ.t 3) (ρ.t 5) d dLen dCap s L.t37 (by rw [hinfo];rfl) hs0
  have hbc:Lib.byteCells s.data.toList=[]:=List.eq_nil_of_length_eq_zero (by omega)
  have hT:∀W,BufC W b q (.slice ao xs.length c) (.int .i8 0)→Calls P (ρ.f 251) #[.pointer (some ⟨b,q,none⟩),.int .i64 0] W _:=fun W hW=>Any.Buffer_tryGrow_room_at {L with} b q ao xs.length c 0 W hW.c0 (hW.f 0 (by omega)) hlc hcm (Nat.zero_le _)
  have hcm':=hcm
  unfold maxLen at hcm'
  go_enter L.f178,Body.n178_ntmps ρ
  go_wp2_with (go_at_fn (ρ.f 251);refine (hT _ ?_).mono ?_)
  ·exact hb'
  rintro e W1 ⟨rfl,rfl⟩
  have hb1:BufC ((w.setCell ⟨b,q+2,none⟩ (.int .i8 0)).setCell ⟨b,q,none⟩ (.slice ao xs.length c)) b q (.slice ao xs.length c) (.int .i8 0):=hb'.set0 _
  have d0:=hb1.c0
  have hfr1:=hfr0.setB q (.slice ao xs.length c)
  have hfin:lH w b q own xs ((w.setCell ⟨b,q+2,none⟩ (.int .i8 0)).setCell ⟨b,q,none⟩ (.slice ao xs.length c)):=BH hb1 hfr1 (hkeep hfr1) hlc hcm hown
  clear hT
  cases ao with
  | none=>
   obtain ⟨rfl,rfl,rfl⟩:c=0∧xs=[]∧own=[]:=by
    rcases hR with h | ⟨g,off,cs,t,k1,k2,k3,_⟩
    ·exact h
    ·cases k3
   simp only [List.length_nil] at d0 hfin
   simp only [List.length_nil,hbc,List.append_nil]
   go_wp2
   all_goals (go_ret2;exact ⟨by simp [hs0],by simpa [hbc] using hfin⟩)
  | some a=>
   by_cases hcx:c=xs.length
   ·rw [hcx] at d0 hfin ⊢
    go_wp2
    all_goals (go_ret2;exact ⟨by simp [hs0],by simpa [hbc] using hfin⟩)
   ·go_wp2
    all_goals (go_ret2;exact ⟨by simp [hs0],by simpa [hbc] using hfin⟩)
 ·have hcm':=hcm
  unfold maxLen at hcm'
  have hnn:¬(s.size:Int)=0:=by omega
  have step:∀(W:World) (g off c2:Nat) (cs:Array Value) (t:TypeId),BufC W b q (.slice (some ⟨g,off,none⟩) (xs.length+s.size) c2) (.int .i8 0)→FrB w b W→CellsAt W g cs t→off+c2≤cs.size→xs.length+s.size≤c2→c2≤maxLen→(∀j v,xs[j]? =some v→W.cell? ⟨g,off+j,none⟩=some v)→((g∈own∨w.heap.size≤g)∧g≠b)→
    (Builtin.copy_ #[(ρ.t 37),(ρ.t 9)] (ρ.t 3) #[.slice (some ⟨g,off+xs.length,none⟩) s.size (c2 - xs.length),.string s]).run P W= .ok (goInt s.size) (W.setCells g (off+xs.length) (Lib.byteCells s.data.toList))∧lH w b q own (xs++Lib.byteCells s.data.toList) (W.setCells g (off+xs.length) (Lib.byteCells s.data.toList)):=
   fun W g off c2 cs t k1 k2 k3 k4 k5 k6 k7 k8=>⟨qZ W (ρ.t 37) (ρ.t 9) (ρ.t 3) (ρ.t 5) g (off+xs.length) s.size (c2 - xs.length) s L.t37 hinfo (Nat.le_refl _) (bY k3 (by omega)),vH k1 k2 k3 k4 k5 (by omega) k6 k7 k8⟩
  by_cases hroom:s.size≤c - xs.length
  ·obtain ⟨g,off,cs,t,k1,rfl,rfl,k4,k5,k6⟩:∃g off cs t,0 < c∧own=[g]∧ao=some ⟨g,off,none⟩∧CellsAt w g cs t∧off+c≤cs.size∧∀j v,xs[j]? =some v→w.cell? ⟨g,off+j,none⟩=some v:=by
    rcases hR with ⟨rfl,_,_⟩ | h
    ·omega
    ·exact h
   have hg:=hown g (by simp)
   have hb1:BufC ((w.setCell ⟨b,q+2,none⟩ (.int .i8 0)).setCell ⟨b,q,none⟩ (.slice (some ⟨g,off,none⟩) (xs.length+s.size) c)) b q (.slice (some ⟨g,off,none⟩) (xs.length+s.size) c) (.int .i8 0):=hb'.set0 _
   have hfr1:=hfr0.setB q (.slice (some ⟨g,off,none⟩) (xs.length+s.size) c)
   have hbk:=hfr1.block g hg.2 hg.1
   obtain ⟨hcp,hfin⟩:=step _ g off c cs t hb1 hfr1 (k4.stay hbk) k5 (by omega) hcm (fun j v hv=>(World.cell?_of_block (a:=⟨g,off+j,none⟩) hbk).trans (k6 j v hv)) ⟨.inl (by simp),hg.1⟩
   have d0:=hb1.c0
   have hne:¬c=xs.length:=by omega
   clear step hkeep
   go_enter L.f178,Body.n178_ntmps ρ
   go_wp2_with (go_at_fn (ρ.f 251);refine (Any.Buffer_tryGrow_room_at {L with} b q _ xs.length c s.size _ hb'.c0 (hb'.f 0 (by omega)) hlc hcm hroom).mono ?_)
   rintro e W1 ⟨rfl,rfl⟩
   go_wp2
   go_ret2
   exact ⟨rfl,hfin⟩
  ·have hW0:(w.setCell ⟨b,q+2,none⟩ (.int .i8 0)).heap.size=w.heap.size:=by simp [World.setCell]
   have hgrow:Calls P (ρ.f 252) #[.pointer (some ⟨b,q,none⟩),.int .i64 s.size] (w.setCell ⟨b,q+2,none⟩ (.int .i8 0)) fun e w'=>e= .returned (.int .i64 xs.length)∧xG (ρ.t 5) (w.setCell ⟨b,q+2,none⟩ (.int .i8 0)) b q s.size xs.length xs (.int .i8 0) w':=by
    have hR0:=hkeep hfr0
    cases ao with
    | none=>
     obtain ⟨rfl,rfl,rfl⟩:c=0∧xs=[]∧own=[]:=by
      rcases hR with h | ⟨g,off,cs,t,k1,k2,k3,_⟩
      ·exact h
      ·cases k3
     by_cases h64:s.size≤64
     ·exact GU {L with} b q s.size _ _ hb' (by omega) h64
     ·exact EU {L with} b q s.size _ _ hb' (by omega) (by simpa using hlim)
    | some a=>
     have hsrc:∀j v,xs[j]? =some v→(a.add j).block < (w.setCell ⟨b,q+2,none⟩ (.int .i8 0)).heap.size∧(w.setCell ⟨b,q+2,none⟩ (.int .i8 0)).cell? (a.add j)=some v:=fun j v hv=>by
      rcases hR0 with ⟨_,rfl,_⟩ | ⟨g,off,cs,t,k1,k2,k3,k4,k5,k6⟩
      ·simp at hv
      ·cases k3
       rw [Addr.add_mid]
       exact ⟨k4.lt,k6 j v hv⟩
     by_cases hl0:xs.length=0
     ·obtain rfl:xs=[]:=List.eq_nil_of_length_eq_zero hl0
      exact EO {L with} b q a c s.size [] _ _ hb' rfl hsrc (Nat.zero_le _) hcm h1 (by omega) (by simpa using hroom) (by simpa using hlim)
     ·exact FW {L with} b q xs.length a c s.size xs _ _ hb' rfl hsrc hlc hcm h1 (by omega) (by omega) hlim hl0
   go_enter L.f178,Body.n178_ntmps ρ
   go_wp2_with (go_at_fn (ρ.f 251);refine (Any.Buffer_tryGrow_none_at {L with} b q _ xs.length c s.size _ hb'.c0 hlc hcm (by omega)).mono ?_)
   rintro e W1 ⟨rfl,rfl⟩
   go_wp2_with (go_at_fn (ρ.f 252);refine hgrow.mono ?_)
   rintro e W1 ⟨rfl,cap2,cells,hb1,hN,hcsz,htk,hcap2,hcm2,hfr⟩
   rw [hW0] at hb1 hN
   have hfr1:=hfr0.trans hfr
   obtain ⟨hcp,hfin⟩:=step W1 w.heap.size 0 cap2 cells (ρ.t 5) (by simpa using hb1) hfr1 ⟨_,hN,.inl rfl⟩ (by omega) hcap2 hcm2 (fun j v hv=>by
    rw [cell_of_row _ _ _ _ _ _ hN,Nat.zero_add]
    have h5:(cells.toList.take xs.length)[j]? =some v:=by rw [htk];exact hv
    rw [List.getElem?_take] at h5
    split at h5
    ·simpa using h5
    ·cases h5) ⟨.inr (Nat.le_refl _),by omega⟩
   have d0:W1.cell? ⟨b,q,none⟩=some (.slice (some ⟨w.heap.size,0,none⟩) (xs.length+s.size) cap2):=by simpa using hb1.c0
   have hne:¬cap2=xs.length:=by omega
   have hcm2':=hcm2
   unfold maxLen at hcm2'
   rw [Nat.zero_add] at hcp hfin
   clear step hkeep hgrow
   go_wp2
   go_ret2
   exact ⟨rfl,hfin⟩
end Go.Proofs.YtoafkjeamgelgaaDoorHF

namespace Go.Proofs.YtoafkjeamgelgaaDoorHF
open Go Go.Proofs Go.Shelf Go.RowKit
set_option linter.unusedVariables false
set_option linter.unusedSimpArgs false
abbrev RS (e:TypeId):K:= .pair (.sl e (.int .u8)) (.pair (.int .i64) (.int .i8))
def fM (v:List Int×(Int×Int)) (s:BA):Option ((Int×(Bool×Unit))×((List Int×(Int×Int))×Unit)):=
 if v.2.1=0∧v.1.length+s.size≤140737488355328 then some ((((s.size:Int),(false,())),((v.1++aE s,((0:Int),(0:Int))),()))) else none
theorem AM (s:BA):Lib.byteCells s.data.toList=(aE s).map (Value.int .u8):=by
 unfold aE Lib.byteCells
 rw [List.map_map];rfl
theorem CO {w:World} {A:Nat→Prop} {xs:List Int} {v:Value} {own:List Nat} (h:RowV w A (.int .u8) xs v own):∃ao c,v= .slice ao xs.length c∧xs.length≤c∧c≤maxLen∧EN w ao c (xs.map (Value.int .u8)) own:=by
 obtain ⟨ad,cap,rfl,hle,⟨rfl,rfl⟩ | ⟨g,off,cs,t,h0,rfl,rfl,hrow,hc,hsz,hm⟩⟩:=h
 ·obtain rfl:xs=[]:=List.eq_nil_of_length_eq_zero (by omega)
  exact ⟨ad,0,rfl,hle,Nat.zero_le _,.inl ⟨rfl,rfl,rfl⟩⟩
 ·refine ⟨_,cap,rfl,hle,hm,.inr ⟨g,off,cs,t,h0,rfl,rfl,hc,by simpa [K.size] using hsz,fun j v hv=>?_⟩⟩
  rw [List.getElem?_map] at hv
  obtain ⟨x,hx,rfl⟩:=Option.map_eq_some_iff.1 hv
  obtain ⟨ds,h1,h2⟩:=hrow j x hx
  have h1':ds=[Value.int .u8 x]:=h1
  subst h1'
  have:=h2 0 (by decide)
  rw [show off+j * K.size (.int .u8)+0=off+j by simp [K.size]] at this
  exact this
theorem FT {w:World} {A:Nat→Prop} {xs:List Int} {ao:Option Addr} {c:Nat} {own:List Nat} (h:EN w ao c (xs.map (Value.int .u8)) own) (hle:xs.length≤c) (hm:c≤maxLen):RowV w A (.int .u8) xs (.slice ao xs.length c) own:=by
 refine ⟨ao,c,rfl,hle,?_⟩
 rcases h with ⟨rfl,_,rfl⟩ | ⟨g,off,cs,t,h0,rfl,rfl,hc,hsz,hr⟩
 ·exact .inl ⟨rfl,rfl⟩
 ·refine .inr ⟨g,off,cs,t,h0,rfl,rfl,fun i x hx=>⟨[.int .u8 x],rfl,fun j hj=>?_⟩,hc,by simpa [K.size] using hsz,hm⟩
  obtain rfl:j=0:=by simp [K.size] at hj;exact hj
  rw [show off+i * K.size (.int .u8)+0=off+i by simp [K.size]]
  exact hr i _ (by rw [List.getElem?_map,hx];rfl)
theorem HC {P:Program} {ρ:Ren} {f:FuncId} {T e:TypeId} (L:LaysM.n178 P ρ) (hf:ρ.f 178=f) (hcall:bC P f) (hT:TyOk P T (RS e)) (hE:TyOk P e (.int .u8)):
  Fit P f (fQ [.cel (RS e) T,.dat .str] [.dat (.int .i64),.dat .err] fun d=>fM d.1 d.2.1):=by
 refine ⟨⟨hcall,rfl,mY _,fun w Z vs own d x hG hZ hnd hown hargs hx=>?_⟩,nG _⟩
 obtain ⟨v,vs',o1,o2,rfl,rfl,hcel,v',vs2,o3,o4,rfl,rfl,⟨rfl,cs',hc',hv'⟩,rfl,rfl⟩:=hargs
 obtain ⟨⟨xs,off,lr⟩,s,u⟩:=d
 have hc':cs'=[Value.string s]:=hc'
 subst hc'
 simp [K.isPair] at hv'
 subst hv'
 obtain ⟨b,q,cs,t,fs,o5,rfl,rfl,hcells,hsz,hread,v1,v2,oa,ob,rfl,rfl,⟨vr,rfl,hrow⟩,v3,v4,oc,od,rfl,rfl,⟨rfl,h3⟩,⟨rfl,h4⟩⟩:=hcel
 have h3:v3=[Value.int .i64 off]:=h3
 have h4:v4=[Value.int .i8 lr]:=h4
 subst h3
 subst h4
 obtain ⟨ao,c,rfl,hle,hm,hB⟩:=CO hrow
 have hx':fM (xs,(off,lr)) s=some x:=by
  have h':(fM (xs,(off,lr)) s).bind some=some x:=hx
  cases hb:fM (xs,(off,lr)) s with
  | none=>rw [hb] at h';cases h'
  | some y=>rw [hb] at h';exact h'
 obtain ⟨⟨hoff,hlim⟩,hx'⟩:=aI hx'
 have hoff:off=0:=hoff
 subst hoff
 obtain rfl:=Option.some.inj hx'
 have hsz3:q+3≤cs.size:=by simpa [K.size] using hsz
 have hcell:∀j,j < 3→cs[q+j]? =([Value.slice ao xs.length c,Value.int .i64 0,Value.int .i8 lr])[j]? :=fun j hj=>(hcells.cell (q+j)).symm.trans (hread j (by simpa [K.size] using hj))
 have hb:BufC w b q (.slice ao (xs.map (Value.int .u8)).length c) (.int .i8 lr):=⟨cs,t,hcells,by rw [List.length_map];exact hcell 0 (by omega),hcell 1 (by omega),hcell 2 (by omega)⟩
 simp only [List.append_nil,List.nil_append,List.cons_append] at hnd hown ⊢
 have hnd':=List.nodup_cons.1 hnd
 have key:=nO L b q c ao (xs.map (Value.int .u8)) s lr oa w hb (by rw [List.length_map];exact hle) hm hB (fun g hg=>⟨fun e=>hnd'.1 (e ▸ hg),(hown g (by simp [hg])).1⟩) (fun v hv=>by obtain ⟨y,_,rfl⟩:=List.mem_map.1 hv;simp [Value.oneCell']) (by rw [List.length_map];exact hlim)
 rw [hf] at key
 refine key.mono fun e w' ⟨he,ao',c',own',k1,k2,k3,k4,k5,k6,k7,k8,k9,k10⟩=>?_
 rw [AM,←List.map_append] at k1 k2 k4
 rw [List.length_map] at k1 k2
 obtain ⟨cs2,t2,g1,g2,g3,g4⟩:=k1
 have hlt2:=(Array.getElem?_eq_some_iff.1 g4).1
 have hown':∀g∈own',g≠b:=fun g hg=>(k5 g hg).2.1
 have hnd2:(b::own').Nodup:=by
  refine List.nodup_cons.2 ⟨fun h=>hown' b h rfl,?_⟩
  rcases k4 with ⟨_,_,rfl⟩ | ⟨g,_,_,_,_,rfl,_⟩
  ·exact List.nodup_nil
  ·simp
 refine ⟨[.int .i64 s.size,.nilIface],[],b::own',he,⟨_,_,[],[],rfl,rfl,⟨rfl,_,rfl,rfl⟩,⟨_,_,[],[],rfl,rfl,⟨rfl,[.nilIface],⟨.nilIface,rfl,.inl ⟨rfl,rfl⟩⟩,rfl⟩,rfl,rfl⟩⟩,?_,by simpa using hnd2,?_,k6,k7,k8,k9,fun k hk hn=>k10 k hk (fun e=>hn (by simp [e])) (fun e=>hn (by simp [e]))⟩
 ·refine ⟨_,[],b::own',[],rfl,by simp,⟨hT,⟨hE,trivial,trivial⟩,b,q,cs2,t2,[.slice ao' (xs++aE s).length c',.int .i64 0,.int .i8 0],own',rfl,rfl,g1,by simp [K.size];omega,fun j hj=>?_,[_],[_,_],own',[],rfl,by simp,⟨_,rfl,FT k4 k2 k3⟩,[_],[_],[],[],rfl,rfl,⟨rfl,rfl⟩,⟨rfl,rfl⟩⟩,rfl,rfl⟩
  have hj:j < 3:=by simpa [K.size] using hj
  rw [g1.cell]
  match j,hj with
  | 0,_=>exact g2
  | 1,_=>exact g3
  | 2,_=>exact g4
 ·intro g hg
  rcases List.mem_cons.1 (show g∈b::own' by simpa using hg) with rfl | hg
  ·exact ⟨.inl (by simp),g1.lt⟩
  ·obtain ⟨h5,h6,h7⟩:=k5 g hg
   exact ⟨h5.imp (fun h=>by simp [h]) id,h7⟩
end Go.Proofs.YtoafkjeamgelgaaDoorHF

namespace Go.Proofs.YtoafkjeamgelgaaDoorHF
open Go Go.Proofs Go.Shelf Go.RowKit
set_option linter.unusedVariables false
set_option linter.unusedSimpArgs false
set_option maxHeartbeats 4000000 in
set_option maxRecDepth 100000 in
theorem BE {P:Program} {ρ:Ren} (L:LaysM.n182 P ρ) (b q c:Nat) (ao:Option Addr) (l:List UInt8) (lr:Value) (w:World) (hb:BufC w b q (.slice ao l.length c) lr) (hlc:l.length≤c) (hcm:c≤maxLen) (hnil:ao=none→l=[]∧c=0)
  (hsrc:∀a,ao=some a→∀j x,l[j]? =some x→w.cell? (a.add j)=some (.int .u8 x.toNat)):
  Calls P (ρ.f 182) #[.pointer (some ⟨b,q,none⟩)] w fun e w'=>e= .returned (.string ⟨l.toArray⟩)∧∃n,w'=w.drewN n:=by
 have mixed:=L.mixed
 have t5:=L.t5;have a5:=L.a5;have z5:=L.z5;have v5:=L.v5
 have t130:=L.t130;have a130:=L.a130;have z130:=L.z130;have v130:=L.v130
 have t9:=L.t9;have a9:=L.a9;have z9:=L.z9;have v9:=L.v9
 have t4:=L.t4;have a4:=L.a4;have z4:=L.z4;have v4:=L.v4
 have t0:=L.t0;have a0:=L.a0;have z0:=L.z0;have v0:=L.v0
 have t93:=L.t93;have u93:=run_underlying L.t93;have a93:=L.a93;have z93:=L.z93;have v93:=L.v93
 have t37:=L.t37;have a37:=L.a37;have z37:=L.z37;have v37:=L.v37
 have t3:=L.t3;have a3:=L.a3;have z3:=L.z3;have v3:=L.v3
 have c0:=hb.c0
 have c1:=hb.c1
 have hcm':=hcm
 unfold maxLen at hcm'
 cases ao with
 | none=>
  obtain ⟨rfl,rfl⟩:=hnil rfl
  have c0:w.cell? ⟨b,q,none⟩=some (.slice none 0 0):=c0
  have hcv:∀W,(convert (ρ.t 37) (ρ.t 9) (.slice none 0 0)).run P W= .ok (.string ⟨#[]⟩) W:=fun W=>Lib.run_convert_nil_bytes W _ _ _ 0 L.t37 L.t5 L.t9
  go_enter L.f182,Body.n182_ntmps ρ
  go_wp2
  go_region_o
  all_goals (go_wp2;go_ret;exact ⟨rfl,1,rfl⟩)
 | some a=>
  have hcv:=run_convert_bytes_back (P:=P) w.drew (ρ.t 37) (ρ.t 9) (ρ.t 5) a c l L.t37 L.t5 L.t9 (fun j hj=>hsrc a rfl j _ (List.getElem?_eq_getElem hj))
  go_enter L.f182,Body.n182_ntmps ρ
  go_wp2
  go_region_o
  all_goals (go_wp2;go_ret;exact ⟨rfl,1,rfl⟩)
def eJ (v:List Int×(Int×Int)):Option ((BA×Unit)×((List Int×(Int×Int))×Unit)):=
 if v.2.1=0∧∀x∈v.1,0≤x∧x < 256 then some ((strOfNums v.1,()),(v,())) else none
theorem BP {P:Program} {ρ:Ren} {f:FuncId} {T e:TypeId} (L:LaysM.n182 P ρ) (hf:ρ.f 182=f) (hcall:bC P f) (hT:TyOk P T (RS e)) (hE:TyOk P e (.int .u8)):
  Fit P f (fQ [.cel (RS e) T] [.dat .str] fun d=>eJ d.1):=by
 refine ⟨⟨hcall,rfl,mY _,fun w Z vs own d x hG hZ hnd hown hargs hx=>?_⟩,nG _⟩
 obtain ⟨v,vs',o1,o2,rfl,rfl,hcel,rfl,rfl⟩:=hargs
 obtain ⟨⟨xs,off,lr⟩,u⟩:=d
 have hcel0:=fun (A':Nat→Prop) (h:∀b',A' b'→_)=>CelAt.mono (A':=A') h hcel
 obtain ⟨b,q,cs,t,fs,o5,rfl,rfl,hcells,hsz,hread,v1,v2,oa,ob,rfl,rfl,⟨vr,rfl,hrow⟩,v3,v4,oc,od,rfl,rfl,⟨rfl,h3⟩,⟨rfl,h4⟩⟩:=hcel
 have h3:v3=[Value.int .i64 off]:=h3
 have h4:v4=[Value.int .i8 lr]:=h4
 subst h3
 subst h4
 obtain ⟨ao,c,rfl,hle,hm,hB⟩:=CO hrow
 have hx':eJ (xs,(off,lr))=some x:=by
  have h':(eJ (xs,(off,lr))).bind some=some x:=hx
  cases hb:eJ (xs,(off,lr)) with
  | none=>rw [hb] at h';cases h'
  | some y=>rw [hb] at h';exact h'
 obtain ⟨⟨hoff,hby⟩,hx'⟩:=aI hx'
 have hoff:off=0:=hoff
 have hby:∀x∈xs,0≤x∧x < 256:=hby
 subst hoff
 obtain rfl:=Option.some.inj hx'
 have hsz3:q+3≤cs.size:=by simpa [K.size] using hsz
 have hcell:∀j,j < 3→cs[q+j]? =([Value.slice ao xs.length c,Value.int .i64 0,Value.int .i8 lr])[j]? :=fun j hj=>(hcells.cell (q+j)).symm.trans (hread j (by simpa [K.size] using hj))
 have hll:(xs.map fun x=>UInt8.ofNat x.toNat).length=xs.length:=List.length_map _
 have hb:BufC w b q (.slice ao (xs.map fun x=>UInt8.ofNat x.toNat).length c) (.int .i8 lr):=⟨cs,t,hcells,by rw [hll];exact hcell 0 (by omega),hcell 1 (by omega),hcell 2 (by omega)⟩
 have key:=BE L b q c ao (xs.map fun x=>UInt8.ofNat x.toNat) (.int .i8 lr) w hb (by rw [hll];exact hle) hm (fun h=>by
  rcases hB with ⟨k1,k2,_⟩ | ⟨_,_,_,_,_,_,k3,_⟩
  ·simp only [List.map_eq_nil_iff] at k2
   exact ⟨by rw [k2];rfl,k1⟩
  ·rw [h] at k3;cases k3) (fun a ha j x hj=>by
  rcases hB with ⟨k1,k2,_⟩ | ⟨g,off,cs,t,k1,k2,k3,k4,k5,k6⟩
  ·simp only [List.map_eq_nil_iff] at k2
   rw [k2] at hj;simp at hj
  ·rw [ha] at k3
   cases k3
   rw [List.getElem?_map] at hj
   obtain ⟨y,hy,rfl⟩:=Option.map_eq_some_iff.1 hj
   rw [Addr.add_mid,k6 j (.int .u8 y) (by rw [List.getElem?_map,hy];rfl)]
   have:=hby y (List.mem_of_getElem? hy)
   congr 2
   rw [UInt8.toNat_ofNat']
   omega)
 rw [hf] at key
 refine key.mono fun e w' ⟨he,n,hw⟩=>?_
 subst hw
 have hlt:∀g∈b::(oa++([]++[])),g < w.heap.size:=fun g hg=>(hown g (by simpa using hg)).1
 refine ⟨[_],[],b::(oa++([]++[])),he,⟨_,_,[],[],rfl,rfl,⟨rfl,_,rfl,rfl⟩,rfl,rfl⟩,⟨_,[],b::(oa++([]++[])),[],rfl,by simp,⟨hT,⟨hE,trivial,trivial⟩,?_⟩,rfl,rfl⟩,by simpa using hnd,fun g hg=>⟨.inl (by simpa using hg),hlt g (by simpa using hg)⟩,rfl,rfl,rfl,Nat.le_refl _,fun _ _ _=>rfl⟩
 exact hcel0 _ (fun b hb=>by simpa using hb)
end Go.Proofs.YtoafkjeamgelgaaDoorHF
