/- Plain statements about the printed functions. -/
import Derived.Test.YthkiaiilpaojnaaDoorZPQ0
import Derived.Test.YthkiaiilpaojnaaDoorZGA2
import Derived.Test.YthkiaiilpaojnaaDoorZFB
import Derived.Test.YthkiaiilpaojnaaDoorZGA1
import Derived.Test.YthkiaiilpaojnaaDoorZGA0
import Derived.Lib.DecodeN
import Derived.Lib.SpaceU
import Derived.Lib.TrimAscii
import Derived.Laws.FloatBits
namespace Go.Proofs.YthkiaiilpaojnaaDoorZF
open Go
set_option linter.unusedVariables false
set_option linter.unusedSimpArgs false
section
variable {β:Type} (q91:DenA iB→Option (DenR fJ)) (aB:DenA eS→Option (DenR dC)) (aC:DenA eO→Option (DenR dL)) (aD:DenA eT→Option (DenR dQ)) (aA:DenA eH→Option (DenR dW))
variable {A B:List Int} {mD:Int} {p0:AK.den (.pro (.pair (.int .i64) (.pair (.int .i64) (.pair (.int .i64) (.pair (.flt .f64) (.pair (.int .i64) (.pair (.int .i64) (.flt .f64))))))) 0)}
theorem eZ4 (n:Nat) (hn:Big≤n) {V2:Int→Int} {v2:List Int} {d s0 e0 sW eW s2 e2:Int} {kx} {kr:List (Int×BA)→Option β} {fr:Bool}
  (hA2:Arr v2 mD V2) (hW:Done A.reverse B.reverse mD (d - 1) sW eW V2) (hm:2≤mD) (hm2:mD≤1000000) (hN:(A.length:Int)≤1000000) (hNM:(B.length:Int)≤1000000) (hD:2 * d - 1≤dst A B) (hDd:d≤dst A B):
  ∀(c m:Nat) (k s e:Int) (v1:List Int) (V1:Int→Int),Mid A B mD d s0 e0 s e k V1→Arr v1 mD V1→s≤3000000→e≤3000000→
   (fr=true→(dst A B:Int)=2 * d - 1→∀x y:Nat,Opt A B x y→(ft A B x y:Int)=d→k≤(x:Int) - y)→(d - e - k+2).toNat≤c→c < m→
   Met kr aA p0 A B (g114_19L (β:=β) n q91 aB aC aD aA kr kx m p0 A B (A.length:Int) (B.length:Int) mD mD (2 * mD) v1 v2 ((A.length:Int) - B.length) fr s e s2 e2 d k)∨
   ∃s' e' v1' V1',g114_19L (β:=β) n q91 aB aC aD aA kr kx m p0 A B (A.length:Int) (B.length:Int) mD mD (2 * mD) v1 v2 ((A.length:Int) - B.length) fr s e s2 e2 d k=kx p0 A B (A.length:Int) (B.length:Int) mD mD (2 * mD) v1' v2 ((A.length:Int) - B.length) fr s' e' s2 e2 d∧
    Arr v1' mD V1'∧Done A B mD d s' e' V1'∧s'≤3000000∧e'≤3000000∧(fr=true→(dst A B:Int)≠2 * d - 1):=by
 intro c
 induction c using Nat.strongRecOn with
 | _ c ih=>
  intro m k s e v1 V1 hM hA hs3 he3 hnd hc hm1
  obtain ⟨m,rfl⟩:∃m',m=m'+1:=⟨m - 1,by omega⟩
  have hs:=hM.hs
  have he:=hM.he
  have hd:=hM.dpos
  have hdm:=hM.dm
  have hkl:=hM.klo
  rw [g114_19L.eq_2]
  dsimp only [GO,aJ2]
  rw [aG (n:=d - e) (by omega) (by omega)]
  by_cases hk:k≤d - e
  ·rw [bdT hk]
   dsimp only [TX]
   rcases fB1 (β:=β) (p0:=p0) q91 aB aC aD aA n hn (kn:=fun p0 x1 x2 v7 v8 v9 v10 v11 x12 x13 v15 v16 v17 v18 v19 v20 v21 v22=>FE n q91 aB aC aD aA (g114_19L n q91 aB aC aD aA kr kx m) p0 x1 x2 v7 v8 v9 v10 v11 x12 x13 v15 v16 v17 v18 v19 v20 v21 v22) (kr:=kr) (fr:=fr) (s2:=s2) (e2:=e2) hM hk hA hA2 hW hm hm2 hN hNM hD hDd (by omega) (by omega) with h | ⟨xf,s',e',h1,h2,h3,h4,h5,h6⟩
   ·exact .inl h
   ·rw [h1]
    dsimp only [FE]
    rw [aG (n:=k+2) (by omega) (by omega)]
    have hM':=hM.step hk hDd h2 h3 h4 h5
    refine ih (d - e' - (k+2)+2).toNat ?_ m (k+2) s' e' _ _ hM' (hA.set (by omega) (by omega)) (by omega) (by omega) ?_ (Nat.le_refl _) ?_
    ·omega
    ·intro g1 g2 x y g3 g4
     have q1:=hnd g1 g2 x y g3 g4
     have q2:=h6 g1 g2 x y g3 g4
     have q3:=HL (A:=A) (B:=B) x y
     have q4:=hM.kpar
     omega
    ·omega
  ·rw [bdF hk]
   refine .inr ⟨s,e,v1,V1,rfl,hA,hM.finish hk,hs3,he3,fun g1 g2=>?_⟩
   obtain ⟨x,y,ho,hfo⟩:=Opt.level (A:=A) (B:=B) d.toNat (by omega)
   have q1:=hnd g1 g2 x y ho (by omega)
   have q2:=hM.prune x y ho (by omega)
   omega
theorem fD0 (n:Nat) (hn:Big≤n) {V1:Int→Int} {v1:List Int} {d s0 e0 sW eW s1 e1:Int} {kx} {kr:List (Int×BA)→Option β} {fr:Bool} (hfrd:fr=false→((A.length:Int) - B.length) % 2=0)
  (hA1:Arr v1 mD V1) (hV:Done A B mD d sW eW V1) (hm:2≤mD) (hm2:mD≤1000000) (hN:(A.length:Int)≤1000000) (hNM:(B.length:Int)≤1000000) (hD:fr=false→2 * d≤dst A B) (hDd:d≤dst A B):
  ∀(c m:Nat) (k s e:Int) (v2:List Int) (V2:Int→Int),Mid A.reverse B.reverse mD d s0 e0 s e k V2→Arr v2 mD V2→s≤3000000→e≤3000000→
   (fr=false→(dst A B:Int)=2 * d→∀x y:Nat,Opt A.reverse B.reverse x y→(ft A.reverse B.reverse x y:Int)=d→k≤(x:Int) - y)→(d - e - k+2).toNat≤c→c < m→
   Met kr aA p0 A B (g114_33L (β:=β) n q91 aB aC aD aA kr kx m p0 A B (A.length:Int) (B.length:Int) mD mD (2 * mD) v1 v2 ((A.length:Int) - B.length) fr s1 e1 s e d k)∨
   ∃s' e' v2' V2',g114_33L (β:=β) n q91 aB aC aD aA kr kx m p0 A B (A.length:Int) (B.length:Int) mD mD (2 * mD) v1 v2 ((A.length:Int) - B.length) fr s1 e1 s e d k=kx p0 A B (A.length:Int) (B.length:Int) mD mD (2 * mD) v1 v2' ((A.length:Int) - B.length) fr s1 e1 s' e' d∧
    Arr v2' mD V2'∧Done A.reverse B.reverse mD d s' e' V2'∧s'≤3000000∧e'≤3000000∧(fr=false→(dst A B:Int)≠2 * d):=by
 have hrD:dst A.reverse B.reverse=dst A B:=jK A B
 intro c
 induction c using Nat.strongRecOn with
 | _ c ih=>
  intro m k s e v2 V2 hM hA hs3 he3 hnd hc hm1
  obtain ⟨m,rfl⟩:∃m',m=m'+1:=⟨m - 1,by omega⟩
  have hs:=hM.hs
  have he:=hM.he
  have hd:=hM.dpos
  have hdm:=hM.dm
  have hkl:=hM.klo
  rw [g114_33L.eq_2]
  dsimp only [FL,TS]
  rw [aG (n:=d - e) (by omega) (by omega)]
  by_cases hk:k≤d - e
  ·rw [bdT hk]
   dsimp only [QD]
   rcases fA1 (β:=β) (p0:=p0) q91 aB aC aD aA n hn (kn:=fun p0 x1 x2 v7 v8 v9 v10 v11 x12 x13 v15 v16 v17 v18 v19 v20 v21 v28=>FF n q91 aB aC aD aA (g114_33L n q91 aB aC aD aA kr kx m) p0 x1 x2 v7 v8 v9 v10 v11 x12 x13 v15 v16 v17 v18 v19 v20 v21 v28) (kr:=kr) (fr:=fr) (s1:=s1) (e1:=e1) hfrd hM hk hA hA1 hV hm hm2 hN hNM hD hDd (by omega) (by omega) with h | ⟨xf,s',e',h1,h2,h3,h4,h5,h6⟩
   ·exact .inl h
   ·rw [h1]
    dsimp only [FF]
    rw [aG (n:=k+2) (by omega) (by omega)]
    have hM':=hM.step hk (by omega) h2 h3 h4 h5
    refine ih (d - e' - (k+2)+2).toNat ?_ m (k+2) s' e' _ _ hM' (hA.set (by omega) (by omega)) (by omega) (by omega) ?_ (Nat.le_refl _) ?_
    ·omega
    ·intro g1 g2 x y g3 g4
     have q1:=hnd g1 g2 x y g3 g4
     have q2:=h6 g1 g2 x y g3 g4
     have q3:=HL (A:=A.reverse) (B:=B.reverse) x y
     have q4:=hM.kpar
     omega
    ·omega
  ·rw [bdF hk]
   refine .inr ⟨s,e,v2,V2,rfl,hA,hM.finish hk,hs3,he3,fun g1 g2=>?_⟩
   obtain ⟨x,y,ho,hfo⟩:=Opt.level (A:=A.reverse) (B:=B.reverse) d.toNat (by omega)
   have q1:=hnd g1 g2 x y ho (by omega)
   have q2:=hM.prune x y ho (by omega)
   omega
theorem fA6 (n:Nat) (hn:Big≤n) {kx} {kr:List (Int×BA)→Option β} {fr:Bool} (hfrd:fr=false→((A.length:Int) - B.length) % 2=0) (hfrt:fr=true→((A.length:Int) - B.length) % 2=1)
  (hmD:2 * mD=(A.length:Int)+B.length∨2 * mD=(A.length:Int)+B.length+1) (hm:2≤mD) (hm2:mD≤1000000) (hN:(A.length:Int)≤1000000) (hNM:(B.length:Int)≤1000000):
  ∀(c m:Nat) (d s1 e1 s2 e2:Int) (v1 v2:List Int) (V1 V2:Int→Int),0≤d→(mD - d).toNat≤c→c < m→Done A B mD (d - 1) s1 e1 V1→Done A.reverse B.reverse mD (d - 1) s2 e2 V2→Arr v1 mD V1→Arr v2 mD V2→
   s1≤3000000→e1≤3000000→s2≤3000000→e2≤3000000→(fr=true→2 * d - 1≤dst A B)→(fr=false→2 * d≤dst A B)→
   Met kr aA p0 A B (g114_39L (β:=β) n q91 aB aC aD aA kr kx m p0 A B (A.length:Int) (B.length:Int) mD mD (2 * mD) v1 v2 ((A.length:Int) - B.length) fr s1 e1 s2 e2 d)∨
   (g114_39L (β:=β) n q91 aB aC aD aA kr kx m p0 A B (A.length:Int) (B.length:Int) mD mD (2 * mD) v1 v2 ((A.length:Int) - B.length) fr s1 e1 s2 e2 d=kx A B∧dst A B=A.length+B.length):=by
 have hrD:dst A.reverse B.reverse=dst A B:=jK A B
 intro c
 induction c using Nat.strongRecOn with
 | _ c ih=>
  intro m d s1 e1 s2 e2 v1 v2 V1 V2 hd hc hm1 hV hW hA1 hA2 b1 b2 b3 b4 hDt hDf
  obtain ⟨m,rfl⟩:∃m',m=m'+1:=⟨m - 1,by omega⟩
  have hpar:=bN4 A B
  have hhi:=eW5 A B
  rw [g114_39L.eq_2]
  dsimp only [GF,aE1]
  have hDD:2 * d - 1≤dst A B:=by
   cases hfr:fr with
   | true=>exact hDt hfr
   | false=>have:=hDf hfr;omega
  have hDd:d≤dst A B:=by omega
  by_cases hdm:d < mD
  ·rw [bdT hdm]
   dsimp only [QY,FM,aL1,VP,VZ]
   have hV0:=hV.s0
   have hW0:=hW.s0
   rw [aG (n:=0 - d) (by omega) (by omega),aG (n:=0 - d+s1) (by omega) (by omega)]
   have hMV:=hV.start (by omega) (by omega)
   rw [show d - 1+1=d by omega] at hMV
   have hMW:=hW.start (by omega) (by omega)
   rw [show d - 1+1=d by omega] at hMW
   rw [show 0 - d+s1= -d+s1 by omega]
   have hVe:=hV.e0
   have hWe:=hW.e0
   rcases eZ4 (β:=β) (p0:=p0) (A:=A) (B:=B) (mD:=mD) q91 aB aC aD aA n hn (s2:=s2) (e2:=e2) (kr:=kr) (fr:=fr)
    (kx:=fun p0 x1 x2 v7 v8 v9 v10 v11 x12 x13 v15 v16 v17 v18 v19 v20 v21=>GX n q91 aB aC aD aA (fun p0 x1 x2 v7 v8 v9 v10 v11 x12 x13 v15 v16 v17 v18 v19 v20 v21 v28=>ER n q91 aB aC aD aA (fun p0 x1 x2 v7 v8 v9 v10 v11 x12 x13 v15 v16 v17 v18 v19 v20 v21=>yG n q91 aB aC aD aA (g114_39L n q91 aB aC aD aA kr kx m) p0 x1 x2 v7 v8 v9 v10 v11 x12 x13 v15 v16 v17 v18 v19 v20 v21) kr p0 x1 x2 v7 v8 v9 v10 v11 x12 x13 v15 v16 v17 v18 v19 v20 v21 v28) p0 x1 x2 v7 v8 v9 v10 v11 x12 x13 v15 v16 v17 v18 v19 v20 v21)
    hA2 hW hm hm2 hN hNM hDD hDd _ n (-d+s1) s1 e1 v1 V1 hMV hA1 b1 b2 (fun _ _ x y ho hfo=>by have:=hMV.prune x y ho (by omega);omega) (Nat.le_refl _) (by unfold Big at hn;omega) with h | ⟨s',e',v1',V1',h1,h2,h3,h4,h5,h6⟩
   ·exact .inl h
   rw [h1]
   dsimp only [GX,ER,RC]
   rw [aG (n:=0 - d) (by omega) (by omega),aG (n:=0 - d+s2) (by omega) (by omega),show 0 - d+s2= -d+s2 by omega]
   rcases fD0 (β:=β) (p0:=p0) (A:=A) (B:=B) (mD:=mD) q91 aB aC aD aA n hn (s1:=s') (e1:=e') (kr:=kr) (fr:=fr)
    (kx:=fun p0 x1 x2 v7 v8 v9 v10 v11 x12 x13 v15 v16 v17 v18 v19 v20 v21=>yG n q91 aB aC aD aA (g114_39L n q91 aB aC aD aA kr kx m) p0 x1 x2 v7 v8 v9 v10 v11 x12 x13 v15 v16 v17 v18 v19 v20 v21)
    hfrd h2 h3 hm hm2 hN hNM hDf hDd _ n (-d+s2) s2 e2 v2 V2 hMW hA2 b3 b4 (fun _ _ x y ho hfo=>by have:=hMW.prune x y ho (by omega);omega) (Nat.le_refl _) (by unfold Big at hn;omega) with h | ⟨s'',e'',v2',V2',g1,g2,g3,g4,g5,g6⟩
   ·exact .inl h
   rw [g1]
   dsimp only [yG]
   rw [aG (n:=d+1) (by omega) (by omega)]
   refine ih (mD - (d+1)).toNat (by omega) m (d+1) s' e' s'' e'' v1' v2' V1' V2' (by omega) (Nat.le_refl _) (by omega) (by rw [show d+1 - 1=d by omega];exact h3) (by rw [show d+1 - 1=d by omega];exact g3) h2 g2 h4 h5 g4 g5 ?_ ?_
   ·intro hfr
    have q1:=hDt hfr
    have q2:=h6 hfr
    have q3:=hfrt hfr
    omega
   ·intro hfr
    have q1:=hDf hfr
    have q2:=g6 hfr
    have q3:=hfrd hfr
    omega
  ·rw [bdF hdm]
   refine .inr ⟨rfl,?_⟩
   cases hfr:fr with
   | true=>
    have q1:=hDt hfr
    have q3:=hfrt hfr
    omega
   | false=>
    have q1:=hDf hfr
    have q3:=hfrd hfr
    omega
theorem eY9 (n:Nat) {kx} (N M m1 m2 L2:Int) (L:Nat) (hL:L≤4000000):∀(c i m:Nat) (v1 v2:List Int),L - i=c→i≤L→c < m→v1.length=L→v2.length=L→(∀j:Nat,j < i→rd v1 (j:Int) 0= -1∧rd v2 (j:Int) 0= -1)→
  ∃v1' v2',g114_3L (β:=β) n q91 aB aC aD aA kx m p0 A B N M m1 m2 L2 v1 v2 (L:Int) (i:Int)=kx p0 A B N M m1 m2 L2 v1' v2'∧v1'.length=L∧v2'.length=L∧∀j:Nat,j < L→rd v1' (j:Int) 0= -1∧rd v2' (j:Int) 0= -1:=by
 intro c
 induction c with
 | zero=>
  intro i m v1 v2 hc hi hm h1 h2 hv
  obtain ⟨m,rfl⟩:∃m',m=m'+1:=⟨m - 1,by omega⟩
  refine ⟨v1,v2,?_,h1,h2,fun j hj=>hv j (by omega)⟩
  rw [g114_3L.eq_2,TB,bdF (by omega)]
 | succ c ih=>
  intro i m v1 v2 hc hi hm h1 h2 hv
  obtain ⟨m,rfl⟩:∃m',m=m'+1:=⟨m - 1,by omega⟩
  rw [g114_3L.eq_2,TB,bdT (by omega),aP (by omega) (by omega),aP (by omega) (by omega),aG (by omega) (by omega)]
  have key:∀v:List Int,v.length=L→∀j:Nat,j < i+1→(j < i→rd v (j:Int) 0= -1)→rd (v.set (i:Int).toNat (-1)) (j:Int) 0= -1:=fun v hv j hj hr=>by
   rw [uU (by omega) (by rw [List.length_set];omega),List.getElem_set]
   split
   ·rfl
   ·have:=hr (by omega)
    rw [uU (by omega) (by omega)] at this
    exact this
  exact ih (i+1) m _ _ (by omega) (by omega) (by omega) (by rw [List.length_set];exact h1) (by rw [List.length_set];exact h2) fun j hj=>⟨key v1 h1 j hj fun h=>(hv j h).1,key v2 h2 j hj fun h=>(hv j h).2⟩
theorem cC6 (n:Nat) (hn:Big≤n) (h3:3≤A.length+B.length) (hN:A.length≤500000) (hM:B.length≤500000) {kr:List (Int×BA)→Option β}:
  Met kr aA p0 A B (uC (β:=β) n q91 aB aC aD aA kr p0 A B)∨
  (uC (β:=β) n q91 aB aC aD aA kr p0 A B=kr [(-1,runesBytes A),(1,runesBytes B)]∧dst A B=A.length+B.length):=by
 dsimp only [uC,W2]
 rw [aG (n:=(A.length:Int)+B.length) (by omega) (by omega),aG (n:=(A.length:Int)+B.length+1) (by omega) (by omega)]
 obtain ⟨mN,hmN⟩:∃mN:Nat,mN=(A.length+B.length+1) / 2:=⟨_,rfl⟩
 have e1:((A.length:Int)+B.length+1).tdiv 2=(mN:Int):=by
  rw [Int.tdiv_eq_ediv_of_nonneg (by omega)];omega
 rw [e1,aG (n:=(mN:Int)) (by omega) (by omega),aG (n:=2 * (mN:Int)) (by omega) (by omega),bF (by omega) (by omega) (by omega),sD (by omega),bF (by omega) (by omega) (by omega),sD (by omega)]
 have e2:(2 * (mN:Int)).toNat=2 * mN:=by omega
 rw [e2,List.length_replicate]
 dsimp only [aA3,aQ2]
 obtain ⟨v1,v2,i1,i2,i3,i4⟩:=eY9 (β:=β) (p0:=p0) (A:=A) (B:=B) q91 aB aC aD aA n (kx:=fun p0 x1 x2 v7 v8 v9 v10 v11 x12 x13=>XM n q91 aB aC aD aA (fun p0 x1 x2 v7 v8 v9 v10 v11 x12 x13 v15 v16 v17 v18 v19 v20 v21=>EU n q91 aB aC aD aA (fun x1 x2=>EW n q91 aB aC aD aA kr x1 x2) kr p0 x1 x2 v7 v8 v9 v10 v11 x12 x13 v15 v16 v17 v18 v19 v20 v21) p0 x1 x2 v7 v8 v9 v10 v11 x12 x13) (A.length:Int) (B.length:Int) (mN:Int) (mN:Int) (2 * (mN:Int)) (2 * mN) (by omega) (2 * mN) 0 n (List.replicate (2 * mN) 0) (List.replicate (2 * mN) 0) (by omega) (by omega) (by unfold Big at hn;omega) (by simp) (by simp) (fun j hj=>by omega)
 rw [show ((0:Nat):Int)=0 from rfl] at i1
 rw [i1]
 dsimp only [XM,EU,TK]
 rw [aG (n:=(mN:Int)+1) (by omega) (by omega),aP (by omega) (by omega),aP (by omega) (by omega),aG (n:=(A.length:Int) - B.length) (by omega) (by omega)]
 have harr:∀v:List Int,v.length=2 * mN→(∀j:Nat,j < 2 * mN→rd v (j:Int) 0= -1)→Arr (v.set ((mN:Int)+1).toNat 0) mN (ZL (fun _=> -1) 1 0):=fun v hl hv=>by
  refine Arr.set (V:=fun _=> -1) ⟨by omega,fun j j1 j2=>?_⟩ (by omega) (by omega)
  have:=hv ((mN:Int)+j).toNat (by omega)
  rw [Int.toNat_of_nonneg (by omega)] at this
  exact this
 have hdone:∀A B:List Int,Done A B (mN:Int) (0 - 1) 0 0 (ZL (fun _=> -1) 1 0):=fun A B=>Done.first (by omega) (fun j _ _ hj=>jA _ hj) (oY _ _ _)
 have hfr:∀z:Int,((z.tmod 2 !=0)=false→z % 2=0)∧((z.tmod 2 !=0)=true→z % 2=1):=fun z=>by
  have:z.tmod 2=0↔z % 2=0:=⟨fun h=>Int.emod_eq_zero_of_dvd (Int.dvd_of_tmod_eq_zero h),fun h=>Int.tmod_eq_zero_of_dvd (Int.dvd_of_emod_eq_zero h)⟩
  refine ⟨fun h=>?_,fun h=>?_⟩
  ·have h:z.tmod 2=0:=by simpa using h
   exact this.1 h
  ·have h:¬z.tmod 2=0:=by simpa using h
   have:z % 2≠0:=fun h'=>h (this.2 h')
   omega
 rcases fA6 (β:=β) (p0:=p0) (A:=A) (B:=B) (mD:=(mN:Int)) q91 aB aC aD aA n hn (kx:=fun x1 x2=>EW n q91 aB aC aD aA kr x1 x2) (kr:=kr) (fr:=((A.length:Int) - B.length).tmod 2 !=0) (hfr _).1 (hfr _).2 (by omega) (by omega) (by omega) (by omega) (by omega) _ n 0 0 0 0 0 _ _ _ _ (Int.le_refl _) (Nat.le_refl _) (by unfold Big at hn;omega) (hdone A B) (hdone A.reverse B.reverse) (harr v1 i2 fun j hj=>(i4 j hj).1) (harr v2 i3 fun j hj=>(i4 j hj).2) (by omega) (by omega) (by omega) (by omega) (fun _=>by omega) (fun _=>by omega) with h | ⟨h1,h2⟩
 ·exact .inl h
 ·exact .inr ⟨h1,h2⟩
end
theorem dU3 {x y:List Int} (h:x.length=y.length) (hv:∀j,j < x.length→x.getD j 0=y.getD j 0):x=y:=by
 apply List.ext_getElem h
 intro j h1 h2
 have:=hv j h1
 simpa [List.getD,List.getElem?_eq_getElem h1,List.getElem?_eq_getElem h2] using this
theorem vG (n:Nat) (hn:Big≤n) (x y:List Int) (hx:x.length≤1000000000000):cW1 n x y=some (decide (x=y),()):=by
 dsimp only [cW1,TG,aC9,aB9,aK6,aE3]
 by_cases hl:x.length=y.length
 ·rw [biF (by simp [hl])]
  have key:∀(d i m:Nat),x.length - i=d→i≤x.length→d < m→(∀j,j < i→x.getD j 0=y.getD j 0)→g133_3L n (fun v4=>@some (DenR [.dat .bool]) (v4,())) (some (true,())) m y x (x.length:Int) (i:Int)=some (decide (x=y),()):=by
   intro d
   induction d with
   | zero=>
    intro i m hd hi hm hv
    obtain ⟨m,rfl⟩:∃m',m=m'+1:=⟨m - 1,by omega⟩
    rw [g133_3L.eq_2,PX,bdF (by omega),decide_eq_true (dU3 hl fun j hj=>hv j (by omega))]
   | succ d ih=>
    intro i m hd hi hm hv
    obtain ⟨m,rfl⟩:∃m',m=m'+1:=⟨m - 1,by omega⟩
    rw [g133_3L.eq_2,PX,bdT (by omega),aP (by omega) (by omega),aP (by omega) (by omega),lW,lW]
    by_cases e:x.getD i 0=y.getD i 0
    ·rw [biF (by rw [e];simp),aG (by omega) (by omega)]
     refine ih (i+1) m (by omega) (by omega) (by omega) fun j hj=>?_
     by_cases hj':j=i
     ·subst hj';exact e
     ·exact hv j (by omega)
    ·rw [biT (by simpa using e),decide_eq_false (fun h=>e (by rw [h]))]
  exact key x.length 0 n (by omega) (by omega) (by unfold Big at hn;omega) fun j hj=>by omega
 ·rw [biT (by simp;omega),decide_eq_false (fun h=>hl (by rw [h]))]
theorem MZ (n:Nat) (hn:Big≤n) (x y:List Int) (hx:x.length≤1000000000000) (hy:y.length≤1000000000000):
  (∃u v,x=u++y++v∧eA1 n x y=some ((u.length:Int),()))∨((∀u v,x≠u++y++v)∧eA1 n x y=some (-1,())):=by
 dsimp only [eA1,QM,aG6,aJ1,h9,u4]
 rw [aG (n:=(x.length:Int) - y.length) (by omega) (by omega)]
 have key:∀(d i m:Nat),x.length+1 - i=d→d < m→(∀j,j < i→j+y.length≤x.length→(x.drop j).take y.length≠y)→
   (∃u v,x=u++y++v∧g156_3L n (fun v4=>@some (DenR [.dat (.int .i64)]) (v4,())) (some (-1,())) m x y ((x.length:Int) - y.length) (i:Int)=some ((u.length:Int),()))∨
   ((∀u v,x≠u++y++v)∧g156_3L n (fun v4=>@some (DenR [.dat (.int .i64)]) (v4,())) (some (-1,())) m x y ((x.length:Int) - y.length) (i:Int)=some (-1,())):=by
  intro d
  induction d using Nat.strongRecOn with
  | _ d ih=>
   intro i m hd hm hv
   obtain ⟨m,rfl⟩:∃m',m=m'+1:=⟨m - 1,by omega⟩
   rw [g156_3L.eq_2,S9]
   by_cases h:i+y.length≤x.length
   ·rw [bdT (by omega),aG (n:=(i:Int)+y.length) (by omega) (by omega),bF (by omega) (by omega) (by omega)]
    have ec:cut x (i:Int) ((i:Int)+y.length)=(x.drop i).take y.length:=by
     rw [show (i:Int)+y.length=((i+y.length:Nat):Int) by omega,eE1];congr 1;omega
    rw [ec,vG n hn _ _ (by rw [List.length_take,List.length_drop];omega),Option.bind_some]
    by_cases e:(x.drop i).take y.length=y
    ·rw [biT (by simpa using e)]
     refine .inl ⟨x.take i,x.drop (i+y.length),?_,by rw [show (x.take i).length=i by rw [List.length_take];omega]⟩
     rw [List.append_assoc]
     conv=>rhs;rw [←e]
     rw [List.length_take,List.length_drop,show min y.length (x.length - i)=y.length by omega,←List.drop_drop,List.take_append_drop,List.take_append_drop]
    ·rw [biF (by simpa using e),aG (by omega) (by omega)]
     have:=ih (d - 1) (by omega) (i+1) m (by omega) (by omega) fun j hj hjl=>by
      by_cases hj':j=i
      ·subst hj';exact e
      ·exact hv j (by omega) hjl
     rw [show ((i:Int)+1)=((i+1:Nat):Int) by omega]
     exact this
   ·rw [bdF (by omega)]
    refine .inr ⟨fun u v hx'=>?_,rfl⟩
    have hl:=congrArg List.length hx'
    simp only [List.length_append] at hl
    refine hv u.length (by omega) (by omega) ?_
    rw [hx',List.append_assoc,List.drop_left,List.take_left]
 exact key (x.length+1) 0 n (by omega) (by unfold Big at hn;omega) fun j hj=>by omega
structure LD (a b:List Int) (l:List Rp):Prop where
 ok:Ok l
 src:bQ l=a
 tgt:bP l=b
 ed:edR l=dst a b
 len:l.length≤3 * (a.length+b.length)
 full:Full l
theorem LD.best {a b:List Int} {l:List Rp} (h:LD a b l):vO l:=by unfold vO;rw [h.src,h.tgt];exact Nat.le_of_eq h.ed
theorem LD.of {a b:List Int} {l:List Rp} (ok:Ok l) (src:bQ l=a) (tgt:bP l=b) (ed:edR l≤dst a b) (len:l.length≤3 * (a.length+b.length)) (full:Full l):LD a b l:=
 ⟨ok,src,tgt,by have:=pE l ok.ops;rw [src,tgt] at this;omega,len,full⟩
theorem LD.merge {a b:List Int} {l:List Rp} (h:LD a b l):LD a b (merge l):=by
 have h1:=DJ h.ok
 have h2:=bP8 h.ok
 have h3:=pE (Go.Proofs.YthkiaiilpaojnaaDoorZF.merge l) h.ok.merge.ops
 rw [h1.1,h1.2.1,h.src,h.tgt] at h3
 have h4:=h.ed
 have h5:=h.len
 refine LD.of h.ok.merge (h1.1.trans h.src) (h1.2.1.trans h.tgt) (by omega) ?_ (aP8 h.ok h.full h.best).1
 unfold phi at h2
 omega
theorem bJ1:∀(c:Int) (v:List Int),c∉v→dst [c] v=1+v.length
 | c,[],_=>by rw [fX];rfl
 | c,b::v,h=>by
  have h1:¬c=b:=fun e=>h (by simp [e])
  have h2:=bJ1 c v fun hv=>h (by simp [hv])
  rw [fF,if_neg h1,gB,h2,List.length_cons];omega
def Trim (a b:List Int):Prop:=(∀c x d y,a=c::x→b=d::y→c≠d)∧(∀c x d y,a=x++[c]→b=y++[d]→c≠d)
theorem Trim.two {a b:List Int} (h:Trim a b) (ha:a≠[]) (hb:b≠[]):2≤dst a b:=by
 match a,b,ha,hb with
 | c::x,d::y,_,_=>
  have hcd:=h.1 c x d y rfl rfl
  rw [fF,if_neg hcd]
  have k1:dst x (d::y)≠0:=fun h0=>by
   have e:=IW h0
   rcases List.eq_nil_or_concat (d::y) with g | ⟨u,q,g⟩
   ·cases g
   ·rw [List.concat_eq_append] at g
    exact h.2 q (c::u) q u (by rw [e,g];rfl) g rfl
  have k2:dst (c::x) y≠0:=fun h0=>by
   have e:=IW h0
   rcases List.eq_nil_or_concat (c::x) with g | ⟨u,q,g⟩
   ·cases g
   ·rw [List.concat_eq_append] at g
    exact h.2 q u q (d::u) g (by rw [←e,g];rfl) rfl
  omega
theorem OA {L S u v:List Int} (e:L=u++S++v) (hS:S≠[]) (h1:∀c x y,L=c::x→S=c::y→False) (h2:∀c x y,L=x++[c]→S=y++[c]→False):u≠[]∧v≠[]:=by
 refine ⟨fun hu=>?_,fun hv=>?_⟩
 ·subst hu
  cases S with
  | nil=>exact hS rfl
  | cons c y=>exact h1 c (y++v) y (by rw [e];simp) rfl
 ·subst hv
  rcases List.eq_nil_or_concat S with g | ⟨y,c,g⟩
  ·exact hS g
  ·rw [List.concat_eq_append] at g
   exact h2 c (u++y) y (by rw [e,g];simp) g
theorem Trim.ne {a b:List Int} (h:Trim a b):(∀c x y,a=c::x→b=c::y→False)∧(∀c x y,a=x++[c]→b=y++[c]→False):=⟨fun c x y h1 h2=>h.1 c x c y h1 h2 rfl,fun c x y h1 h2=>h.2 c x c y h1 h2 rfl⟩
theorem eL5 {k1 k2 k3:Int} {u s v:List Int} (hu:u≠[]) (hs:s≠[]) (hv:v≠[]):Full [(k1,u),(k2,s),(k3,v)]:=Full.cons hu (Full.cons hs (Full.cons hv Full.nil))
theorem eL1 {k1 k2:Int} {u v:List Int} (hu:u≠[]) (hv:v≠[]):Full [(k1,u),(k2,v)]:=Full.cons hu (Full.cons hv Full.nil)
theorem cU5 (n:Nat) (p0) (x y:List Int) (hp:p0.1≤(0:Int)):eF9 n p0 x y=some ((),()):=by
 dsimp only [eF9,VL,aK4]
 rw [bdT hp]
section
variable (q91:DenA iB→Option (DenR fJ)) (aB:DenA eS→Option (DenR dC)) (aC:DenA eO→Option (DenR dL)) (aD:DenA eT→Option (DenR dQ)) (aA:DenA eH→Option (DenR dW))
theorem dF4 (n:Nat) (p0) {A B:List Int} {x y:Nat} (hx:x≤A.length) (hy:y≤B.length) {l1 l2:List Rp} (h1:aB (p0,(A.take x,(B.take y,(false,()))))=@some (DenR dC) (M l1,())) (h2:aB (p0,(A.drop x,(B.drop y,(false,()))))=@some (DenR dC) (M l2,())) (hl:l1.length+l2.length≤1000000):
  aP7 n q91 aB aC aD aA p0 A B (x:Int) (y:Int)=some (M (l1++l2),()):=by
 dsimp only [aP7,c7]
 rw [bF (by omega) (by omega) (by omega),bF (by omega) (by omega) (by omega),bF (by omega) (by omega) (by omega),bF (by omega) (by omega) (by omega),cP,cP,eQ _ _ _ (by omega),eQ _ _ _ (by omega),Int.toNat_natCast,Int.toNat_natCast,aW h1,aW h2]
 simp only
 rw [cA (by unfold M;rw [List.length_map,List.length_map];omega)]
 unfold M
 rw [List.map_append]
theorem dI3 {γ:Type} (c d:Bool) (z:γ):(bif c then (bif d then z else z) else z)=z:=by cases c <;> cases d <;> rfl
theorem W9 (n:Nat) (hn:Big≤n) (p0) (hp:p0.1≤(0:Int)) {a b:List Int} (ln:Bool) (hln:ln=false∨a.length≤100∨b.length≤100) (ha:Valids a) (hb:Valids b) (hla:a.length≤100000) (hlb:b.length≤100000) (ht:Trim a b) (hne:a≠[]∨b≠[])
  (hq:2≤a.length→2≤b.length→2≤dst a b→∃l,aC (p0,(a,(b,())))=@some (DenR dL) (M l,())∧LD a b l):∃l,y9 n q91 aB aC aD aA p0 a b ln=some (M l,())∧LD a b l:=by
 dsimp only [y9,SL,o7]
 by_cases ea:a=[]
 ·subst ea
  rw [biT (by simp),cA (by simp)]
  refine ⟨[(1,b)],rfl,LD.of (fun d hd=>?_) rfl (by simp [bP]) (by rw [gB];show b.length+0≤_;omega) ?_ (Full.cons (hne.resolve_left (fun h=>h rfl)) Full.nil)⟩
  ·obtain rfl:=List.mem_singleton.1 hd
   exact ⟨.inr (.inr rfl),hb⟩
  ·have:b≠[]:=hne.resolve_left (fun h=>h rfl)
   have:=List.length_pos_iff.2 this
   simp;omega
 ·have pa:=List.length_pos_iff.2 ea
  rw [biF (by simp;exact ea)]
  by_cases eb:b=[]
  ·subst eb
   rw [biT (by simp),cA (by simp)]
   refine ⟨[(-1,a)],rfl,LD.of (fun d hd=>?_) (by simp [bQ]) rfl (by rw [fX];show a.length+0≤_;omega) ?_ (Full.cons ea Full.nil)⟩
   ·obtain rfl:=List.mem_singleton.1 hd
    exact ⟨.inl rfl,ha⟩
   ·simp;omega
  ·have pb:=List.length_pos_iff.2 eb
   rw [biF (by simp;exact eb)]
   have hd2:=ht.two ea eb
   have key:∀(L S:List Int),S.length≤L.length→((L=a∧S=b∧a.length>b.length)∨(L=b∧S=a∧¬a.length>b.length))→∃l,WA n q91 aB aC aD aA (fun x8=>@some (DenR [.rw (.pair (.int .i8) .str) 115]) (x8,())) p0 a b ln L S=some (M l,())∧LD a b l:=by
    intro L S hSL hcase
    have hLv:Valids L:=by rcases hcase with ⟨rfl,_,_⟩ | ⟨rfl,_,_⟩ <;> assumption
    have hSv:Valids S:=by rcases hcase with ⟨_,rfl,_⟩ | ⟨_,rfl,_⟩ <;> assumption
    have hLl:L.length≤100000:=by rcases hcase with ⟨rfl,_,_⟩ | ⟨rfl,_,_⟩ <;> assumption
    have hSn:S≠[]:=by rcases hcase with ⟨_,rfl,_⟩ | ⟨_,rfl,_⟩ <;> assumption
    have hSp:=List.length_pos_iff.2 hSn
    unfold WA
    rcases MZ n hn L S (by omega) (by omega) with ⟨u,v,e,h⟩ | ⟨hno,h⟩
    ·have hl:=congrArg List.length e
     simp only [List.length_append] at hl
     have huv:Valids u∧Valids v:=by
      rw [e] at hLv
      exact ⟨(Valids.of_append (Valids.of_append hLv).1).1,(Valids.of_append hLv).2⟩
     have c1:cut L 0 (u.length:Int)=u:=by rw [cP,e,Int.toNat_natCast,List.append_assoc,List.take_left]
     have c2:cut L ((u.length:Int)+S.length) (L.length:Int)=v:=by
      rw [eQ _ _ _ (by omega),e,show ((u.length:Int)+S.length).toNat=(u++S).length by rw [List.length_append];omega,List.drop_left]
     rw [h,Option.bind_some,biT (by simp)]
     have hw:w64 ((u.length:Int)+S.length)=(u.length:Int)+S.length:=aG (by omega) (by omega)
     rcases hcase with ⟨rfl,rfl,hgt⟩ | ⟨rfl,rfl,hgt⟩
     ·rw [bdT (by omega)]
      simp only [hw]
      rw [bF (by omega) (by omega) (by omega),bF (by omega) (by omega) (by omega),c1,c2]
      have hw:=OA e hSn ht.ne.1 ht.ne.2
      refine ⟨[(-1,u),(0,S),(-1,v)],rfl,LD.of (fun d hd=>?_) ?_ ?_ ?_ ?_ (eL5 hw.1 hSn hw.2)⟩
      ·simp only [List.mem_cons,List.not_mem_nil,or_false] at hd
       rcases hd with rfl | rfl | rfl
       ·exact ⟨.inl rfl,huv.1⟩
       ·exact ⟨.inr (.inl rfl),hSv⟩
       ·exact ⟨.inl rfl,huv.2⟩
      ·show u++(S++(v++[]))=L;rw [e];simp
      ·show S++[]=S;simp
      ·show u.length+(0+(v.length+0))≤_
       have:=(VW L S).1
       omega
      ·simp;omega
     ·rw [bdF (by omega)]
      simp only [hw]
      rw [bF (by omega) (by omega) (by omega),bF (by omega) (by omega) (by omega),c1,c2]
      have hw:=OA e hSn (fun c x y k1 k2=>ht.ne.1 c y x k2 k1) (fun c x y k1 k2=>ht.ne.2 c y x k2 k1)
      refine ⟨[(1,u),(0,S),(1,v)],rfl,LD.of (fun d hd=>?_) ?_ ?_ ?_ ?_ (eL5 hw.1 hSn hw.2)⟩
      ·simp only [List.mem_cons,List.not_mem_nil,or_false] at hd
       rcases hd with rfl | rfl | rfl
       ·exact ⟨.inr (.inr rfl),huv.1⟩
       ·exact ⟨.inr (.inl rfl),hSv⟩
       ·exact ⟨.inr (.inr rfl),huv.2⟩
      ·show S++[]=S;simp
      ·show u++(S++(v++[]))=L;rw [e];simp
      ·show u.length+(0+(v.length+0))≤_
       have:=(VW S L).2
       omega
      ·simp;omega
    ·rw [h,Option.bind_some,biF (by simp)]
     by_cases h1:S.length=1
     ·rw [biT (by simp [h1])]
      obtain ⟨c,hc⟩:=List.length_eq_one_iff.1 h1
      have hcL:c∉L:=fun hm=>by
       obtain ⟨u,v,e⟩:=List.append_of_mem hm
       exact hno u v (by rw [e,hc];simp)
      have hdd:dst S L=1+L.length:=by rw [hc];exact bJ1 c L hcL
      refine ⟨[(-1,a),(1,b)],rfl,LD.of (fun d hd=>?_) ?_ ?_ ?_ ?_ (eL1 ea eb)⟩
      ·simp only [List.mem_cons,List.not_mem_nil,or_false] at hd
       rcases hd with rfl | rfl
       ·exact ⟨.inl rfl,ha⟩
       ·exact ⟨.inr (.inr rfl),hb⟩
      ·show a++[]=a;simp
      ·show b++[]=b;simp
      ·show a.length+(b.length+0)≤_
       rcases hcase with ⟨rfl,rfl,hgt⟩ | ⟨rfl,rfl,hgt⟩
       ·rw [wM _ _ _ (Nat.le_refl _),hdd];omega
       ·rw [hdd];omega
      ·simp;omega
     ·rw [biF (by simp;omega),cU5 n p0 a b hp,Option.bind_some]
      have h2a:2≤a.length∧2≤b.length:=by rcases hcase with ⟨rfl,rfl,hgt⟩ | ⟨rfl,rfl,hgt⟩ <;> omega
      obtain ⟨l,g1,g2⟩:=hq h2a.1 h2a.2 hd2
      refine ⟨l,?_,g2⟩
      rcases hln with rfl | h | h
      ·rw [cond_false,g1];rfl
      ·rw [bdF (by omega),g1];cases ln <;> rfl
      ·rw [bdF (p:=(b.length:Int)>100) (by omega),dI3,g1];rfl
   by_cases hgt:a.length>b.length
   ·rw [bdT (by omega)]
    exact key a b (by omega) (.inl ⟨rfl,rfl,hgt⟩)
   ·rw [bdF (by omega)]
    exact key b a (by omega) (.inr ⟨rfl,rfl,hgt⟩)
end
theorem dN8 {x y:List Int} {c d:Int} {u v:List Int} (hx:x.take (x.length - csl x y)=u++[c]) (hy:y.take (y.length - csl x y)=v++[d]):c≠d:=by
 have e1:=congrArg List.reverse hx
 have e2:=congrArg List.reverse hy
 rw [List.reverse_append] at e1 e2
 have q1:x.reverse.drop (cpl x.reverse y.reverse)=c::u.reverse:=by
  rw [List.drop_reverse];exact e1
 have q2:y.reverse.drop (cpl x.reverse y.reverse)=d::v.reverse:=by
  rw [List.drop_reverse];exact e2
 exact AG q1 q2
theorem eJ1 (a b:List Int):Trim ((a.drop (cpl a b)).take ((a.drop (cpl a b)).length - csl (a.drop (cpl a b)) (b.drop (cpl a b)))) ((b.drop (cpl a b)).take ((b.drop (cpl a b)).length - csl (a.drop (cpl a b)) (b.drop (cpl a b)))):=by
 refine ⟨fun c x d y hx hy=>?_,fun c x d y hx hy=>dN8 hx hy⟩
 have g1:∃x',a.drop (cpl a b)=c::x':=by
  cases h:a.drop (cpl a b) with
  | nil=>rw [h] at hx;simp at hx
  | cons c' x'=>
   rw [h] at hx
   cases hn:(c'::x').length - csl (c'::x') (b.drop (cpl a b)) with
   | zero=>rw [hn] at hx;simp at hx
   | succ k=>rw [hn,List.take_succ_cons] at hx;exact ⟨x',by rw [List.cons.inj hx |>.1]⟩
 have g2:∃y',b.drop (cpl a b)=d::y':=by
  cases h:b.drop (cpl a b) with
  | nil=>rw [h] at hy;simp at hy
  | cons d' y'=>
   rw [h] at hy
   cases hn:(d'::y').length - csl (a.drop (cpl a b)) (d'::y') with
   | zero=>rw [hn] at hy;simp at hy
   | succ k=>rw [hn,List.take_succ_cons] at hy;exact ⟨y',by rw [List.cons.inj hy |>.1]⟩
 obtain ⟨x',g1⟩:=g1
 obtain ⟨y',g2⟩:=g2
 exact AG g1 g2
def cG (t:List Int):List Rp:=if t=[] then [] else [(0,t)]
theorem sK (t:List Int):Full (cG t):=by
 unfold cG
 split
 ·exact Full.nil
 ·rename_i h;exact Full.cons h Full.nil
theorem oW {t:List Int} (h:Valids t):Ok (cG t)∧bQ (cG t)=t∧bP (cG t)=t∧edR (cG t)=0∧(cG t).length≤1:=by
 unfold cG
 split
 ·rename_i e;subst e;exact ⟨Ok.nil,rfl,rfl,rfl,by simp⟩
 ·refine ⟨fun d hd=>?_,by simp [bQ],by simp [bP],by simp [edR],by simp⟩
  obtain rfl:=List.mem_singleton.1 hd
  exact ⟨.inr (.inl rfl),h⟩
section
variable (q91:DenA iB→Option (DenR fJ)) (aB:DenA eS→Option (DenR dC)) (aC:DenA eO→Option (DenR dL)) (aD:DenA eT→Option (DenR dQ)) (aA:DenA eH→Option (DenR dW))
theorem eA2 (Q:List Int→List Int→List Rp→Prop) (n:Nat) (hn:Big≤n) (p0) {a b:List Int} (ln:Bool) (ha:Valids a) (hb:Valids b) (hla:a.length≤100000) (hlb:b.length≤100000)
  (hq:a≠b→∀a' b':List Int,Valids a'→Valids b'→a'.length≤a.length→b'.length≤b.length→a'.length+b'.length≤a.length+b.length→Trim a' b'→(a'≠[]∨b'≠[])→∃l,aD (p0,(a',(b',(ln,()))))=@some (DenR dQ) (M l,())∧Ok l∧bQ l=a'∧bP l=b'∧l.length≤600000∧Q a' b' l):
  (a=b∧LK n q91 aB aC aD aA p0 a b ln=some (M (cG a),()))∨(a≠b∧∃l pre sf a2 b2,a=pre++(a2++sf)∧b=pre++(b2++sf)∧Valids pre∧Valids sf∧dst a b=dst a2 b2∧Ok l∧bQ l=a2∧bP l=b2∧Q a2 b2 l∧
   LK n q91 aB aC aD aA p0 a b ln=some (M (merge (cG pre++l++cG sf)),())):=by
 dsimp only [LK,XJ,aG3]
 rw [vG n hn a b (by omega),Option.bind_some]
 by_cases hab:a=b
 ·subst hab
  rw [biT (by simp)]
  refine .inl ⟨rfl,?_⟩
  by_cases ha0:a=[]
  ·subst ha0;rfl
  ·have:=List.length_pos_iff.2 ha0
   rw [bdT (by omega),cA (by simp),show cG a=[(0,a)] by unfold cG;rw [if_neg ha0]]
   rfl
 ·rw [biF (by simpa using hab),OH n hn a b (by omega),Option.bind_some]
  have c1:=gW a b
  have c2:=fW a b
  have c3:=zS a b
  simp only
  rw [bF (by omega) (by omega) (by omega),bF (by omega) (by omega) (by omega),bF (by omega) (by omega) (by omega)]
  have htrim:=eJ1 a b
  have q1:=eK (a.drop (cpl a b)) (b.drop (cpl a b))
  have q2:=dS (a.drop (cpl a b)) (b.drop (cpl a b))
  have q3:=sN (a.drop (cpl a b)) (b.drop (cpl a b))
  rw [eQ a _ _ (by omega),eQ b _ _ (by omega),Int.toNat_natCast,cP,Int.toNat_natCast]
  have ea:a=a.take (cpl a b)++a.drop (cpl a b):=(List.take_append_drop _ _).symm
  have eb:b=b.take (cpl a b)++b.drop (cpl a b):=(List.take_append_drop _ _).symm
  have la1:(a.drop (cpl a b)).length=a.length - cpl a b:=List.length_drop
  have lb1:(b.drop (cpl a b)).length=b.length - cpl a b:=List.length_drop
  have hva:Valids (a.take (cpl a b)):=ha.take _
  have hva1:Valids (a.drop (cpl a b)):=ha.drop _
  have hvb1:Valids (b.drop (cpl a b)):=hb.drop _
  generalize hpre:a.take (cpl a b)=pre at *
  generalize ha1:a.drop (cpl a b)=a1 at *
  generalize hb1:b.drop (cpl a b)=b1 at *
  generalize hs:csl a1 b1=s at *
  rw [uA n hn a1 b1 (by omega) (by omega),Option.bind_some,hs]
  simp only
  rw [aG (n:=(a1.length:Int) - s) (by omega) (by omega),aG (n:=(b1.length:Int) - s) (by omega) (by omega),bF (by omega) (by omega) (by omega),bF (by omega) (by omega) (by omega),bF (by omega) (by omega) (by omega),
   cP,cP,eQ a1 _ _ (by omega),show ((a1.length:Int) - s).toNat=a1.length - s by omega,show ((b1.length:Int) - s).toNat=b1.length - s by omega]
  have ea1:a1=a1.take (a1.length - s)++a1.drop (a1.length - s):=(List.take_append_drop _ _).symm
  have eb1:b1=b1.take (b1.length - s)++a1.drop (a1.length - s):=by rw [q3];exact (List.take_append_drop _ _).symm
  have la2:(a1.take (a1.length - s)).length=a1.length - s:=by rw [List.length_take];omega
  have lb2:(b1.take (b1.length - s)).length=b1.length - s:=by rw [List.length_take];omega
  have lsf:(a1.drop (a1.length - s)).length=s:=by rw [List.length_drop];omega
  have hva2:=hva1.take (a1.length - s)
  have hvb2:=hvb1.take (b1.length - s)
  have hvsf:=hva1.drop (a1.length - s)
  have lpre:pre.length=cpl a b:=by rw [←hpre,List.length_take];omega
  generalize hsf:a1.drop (a1.length - s)=sf at *
  generalize ha2:a1.take (a1.length - s)=a2 at *
  generalize hb2:b1.take (b1.length - s)=b2 at *
  have hdst:dst a b=dst a2 b2:=by
   rw [ea,eb,←c3,mJ,ea1,eb1,QX]
  have eaf:a=pre++(a2++sf):=by rw [←ea1];exact ea
  have ebf:b=pre++(b2++sf):=by rw [←eb1,c3];exact eb
  have hne:a2≠[]∨b2≠[]:=by
   by_cases h:a2=[]
   ·right
    intro h2
    exact hab (by rw [eaf,ebf,h,h2])
   ·exact .inl h
  have hll:a2.length+b2.length≤a.length+b.length:=by omega
  obtain ⟨l,g1,go,gs,gt,gl,gQ⟩:=hq hab a2 b2 hva2 hvb2 (by omega) (by omega) hll htrim hne
  rw [aW g1]
  have hpo:=oW hva
  have hso:=oW hvsf
  have hxo:Ok (cG pre++l++cG sf):=(hpo.1.append go).append hso.1
  have hxs:bQ (cG pre++l++cG sf)=a:=by rw [bI,bI,hpo.2.1,hso.2.1,gs,eaf,List.append_assoc]
  have hxt:bP (cG pre++l++cG sf)=b:=by rw [bH,bH,hpo.2.2.1,hso.2.2.1,gt,ebf,List.append_assoc]
  have hxl:(cG pre++l++cG sf).length≤600002:=by
   rw [List.length_append,List.length_append];omega
  have hall:=lX (x:=cG pre++l++cG sf)
  rw [hxs,hxt] at hall
  have hed:=IR (cG pre++l++cG sf)
  have hm:cE1 n p0 (M (cG pre++l++cG sf))=some (M (merge (cG pre++l++cG sf)),()):=Q2 n hn p0 _ hxo (by unfold phi;omega) (by rw [hxs,hxt];omega)
  have last:∀z:List Rp,z=cG pre++l→XH n q91 aB aC aD aA (fun x8=>@some (DenR [.rw (.pair (.int .i8) .str) 115]) (x8,())) p0 sf (M z)=some (M (merge (cG pre++l++cG sf)),()):=fun z hz=>by
   subst hz
   unfold XH
   by_cases hsf0:sf=[]
   ·rw [biF (by simp [hsf0])]
    have:cG sf=[]:=by unfold cG;rw [if_pos hsf0]
    rw [this,List.append_nil] at hm ⊢
    rw [aW hm]
   ·have hp:=List.length_pos_iff.2 hsf0
    rw [biT (by simp [hsf0])]
    have:cG sf=[(0,sf)]:=by unfold cG;rw [if_neg hsf0]
    rw [cA (by unfold M;rw [List.length_map];simp only [List.length_append,List.length_cons,List.length_nil] at hxl ⊢;omega)]
    have e:M (cG pre++l)++[((0:Int),runesBytes sf)]=M (cG pre++l++cG sf):=by
     rw [this];unfold M;simp only [List.map_append];rfl
    rw [e,aW hm]
  refine .inr ⟨hab,l,pre,sf,a2,b2,eaf,ebf,hva,hvsf,hdst,go,gs,gt,gQ,?_⟩
  by_cases hp0:pre=[]
  ·rw [biF (by simp [hp0])]
   exact last l (by unfold cG;rw [if_pos hp0];rfl)
  ·have hp:=List.length_pos_iff.2 hp0
   rw [biT (by simp [hp0]),cA (by unfold M;rw [List.length_map];simp only [List.length_append,List.length_cons,List.length_nil] at hxl ⊢;omega)]
   exact last ((0,pre)::l) (by unfold cG;rw [if_neg hp0];rfl)
theorem vU (t:List Int):(cG t).length≤t.length:=by
 unfold cG;split
 ·simp
 ·rename_i h;have:=List.length_pos_iff.2 h;simp;omega
theorem dN4 (n:Nat) (hn:Big≤n) (p0) {a b:List Int} (ln:Bool) (ha:Valids a) (hb:Valids b) (hla:a.length≤100000) (hlb:b.length≤100000)
  (hq:a≠b→∀a' b':List Int,Valids a'→Valids b'→a'.length≤a.length→b'.length≤b.length→a'.length+b'.length≤a.length+b.length→Trim a' b'→(a'≠[]∨b'≠[])→∃l,aD (p0,(a',(b',(ln,()))))=@some (DenR dQ) (M l,())∧LD a' b' l):
  ∃l,LK n q91 aB aC aD aA p0 a b ln=some (M l,())∧LD a b l∧((a=b∧l=cG a)∨(a≠b∧∃x,LD a b x∧l=merge x)):=by
 rcases eA2 q91 aB aC aD aA LD n hn p0 ln ha hb hla hlb (fun h a' b' h1 h2 h3 h4 h5 h6 h7=>by
  obtain ⟨l,g1,g2⟩:=hq h a' b' h1 h2 h3 h4 h5 h6 h7
  exact ⟨l,g1,g2.ok,g2.src,g2.tgt,by have:=g2.len;omega,g2⟩) with ⟨rfl,e⟩ | ⟨hab,l,pre,sf,a2,b2,eaf,ebf,vp,vs,hdst,go,gs,gt,g2,e⟩
 ·have he:=oW ha
  have:=vU a
  exact ⟨cG a,e,LD.of he.1 he.2.1 he.2.2.1 (by rw [he.2.2.2.1];omega) (by omega) (sK a),.inl ⟨rfl,rfl⟩⟩
 ·have hpo:=oW vp
  have hso:=oW vs
  have hlen:=g2.len
  have hx:LD a b (cG pre++l++cG sf):=by
   refine LD.of ((hpo.1.append g2.ok).append hso.1) ?_ ?_ ?_ ?_ (((sK pre).append g2.full).append (sK sf))
   ·rw [bI,bI,hpo.2.1,hso.2.1,g2.src,eaf,List.append_assoc]
   ·rw [bH,bH,hpo.2.2.1,hso.2.2.1,g2.tgt,ebf,List.append_assoc]
   ·rw [dH,dH,hpo.2.2.2.1,hso.2.2.2.1,g2.ed,hdst];omega
   ·have k1:=vU pre
    have k2:=vU sf
    rw [List.length_append,List.length_append]
    have z1:=congrArg List.length eaf
    have z2:=congrArg List.length ebf
    simp only [List.length_append] at z1 z2
    omega
  exact ⟨_,e,hx.merge,.inr ⟨hab,_,hx,rfl⟩⟩
end
theorem dM2 (n:Nat) (hn:Big≤n) (p0) (hp:p0.1≤(0:Int)):∀(N m:Nat) (a b:List Int) (ln:Bool),(ln=false∨a.length≤100∨b.length≤100∨a=b)→a.length+b.length≤N→N≤100000→4 * N+8≤m→Valids a→Valids b→
  ∃l,(bE n m).2.1 (p0,(a,(b,(ln,()))))=@some (DenR dC) (M l,())∧LD a b l∧((a=b∧l=cG a)∨(a≠b∧∃x,LD a b x∧l=merge x)):=by
 intro N
 induction N using Nat.strongRecOn with
 | _ N ih=>
  intro m a b ln hln hl hN hm ha hb
  obtain ⟨m,rfl⟩:∃m',m=m'+4:=⟨m - 4,by omega⟩
  refine dN4 (a:=a) (b:=b) (ln:=ln) (p0:=p0) (n:=n) (hn:=hn) (ha:=ha) (hb:=hb) (hla:=by omega) (hlb:=by omega) (hq:=?_) ..
  intro hab a' b' ha' hb' hla' hlb' hl' ht hne
  have hln':ln=false∨a'.length≤100∨b'.length≤100:=by
   rcases hln with h | h | h | h
   ·exact .inl h
   ·exact .inr (.inl (by omega))
   ·exact .inr (.inr (by omega))
   ·exact absurd h hab
  refine W9 (a:=a') (b:=b') (ln:=ln) (hln:=hln') (p0:=p0) (n:=n) (hn:=hn) (hp:=hp) (ha:=ha') (hb:=hb') (hla:=by omega) (hlb:=by omega) (ht:=ht) (hne:=hne) (hq:=?_) ..
  intro h2a h2b hd2
  rcases cC6 (p0:=p0) (n:=n) (hn:=hn) (A:=a') (B:=b') (h3:=by omega) (hN:=by omega) (hM:=by omega) (kr:=fun x6=>@some (DenR dL) (x6,())) .. with h | ⟨h,hd⟩
  ·obtain ⟨x,y,ho,h1,h2,h3⟩:=h
   have hx:=ho.hx
   have hy:=ho.hy
   have hs:=ho.sum
   have l1:(a'.take x).length+(b'.take y).length < a'.length+b'.length:=by
    rw [List.length_take,List.length_take]
    by_cases e:x=a'.length∧y=b'.length
    ·rw [e.1,e.2,aI8] at h1;omega
    ·omega
   have l2:(a'.drop x).length+(b'.drop y).length < a'.length+b'.length:=by
    rw [List.length_drop,List.length_drop]
    by_cases e:x=0∧y=0
    ·rw [e.1,e.2,bE9] at h2;omega
    ·omega
   obtain ⟨u,u1,u2,_⟩:=ih _ (by omega:(a'.take x).length+(b'.take y).length < N) m (a'.take x) (b'.take y) false (.inl rfl) (Nat.le_refl _) (by omega) (by omega) (ha'.take _) (hb'.take _)
   obtain ⟨v,v1,v2,_⟩:=ih _ (by omega:(a'.drop x).length+(b'.drop y).length < N) m (a'.drop x) (b'.drop y) false (.inl rfl) (Nat.le_refl _) (by omega) (by omega) (ha'.drop _) (hb'.drop _)
   have ul:=u2.len
   have vl:=v2.len
   have hsp:=dF4 (n:=n) (p0:=p0) (hx:=hx) (hy:=hy) (h1:=u1) (h2:=v1) (hl:=by omega) (bE n m).1 (bE n m).2.1 (bE n m).2.2.1 (bE n m).2.2.2.1 (bE n m).2.2.2.2
   have key:LD a' b' (u++v):=by
    refine LD.of (u2.ok.append v2.ok) ?_ ?_ ?_ ?_ (u2.full.append v2.full)
    ·rw [bI,u2.src,v2.src,List.take_append_drop]
    ·rw [bH,u2.tgt,v2.tgt,List.take_append_drop]
    ·rw [dH,u2.ed,v2.ed]
     rw [jN hx hy,jK] at hs
     unfold gt at hs
     omega
    ·rw [List.length_append]
     rw [List.length_take,List.length_take] at ul
     rw [List.length_drop,List.length_drop] at vl
     omega
   refine ⟨u++v,?_,key⟩
   refine Eq.trans h3 ?_
   refine aW hsp
  ·refine ⟨[(-1,a'),(1,b')],h,LD.of (fun d hd'=>?_) ?_ ?_ ?_ ?_ (eL1 (List.ne_nil_of_length_pos (by omega)) (List.ne_nil_of_length_pos (by omega)))⟩
   ·simp only [List.mem_cons,List.not_mem_nil,or_false] at hd'
    rcases hd' with rfl | rfl
    ·exact ⟨.inl rfl,ha'⟩
    ·exact ⟨.inr (.inr rfl),hb'⟩
   ·show a'++[]=a';simp
   ·show b'++[]=b';simp
   ·show a'.length+(b'.length+0)≤_;omega
   ·simp;omega
theorem sV (n:Nat) (a b c d:Int):∃x,g89 n a b c d=some (x,()):=by
 dsimp only [g89,cU4]
 by_cases h1:a < b
 ·rw [bdT h1];exact ⟨_,rfl⟩
 ·rw [bdF h1]
  by_cases h2:a>c
  ·rw [bdT h2];exact ⟨_,rfl⟩
  ·rw [bdF h2];exact ⟨_,rfl⟩
theorem bM5 (n:Nat) (a:Nat):∃x,g90 n a=some (x,()):=by
 dsimp only [g90,cT5]
 generalize (fGt .f64 a (0:Nat)||fEq .f64 a (0:Nat))=c1
 generalize (fLt .f64 a (4607182418800017408:Nat)||fEq .f64 a (4607182418800017408:Nat))=c2
 cases c1 <;> cases c2 <;> exact ⟨_,rfl⟩
theorem eT9 (n:Nat) (v):∃p,g62 n (false,v)=some (p,())∧p.1=(0:Int):=by
 dsimp only [g62,dV4]
 obtain ⟨x1,h1⟩:=sV n v.1 0 1000 4
 obtain ⟨x2,h2⟩:=sV n v.2.1 0 1048576 1000
 obtain ⟨x3,h3⟩:=bM5 n v.2.2.1
 obtain ⟨x4,h4⟩:=bM5 n v.2.2.2.1
 obtain ⟨x5,h5⟩:=sV n v.2.2.2.2.1 1 8 4
 obtain ⟨x6,h6⟩:=sV n v.2.2.2.2.2 32 62 32
 rw [aW h1,aW h2,aW h3,aW h4,aW h5,aW h6]
 exact ⟨_,rfl,rfl⟩
def Asc (l:List Int):Prop:=∀b∈l,0≤b∧b < 128
theorem Asc.valids {l:List Int} (h:Asc l):Valids l:=fun b hb=>by
 have:=h b hb
 unfold Utf8.valid;simp;omega
theorem Asc.nil:Asc []:=fun b hb=>by cases hb
theorem Asc.append {x y:List Int} (hx:Asc x) (hy:Asc y):Asc (x++y):=fun b hb=>(List.mem_append.1 hb).elim (hx b) (hy b)
theorem Asc.take {x:List Int} (hx:Asc x) (k:Nat):Asc (x.take k):=fun b hb=>hx b (List.mem_of_mem_take hb)
theorem Asc.drop {x:List Int} (hx:Asc x) (k:Nat):Asc (x.drop k):=fun b hb=>hx b (List.mem_of_mem_drop hb)
theorem pZ {b:Int} (h:0≤b∧b < 128):aF (Utf8.encode b)=[b]:=by
 obtain ⟨k,rfl⟩:=Int.eq_ofNat_of_zero_le h.1
 have hk:k < 128:=by omega
 have hv:Utf8.valid (k:Int)=true:=by unfold Utf8.valid;simp;omega
 unfold Utf8.encode
 simp only [hv,if_true,Int.ofNat_eq_natCast,Int.toNat_natCast,hk]
 simp [aF]
 omega
theorem jZ:∀{l:List Int},Asc l→aF (enc l)=l
 | [],_=>rfl
 | b::l,h=>by
  show aF (runesBytes (b::l))=_
  rw [jM,bL,pZ (h b (by simp))]
  have:aF (enc l)=l:=jZ fun c hc=>h c (by simp [hc])
  show [b]++aF (enc l)=_
  rw [this];rfl
theorem Asc.eq {l:List Int} (h:Asc l):strOfNums l=enc l:=by
 apply cR
 rw [jZ h,kP fun b hb=>by have:=h b hb;omega]
theorem Asc.size {l:List Int} (h:Asc l):(enc l).size=l.length:=by rw [←aN,jZ h]
theorem Asc.byteAt {l:List Int} (h:Asc l) {i:Nat} (hi:i < l.length):byteAt (enc l) (i:Int)=l[i]:=by
 rw [mT (by omega) (by rw [h.size];omega),jZ h,oE hi]
theorem Asc.bl {l:List Int} (h:Asc l):bl (enc l)=l.map fun b=>UInt8.ofNat b.toNat:=by
 have:=h.eq
 rw [←this]
 exact strOfNums_data l
def gZ (c:Int):Bool:=decide ((97≤c∧c≤122)∨(65≤c∧c≤90)∨(48≤c∧c≤57))
def jU (c:Int):Bool:=decide (c=32∨c=9∨c=10∨c=13∨c=12)
def brk (c:Int):Bool:=decide (c=10∨c=13)
def nD (l:List Int):Bool:=decide ([10,10] <:+l)||decide ([10,13,10] <:+l)
def nL (e:Bool) (a b:Int):Int:=if e=true then 5 else if (brk a||brk b)=true then 4 else if (!gZ a&& !jU a&&jU b)=true then 3 else if (jU a||jU b)=true then 2 else if (!gZ a|| !gZ b)=true then 1 else 0
def cW (x y:List Int):Int:=if x=[]∨y=[] then 6 else nL ((brk (x.getLastD 0)&&nD x)||(brk (y.headD 0)&&nD y)) (x.getLastD 0) (y.headD 0)
theorem R0 {e:Bool} {a b:Int} (he:e=true→5≤(5:Int)) (ha:128≤a):1≤nL e a b:=by
 have h1:gZ a=false:=by unfold gZ;rw [decide_eq_false];omega
 unfold nL
 rw [h1]
 repeat' split
 all_goals first | omega | simp_all
theorem aC7 {a b:Int} (ha:128≤a) (hb:128≤b):nL false a b=1:=by
 have h1:gZ a=false:=by unfold gZ;rw [decide_eq_false];omega
 have h2:jU a=false:=by unfold jU;rw [decide_eq_false];omega
 have h3:brk a=false:=by unfold brk;rw [decide_eq_false];omega
 have h4:gZ b=false:=by unfold gZ;rw [decide_eq_false];omega
 have h5:jU b=false:=by unfold jU;rw [decide_eq_false];omega
 have h6:brk b=false:=by unfold brk;rw [decide_eq_false];omega
 unfold nL
 rw [h1,h2,h3,h4,h5,h6]
 rfl
@[reducible] def Tri:=List Int×List Int×List Int
def oC:List Int→List Int→List Int→Tri→Int→Tri
 | a,c::s,d::b,best,m=>
  if c=d then
   if m≤cW (a++[c]) (s++[c])+cW (s++[c]) b then oC (a++[c]) (s++[c]) b (a++[c],s++[c],b) (cW (a++[c]) (s++[c])+cW (s++[c]) b)
   else oC (a++[c]) (s++[c]) b best m
  else best
 | _,_,_,best,_=>best
termination_by _ _ b=>b.length
def eR:List Int→Nat→Nat
 | [],_=>0
 | c::r,k=>if (Utf8.encode c).size≤k then 1+eR r (k - (Utf8.encode c).size) else 0
theorem CA:∀(t:List Int) (k:Nat),eR t k≤t.length
 | [],_=>Nat.le_refl _
 | c::r,k=>by
  rw [eR]
  split
  ·have:=CA r (k - (Utf8.encode c).size);simp;omega
  ·omega
def mB (a s b:List Int):Tri:=
 let j:=eR a.reverse (csl a s)
 (a.take (a.length - j),a.drop (a.length - j)++s.take (s.length - j),a.drop (a.length - j)++b)
def iN (a s b:List Int):Tri:=oC (mB a s b).1 (mB a s b).2.1 (mB a s b).2.2 (mB a s b) (cW (mB a s b).1 (mB a s b).2.1+cW (mB a s b).2.1 (mB a s b).2.2)
structure Moved (a s b:List Int) (t:Tri):Prop where
 all:t.1++t.2.1++t.2.2=a++s++b
 out:t.1++t.2.2=a++b
 len:t.2.1.length=s.length
 val:Valids a→Valids s→Valids b→Valids t.1∧Valids t.2.1∧Valids t.2.2
theorem Moved.trans {a s b:List Int} {t u:Tri} (h:Moved a s b t) (k:Moved t.1 t.2.1 t.2.2 u):Moved a s b u:=
 ⟨k.all.trans h.all,k.out.trans h.out,k.len.trans h.len,fun h1 h2 h3=>let ⟨q1,q2,q3⟩:=h.val h1 h2 h3;k.val q1 q2 q3⟩
theorem Moved.step (a s b:List Int) (c:Int):Moved a (c::s) (c::b) (a++[c],s++[c],b):=by
 refine ⟨by simp,by simp,by simp,fun h1 h2 h3=>⟨h1.append ?_,h2.cons.2.append ?_,h3.cons.2⟩⟩ <;> exact fun d hd=>by rw [List.mem_singleton.1 hd];exact h2.cons.1
theorem K3 (a0 s0 b0:List Int):∀(n:Nat) (a s b:List Int) (best:Tri) (m:Int),b.length=n→Moved a0 s0 b0 (a,s,b)→Moved a0 s0 b0 best→Moved a0 s0 b0 (oC a s b best m):=by
 intro n
 induction n with
 | zero=>
  intro a s b best m hb h1 h2
  have:=List.eq_nil_of_length_eq_zero hb
  subst this
  cases s <;> (unfold oC;exact h2)
 | succ n ih=>
  intro a s b best m hb h1 h2
  match s,b,hb with
  | [],d::b,hb=>unfold oC;exact h2
  | c::s,d::b,hb=>
   unfold oC
   split
   ·rename_i e
    subst e
    have h3:=h1.trans (Moved.step a s b c)
    split
    ·exact ih _ _ _ _ _ (by simpa using hb) h3 h3
    ·exact ih _ _ _ _ _ (by simpa using hb) h3 h2
   ·exact h2
theorem MX {x y:List Int} {j:Nat} (h:j≤csl x y):x.drop (x.length - j)=y.drop (y.length - j):=by
 have h1:=eK x y
 have h2:=dS x y
 have e:=sN x y
 have e1:x.drop (x.length - j)=(x.drop (x.length - csl x y)).drop (csl x y - j):=by rw [List.drop_drop];congr 1;omega
 have e2:y.drop (y.length - j)=(y.drop (y.length - csl x y)).drop (csl x y - j):=by rw [List.drop_drop];congr 1;omega
 rw [e1,e2,e]
theorem DG:∀(t:List Int) (k:Nat),eR t k≤k
 | [],_=>Nat.zero_le _
 | c::r,k=>by
  rw [eR]
  split
  ·have:=DG r (k - (Utf8.encode c).size)
   have:=lH c
   omega
  ·omega
theorem BF (a s b:List Int):Moved a s b (mB a s b):=by
 unfold mB
 have hj:=DG a.reverse (csl a s)
 have e:=MX hj
 have l1:=eK a s
 have l2:=dS a s
 generalize eR a.reverse (csl a s)=j at *
 have ea:a.take (a.length - j)++a.drop (a.length - j)=a:=List.take_append_drop _ _
 have es:s.take (s.length - j)++a.drop (a.length - j)=s:=by rw [e];exact List.take_append_drop _ _
 refine ⟨?_,?_,?_,fun h1 h2 h3=>⟨h1.take _,(h1.drop _).append (h2.take _),(h1.drop _).append h3⟩⟩
 ·show a.take (a.length - j)++(a.drop (a.length - j)++s.take (s.length - j))++(a.drop (a.length - j)++b)=_
  have:a.take (a.length - j)++(a.drop (a.length - j)++s.take (s.length - j))++(a.drop (a.length - j)++b)=(a.take (a.length - j)++a.drop (a.length - j))++(s.take (s.length - j)++a.drop (a.length - j))++b:=by simp only [List.append_assoc]
  rw [this,ea,es]
 ·show a.take (a.length - j)++(a.drop (a.length - j)++b)=_
  rw [←List.append_assoc,ea]
 ·show (a.drop (a.length - j)++s.take (s.length - j)).length=_
  rw [List.length_append,List.length_drop,List.length_take];omega
theorem qL (a s b:List Int):Moved a s b (iN a s b):=K3 a s b _ _ _ _ _ _ rfl (BF a s b) (BF a s b)
def eC:List Rp→List Rp→List Rp
 | A,p::c::q::R=>
  if p.1=0∧q.1=0 then
   let t:=iN p.2 c.2 q.2
   if t.1=p.2 then eC (p::A) (c::q::R)
   else if t.1=[] then eC A ((c.1,t.2.1)::(q.1,t.2.2)::R)
   else if t.2.2=[] then eC A ((p.1,t.1)::(c.1,t.2.1)::R)
   else eC ((p.1,t.1)::A) ((c.1,t.2.1)::(q.1,t.2.2)::R)
  else eC (p::A) (c::q::R)
 | A,R=>A.reverse++R
termination_by _ R=>R.length
def iL (x:List Rp):List Rp:=eC [] x
def fC:List Rp→List (Int×Nat)
 | []=>[]
 | d::l=>if d.1=0 then fC l else (d.1,d.2.length)::fC l
theorem jI:∀x y,fC (x++y)=fC x++fC y
 | [],y=>rfl
 | d::x,y=>by simp only [List.cons_append,fC];split <;> simp [jI x y]
theorem cO9:∀(k:Nat) (A R:List Rp),R.length=k→bQ (eC A R)=bQ (A.reverse++R)∧bP (eC A R)=bP (A.reverse++R)∧fC (eC A R)=fC (A.reverse++R)∧(Ok (A.reverse++R)→Ok (eC A R))∧(eC A R).length≤A.length+R.length∧(A.reverse++R≠[]→eC A R≠[]):=by
 intro k
 induction k using Nat.strongRecOn with
 | _ k ih=>
  intro A R hk
  match R,hk with
  | [],hk=>unfold eC;exact ⟨rfl,rfl,rfl,id,by simp,id⟩
  | [p],hk=>unfold eC;exact ⟨rfl,rfl,rfl,id,by simp,id⟩
  | [p,c],hk=>unfold eC;exact ⟨rfl,rfl,rfl,id,by simp,id⟩
  | p::c::q::R,hk=>
   rw [eC]
   have skip:=ih (c::q::R).length (by rw [←hk];simp) (p::A) (c::q::R) rfl
   rw [List.reverse_cons,List.append_assoc,List.singleton_append] at skip
   have skip':bQ (eC (p::A) (c::q::R))=bQ (A.reverse++p::c::q::R)∧bP (eC (p::A) (c::q::R))=bP (A.reverse++p::c::q::R)∧fC (eC (p::A) (c::q::R))=fC (A.reverse++p::c::q::R)∧(Ok (A.reverse++p::c::q::R)→Ok (eC (p::A) (c::q::R)))∧(eC (p::A) (c::q::R)).length≤A.length+(p::c::q::R).length∧(A.reverse++p::c::q::R≠[]→eC (p::A) (c::q::R)≠[]):=by
    refine ⟨skip.1,skip.2.1,skip.2.2.1,skip.2.2.2.1,?_,skip.2.2.2.2.2⟩
    have:=skip.2.2.2.2.1
    simp at this ⊢;omega
   split
   ·rename_i h
    obtain ⟨hp,hq⟩:=h
    have hm:=qL p.2 c.2 q.2
    generalize iN p.2 c.2 q.2=t at *
    have ho:=hm.out
    have hall:=hm.all
    have hlen:=hm.len
    simp only
    have key:∀(A' R':List Rp),R'.length < k→A'.length+R'.length≤A.length+(p::c::q::R).length→A'.reverse++R'≠[]→
      (bQ (A'.reverse++R')=bQ A.reverse++(t.1++(if c.1=1 then [] else t.2.1)++t.2.2)++bQ R)→(bP (A'.reverse++R')=bP A.reverse++(t.1++(if c.1= -1 then [] else t.2.1)++t.2.2)++bP R)→
      fC (A'.reverse++R')=fC A.reverse++((if c.1=0 then [] else [(c.1,t.2.1.length)])++fC R)→(Ok A→OkR (p.1,t.1)→OkR (c.1,t.2.1)→OkR (q.1,t.2.2)→Ok R→Ok (A'.reverse++R'))→
      bQ (eC A' R')=bQ (A.reverse++p::c::q::R)∧bP (eC A' R')=bP (A.reverse++p::c::q::R)∧fC (eC A' R')=fC (A.reverse++p::c::q::R)∧(Ok (A.reverse++p::c::q::R)→Ok (eC A' R'))∧(eC A' R').length≤A.length+(p::c::q::R).length∧(A.reverse++p::c::q::R≠[]→eC A' R'≠[]):=by
     intro A' R' h1 h2 h3 h4 h5 h6 h7
     obtain ⟨i1,i2,i3,i4,i5,i6⟩:=ih R'.length h1 A' R' rfl
     refine ⟨?_,?_,?_,?_,by omega,fun _=>i6 h3⟩
     ·rw [i1,h4,bI]
      simp only [bQ,hp,hq,if_neg (show ¬(0:Int)=1 by decide)]
      by_cases hc:c.1=1
      ·simp only [hc,if_true,List.append_nil,List.nil_append]
       rw [ho];simp
      ·simp only [hc,if_false]
       rw [hall];simp
     ·rw [i2,h5,bH]
      simp only [bP,hp,hq,if_neg (show ¬(0:Int)= -1 by decide)]
      by_cases hc:c.1= -1
      ·simp only [hc,if_true,List.append_nil,List.nil_append]
       rw [ho];simp
      ·simp only [hc,if_false]
       rw [hall];simp
     ·rw [i3,h6,jI]
      simp only [fC,hp,hq,if_true,hlen]
      split <;> rfl
     ·intro hok
      have o1:=Ok.of_append hok
      have o2:=o1.2.of_cons
      have o3:=o2.2.of_cons
      have o4:=o3.2.of_cons
      have hv:=hm.val o2.1.2 o3.1.2 o4.1.2
      exact i4 (h7 (by have:=o1.1.reverse;rwa [List.reverse_reverse] at this) ⟨o2.1.1,hv.1⟩ ⟨o3.1.1,hv.2.1⟩ ⟨o4.1.1,hv.2.2⟩ o4.2)
    split
    ·exact skip'
    ·rename_i hne
     split
     ·rename_i h0
      refine key A _ (by rw [←hk];simp) (by simp) (by simp) ?_ ?_ ?_ (fun a1 a2 a3 a4 a5=>a1.reverse.append (Ok.cons' a3 (Ok.cons' a4 a5)))
      ·simp only [bI,bQ,hq,h0,if_neg (show ¬(0:Int)=1 by decide)];simp
      ·simp only [bH,bP,hq,h0,if_neg (show ¬(0:Int)= -1 by decide)];simp
      ·simp only [jI,fC,hq,if_true];split <;> simp
     ·split
      ·rename_i h0
       refine key A _ (by rw [←hk];simp) (by simp) (by simp) ?_ ?_ ?_ (fun a1 a2 a3 a4 a5=>a1.reverse.append (Ok.cons' a2 (Ok.cons' a3 a5)))
       ·simp only [bI,bQ,hp,h0,if_neg (show ¬(0:Int)=1 by decide)];simp
       ·simp only [bH,bP,hp,h0,if_neg (show ¬(0:Int)= -1 by decide)];simp
       ·simp only [jI,fC,hp,if_true];split <;> simp
      ·refine key _ _ (by rw [←hk];simp) (by simp;omega) (by simp) ?_ ?_ ?_ (fun a1 a2 a3 a4 a5=>(Ok.cons' a2 a1).reverse.append (Ok.cons' a3 (Ok.cons' a4 a5)))
       ·rw [List.reverse_cons,List.append_assoc];simp only [bI,bQ,hp,hq,if_neg (show ¬(0:Int)=1 by decide)];simp
       ·rw [List.reverse_cons,List.append_assoc];simp only [bH,bP,hp,hq,if_neg (show ¬(0:Int)= -1 by decide)];simp
       ·rw [List.reverse_cons,List.append_assoc];simp only [jI,fC,hp,hq,if_true];simp;split <;> simp
   ·exact skip'
theorem RT {x:List Rp}:bQ (iL x)=bQ x∧bP (iL x)=bP x∧fC (iL x)=fC x∧(Ok x→Ok (iL x))∧(iL x).length≤x.length∧(x≠[]→iL x≠[]):=by
 have:=cO9 x.length [] x rfl
 simpa [iL] using this
theorem dY4 (v:BA) (h:128≤(v.get! 0).toNat):128≤(Utf8.decode v 0).1:=by
 rw [Lib.decode_at]
 generalize (v.get! 0).toNat=b0 at *
 unfold Lib.decodeN
 repeat' split
 all_goals simp only
 all_goals omega
theorem bO5 (v:BA) (h:iV (v.get! 0)):Utf8.decode v 0=(65533,1):=by
 unfold iV at h
 rw [Lib.decode_at]
 generalize (v.get! 0).toNat=b0 at *
 unfold Lib.decodeN
 rw [if_neg (by omega),if_neg (by omega),if_neg (by omega),if_neg (by omega)]
theorem cW7 (v:BA) (h:(v.get! 0).toNat < 128):Utf8.decode v 0=((v.get! 0).toNat,1):=VK v 0 _ rfl h
theorem H5 (b:UInt8) (l:List UInt8):(ByteArray.mk (b::l).toArray).get! 0=b:=rfl
theorem eH7 (l:List UInt8) (b:UInt8) (h:128≤b.toNat):128≤(Lib.decodeLastL (l++[b])).1:=by
 have hg:(l++[b]).getD ((l++[b]).length - 1) 0=b:=by simp [List.getD]
 unfold Lib.decodeLastL
 rw [if_neg (by simp),hg,if_neg (by omega)]
 simp only
 split
 ·rename_i he
  generalize Lib.lastStart (l++[b])=s at *
  unfold Lib.decodeL at he ⊢
  cases hd:(l++[b]).drop s with
  | nil=>
   rw [hd] at he
   have:(l++[b]).length≤s:=List.drop_eq_nil_iff.1 hd
   have e0:(Utf8.decode ⟨#[]⟩ 0).2=1:=by decide
   rw [show (ByteArray.mk ([]:List UInt8).toArray)=⟨#[]⟩ from rfl,e0] at he
   omega
  | cons f t=>
   rw [hd] at he
   by_cases hf:f.toNat < 128
   ·rw [cW7 _ (by rw [H5];exact hf)] at he
    have hl:=congrArg List.length hd
    rw [List.length_drop] at hl
    simp only [List.length_cons] at hl
    have ht:t=[]:=List.eq_nil_of_length_eq_zero (by omega)
    subst ht
    have hs:s=l.length:=by simp at he;omega
    subst hs
    rw [List.drop_left] at hd
    cases hd
    omega
   ·exact dY4 _ (by rw [H5];omega)
 ·show 128≤Utf8.runeError;decide
def Alike (a b:Int):Prop:=a=b∨(128≤a∧128≤b)
theorem eD0 {a:Int} (h:128≤a):gZ a=false∧jU a=false∧brk a=false:=by
 refine ⟨?_,?_,?_⟩
 ·unfold gZ;rw [decide_eq_false];omega
 ·unfold jU;rw [decide_eq_false];omega
 ·unfold brk;rw [decide_eq_false];omega
theorem Alike.cls {a b:Int} (h:Alike a b):gZ a=gZ b∧jU a=jU b∧brk a=brk b:=by
 rcases h with rfl | ⟨h1,h2⟩
 ·exact ⟨rfl,rfl,rfl⟩
 ·have k1:=eD0 h1
  have k2:=eD0 h2
  exact ⟨k1.1.trans k2.1.symm,k1.2.1.trans k2.2.1.symm,k1.2.2.trans k2.2.2.symm⟩
theorem yD {e:Bool} {a b a' b':Int} (h:Alike a a') (k:Alike b b'):nL e a b=nL e a' b':=by
 unfold nL
 rw [h.cls.1,h.cls.2.1,h.cls.2.2,k.cls.1,k.cls.2.1,k.cls.2.2]
theorem rV (r:Int) (h:128≤r):∃f t,bl (Utf8.encode r)=f::t∧192≤f.toNat∧t≠[]∧∀b∈t,iV b:=by
 have tn:∀n:Nat,n < 256→(UInt8.ofNat n).toNat=n:=fun n h=>by rw [UInt8.toNat_ofNat'];omega
 have hc:(if Utf8.valid r then r.toNat else Utf8.runeError) < 1114112∧128≤(if Utf8.valid r then r.toNat else Utf8.runeError):=by
  split
  ·rename_i h
   unfold Utf8.valid at h
   simp at h
   omega
  ·decide
 unfold Utf8.encode
 simp only
 generalize (if Utf8.valid r then r.toNat else Utf8.runeError)=n at hc ⊢
 rw [if_neg (by omega)]
 by_cases h2:n < 0x800
 ·rw [if_pos h2]
  refine ⟨UInt8.ofNat (0xC0+n / 64),[UInt8.ofNat (0x80+n % 64)],rfl,by rw [tn _ (by omega)];omega,by simp,?_⟩
  intro b hb
  simp only [List.mem_cons,List.not_mem_nil,or_false] at hb
  subst hb
  unfold iV;rw [tn _ (by omega)];omega
 ·rw [if_neg h2]
  by_cases h3:n < 0x10000
  ·rw [if_pos h3]
   refine ⟨UInt8.ofNat (0xE0+n / 4096),[UInt8.ofNat (0x80+n / 64 % 64),UInt8.ofNat (0x80+n % 64)],rfl,by rw [tn _ (by omega)];omega,by simp,?_⟩
   intro b hb
   simp only [List.mem_cons,List.not_mem_nil,or_false] at hb
   rcases hb with rfl | rfl <;> (unfold iV;rw [tn _ (by omega)];omega)
  ·rw [if_neg h3]
   refine ⟨UInt8.ofNat (0xF0+n / 262144),[UInt8.ofNat (0x80+n / 4096 % 64),UInt8.ofNat (0x80+n / 64 % 64),UInt8.ofNat (0x80+n % 64)],rfl,by rw [tn _ (by omega)];omega,by simp,?_⟩
   intro b hb
   simp only [List.mem_cons,List.not_mem_nil,or_false] at hb
   rcases hb with rfl | rfl | rfl <;> (unfold iV;rw [tn _ (by omega)];omega)
theorem jO (z:BA):aF z=(bl z).map fun b=>(b.toNat:Int):=rfl
theorem lJ {x:List Int}:aF (enc x)=[]↔x=[]:=by
 rw [←List.length_eq_zero_iff,aN,enc_size_zero]
theorem aC4 {b:Int} (hb:Utf8.valid b=true) (y:List Int):∃f t,aF (enc (b::y))=f::t∧Alike f b:=by
 have h0:=fY hb
 rw [jO,cZ]
 by_cases h:b < 128
 ·have e:=pZ (b:=b) ⟨h0.1,h⟩
  rw [jO] at e
  rw [List.map_append,e]
  exact ⟨b,_,rfl,.inl rfl⟩
 ·obtain ⟨f,t,e,hf,_,_⟩:=rV b (by omega)
  rw [e]
  exact ⟨(f.toNat:Int),_,rfl,.inr ⟨by omega,by omega⟩⟩
theorem aD8 {a:Int} (ha:Utf8.valid a=true) (u:List Int):∃t l,aF (enc (u++[a]))=t++[l]∧Alike l a:=by
 have h0:=fY ha
 rw [aX,bL]
 have e0:aF (enc [a])=aF (Utf8.encode a):=by
  rw [jO,cZ,oB];simp [jO,bl]
 rw [e0]
 by_cases h:a < 128
 ·rw [pZ (b:=a) ⟨h0.1,h⟩]
  exact ⟨_,a,rfl,.inl rfl⟩
 ·obtain ⟨f,t,e,hf,ht,hi⟩:=rV a (by omega)
  rw [jO (Utf8.encode a),e]
  rcases List.eq_nil_or_concat t with g | ⟨t',l,g⟩
  ·exact absurd g ht
  ·rw [List.concat_eq_append] at g
   subst g
   have:=hi l (by simp)
   unfold iV at this
   refine ⟨aF (enc u)++(f::t').map fun b=>(b.toNat:Int),(l.toNat:Int),by simp,.inr ⟨by omega,by omega⟩⟩
theorem BE {y x:List Int} (hy:Asc y) (hx:Valids x):y <:+aF (enc x)↔y <:+x:=by
 constructor
 ·rintro ⟨t,ht⟩
  have h1:∀b∈t,0≤b∧b < 256:=fun b hb=>vL (z:=enc x) b (by rw [←ht];simp [hb])
  have h2:enc x=strOfNums t++enc y:=by
   apply cR
   rw [bL,kP h1,jZ hy,ht]
  obtain ⟨c,hc,_⟩:=zB hx hy.valids h2
  exact ⟨c,hc.symm⟩
 ·rintro ⟨c,rfl⟩
  rw [aX,bL,jZ hy]
  exact ⟨_,rfl⟩
theorem asc_nn:Asc [10,10]:=by intro b hb;simp at hb;omega
theorem asc_nrn:Asc [10,13,10]:=by intro b hb;simp at hb;omega
theorem zG {x:List Int} (hx:Valids x):nD (aF (enc x))=nD x:=by
 unfold nD
 simp only [BE asc_nn hx,BE asc_nrn hx]
theorem jB {x y:List Int} (hx:Valids x) (hy:Valids y):cW (aF (enc x)) (aF (enc y))=cW x y:=by
 unfold cW
 rw [zG hx,zG hy]
 by_cases h:x=[]∨y=[]
 ·rw [if_pos h,if_pos (by rw [lJ,lJ];exact h)]
 ·rw [if_neg h,if_neg (by rw [lJ,lJ];exact h)]
  rcases List.eq_nil_or_concat x with g | ⟨u,a,g⟩
  ·exact absurd (.inl g) h
  ·rw [List.concat_eq_append] at g
   match y,h with
   | [],h=>exact absurd (.inr rfl) h
   | b::y,_=>
    obtain ⟨t,l,e1,h1⟩:=aD8 (a:=a) (hx a (by rw [g];simp)) u
    obtain ⟨f,t',e2,h2⟩:=aC4 (b:=b) (hy b (by simp)) y
    have k1:(aF (enc x)).getLastD 0=l:=by rw [g,e1];simp
    have k2:(aF (enc (b::y))).headD 0=f:=by rw [e2];rfl
    have k3:x.getLastD 0=a:=by rw [g];simp
    rw [k1,k2,k3,show (b::y).headD 0=b from rfl,h1.cls.2.2,h2.cls.2.2]
    exact yD h1 h2
theorem aO7 {x y:List Int} (hx:x≠[]) (hy:y≠[]) (h1:128≤x.getLastD 0) (h2:128≤y.headD 0):cW x y=1:=by
 unfold cW
 rw [if_neg (by rintro (h | h) <;> contradiction),(eD0 h1).2.2,(eD0 h2).2.2]
 exact aC7 h1 h2
theorem bR1 {x y:List Int} (h1:128≤x.getLastD 0):1≤cW x y:=by
 unfold cW
 split
 ·omega
 ·exact R0 (fun _=>by omega) h1
theorem Q7 (n:Nat) (c:Int):cS4 n c=some (!gZ c,()):=by
 dsimp only [cS4,aU0,gZ]
 by_cases h1:97≤c <;> by_cases h2:c≤122 <;> by_cases h3:65≤c <;> by_cases h4:c≤90 <;> by_cases h5:48≤c <;> by_cases h6:c≤57 <;> first | omega | (simp [h1,h2,h3,h4,h5,h6];done) | (simp [h1,h2,h3,h4,h5,h6];omega)
theorem dK7 (n:Nat) (c:Int):dQ7 n c=some (jU c,()):=by
 dsimp only [dQ7,aO1,jU]
 have e:∀k:Int,¬c=k→(c==k)=false:=fun k h=>beq_false_of_ne h
 by_cases h1:c=32
 ·subst h1;rfl
 by_cases h2:c=9
 ·subst h2;rfl
 by_cases h3:c=10
 ·subst h3;rfl
 by_cases h4:c=13
 ·subst h4;rfl
 by_cases h5:c=12
 ·subst h5;rfl
 simp [e _ h1,e _ h2,e _ h3,e _ h4,e _ h5,h1,h2,h3,h4,h5]
theorem eW0 (n:Nat) (c:Int):cU3 n c=some (brk c,()):=by
 dsimp only [cU3,aS9,brk]
 have e:∀k:Int,¬c=k→(c==k)=false:=fun k h=>beq_false_of_ne h
 by_cases h3:c=10
 ·subst h3;rfl
 by_cases h4:c=13
 ·subst h4;rfl
 simp [e _ h3,e _ h4,h3,h4]
theorem OK {c:Int} (h:brk c=true):jU c=true:=by
 unfold brk at h;unfold jU;simp at h ⊢;omega
theorem AX {c:Int} (h:jU c=true):gZ c=false:=by
 unfold jU at h;unfold gZ;simp at h ⊢;omega
theorem IJ {X:BA} {y:List Int} (hy:Asc y):(∃u,X=u++enc y)↔y <:+aF X:=by
 constructor
 ·rintro ⟨u,rfl⟩
  rw [bL,jZ hy]
  exact ⟨_,rfl⟩
 ·rintro ⟨t,ht⟩
  have h1:∀b∈t,0≤b∧b < 256:=fun b hb=>vL (z:=X) b (by rw [←ht];simp [hb])
  refine ⟨strOfNums t,?_⟩
  apply cR
  rw [bL,kP h1,jZ hy,ht]
theorem bE3:enc [10,10]=(⟨#[10,10]⟩:BA):=by rw [←asc_nn.eq];rfl
theorem PA:enc [10,13,10]=(⟨#[10,13,10]⟩:BA):=by rw [←asc_nrn.eq];rfl
theorem pM (n:Nat) (X:BA) (hl:X.size≤1000000000000):dE3 n X=some (nD (aF X),()):=by
 dsimp only [dE3,w7]
 rw [←bE3,←PA,oT n _ _ hl (by rw [bE3];decide),oT n _ _ hl (by rw [PA];decide)]
 unfold nD
 have e1:(∃u,X=u++enc [10,10])↔[10,10] <:+aF X:=IJ asc_nn
 have e2:(∃u,X=u++enc [10,13,10])↔[10,13,10] <:+aF X:=IJ asc_nrn
 by_cases h:[10,10] <:+aF X <;> by_cases h2:[10,13,10] <:+aF X <;> simp [h,h2,e1,e2]
theorem dG3 (n:Nat) {X:BA} {t:List Int} {l:Int} (hX:aF X=t++[l]) (hs:X.size≤1000000000000):∃r k,eF6 n X=some (r,(k,()))∧Alike r l:=by
 unfold eF6
 rw [if_pos (by omega)]
 refine ⟨_,_,rfl,?_⟩
 rw [jO] at hX
 obtain ⟨u,v,e,h1,h2⟩:=List.map_eq_append_iff.1 hX
 obtain ⟨b,r,e2,h3,h4⟩:=List.map_eq_cons_iff.1 h2
 have hr:r=[]:=List.map_eq_nil_iff.1 h4
 subst hr
 subst e2
 unfold bl at e
 rw [e]
 by_cases hb:b.toNat < 128
 ·rw [Lib.decodeLastL_ascii u b hb];exact .inl h3
 ·have:=eH7 u b (by omega)
  exact .inr ⟨by omega,by omega⟩
theorem Q5 {Y:BA} {b:UInt8} {r:List UInt8} (h:bl Y=b::r):Y.get! 0=b:=by
 obtain ⟨⟨l⟩⟩:=Y
 unfold bl at h
 simp only at h
 subst h
 rfl
theorem dX1 (n:Nat) {Y:BA} {t:List Int} {f:Int} (hY:aF Y=f::t):∃r k,bY5 n Y=some (r,(k,()))∧Alike r f:=by
 unfold bY5 Lib.decodeGo
 have hs:Y.size≠0:=by rw [←aN,hY];simp
 rw [if_neg hs]
 refine ⟨_,_,rfl,?_⟩
 rw [jO] at hY
 obtain ⟨b,r,e2,h3,h4⟩:=List.map_eq_cons_iff.1 hY
 have hg:=Q5 e2
 by_cases hb:b.toNat < 128
 ·rw [cW7 Y (by rw [hg];exact hb),hg];exact .inl h3
 ·have:=dY4 Y (by rw [hg];omega)
  exact .inr ⟨by omega,by omega⟩
theorem tO (n:Nat) (X Y:BA) (hl:X.size≤1000000000000) (hl2:Y.size≤1000000000000):n7 n X Y=some (cW (aF X) (aF Y),()):=by
 dsimp only [n7,WZ,U9,d9,s9,aA7,aS4,aP6,e9]
 have lx:=aN X
 have ly:=aN Y
 rcases List.eq_nil_or_concat (aF X) with g | ⟨u,a,g⟩
 ·rw [g] at lx
  rw [biT (by rw [beq_iff_eq];simp only [List.length_nil] at lx;omega)]
  simp [cW,g]
 ·rw [List.concat_eq_append] at g
  cases gy:aF Y with
  | nil=>
   rw [gy] at ly
   rw [g] at lx
   simp only [List.length_append,List.length_cons,List.length_nil] at lx ly
   rw [biF (by rw [beq_eq_false_iff_ne];omega),biT (by rw [beq_iff_eq];omega)]
   simp [cW]
  | cons b v=>
   rw [gy] at ly
   rw [g] at lx
   simp only [List.length_append,List.length_cons,List.length_nil] at lx ly
   rw [biF (by rw [beq_eq_false_iff_ne];omega),biF (by rw [beq_eq_false_iff_ne];omega)]
   obtain ⟨r1,k1,d1,h1⟩:=dG3 n g hl
   obtain ⟨r2,k2,d2,h2⟩:=dX1 n gy
   rw [d1,d2]
   have e5:cW (u++[a]) (b::v)=nL ((brk r1&&nD (aF X))||(brk r2&&nD (aF Y))) r1 r2:=by
    have c1:(u++[a]).getLastD 0=a:=by simp
    unfold cW
    rw [if_neg (by simp),c1,show (b::v).headD 0=b from rfl,h1.cls.2.2,h2.cls.2.2,g,gy]
    exact (yD h1 h2).symm
   rw [g,e5]
   simp only [Option.bind_some,Q7,dK7,eW0,pM n X hl,pM n Y hl2]
   unfold nL
   have c1:=@OK r1
   have c2:=@OK r2
   have c3:=@AX r1
   have c4:=@AX r2
   cases h1:gZ r1 <;> cases h2:jU r1 <;> cases h3:brk r1 <;> cases h5:gZ r2 <;> cases h6:jU r2 <;> cases h7:brk r2 <;> first | rfl | (cases hX:nD (aF X) <;> cases hY:nD (aF Y) <;> first | rfl | simp_all)
theorem mO (x y:List Int):0≤cW x y∧cW x y≤6:=by
 unfold cW nL
 repeat' split
 all_goals omega
theorem baa (x y z:BA):x++y++z=x++(y++z):=ByteArray.append_assoc
theorem cW4 (n:Nat) (v:BA):bY5 n v=some (((Lib.decodeGo v).1:Int),(((Lib.decodeGo v).2:Int),())):=rfl
section
variable {β:Type} (n:Nat) (kx2:(Int×Int×Int×Nat×Int×Int×Nat)→List (Int×BA)→Int→BA→BA→BA→Option β)
theorem PF (m:Nat) (p0) (x1:List (Int×BA)) (v5:Int) (A S B e X Y Z:BA) (best:Int) (he:(Lib.decodeGo (e++S)).2=e.size) (h1:1≤e.size) (hA:A.size≤100000000000) (hS:(e++S).size≤100000000000) (hB:(e++B).size≤100000000000):
  g141_7L n kx2 (m+1) p0 x1 v5 A (e++S) (e++B) X Y Z best=
   if best≤cW (aF (A++e)) (aF (S++e))+cW (aF (S++e)) (aF B) then g141_7L n kx2 m p0 x1 v5 (A++e) (S++e) B (A++e) (S++e) B (cW (aF (A++e)) (aF (S++e))+cW (aF (S++e)) (aF B))
   else g141_7L n kx2 m p0 x1 v5 (A++e) (S++e) B X Y Z best:=by
 have s1:=size_append e S
 have s2:=size_append e B
 have s3:=size_append A e
 have s4:=size_append S e
 have r1:=mO (aF (A++e)) (aF (S++e))
 have r2:=mO (aF (S++e)) (aF B)
 have c1:bD (e++S) 0 (e.size:Int)=e:=cV e S
 have c2:bD (e++B) 0 (e.size:Int)=e:=cV e B
 have c3:bD (e++S) (e.size:Int) ((e++S).size:Int)=S:=dO e S
 have c4:bD (e++B) (e.size:Int) ((e++B).size:Int)=B:=dO e B
 rw [g141_7L.eq_2,PI]
 rw [biT (by rw [bne_iff_ne];omega),biT (by rw [bne_iff_ne];omega),cW4,Option.bind_some]
 simp only [he,c1,c2,c3,c4]
 rw [bdF (by omega),bF (by omega) (by omega) (by omega),bF (by omega) (by omega) (by omega),biF (by rw [dE];simp),bF (by omega) (by omega) (by omega),cA (by omega),bF (by omega) (by omega) (by omega),bF (by omega) (by omega) (by omega),cA (by omega),bF (by omega) (by omega) (by omega)]
 rw [tO n _ _ (by omega) (by omega),Option.bind_some,tO n _ _ (by omega) (by omega),Option.bind_some]
 simp only
 rw [aG (by omega) (by omega)]
 split
 ·rename_i h;rw [bdT h]
 ·rename_i h;rw [bdF h]
theorem CL (m:Nat) (p0) (x1:List (Int×BA)) (v5:Int) (A S B X Y Z:BA) (best:Int) (h:S.size=0∨B.size=0∨((Lib.decodeGo S).2≤S.size∧(B.size < (Lib.decodeGo S).2∨bD S 0 ((Lib.decodeGo S).2:Int)≠bD B 0 ((Lib.decodeGo S).2:Int)))):
  g141_7L n kx2 (m+1) p0 x1 v5 A S B X Y Z best=kx2 p0 x1 v5 X Y Z:=by
 rw [g141_7L.eq_2,PI]
 by_cases h1:S.size=0
 ·rw [biF (by rw [bne_eq_false_iff_eq];omega)]
 ·rw [biT (by rw [bne_iff_ne];omega)]
  by_cases h2:B.size=0
  ·rw [biF (by rw [bne_eq_false_iff_eq];omega)]
  ·rw [biT (by rw [bne_iff_ne];omega),cW4,Option.bind_some]
   simp only
   obtain ⟨hw,h⟩:=(h.resolve_left h1).resolve_left h2
   by_cases h3:B.size < (Lib.decodeGo S).2
   ·rw [bdT (by omega)]
   ·rw [bdF (by omega),bF (by omega) (by omega) (by omega),bF (by omega) (by omega) (by omega),biT (by rw [dE];simp;exact h.resolve_left h3)]
theorem eC3 (p0) (x1:List (Int×BA)) (v5:Int):∀(k:Nat) (a s b:List Int) (X:Tri) (best:Int) (m:Nat),b.length=k→k < m→Valids a→Valids s→Valids b→(enc a).size+(enc s).size+(enc b).size≤100000000000→
  g141_7L n kx2 m p0 x1 v5 (enc a) (enc s) (enc b) (enc X.1) (enc X.2.1) (enc X.2.2) best=kx2 p0 x1 v5 (enc (oC a s b X best).1) (enc (oC a s b X best).2.1) (enc (oC a s b X best).2.2):=by
 intro k
 induction k with
 | zero=>
  intro a s b X best m hb hm _ _ _ _
  obtain ⟨m,rfl⟩:∃m',m=m'+1:=⟨m - 1,by omega⟩
  have:=List.eq_nil_of_length_eq_zero hb
  subst this
  rw [CL n kx2 m p0 x1 v5 _ _ _ _ _ _ best (.inr (.inl rfl))]
  cases s <;> simp only [oC]
 | succ k ih=>
  intro a s b X best m hb hm va vs vb hsz
  obtain ⟨m,rfl⟩:∃m',m=m'+1:=⟨m - 1,by omega⟩
  match s,b,hb,vs,vb,hsz with
  | [],d::b,hb,vs,vb,hsz=>
   rw [CL n kx2 m p0 x1 v5 _ _ _ _ _ _ best (.inl rfl)]
   simp only [oC]
  | c::s,d::b,hb,vs,vb,hsz=>
   have hc:=vs.cons.1
   have hd:=vb.cons.1
   have dc:=jR c s ByteArray.empty hc
   rw [ByteArray.append_empty] at dc
   have e1:enc (c::s)=enc [c]++enc s:=aX [c] s
   have e2:enc (d::b)=enc [d]++enc b:=aX [d] b
   have ec:(enc [c]).size=(Utf8.encode c).size:=by rw [eG];rfl
   have pc:=lH c
   have hgo:Lib.decodeGo (enc (c::s))=(c.toNat,(Utf8.encode c).size):=by
    unfold Lib.decodeGo
    rw [if_neg (by rw [eG];omega),dc]
   have z1:=eG c s
   have z2:=eG d b
   by_cases hcd:c=d
   ·subst hcd
    have q1:enc a++enc [c]=enc (a++[c]):=(aX a [c]).symm
    have q2:enc s++enc [c]=enc (s++[c]):=(aX s [c]).symm
    have wa:Valids (a++[c]):=va.append fun x hx=>by rw [List.mem_singleton.1 hx];exact hc
    have ws:Valids (s++[c]):=vs.cons.2.append fun x hx=>by rw [List.mem_singleton.1 hx];exact hc
    have y1:=cD a [c]
    have y2:=cD s [c]
    rw [e1,e2,PF n kx2 m p0 x1 v5 _ _ _ _ _ _ _ best (by rw [←e1,hgo,ec]) (by omega) (by omega) (by rw [←e1];omega) (by rw [←e2];omega),q1,q2,jB wa ws,jB ws vb.cons.2]
    rw [oC,if_pos rfl]
    split
    ·exact ih (a++[c]) (s++[c]) b (a++[c],s++[c],b) _ m (by simpa using hb) (by omega) wa ws vb.cons.2 (by omega)
    ·exact ih (a++[c]) (s++[c]) b X best m (by simpa using hb) (by omega) wa ws vb.cons.2 (by omega)
   ·rw [oC,if_neg hcd,CL n kx2 m p0 x1 v5 _ _ _ _ _ _ best]
    right;right
    rw [hgo]
    refine ⟨by show (Utf8.encode c).size≤_;omega,?_⟩
    by_cases hlt:(enc (d::b)).size < (Utf8.encode c).size
    ·exact .inl hlt
    ·right
     intro heq
     have k1:bD (enc (c::s)) 0 ((Utf8.encode c).size:Int)=enc [c]:=by rw [e1,←ec];exact cV _ _
     rw [k1] at heq
     have k2:enc (d::b)=enc [c]++bD (enc (d::b)) ((Utf8.encode c).size:Int) ((enc (d::b)).size:Int):=by
      rw [heq]
      apply cR
      rw [bL,bT,bT,cP,eQ _ _ _ (by rw [aN];omega),List.take_append_drop]
     have dd:=jR d b ByteArray.empty hd
     rw [ByteArray.append_empty,k2] at dd
     have dc2:=jR c [] (bD (enc (d::b)) ((Utf8.encode c).size:Int) ((enc (d::b)).size:Int)) hc
     rw [dd] at dc2
     have:=congrArg Prod.fst dc2
     have h1:=fY hc
     have h2:=fY hd
     simp only at this
     omega
end
def LastHi (X:BA):Prop:=∃t l,aF X=t++[l]∧128≤l
def FirstHi (X:BA):Prop:=∃t l,aF X=l::t∧128≤l
theorem LastHi.append {X:BA} (Y:BA) (h:LastHi X):LastHi (Y++X):=by
 obtain ⟨t,l,e,hl⟩:=h
 exact ⟨aF Y++t,l,by rw [bL,e,List.append_assoc],hl⟩
theorem FirstHi.append {X:BA} (Y:BA) (h:FirstHi X):FirstHi (X++Y):=by
 obtain ⟨t,l,e,hl⟩:=h
 exact ⟨t++aF Y,l,by rw [bL,e];rfl,hl⟩
theorem uN {X Y:BA} (h:LastHi X) (k:FirstHi Y):cW (aF X) (aF Y)=1:=by
 obtain ⟨t,l,e,hl⟩:=h
 obtain ⟨t',f,e',hf⟩:=k
 rw [e,e']
 exact aO7 (by simp) (by simp) (by simpa using hl) (by simpa using hf)
theorem OC {X Y:BA} (h:LastHi X):1≤cW (aF X) (aF Y):=by
 obtain ⟨t,l,e,hl⟩:=h
 rw [e]
 exact bR1 (by simpa using hl)
def mkB (l:List UInt8):BA:=⟨l.toArray⟩
theorem cU9 (b:UInt8) (l:List UInt8):mkB (b::l)=mkB [b]++mkB l:=by
 apply lZ;simp [mkB,ByteArray.data_append]
theorem NL (l:List UInt8):aF (mkB l)=l.map fun b=>(b.toNat:Int):=rfl
theorem pL (l:List UInt8):(mkB l).size=l.length:=by rw [←aN,NL,List.length_map]
section
variable {β:Type} (n:Nat) (kx2:(Int×Int×Int×Nat×Int×Int×Nat)→List (Int×BA)→Int→BA→BA→BA→Option β)
theorem B3 (m:Nat) (p0) (x1:List (Int×BA)) (v5:Int):∀(l:List UInt8) (A S B X Y Z:BA),l≠[]→(∀b∈l,iV b)→LastHi A→LastHi S→A.size+2 * (mkB l).size+S.size+B.size≤10000000000→
  g141_7L n kx2 (l.length+m) p0 x1 v5 A (mkB l++S) (mkB l++B) X Y Z 2=g141_7L n kx2 m p0 x1 v5 (A++mkB l) (S++mkB l) B (A++mkB l) (S++mkB l) B (cW (aF (A++mkB l)) (aF (S++mkB l))+cW (aF (S++mkB l)) (aF B))
 | [],A,S,B,X,Y,Z,h,_,_,_,_=>absurd rfl h
 | b::l,A,S,B,X,Y,Z,_,hi,hA,hS,hsz=>by
  have hb:=hi b (by simp)
  have hbl:LastHi (mkB [b]):=⟨[],(b.toNat:Int),rfl,by unfold iV at hb;omega⟩
  have hgo:(Lib.decodeGo (mkB [b]++(mkB l++S))).2=(mkB [b]).size:=by
   unfold Lib.decodeGo
   have hne:(mkB [b]++(mkB l++S)).size≠0:=by rw [size_append,pL];simp
   have hg:(mkB [b]++(mkB l++S)).get! 0=b:=by
    have:bl (mkB [b]++(mkB l++S))=b::bl (mkB l++S):=by rw [dB];rfl
    exact Q5 this
   rw [if_neg hne,bO5 _ (by rw [hg];exact hb)]
   rfl
  have s1:=pL (b::l)
  have s2:=pL l
  have s3:(mkB [b]).size=1:=rfl
  have s4:=size_append (mkB l) S
  have s5:=size_append (mkB l) B
  have s6:=size_append (mkB [b]) (mkB l++S)
  have s7:=size_append (mkB [b]) (mkB l++B)
  simp only [List.length_cons] at s1 ⊢
  rw [cU9 b l,baa,baa,show l.length+1+m=(l.length+m)+1 by omega,PF n kx2 (l.length+m) p0 x1 v5 A (mkB l++S) (mkB l++B) (mkB [b]) X Y Z 2 hgo (by omega) (by omega) (by omega) (by omega)]
  have k1:LastHi (A++mkB [b]):=hbl.append A
  have k2:LastHi (S++mkB [b]):=hbl.append S
  by_cases hl:l=[]
  ·subst hl
   have z:mkB []=(⟨#[]⟩:BA):=rfl
   have e1:∀Q:BA,mkB []++Q=Q:=fun Q=>by apply lZ;rw [z,ByteArray.data_append];simp
   have e2:∀Q:BA,Q++mkB []=Q:=fun Q=>by apply lZ;rw [z,ByteArray.data_append];simp
   simp only [e1,e2]
   have g1:=OC (Y:=S++mkB [b]) k1
   have g2:=OC (Y:=B) k2
   rw [if_pos (by omega)]
   simp
  ·obtain ⟨c,l',e⟩:=List.exists_cons_of_ne_nil hl
   have hc:FirstHi (mkB l):=by
    subst e
    have:=hi c (by simp)
    unfold iV at this
    exact ⟨l'.map fun b=>(b.toNat:Int),(c.toNat:Int),rfl,by omega⟩
   have g1:cW (aF (A++mkB [b])) (aF (mkB l++S++mkB [b]))=1:=uN k1 ((hc.append S).append _)
   have g2:cW (aF (mkB l++S++mkB [b])) (aF (mkB l++B))=1:=uN (hbl.append _) (hc.append B)
   rw [g1,g2,if_pos (by omega)]
   have:=B3 m p0 x1 v5 l (A++mkB [b]) (S++mkB [b]) B (A++mkB [b]) (mkB l++S++mkB [b]) (mkB l++B) hl (fun b hb=>hi b (by simp [hb])) k1 k2 (by rw [size_append,size_append];omega)
   rw [baa (mkB l) S (mkB [b]),show (1:Int)+1=2 from rfl]
   rw [baa (mkB l) S (mkB [b])] at this
   rw [this,baa A,baa S]
end
theorem uX (q:List Int):∀(r:List Int) (k:Nat),k≤(enc r.reverse).size→eR (r++q) k=eR r k
 | [],k,h=>by
  have hk:k=0:=by have:(enc []).size=0:=rfl;simp at h;omega
  subst hk
  cases q with
  | nil=>rfl
  | cons c q=>have:=lH c;simp only [List.nil_append];rw [show eR [] 0=0 from rfl,eR,if_neg (by omega)]
 | c::r,k,h=>by
  rw [List.reverse_cons,cD,eG] at h
  have h0:(enc []).size=0:=rfl
  rw [List.cons_append,eR,eR]
  split
  ·rw [uX q r _ (by omega)]
  ·rfl
theorem LE:∀(r:List Int) (k:Nat),Valids r→k≤(enc r.reverse).size→∃(l:List UInt8) (U:BA),enc r.reverse=U++(mkB l++enc (r.reverse.drop (r.length - eR r k)))∧(mkB l++enc (r.reverse.drop (r.length - eR r k))).size=k∧(∀b∈l,iV b)∧
      U++mkB l=enc (r.reverse.take (r.length - eR r k))∧(l≠[]→LastHi U)
  | [],k,_,h=>by
    have hk:k=0:=by have:(enc []).size=0:=rfl;simp at h;omega
    subst hk
    exact ⟨[],enc [],rfl,rfl,by simp,rfl,by simp⟩
  | c::r,k,hv,h=>by
    have hr:=hv.cons.2
    have h0:(enc []).size=0:=rfl
    have e1:enc (c::r).reverse=enc r.reverse++enc [c]:=by rw [List.reverse_cons,aX]
    have ec:(enc [c]).size=(Utf8.encode c).size:=by rw [eG];rfl
    rw [eR]
    by_cases hk:(Utf8.encode c).size≤k
    · rw [if_pos hk]
      have h':k - (Utf8.encode c).size≤(enc r.reverse).size:=by rw [e1,size_append] at h;omega
      obtain ⟨l,U,q1,q2,q3,q4,q5⟩:=LE r _ hr h'
      have hj:=CA r (k - (Utf8.encode c).size)
      generalize eR r (k - (Utf8.encode c).size)=j at *
      have e2:(c::r).length - (1+j)=r.length - j:=by simp only [List.length_cons];omega
      have e3:(c::r).reverse.drop ((c::r).length - (1+j))=r.reverse.drop (r.length - j)++[c]:=by
        rw [e2,List.reverse_cons,List.drop_append_of_le_length (by simp)]
      have e4:(c::r).reverse.take ((c::r).length - (1+j))=r.reverse.take (r.length - j):=by
        rw [e2,List.reverse_cons,List.take_append_of_le_length (by simp)]
      refine ⟨l,U,?_,?_,q3,?_,q5⟩
      · rw [e3,e1,aX,q1];simp only [baa]
      · rw [e3,aX,←baa,size_append,q2,ec];omega
      · rw [e4];exact q4
    · rw [if_neg hk]
      simp only [Nat.sub_zero]
      have e3:(c::r).reverse.drop (c::r).length=[]:=List.drop_of_length_le (by simp)
      have e4:(c::r).reverse.take (c::r).length=(c::r).reverse:=List.take_of_length_le (by simp)
      rw [e3,e4,e1]
      have en:∀Q:BA,Q++enc []=Q:=fun Q=>by apply lZ;rw [oB,ByteArray.data_append];simp
      simp only [en]
      by_cases hk0:k=0
      · subst hk0
        have z:mkB []=(⟨#[]⟩:BA):=rfl
        have e0:∀Q:BA,Q++mkB []=Q:=fun Q=>by apply lZ;rw [z,ByteArray.data_append];simp
        exact ⟨[],enc r.reverse++enc [c],by rw [e0],rfl,by simp,by rw [e0],by simp⟩
      ·
        have hc:128≤c:=by
          by_cases hlt:c < 128
          · exfalso
            have h1:=fY hv.cons.1
            have:=pZ (b:=c) ⟨h1.1,hlt⟩
            have h2:=aN (Utf8.encode c)
            rw [this] at h2
            simp at h2
            omega
          · omega
        obtain ⟨f,t,g1,g2,g3,g4⟩:=rV c hc
        have hsz:(Utf8.encode c).size=t.length+1:=by rw [←lA,g1];rfl
        have hbl:bl (enc [c])=f::t:=by rw [cZ,g1,oB];simp [bl]
        have hsp:enc [c]=mkB (f::t.take (t.length - k))++mkB (t.drop (t.length - k)):=by
          apply jD
          rw [hbl,dB]
          show f::t=(f::t.take (t.length - k))++t.drop (t.length - k)
          rw [List.cons_append,List.take_append_drop]
        refine ⟨t.drop (t.length - k),enc r.reverse++mkB (f::t.take (t.length - k)),?_,?_,fun b hb=>g4 b (List.mem_of_mem_drop hb),?_,fun _=>?_⟩
        · rw [baa,←hsp]
        · rw [pL,List.length_drop];omega
        · rw [baa,←hsp]
        · refine LastHi.append _ ?_
          rcases List.eq_nil_or_concat (t.take (t.length - k)) with g | ⟨u,b,g⟩
          · rw [g];exact ⟨[],(f.toNat:Int),rfl,by omega⟩
          · rw [List.concat_eq_append] at g
            rw [g]
            have hb:=g4 b (List.mem_of_mem_take (by rw [g];simp:b∈t.take (t.length - k)))
            unfold iV at hb
            exact ⟨(f::u).map fun b=>(b.toNat:Int),(b.toNat:Int),by rw [NL];simp,by omega⟩
section
variable {β:Type} (n:Nat) (hn:Big≤n) (kx2:(Int×Int×Int×Nat×Int×Int×Nat)→List (Int×BA)→Int→BA→BA→BA→Option β)
include hn
theorem dN2 (p0) (x1:List (Int×BA)) (v5:Int) (a s b:List Int) (va:Valids a) (vs:Valids s) (vb:Valids b) (hla:a.length≤100000000) (hls:s.length≤100000000) (hlb:b.length≤100000000) (A0 S0 B0:BA) (k:Nat) (hk:k=csl a s)
  (hA:enc a=A0++bD (enc s) (((enc s).size:Int) - (k:Int)) ((enc s).size:Int)) (hS:S0=bD (enc s) (((enc s).size:Int) - (k:Int)) ((enc s).size:Int)++bD (enc s) 0 (((enc s).size:Int) - (k:Int))) (hB:B0=bD (enc s) (((enc s).size:Int) - (k:Int)) ((enc s).size:Int)++enc b):
  QU n (fun p0 x1 v5 v6 v7 v8 v11 v12 v13 v14=>QJ n kx2 p0 x1 v5 v6 v7 v8 v11 v12 v13 v14) p0 x1 v5 A0 S0 B0=kx2 p0 x1 v5 (enc (iN a s b).1) (enc (iN a s b).2.1) (enc (iN a s b).2.2):=by
 have hB':(4611686018427387904:Nat)≤n:=hn
 have l1:=eK a s
 have l2:=dS a s
 have et:=sN a s
 rw [←hk] at l1 l2 et
 have ea:a=a.take (a.length - k)++a.drop (a.length - k):=(List.take_append_drop _ _).symm
 have es:s=s.take (s.length - k)++a.drop (a.length - k):=by rw [et];exact (List.take_append_drop _ _).symm
 have lt:(a.drop (a.length - k)).length=k:=by rw [List.length_drop];omega
 have hst:mB a s b=(a.take (a.length - eR a.reverse k),a.drop (a.length - eR a.reverse k)++s.take (s.length - eR a.reverse k),a.drop (a.length - eR a.reverse k)++b):=by unfold mB;rw [←hk]
 have vt:Valids (a.drop (a.length - k)):=va.drop _
 have va':Valids (a.take (a.length - k)):=va.take _
 have vs':Valids (s.take (s.length - k)):=vs.take _
 have hjt:eR a.reverse k=eR (a.drop (a.length - k)).reverse k:=by
  have:a.reverse=(a.drop (a.length - k)).reverse++(a.take (a.length - k)).reverse:=by rw [←List.reverse_append,List.take_append_drop]
  rw [this]
  refine uX _ _ _ ?_
  rw [List.reverse_reverse]
  have:=gT (a.drop (a.length - k))
  omega
 generalize ht:a.drop (a.length - k)=t at *
 generalize ha':a.take (a.length - k)=a' at *
 generalize hs':s.take (s.length - k)=s' at *
 have la':a'.length+k=a.length:=by rw [ea,List.length_append,lt]
 have ls':s'.length+k=s.length:=by rw [es,List.length_append,lt]
 have hkt:k≤(enc t.reverse.reverse).size:=by rw [List.reverse_reverse];have:=gT t;omega
 obtain ⟨l,U,q1,q2,q3,q4,q5⟩:=LE t.reverse k (fun c hc=>vt c (List.mem_reverse.1 hc)) hkt
 rw [List.reverse_reverse,List.length_reverse] at q1 q2 q4
 rw [←hjt] at q1 q2 q4
 have hj0:=CA t.reverse k
 rw [←hjt,List.length_reverse] at hj0
 generalize eR a.reverse k=j at *
 have c1:a.take (a.length - j)=a'++t.take (t.length - j):=by rw [ea,List.take_append,List.take_of_length_le (by rw [List.length_append];omega)];congr 2;rw [List.length_append];omega
 have c2:a.drop (a.length - j)=t.drop (t.length - j):=by rw [ea,List.drop_append,List.drop_of_length_le (by rw [List.length_append];omega),List.nil_append];congr 1;rw [List.length_append];omega
 have c3:s.take (s.length - j)=s'++t.take (t.length - j):=by rw [es,List.take_append,List.take_of_length_le (by rw [List.length_append];omega)];congr 2;rw [List.length_append];omega
 have hC:bD (enc s) (((enc s).size:Int) - (k:Int)) ((enc s).size:Int)=mkB l++enc (t.drop (t.length - j)):=by
  have e:enc s=(enc s'++U)++(mkB l++enc (t.drop (t.length - j))):=by rw [es,aX,q1];simp only [baa]
  have hz:=size_append (enc s'++U) (mkB l++enc (t.drop (t.length - j)))
  rw [q2] at hz
  rw [e,show (((enc s'++U)++(mkB l++enc (t.drop (t.length - j)))).size:Int) - (k:Int)=((enc s'++U).size:Int) by omega]
  exact dO _ _
 have hC2:bD (enc s) 0 (((enc s).size:Int) - (k:Int))=enc s'++U:=by
  have e:enc s=(enc s'++U)++(mkB l++enc (t.drop (t.length - j))):=by rw [es,aX,q1];simp only [baa]
  have hz:=size_append (enc s'++U) (mkB l++enc (t.drop (t.length - j)))
  rw [q2] at hz
  rw [e,show (((enc s'++U)++(mkB l++enc (t.drop (t.length - j)))).size:Int) - (k:Int)=((enc s'++U).size:Int) by omega]
  exact cV _ _
 have hA0:A0=enc a'++U:=by
  rw [hC] at hA
  have e:enc a=(enc a'++U)++(mkB l++enc (t.drop (t.length - j))):=by rw [ea,aX,q1];simp only [baa]
  rw [e] at hA
  have:=congrArg aF hA
  rw [bL,bL A0] at this
  exact (cR (List.append_cancel_right this)).symm
 rw [hC,hC2] at hS
 rw [hC] at hB
 subst hA0 hS hB
 have e1:=aV a
 have e2:=aV s
 have e3:=aV b
 have e4:(enc a'++U).size+k=(enc a).size:=by
  have e:enc a=(enc a'++U)++(mkB l++enc (t.drop (t.length - j))):=by rw [ea,aX,q1];simp only [baa]
  rw [e,size_append _ (mkB l++_),q2]
 have e5:(enc s'++U).size+k=(enc s).size:=by
  have e:enc s=(enc s'++U)++(mkB l++enc (t.drop (t.length - j))):=by rw [es,aX,q1];simp only [baa]
  rw [e,size_append _ (mkB l++_),q2]
 have e6:=size_append (mkB l) (enc (t.drop (t.length - j)))
 have vA:Valids (a.take (a.length - j)):=va.take _
 have vS:Valids (a.drop (a.length - j)++s.take (s.length - j)):=(va.drop _).append (vs.take _)
 have vB:Valids (a.drop (a.length - j)++b):=(va.drop _).append vb
 have last:∀m,(a.drop (a.length - j)++b).length < m→g141_7L n kx2 m p0 x1 v5 (enc (a.take (a.length - j))) (enc (a.drop (a.length - j)++s.take (s.length - j))) (enc (a.drop (a.length - j)++b)) (enc (a.take (a.length - j))) (enc (a.drop (a.length - j)++s.take (s.length - j))) (enc (a.drop (a.length - j)++b)) (cW (a.take (a.length - j)) (a.drop (a.length - j)++s.take (s.length - j))+cW (a.drop (a.length - j)++s.take (s.length - j)) (a.drop (a.length - j)++b))=kx2 p0 x1 v5 (enc (iN a s b).1) (enc (iN a s b).2.1) (enc (iN a s b).2.2):=by
  intro m hm
  have y1:=aV (a.take (a.length - j))
  have y2:=aV (a.drop (a.length - j)++s.take (s.length - j))
  have y3:=aV (a.drop (a.length - j)++b)
  simp only [List.length_append,List.length_take,List.length_drop] at y1 y2 y3
  have:=eC3 n kx2 p0 x1 v5 _ (a.take (a.length - j)) (a.drop (a.length - j)++s.take (s.length - j)) (a.drop (a.length - j)++b) (a.take (a.length - j),a.drop (a.length - j)++s.take (s.length - j),a.drop (a.length - j)++b) (cW (a.take (a.length - j)) (a.drop (a.length - j)++s.take (s.length - j))+cW (a.drop (a.length - j)++s.take (s.length - j)) (a.drop (a.length - j)++b)) m rfl hm vA vS vB (by omega)
  unfold iN
  rw [hst]
  exact this
 have hlen:(a.drop (a.length - j)++b).length≤200000000:=by simp only [List.length_append,List.length_drop];omega
 have z:mkB []=(⟨#[]⟩:BA):=rfl
 have n1:∀Q:BA,mkB []++Q=Q:=fun Q=>by apply lZ;rw [z,ByteArray.data_append];simp
 have n2:∀Q:BA,Q++mkB []=Q:=fun Q=>by apply lZ;rw [z,ByteArray.data_append];simp
 have g1:enc a'++U++mkB l=enc (a.take (a.length - j)):=by rw [baa,q4,←aX,c1]
 have g2:enc (t.drop (t.length - j))++(enc s'++U)++mkB l=enc (a.drop (a.length - j)++s.take (s.length - j)):=by rw [baa,baa,q4,c2,c3,aX,aX]
 have g3:enc (t.drop (t.length - j))++enc b=enc (a.drop (a.length - j)++b):=by rw [c2,aX]
 unfold QU
 have w1:=size_append (mkB l++enc (t.drop (t.length - j))) (enc s'++U)
 have w2:=size_append (mkB l++enc (t.drop (t.length - j))) (enc b)
 rw [tO n _ _ (by omega) (by omega),Option.bind_some,tO n _ _ (by omega) (by omega),Option.bind_some]
 have r1:=mO (aF (enc a'++U)) (aF (mkB l++enc (t.drop (t.length - j))++(enc s'++U)))
 have r2:=mO (aF (mkB l++enc (t.drop (t.length - j))++(enc s'++U))) (aF (mkB l++enc (t.drop (t.length - j))++enc b))
 simp only
 rw [aG (by omega) (by omega)]
 unfold QJ Y3
 by_cases hl:l=[]
 ·subst hl
  rw [n2] at g1 g2
  rw [n1,g1,g2,g3,jB vA vS,jB vS vB]
  exact last n (by omega)
 ·obtain ⟨b0,l0,hl0⟩:=List.exists_cons_of_ne_nil hl
  have hb0:=q3 b0 (by rw [hl0];simp)
  have hF:FirstHi (mkB l):=by
   unfold iV at hb0
   rw [hl0]
   exact ⟨l0.map fun b=>(b.toNat:Int),(b0.toNat:Int),rfl,by omega⟩
  have hU:=q5 hl
  have hLA:LastHi (enc a'++U):=hU.append _
  have hLS:LastHi (enc (t.drop (t.length - j))++(enc s'++U)):=(hU.append _).append _
  have f1:cW (aF (enc a'++U)) (aF (mkB l++enc (t.drop (t.length - j))++(enc s'++U)))=1:=uN hLA ((hF.append _).append _)
  have f2:cW (aF (mkB l++enc (t.drop (t.length - j))++(enc s'++U))) (aF (mkB l++enc (t.drop (t.length - j))++enc b))=1:=uN ((hU.append _).append _) ((hF.append _).append _)
  rw [f1,f2]
  obtain ⟨m,rfl⟩:∃m,n=l.length+m:=⟨n - l.length,by have:=pL l;omega⟩
  have ml:=pL l
  have ys:=size_append (enc (t.drop (t.length - j))) (enc s'++U)
  have yb:=size_append (enc (t.drop (t.length - j))) (enc b)
  rw [baa (mkB l) (enc (t.drop (t.length - j))) (enc s'++U),baa (mkB l) (enc (t.drop (t.length - j))) (enc b),show (1:Int)+1=2 from rfl,B3 (l.length+m) kx2 m p0 x1 v5 l _ _ _ _ _ _ hl q3 hLA hLS (by omega),g1,g2,g3,jB vA vS,jB vS vB]
  exact last m (by omega)
end
set_option maxRecDepth 100000
theorem aR7 (X:BA) (i:Int) (h0:0≤i) (h1:i≤X.size):bD X 0 i++bD X i (X.size:Int)=X:=by
 apply cR
 rw [bL,bT,bT,cP,eQ _ _ _ (by rw [aN];omega),List.take_append_drop]
theorem cF9 (a s:List Int):bD (enc a) (((enc a).size:Int) - (csl a s:Int)) ((enc a).size:Int)=bD (enc s) (((enc s).size:Int) - (csl a s:Int)) ((enc s).size:Int):=by
 have l1:=eK a s
 have l2:=dS a s
 have et:=sN a s
 have lt:(a.drop (a.length - csl a s)).length=csl a s:=by rw [List.length_drop];omega
 have ea:enc a=enc (a.take (a.length - csl a s))++enc (a.drop (a.length - csl a s)):=by rw [←aX,List.take_append_drop]
 have es:enc s=enc (s.take (s.length - csl a s))++enc (a.drop (a.length - csl a s)):=by rw [et,←aX,List.take_append_drop]
 have hge:=gT (a.drop (a.length - csl a s))
 have key:∀X Y:BA,csl a s≤Y.size→bD (X++Y) (((X++Y).size:Int) - (csl a s:Int)) ((X++Y).size:Int)=bD Y ((Y.size:Int) - (csl a s:Int)) (Y.size:Int):=fun X Y h=>by
  have hz:=size_append X Y
  apply cR
  rw [bT,bT,eQ _ _ _ (by rw [aN];omega),eQ _ _ _ (by rw [aN];omega),bL,List.drop_append,List.drop_of_length_le (by rw [aN];omega),List.nil_append]
  congr 1
  rw [aN];omega
 have k1:=key (enc (a.take (a.length - csl a s))) (enc (a.drop (a.length - csl a s))) (by omega)
 have k2:=key (enc (s.take (s.length - csl a s))) (enc (a.drop (a.length - csl a s))) (by omega)
 rw [←ea] at k1
 rw [←es] at k2
 rw [k1,k2]
theorem EF (n:Nat) (hn:Big≤n) (p0) (a s:List Int) (va:Valids a) (vs:Valids s) (hla:a.length≤100000000) (hls:s.length≤100000000):eJ4 n p0 (enc a) (enc s)=some ((csl a s:Int),()):=by
 have e1:=aV a
 have e2:=aV s
 dsimp only [eJ4,aL0]
 rw [fS (by omega),fS (by omega),gS va,gS vs,uA n hn a s (by omega) (by omega),Option.bind_some]
section
variable {β:Type} (n:Nat) (hn:Big≤n) (kn:(Int×Int×Int×Nat×Int×Int×Nat)→List (Int×BA)→Int→Option β)
include hn
theorem eU8 (p0) (x1:List (Int×BA)) (i:Nat) (v38:Bool) (a s b:List Int) (va:Valids a) (vs:Valids s) (vb:Valids b) (hla:a.length≤100000000) (hls:s.length≤100000000) (hlb:b.length≤100000000) (hl:i+2 < x1.length) (hl2:x1.length≤1000000000)
  (r0:(rd x1 (i:Int) ((0:Int),(⟨#[]⟩:BA))).2=enc a) (r1:(rd x1 ((i+1:Nat):Int) ((0:Int),(⟨#[]⟩:BA))).2=enc s) (r2:(rd x1 ((i+2:Nat):Int) ((0:Int),(⟨#[]⟩:BA))).2=enc b):
  zZ n kn p0 x1 ((i+1:Nat):Int) v38=IC n kn p0 x1 ((i+1:Nat):Int) (enc (iN a s b).1) (enc (iN a s b).2.1) (enc (iN a s b).2.2):=by
 have hw0:w64 (((i+1:Nat):Int) - 1)=(i:Int):=by rw [aG (by omega) (by omega)];omega
 have hw2:w64 (((i+1:Nat):Int)+1)=((i+2:Nat):Int):=by rw [aG (by omega) (by omega)];omega
 have e1:=aV a
 have e2:=aV s
 have e3:=aV b
 have g1:=gT a
 have g2:=gT s
 have l1:=eK a s
 have l2:=dS a s
 unfold zZ aR9
 rw [hw0,hw2,aP (by omega) (by omega),aP (by omega) (by omega),aP (by omega) (by omega),r0,r1,r2,EF n hn p0 a s va vs hla hls,Option.bind_some]
 simp only
 have ws:w64 (((enc s).size:Int) - (csl a s:Int))=((enc s).size:Int) - (csl a s:Int):=aG (by omega) (by omega)
 have wa:w64 (((enc a).size:Int) - (csl a s:Int))=((enc a).size:Int) - (csl a s:Int):=aG (by omega) (by omega)
 have key:=fun A0 S0 B0 hA hS hB=>dN2 n hn (fun p0 x1 v5 v11 v12 v13=>IC n kn p0 x1 v5 v11 v12 v13) p0 x1 ((i+1:Nat):Int) a s b va vs vb hla hls hlb A0 S0 B0 (csl a s) rfl hA hS hB
 by_cases hk:(csl a s:Int)>0
 ·rw [bdT hk,ws,wa,bF (by omega) (by omega) (by omega),bF (by omega) (by omega) (by omega),bF (by omega) (by omega) (by omega)]
  have z1:=iF (z:=enc s) (a:=((enc s).size:Int) - (csl a s:Int)) (b:=((enc s).size:Int)) (by omega) (by omega) (by omega)
  have z2:=iF (z:=enc s) (a:=0) (b:=((enc s).size:Int) - (csl a s:Int)) (by omega) (by omega) (by omega)
  rw [cA (by omega),cA (by omega)]
  refine key _ _ _ ?_ rfl rfl
  rw [←cF9 a s]
  exact (aR7 _ _ (by omega) (by omega)).symm
 ·rw [bdF hk]
  have h0:csl a s=0:=by omega
  have c1:bD (enc s) (((enc s).size:Int) - (csl a s:Int)) ((enc s).size:Int)=(⟨#[]⟩:BA):=by
   apply cR
   rw [bT,eQ _ _ _ (by rw [aN];omega),List.drop_of_length_le (by rw [aN];omega)];rfl
  have c2:bD (enc s) 0 (((enc s).size:Int) - (csl a s:Int))=enc s:=by
   rw [h0,show ((enc s).size:Int) - ((0:Nat):Int)=((enc s).size:Int) by omega];exact dF0 _
  have n1:∀Q:BA,(⟨#[]⟩:BA)++Q=Q:=fun Q=>by apply lZ;rw [ByteArray.data_append];simp
  have n2:∀Q:BA,Q++(⟨#[]⟩:BA)=Q:=fun Q=>by apply lZ;rw [ByteArray.data_append];simp
  refine key _ _ _ ?_ ?_ ?_
  ·rw [c1,n2]
  ·rw [c1,c2,n1]
  ·rw [c1,n1]
end
theorem ZD {a s b:List Int}:(iN a s b).1.length+(iN a s b).2.2.length=a.length+b.length∧(iN a s b).2.1.length=s.length:=by
 have h:=qL a s b
 have:=congrArg List.length h.out
 simp only [List.length_append] at this
 exact ⟨this,h.len⟩
theorem size_ne_zero {x:List Int}:(((enc x).size:Int)!=0)=true↔x≠[]:=by
 rw [bne_iff_ne]
 constructor
 ·rintro h rfl;exact h rfl
 ·intro h h0
  exact h (enc_size_zero.1 (by omega))
theorem cH0 {β:Type} (n:Nat) (hn:Big≤n) (kx:List (Int×BA)→Option β) (p0):∀(k:Nat) (R A:List Rp) (m:Nat),R.length=k→k < m→Ok A→Ok R→
  A.length+R.length≤1000000→cT A+cT R≤10000000→
  g141_17L (β:=β) n kx m p0 (M (A.reverse++R)) ((A.length+1:Nat):Int)=kx (M (eC A R)):=by
 intro k
 induction k using Nat.strongRecOn with
 | _ k ih=>
  intro R A m hk hm hA hR hl hal
  obtain ⟨m,rfl⟩:∃m',m=m'+1:=⟨m - 1,by omega⟩
  have hlm:(M (A.reverse++R)).length=A.length+R.length:=by rw [bA];simp
  have hw0:w64 (((M (A.reverse++R)).length:Int) - 1)=(A.length:Int)+(R.length:Int) - 1:=by rw [aG (by omega) (by omega)];omega
  rw [g141_17L.eq_2]
  unfold HG u7
  rw [hw0]
  by_cases h3:R.length < 3
  ·rw [bdF (by omega)]
   have:eC A R=A.reverse++R:=by
    match R,h3 with
    | [],_=>unfold eC;rfl
    | [p],_=>unfold eC;rfl
    | [p,c],_=>unfold eC;rfl
   rw [this]
  ·obtain ⟨p,c,q,R,rfl⟩:∃p c q R',R=p::c::q::R':=by
    match R,h3 with
    | [],h3=>simp at h3
    | [p],h3=>simp at h3
    | [p,c],h3=>simp at h3
    | p::c::q::R,_=>exact ⟨p,c,q,R,rfl⟩
   have hRl:(p::c::q::R).length=R.length+3:=rfl
   have hp:=hR.of_cons.1
   have hc:=hR.of_cons.2.of_cons.1
   have hq:=hR.of_cons.2.of_cons.2.of_cons.1
   have hR':=hR.of_cons.2.of_cons.2.of_cons.2
   simp only [cE] at hal
   have hx:M (A.reverse++p::c::q::R)=M A.reverse++(p.1,enc p.2)::(c.1,enc c.2)::(q.1,enc q.2)::M R:=by rw [bZ];rfl
   have hAl:(M A.reverse).length=A.length:=by simp [bA]
   have hwm:w64 (((A.length+1:Nat):Int) - 1)=(A.length:Int):=by rw [aG (by omega) (by omega)];omega
   have hwp:w64 (((A.length+1:Nat):Int)+1)=((A.length+2:Nat):Int):=by rw [aG (by omega) (by omega)];omega
   have hwq:w64 (((A.length+1:Nat):Int)+2)=((A.length+3:Nat):Int):=by rw [aG (by omega) (by omega)];omega
   have hwa:w64 ((A.length:Int)+1)=((A.length+1:Nat):Int):=by rw [aG (by omega) (by omega)];omega
   have g0:∀(u:Prt) (l:List Prt),rd (M A.reverse++u::l) (A.length:Int) ((0:Int),(⟨#[]⟩:BA))=u:=fun u l=>fM (by rw [hAl])
   have g1:∀(u v:Prt) (l:List Prt),rd (M A.reverse++u::v::l) ((A.length+1:Nat):Int) ((0:Int),(⟨#[]⟩:BA))=v:=fun u v l=>by
    have:M A.reverse++u::v::l=(M A.reverse++[u])++v::l:=by simp
    rw [this];exact fM (by simp [hAl])
   have g2:∀(u v w:Prt) (l:List Prt),rd (M A.reverse++u::v::w::l) ((A.length+2:Nat):Int) ((0:Int),(⟨#[]⟩:BA))=w:=fun u v w l=>by
    have:M A.reverse++u::v::w::l=(M A.reverse++[u,v])++w::l:=by simp
    rw [this];exact fM (by simp [hAl])
   have s0:∀(u x:Prt) (l:List Prt),(M A.reverse++u::l).set (A.length:Int).toNat x=M A.reverse++x::l:=fun u x l=>iJ (by rw [hAl];omega)
   have s1:∀(u v x:Prt) (l:List Prt),(M A.reverse++u::v::l).set ((A.length+1:Nat):Int).toNat x=M A.reverse++u::x::l:=fun u v x l=>by
    have:M A.reverse++u::v::l=(M A.reverse++[u])++v::l:=by simp
    rw [this,iJ (by simp [hAl])];simp
   have s2:∀(u v w x:Prt) (l:List Prt),(M A.reverse++u::v::w::l).set ((A.length+2:Nat):Int).toNat x=M A.reverse++u::v::x::l:=fun u v w x l=>by
    have:M A.reverse++u::v::w::l=(M A.reverse++[u,v])++w::l:=by simp
    rw [this,iJ (by simp [hAl];omega)];simp
   have ll:∀u v w:Prt,(M A.reverse++u::v::w::M R).length=A.length+3+R.length:=fun u v w=>by simp [bA];omega
   have ll2:∀v w:Prt,(M A.reverse++v::w::M R).length=A.length+2+R.length:=fun v w=>by simp [bA];omega
   have skip:g141_17L (β:=β) n kx m p0 (M A.reverse++(p.1,enc p.2)::(c.1,enc c.2)::(q.1,enc q.2)::M R) ((A.length+2:Nat):Int)=kx (M (eC (p::A) (c::q::R))):=by
    have:=ih (c::q::R).length (by rw [←hk];simp) (c::q::R) (p::A) m rfl (by simp at hk ⊢;omega) (Ok.cons' hp hA) hR.of_cons.2 (by simp at hl ⊢;omega) (by simp only [cE];omega)
    rw [←this]
    have e:M ((p::A).reverse++c::q::R)=M A.reverse++(p.1,enc p.2)::(c.1,enc c.2)::(q.1,enc q.2)::M R:=by
     simp [bZ,fO,lL]
    rw [e];rfl
   rw [bdT (by omega)]
   unfold RB HC u6
   simp only [hwm,hwp,hx,g0,g1,g2,ll]
   rw [aP (by omega) (by omega)]
   have plain:∀v38:Bool,v38=false→tH n (fun p0 x1 v5=>yQ n (g141_17L n kx m) p0 x1 v5) p0 (M A.reverse++(p.1,enc p.2)::(c.1,enc c.2)::(q.1,enc q.2)::M R) ((A.length+1:Nat):Int) v38=kx (M (eC (p::A) (c::q::R))):=fun v38 h=>by
    unfold tH ST yQ
    rw [biF h]
    simp only [hwp]
    exact skip
   rw [eC]
   by_cases hp0:p.1=0
   ·rw [biT (by simpa using hp0),aP (by omega) (by omega)]
    by_cases hq0:q.1=0
    ·rw [if_pos ⟨hp0,hq0⟩]
     unfold tH
     rw [biT (by simpa using hq0)]
     rw [eU8 n hn _ p0 _ A.length _ p.2 c.2 q.2 hp.2 hc.2 hq.2 (by omega) (by omega) (by omega) (by rw [ll];omega) (by rw [ll];omega) (by rw [g0]) (by rw [g1]) (by rw [g2])]
     have hmv:=qL p.2 c.2 q.2
     have hsz:=@ZD p.2 c.2 q.2
     generalize iN p.2 c.2 q.2=t at *
     obtain ⟨v1,v2,v3⟩:=hmv.val hp.2 hc.2 hq.2
     have z1:=aV t.1
     unfold IC yQ
     simp only [hwm,hwp,hwa,g0,g1,g2,ll]
     rw [aP (by omega) (by omega),bT0 hp.2 v1]
     by_cases he:t.1=p.2
     ·rw [if_pos he,biF (by simp [he])]
      exact skip
     ·rw [if_neg he,biT (by simp;exact fun h=>he h.symm)]
      by_cases h0:t.1=[]
      ·
       rw [if_pos h0,biF (by have:=@size_ne_zero t.1;rw [Bool.eq_false_iff];exact fun h=>(this.1 h) h0)]
       have h2:t.2.2≠[]:=fun h2=>by
        have:=hmv.out
        rw [h0,h2] at this
        have:=(List.append_eq_nil_iff.1 this.symm).1
        exact he (by rw [h0,this])
       have hsp:=jQ n hn (M A.reverse++(p.1,enc p.2)::(c.1,enc c.2)::(q.1,enc q.2)::M R) [] A.length 1 (by rw [ll];omega) (by rw [ll];omega) (by simp)
       have ht:(M A.reverse++(p.1,enc p.2)::(c.1,enc c.2)::(q.1,enc q.2)::M R).take A.length=M A.reverse:=by rw [←hAl,List.take_left'];rfl
       have hd:(M A.reverse++(p.1,enc p.2)::(c.1,enc c.2)::(q.1,enc q.2)::M R).drop (A.length+1)=(c.1,enc c.2)::(q.1,enc q.2)::M R:=by
        have:M A.reverse++(p.1,enc p.2)::(c.1,enc c.2)::(q.1,enc q.2)::M R=(M A.reverse++[(p.1,enc p.2)])++(c.1,enc c.2)::(q.1,enc q.2)::M R:=by simp
        rw [this,show A.length+1=(M A.reverse++[(p.1,enc p.2)]).length by simp [hAl],List.drop_left'];rfl
       rw [ht,hd,List.append_nil] at hsp
       rw [show (1:Int)=((1:Nat):Int) from rfl,hsp,Option.bind_some]
       simp only [g0,g1,s0,s1,ll2,show ((1:Nat):Int)=(1:Int) from rfl,hwa]
       rw [aP (by omega) (by omega),biT (size_ne_zero.2 h2),aP (by omega) (by omega)]
       have:=ih ((c.1,t.2.1)::(q.1,t.2.2)::R).length (by rw [←hk];simp) ((c.1,t.2.1)::(q.1,t.2.2)::R) A m rfl (by simp at hk ⊢;omega) hA (Ok.cons' ⟨hc.1,v2⟩ (Ok.cons' ⟨hq.1,v3⟩ hR')) (by simp at hl ⊢;omega) (by simp only [cE];omega)
       rw [←this]
       have e:M (A.reverse++(c.1,t.2.1)::(q.1,t.2.2)::R)=M A.reverse++(c.1,enc t.2.1)::(q.1,enc t.2.2)::M R:=by
        simp [bZ,fO,lL]
       rw [e]
      ·rw [if_neg h0,biT (size_ne_zero.2 h0)]
       simp only [s0,g0,g1,g2,ll,s1,s2]
       rw [aP (by omega) (by omega),aP (by omega) (by omega)]
       by_cases h2:t.2.2=[]
       ·rw [if_pos h2,biF (by have:=@size_ne_zero t.2.2;rw [Bool.eq_false_iff];exact fun h=>(this.1 h) h2)]
        rw [hwq,bF (by omega) (by omega) (by omega),bF (by omega) (by omega) (by omega)]
        have c1:cut (M A.reverse++(p.1,enc t.1)::(c.1,enc t.2.1)::(q.1,enc q.2)::M R) 0 (0+(((A.length+2:Nat):Int) - 0))=M A.reverse++[(p.1,enc t.1),(c.1,enc t.2.1)]:=by
         rw [cP,show (0+(((A.length+2:Nat):Int) - 0)).toNat=(M A.reverse++[(p.1,enc t.1),(c.1,enc t.2.1)]).length by simp [hAl];omega]
         have:M A.reverse++(p.1,enc t.1)::(c.1,enc t.2.1)::(q.1,enc q.2)::M R=(M A.reverse++[(p.1,enc t.1),(c.1,enc t.2.1)])++(q.1,enc q.2)::M R:=by simp
         rw [this];exact List.take_left
        have c2:cut (M A.reverse++(p.1,enc t.1)::(c.1,enc t.2.1)::(q.1,enc q.2)::M R) ((A.length+3:Nat):Int) (((A.length+3:Nat):Int)+(((A.length+3+R.length:Nat):Int) - ((A.length+3:Nat):Int)))=M R:=by
         rw [eQ _ _ _ (by rw [ll];omega),Int.toNat_natCast]
         have:M A.reverse++(p.1,enc t.1)::(c.1,enc t.2.1)::(q.1,enc q.2)::M R=(M A.reverse++[(p.1,enc t.1),(c.1,enc t.2.1),(q.1,enc q.2)])++M R:=by simp
         rw [this,show A.length+3=(M A.reverse++[(p.1,enc t.1),(c.1,enc t.2.1),(q.1,enc q.2)]).length by simp [hAl],List.drop_left'];rfl
        rw [c1,c2,cA (by simp [bA];omega)]
        have:=ih ((p.1,t.1)::(c.1,t.2.1)::R).length (by rw [←hk];simp) ((p.1,t.1)::(c.1,t.2.1)::R) A m rfl (by simp at hk ⊢;omega) hA (Ok.cons' ⟨hp.1,v1⟩ (Ok.cons' ⟨hc.1,v2⟩ hR')) (by simp at hl ⊢;omega) (by simp only [cE];omega)
        rw [←this]
        have e:M (A.reverse++(p.1,t.1)::(c.1,t.2.1)::R)=M A.reverse++[(p.1,enc t.1),(c.1,enc t.2.1)]++M R:=by
         simp [bZ,fO,lL]
        rw [e]
       ·rw [if_neg h2,biT (size_ne_zero.2 h2),aP (by omega) (by omega)]
        have:=ih ((c.1,t.2.1)::(q.1,t.2.2)::R).length (by rw [←hk];simp) ((c.1,t.2.1)::(q.1,t.2.2)::R) ((p.1,t.1)::A) m rfl (by simp at hk ⊢;omega) (Ok.cons' ⟨hp.1,v1⟩ hA) (Ok.cons' ⟨hc.1,v2⟩ (Ok.cons' ⟨hq.1,v3⟩ hR')) (by simp at hl ⊢;omega) (by simp only [cE];omega)
        rw [←this]
        have e:M (((p.1,t.1)::A).reverse++(c.1,t.2.1)::(q.1,t.2.2)::R)=M A.reverse++(p.1,enc t.1)::(c.1,enc t.2.1)::(q.1,enc t.2.2)::M R:=by
         simp [bZ,fO,lL]
        rw [e];rfl
    ·rw [if_neg (fun h=>hq0 h.2)]
     exact plain _ (by simpa using hq0)
   ·rw [biF (by simpa using hp0),if_neg (fun h=>hp0 h.1)]
    exact plain _ rfl
theorem G5 (n:Nat) (hn:Big≤n) (p0) (x:List Rp) (hx:Ok x) (hl:x.length≤1000000) (ha:cT x≤10000000):eG0 n p0 (M x)=some (M (iL x),()):=by
 have hB:(4611686018427387904:Nat)≤n:=hn
 dsimp only [eG0,EY,d3]
 have:=cH0 n hn (fun x1=>some (x1,())) p0 x.length x [] n rfl (by omega) Ok.nil hx (by simpa using hl) (by simpa [cT] using ha)
 exact this
end Go.Proofs.YthkiaiilpaojnaaDoorZF
namespace Go.Proofs.YthkiaiilpaojnaaDoorZF
open Go Ieee
set_option linter.unusedVariables false
set_option linter.unusedSimpArgs false
theorem sw:double.signWeight=9223372036854775808:=by decide
theorem ir:double.infRung=9218868437227405312:=by decide
theorem bn:double.binade=4503599627370496:=by decide
theorem lp:double.leastPlace= -1074:=by decide
def R3 (mag:Nat) (place:Int):Nat:=
 if mag=0 then 0 else
 min ((max (place+mag.log2 - double.fractionBits) double.leastPlace - double.leastPlace).toNat * double.binade+Toward.even.cut false (mag <<< (place - max (place+mag.log2 - double.fractionBits) double.leastPlace).toNat) (max (place+mag.log2 - double.fractionBits) double.leastPlace - place).toNat) double.infRung
theorem RQ (neg:Bool) (mag:Nat) (place:Int):double.nearest neg mag place=double.word neg (R3 mag place):=by
 unfold Format.nearest R3
 split
 ·rfl
 ·cases neg <;> rfl
theorem NB (mag:Nat) (place:Int):double.nearest false mag place=R3 mag place:=by rw [RQ];unfold Format.word;rw [if_neg (by decide)]
def Nn (d:Datum):Prop:=(∃m p,d= .number false m p)∨d= .infinity false
theorem eU1 {m:Nat} {p:Int} {n:Nat} {q:Int} (hn:n≠0) (k:Nat):∃a b,(Datum.number false m p).quotient k (.number false n q)=some (.number false a b):=by
 exact ⟨2 * ((m <<< (k+n.log2 - m.log2)) / n)+((m <<< (k+n.log2 - m.log2)) % n !=0).toNat,p - q - ((k+n.log2 - m.log2:Nat):Int) - 1,by simp only [Datum.quotient,if_neg hn,Bool.xor_self]⟩
theorem dW4 {n:Nat} (h0:0 < n) (h:n < 9007199254740992):n.log2≤52:=by
 have:=(Nat.log2_lt (by omega)).2 (show n < 2 ^ 53 from h)
 omega
theorem cO7 (l N:Nat) (hl:l≤52) (h:N < 9007199254740992):min ((l+1022) * 4503599627370496+N) 9218868437227405312=(l+1022) * 4503599627370496+N:=by omega
theorem D2 (n:Nat) (h0:0 < n) (h:n < 9007199254740992):double.read (double.nearest false n 0)= .number false (n * 2 ^ (52 - n.log2)) ((n.log2:Int) - 52):=by
 have hl:=dW4 h0 h
 have hlo:2 ^ n.log2≤n:=Nat.log2_self_le (by omega)
 have hhi:n < 2 ^ (n.log2+1):=Nat.lt_log2_self
 generalize hL:n.log2=l at hl hlo hhi
 have N1:4503599627370496≤n * 2 ^ (52 - l):=by
  calc 4503599627370496=2 ^ l * 2 ^ (52 - l):=by rw [←Nat.pow_add,show l+(52 - l)=52 by omega]
   _≤n * 2 ^ (52 - l):=Nat.mul_le_mul_right _ hlo
 have N2:n * 2 ^ (52 - l) < 9007199254740992:=by
  calc n * 2 ^ (52 - l) < 2 ^ (l+1) * 2 ^ (52 - l):=Nat.mul_lt_mul_of_pos_right hhi (Nat.two_pow_pos _)
   _=9007199254740992:=by rw [←Nat.pow_add,show l+1+(52 - l)=53 by omega]
 have hr:R3 n 0=(l+1022) * 4503599627370496+n * 2 ^ (52 - l):=by
  unfold R3
  rw [if_neg (by omega),hL,lp,bn,ir]
  have e0:double.fractionBits=52:=rfl
  rw [e0]
  have e1:max ((0:Int)+(l:Int) - ((52:Nat):Int)) (-1074)=(l:Int) - 52:=by omega
  rw [e1]
  have e2:((l:Int) - 52 - (-1074)).toNat=l+1022:=by omega
  have e3:((0:Int) - ((l:Int) - 52)).toNat=52 - l:=by omega
  have e4:((l:Int) - 52 - 0).toNat=0:=by omega
  rw [e2,e3,e4]
  have e5:Toward.even.cut false (n <<< (52 - l)) 0=n * 2 ^ (52 - l):=by
   rw [Nat.shiftLeft_eq]
   simp [Toward.cut,Nat.mod_one]
  rw [e5]
  exact cO7 l _ hl N2
 rw [NB,hr]
 clear hr hlo hhi hL h h0
 generalize n * 2 ^ (52 - l)=N at N1 N2
 have e1:((l+1022) * 4503599627370496+N) / double.signWeight % 2=0:=by rw [sw];omega
 have e2:((l+1022) * 4503599627370496+N) % double.signWeight=(l+1022) * 4503599627370496+N:=by rw [sw];omega
 unfold Format.read
 simp only [e1,e2,bn,ir,lp]
 rw [if_neg (by omega),if_pos (by omega)]
 have e3:((l+1022) * 4503599627370496+N) % 4503599627370496=N - 4503599627370496:=by omega
 have e4:((l+1022) * 4503599627370496+N) / 4503599627370496=l+1023:=by omega
 rw [e3,e4]
 have e5:4503599627370496+(N - 4503599627370496)=N:=by omega
 have e6:(-1074:Int)+((l+1023 - 1:Nat):Int)=(l:Int) - 52:=by omega
 rw [e5,e6]
 simp
theorem eE9 (n:Nat) (h0:0 < n) (k:Nat):n * 2 ^ k≠0:=Nat.mul_ne_zero (by omega) (by have:=Nat.two_pow_pos k;omega)
theorem sP (n:Nat):floatOfInt .f64 (n:Int)=double.nearest false n 0:=by
 show double.nearest (decide ((n:Int) < 0)) ((n:Int)).natAbs 0=_
 rw [decide_eq_false (by omega),Int.natAbs_natCast]
theorem aN5 (n:Nat) (h:n < 9007199254740992):∃m p,double.read (double.nearest false n 0)= .number false m p∧(m=0↔n=0):=by
 rcases Nat.eq_zero_or_pos n with rfl | h0
 ·exact ⟨0, -1074,by decide,by simp⟩
 ·exact ⟨_,_,D2 n h0 h,by have:=eE9 n h0 (52 - n.log2);omega⟩
theorem MJ (n:Nat) (h:n < 9007199254740992):∃s:Nat,double.read (floatOfInt .f64 (n:Int))= .number false (n * 2 ^ s) (-(s:Int)):=by
 rw [sP]
 rcases Nat.eq_zero_or_pos n with rfl | h0
 ·obtain ⟨k,hk⟩:∃k:Nat,k=1074:=⟨_,rfl⟩
  exact ⟨k,by rw [Nat.zero_mul,hk];rfl⟩
 ·have hl:=dW4 h0 h
  refine ⟨52 - n.log2,?_⟩
  rw [D2 n h0 h]
  congr 1
  omega
theorem eB0 (a s k:Nat):(a * 2 ^ s) <<< k=a * 2 ^ (s+k):=by rw [Nat.shiftLeft_eq,Nat.mul_assoc,Nat.pow_add]
theorem cD0 (a b s t:Nat):(Datum.number false (a * 2 ^ s) (-(s:Int))).order (.number false (b * 2 ^ t) (-(t:Int)))=some (compare (a:Int) (b:Int)):=by
 have e1:(-(s:Int) - min (-(s:Int)) (-(t:Int))).toNat=max s t - s:=by omega
 have e2:(-(t:Int) - min (-(s:Int)) (-(t:Int))).toNat=max s t - t:=by omega
 simp only [Datum.order,signed,Bool.false_eq_true,if_false,e1,e2,eB0]
 rw [show s+(max s t - s)=max s t by omega,show t+(max s t - t)=max s t by omega]
 have hp:=Nat.two_pow_pos (max s t)
 generalize 2 ^ (max s t)=p at *
 congr 1
 rcases Nat.lt_trichotomy a b with h | h | h
 ·rw [Int.compare_eq_lt.2 (by exact_mod_cast Nat.mul_lt_mul_of_pos_right h hp),Int.compare_eq_lt.2 (by omega)]
 ·subst h;rw [Int.compare_eq_eq.2 rfl,Int.compare_eq_eq.2 rfl]
 ·rw [Int.compare_eq_gt.2 (by exact_mod_cast Nat.mul_lt_mul_of_pos_right h hp),Int.compare_eq_gt.2 (by omega)]
theorem cG1 (n s:Nat):(Datum.number false (n * 2 ^ s) (-(s:Int))).toInt .zero=some (n:Int):=by
 have hp:=Nat.two_pow_pos s
 simp only [Datum.toInt,Datum.integral]
 have e1:(-(s:Int)).toNat=0:=by omega
 have e2:(- -(s:Int)).toNat=s:=by omega
 rw [e1,e2,Nat.shiftLeft_zero]
 have:Toward.zero.cut false (n * 2 ^ s) s=n:=by
  simp only [Toward.cut]
  rcases Nat.eq_zero_or_pos n with rfl | h0
  ·simp
  ·have hne:n * 2 ^ s≠0:=Nat.mul_ne_zero (by omega) (by omega)
   have hle:s≤(n * 2 ^ s).log2:=(Nat.le_log2 hne).2 (Nat.le_mul_of_pos_left _ h0)
   rw [show min s ((n * 2 ^ s).log2+2)=s by omega,Nat.shiftLeft_eq,Nat.one_mul,Nat.mul_div_cancel _ hp]
   simp
 rw [this]
 simp [signed]
abbrev F64 (n:Nat):Nat:=floatOfInt .f64 (n:Int)
theorem SJ (n:Nat) (h:n < 9007199254740992):floatToIntVal .f64 (F64 n) .i64=some (n:Int):=by
 obtain ⟨s,hs⟩:=MJ n h
 unfold floatToIntVal
 have:FloatKind.f64.decode (F64 n)= .number false (n * 2 ^ s) (-(s:Int)):=hs
 rw [this,cG1]
 have h1:IntKind.i64.min= -9223372036854775808:=rfl
 have h2:IntKind.i64.max=9223372036854775807:=rfl
 simp only [h1,h2]
 rw [if_pos (by omega)]
theorem dI2 (neg:Bool) (win:Ordering) (a b:Nat) (ha:a < 9007199254740992) (hb:b < 9007199254740992):bG2 neg win (F64 a) (F64 b)=if a=0∧b=0 then F64 0 else if compare (a:Int) (b:Int)=win then F64 a else F64 b:=by
 obtain ⟨s,hs⟩:=MJ a ha
 obtain ⟨t,ht⟩:=MJ b hb
 have d1:FloatKind.f64.decode (F64 a)= .number false (a * 2 ^ s) (-(s:Int)):=hs
 have d2:FloatKind.f64.decode (F64 b)= .number false (b * 2 ^ t) (-(t:Int)):=ht
 have z:∀(m k:Nat),(m * 2 ^ k=0↔m=0):=fun m k=>by
  have:=Nat.two_pow_pos k
  constructor
  ·intro h;rcases Nat.mul_eq_zero.1 h with h | h <;> omega
  ·rintro rfl;simp
 unfold bG2
 simp only [d1,d2]
 have n1:∀(m:Nat) (p:Int),(Datum.number false m p==Datum.infinity neg)=false:=fun m p=>by rw [beq_eq_false_iff_ne];intro h;cases h
 have zz:∀(m:Nat) (p:Int),(Datum.number false m p).isZero=decide (m=0):=fun m p=>by cases m <;> simp [Datum.isZero]
 rw [n1,n1,cD0]
 simp only [Bool.or_self,Bool.false_eq_true,if_false,Datum.isNaN,zz,Datum.neg]
 by_cases h0:a=0∧b=0
 ·obtain ⟨rfl,rfl⟩:=h0
  simp
 ·rw [if_neg h0]
  have:¬((decide (a * 2 ^ s=0)&&decide (b * 2 ^ t=0))=true):=by
   simp only [Bool.and_eq_true,decide_eq_true_eq,z];exact h0
  rw [if_neg this]
  by_cases hc:compare (a:Int) (b:Int)=win
  ·rw [if_pos (by rw [hc];simp),if_pos hc]
  ·rw [if_neg (by simpa using hc),if_neg hc]
theorem dB0 (a b:Nat) (ha:a < 9007199254740992) (hb:b < 9007199254740992):RX (F64 a) (F64 b)=F64 (max a b):=by
 unfold RX
 rw [dI2 false .gt a b ha hb]
 split
 ·rename_i h;rw [h.1,h.2];rfl
 ·split
  ·rename_i h;have:=Int.compare_eq_gt.1 h;rw [show max a b=a by omega]
  ·rename_i h;have:¬(a:Int)>(b:Int):=fun h'=>h (Int.compare_eq_gt.2 h');rw [show max a b=b by omega]
theorem eR5 (a b:Nat) (ha:a < 9007199254740992) (hb:b < 9007199254740992):B8 (F64 a) (F64 b)=F64 (min a b):=by
 unfold B8
 rw [dI2 true .lt a b ha hb]
 split
 ·rename_i h;rw [h.1,h.2];rfl
 ·split
  ·rename_i h;have:=Int.compare_eq_lt.1 h;rw [show min a b=a by omega]
  ·rename_i h;have:¬(a:Int) < (b:Int):=fun h'=>h (Int.compare_eq_lt.2 h');rw [show min a b=b by omega]
end Go.Proofs.YthkiaiilpaojnaaDoorZF
namespace Go.Proofs.YthkiaiilpaojnaaDoorZF
open Go Ieee
set_option linter.unusedVariables false
set_option linter.unusedSimpArgs false
end Go.Proofs.YthkiaiilpaojnaaDoorZF
namespace Go.Proofs.YthkiaiilpaojnaaDoorZF
open Go
set_option linter.unusedVariables false
set_option linter.unusedSimpArgs false
theorem GoodK.i64 {x:Int} (h:GoodK (.int .i64) x): -9223372036854775808≤x∧x < 9223372036854775808:=by
 have h:(Lit.int .i64 x).wf=true:=h
 simp only [Lit.wf,Bool.and_eq_true,decide_eq_true_eq] at h
 have h1:IntKind.i64.min= -9223372036854775808:=rfl
 have h2:IntKind.i64.max=9223372036854775807:=rfl
 omega
theorem cN3 (n:Nat) (a b:Nat):eW7 n a b=some (B8 a b,()):=rfl
theorem M9 (n:Nat) (a b:Nat):eG7 n a b=some (RX a b,()):=rfl
end Go.Proofs.YthkiaiilpaojnaaDoorZF
namespace Go.Proofs.YthkiaiilpaojnaaDoorZF
open Go Ieee
set_option linter.unusedVariables false
set_option linter.unusedSimpArgs false
theorem bU0 {a b:List Int} {P Q R:BA} (ha:Valids a) (hb:Valids b) (h1:enc a=P++Q) (h2:enc b=Q++R):∃x o y,a=x++o∧b=o++y∧P=enc x∧Q=enc o∧R=enc y:=by
 obtain ⟨x,o,e1,e2,e3⟩:=yH h1 (fun f t hf=>by
  have hh:=congrArg bl h2
  rw [dB,hf] at hh
  cases b with
  | nil=>cases (show ([]:List UInt8)=f::t++bl R from hh)
  | cons r b=>
   obtain ⟨f',t',g1,g2,_⟩:=pP r
   rw [cZ,g1] at hh
   simp only [List.cons_append,List.cons.injEq] at hh
   rw [←hh.1];exact g2)
 subst e1
 have ho:Valids o:=fun z hz=>ha z (by simp [hz])
 rw [e3] at h2
 obtain ⟨y,hy,hR⟩:=qU hb ho h2
 exact ⟨x,o,y,rfl,hy,e2,e3,hR⟩
theorem fA5 (n:Nat) (hn:Big≤n) (t p:BA) (ht:t.size≤1000000000) (hp:p.size≤1000000000):∃r:Int,g95 n t p=some (r,())∧(r= -1∨(0≤r∧r+p.size≤t.size∧bD t r (r+p.size)=p)):=by
 have hB:(4611686018427387904:Nat)≤n:=hn
 dsimp only [g95,D1,bI0,bL6,aU7]
 have key:∀(d i m:Nat),t.size+1 - i=d→d < m→i≤t.size+1→∃r:Int,g95_3L n (fun v4=>@some (DenR [.dat (.int .i64)]) (v4,())) (bD4 n (fun v4=>some (v4,()))) m t p (i:Int)=some (r,())∧(r= -1∨(0≤r∧r+p.size≤t.size∧bD t r (r+p.size)=p)):=by
  intro d
  induction d with
  | zero=>
   intro i m hd hm hi
   obtain ⟨m,rfl⟩:∃m',m=m'+1:=⟨m - 1,by omega⟩
   rw [g95_3L.eq_2,OY,aG (by omega) (by omega),bdF (by omega)]
   exact ⟨-1,rfl,.inl rfl⟩
  | succ d ih=>
   intro i m hd hm hi
   obtain ⟨m,rfl⟩:∃m',m=m'+1:=⟨m - 1,by omega⟩
   rw [g95_3L.eq_2,OY,aG (n:=(i:Int)+(p.size:Int)) (by omega) (by omega),aG (n:=(i:Int)+1) (by omega) (by omega)]
   by_cases c:(i:Int)+(p.size:Int)≤(t.size:Int)
   ·rw [bdT c,bF (by omega) (by omega) (by omega)]
    by_cases c2:bD t (i:Int) ((i:Int)+(p.size:Int))=p
    ·rw [biT (by rw [dE];simpa using c2)]
     exact ⟨(i:Int),rfl,.inr ⟨by omega,c,c2⟩⟩
    ·rw [biF (by rw [dE];simpa using c2),show (i:Int)+1=((i+1:Nat):Int) by omega]
     exact ih (i+1) m (by omega) (by omega) (by omega)
   ·rw [bdF c]
    exact ⟨-1,rfl,.inl rfl⟩
 exact key (t.size+1) 0 n (by omega) (by omega) (by omega)
def Ov (X Y:List Int) (k:Nat):Prop:=k≤X.length∧k≤Y.length∧X.drop (X.length - k)=Y.take k
theorem Ov.zero (X Y:List Int):Ov X Y 0:=⟨Nat.zero_le _,Nat.zero_le _,by simp⟩
theorem cQ2 (n:Nat) (hn:Big≤n) (v1 v2:BA) (L:Nat) (h1:v1.size=L) (h2:v2.size=L) (hne:v1≠v2) (hL:L≤100000000):
  ∀(d best len m:Nat),L+1 - len=d→d < m→1≤len→len≤L→Ov (aF v1) (aF v2) best→
   ∃k:Nat,g142_4L n (fun v10=>QA n (fun v6=>@some (DenR [.dat (.int .i64)]) (v6,())) v10) m v1 v2 (L:Int) (best:Int) (len:Int)=some ((k:Int),())∧Ov (aF v1) (aF v2) k:=by
 have l1:=aN v1
 have l2:=aN v2
 have hOv:∀k:Nat,k≤L→bD v1 ((L:Int) - (k:Int)) (L:Int)=bD v2 0 (k:Int)→Ov (aF v1) (aF v2) k:=fun k hk he=>by
  refine ⟨by omega,by omega,?_⟩
  have:=congrArg aF he
  rw [bT,bT,eQ _ _ _ (by omega),cP] at this
  rw [show ((L:Int) - (k:Int)).toNat=(aF v1).length - k by omega] at this
  exact this
 have hlt:∀k:Nat,k≤L→Ov (aF v1) (aF v2) k→k < L:=fun k hk ho=>by
  rcases Nat.lt_or_ge k L with h | h
  ·exact h
  ·exfalso
   have e:=ho.2.2
   rw [show (aF v1).length - k=0 by omega,List.drop_zero,List.take_of_length_le (by omega)] at e
   exact hne (cR e)
 intro d
 induction d using Nat.strongRecOn with
 | _ d ih=>
  intro best len m hd hm hl1 hl2 hb
  obtain ⟨m,rfl⟩:∃m',m=m'+1:=⟨m - 1,by omega⟩
  have hlm:len≤100000000:=by omega
  have hw:w64 ((L:Int) - (len:Int))=(L:Int) - (len:Int):=aG (by omega) (by omega)
  have hcs:=iF (z:=v1) (a:=(L:Int) - (len:Int)) (b:=(L:Int)) (by omega) (by omega) (by omega)
  rw [g142_4L.eq_2,aK8,h1,hw,bF (by omega) (by omega) (by omega)]
  obtain ⟨r,hr,hr2⟩:=fA5 n hn v2 (bD v1 ((L:Int) - (len:Int)) (L:Int)) (by omega) (by omega)
  rw [aW hr]
  simp only
  rcases hr2 with rfl | ⟨r1,r2,r3⟩
  ·rw [biT (by rfl)]
   exact ⟨best,rfl,hb⟩
  ·obtain ⟨f,rfl⟩:∃f:Nat,r=(f:Int):=⟨r.toNat,by omega⟩
   rw [hcs] at r2
   rw [biF (show ((f:Int)==(-1:Int))=false by rw [beq_eq_false_iff_ne];omega)]
   have hw2:w64 ((len:Int)+(f:Int))=((len+f:Nat):Int):=by rw [aG (by omega) (by omega)];omega
   have hw3:w64 (((len+f:Nat):Int)+1)=((len+f+1:Nat):Int):=by rw [aG (by omega) (by omega)];omega
   have hw4:w64 ((L:Int) - ((len+f:Nat):Int))=(L:Int) - ((len+f:Nat):Int):=aG (by omega) (by omega)
   simp only [hw2,hw3,hw4]
   by_cases hf:f=0
   ·subst hf
    rw [biT (by rfl)]
    have hov:Ov (aF v1) (aF v2) (len+0):=hOv _ (by omega) (by
     rw [Nat.add_zero,←r3,hcs]
     congr 1;omega)
    have:=hlt _ (by omega) hov
    exact ih (L+1 - (len+0+1)) (by omega) (len+0) (len+0+1) m rfl (by omega) (by omega) (by omega) hov
   ·rw [biF (show ((f:Int)==(0:Int))=false by rw [beq_eq_false_iff_ne];omega),bF (by omega) (by omega) (by omega),bF (by omega) (by omega) (by omega)]
    by_cases c:bD v1 ((L:Int) - ((len+f:Nat):Int)) (L:Int)=bD v2 0 ((len+f:Nat):Int)
    ·rw [biT (by rw [dE];simpa using c)]
     have hov:=hOv _ (by omega) c
     have:=hlt _ (by omega) hov
     exact ih (L+1 - (len+f+1)) (by omega) (len+f) (len+f+1) m rfl (by omega) (by omega) (by omega) hov
    ·rw [biF (by rw [dE];simpa using c)]
     exact ih (L+1 - (len+f)) (by omega) best (len+f) m rfl (by omega) (by omega) (by omega) hb
theorem NC (n:Nat) (hn:Big≤n) (p0) (a b:BA) (ha:a.size≤100000000) (hb:b.size≤100000000):∃k:Nat,bY1 n p0 a b=some ((k:Int),())∧Ov (aF a) (aF b) k:=by
 have hB:(4611686018427387904:Nat)≤n:=hn
 have la:=aN a
 have lb:=aN b
 dsimp only [bY1,WY,V7]
 by_cases c1:a.size=0
 ·rw [biT (by rw [beq_iff_eq];omega)];exact ⟨0,rfl,Ov.zero _ _⟩
 rw [biF (by rw [beq_eq_false_iff_ne];omega)]
 by_cases c2:b.size=0
 ·rw [biT (by rw [beq_iff_eq];omega)];exact ⟨0,rfl,Ov.zero _ _⟩
 rw [biF (by rw [beq_eq_false_iff_ne];omega)]
 have mid:∀(v1 v2:BA) (L:Nat),v1.size=L→v2.size=L→0 < L→L≤100000000→L=min a.size b.size→∃k:Nat,PS n (fun v1 v2 v9 v10 v11=>aJ8 n (fun v10=>QA n (fun v6=>@some (DenR [.dat (.int .i64)]) (v6,())) v10) v1 v2 v9 v10 v11) (fun v6=>some (v6,())) v1 v2 (a.size:Int) (b.size:Int)=some ((k:Int),())∧Ov (aF v1) (aF v2) k:=by
  intro v1 v2 L h1 h2 h0 hL hm
  have q1:=aN v1
  have q2:=aN v2
  unfold PS
  rw [cN3,Option.bind_some]
  simp only
  rw [show B8 (floatOfInt .f64 (a.size:Int)) (floatOfInt .f64 (b.size:Int))=F64 (min a.size b.size) from eR5 a.size b.size (by omega) (by omega),←hm,SJ L (by omega)]
  simp only [onS]
  by_cases c:v1=v2
  ·rw [biT (by rw [dE];simpa using c)]
   refine ⟨L,rfl,by omega,by omega,?_⟩
   rw [c,show (aF v2).length - L=0 by omega,List.drop_zero,List.take_of_length_le (by omega)]
  ·rw [biF (by rw [dE];simpa using c)]
   exact cQ2 n hn v1 v2 L h1 h2 c hL L 0 1 n (by omega) (by omega) (by omega) (by omega) (Ov.zero _ _)
 have fin:∀(v1 v2:BA) (k:Nat),aF v1=(aF a).drop (a.size - v1.size)→aF v2=(aF b).take v2.size→v1.size≤a.size→v2.size≤b.size→Ov (aF v1) (aF v2) k→Ov (aF a) (aF b) k:=by
  intro v1 v2 k e1 e2 s1 s2 ho
  have q1:=aN v1
  have q2:=aN v2
  obtain ⟨o1,o2,o3⟩:=ho
  refine ⟨by omega,by omega,?_⟩
  rw [q1] at o3
  rw [e1,e2,List.drop_drop,List.take_take] at o3
  rw [show a.size - v1.size+(v1.size - k)=(aF a).length - k by omega,show min k v2.size=k by omega] at o3
  exact o3
 by_cases c3:a.size>b.size
 ·rw [bdT (by omega),aG (by omega) (by omega),bF (by omega) (by omega) (by omega)]
  have hs:=iF (z:=a) (a:=(a.size:Int) - (b.size:Int)) (b:=(a.size:Int)) (by omega) (by omega) (by omega)
  obtain ⟨k,e,ho⟩:=mid (bD a ((a.size:Int) - (b.size:Int)) (a.size:Int)) b b.size (by omega) rfl (by omega) hb (by omega)
  refine ⟨k,e,fin _ b k ?_ ?_ (by omega) (by omega) ho⟩
  ·rw [bT,eQ _ _ _ (by omega)];congr 1;omega
  ·rw [List.take_of_length_le (by omega)]
 ·rw [bdF (by omega)]
  by_cases c4:a.size < b.size
  ·rw [bdT (by omega),bF (by omega) (by omega) (by omega)]
   have hs:=iF (z:=b) (a:=0) (b:=(a.size:Int)) (by omega) (by omega) (by omega)
   obtain ⟨k,e,ho⟩:=mid a (bD b 0 (a.size:Int)) a.size rfl (by omega) (by omega) ha (by omega)
   refine ⟨k,e,fin a _ k ?_ ?_ (by omega) (by omega) ho⟩
   ·rw [Nat.sub_self,List.drop_zero]
   ·rw [bT,cP];congr 1;omega
  ·rw [bdF (by omega)]
   obtain ⟨k,e,ho⟩:=mid a b a.size rfl (by omega) (by omega) ha (by omega)
   refine ⟨k,e,fin a b k ?_ ?_ (by omega) (by omega) ho⟩
   ·rw [Nat.sub_self,List.drop_zero]
   ·rw [List.take_of_length_le (by omega)]
theorem LL (n:Nat) (hn:Big≤n) (p0) (a b:List Int) (ha:Valids a) (hb:Valids b) (la:a.length≤10000000) (lb:b.length≤10000000):
  ∃x o y,a=x++o∧b=o++y∧bY1 n p0 (enc a) (enc b)=some (((enc o).size:Int),()):=by
 have e1:=aV a
 have e2:=aV b
 obtain ⟨k,hk,o1,o2,o3⟩:=NC n hn p0 (enc a) (enc b) (by omega) (by omega)
 have l1:=aN (enc a)
 have l2:=aN (enc b)
 have s1:=iF (z:=enc b) (a:=0) (b:=(k:Int)) (by omega) (by omega) (by omega)
 have hp:enc a=bD (enc a) 0 (((enc a).size:Int) - (k:Int))++bD (enc b) 0 (k:Int):=by
  apply cR
  rw [bL,bT,bT,cP,cP,show ((k:Int)).toNat=k by omega,←o3,show (((enc a).size:Int) - (k:Int)).toNat=(aF (enc a)).length - k by omega,List.take_append_drop]
 have hq:enc b=bD (enc b) 0 (k:Int)++bD (enc b) (k:Int) ((enc b).size:Int):=by
  apply cR
  rw [bL,bT,bT,cP,eQ _ _ _ (by omega),List.take_append_drop]
 obtain ⟨x,o,y,q1,q2,q3,q4,q5⟩:=bU0 ha hb hp hq
 refine ⟨x,o,y,q1,q2,?_⟩
 rw [hk,←q4,s1]
 first | rfl | (congr 2;omega)
theorem OE (c:Nat) (hc:c < 9007199254740992):∃x,floatBits .quo .f64 (floatOfInt .f64 (c:Int)) (4611686018427387904:Nat)=some x:=by
 obtain ⟨m,p,h1,_⟩:=aN5 c hc
 have h2:∃m' p',double.read 4611686018427387904= .number false m' p'∧m'≠0:=⟨_,_,rfl,by decide⟩
 obtain ⟨m',p',h2,h3⟩:=h2
 obtain ⟨q1,q2,h4⟩:=eU1 (m:=m) (p:=p) (q:=p') h3 (double.fractionBits+2)
 rw [sP]
 unfold floatBits Format.div
 show ∃x,_=some x
 simp only [FloatKind.format,h1,h2,h4]
 exact ⟨_,rfl⟩
end Go.Proofs.YthkiaiilpaojnaaDoorZF
namespace Go.Proofs.YthkiaiilpaojnaaDoorZF
open Go
set_option linter.unusedVariables false
set_option linter.unusedSimpArgs false
def nE:List Rp→Nat
 | []=>0
 | d::l=>(if d.1=0 then 0 else 1)+nE l
theorem fB:∀x y,nE (x++y)=nE x+nE y
 | [],y=>by simp [nE]
 | d::x,y=>by simp [nE,fB x y];omega
theorem wK:∀x,nE x.reverse=nE x
 | []=>rfl
 | d::x=>by rw [List.reverse_cons,fB,wK x];simp [nE];omega
def b2 (b:Bool):Nat:=if b then 1 else 0
def gw:Bool→Bool→List Rp→Nat
 | p,q,[]=>b2 p+b2 q
 | p,q,d::l=>if d.1=0 then b2 p+b2 q+gw false false l else gw (p||decide (d.1= -1)) (q||decide (d.1≠ -1)) l
theorem bJ2 {d:Rp} (h:d.1≠0) (p q:Bool) (l:List Rp):gw p q (d::l)=gw (p||decide (d.1= -1)) (q||decide (d.1≠ -1)) l:=if_neg h
theorem fC3 {d:Rp} (h:d.1=0) (p q:Bool) (l:List Rp):gw p q (d::l)=b2 p+b2 q+gw false false l:=if_pos h
theorem eP2 (b:Bool):b2 b≤1:=by cases b <;> decide
theorem bE4:∀(x:List Rp) (p q:Bool),gw p q x≤b2 p+b2 q+nE x
 | [],p,q=>by simp [gw,nE]
 | d::x,p,q=>by
  unfold gw nE
  by_cases h:d.1=0
  ·rw [if_pos h,if_pos h]
   have:=bE4 x false false
   simp only [b2] at *
   simp at this
   omega
  ·rw [if_neg h,if_neg h]
   have:=bE4 x (p||decide (d.1= -1)) (q||decide (d.1≠ -1))
   by_cases h1:d.1= -1
   ·rw [decide_eq_true h1,decide_eq_false (by simpa using h1)] at this
    rw [decide_eq_true h1,decide_eq_false (by simpa using h1)]
    have e:b2 (p||true)≤1:=eP2 _
    simp only [Bool.or_false] at *
    omega
   ·rw [decide_eq_false h1,decide_eq_true (show d.1≠ -1 from h1)] at this
    rw [decide_eq_false h1,decide_eq_true (show d.1≠ -1 from h1)]
    have e:b2 (q||true)≤1:=eP2 _
    simp only [Bool.or_false] at *
    omega
theorem SD:∀(Y:List Rp) (p q:Bool),gw true true Y+b2 p+b2 q≤gw p q Y+2
 | [],p,q=>by simp [gw,b2];omega
 | d::Y,p,q=>by
  unfold gw
  by_cases h:d.1=0
  ·rw [if_pos h,if_pos h];simp [b2];omega
  ·rw [if_neg h,if_neg h]
   have h1:=SD Y (p||decide (d.1= -1)) (q||decide (d.1≠ -1))
   simp only [Bool.true_or]
   have m:∀a b:Bool,b2 a≤b2 (a||b):=fun a b=>by cases a <;> cases b <;> decide
   have:=m p (decide (d.1= -1))
   have:=m q (decide (d.1≠ -1))
   omega
theorem bJ8 (e:List Int) (d1 d2:Rp) (h1:d1.1≠0) (h2:d2.1≠0) (Y:List Rp):∀(X:List Rp) (p q:Bool),gw p q (X++d1::(-1,e)::(1,e)::d2::Y)≤gw p q (X++d1::(0,e)::d2::Y)
 | [],p,q=>by
  simp only [List.nil_append]
  rw [bJ2 h1,bJ2 h1,bJ2 (d:=((-1:Int),e)) (by simp),bJ2 (d:=((1:Int),e)) (by simp),fC3 (d:=((0:Int),e)) rfl]
  simp only [decide_true,Bool.or_true,ne_eq,not_true_eq_false,decide_false,Bool.or_false,show ¬((1:Int)= -1) by omega,not_false_eq_true]
  have:=SD (d2::Y) false false
  have hw:1≤gw false false (d2::Y):=by
   have big:∀(Y:List Rp) (p q:Bool),(p||q)=true→1≤gw p q Y:=by
    intro Y
    induction Y with
    | nil=>intro p q h;cases p <;> cases q <;> simp [gw,b2] at *
    | cons d Y ih=>
     intro p q h
     unfold gw
     split
     ·cases p <;> cases q <;> simp [b2] at * <;> omega
     ·exact ih _ _ (by cases p <;> cases q <;> simp at *)
   unfold gw
   rw [if_neg h2]
   exact big Y _ _ (by by_cases c:d2.1= -1 <;> simp [c])
  have hp:1≤b2 (p||decide (d1.1= -1))+b2 (q||decide (¬d1.1= -1)):=by
   by_cases c:d1.1= -1
   ·simp [c,b2]
   ·simp [c,b2]
  have e1:b2 false=0:=rfl
  rw [e1] at this
  have hb:gw true true (d2::Y)≤gw false false (d2::Y)+1:=by
   unfold gw
   rw [if_neg h2,if_neg h2]
   simp only [Bool.true_or,Bool.false_or]
   have:=SD Y (decide (d2.1= -1)) (decide (d2.1≠ -1))
   by_cases c:d2.1= -1
   ·rw [decide_eq_true c,decide_eq_false (by simpa using c)] at this ⊢
    simp only [b2] at this
    simp at this ⊢
    omega
   ·rw [decide_eq_false c,decide_eq_true (show d2.1≠ -1 from c)] at this ⊢
    simp only [b2] at this
    simp at this ⊢
    omega
  omega
 | d::X,p,q=>by
  simp only [List.cons_append]
  unfold gw
  have r1:=bJ8 e d1 d2 h1 h2 Y X
  by_cases h:d.1=0
  ·rw [if_pos h,if_pos h];have:=r1 false false;omega
  ·rw [if_neg h,if_neg h];exact r1 _ _
theorem R9 (u:List Int):∀A:List Rp,nE (pushE u A)=nE A
 | []=>by simp [pushE,nE]
 | (k,s)::A=>by
  show nE (if k=0 then (0,s++u)::A else (0,u)::(k,s)::A)=_
  split
  ·rename_i h;simp [nE,h]
  ·simp [nE]
theorem dD0:∀{P:List Rp},Eds P→nE P=P.length
 | [],_=>rfl
 | d::P,h=>by
  have hd:=h d (by simp)
  unfold nE
  rw [if_neg (by omega),dD0 fun e he=>h e (by simp [he]),List.length_cons];omega
theorem YL {A P:List Rp} (hP:Eds P) (t:List Int):nE (stepE A P t)≤nE A+b2 (decide (cdR P≠0))+b2 (decide (ciR P≠0)):=by
 have hc:=uW hP
 unfold stepE
 by_cases h1:1 < P.length
 ·rw [if_pos h1]
  by_cases h2:cdR P=0
  ·rw [if_pos h2]
   have:ciR P≠0:=by omega
   simp [nE,h2,this,b2];omega
  ·rw [if_neg h2]
   by_cases h3:ciR P=0
   ·rw [if_pos h3];simp [nE,h2,h3,b2];omega
   ·rw [if_neg h3]
    have e:nE (fac A (bC P) (bB P) t).A=nE A:=by
     unfold fac;simp only;split
     ·rfl
     ·exact R9 _ _
    simp [nE,h2,h3,b2,e];omega
 ·rw [if_neg h1]
  by_cases h2:P=[]
  ·rw [if_pos h2,R9];omega
  ·rw [if_neg h2]
   have e:nE ((0,t)::(P.reverse++A))=P.length+nE A:=by
    show (if ((0:Int)=0) then 0 else 1)+nE (P.reverse++A)=_
    rw [if_pos rfl,fB,wK,dD0 hP];omega
   rw [e]
   have:P.length=1:=by
    have:=List.length_pos_iff.2 h2;omega
   by_cases c:cdR P=0
   ·have:ciR P≠0:=by omega
    simp [c,this,b2];omega
   ·have:ciR P=0:=by omega
    simp [c,this,b2];omega
theorem SV:∀(R A P:List Rp),Eds P→Ops R→nE (run1 A P R).1+b2 (decide (cdR (run1 A P R).2≠0))+b2 (decide (ciR (run1 A P R).2≠0))≤nE A+gw (decide (cdR P≠0)) (decide (ciR P≠0)) R
 | [],A,P,hP,_=>by
  rw [run1]
  exact Nat.le_of_eq (Nat.add_assoc _ _ _)
 | d::R,A,P,hP,hR=>by
  have hd:=hR.cons.1
  rw [run1]
  unfold gw
  by_cases h:d.1=0
  ·rw [if_pos h,if_pos h]
   have h1:=SV R (stepE A P d.2) [] Eds.nil hR.cons.2
   have h2:=YL (A:=A) hP d.2
   simp only [cdR,ciR,ne_eq,not_true_eq_false,decide_false] at h1
   simp only [ne_eq] at h2 h1 ⊢
   omega
  ·rw [if_neg h,if_neg h]
   have h1:=SV R A (P++[d]) (hP.snoc hd h) hR.cons.2
   have e1:decide (cdR (P++[d])≠0)=(decide (cdR P≠0)||decide (d.1= -1)):=by
    rw [mZ];simp only [cdR]
    by_cases c:d.1= -1 <;> simp [c]
   have e2:decide (ciR (P++[d])≠0)=(decide (ciR P≠0)||decide (d.1≠ -1)):=by
    rw [nO];simp only [ciR]
    rcases hd with c | c | c
    ·simp [c]
    ·exact absurd c h
    ·simp [c]
   rw [e1,e2] at h1
   exact h1
theorem eH4:∀A:List Rp,nE (chop A)≤nE A
 | []=>Nat.le_refl _
 | (k,s)::A=>by
  show nE (if s=[] then A else (k,s)::A)≤_
  split
  ·simp [nE]
  ·exact Nat.le_refl _
theorem I5 {x:List Rp} (hx:Ops x):nE (join1 x)≤gw false false x:=by
 unfold join1
 rw [wK]
 have h1:=SV x [] [] Eds.nil hx
 have h2:=lM x [] [] Eds.nil hx
 have h3:=YL (A:=(run1 [] [] x).1) h2.2 []
 have h4:=eH4 (stepE (run1 [] [] x).1 (run1 [] [] x).2 [])
 simp only [cdR,ciR,ne_eq,not_true_eq_false,decide_false,nE] at h1
 simp only [ne_eq] at h3 h1
 omega
theorem J7:∀(k:Nat) (A R:List Rp) (ch:Bool),R.length=k→nE (slide A R ch).1=nE (A.reverse++R):=by
 intro k
 induction k using Nat.strongRecOn with
 | _ k ih=>
  intro A R ch hk
  match R,hk with
  | [],_=>unfold slide;rfl
  | [a],_=>unfold slide;rfl
  | [a,b],_=>unfold slide;rfl
  | p::c::q::R,hk=>
   simp only [List.length_cons] at hk
   have skip:nE (slide (p::A) (c::q::R) ch).1=nE (A.reverse++p::c::q::R):=by
    rw [ih _ (by simp only [List.length_cons];omega) (p::A) (c::q::R) ch rfl];simp
   unfold slide
   split
   ·rename_i h
    split
    ·rw [ih _ (by simp only [List.length_cons];omega) _ _ _ rfl,List.reverse_cons,fB,fB,fB]
     simp [nE,h.1,h.2];omega
    ·split
     ·rw [ih _ (by simp only [List.length_cons];omega) _ _ _ rfl,List.reverse_cons,fB,fB,fB]
      simp [nE,h.1,h.2]
     ·exact skip
   ·exact skip
theorem ON:∀(k:Nat) {x:List Rp},Ok x→nE (mergeN (k+1) x)≤gw false false x
 | 0,x,hx=>by
  have h1:=I5 hx.ops
  have h2:=J7 _ [] (join1 x) false rfl
  rw [List.reverse_nil,List.nil_append] at h2
  rw [mergeN]
  split
  ·rw [mergeN];omega
  ·omega
 | k+1,x,hx=>by
  have h1:=I5 hx.ops
  have h2:=J7 _ [] (join1 x) false rfl
  rw [List.reverse_nil,List.nil_append] at h2
  rw [mergeN]
  split
  ·have h3:=ON k (x:=(slide [] (join1 x) false).1) (Ok.slide _ rfl Ok.nil hx.join1)
   have h4:=bE4 (slide [] (join1 x) false).1 false false
   have e:b2 false=0:=rfl
   rw [e] at h4
   omega
  ·omega
theorem dT1 {x:List Rp} (hx:Ok x):nE (merge x)≤gw false false x:=ON _ hx
theorem BB (n:Nat) (hn:Big≤n) (t:List Int) (ht:Valids t) (hl:t.length≤1000000000):g85 n (enc t)=some ((t.length:Int),()):=by
 have key:∀(v u:List Int) (m:Nat),t=u++v→v.length < m→g85_3L n (fun v2=>@some (DenR [.dat (.int .i64)]) (v2,())) m (u.length:Int) (enc t) (enc u).size=some ((t.length:Int),()):=by
  intro v
  induction v with
  | nil=>
   intro u m e hm
   obtain ⟨m,rfl⟩:∃m',m=m'+1:=⟨m - 1,by simp at hm;omega⟩
   rw [List.append_nil] at e
   subst e
   rw [g85_3L.eq_2,bG5]
   have:Nat.blt (enc t).size (enc t).size=false:=by rw [Bool.eq_false_iff];intro h;rw [Nat.blt_eq] at h;omega
   rw [this];rfl
  | cons c v ih=>
   intro u m e hm
   obtain ⟨m,rfl⟩:∃m',m=m'+1:=⟨m - 1,by omega⟩
   have hv:Utf8.valid c=true:=ht c (by rw [e];simp)
   have hs:(enc t).size=(enc u).size+((Utf8.encode c).size+(enc v).size):=by rw [e,cD,eG]
   have hp:=lH c
   have hd:(Utf8.decode (enc t) (enc u).size).2=(Utf8.encode c).size:=by
    have:=oK (enc u) (enc v) c hv
    rw [e,aX,show enc (c::v)=Utf8.encode c++enc v from jM c v,←ByteArray.append_assoc,this]
   rw [g85_3L.eq_2,bG5]
   have hll:=congrArg List.length e
   simp only [List.length_append,List.length_cons] at hll
   have:Nat.blt (enc u).size (enc t).size=true:=by rw [Nat.blt_eq];omega
   rw [this,cond_true,hd,aG (by omega) (by omega)]
   have:=ih (u++[c]) m (by rw [e];simp) (by simp at hm;omega)
   rw [cD,List.length_append] at this
   have e1:(enc [c]).size=(Utf8.encode c).size:=by rw [eG];rfl
   rw [e1] at this
   have e2:((u.length+[c].length:Nat):Int)=(u.length:Int)+1:=by simp
   rw [e2] at this
   exact this
 dsimp only [g85,aX9,dJ3,cW8,dP3,dP9]
 have:=key t [] n rfl (by unfold Big at hn;omega)
 exact this
def dlR (l:List Rp):Nat:=((l.filter fun d=>d.1== -1).map fun d=>d.2.length).sum
def inR (l:List Rp):Nat:=((l.filter fun d=>d.1==1).map fun d=>d.2.length).sum
structure fE3 (p:List Rp) (lev ins del:Int):Prop where
 i0:0≤ins
 d0:0≤del
 l0:0≤lev
 up:lev≤(edR p:Int) - ins - del
 lo:(edR p:Int) - ins - del≤2 * lev
 a:(dlR p:Int) - del - (inR p - ins)≤lev
 b:(inR p:Int) - ins - (dlR p - del)≤lev
theorem eT6 {x:List Rp} {c:Nat} (h:c+1 < x.length):∃X a b Y,x=X++a::b::Y∧X.length=c:=by
 refine ⟨x.take c,x[c],x[c+1],x.drop (c+2),?_,by rw [List.length_take];omega⟩
 have h1:=List.drop_eq_getElem_cons (i:=c) (l:=x) (by omega)
 have h2:=List.drop_eq_getElem_cons (i:=c+1) (l:=x) h
 rw [←h2,←h1,List.take_append_drop]
structure DP (x y:List Rp):Prop where
 ok:Ok y
 src:bQ y=bQ x
 tgt:bP y=bP x
 ne:x≠[]→y≠[]
theorem cI0 {β:Type} (n:Nat) (hn:Big≤n) (p0) (kx:List Prt→Option β):∀(d:Nat) (x:List Rp) (c m:Nat),x.length - (c+1)=d→d < m→Ok x→(bQ x).length+(bP x).length≤1000000→2 * x.length≤1000000+c→
  x.length≤1000000→c≤2000000→∃y,g112_18L n kx m p0 (M x) ((c:Int)+1)=kx (M y)∧(DP x y∧nE y=nE x)∧y.length≤x.length+d:=by
 intro d
 induction d using Nat.strongRecOn with
 | _ d ih=>
  intro x c m hd hm hx hT hL hxl hc
  obtain ⟨m,rfl⟩:∃m',m=m'+1:=⟨m - 1,by omega⟩
  have hml:=bA x
  rw [g112_18L.eq_2,SG]
  by_cases hlt:c+1 < x.length
  ·obtain ⟨X,a,b,Y,hxe,hX⟩:=eT6 hlt
   subst hxe
   have hXM:=bA X
   have hYM:=bA Y
   have hlen:(X++a::b::Y).length=c+2+Y.length:=by simp;omega
   have hMx:M (X++a::b::Y)=M X++(a.1,enc a.2)::(b.1,enc b.2)::M Y:=by rw [bZ];rfl
   have w1:w64 ((c:Int)+1 - 1)=(c:Int):=by rw [aG (by omega) (by omega)];omega
   have w2:w64 ((c:Int)+1+1)=(c:Int)+2:=by rw [aG (by omega) (by omega)];omega
   have w3:w64 ((c:Int)+2+1)=(c:Int)+3:=by rw [aG (by omega) (by omega)];omega
   have w4:w64 ((c:Int)+3+1)=(c:Int)+4:=by rw [aG (by omega) (by omega)];omega
   have q1:rd (M (X++a::b::Y)) (c:Int) ((0:Int),(⟨#[]⟩:BA))=(a.1,enc a.2):=by rw [hMx];exact fM (by omega)
   have q2:rd (M (X++a::b::Y)) ((c:Int)+1) ((0:Int),(⟨#[]⟩:BA))=(b.1,enc b.2):=by
    rw [hMx,show M X++(a.1,enc a.2)::(b.1,enc b.2)::M Y=(M X++[(a.1,enc a.2)])++(b.1,enc b.2)::M Y by simp]
    exact fM (by simp;omega)
   have R1:∀(u z v:Prt),rd (M X++u::z::v::M Y) (c:Int) ((0:Int),(⟨#[]⟩:BA))=u:=fun u z v=>fM (by omega)
   have R2:∀(u z v:Prt),rd (M X++u::z::v::M Y) ((c:Int)+2) ((0:Int),(⟨#[]⟩:BA))=v:=fun u z v=>by
    rw [show M X++u::z::v::M Y=(M X++[u,z])++v::M Y by simp]
    exact fM (by simp;omega)
   have S1:∀(u z v w:Prt),(M X++u::z::v::M Y).set ((c:Int)).toNat w=M X++w::z::v::M Y:=fun u z v w=>iJ (by omega)
   have S2:∀(u z v w:Prt),(M X++u::z::v::M Y).set ((c:Int)+2).toNat w=M X++u::z::w::M Y:=fun u z v w=>by
    rw [show M X++u::z::v::M Y=(M X++[u,z])++v::M Y by simp,iJ (by simp;omega)]
    simp
   have L1:∀(u z v:Prt),((M X++u::z::v::M Y).length:Int)=(c:Int)+3+(Y.length:Int):=fun u z v=>by simp;omega
   have skip1:∃y,g112_18L n kx m p0 (M (X++a::b::Y)) ((c:Int)+2)=kx (M y)∧(DP (X++a::b::Y) y∧nE y=nE (X++a::b::Y))∧y.length≤(X++a::b::Y).length+d:=by
    obtain ⟨y,h1,h2,h3⟩:=ih ((X++a::b::Y).length - (c+1+1)) (by omega) _ (c+1) m rfl (by omega) hx hT (by omega) hxl (by omega)
    exact ⟨y,by rw [show (c:Int)+2=((c+1:Nat):Int)+1 by omega];exact h1,h2,by omega⟩
   have skip2:∃y,g112_18L n kx m p0 (M (X++a::b::Y)) ((c:Int)+3)=kx (M y)∧(DP (X++a::b::Y) y∧nE y=nE (X++a::b::Y))∧y.length≤(X++a::b::Y).length+d:=by
    obtain ⟨y,h1,h2,h3⟩:=ih ((X++a::b::Y).length - (c+2+1)) (by omega) _ (c+2) m rfl (by omega) hx hT (by omega) hxl (by omega)
    exact ⟨y,by rw [show (c:Int)+3=((c+2:Nat):Int)+1 by omega];exact h1,h2,by omega⟩
   have ins:∀(u z v:Rp),OkR u→OkR z→OkR v→bQ [u,z,v]=bQ [a,b]→bP [u,z,v]=bP [a,b]→nE [u,z,v]=nE [a,b]→
     ∃y,g112_18L n kx m p0 (M X++(u.1,enc u.2)::(z.1,enc z.2)::(v.1,enc v.2)::M Y) ((c:Int)+4)=kx (M y)∧(DP (X++a::b::Y) y∧nE y=nE (X++a::b::Y))∧y.length≤(X++a::b::Y).length+d:=by
    intro u z v hu hz hv hs ht hne
    have hox:=hx.of_append
    have hoy:Ok Y:=hox.2.of_cons.2.of_cons.2
    have e1:∀A:List Rp,X++u::z::v::A=X++[u,z,v]++A:=fun A=>by simp
    have e2:X++a::b::Y=X++[a,b]++Y:=by simp
    have s1:bQ (X++u::z::v::Y)=bQ (X++a::b::Y):=by rw [e1,e2,bI,bI,bI,bI,hs]
    have s2:bP (X++u::z::v::Y)=bP (X++a::b::Y):=by rw [e1,e2,bH,bH,bH,bH,ht]
    have s3:nE (X++u::z::v::Y)=nE (X++a::b::Y):=by rw [e1,e2,fB,fB,fB,fB,hne]
    have hl3:(X++u::z::v::Y).length=c+3+Y.length:=by simp;omega
    obtain ⟨y,h1,h2,h3⟩:=ih ((X++u::z::v::Y).length - (c+3+1)) (by omega) (X++u::z::v::Y) (c+3) m rfl (by omega) (hox.1.append (Ok.cons' hu (Ok.cons' hz (Ok.cons' hv hoy)))) (by rw [s1,s2];exact hT) (by omega) (by omega) (by omega)
    refine ⟨y,?_,⟨⟨h2.1.ok,h2.1.src.trans s1,h2.1.tgt.trans s2,fun _=>h2.1.ne (by simp)⟩,h2.2.trans s3⟩,by omega⟩
    rw [show (c:Int)+4=((c+3:Nat):Int)+1 by omega,←h1,bZ]
    rfl
   have hsp:∀z:Prt,qV n (M (X++a::b::Y)) ((c:Int)+1) (0:Int) [z]=some (M X++(a.1,enc a.2)::z::(b.1,enc b.2)::M Y,()):=fun z=>by
    have:=jQ n hn (M (X++a::b::Y)) [z] (c+1) 0 (by omega) (by omega) (by simp)
    rw [show ((c+1:Nat):Int)=(c:Int)+1 by omega,show ((0:Nat):Int)=(0:Int) from rfl] at this
    rw [this,hMx,show M X++(a.1,enc a.2)::(b.1,enc b.2)::M Y=(M X++[(a.1,enc a.2)])++(b.1,enc b.2)::M Y by simp,List.take_left' (by simp;omega),List.drop_left' (by simp;omega)]
    simp
   have hal:=lX (x:=X++a::b::Y)
   have ha1:a.2.length≤1000000:=by have:=lT (l:=X++a::b::Y) (d:=a) (by simp);omega
   have hb1:b.2.length≤1000000:=by have:=lT (l:=X++a::b::Y) (d:=b) (by simp);omega
   have hva:=(hx a (by simp)).2
   have hvb:=(hx b (by simp)).2
   have z1:=aV a.2
   have z2:=aV b.2
   rw [bdT (by omega)]
   simp only [w1,w2,w3,w4,q1,q2]
   rw [aP (by omega) (by omega)]
   by_cases ha:a.1= -1
   ·rw [biT (by rw [ha];rfl),aP (by omega) (by omega)]
    by_cases hb:b.1=1
    ·rw [biT (by rw [hb];rfl),aP (by omega) (by omega),aP (by omega) (by omega)]
     obtain ⟨xa,o,yb,i1,i2,i3⟩:=LL n hn p0 a.2 b.2 hva hvb (by omega) (by omega)
     obtain ⟨xb,o',ya,j1,j2,j3⟩:=LL n hn p0 b.2 a.2 hvb hva (by omega) (by omega)
     rw [aW i3,aW j3]
     obtain ⟨f1,g1⟩:=OE a.2.length (by omega)
     obtain ⟨f2,g2⟩:=OE b.2.length (by omega)
     have ca:=BB n hn a.2 hva (by omega)
     have cb:=BB n hn b.2 hvb (by omega)
     have hea:enc a.2=enc xa++enc o:=by rw [i1,aX]
     have heb:enc b.2=enc o++enc yb:=by rw [i2,aX]
     have hea':enc a.2=enc o'++enc ya:=by rw [j2,aX]
     have heb':enc b.2=enc xb++enc o':=by rw [j1,aX]
     have t1:=congrArg ByteArray.size hea
     have t2:=congrArg ByteArray.size heb
     have t3:=congrArg ByteArray.size hea'
     have t4:=congrArg ByteArray.size heb'
     rw [size_append] at t1 t2 t3 t4
     have k1:bD (enc b.2) 0 ((enc o).size:Int)=enc o:=by rw [heb];exact cV _ _
     have k2:bD (enc b.2) ((enc o).size:Int) ((enc b.2).size:Int)=enc yb:=by
      have:=dO (enc o) (enc yb);rw [←heb] at this;exact this
     have u1:w64 (((enc a.2).size:Int) - ((enc o).size:Int))=((enc xa).size:Int):=by rw [aG (by omega) (by omega)];omega
     have k3:bD (enc a.2) 0 ((enc xa).size:Int)=enc xa:=by rw [hea];exact cV _ _
     have k4:bD (enc a.2) 0 ((enc o').size:Int)=enc o':=by rw [hea'];exact cV _ _
     have k5:bD (enc a.2) ((enc o').size:Int) ((enc a.2).size:Int)=enc ya:=by
      have:=dO (enc o') (enc ya);rw [←hea'] at this;exact this
     have u2:w64 (((enc b.2).size:Int) - ((enc o').size:Int))=((enc xb).size:Int):=by rw [aG (by omega) (by omega)];omega
     have k6:bD (enc b.2) 0 ((enc xb).size:Int)=enc xb:=by rw [heb'];exact cV _ _
     have vxa:Valids xa:=fun q hq=>hva q (by rw [i1];simp [hq])
     have vo:Valids o:=fun q hq=>hva q (by rw [i1];simp [hq])
     have vyb:Valids yb:=fun q hq=>hvb q (by rw [i2];simp [hq])
     have vxb:Valids xb:=fun q hq=>hvb q (by rw [j1];simp [hq])
     have vo':Valids o':=fun q hq=>hvb q (by rw [j1];simp [hq])
     have vya:Valids ya:=fun q hq=>hva q (by rw [j2];simp [hq])
     have ins1:=ins ((-1:Int),xa) ((0:Int),o) ((1:Int),yb) ⟨.inl rfl,vxa⟩ ⟨.inr (.inl rfl),vo⟩ ⟨.inr (.inr rfl),vyb⟩ (by simp [bQ,ha,hb,i1]) (by simp [bP,ha,hb,i2]) (by simp [nE,ha,hb])
     have ins2:=ins ((1:Int),xb) ((0:Int),o') ((-1:Int),ya) ⟨.inr (.inr rfl),vxb⟩ ⟨.inr (.inl rfl),vo'⟩ ⟨.inl rfl,vya⟩ (by simp [bQ,ha,hb,j2]) (by simp [bP,ha,hb,j1]) (by simp [nE,ha,hb])
     simp only [k1,u1,u2,wR rfl]
     by_cases hr:((enc o).size:Int)≥((enc o').size:Int)
     ·rw [bdT hr,aW ca]
      simp only
      rw [g1]
      simp only [onS]
      cases (fGt .f64 (floatOfInt .f64 ((enc o).size:Int)) f1||fEq .f64 (floatOfInt .f64 ((enc o).size:Int)) f1)
      ·rw [cond_false,aW cb]
       simp only
       rw [g2]
       simp only [onS]
       cases (fGt .f64 (floatOfInt .f64 ((enc o).size:Int)) f2||fEq .f64 (floatOfInt .f64 ((enc o).size:Int)) f2)
       ·rw [cond_false];exact skip2
       ·rw [cond_true,bF (by omega) (by omega) (by omega),aW (hsp _)]
        simp only [R1,R2,S1,S2,L1]
        rw [bF (by omega) (by omega) (by omega),aP (by omega) (by omega),bF (by omega) (by omega) (by omega),aP (by omega) (by omega),k3,k2,ha,hb]
        exact ins1
      ·rw [cond_true,bF (by omega) (by omega) (by omega),aW (hsp _)]
       simp only [R1,R2,S1,S2,L1]
       rw [bF (by omega) (by omega) (by omega),aP (by omega) (by omega),bF (by omega) (by omega) (by omega),aP (by omega) (by omega),k3,k2,ha,hb]
       exact ins1
     ·rw [bdF hr,aW ca]
      simp only
      rw [g1]
      simp only [onS]
      cases (fGt .f64 (floatOfInt .f64 ((enc o').size:Int)) f1||fEq .f64 (floatOfInt .f64 ((enc o').size:Int)) f1)
      ·rw [cond_false,aW cb]
       simp only
       rw [g2]
       simp only [onS]
       cases (fGt .f64 (floatOfInt .f64 ((enc o').size:Int)) f2||fEq .f64 (floatOfInt .f64 ((enc o').size:Int)) f2)
       ·rw [cond_false];exact skip2
       ·rw [cond_true,bF (by omega) (by omega) (by omega),aW (hsp _)]
        simp only [R1,R2,S1,S2,L1]
        rw [aP (by omega) (by omega),bF (by omega) (by omega) (by omega),aP (by omega) (by omega),aP (by omega) (by omega),bF (by omega) (by omega) (by omega),aP (by omega) (by omega),k4,k5,k6]
        exact ins2
      ·rw [cond_true,bF (by omega) (by omega) (by omega),aW (hsp _)]
       simp only [R1,R2,S1,S2,L1]
       rw [aP (by omega) (by omega),bF (by omega) (by omega) (by omega),aP (by omega) (by omega),aP (by omega) (by omega),bF (by omega) (by omega) (by omega),aP (by omega) (by omega),k4,k5,k6]
       exact ins2
    ·rw [biF (by rw [beq_eq_false_iff_ne];exact hb)];exact skip1
   ·rw [biF (by rw [beq_eq_false_iff_ne];exact ha)];exact skip1
  ·rw [bdF (by omega)]
   exact ⟨x,rfl,⟨⟨hx,rfl,rfl,fun h=>h⟩,rfl⟩,by omega⟩
def nq:List Rp→Nat
 | []=>0
 | d::l=>(if d.1=0 then 1 else 0)+nq l
theorem BU:∀x y,nq (x++y)=nq x+nq y
 | [],y=>by simp [nq]
 | d::x,y=>by simp [nq,BU x y];omega
def IX (S:List Nat):List Int:=S.map (fun i:Nat=>(i:Int))
theorem uJ (x y:List Nat):IX (x++y)=IX x++IX y:=List.map_append
theorem pK (S:List Nat):(IX S).length=S.length:=List.length_map _
def aL9 (l:List Rp):Prop:=∃X d,l=X++[d]∧d.1≠0
structure eY8 (x:List Rp) (S:List Nat) (e:List Int) (ptr a b c d:Nat):Prop where
 cd:0 < c+d→aL9 (x.take ptr)
 eq:e=[]∨∃S' X Y,S=S'++[X.length]∧x=X++(0,e)::Y∧X.length < ptr∧(∀i (h:i < x.length),X.length < i→i < ptr→x[i].1≠0)∧(0 < a+b→aL9 X)
theorem S7 {β:Type} (n:Nat) (hn:Big≤n) (p0) (kx:_→List Prt→Bool→Option β) (L T:Nat) (hL:L≤10000) (hT:T≤1000000):∀(μ:Nat) (x:List Rp) (S:List Nat) (e:List Int) (v5:Bool) (ptr a b c d m:Nat),μ=nq x * (L+1)+(x.length - ptr)→μ < m→ptr≤x.length→x.length+nq x≤L→Ok x→(bQ x).length+(bP x).length≤T→
  (∀i∈S,i < x.length)→eY8 x S e ptr a b c d→Valids e→c+d≤cT (x.take ptr)→a+b≤T→S.length+μ≤1000000000→
  ∃y w,g112_13L n kx m p0 (M x) v5 (IX S) (enc e) (ptr:Int) (a:Int) (b:Int) (c:Int) (d:Int)=kx p0 (M y) w∧(DP x y∧gw false false y≤gw false false x∧(w=false→v5=false∧y=x))∧y.length≤L:=by
 intro μ
 induction μ using Nat.strongRecOn with
 | _ μ ih=>
  intro x S e v5 ptr a b c d m hμ hm hp hl hx ht hS hk he hcd hab hSl
  obtain ⟨m,rfl⟩:∃m',m=m'+1:=⟨m - 1,by omega⟩
  have hml:=bA x
  have hal:=lX (x:=x)
  have htk:=tQ x ptr
  rw [g112_13L.eq_2,HB,aD1]
  by_cases hlt:ptr < x.length
  ·rw [bdT (by omega)]
   unfold WT FJ t7
   have hI:ptr < (M x).length:=by omega
   have m1:(M x)[ptr]=emb x[ptr]:=List.getElem_map _
   have hrd:rd (M x) (ptr:Int) ((0:Int),(⟨#[]⟩:BA))=(x[ptr].1,enc x[ptr].2):=by rw [oE hI,m1];rfl
   have hts:cT (x.take (ptr+1))=cT (x.take ptr)+x[ptr].2.length:=by rw [List.take_succ_eq_append_getElem hlt,dV,cE,iY];omega
   have htk2:=tQ x (ptr+1)
   have hxs:=List.drop_eq_getElem_cons hlt
   have hxe:x=x.take ptr++x[ptr]::x.drop (ptr+1):=by rw [←hxs,List.take_append_drop]
   have hop:=hx x[ptr] (by simp)
   have wp:w64 ((ptr:Int)+1)=((ptr+1:Nat):Int):=by rw [aG (by omega) (by omega)];omega
   rw [aP (by omega) (by omega),hrd]
   unfold XI
   dsimp only
   by_cases h0:x[ptr].1=0
   ·rw [biT (by rw [h0];rfl)]
    unfold aQ8
    dsimp only
    rw [cA (by rw [pK];simp;omega),aP (by omega) (by omega),hrd]
    unfold JZ
    simp only [wp]
    have hd0:x[ptr]=((0:Int),x[ptr].2):=by rw [←h0]
    obtain ⟨y,w,e1,e2,e3⟩:=ih (nq x * (L+1)+(x.length - (ptr+1))) (by omega) x (S++[ptr]) x[ptr].2 v5 (ptr+1) c d 0 0 m rfl (by omega) (by omega) hl hx ht (fun i hi=>by rcases List.mem_append.1 hi with hi | hi;exact hS i hi;rw [List.mem_singleton.1 hi];exact hlt) ⟨fun h=>absurd h (by omega),.inr ⟨S,x.take ptr,x.drop (ptr+1),by rw [List.length_take];congr 2;omega,by rw [←hd0];exact hxe,by rw [List.length_take];omega,fun i hi q1 q2=>by rw [List.length_take] at q1;omega,hk.cd⟩⟩ hop.2 (by omega) (by omega) (by simp;omega)
    refine ⟨y,w,?_,e2,e3⟩
    rw [uJ] at e1
    exact e1
   ·rw [biF (by rw [beq_eq_false_iff_ne];exact h0)]
    unfold WW
    skip
    have hcnt:=BB n hn x[ptr].2 hop.2 (by omega)
    have hcnte:e.length≤1000000:=by
     rcases hk.eq with rfl | ⟨S',X,Y,q1,q2,_⟩
     ·simp
     ·have:e.length≤cT x:=lT (l:=x) (d:=(0,e)) (by rw [q2];simp)
      omega
    have hce:=BB n hn e he (by omega)
    have hends:aL9 (x.take (ptr+1)):=⟨x.take ptr,x[ptr],List.take_succ_eq_append_getElem hlt,h0⟩
    have hk':∀c' d':Nat,eY8 x S e (ptr+1) a b c' d':=fun c' d'=>⟨fun _=>hends,by
     rcases hk.eq with h | ⟨S',X,Y,q1,q2,q3,q4,q5⟩
     ·exact .inl h
     ·refine .inr ⟨S',X,Y,q1,q2,by omega,fun i hi r1 r2=>?_,q5⟩
      by_cases hip:i=ptr
      ·subst hip;exact h0
      ·exact q4 i hi r1 (by omega)⟩
    have six:∀c' d':Nat,c'+d'≤cT (x.take (ptr+1))→∃y w,TR n (fun p0 x1 v5 x6 v7 v8 v9 v10 v11 v12=>JZ n (g112_13L n kx m) p0 x1 v5 x6 v7 v8 v9 v10 v11 v12) p0 (M x) v5 (IX S) (enc e) (ptr:Int) (a:Int) (b:Int) (c':Int) (d':Int)=kx p0 (M y) w∧(DP x y∧gw false false y≤gw false false x∧(w=false→v5=false∧y=x))∧y.length≤L:=by
     intro c' d' hcd'
     have stay:∃y w,g112_13L n kx m p0 (M x) v5 (IX S) (enc e) ((ptr+1:Nat):Int) (a:Int) (b:Int) (c':Int) (d':Int)=kx p0 (M y) w∧(DP x y∧gw false false y≤gw false false x∧(w=false→v5=false∧y=x))∧y.length≤L:=
      ih (nq x * (L+1)+(x.length - (ptr+1))) (by omega) x S e v5 (ptr+1) a b c' d' m rfl (by omega) (by omega) hl hx ht hS (hk' c' d') he hcd' hab (by omega)
     unfold TR
     dsimp only
     rw [M9,Option.bind_some]
     simp only
     rw [show RX (floatOfInt .f64 (a:Int)) (floatOfInt .f64 (b:Int))=F64 (max a b) from dB0 a b (by omega) (by omega),SJ _ (by omega)]
     simp only [onS]
     rw [M9,Option.bind_some]
     simp only
     rw [show RX (floatOfInt .f64 (c':Int)) (floatOfInt .f64 (d':Int))=F64 (max c' d') from dB0 c' d' (by omega) (by omega),SJ _ (by omega)]
     simp only [onS]
     rw [aW hce]
     unfold JZ
     simp only [wp]
     by_cases g1:(e.length:Int)>0
     ·rw [bdT g1,aW hce]
      simp only
      by_cases g2:(e.length:Int)≤((max a b:Nat):Int)
      ·rw [bdT g2,aW hce]
       simp only
       by_cases g3:(e.length:Int)≤((max c' d':Nat):Int)
       ·rw [bdT g3]
        have hne:e≠[]:=fun h=>by rw [h] at g1;simp at g1
        obtain ⟨S',X,Y,q1,q2,q3,q4,q5⟩:=hk.eq.resolve_left hne
        have hSlen:(IX S).length=S'.length+1:=by rw [pK,q1];simp
        have hXl:X.length < x.length:=by rw [q2];simp
        have hSS:S'.length+1≤1000000000:=by rw [q1,List.length_append] at hSl;simp only [List.length_cons,List.length_nil] at hSl;omega
        have wS:w64 (((IX S).length:Int) - 1)=(S'.length:Int):=by rw [hSlen,aG (by omega) (by omega)];omega
        have rS:rd (IX S) (S'.length:Int) (0:Int)=(X.length:Int):=by
         rw [q1,uJ]
         exact fM (by rw [pK])
        have hMx:M x=M X++((0:Int),enc e)::M Y:=by rw [q2,bZ];rfl
        have hsp:qV n (M x) (X.length:Int) (0:Int) [((-1:Int),enc e)]=some (M X++((-1:Int),enc e)::((0:Int),enc e)::M Y,()):=by
         have:=jQ n hn (M x) [((-1:Int),enc e)] X.length 0 (by omega) (by omega) (by simp)
         rw [show ((0:Nat):Int)=(0:Int) from rfl] at this
         rw [this,hMx,Nat.add_zero,List.take_left' (bA X),List.drop_left' (bA X)]
         simp
        have wX:w64 ((X.length:Int)+1)=(X.length:Int)+1:=aG (by omega) (by omega)
        have rX:rd (M X++((-1:Int),enc e)::((0:Int),enc e)::M Y) ((X.length:Int)+1) ((0:Int),(⟨#[]⟩:BA))=((0:Int),enc e):=by
         rw [show M X++((-1:Int),enc e)::((0:Int),enc e)::M Y=(M X++[((-1:Int),enc e)])++((0:Int),enc e)::M Y by simp]
         exact fM (by simp [bA])
        have sX:∀w:Prt,(M X++((-1:Int),enc e)::((0:Int),enc e)::M Y).set ((X.length:Int)+1).toNat w=M X++((-1:Int),enc e)::w::M Y:=fun w=>by
         rw [show M X++((-1:Int),enc e)::((0:Int),enc e)::M Y=(M X++[((-1:Int),enc e)])++((0:Int),enc e)::M Y by simp,iJ (by simp [bA])]
         simp
        have hlen2:((M X++((-1:Int),enc e)::((0:Int),enc e)::M Y).length:Int)=(x.length:Int)+1:=by rw [q2];simp [bA];omega
        simp only [wS,rS]
        rw [aP (by omega) (by rw [hSlen];omega),aW hsp]
        simp only [wX,rX,sX,hlen2]
        rw [aP (by omega) (by omega),bF (by omega) (by omega) (by rw [hSlen];omega)]
        have hx':Ok (X++(-1,e)::(1,e)::Y):=by
         have hx2:=hx
         rw [q2] at hx2
         have h1:=hx2.of_append
         exact h1.1.append (Ok.cons' ⟨.inl rfl,he⟩ (Ok.cons' ⟨.inr (.inr rfl),he⟩ h1.2.of_cons.2))
        have hMx':M (X++(-1,e)::(1,e)::Y)=M X++((-1:Int),enc e)::((1:Int),enc e)::M Y:=by rw [bZ];rfl
        have hs':bQ (X++(-1,e)::(1,e)::Y)=bQ x:=by rw [q2,bI,bI];simp [bQ]
        have ht':bP (X++(-1,e)::(1,e)::Y)=bP x:=by rw [q2,bH,bH];simp [bP]
        have hq':nq (X++(-1,e)::(1,e)::Y)+1=nq x:=by rw [q2,BU,BU];simp [nq];omega
        have hgw:gw false false (X++(-1,e)::(1,e)::Y)≤gw false false x:=by
         obtain ⟨X',d1,r1,r2⟩:=q5 (by omega)
         have hYl:x.length=X.length+1+Y.length:=by rw [q2];simp;omega
         have hlt2:X.length+1 < x.length:=by omega
         cases Y with
         | nil=>simp at hYl;omega
         | cons d2 Y2=>
          have hd2:d2.1≠0:=by
           have hg:x[X.length+1]=d2:=by
            simp only [q2,List.getElem_append_right (show X.length≤X.length+1 by omega),Nat.add_sub_cancel_left,List.getElem_cons_succ,List.getElem_cons_zero]
           by_cases hip:X.length+1=ptr
           ·rw [←hg];simp only [hip];exact h0
           ·rw [←hg];exact q4 _ hlt2 (by omega) (by omega)
          rw [q2,r1]
          have:=bJ8 e d1 d2 r2 hd2 Y2 X' false false
          simpa using this
        have hl':(X++(-1,e)::(1,e)::Y).length=x.length+1:=by rw [q2];simp;try omega
        have hmul:nq x * (L+1)=nq (X++(-1,e)::(1,e)::Y) * (L+1)+(L+1):=by rw [←hq',Nat.succ_mul]
        have go:∀(S2:List Nat) (p2:Nat),(∀i∈S2,i∈S)→S2.length≤S.length→p2≤x.length→∃y w,g112_13L n kx m p0 (M X++((-1:Int),enc e)::((1:Int),enc e)::M Y) true (IX S2) (⟨#[]⟩:BA) (p2:Int) (0:Int) (0:Int) (0:Int) (0:Int)=kx p0 (M y) w∧(DP x y∧gw false false y≤gw false false x∧(w=false→v5=false∧y=x))∧y.length≤L:=by
         intro S2 p2 hs2 hsl2 hp2
         obtain ⟨y,w,e1,e2,e3⟩:=ih (nq (X++(-1,e)::(1,e)::Y) * (L+1)+((X++(-1,e)::(1,e)::Y).length - p2)) (by omega) (X++(-1,e)::(1,e)::Y) S2 [] true p2 0 0 0 0 m rfl (by omega) (by omega) (by omega) hx' (by rw [hs',ht'];exact ht) (fun i hi=>by have:=hS i (hs2 i hi);omega) ⟨fun h=>absurd h (by omega),.inl rfl⟩ Valids.nil (by omega) (by omega) (by omega)
         refine ⟨y,w,?_,⟨⟨e2.1.ok,e2.1.src.trans hs',e2.1.tgt.trans ht',fun _=>e2.1.ne (by simp)⟩,Nat.le_trans e2.2.1 hgw,fun h=>absurd (e2.2.2 h).1 (by decide)⟩,e3⟩
         rw [hMx'] at e1
         exact e1
        rcases List.eq_nil_or_concat S' with hS' | ⟨S1,j,hS'⟩
        ·subst hS'
         rw [bdF (by simp),bdF (by simp)]
         have hc0:cut (IX S) 0 (0+(((([]:List Nat).length:Nat):Int) - 0))=IX []:=by rw [YS];simp [IX]
         rw [hc0,show w64 (-1+1)=((0:Nat):Int) from rfl]
         exact go [] 0 (fun i hi=>by cases hi) (by simp) (by omega)
        ·rw [List.concat_eq_append] at hS'
         have hS'l:S'.length=S1.length+1:=by rw [hS'];simp
         have w5:w64 ((S'.length:Int) - 0 - 1)=(S1.length:Int):=by rw [hS'l,aG (by omega) (by omega)];omega
         rw [bdT (by omega)]
         simp only [w5]
         rw [bF (by omega) (by omega) (by omega)]
         have hcut:cut (IX S) (0+0) (0+0+((S1.length:Int) - 0))=IX S1:=by
          rw [show (0:Int)+0=0 from rfl,YS,q1,hS',show (0+((S1.length:Int) - 0)).toNat=S1.length by omega,List.append_assoc,uJ]
          exact List.take_left' (pK S1)
         have hsub:∀i∈S1,i∈S:=fun i hi=>by rw [q1,hS'];simp [hi]
         have hsl1:S1.length≤S.length:=by rw [q1,hS'];simp
         rcases List.eq_nil_or_concat S1 with hS1 | ⟨S2,i,hS1⟩
         ·rw [bdF (by rw [hS1];simp),hcut,show w64 (-1+1)=((0:Nat):Int) from rfl]
          exact go S1 0 hsub hsl1 (by omega)
         ·rw [List.concat_eq_append] at hS1
          have hS1l:S1.length=S2.length+1:=by rw [hS1];simp
          have w6:w64 ((S1.length:Int) - 0 - 1)=(S2.length:Int):=by rw [hS1l,aG (by omega) (by omega)];omega
          have hi:i < x.length:=hS i (by rw [q1,hS',hS1];simp)
          have r6:rd (IX S) (0+0+(S2.length:Int)) (0:Int)=(i:Int):=by
           rw [q1,hS',hS1,show S2++[i]++[j]++[X.length]=S2++i::[j,X.length] by simp,uJ]
           exact fM (by rw [pK];omega)
          rw [bdT (by omega)]
          simp only [w6,r6]
          rw [aP (by omega) (by omega),hcut,show w64 ((i:Int)+1)=((i+1:Nat):Int) by rw [aG (by omega) (by omega)];omega]
          exact go S1 (i+1) hsub hsl1 (by omega)
       ·rw [bdF g3];exact stay
      ·rw [bdF g2];exact stay
     ·rw [bdF g1];exact stay
    unfold u5
    dsimp only
    rw [aP (by omega) (by omega),hrd]
    simp only
    by_cases h1:x[ptr].1=1
    ·rw [biT (by rw [h1];rfl),aP (by omega) (by omega),aW hcnt]
     simp only
     rw [show w64 ((c:Int)+(x[ptr].2.length:Int))=((c+x[ptr].2.length:Nat):Int) by rw [aG (by omega) (by omega)];omega]
     exact six _ _ (by omega)
    ·rw [biF (by rw [beq_eq_false_iff_ne];exact h1),aP (by omega) (by omega),aW hcnt]
     simp only
     rw [show w64 ((d:Int)+(x[ptr].2.length:Int))=((d+x[ptr].2.length:Nat):Int) by rw [aG (by omega) (by omega)];omega]
     exact six _ _ (by omega)
  ·rw [bdF (by omega)]
   exact ⟨x,v5,rfl,⟨⟨hx,rfl,rfl,fun h=>h⟩,Nat.le_refl _,fun h=>⟨h,rfl⟩⟩,by omega⟩
theorem U2 {x:List Rp} (hx:Ok x):(merge x).length≤phi x:=by
 have h3:∀(k:Nat) {y:List Rp},Ok y→phi (mergeN k y)≤phi y:=by
  intro k
  induction k with
  | zero=>intro y hy;exact Nat.le_refl _
  | succ k ih=>
   intro y hy
   have hj:=pH hy.ops
   have hs:=tR _ [] (join1 y) false rfl
   have h0:phi []=0:=rfl
   rw [mergeN]
   split
   ·have:=ih (Ok.slide _ rfl Ok.nil hy.join1) (y:=(slide [] (join1 y) false).1)
    omega
   ·omega
 have h1:=h3 (phi x+1) hx
 have h2:(merge x).length≤phi (merge x):=by unfold phi;omega
 exact Nat.le_trans h2 h1
theorem eN5:∀x:List Rp,nq x≤x.length
 | []=>Nat.le_refl _
 | d::x=>by have:=eN5 x;unfold nq;split <;> simp <;> omega
theorem BT:∀x:List Rp,nE x=(fC x).length
 | []=>rfl
 | d::x=>by
  have:=BT x
  unfold nE fC
  by_cases h:d.1=0 <;> simp [h,this] <;> omega
theorem K8 (n:Nat) (hn:Big≤n) (p0) (x:List Rp) (hx:Ok x) (hl:x.length≤2500) (ha:cT x≤100000):∃y,eF8 n p0 (M x)=some (M y,())∧Ok y∧bQ y=bQ x∧bP y=bP x∧y.length≤500000∧nE y≤nE x:=by
 have hB:(4611686018427387904:Nat)≤n:=hn
 have hml:=bA x
 have hq:=eN5 x
 have hT:=cJ8 x
 dsimp only [eF8,FW,aD4]
 rw [bF (by omega) (by omega) (by omega),sD (by omega)]
 unfold SP QC
 have hmul:nq x * (x.length+nq x+1)≤2500 * 5001:=Nat.mul_le_mul (by omega) (by omega)
 obtain ⟨y,w,e1,e2,e3⟩:=S7 n hn p0 (fun p0 x1 v5=>qH n (fun p0 x1=>qN n (fun p0 x1 v8=>pS n (fun x1=>pR n (fun x4=>some (x4,())) x1) p0 x1 v8) p0 x1) p0 x1 v5) (x.length+nq x) 200000 (by omega) (by omega) (nq x * (x.length+nq x+1)+(x.length - 0)) x [] [] false 0 0 0 0 0 n rfl (by omega) (by omega) (by omega) hx (by omega) (fun i hi=>by cases hi) ⟨fun h=>absurd h (by omega),.inl rfl⟩ Valids.nil (by omega) (by omega) (by simp only [List.length_nil];omega)
 have e1':∀R:Option (DenR BV),qH n (fun p0 x1=>qN n (fun p0 x1 v8=>pS n (fun x1=>pR n (fun x4=>some (x4,())) x1) p0 x1 v8) p0 x1) p0 (M y) w=R→g112_13L n (fun p0 x1 v5=>qH n (fun p0 x1=>qN n (fun p0 x1 v8=>pS n (fun x1=>pR n (fun x4=>some (x4,())) x1) p0 x1 v8) p0 x1) p0 x1 v5) n p0 (M x) false (List.replicate (0:Int).toNat (0:Int)) (⟨#[]⟩:BA) (0:Int) (0:Int) (0:Int) (0:Int) (0:Int)=R:=fun R h=>(show _=_ from e1).trans h
 have hal:=lX (x:=y)
 obtain ⟨e2,eg,ew⟩:=e2
 have hgl:=bE4 x false false
 have hb0:b2 false=0:=rfl
 rw [hb0] at hgl
 rw [e2.src,e2.tgt] at hal
 have tail:∀z:List Rp,Ok z→bQ z=bQ x→bP z=bP x→z.length≤206000→nE z≤nE x→∃y,qN n (fun p0 x1 v8=>pS n (fun x1=>pR n (fun x4=>@some (DenR BV) (x4,())) x1) p0 x1 v8) p0 (M z)=some (M y,())∧Ok y∧bQ y=bQ x∧bP y=bP x∧y.length≤500000∧nE y≤nE x:=by
  intro z hz hs ht hzl hzn
  have hza:=lX (x:=z)
  rw [hs,ht] at hza
  have hi:=@RT z
  have hil:=hi.2.2.2.2.1
  unfold qN
  rw [aW (G5 n hn p0 z hz (by omega) (by omega))]
  unfold pS UH
  obtain ⟨v,f1,f2,f3⟩:=cI0 n hn p0 (fun x1=>pR n (fun x4=>@some (DenR BV) (x4,())) x1) ((iL z).length - (0+1)) (iL z) 0 n rfl (by omega) (hi.2.2.2.1 hz) (by rw [hi.1,hi.2.1,hs,ht];omega) (by omega) (by omega) (by omega)
  obtain ⟨f2,fn⟩:=f2
  have hnl:nE (iL z)=nE z:=by rw [BT,BT,hi.2.2.1]
  refine ⟨v,?_,f2.ok,by rw [f2.src,hi.1,hs],by rw [f2.tgt,hi.2.1,ht],by omega,by omega⟩
  exact f1
 cases w with
 | false=>
  obtain ⟨v,f1,f2⟩:=tail y e2.ok e2.src e2.tgt (by omega) (by rw [(ew rfl).2];exact Nat.le_refl _)
  refine ⟨v,?_,f2⟩
  refine e1' _ ?_
  unfold qH
  rw [cond_false]
  exact f1
 | true=>
  have hph:phi y≤206000:=by have:=IR y;unfold phi;omega
  have hmt:=DJ e2.ok
  have hmlen:=U2 e2.ok
  have hmo:cE1 n p0 (M y)=@some (DenR hQ) (M (merge y),()):=Q2 n hn p0 y e2.ok (by omega) (by rw [e2.src,e2.tgt];omega)
  obtain ⟨v,f1,f2⟩:=tail (merge y) e2.ok.merge (hmt.1.trans e2.src) (hmt.2.1.trans e2.tgt) (by omega) (by have:=dT1 e2.ok;omega)
  refine ⟨v,?_,f2⟩
  refine e1' _ ?_
  unfold qH
  rw [cond_true,aW hmo]
  exact f1
theorem fB8 (a m:Nat) (ha:a < 4294967296) (hm:m < 4294967296):eB .u32 (a:Int) (m:Int)=((a&&& m:Nat):Int):=by
 have e:(BitVec.ofInt 32 (a:Int)&&& BitVec.ofInt 32 (m:Int)).toNat=a&&& m:=by
  rw [BitVec.ofInt_natCast,BitVec.ofInt_natCast,BitVec.toNat_and,BitVec.toNat_ofNat,BitVec.toNat_ofNat,Nat.mod_eq_of_lt ha,Nat.mod_eq_of_lt hm]
 have hl:a&&& m≤a:=Nat.and_le_left
 show IntKind.u32.wrap ((BitVec.ofInt 32 (a:Int)&&& BitVec.ofInt 32 (m:Int)).toNat:Int)=_
 rw [e,gM (by omega) (by omega)]
theorem fD6 (a m:Nat) (ha:a < 256) (hm:m < 256):eB .u8 (a:Int) (m:Int)=((a&&& m:Nat):Int):=by
 have e:(BitVec.ofInt 8 (a:Int)&&& BitVec.ofInt 8 (m:Int)).toNat=a&&& m:=by
  rw [BitVec.ofInt_natCast,BitVec.ofInt_natCast,BitVec.toNat_and,BitVec.toNat_ofNat,BitVec.toNat_ofNat,Nat.mod_eq_of_lt ha,Nat.mod_eq_of_lt hm]
 have hl:a&&& m≤a:=Nat.and_le_left
 show IntKind.u8.wrap ((BitVec.ofInt 8 (a:Int)&&& BitVec.ofInt 8 (m:Int)).toNat:Int)=_
 rw [e,dY9 (by omega) (by omega)]
theorem or8 (a m:Nat) (ha:a < 256) (hm:m < 256):orI .u8 (a:Int) (m:Int)=((a||| m:Nat):Int):=by
 have e:(BitVec.ofInt 8 (a:Int)||| BitVec.ofInt 8 (m:Int)).toNat=a||| m:=by
  rw [BitVec.ofInt_natCast,BitVec.ofInt_natCast,BitVec.toNat_or,BitVec.toNat_ofNat,BitVec.toNat_ofNat,Nat.mod_eq_of_lt ha,Nat.mod_eq_of_lt hm]
 have hl:a||| m < 2 ^ 8:=Nat.or_lt_two_pow ha hm
 show IntKind.u8.wrap ((BitVec.ofInt 8 (a:Int)||| BitVec.ofInt 8 (m:Int)).toNat:Int)=_
 rw [e,dY9 (by omega) (by omega)]
theorem fD3 (a m:Nat) (ha:a < 4294967296) (hm:m < 4294967296):orI .u32 (a:Int) (m:Int)=((a||| m:Nat):Int):=by
 have e:(BitVec.ofInt 32 (a:Int)||| BitVec.ofInt 32 (m:Int)).toNat=a||| m:=by
  rw [BitVec.ofInt_natCast,BitVec.ofInt_natCast,BitVec.toNat_or,BitVec.toNat_ofNat,BitVec.toNat_ofNat,Nat.mod_eq_of_lt ha,Nat.mod_eq_of_lt hm]
 have hl:a||| m < 2 ^ 32:=Nat.or_lt_two_pow ha hm
 show IntKind.u32.wrap ((BitVec.ofInt 32 (a:Int)||| BitVec.ofInt 32 (m:Int)).toNat:Int)=_
 rw [e,gM (by omega) (by omega)]
theorem dA7 (k a b:Nat) (hb:b < 2 ^ k):2 ^ k * a||| b=2 ^ k * a+b:=(Nat.two_pow_add_eq_or_of_lt hb a).symm
theorem aZ7 (k a:Nat) (ha:a < 256) (hk:k≤8) (hp:2 ^ k≤256):eB .u8 (a:Int) ((2 ^ k - 1:Nat):Int)=((a % 2 ^ k:Nat):Int):=by
 have:=Nat.two_pow_pos k
 rw [fD6 a _ ha (by omega),Nat.and_two_pow_sub_one_eq_mod]
theorem aZ5 (k a b:Nat) (h:2 ^ k * a < 256) (h8:2 ^ k≤256) (hb:b < 2 ^ k):orI .u8 ((2 ^ k * a:Nat):Int) (b:Int)=((2 ^ k * a+b:Nat):Int):=by
 rw [or8 _ _ h (by omega),dA7 k a b hb]
theorem aB3 (k a b:Nat) (h:2 ^ k * a < 4294967296) (h8:2 ^ k≤4294967296) (hb:b < 2 ^ k):orI .u32 ((2 ^ k * a:Nat):Int) (b:Int)=((2 ^ k * a+b:Nat):Int):=by
 rw [fD3 _ _ h (by omega),dA7 k a b hb]
theorem GD (K:IntKind) (a j:Nat) (h:j≤K.bits):fA K (a:Int) (j:Int)=((a / 2 ^ j:Nat):Int):=by
 unfold fA
 have e:min (j:Int).toNat K.bits=j:=by rw [Int.toNat_natCast];omega
 rw [e,Int.fdiv_eq_ediv_of_nonneg _ (Int.le_of_lt (Int.pow_pos (by decide)))]
 push_cast
 rfl
theorem bC3 (a j:Nat) (h:j≤32) (hl:a * 2 ^ j < 4294967296):qI .u32 (a:Int) (j:Int)=((2 ^ j * a:Nat):Int):=by
 unfold qI
 have e:min (j:Int).toNat (IntKind.bits .u32)=j:=by rw [Int.toNat_natCast];show min j 32=j;omega
 have e2:(a:Int) * 2 ^ j=((a * 2 ^ j:Nat):Int):=by push_cast;rfl
 rw [e,e2,gM (by omega) (by omega),Nat.mul_comm]
theorem mU (a:Nat):IntKind.u8.wrap (a:Int)=((a % 256:Nat):Int):=by
 show ((a:Int) % (2 ^ 8:Int))=_
 omega
theorem eN (n v c f:Nat) (hv:v < 4294967296) (hc:c≤6) (hf:f≤18):wJ n (v:Int) (c:Int) (f:Int)=some (((v / 2 ^ f % 2 ^ c:Nat):Int),()):=by
 have h6:2 ^ c≤64:=Nat.le_trans (Nat.pow_le_pow_right (by decide) hc) (by decide)
 have h0:=Nat.two_pow_pos c
 have hd:v / 2 ^ f≤v:=Nat.div_le_self _ _
 have hm:v / 2 ^ f % 2 ^ c < 2 ^ c:=Nat.mod_lt _ h0
 dsimp only [wJ,c9]
 rw [bG1 (by omega),bG1 (by omega),GD .u32 v f (by show f≤32;omega),show (1:Int)=((1:Nat):Int) from rfl,bC3 1 c (by omega) (by omega),Nat.mul_one]
 have e:((2 ^ c:Nat):Int) - ((1:Nat):Int)=((2 ^ c - 1:Nat):Int):=by omega
 rw [e,gM (by omega) (by omega),fB8 _ _ (by omega) (by omega),Nat.and_two_pow_sub_one_eq_mod,mU,Nat.mod_eq_of_lt (a:=v / 2 ^ f % 2 ^ c) (by omega)]
theorem kO (xs:List Int) (i:Nat) (h:i < xs.length) (hx:0≤xs[i]∧xs[i] < 256):((strOfNums xs).get! i).toNat=xs[i].toNat:=by
 have e:(strOfNums xs).get! i=UInt8.ofNat xs[i].toNat:=by
  show ((xs.map fun x=>UInt8.ofNat x.toNat).toArray)[i]! =_
  simp [h]
 rw [e,b8 _ (by omega)]
theorem aT9 (xs:List Int) (h:xs≠[]):Lib.decodeGo (strOfNums xs)=Utf8.decode (strOfNums xs) 0:=by
 unfold Lib.decodeGo
 rw [if_neg]
 rw [gR]
 intro h0
 exact h (List.length_eq_zero_iff.1 h0)
theorem dr2 (n a b:Nat) (ha:a < 32) (hb:b < 64) (hc:128≤a * 64+b):EJ n [((192+a:Nat):Int),((128+b:Nat):Int)]=some (((a * 64+b:Nat):Int),(2,())):=by
 unfold EJ
 rw [if_pos ⟨by simp,by simp;omega⟩,aT9 _ (by simp),aW0 _ 0 a b (by rw [kO _ 0 (by simp) (by simp;omega)];simp;omega) (by rw [kO _ 1 (by simp) (by simp;omega)];simp;omega) (by rw [gR];simp) ha hb hc]
 rfl
theorem dr3 (n a b c:Nat) (ha:a < 16) (hb:b < 64) (hc:c < 64) (hv:2048≤a * 4096+b * 64+c) (hw:Utf8.valid ((a * 4096+b * 64+c:Nat):Int)=true):EJ n [((224+a:Nat):Int),((128+b:Nat):Int),((128+c:Nat):Int)]=some (((a * 4096+b * 64+c:Nat):Int),(3,())):=by
 unfold EJ
 rw [if_pos ⟨by simp,by simp;omega⟩,aT9 _ (by simp),OS _ 0 a b c (by rw [kO _ 0 (by simp) (by simp;omega)];simp;omega) (by rw [kO _ 1 (by simp) (by simp;omega)];simp;omega) (by rw [kO _ 2 (by simp) (by simp;omega)];simp;omega) (by rw [gR];simp) ha hb hc hv hw]
 rfl
theorem dr4 (n a b c d:Nat) (ha:a < 8) (hb:b < 64) (hc:c < 64) (hd:d < 64) (hv:65536≤a * 262144+b * 4096+c * 64+d) (hw:Utf8.valid ((a * 262144+b * 4096+c * 64+d:Nat):Int)=true):EJ n [((240+a:Nat):Int),((128+b:Nat):Int),((128+c:Nat):Int),((128+d:Nat):Int)]=some (((a * 262144+b * 4096+c * 64+d:Nat):Int),(4,())):=by
 unfold EJ
 rw [if_pos ⟨by simp,by simp;omega⟩,aT9 _ (by simp),F7 _ 0 a b c d (by rw [kO _ 0 (by simp) (by simp;omega)];simp;omega) (by rw [kO _ 1 (by simp) (by simp;omega)];simp;omega) (by rw [kO _ 2 (by simp) (by simp;omega)];simp;omega) (by rw [kO _ 3 (by simp) (by simp;omega)];simp;omega) (by rw [gR];simp) ha hb hc hd hv hw]
 rfl
def ofN (v:Nat):Nat:=if v < 55296 then v else if v < 63485 then v+2048 else v+2051
theorem NW {v:Nat} (h:v < 1110016):ofN v < 1112067∧(ofN v < 55296∨57343 < ofN v)∧ofN v≠65533:=by
 unfold ofN;split
 ·omega
 ·split <;> omega
theorem CS {r:Nat} (h:r < 55296∨57343 < r∧r < 1114112):Utf8.valid (r:Int)=true:=by
 unfold Utf8.valid;simp;omega
theorem l2 (x:Nat) (h:x < 32):orI .u8 (192:Int) (x:Int)=((192+x:Nat):Int):=aZ5 5 6 x (by decide) (by decide) h
theorem l3 (x:Nat) (h:x < 16):orI .u8 (224:Int) (x:Int)=((224+x:Nat):Int):=aZ5 4 14 x (by decide) (by decide) h
theorem l4 (x:Nat) (h:x < 8):orI .u8 (240:Int) (x:Int)=((240+x:Nat):Int):=aZ5 3 30 x (by decide) (by decide) h
theorem l1 (x:Nat) (h:x < 64):orI .u8 (128:Int) (x:Int)=((128+x:Nat):Int):=aZ5 6 2 x (by decide) (by decide) h
theorem P7 (n w:Nat) (h0:2048≤w) (h1:w < 65536) (h2:w < 55296∨57343 < w):EJ n [orI .u8 (224:Int) ((w / 2 ^ 12 % 2 ^ 4:Nat):Int),orI .u8 (128:Int) ((w / 2 ^ 6 % 2 ^ 6:Nat):Int),orI .u8 (128:Int) ((w / 2 ^ 0 % 2 ^ 6:Nat):Int)]=some ((w:Int),(3,())):=by
 rw [l3 _ (by omega),l1 _ (by omega),l1 _ (by omega)]
 have e:w / 2 ^ 12 % 2 ^ 4 * 4096+w / 2 ^ 6 % 2 ^ 6 * 64+w / 2 ^ 0 % 2 ^ 6=w:=by omega
 rw [dr3 n _ _ _ (by omega) (by omega) (by omega) (by omega) (by rw [e];exact CS (by omega)),e]
theorem QS (n v:Nat) (hv:v < 1110016):eC0 n (v:Int)=some ((ofN v:Int),()):=by
 dsimp only [eC0,T3]
 by_cases c1:v < 128
 ·rw [bdT (by omega),eI0 (by omega) (by omega),show ofN v=v by unfold ofN;rw [if_pos (by omega)]]
 rw [bdF (by omega)]
 by_cases c2:v < 2048
 ·rw [bdT (by omega),show (5:Int)=((5:Nat):Int) from rfl,show (6:Int)=((6:Nat):Int) from rfl,show (0:Int)=((0:Nat):Int) from rfl,eN n v 5 6 (by omega) (by omega) (by omega),eN n v 6 0 (by omega) (by omega) (by omega)]
  simp only [Option.bind_some]
  rw [l2 _ (by omega),l1 _ (by omega)]
  have e:v / 2 ^ 6 % 2 ^ 5 * 64+v / 2 ^ 0 % 2 ^ 6=v:=by omega
  rw [dr2 n _ _ (by omega) (by omega) (by omega),e,Option.bind_some]
  have ne:((v:Int)==(65533:Int))=false:=by simp;omega
  simp only [show ((2:Int)!=(2:Int))=false from rfl,cond_false,ne]
  rw [show ofN v=v by unfold ofN;rw [if_pos (by omega)]]
 rw [bdF (by omega)]
 by_cases c3:v < 63485
 ·rw [bdT (by omega)]
  by_cases c4:v < 55296
  ·rw [bdF (by omega),show (4:Int)=((4:Nat):Int) from rfl,show (12:Int)=((12:Nat):Int) from rfl,show (6:Int)=((6:Nat):Int) from rfl,show (0:Int)=((0:Nat):Int) from rfl,eN n v 4 12 (by omega) (by omega) (by omega),eN n v 6 6 (by omega) (by omega) (by omega),eN n v 6 0 (by omega) (by omega) (by omega)]
   simp only [Option.bind_some]
   rw [P7 n v (by omega) (by omega) (by omega),Option.bind_some]
   have ne:((v:Int)==(65533:Int))=false:=by simp;omega
   simp only [show ((3:Int)!=(3:Int))=false from rfl,cond_false,ne]
   rw [show ofN v=v by unfold ofN;rw [if_pos (by omega)]]
  ·have hw:IntKind.u32.wrap ((v:Int)+2048)=((v+2048:Nat):Int):=by rw [gM (by omega) (by omega)];omega
   rw [bdT (by omega),hw,show (4:Int)=((4:Nat):Int) from rfl,show (12:Int)=((12:Nat):Int) from rfl,show (6:Int)=((6:Nat):Int) from rfl,show (0:Int)=((0:Nat):Int) from rfl,eN n (v+2048) 4 12 (by omega) (by omega) (by omega),eN n (v+2048) 6 6 (by omega) (by omega) (by omega),eN n (v+2048) 6 0 (by omega) (by omega) (by omega)]
   simp only [Option.bind_some]
   rw [P7 n (v+2048) (by omega) (by omega) (by omega),Option.bind_some]
   have ne:(((v+2048:Nat):Int)==(65533:Int))=false:=by simp;omega
   simp only [show ((3:Int)!=(3:Int))=false from rfl,cond_false,ne]
   rw [show ofN v=v+2048 by unfold ofN;rw [if_neg (by omega),if_pos (by omega)]]
 rw [bdF (by omega),bdT (by omega)]
 have hw:IntKind.u32.wrap ((v:Int)+2051)=((v+2051:Nat):Int):=by rw [gM (by omega) (by omega)];omega
 rw [hw,show (3:Int)=((3:Nat):Int) from rfl,show (18:Int)=((18:Nat):Int) from rfl,show (12:Int)=((12:Nat):Int) from rfl,show (6:Int)=((6:Nat):Int) from rfl,show (0:Int)=((0:Nat):Int) from rfl,eN n (v+2051) 3 18 (by omega) (by omega) (by omega),eN n (v+2051) 6 12 (by omega) (by omega) (by omega),eN n (v+2051) 6 6 (by omega) (by omega) (by omega),eN n (v+2051) 6 0 (by omega) (by omega) (by omega)]
 simp only [Option.bind_some]
 rw [l4 _ (by omega),l1 _ (by omega),l1 _ (by omega),l1 _ (by omega)]
 have e:(v+2051) / 2 ^ 18 % 2 ^ 3 * 262144+(v+2051) / 2 ^ 12 % 2 ^ 6 * 4096+(v+2051) / 2 ^ 6 % 2 ^ 6 * 64+(v+2051) / 2 ^ 0 % 2 ^ 6=v+2051:=by omega
 rw [dr4 n _ _ _ _ (by omega) (by omega) (by omega) (by omega) (by omega) (by rw [e];exact CS (by omega)),e,Option.bind_some]
 have ne:(((v+2051:Nat):Int)==(65533:Int))=false:=by simp;omega
 simp only [show ((4:Int)!=(4:Int))=false from rfl,cond_false,ne]
 rw [show ofN v=v+2051 by unfold ofN;rw [if_neg (by omega),if_neg (by omega)]]
theorem m63 (a:Nat) (h:a < 256):eB .u8 (a:Int) (63:Int)=((a % 64:Nat):Int):=aZ7 6 a h (by decide) (by decide)
theorem m31 (a:Nat) (h:a < 256):eB .u8 (a:Int) (31:Int)=((a % 32:Nat):Int):=aZ7 5 a h (by decide) (by decide)
theorem m15 (a:Nat) (h:a < 256):eB .u8 (a:Int) (15:Int)=((a % 16:Nat):Int):=aZ7 4 a h (by decide) (by decide)
theorem m7 (a:Nat) (h:a < 256):eB .u8 (a:Int) (7:Int)=((a % 8:Nat):Int):=aZ7 3 a h (by decide) (by decide)
theorem sh6 (r:Nat):fA .i32 (r:Int) (6:Int)=((r / 64:Nat):Int):=GD .i32 r 6 (by decide)
theorem eT3 (r:Nat):fA .i32 (r:Int) (12:Int)=((r / 4096:Nat):Int):=GD .i32 r 12 (by decide)
theorem fD2 (r:Nat):fA .i32 (r:Int) (18:Int)=((r / 262144:Nat):Int):=GD .i32 r 18 (by decide)
theorem C8 (x:Nat):orI .u8 (128:Int) (eB .u8 (IntKind.u8.wrap (x:Int)) (63:Int))=((128+x % 64:Nat):Int):=by
 rw [mU,m63 _ (by omega),l1 _ (by omega),show x % 256 % 64=x % 64 by omega]
theorem fD4 (n r:Nat) (h1:128≤r) (h2:r < 2048):P5 n [0,0,0,0] (r:Int)=some ((2,()),([((192+r / 64:Nat):Int),((128+r % 64:Nat):Int),0,0],())):=by
 have e:IntKind.u32.wrap (r:Int)=(r:Int):=gM (by omega) (by omega)
 dsimp only [P5,JN,cX9,CK,HZ,IY,IP]
 rw [e,bdF (by omega),bdT (by omega),aP (by simp) (by simp),aP (by simp) (by simp),aP (by simp) (by simp),sh6,mU,l2 _ (by omega),C8,show r / 64 % 256=r / 64 by omega]
 rfl
theorem fD5 (n r:Nat) (h1:2048≤r) (h2:r < 65536) (h3:r < 55296∨57343 < r):P5 n [0,0,0,0] (r:Int)=some ((3,()),([((224+r / 4096:Nat):Int),((128+r / 64 % 64:Nat):Int),((128+r % 64:Nat):Int),0],())):=by
 have e:IntKind.u32.wrap (r:Int)=(r:Int):=gM (by omega) (by omega)
 dsimp only [P5,JN,cX9,CK,HZ,IY,IP]
 rw [e,bdF (by omega),bdF (by omega)]
 by_cases c:r < 55296
 ·rw [bdT (by omega),bdT (by omega),aP (by simp) (by simp),aP (by simp) (by simp),aP (by simp) (by simp),aP (by simp) (by simp),sh6,eT3,mU (r / 4096),l3 _ (by omega),C8,C8,show r / 4096 % 256=r / 4096 by omega]
  rfl
 ·rw [bdF (by omega),bdT (by omega),bdT (by omega),aP (by simp) (by simp),aP (by simp) (by simp),aP (by simp) (by simp),aP (by simp) (by simp),sh6,eT3,mU (r / 4096),l3 _ (by omega),C8,C8,show r / 4096 % 256=r / 4096 by omega]
  rfl
theorem fD7 (n r:Nat) (h1:65536≤r) (h2:r < 1114112):P5 n [0,0,0,0] (r:Int)=some ((4,()),([((240+r / 262144:Nat):Int),((128+r / 4096 % 64:Nat):Int),((128+r / 64 % 64:Nat):Int),((128+r % 64:Nat):Int)],())):=by
 have e:IntKind.u32.wrap (r:Int)=(r:Int):=gM (by omega) (by omega)
 dsimp only [P5,JN,cX9,CK,HZ,IY,IP]
 rw [e,bdF (by omega),bdF (by omega),bdF (by omega),bdT (by omega),bdF (by omega),bdT (by omega),bdT (by omega),aP (by simp) (by simp),aP (by simp) (by simp),aP (by simp) (by simp),aP (by simp) (by simp),aP (by simp) (by simp),sh6,eT3,fD2,mU (r / 262144),l4 _ (by omega),C8,C8,C8,show r / 262144 % 256=r / 262144 by omega]
 rfl
def toN (r:Nat):Nat:=if r < 57343 then r else if r < 65536 then r - 2048 else r - 2051
theorem TQ {v:Nat} (h:v < 1110016):toN (ofN v)=v:=by
 unfold toN ofN;split
 ·rw [if_pos (by omega)]
 ·split
  ·rw [if_neg (by omega),if_pos (by omega)];omega
  ·rw [if_neg (by omega),if_neg (by omega)];omega
theorem s6 (a:Nat) (h:a < 64):qI .u32 (a:Int) (6:Int)=((64 * a:Nat):Int):=bC3 a 6 (by decide) (by omega)
theorem s12 (a:Nat) (h:a < 64):qI .u32 (a:Int) (12:Int)=((4096 * a:Nat):Int):=bC3 a 12 (by decide) (by omega)
theorem s18 (a:Nat) (h:a < 64):qI .u32 (a:Int) (18:Int)=((262144 * a:Nat):Int):=bC3 a 18 (by decide) (by omega)
theorem j6 (a b:Nat) (h:a < 33554432) (hb:b < 64):orI .u32 ((64 * a:Nat):Int) (b:Int)=((64 * a+b:Nat):Int):=aB3 6 a b (by omega) (by decide) hb
theorem j12 (a b:Nat) (h:a < 524288) (hb:b < 4096):orI .u32 ((4096 * a:Nat):Int) (b:Int)=((4096 * a+b:Nat):Int):=aB3 12 a b (by omega) (by decide) hb
theorem j18 (a b:Nat) (h:a < 8192) (hb:b < 262144):orI .u32 ((262144 * a:Nat):Int) (b:Int)=((262144 * a+b:Nat):Int):=aB3 18 a b (by omega) (by decide) hb
theorem eJ9 (a:Nat) (h:a < 4294967296):IntKind.u32.wrap (a:Int)=(a:Int):=gM (by omega) (by omega)
theorem p31 (x:Nat) (h:x < 32):IntKind.u32.wrap (eB .u8 ((192+x:Nat):Int) (31:Int))=(x:Int):=by rw [m31 _ (by omega),eJ9 _ (by omega)];omega
theorem p15 (x:Nat) (h:x < 16):IntKind.u32.wrap (eB .u8 ((224+x:Nat):Int) (15:Int))=(x:Int):=by rw [m15 _ (by omega),eJ9 _ (by omega)];omega
theorem p7 (x:Nat) (h:x < 8):IntKind.u32.wrap (eB .u8 ((240+x:Nat):Int) (7:Int))=(x:Int):=by rw [m7 _ (by omega),eJ9 _ (by omega)];omega
theorem p63 (x:Nat) (h:x < 64):IntKind.u32.wrap (eB .u8 ((128+x:Nat):Int) (63:Int))=(x:Int):=by rw [m63 _ (by omega),eJ9 _ (by omega)];omega
theorem XR (n r:Nat) (h:r < 55296∨57343 < r∧r < 1114112):cM9 n (r:Int)=some ((toN r:Int),()):=by
 have e:IntKind.u32.wrap (r:Int)=(r:Int):=gM (by omega) (by omega)
 dsimp only [cM9,aE6]
 rw [e]
 by_cases c1:r < 128
 ·rw [bdT (by omega),show toN r=r by unfold toN;rw [if_pos (by omega)]]
 rw [bdF (by omega)]
 by_cases c2:r < 2048
 ·rw [aW (fD4 n r (by omega) c2)]
  simp only [show ((2:Int)==(2:Int))=true from rfl,cond_true]
  rw [aP (by simp) (by simp),aP (by simp) (by simp)]
  simp only [show ∀a b c d:Int,rd [a,b,c,d] 0 0=a from fun _ _ _ _=>rfl,show ∀a b c d:Int,rd [a,b,c,d] 1 0=b from fun _ _ _ _=>rfl]
  rw [p31 _ (by omega),p63 _ (by omega),s6 _ (by omega),j6 _ _ (by omega) (by omega),show 64 * (r / 64)+r % 64=r by omega,show toN r=r by unfold toN;rw [if_pos (by omega)]]
 by_cases c3:r < 65536
 ·rw [aW (fD5 n r (by omega) c3 (by omega))]
  simp only [show ((3:Int)==(2:Int))=false from rfl,show ((3:Int)==(3:Int))=true from rfl,cond_true,cond_false]
  rw [aP (by simp) (by simp),aP (by simp) (by simp),aP (by simp) (by simp)]
  simp only [show ∀a b c d:Int,rd [a,b,c,d] 0 0=a from fun _ _ _ _=>rfl,show ∀a b c d:Int,rd [a,b,c,d] 1 0=b from fun _ _ _ _=>rfl,show ∀a b c d:Int,rd [a,b,c,d] 2 0=c from fun _ _ _ _=>rfl]
  rw [p15 _ (by omega),p63 _ (by omega),p63 _ (by omega),s12 _ (by omega),s6 _ (by omega),j12 _ _ (by omega) (by omega),show 4096 * (r / 4096)+64 * (r / 64 % 64)=64 * (r / 64) by omega,j6 _ _ (by omega) (by omega),show 64 * (r / 64)+r % 64=r by omega]
  by_cases c4:r < 57343
  ·rw [bdF (by omega),show toN r=r by unfold toN;rw [if_pos c4]]
  ·rw [bdT (by omega),gM (by omega) (by omega),show toN r=r - 2048 by unfold toN;rw [if_neg c4,if_pos c3]]
   rw [show ((r:Int) - 2048)=((r - 2048:Nat):Int) by omega]
 rw [aW (fD7 n r (by omega) (by omega))]
 simp only [show ((4:Int)==(2:Int))=false from rfl,show ((4:Int)==(3:Int))=false from rfl,show ((4:Int)==(4:Int))=true from rfl,cond_true,cond_false]
 rw [aP (by simp) (by simp),aP (by simp) (by simp),aP (by simp) (by simp),aP (by simp) (by simp)]
 simp only [show ∀a b c d:Int,rd [a,b,c,d] 0 0=a from fun _ _ _ _=>rfl,show ∀a b c d:Int,rd [a,b,c,d] 1 0=b from fun _ _ _ _=>rfl,show ∀a b c d:Int,rd [a,b,c,d] 2 0=c from fun _ _ _ _=>rfl,show ∀a b c d:Int,rd [a,b,c,d] 3 0=d from fun _ _ _ _=>rfl]
 rw [p7 _ (by omega),p63 _ (by omega),p63 _ (by omega),p63 _ (by omega),s18 _ (by omega),s12 _ (by omega),s6 _ (by omega),j18 _ _ (by omega) (by omega),show 262144 * (r / 262144)+4096 * (r / 4096 % 64)=4096 * (r / 4096) by omega,j12 _ _ (by omega) (by omega),show 4096 * (r / 4096)+64 * (r / 64 % 64)=64 * (r / 64) by omega,j6 _ _ (by omega) (by omega),show 64 * (r / 64)+r % 64=r by omega,gM (n:=(r:Int) - 2048) (by omega) (by omega),gM (by omega) (by omega),show toN r=r - 2051 by unfold toN;rw [if_neg (by omega),if_neg c3]]
 rw [show ((r:Int) - 2048 - 3)=((r - 2051:Nat):Int) by omega]
def DN (z:BA):Nat→Nat→Nat
 | 0,i=>i
 | d+1,i=>if byteAt z (i:Int)=10 then i+1 else DN z d (i+1)
def fH (z:BA) (i:Nat):Nat:=DN z (z.size - i) i
def IsEnd (z:BA) (i e:Nat):Prop:=i < e∧e≤z.size∧(∀j:Nat,i≤j→j+1 < e→byteAt z (j:Int)≠10)∧(byteAt z ((e - 1:Nat):Int)=10∨e=z.size)
theorem mS {z:BA} {i:Nat} (h:i < z.size):IsEnd z i (fH z i):=by
 have key:∀(d i:Nat),z.size - i=d→i < z.size→IsEnd z i (DN z d i):=by
  intro d
  induction d with
  | zero=>intro i hd hi;omega
  | succ d ih=>
   intro i hd hi
   unfold DN
   by_cases hb:byteAt z (i:Int)=10
   ·rw [if_pos hb]
    exact ⟨by omega,by omega,fun j h1 h2=>by omega,.inl hb⟩
   ·rw [if_neg hb]
    by_cases hi':i+1 < z.size
    ·obtain ⟨h1,h2,h3,h4⟩:=ih (i+1) (by omega) hi'
     refine ⟨by omega,h2,fun j hj1 hj2=>?_,h4⟩
     by_cases hji:j=i
     ·subst hji;exact hb
     ·exact h3 j (by omega) hj2
    ·obtain rfl:d=0:=by omega
     refine ⟨by unfold DN;omega,by unfold DN;omega,fun j hj1 hj2=>?_,.inr (by unfold DN;omega)⟩
     unfold DN at hj2
     obtain rfl:j=i:=by omega
     exact hb
 exact key _ i rfl h
theorem IsEnd.uniq {z:BA} {i e f:Nat} (h:IsEnd z i e) (k:IsEnd z i f):e=f:=by
 obtain ⟨a1,a2,a3,a4⟩:=h
 obtain ⟨b1,b2,b3,b4⟩:=k
 rcases Nat.lt_trichotomy e f with c | c | c
 ·rcases a4 with a4 | a4
  ·exact absurd a4 (b3 (e - 1) (by omega) (by omega))
  ·omega
 ·exact c
 ·rcases b4 with b4 | b4
  ·exact absurd b4 (a3 (f - 1) (by omega) (by omega))
  ·omega
theorem yU {z:BA} {i e:Nat} (h:IsEnd z i e):fH z i=e:=(mS (by obtain ⟨h1,h2,_⟩:=h;omega)).uniq h
def mQ (z:BA):Nat→Nat→List BA
 | 0,_=>[]
 | f+1,i=>if i < z.size then bD z (i:Int) (fH z i:Int)::mQ z f (fH z i) else []
def eM (z:BA) (i:Nat):List BA:=mQ z (z.size - i) i
theorem HN (z:BA):∀(f i:Nat),z.size - i≤f→mQ z f i=eM z i:=by
 intro f
 induction f using Nat.strongRecOn with
 | _ f ih=>
  intro i hf
  unfold eM
  by_cases h:i < z.size
  ·obtain ⟨f,rfl⟩:∃g,f=g+1:=⟨f - 1,by omega⟩
   obtain ⟨g,hg⟩:∃g,z.size - i=g+1:=⟨z.size - i - 1,by omega⟩
   obtain ⟨h1,h2,_⟩:=mS h
   rw [hg]
   unfold mQ
   rw [if_pos h,if_pos h,ih f (by omega) (fH z i) (by omega)]
   by_cases hgf:g < f+1
   ·rw [ih g hgf (fH z i) (by omega)]
   ·omega
  ·rw [show z.size - i=0 by omega]
   cases f with
   | zero=>rfl
   | succ f=>unfold mQ;rw [if_neg h]
theorem wH {z:BA} {i:Nat} (h:i < z.size):eM z i=bD z (i:Int) (fH z i:Int)::eM z (fH z i):=by
 obtain ⟨h1,h2,_⟩:=mS h
 rw [←HN z (z.size - i - 1) (fH z i) (by omega)]
 unfold eM
 obtain ⟨g,hg⟩:∃g,z.size - i=g+1:=⟨z.size - i - 1,by omega⟩
 rw [hg,Nat.add_sub_cancel]
 show (if i < z.size then bD z (i:Int) (fH z i:Int)::mQ z g (fH z i) else [])=_
 rw [if_pos h]
theorem nP {z:BA} {i:Nat} (h:z.size≤i):eM z i=[]:=by
 unfold eM
 rw [show z.size - i=0 by omega];rfl
theorem kL (z:BA):∀(d i:Nat),z.size - i=d→(eM z i).length≤d:=by
 intro d
 induction d using Nat.strongRecOn with
 | _ d ih=>
  intro i hd
  by_cases h:i < z.size
  ·obtain ⟨h1,h2,_⟩:=mS h
   rw [wH h,List.length_cons]
   have:=ih (z.size - fH z i) (by omega) (fH z i) rfl
   omega
  ·rw [nP (by omega)];simp
theorem eG5 {z:BA} {i:Nat} (h:i < z.size):bD z (i:Int) (fH z i:Int)≠(⟨#[]⟩:BA):=by
 obtain ⟨h1,h2,_⟩:=mS h
 intro e
 have:=iF (z:=z) (a:=(i:Int)) (b:=(fH z i:Int)) (by omega) (by omega) (by omega)
 rw [e] at this
 have h0:(⟨#[]⟩:BA).size=0:=rfl
 omega
theorem bI5 {z:BA} {i:Nat} (h:i < z.size):aF (bD z (i:Int) ((i:Int)+1))=[byteAt z (i:Int)]:=by
 have hl:=aN z
 rw [bT,mT (by omega) (by omega)]
 unfold cut rd
 rw [show (i:Int).toNat=i by omega,show ((i:Int)+1).toNat - i=1 by omega,List.getD_eq_getElem?_getD,List.getElem?_eq_getElem (show i < (aF z).length by omega),List.drop_eq_getElem_cons (show i < (aF z).length by omega)]
 rfl
theorem eZ7 {z:BA} {i:Nat} (h:i < z.size):eL (bD z (i:Int) ((i:Int)+1)) (⟨#[10]⟩:BA)=decide (byteAt z (i:Int)=10):=by
 rw [dE]
 have e:aF (⟨#[10]⟩:BA)=[10]:=rfl
 by_cases hb:byteAt z (i:Int)=10
 ·rw [decide_eq_true hb,decide_eq_true]
  refine cR ?_
  rw [bI5 h,hb,e]
 ·rw [decide_eq_false hb,decide_eq_false]
  intro h2
  have:=congrArg aF h2
  rw [bI5 h,e] at this
  exact hb (List.cons.inj this).1
theorem bL5 (n:Nat) (hn:Big≤n) (z:BA) (hz:z.size≤1000000000):∃r:Int,g95 n z (⟨#[10]⟩:BA)=some (r,())∧((r= -1∧∀j:Nat,j < z.size→byteAt z (j:Int)≠10)∨(∃k:Nat,r=k∧k < z.size∧byteAt z (k:Int)=10∧∀j:Nat,j < k→byteAt z (j:Int)≠10)):=by
 have hB:(4611686018427387904:Nat)≤n:=hn
 dsimp only [g95,D1,bI0,bL6,aU7,bD4]
 have key:∀(d i m:Nat),z.size - i=d→d < m→i≤z.size→(∀j:Nat,j < i→byteAt z (j:Int)≠10)→∃r:Int,g95_3L n (fun v4=>@some (DenR [.dat (.int .i64)]) (v4,())) (some (-1,())) m z (⟨#[10]⟩:BA) (i:Int)=some (r,())∧((r= -1∧∀j:Nat,j < z.size→byteAt z (j:Int)≠10)∨(∃k:Nat,r=k∧k < z.size∧byteAt z (k:Int)=10∧∀j:Nat,j < k→byteAt z (j:Int)≠10)):=by
  intro d
  have h1:(⟨#[10]⟩:BA).size=1:=rfl
  induction d with
  | zero=>
   intro i m hd hm hi hno
   obtain ⟨m,rfl⟩:∃m',m=m'+1:=⟨m - 1,by omega⟩
   rw [g95_3L.eq_2,OY,h1,aG (by omega) (by omega),bdF (by omega)]
   exact ⟨-1,rfl,.inl ⟨rfl,fun j hj=>hno j (by omega)⟩⟩
  | succ d ih=>
   intro i m hd hm hi hno
   obtain ⟨m,rfl⟩:∃m',m=m'+1:=⟨m - 1,by omega⟩
   rw [g95_3L.eq_2,OY,h1,aG (by omega) (by omega),bdT (by omega),bF (by omega) (by omega) (by omega)]
   simp only [show ((1:Nat):Int)=1 from rfl]
   rw [eZ7 (by omega)]
   by_cases hb:byteAt z (i:Int)=10
   ·rw [bdT hb]
    exact ⟨i,rfl,.inr ⟨i,rfl,by omega,hb,hno⟩⟩
   ·rw [bdF hb,aG (n:=(i:Int)+1) (by omega) (by omega),show (i:Int)+1=((i+1:Nat):Int) by omega]
    exact ih (i+1) m (by omega) (by omega) (by omega) (fun j hj=>by
     by_cases hji:j=i
     ·subst hji;exact hb
     ·exact hno j (by omega))
 exact key z.size 0 n (by omega) (by omega) (by omega) (fun j hj=>by omega)
theorem bQ2 (n:Nat) (hn:Big≤n) (z:BA) (hz:z.size≤1000000000) (i:Nat) (hi:i < z.size):∃r:Int,eJ6 n z (⟨#[10]⟩:BA) (i:Int)=some (r,())∧((r= -1∧fH z i=z.size)∨r+1=(fH z i:Int)):=by
 dsimp only [eJ6,i9]
 rw [aG (by omega) (by omega),bdF (by omega)]
 by_cases h0:i=0
 ·subst h0
  rw [bdT (by omega)]
  obtain ⟨r,e,h⟩:=bL5 n hn z hz
  rw [e,Option.bind_some]
  refine ⟨r,rfl,?_⟩
  rcases h with ⟨h1,h2⟩ | ⟨k,h1,h2,h3,h4⟩
  ·exact .inl ⟨h1,yU ⟨by omega,Nat.le_refl _,fun j _ hj=>h2 j (by omega),.inr rfl⟩⟩
  ·right
   have:fH z 0=k+1:=yU ⟨by omega,by omega,fun j _ hj=>h4 j (by omega),.inl h3⟩
   omega
 ·rw [bdF (by omega),bF (by omega) (by omega) (by omega)]
  have hs:(bD z (i:Int) (z.size:Int)).size=z.size - i:=by rw [iF (by omega) (by omega) (by omega)];omega
  have hba:∀j:Nat,j < z.size - i→byteAt (bD z (i:Int) (z.size:Int)) (j:Int)=byteAt z ((i+j:Nat):Int):=fun j hj=>by
   rw [D9 (by omega) (by omega) (by omega) (by omega)];congr 1
  obtain ⟨r,e,h⟩:=bL5 n hn (bD z (i:Int) (z.size:Int)) (by omega)
  rw [e,Option.bind_some]
  rcases h with ⟨h1,h2⟩ | ⟨k,h1,h2,h3,h4⟩
  ·subst h1
   refine ⟨-1,rfl,.inl ⟨rfl,yU ⟨by omega,Nat.le_refl _,fun j hj1 hj2=>?_,.inr rfl⟩⟩⟩
   have:=h2 (j - i) (by omega)
   rw [hba _ (by omega),show i+(j - i)=j by omega] at this
   exact this
  ·subst h1
   have hne:((k:Int)== -1)=false:=by rw [beq_eq_false_iff_ne];omega
   simp only [hne,cond_false]
   rw [aG (by omega) (by omega)]
   refine ⟨(k:Int)+i,rfl,.inr ?_⟩
   have:fH z i=i+k+1:=yU ⟨by omega,by omega,fun j hj1 hj2=>?_,.inl ?_⟩
   ·omega
   ·have:=h4 (j - i) (by omega)
    rw [hba _ (by omega),show i+(j - i)=j by omega] at this
    exact this
   ·rw [hba _ (by omega)] at h3;exact h3
@[reducible] def Hash:=List (BA×Int)
abbrev OD (x:BA) (h:Hash):Option Int:=gI (a:= .str) (b:=(.int .i64)) x h
abbrev eR4 (x:BA) (y:Int) (h:Hash):Hash:=qO (a:= .str) (b:=(.int .i64)) x y h
theorem nM (x:BA) (y:Int):∀h:Hash,OD x (eR4 x y h)=some y
 | []=>by
  show (bif eL x x then some y else none)=some y
  rw [dE,decide_eq_true rfl];rfl
 | e::h=>by
  show gI (a:= .str) (b:=(.int .i64)) x (bif eL x e.1 then (x,y)::h else e::qO (a:= .str) (b:=(.int .i64)) x y h)=some y
  cases hs:eL x e.1 with
  | true=>
   show (bif eL x x then some y else _)=some y
   rw [dE x x,decide_eq_true rfl];rfl
  | false=>
   show (bif eL x e.1 then some e.2 else gI (a:= .str) (b:=(.int .i64)) x (qO (a:= .str) (b:=(.int .i64)) x y h))=some y
   rw [hs];exact nM x y h
theorem mF {x x':BA} (y:Int) (hne:x'≠x):∀h:Hash,OD x' (eR4 x y h)=OD x' h
 | []=>by
  show (bif eL x' x then some y else none)=none
  rw [dE,decide_eq_false hne];rfl
 | e::h=>by
  show gI (a:= .str) (b:=(.int .i64)) x' (bif eL x e.1 then (x,y)::h else e::qO (a:= .str) (b:=(.int .i64)) x y h)=(bif eL x' e.1 then some e.2 else gI (a:= .str) (b:=(.int .i64)) x' h)
  cases hs:eL x e.1 with
  | true=>
   have he:x=e.1:=by rw [dE] at hs;simpa using hs
   show (bif eL x' x then some y else gI (a:= .str) (b:=(.int .i64)) x' h)=_
   rw [dE,decide_eq_false hne,dE,decide_eq_false (he ▸ hne)];rfl
  | false=>
   show (bif eL x' e.1 then some e.2 else gI (a:= .str) (b:=(.int .i64)) x' (qO (a:= .str) (b:=(.int .i64)) x y h))=_
   rw [show gI (a:= .str) (b:=(.int .i64)) x' (qO (a:= .str) (b:=(.int .i64)) x y h)=gI (a:= .str) (b:=(.int .i64)) x' h from mF y hne h]
structure HI (arr:List BA) (h:Hash):Prop where
 head:arr[0]? =some (⟨#[]⟩:BA)
 ne:∀j l,1≤j→arr[j]? =some l→l≠(⟨#[]⟩:BA)
 find:∀(j:Nat) l,1≤j→arr[j]? =some l→OD l h=some (j:Int)
 back:∀l k,OD l h=some k→∃j:Nat,k=j∧1≤j∧arr[j]? =some l
theorem HI.start:HI [(⟨#[]⟩:BA)] []:=by
 refine ⟨rfl,fun j l hj h=>?_,fun j l hj h=>?_,fun l k h=>by cases h⟩
 ·rw [List.getElem?_eq_none (by simp;omega)] at h;cases h
 ·rw [List.getElem?_eq_none (by simp;omega)] at h;cases h
theorem HI.len {arr:List BA} {h:Hash} (H:HI arr h):1≤arr.length:=by
 have:=(List.getElem?_eq_some_iff.1 H.head).1
 omega
theorem HI.push {arr:List BA} {h:Hash} (H:HI arr h) {l:BA} (hl:OD l h=none) (hne:l≠(⟨#[]⟩:BA)):HI (arr++[l]) (eR4 l (arr.length:Int) h):=by
 have h1:=H.len
 have key:∀(j:Nat) x,(arr++[l])[j]? =some x→(j < arr.length∧arr[j]? =some x)∨(j=arr.length∧x=l):=fun j x hx=>by
  rcases Nat.lt_trichotomy j arr.length with c | c | c
  ·rw [List.getElem?_append_left c] at hx;exact .inl ⟨c,hx⟩
  ·subst c;simp at hx;exact .inr ⟨rfl,hx.symm⟩
  ·rw [List.getElem?_eq_none (by simp;omega)] at hx;cases hx
 have lne:∀(j:Nat) x,1≤j→arr[j]? =some x→x≠l:=fun j x hj hx e=>by
  subst e;rw [H.find j x hj hx] at hl;cases hl
 refine ⟨by rw [List.getElem?_append_left (by omega)];exact H.head,fun j x hj hx=>?_,fun j x hj hx=>?_,fun x k hx=>?_⟩
 ·rcases key j x hx with ⟨_,h2⟩ | ⟨_,rfl⟩
  ·exact H.ne j x hj h2
  ·exact hne
 ·rcases key j x hx with ⟨_,h2⟩ | ⟨rfl,rfl⟩
  ·rw [mF _ (lne j x hj h2)];exact H.find j x hj h2
  ·exact nM _ _ h
 ·by_cases e:x=l
  ·subst e
   rw [nM] at hx
   cases hx
   exact ⟨arr.length,rfl,h1,by simp⟩
  ·rw [mF _ e] at hx
   obtain ⟨j,h2,h3,h4⟩:=H.back x k hx
   exact ⟨j,h2,h3,by rw [List.getElem?_append_left (List.getElem?_eq_some_iff.1 h4).1];exact h4⟩
def Pts (arr:List BA) (js:List Nat) (L:List BA):Prop:=js.map (fun j=>arr[j]?)=L.map some
theorem Pts.lt {arr:List BA} {js:List Nat} {L:List BA} (h:Pts arr js L):∀j∈js,j < arr.length:=fun j hj=>by
 have:arr[j]? ∈js.map (fun j=>arr[j]?):=List.mem_map.2 ⟨j,hj,rfl⟩
 rw [show js.map (fun j=>arr[j]?)=L.map some from h] at this
 obtain ⟨l,_,e⟩:=List.mem_map.1 this
 exact (List.getElem?_eq_some_iff.1 e.symm).1
theorem Pts.ext {arr:List BA} {js:List Nat} {L:List BA} (h:Pts arr js L) (x:List BA):Pts (arr++x) js L:=by
 unfold Pts
 rw [←show js.map (fun j=>arr[j]?)=L.map some from h]
 exact List.map_congr_left fun j hj=>List.getElem?_append_left (h.lt j hj)
theorem Pts.length {arr:List BA} {js:List Nat} {L:List BA} (h:Pts arr js L):js.length=L.length:=by
 have:=congrArg List.length (show js.map (fun j=>arr[j]?)=L.map some from h)
 simpa using this
theorem Pts.push {arr:List BA} {js:List Nat} {L:List BA} (h:Pts arr js L) {j:Nat} {l:BA} (hj:arr[j]? =some l):Pts arr (js++[j]) (L++[l]):=by
 unfold Pts
 rw [List.map_append,List.map_append,show js.map (fun j=>arr[j]?)=L.map some from h]
 simp [hj]
theorem Pts.at {arr:List BA} {js:List Nat} {L:List BA} (h:Pts arr js L) (i:Nat) (hi:i < js.length):arr[js[i]]? =some (L[i]'(by have:=h.length;omega)):=by
 have hl:=h.length
 have e:(js.map (fun j=>arr[j]?))[i]? =(L.map some)[i]? :=by rw [show js.map (fun j=>arr[j]?)=L.map some from h]
 rw [List.getElem?_map,List.getElem?_map,List.getElem?_eq_getElem hi,List.getElem?_eq_getElem (by omega)] at e
 simpa using e
theorem I8 (n:Nat) (hn:Big≤n) (p0) (z:BA) (hz:z.size≤1000000) (arr:List BA) (h:Hash) (H:HI arr h) (hal:arr.length≤1000000):
  ∃(js:List Nat) (x:List BA) (h':Hash),cN7 n p0 z arr h=some ((js.map (fun j:Nat=>(j:Int)),()),(arr++x,(h',())))∧HI (arr++x) h'∧Pts (arr++x) js (eM z 0)∧x.length≤z.size:=by
 have hB:(4611686018427387904:Nat)≤n:=hn
 dsimp only [cN7,UF,n5,U0,aM9,aN2]
 have key:∀(d i m:Nat) (js:List Nat) (L x:List BA) (h:Hash),z.size - i=d→d < m→i≤z.size→HI (arr++x) h→Pts (arr++x) js L→x.length≤i→L.length≤i→
   ∃(js':List Nat) (x':List BA) (h':Hash),g154_3L n (fun x1000002 m3 x11=>some ((x11,()),(x1000002,(m3,())))) m z (arr++x) h (i:Int) ((i:Int) - 1) (js.map (fun j:Nat=>(j:Int)))=some ((js'.map (fun j:Nat=>(j:Int)),()),(arr++x',(h',())))∧HI (arr++x') h'∧Pts (arr++x') js' (L++eM z i)∧x'.length≤z.size:=by
  intro d
  induction d using Nat.strongRecOn with
  | _ d ih=>
   intro i m js L x h hd hm hi H hP hx hL
   obtain ⟨m,rfl⟩:∃m',m=m'+1:=⟨m - 1,by omega⟩
   rw [g154_3L.eq_2,aS8,aG (n:=(z.size:Int) - 1) (by omega) (by omega)]
   by_cases c:i < z.size
   ·obtain ⟨l1,l2,_⟩:=mS c
    obtain ⟨r,e,hr⟩:=bQ2 n hn z (by omega) i c
    have hjl:=hP.length
    have hne:=eG5 c
    have hal2:(arr++x).length≤2000000:=by rw [List.length_append];omega
    have step:∀(q:Int),q=(fH z i:Int) - 1→∃(js':List Nat) (x':List BA) (h':Hash),
      (bif (gI (a:= .str) (b:=(.int .i64)) (bD z (i:Int) (fH z i:Int)) h).isSome then (cM ((js.map (fun j:Nat=>(j:Int))).length+[(IntKind.u32.wrap (((gI (a:= .str) (b:=(.int .i64)) (bD z (i:Int) (fH z i:Int)) h).getD 0)))].length)<|g154_3L n (fun x1000002 m3 x11=>some ((x11,()),(x1000002,(m3,())))) m z (arr++x) h (fH z i:Int) q (js.map (fun j:Nat=>(j:Int))++[(IntKind.u32.wrap (((gI (a:= .str) (b:=(.int .i64)) (bD z (i:Int) (fH z i:Int)) h).getD 0)))])) else (cM ((arr++x).length+[(bD z (i:Int) (fH z i:Int))].length)<|cM ((js.map (fun j:Nat=>(j:Int))).length+[(IntKind.u32.wrap ((w64 ((((arr++x)++[(bD z (i:Int) (fH z i:Int))]).length:Int) - 1))))].length)<|g154_3L n (fun x1000002 m3 x11=>some ((x11,()),(x1000002,(m3,())))) m z ((arr++x)++[(bD z (i:Int) (fH z i:Int))]) (qO (a:= .str) (b:=(.int .i64)) (bD z (i:Int) (fH z i:Int)) (w64 ((((arr++x)++[(bD z (i:Int) (fH z i:Int))]).length:Int) - 1)) h) (fH z i:Int) q (js.map (fun j:Nat=>(j:Int))++[(IntKind.u32.wrap ((w64 ((((arr++x)++[(bD z (i:Int) (fH z i:Int))]).length:Int) - 1))))])))=some ((js'.map (fun j:Nat=>(j:Int)),()),(arr++x',(h',())))∧HI (arr++x') h'∧Pts (arr++x') js' (L++eM z i)∧x'.length≤z.size:=by
     intro q hq
     subst hq
     rw [wH c]
     cases hf:gI (a:= .str) (b:=(.int .i64)) (bD z (i:Int) (fH z i:Int)) h with
     | some k=>
      obtain ⟨j,rfl,hj1,hj2⟩:=H.back _ k hf
      have hjlt:=(List.getElem?_eq_some_iff.1 hj2).1
      have hw:IntKind.u32.wrap ((some (j:Int)).getD 0)=(j:Int):=gM (by show (0:Int)≤(j:Int);omega) (by show (j:Int) < 4294967296;omega)
      rw [biT (by rfl),cA (by simp only [List.length_cons,List.length_nil,List.length_map];omega),hw]
      obtain ⟨js',x',h',g1,g2,g3,g4⟩:=ih (z.size - fH z i) (by omega) (fH z i) m (js++[j]) (L++[bD z (i:Int) (fH z i:Int)]) x h rfl (by omega) l2 H (hP.push hj2) (by omega) (by simp;omega)
      refine ⟨js',x',h',?_,g2,by rw [List.append_assoc] at g3;exact g3,g4⟩
      rw [←g1,List.map_append];rfl
     | none=>
      have hlen:(((arr++x)++[bD z (i:Int) (fH z i:Int)]).length:Int) - 1=((arr++x).length:Int):=by simp only [List.length_append,List.length_cons,List.length_nil];omega
      rw [biF (by rfl),hlen,aG (by omega) (by omega),cA (by simp only [List.length_cons,List.length_nil];omega),cA (by simp only [List.length_cons,List.length_nil,List.length_map];omega),gM (by omega) (by omega)]
      have hx2:(arr++x)++[bD z (i:Int) (fH z i:Int)]=arr++(x++[bD z (i:Int) (fH z i:Int)]):=List.append_assoc _ _ _
      have H2:=H.push hf hne
      have hP2:Pts ((arr++x)++[bD z (i:Int) (fH z i:Int)]) (js++[(arr++x).length]) (L++[bD z (i:Int) (fH z i:Int)]):=(hP.ext _).push (by simp)
      rw [hx2] at H2 hP2 ⊢
      obtain ⟨js',x',h',g1,g2,g3,g4⟩:=ih (z.size - fH z i) (by omega) (fH z i) m _ _ _ _ rfl (by omega) l2 H2 hP2 (by simp;omega) (by simp;omega)
      refine ⟨js',x',h',?_,g2,by rw [List.append_assoc] at g3;exact g3,g4⟩
      rw [←g1,List.map_append];rfl
    rw [bdT (by omega),e,Option.bind_some]
    simp only
    by_cases hm1:r= -1
    ·subst hm1
     have hle:fH z i=z.size:=by rcases hr with ⟨_,h2⟩ | h2 <;> omega
     have hw:w64 ((z.size:Int) - 1+1)=(fH z i:Int):=by rw [aG (by omega) (by omega)];omega
     rw [biT (by rfl),hw,bF (by omega) (by omega) (by omega)]
     exact step _ (by omega)
    ·have hr':r+1=(fH z i:Int):=by rcases hr with ⟨h1,_⟩ | h2;exact absurd h1 hm1;exact h2
     have hw:w64 (r+1)=(fH z i:Int):=by rw [aG (by omega) (by omega)];exact hr'
     rw [biF (by rw [beq_eq_false_iff_ne];exact hm1),hw,bF (by omega) (by omega) (by omega)]
     exact step _ (by omega)
   ·rw [bdF (by omega),nP (by omega),List.append_nil]
    exact ⟨js,x,h,rfl,H,hP,by omega⟩
 obtain ⟨js,x,h',g1,g2,g3,g4⟩:=key z.size 0 n [] [] [] h (by omega) (by omega) (by omega) (by rw [List.append_nil];exact H) rfl (by simp) (by simp)
 rw [List.append_nil] at g1
 exact ⟨js,x,h',g1,g2,by simpa using g3,g4⟩
end Go.Proofs.YthkiaiilpaojnaaDoorZF
