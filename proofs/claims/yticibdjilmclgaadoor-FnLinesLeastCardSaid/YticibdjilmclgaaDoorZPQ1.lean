/- Plain statements about the printed functions. -/
import Derived.Test.YticibdjilmclgaaDoorZPQ0
import Derived.Test.YticibdjilmclgaaDoorZGA1
import Derived.Test.YticibdjilmclgaaDoorZFB
import Derived.Test.YticibdjilmclgaaDoorZGA0
import Derived.Lib.Join
namespace Go.Proofs.YticibdjilmclgaaDoorZF
open Go
set_option linter.unusedVariables false
set_option linter.unusedSimpArgs false
section
variable {β:Type} (q67:DenA gT→Option (DenR fN)) (q82:DenA gZ→Option (DenR fW)) (aB:DenA eX→Option (DenR dO)) (aA:DenA eP→Option (DenR eA))
variable {A B:List Int} {mD:Int} {p0:AK.den (.pro (.pair (.int .i64) (.pair (.int .i64) (.pair (.int .i64) (.pair (.flt .f64) (.pair (.int .i64) (.pair (.int .i64) (.flt .f64))))))) 0)}
theorem dK3 (n:Nat) (hn:Big≤n) {V2:Int→Int} {v2:List Int} {d s0 e0 sW eW s2 e2:Int} {kx} {kr:List (Int×ByteArray)→Option β} {fr:Bool}
  (hA2:Arr v2 mD V2) (hW:Done A.reverse B.reverse mD (d - 1) sW eW V2) (hm:2≤mD) (hm2:mD≤1000000) (hN:(A.length:Int)≤1000000) (hNM:(B.length:Int)≤1000000) (hD:2 * d - 1≤dst A B) (hDd:d≤dst A B):
  ∀(c m:Nat) (k s e:Int) (v1:List Int) (V1:Int→Int),Mid A B mD d s0 e0 s e k V1→Arr v1 mD V1→s≤3000000→e≤3000000→
   (fr=true→(dst A B:Int)=2 * d - 1→∀x y:Nat,Opt A B x y→(ft A B x y:Int)=d→k≤(x:Int) - y)→(d - e - k+2).toNat≤c→c < m→
   Met kr aA p0 A B (g104_19L (β:=β) n q67 q82 aB aA kr kx m p0 A B (A.length:Int) (B.length:Int) mD mD (2 * mD) v1 v2 ((A.length:Int) - B.length) fr s e s2 e2 d k)∨
   ∃s' e' v1' V1',g104_19L (β:=β) n q67 q82 aB aA kr kx m p0 A B (A.length:Int) (B.length:Int) mD mD (2 * mD) v1 v2 ((A.length:Int) - B.length) fr s e s2 e2 d k=kx p0 A B (A.length:Int) (B.length:Int) mD mD (2 * mD) v1' v2 ((A.length:Int) - B.length) fr s' e' s2 e2 d∧
    Arr v1' mD V1'∧Done A B mD d s' e' V1'∧s'≤3000000∧e'≤3000000∧(fr=true→(dst A B:Int)≠2 * d - 1):=by
 intro c
 induction c using Nat.strongRecOn with
 | _ c ih=>
  intro m k s e v1 V1 hM hA hs3 he3 hnd hc hm1
  obtain ⟨m,rfl⟩:∃m',m=m'+1:=⟨m - 1,by omega⟩
  have hs:=hM.hs
  have he:=hM.he
  have hd:=hM.dpos
  have hdm:=hM.dm
  have hkl:=hM.klo
  rw [g104_19L.eq_2]
  dsimp only [zI,YU]
  rw [aF (n:=d - e) (by omega) (by omega)]
  by_cases hk:k≤d - e
  ·rw [bdT hk]
   dsimp only [IX]
   rcases dJ3 (β:=β) (p0:=p0) q67 q82 aB aA n hn (kn:=fun p0 x1 x2 v7 v8 v9 v10 v11 x12 x13 v15 v16 v17 v18 v19 v20 v21 v22=>AV n q67 q82 aB aA (g104_19L n q67 q82 aB aA kr kx m) p0 x1 x2 v7 v8 v9 v10 v11 x12 x13 v15 v16 v17 v18 v19 v20 v21 v22) (kr:=kr) (fr:=fr) (s2:=s2) (e2:=e2) hM hk hA hA2 hW hm hm2 hN hNM hD hDd (by omega) (by omega) with h | ⟨xf,s',e',h1,h2,h3,h4,h5,h6⟩
   ·exact .inl h
   ·rw [h1]
    dsimp only [AV]
    rw [aF (n:=k+2) (by omega) (by omega)]
    have hM':=hM.step hk hDd h2 h3 h4 h5
    refine ih (d - e' - (k+2)+2).toNat ?_ m (k+2) s' e' _ _ hM' (hA.set (by omega) (by omega)) (by omega) (by omega) ?_ (Nat.le_refl _) ?_
    ·omega
    ·intro g1 g2 x y g3 g4
     have q1:=hnd g1 g2 x y g3 g4
     have q2:=h6 g1 g2 x y g3 g4
     have q3:=wQ (A:=A) (B:=B) x y
     have q4:=hM.kpar
     omega
    ·omega
  ·rw [bdF hk]
   refine .inr ⟨s,e,v1,V1,rfl,hA,hM.finish hk,hs3,he3,fun g1 g2=>?_⟩
   obtain ⟨x,y,ho,hfo⟩:=Opt.level (A:=A) (B:=B) d.toNat (by omega)
   have q1:=hnd g1 g2 x y ho (by omega)
   have q2:=hM.prune x y ho (by omega)
   omega
theorem dM2 (n:Nat) (hn:Big≤n) {V1:Int→Int} {v1:List Int} {d s0 e0 sW eW s1 e1:Int} {kx} {kr:List (Int×ByteArray)→Option β} {fr:Bool} (hfrd:fr=false→((A.length:Int) - B.length) % 2=0)
  (hA1:Arr v1 mD V1) (hV:Done A B mD d sW eW V1) (hm:2≤mD) (hm2:mD≤1000000) (hN:(A.length:Int)≤1000000) (hNM:(B.length:Int)≤1000000) (hD:fr=false→2 * d≤dst A B) (hDd:d≤dst A B):
  ∀(c m:Nat) (k s e:Int) (v2:List Int) (V2:Int→Int),Mid A.reverse B.reverse mD d s0 e0 s e k V2→Arr v2 mD V2→s≤3000000→e≤3000000→
   (fr=false→(dst A B:Int)=2 * d→∀x y:Nat,Opt A.reverse B.reverse x y→(ft A.reverse B.reverse x y:Int)=d→k≤(x:Int) - y)→(d - e - k+2).toNat≤c→c < m→
   Met kr aA p0 A B (g104_33L (β:=β) n q67 q82 aB aA kr kx m p0 A B (A.length:Int) (B.length:Int) mD mD (2 * mD) v1 v2 ((A.length:Int) - B.length) fr s1 e1 s e d k)∨
   ∃s' e' v2' V2',g104_33L (β:=β) n q67 q82 aB aA kr kx m p0 A B (A.length:Int) (B.length:Int) mD mD (2 * mD) v1 v2 ((A.length:Int) - B.length) fr s1 e1 s e d k=kx p0 A B (A.length:Int) (B.length:Int) mD mD (2 * mD) v1 v2' ((A.length:Int) - B.length) fr s1 e1 s' e' d∧
    Arr v2' mD V2'∧Done A.reverse B.reverse mD d s' e' V2'∧s'≤3000000∧e'≤3000000∧(fr=false→(dst A B:Int)≠2 * d):=by
 have hrD:dst A.reverse B.reverse=dst A B:=gQ A B
 intro c
 induction c using Nat.strongRecOn with
 | _ c ih=>
  intro m k s e v2 V2 hM hA hs3 he3 hnd hc hm1
  obtain ⟨m,rfl⟩:∃m',m=m'+1:=⟨m - 1,by omega⟩
  have hs:=hM.hs
  have he:=hM.he
  have hd:=hM.dpos
  have hdm:=hM.dm
  have hkl:=hM.klo
  rw [g104_33L.eq_2]
  dsimp only [yY,IB]
  rw [aF (n:=d - e) (by omega) (by omega)]
  by_cases hk:k≤d - e
  ·rw [bdT hk]
   dsimp only [JD]
   rcases dO5 (β:=β) (p0:=p0) q67 q82 aB aA n hn (kn:=fun p0 x1 x2 v7 v8 v9 v10 v11 x12 x13 v15 v16 v17 v18 v19 v20 v21 v28=>yO n q67 q82 aB aA (g104_33L n q67 q82 aB aA kr kx m) p0 x1 x2 v7 v8 v9 v10 v11 x12 x13 v15 v16 v17 v18 v19 v20 v21 v28) (kr:=kr) (fr:=fr) (s1:=s1) (e1:=e1) hfrd hM hk hA hA1 hV hm hm2 hN hNM hD hDd (by omega) (by omega) with h | ⟨xf,s',e',h1,h2,h3,h4,h5,h6⟩
   ·exact .inl h
   ·rw [h1]
    dsimp only [yO]
    rw [aF (n:=k+2) (by omega) (by omega)]
    have hM':=hM.step hk (by omega) h2 h3 h4 h5
    refine ih (d - e' - (k+2)+2).toNat ?_ m (k+2) s' e' _ _ hM' (hA.set (by omega) (by omega)) (by omega) (by omega) ?_ (Nat.le_refl _) ?_
    ·omega
    ·intro g1 g2 x y g3 g4
     have q1:=hnd g1 g2 x y g3 g4
     have q2:=h6 g1 g2 x y g3 g4
     have q3:=wQ (A:=A.reverse) (B:=B.reverse) x y
     have q4:=hM.kpar
     omega
    ·omega
  ·rw [bdF hk]
   refine .inr ⟨s,e,v2,V2,rfl,hA,hM.finish hk,hs3,he3,fun g1 g2=>?_⟩
   obtain ⟨x,y,ho,hfo⟩:=Opt.level (A:=A.reverse) (B:=B.reverse) d.toNat (by omega)
   have q1:=hnd g1 g2 x y ho (by omega)
   have q2:=hM.prune x y ho (by omega)
   omega
theorem dP0 (n:Nat) (hn:Big≤n) {kx} {kr:List (Int×ByteArray)→Option β} {fr:Bool} (hfrd:fr=false→((A.length:Int) - B.length) % 2=0) (hfrt:fr=true→((A.length:Int) - B.length) % 2=1)
  (hmD:2 * mD=(A.length:Int)+B.length∨2 * mD=(A.length:Int)+B.length+1) (hm:2≤mD) (hm2:mD≤1000000) (hN:(A.length:Int)≤1000000) (hNM:(B.length:Int)≤1000000):
  ∀(c m:Nat) (d s1 e1 s2 e2:Int) (v1 v2:List Int) (V1 V2:Int→Int),0≤d→(mD - d).toNat≤c→c < m→Done A B mD (d - 1) s1 e1 V1→Done A.reverse B.reverse mD (d - 1) s2 e2 V2→Arr v1 mD V1→Arr v2 mD V2→
   s1≤3000000→e1≤3000000→s2≤3000000→e2≤3000000→(fr=true→2 * d - 1≤dst A B)→(fr=false→2 * d≤dst A B)→
   Met kr aA p0 A B (g104_39L (β:=β) n q67 q82 aB aA kr kx m p0 A B (A.length:Int) (B.length:Int) mD mD (2 * mD) v1 v2 ((A.length:Int) - B.length) fr s1 e1 s2 e2 d)∨
   (g104_39L (β:=β) n q67 q82 aB aA kr kx m p0 A B (A.length:Int) (B.length:Int) mD mD (2 * mD) v1 v2 ((A.length:Int) - B.length) fr s1 e1 s2 e2 d=kx A B∧dst A B=A.length+B.length):=by
 have hrD:dst A.reverse B.reverse=dst A B:=gQ A B
 intro c
 induction c using Nat.strongRecOn with
 | _ c ih=>
  intro m d s1 e1 s2 e2 v1 v2 V1 V2 hd hc hm1 hV hW hA1 hA2 b1 b2 b3 b4 hDt hDf
  obtain ⟨m,rfl⟩:∃m',m=m'+1:=⟨m - 1,by omega⟩
  have hpar:=K6 A B
  have hhi:=YO A B
  rw [g104_39L.eq_2]
  dsimp only [zW,WQ]
  have hDD:2 * d - 1≤dst A B:=by
   cases hfr:fr with
   | true=>exact hDt hfr
   | false=>have:=hDf hfr;omega
  have hDd:d≤dst A B:=by omega
  by_cases hdm:d < mD
  ·rw [bdT hdm]
   dsimp only [IY,zQ,B6,KA,IM]
   have hV0:=hV.s0
   have hW0:=hW.s0
   rw [aF (n:=0 - d) (by omega) (by omega),aF (n:=0 - d+s1) (by omega) (by omega)]
   have hMV:=hV.start (by omega) (by omega)
   rw [show d - 1+1=d by omega] at hMV
   have hMW:=hW.start (by omega) (by omega)
   rw [show d - 1+1=d by omega] at hMW
   rw [show 0 - d+s1= -d+s1 by omega]
   have hVe:=hV.e0
   have hWe:=hW.e0
   rcases dK3 (β:=β) (p0:=p0) (A:=A) (B:=B) (mD:=mD) q67 q82 aB aA n hn (s2:=s2) (e2:=e2) (kr:=kr) (fr:=fr)
    (kx:=fun p0 x1 x2 v7 v8 v9 v10 v11 x12 x13 v15 v16 v17 v18 v19 v20 v21=>yL n q67 q82 aB aA (fun p0 x1 x2 v7 v8 v9 v10 v11 x12 x13 v15 v16 v17 v18 v19 v20 v21 v28=>zH n q67 q82 aB aA (fun p0 x1 x2 v7 v8 v9 v10 v11 x12 x13 v15 v16 v17 v18 v19 v20 v21=>uA n q67 q82 aB aA (g104_39L n q67 q82 aB aA kr kx m) p0 x1 x2 v7 v8 v9 v10 v11 x12 x13 v15 v16 v17 v18 v19 v20 v21) kr p0 x1 x2 v7 v8 v9 v10 v11 x12 x13 v15 v16 v17 v18 v19 v20 v21 v28) p0 x1 x2 v7 v8 v9 v10 v11 x12 x13 v15 v16 v17 v18 v19 v20 v21)
    hA2 hW hm hm2 hN hNM hDD hDd _ n (-d+s1) s1 e1 v1 V1 hMV hA1 b1 b2 (fun _ _ x y ho hfo=>by have:=hMV.prune x y ho (by omega);omega) (Nat.le_refl _) (by unfold Big at hn;omega) with h | ⟨s',e',v1',V1',h1,h2,h3,h4,h5,h6⟩
   ·exact .inl h
   rw [h1]
   dsimp only [yL,zH,IL]
   rw [aF (n:=0 - d) (by omega) (by omega),aF (n:=0 - d+s2) (by omega) (by omega),show 0 - d+s2= -d+s2 by omega]
   rcases dM2 (β:=β) (p0:=p0) (A:=A) (B:=B) (mD:=mD) q67 q82 aB aA n hn (s1:=s') (e1:=e') (kr:=kr) (fr:=fr)
    (kx:=fun p0 x1 x2 v7 v8 v9 v10 v11 x12 x13 v15 v16 v17 v18 v19 v20 v21=>uA n q67 q82 aB aA (g104_39L n q67 q82 aB aA kr kx m) p0 x1 x2 v7 v8 v9 v10 v11 x12 x13 v15 v16 v17 v18 v19 v20 v21)
    hfrd h2 h3 hm hm2 hN hNM hDf hDd _ n (-d+s2) s2 e2 v2 V2 hMW hA2 b3 b4 (fun _ _ x y ho hfo=>by have:=hMW.prune x y ho (by omega);omega) (Nat.le_refl _) (by unfold Big at hn;omega) with h | ⟨s'',e'',v2',V2',g1,g2,g3,g4,g5,g6⟩
   ·exact .inl h
   rw [g1]
   dsimp only [uA]
   rw [aF (n:=d+1) (by omega) (by omega)]
   refine ih (mD - (d+1)).toNat (by omega) m (d+1) s' e' s'' e'' v1' v2' V1' V2' (by omega) (Nat.le_refl _) (by omega) (by rw [show d+1 - 1=d by omega];exact h3) (by rw [show d+1 - 1=d by omega];exact g3) h2 g2 h4 h5 g4 g5 ?_ ?_
   ·intro hfr
    have q1:=hDt hfr
    have q2:=h6 hfr
    have q3:=hfrt hfr
    omega
   ·intro hfr
    have q1:=hDf hfr
    have q2:=g6 hfr
    have q3:=hfrd hfr
    omega
  ·rw [bdF hdm]
   refine .inr ⟨rfl,?_⟩
   cases hfr:fr with
   | true=>
    have q1:=hDt hfr
    have q3:=hfrt hfr
    omega
   | false=>
    have q1:=hDf hfr
    have q3:=hfrd hfr
    omega
theorem dJ6 (n:Nat) {kx} (N M m1 m2 L2:Int) (L:Nat) (hL:L≤4000000):∀(c i m:Nat) (v1 v2:List Int),L - i=c→i≤L→c < m→v1.length=L→v2.length=L→(∀j:Nat,j < i→rd v1 (j:Int) 0= -1∧rd v2 (j:Int) 0= -1)→
  ∃v1' v2',g104_3L (β:=β) n q67 q82 aB aA kx m p0 A B N M m1 m2 L2 v1 v2 (L:Int) (i:Int)=kx p0 A B N M m1 m2 L2 v1' v2'∧v1'.length=L∧v2'.length=L∧∀j:Nat,j < L→rd v1' (j:Int) 0= -1∧rd v2' (j:Int) 0= -1:=by
 intro c
 induction c with
 | zero=>
  intro i m v1 v2 hc hi hm h1 h2 hv
  obtain ⟨m,rfl⟩:∃m',m=m'+1:=⟨m - 1,by omega⟩
  refine ⟨v1,v2,?_,h1,h2,fun j hj=>hv j (by omega)⟩
  rw [g104_3L.eq_2,KO,bdF (by omega)]
 | succ c ih=>
  intro i m v1 v2 hc hi hm h1 h2 hv
  obtain ⟨m,rfl⟩:∃m',m=m'+1:=⟨m - 1,by omega⟩
  rw [g104_3L.eq_2,KO,bdT (by omega),aL (by omega) (by omega),aL (by omega) (by omega),aF (by omega) (by omega)]
  have key:∀v:List Int,v.length=L→∀j:Nat,j < i+1→(j < i→rd v (j:Int) 0= -1)→rd (v.set (i:Int).toNat (-1)) (j:Int) 0= -1:=fun v hv j hj hr=>by
   rw [nG (by omega) (by rw [List.length_set];omega),List.getElem_set]
   split
   ·rfl
   ·have:=hr (by omega)
    rw [nG (by omega) (by omega)] at this
    exact this
  exact ih (i+1) m _ _ (by omega) (by omega) (by omega) (by rw [List.length_set];exact h1) (by rw [List.length_set];exact h2) fun j hj=>⟨key v1 h1 j hj fun h=>(hv j h).1,key v2 h2 j hj fun h=>(hv j h).2⟩
theorem l9 (n:Nat) (hn:Big≤n) (h3:3≤A.length+B.length) (hN:A.length≤500000) (hM:B.length≤500000) {kr:List (Int×ByteArray)→Option β}:
  Met kr aA p0 A B (oY (β:=β) n q67 q82 aB aA kr p0 A B)∨
  (oY (β:=β) n q67 q82 aB aA kr p0 A B=kr [(-1,runesBytes A),(1,runesBytes B)]∧dst A B=A.length+B.length):=by
 dsimp only [oY,E0]
 rw [aF (n:=(A.length:Int)+B.length) (by omega) (by omega),aF (n:=(A.length:Int)+B.length+1) (by omega) (by omega)]
 obtain ⟨mN,hmN⟩:∃mN:Nat,mN=(A.length+B.length+1) / 2:=⟨_,rfl⟩
 have e1:((A.length:Int)+B.length+1).tdiv 2=(mN:Int):=by
  rw [Int.tdiv_eq_ediv_of_nonneg (by omega)];omega
 rw [e1,aF (n:=(mN:Int)) (by omega) (by omega),aF (n:=2 * (mN:Int)) (by omega) (by omega),bF (by omega) (by omega) (by omega),oI (by omega),bF (by omega) (by omega) (by omega),oI (by omega)]
 have e2:(2 * (mN:Int)).toNat=2 * mN:=by omega
 rw [e2,List.length_replicate]
 dsimp only [UG,UV]
 obtain ⟨v1,v2,i1,i2,i3,i4⟩:=dJ6 (β:=β) (p0:=p0) (A:=A) (B:=B) q67 q82 aB aA n (kx:=fun p0 x1 x2 v7 v8 v9 v10 v11 x12 x13=>KU n q67 q82 aB aA (fun p0 x1 x2 v7 v8 v9 v10 v11 x12 x13 v15 v16 v17 v18 v19 v20 v21=>zA n q67 q82 aB aA (fun x1 x2=>AJ n q67 q82 aB aA kr x1 x2) kr p0 x1 x2 v7 v8 v9 v10 v11 x12 x13 v15 v16 v17 v18 v19 v20 v21) p0 x1 x2 v7 v8 v9 v10 v11 x12 x13) (A.length:Int) (B.length:Int) (mN:Int) (mN:Int) (2 * (mN:Int)) (2 * mN) (by omega) (2 * mN) 0 n (List.replicate (2 * mN) 0) (List.replicate (2 * mN) 0) (by omega) (by omega) (by unfold Big at hn;omega) (by simp) (by simp) (fun j hj=>by omega)
 rw [show ((0:Nat):Int)=0 from rfl] at i1
 rw [i1]
 dsimp only [KU,zA,MD]
 rw [aF (n:=(mN:Int)+1) (by omega) (by omega),aL (by omega) (by omega),aL (by omega) (by omega),aF (n:=(A.length:Int) - B.length) (by omega) (by omega)]
 have harr:∀v:List Int,v.length=2 * mN→(∀j:Nat,j < 2 * mN→rd v (j:Int) 0= -1)→Arr (v.set ((mN:Int)+1).toNat 0) mN (SC (fun _=> -1) 1 0):=fun v hl hv=>by
  refine Arr.set (V:=fun _=> -1) ⟨by omega,fun j j1 j2=>?_⟩ (by omega) (by omega)
  have:=hv ((mN:Int)+j).toNat (by omega)
  rw [Int.toNat_of_nonneg (by omega)] at this
  exact this
 have hdone:∀A B:List Int,Done A B (mN:Int) (0 - 1) 0 0 (SC (fun _=> -1) 1 0):=fun A B=>Done.first (by omega) (fun j _ _ hj=>fV _ hj) (lJ _ _ _)
 have hfr:∀z:Int,((z.tmod 2 !=0)=false→z % 2=0)∧((z.tmod 2 !=0)=true→z % 2=1):=fun z=>by
  have:z.tmod 2=0↔z % 2=0:=⟨fun h=>Int.emod_eq_zero_of_dvd (Int.dvd_of_tmod_eq_zero h),fun h=>Int.tmod_eq_zero_of_dvd (Int.dvd_of_emod_eq_zero h)⟩
  refine ⟨fun h=>?_,fun h=>?_⟩
  ·have h:z.tmod 2=0:=by simpa using h
   exact this.1 h
  ·have h:¬z.tmod 2=0:=by simpa using h
   have:z % 2≠0:=fun h'=>h (this.2 h')
   omega
 rcases dP0 (β:=β) (p0:=p0) (A:=A) (B:=B) (mD:=(mN:Int)) q67 q82 aB aA n hn (kx:=fun x1 x2=>AJ n q67 q82 aB aA kr x1 x2) (kr:=kr) (fr:=((A.length:Int) - B.length).tmod 2 !=0) (hfr _).1 (hfr _).2 (by omega) (by omega) (by omega) (by omega) (by omega) _ n 0 0 0 0 0 _ _ _ _ (Int.le_refl _) (Nat.le_refl _) (by unfold Big at hn;omega) (hdone A B) (hdone A.reverse B.reverse) (harr v1 i2 fun j hj=>(i4 j hj).1) (harr v2 i3 fun j hj=>(i4 j hj).2) (by omega) (by omega) (by omega) (by omega) (fun _=>by omega) (fun _=>by omega) with h | ⟨h1,h2⟩
 ·exact .inl h
 ·exact .inr ⟨h1,h2⟩
end
theorem aQ9 {x y:List Int} (h:x.length=y.length) (hv:∀j,j < x.length→x.getD j 0=y.getD j 0):x=y:=by
 apply List.ext_getElem h
 intro j h1 h2
 have:=hv j h1
 simpa [List.getD,List.getElem?_eq_getElem h1,List.getElem?_eq_getElem h2] using this
theorem qE (n:Nat) (hn:Big≤n) (x y:List Int) (hx:x.length≤1000000000000):g79 n x y=some (decide (x=y),()):=by
 dsimp only [g79,P7,aE1,aJ4,bC7,aP9]
 by_cases hl:x.length=y.length
 ·rw [biF (by simp [hl])]
  have key:∀(d i m:Nat),x.length - i=d→i≤x.length→d < m→(∀j,j < i→x.getD j 0=y.getD j 0)→g79_3L n (fun v4=>@some (DenR [.dat .bool]) (v4,())) (some (true,())) m y x (x.length:Int) (i:Int)=some (decide (x=y),()):=by
   intro d
   induction d with
   | zero=>
    intro i m hd hi hm hv
    obtain ⟨m,rfl⟩:∃m',m=m'+1:=⟨m - 1,by omega⟩
    rw [g79_3L.eq_2,P9,bdF (by omega),decide_eq_true (aQ9 hl fun j hj=>hv j (by omega))]
   | succ d ih=>
    intro i m hd hi hm hv
    obtain ⟨m,rfl⟩:∃m',m=m'+1:=⟨m - 1,by omega⟩
    rw [g79_3L.eq_2,P9,bdT (by omega),aL (by omega) (by omega),aL (by omega) (by omega),jC,jC]
    by_cases e:x.getD i 0=y.getD i 0
    ·rw [biF (by rw [e];simp),aF (by omega) (by omega)]
     refine ih (i+1) m (by omega) (by omega) (by omega) fun j hj=>?_
     by_cases hj':j=i
     ·subst hj';exact e
     ·exact hv j (by omega)
    ·rw [biT (by simpa using e),decide_eq_false (fun h=>e (by rw [h]))]
  exact key x.length 0 n (by omega) (by omega) (by unfold Big at hn;omega) fun j hj=>by omega
 ·rw [biT (by simp;omega),decide_eq_false (fun h=>hl (by rw [h]))]
theorem GB (n:Nat) (hn:Big≤n) (x y:List Int) (hx:x.length≤1000000000000) (hy:y.length≤1000000000000):
  (∃u v,x=u++y++v∧aX3 n x y=some ((u.length:Int),()))∨((∀u v,x≠u++y++v)∧aX3 n x y=some (-1,())):=by
 dsimp only [aX3,LG,A4,XH,YH,XS]
 rw [aF (n:=(x.length:Int) - y.length) (by omega) (by omega)]
 have key:∀(d i m:Nat),x.length+1 - i=d→d < m→(∀j,j < i→j+y.length≤x.length→(x.drop j).take y.length≠y)→
   (∃u v,x=u++y++v∧g101_3L n (fun v4=>@some (DenR [.dat (.int .i64)]) (v4,())) (some (-1,())) m x y ((x.length:Int) - y.length) (i:Int)=some ((u.length:Int),()))∨
   ((∀u v,x≠u++y++v)∧g101_3L n (fun v4=>@some (DenR [.dat (.int .i64)]) (v4,())) (some (-1,())) m x y ((x.length:Int) - y.length) (i:Int)=some (-1,())):=by
  intro d
  induction d using Nat.strongRecOn with
  | _ d ih=>
   intro i m hd hm hv
   obtain ⟨m,rfl⟩:∃m',m=m'+1:=⟨m - 1,by omega⟩
   rw [g101_3L.eq_2,YM]
   by_cases h:i+y.length≤x.length
   ·rw [bdT (by omega),aF (n:=(i:Int)+y.length) (by omega) (by omega),bF (by omega) (by omega) (by omega)]
    have ec:cut x (i:Int) ((i:Int)+y.length)=(x.drop i).take y.length:=by
     rw [show (i:Int)+y.length=((i+y.length:Nat):Int) by omega,cH2];congr 1;omega
    rw [ec,qE n hn _ _ (by rw [List.length_take,List.length_drop];omega),Option.bind_some]
    by_cases e:(x.drop i).take y.length=y
    ·rw [biT (by simpa using e)]
     refine .inl ⟨x.take i,x.drop (i+y.length),?_,by rw [show (x.take i).length=i by rw [List.length_take];omega]⟩
     rw [List.append_assoc]
     conv=>rhs;rw [←e]
     rw [List.length_take,List.length_drop,show min y.length (x.length - i)=y.length by omega,←List.drop_drop,List.take_append_drop,List.take_append_drop]
    ·rw [biF (by simpa using e),aF (by omega) (by omega)]
     have:=ih (d - 1) (by omega) (i+1) m (by omega) (by omega) fun j hj hjl=>by
      by_cases hj':j=i
      ·subst hj';exact e
      ·exact hv j (by omega) hjl
     rw [show ((i:Int)+1)=((i+1:Nat):Int) by omega]
     exact this
   ·rw [bdF (by omega)]
    refine .inr ⟨fun u v hx'=>?_,rfl⟩
    have hl:=congrArg List.length hx'
    simp only [List.length_append] at hl
    refine hv u.length (by omega) (by omega) ?_
    rw [hx',List.append_assoc,List.drop_left,List.take_left]
 exact key (x.length+1) 0 n (by omega) (by unfold Big at hn;omega) fun j hj=>by omega
structure LD (a b:List Int) (l:List Rp):Prop where
 ok:Ok l
 src:bW l=a
 tgt:bV l=b
 ed:edR l=dst a b
 len:l.length≤3 * (a.length+b.length)
 full:Full l
theorem LD.best {a b:List Int} {l:List Rp} (h:LD a b l):rP l:=by unfold rP;rw [h.src,h.tgt];exact Nat.le_of_eq h.ed
theorem LD.of {a b:List Int} {l:List Rp} (ok:Ok l) (src:bW l=a) (tgt:bV l=b) (ed:edR l≤dst a b) (len:l.length≤3 * (a.length+b.length)) (full:Full l):LD a b l:=
 ⟨ok,src,tgt,by have:=lN l ok.ops;rw [src,tgt] at this;omega,len,full⟩
theorem LD.merge {a b:List Int} {l:List Rp} (h:LD a b l):LD a b (merge l):=by
 have h1:=OK h.ok
 have h2:=i6 h.ok
 have h3:=lN (Go.Proofs.YticibdjilmclgaaDoorZF.merge l) h.ok.merge.ops
 rw [h1.1,h1.2.1,h.src,h.tgt] at h3
 have h4:=h.ed
 have h5:=h.len
 refine LD.of h.ok.merge (h1.1.trans h.src) (h1.2.1.trans h.tgt) (by omega) ?_ (CD h.ok h.full h.best).1
 unfold phi at h2
 omega
theorem K4:∀(c:Int) (v:List Int),c∉v→dst [c] v=1+v.length
 | c,[],_=>by rw [eM];rfl
 | c,b::v,h=>by
  have h1:¬c=b:=fun e=>h (by simp [e])
  have h2:=K4 c v fun hv=>h (by simp [hv])
  rw [dN,if_neg h1,eD,h2,List.length_cons];omega
def Trim (a b:List Int):Prop:=(∀c x d y,a=c::x→b=d::y→c≠d)∧(∀c x d y,a=x++[c]→b=y++[d]→c≠d)
theorem Trim.two {a b:List Int} (h:Trim a b) (ha:a≠[]) (hb:b≠[]):2≤dst a b:=by
 match a,b,ha,hb with
 | c::x,d::y,_,_=>
  have hcd:=h.1 c x d y rfl rfl
  rw [dN,if_neg hcd]
  have k1:dst x (d::y)≠0:=fun h0=>by
   have e:=DD h0
   rcases List.eq_nil_or_concat (d::y) with g | ⟨u,q,g⟩
   ·cases g
   ·rw [List.concat_eq_append] at g
    exact h.2 q (c::u) q u (by rw [e,g];rfl) g rfl
  have k2:dst (c::x) y≠0:=fun h0=>by
   have e:=DD h0
   rcases List.eq_nil_or_concat (c::x) with g | ⟨u,q,g⟩
   ·cases g
   ·rw [List.concat_eq_append] at g
    exact h.2 q u q (d::u) g (by rw [←e,g];rfl) rfl
  omega
theorem HB {L S u v:List Int} (e:L=u++S++v) (hS:S≠[]) (h1:∀c x y,L=c::x→S=c::y→False) (h2:∀c x y,L=x++[c]→S=y++[c]→False):u≠[]∧v≠[]:=by
 refine ⟨fun hu=>?_,fun hv=>?_⟩
 ·subst hu
  cases S with
  | nil=>exact hS rfl
  | cons c y=>exact h1 c (y++v) y (by rw [e];simp) rfl
 ·subst hv
  rcases List.eq_nil_or_concat S with g | ⟨y,c,g⟩
  ·exact hS g
  ·rw [List.concat_eq_append] at g
   exact h2 c (u++y) y (by rw [e,g];simp) g
theorem Trim.ne {a b:List Int} (h:Trim a b):(∀c x y,a=c::x→b=c::y→False)∧(∀c x y,a=x++[c]→b=y++[c]→False):=⟨fun c x y h1 h2=>h.1 c x c y h1 h2 rfl,fun c x y h1 h2=>h.2 c x c y h1 h2 rfl⟩
theorem cT0 {k1 k2 k3:Int} {u s v:List Int} (hu:u≠[]) (hs:s≠[]) (hv:v≠[]):Full [(k1,u),(k2,s),(k3,v)]:=Full.cons hu (Full.cons hs (Full.cons hv Full.nil))
theorem cY1 {k1 k2:Int} {u v:List Int} (hu:u≠[]) (hv:v≠[]):Full [(k1,u),(k2,v)]:=Full.cons hu (Full.cons hv Full.nil)
theorem aP4 (n:Nat) (p0) (x y:List Int) (hp:p0.1≤(0:Int)):cC3 n p0 x y=some ((),()):=by
 dsimp only [cC3,MW,YX]
 rw [bdT hp]
section
variable (q67:DenA gT→Option (DenR fN)) (q82:DenA gZ→Option (DenR fW)) (aB:DenA eX→Option (DenR dO)) (aA:DenA eP→Option (DenR eA))
theorem bX1 (n:Nat) (p0) {A B:List Int} {x y:Nat} (hx:x≤A.length) (hy:y≤B.length) {l1 l2:List Rp} (h1:q67 (p0,(A.take x,(B.take y,(false,()))))=@some (DenR fN) (M l1,())) (h2:q67 (p0,(A.drop x,(B.drop y,(false,()))))=@some (DenR fN) (M l2,())) (hl:l1.length+l2.length≤1000000):
  WI n q67 q82 aB aA p0 A B (x:Int) (y:Int)=some (M (l1++l2),()):=by
 dsimp only [WI,D2]
 rw [bF (by omega) (by omega) (by omega),bF (by omega) (by omega) (by omega),bF (by omega) (by omega) (by omega),bF (by omega) (by omega) (by omega),dM,dM,gN _ _ _ (by omega),gN _ _ _ (by omega),Int.toNat_natCast,Int.toNat_natCast,aX h1,aX h2]
 simp only
 rw [bM (by unfold M;rw [List.length_map,List.length_map];omega)]
 unfold M
 rw [List.map_append]
theorem bO5 {γ:Type} (c d:Bool) (z:γ):(bif c then (bif d then z else z) else z)=z:=by cases c <;> cases d <;> rfl
theorem D9 (n:Nat) (hn:Big≤n) (p0) (hp:p0.1≤(0:Int)) {a b:List Int} (ln:Bool) (hln:ln=false∨a.length≤100∨b.length≤100) (ha:Valids a) (hb:Valids b) (hla:a.length≤100000) (hlb:b.length≤100000) (ht:Trim a b) (hne:a≠[]∨b≠[])
  (hq:2≤a.length→2≤b.length→2≤dst a b→∃l,aB (p0,(a,(b,())))=@some (DenR dO) (M l,())∧LD a b l):∃l,bP1 n q67 q82 aB aA p0 a b ln=some (M l,())∧LD a b l:=by
 dsimp only [bP1,R4,bH2]
 by_cases ea:a=[]
 ·subst ea
  rw [biT (by simp),bM (by simp)]
  refine ⟨[(1,b)],rfl,LD.of (fun d hd=>?_) rfl (by simp [bV]) (by rw [eD];show b.length+0≤_;omega) ?_ (Full.cons (hne.resolve_left (fun h=>h rfl)) Full.nil)⟩
  ·obtain rfl:=List.mem_singleton.1 hd
   exact ⟨.inr (.inr rfl),hb⟩
  ·have:b≠[]:=hne.resolve_left (fun h=>h rfl)
   have:=List.length_pos_iff.2 this
   simp;omega
 ·have pa:=List.length_pos_iff.2 ea
  rw [biF (by simp;exact ea)]
  by_cases eb:b=[]
  ·subst eb
   rw [biT (by simp),bM (by simp)]
   refine ⟨[(-1,a)],rfl,LD.of (fun d hd=>?_) (by simp [bW]) rfl (by rw [eM];show a.length+0≤_;omega) ?_ (Full.cons ea Full.nil)⟩
   ·obtain rfl:=List.mem_singleton.1 hd
    exact ⟨.inl rfl,ha⟩
   ·simp;omega
  ·have pb:=List.length_pos_iff.2 eb
   rw [biF (by simp;exact eb)]
   have hd2:=ht.two ea eb
   have key:∀(L S:List Int),S.length≤L.length→((L=a∧S=b∧a.length>b.length)∨(L=b∧S=a∧¬a.length>b.length))→∃l,O8 n q67 q82 aB aA (fun x8=>@some (DenR [.rw (.pair (.int .i8) .str) 81]) (x8,())) p0 a b ln L S=some (M l,())∧LD a b l:=by
    intro L S hSL hcase
    have hLv:Valids L:=by rcases hcase with ⟨rfl,_,_⟩ | ⟨rfl,_,_⟩ <;> assumption
    have hSv:Valids S:=by rcases hcase with ⟨_,rfl,_⟩ | ⟨_,rfl,_⟩ <;> assumption
    have hLl:L.length≤100000:=by rcases hcase with ⟨rfl,_,_⟩ | ⟨rfl,_,_⟩ <;> assumption
    have hSn:S≠[]:=by rcases hcase with ⟨_,rfl,_⟩ | ⟨_,rfl,_⟩ <;> assumption
    have hSp:=List.length_pos_iff.2 hSn
    unfold O8
    rcases GB n hn L S (by omega) (by omega) with ⟨u,v,e,h⟩ | ⟨hno,h⟩
    ·have hl:=congrArg List.length e
     simp only [List.length_append] at hl
     have huv:Valids u∧Valids v:=by
      rw [e] at hLv
      exact ⟨(Valids.of_append (Valids.of_append hLv).1).1,(Valids.of_append hLv).2⟩
     have c1:cut L 0 (u.length:Int)=u:=by rw [dM,e,Int.toNat_natCast,List.append_assoc,List.take_left]
     have c2:cut L ((u.length:Int)+S.length) (L.length:Int)=v:=by
      rw [gN _ _ _ (by omega),e,show ((u.length:Int)+S.length).toNat=(u++S).length by rw [List.length_append];omega,List.drop_left]
     rw [h,Option.bind_some,biT (by simp)]
     have hw:w64 ((u.length:Int)+S.length)=(u.length:Int)+S.length:=aF (by omega) (by omega)
     rcases hcase with ⟨rfl,rfl,hgt⟩ | ⟨rfl,rfl,hgt⟩
     ·rw [bdT (by omega)]
      simp only [hw]
      rw [bF (by omega) (by omega) (by omega),bF (by omega) (by omega) (by omega),c1,c2]
      have hw:=HB e hSn ht.ne.1 ht.ne.2
      refine ⟨[(-1,u),(0,S),(-1,v)],rfl,LD.of (fun d hd=>?_) ?_ ?_ ?_ ?_ (cT0 hw.1 hSn hw.2)⟩
      ·simp only [List.mem_cons,List.not_mem_nil,or_false] at hd
       rcases hd with rfl | rfl | rfl
       ·exact ⟨.inl rfl,huv.1⟩
       ·exact ⟨.inr (.inl rfl),hSv⟩
       ·exact ⟨.inl rfl,huv.2⟩
      ·show u++(S++(v++[]))=L;rw [e];simp
      ·show S++[]=S;simp
      ·show u.length+(0+(v.length+0))≤_
       have:=(OD L S).1
       omega
      ·simp;omega
     ·rw [bdF (by omega)]
      simp only [hw]
      rw [bF (by omega) (by omega) (by omega),bF (by omega) (by omega) (by omega),c1,c2]
      have hw:=HB e hSn (fun c x y k1 k2=>ht.ne.1 c y x k2 k1) (fun c x y k1 k2=>ht.ne.2 c y x k2 k1)
      refine ⟨[(1,u),(0,S),(1,v)],rfl,LD.of (fun d hd=>?_) ?_ ?_ ?_ ?_ (cT0 hw.1 hSn hw.2)⟩
      ·simp only [List.mem_cons,List.not_mem_nil,or_false] at hd
       rcases hd with rfl | rfl | rfl
       ·exact ⟨.inr (.inr rfl),huv.1⟩
       ·exact ⟨.inr (.inl rfl),hSv⟩
       ·exact ⟨.inr (.inr rfl),huv.2⟩
      ·show S++[]=S;simp
      ·show u++(S++(v++[]))=L;rw [e];simp
      ·show u.length+(0+(v.length+0))≤_
       have:=(OD S L).2
       omega
      ·simp;omega
    ·rw [h,Option.bind_some,biF (by simp)]
     by_cases h1:S.length=1
     ·rw [biT (by simp [h1])]
      obtain ⟨c,hc⟩:=List.length_eq_one_iff.1 h1
      have hcL:c∉L:=fun hm=>by
       obtain ⟨u,v,e⟩:=List.append_of_mem hm
       exact hno u v (by rw [e,hc];simp)
      have hdd:dst S L=1+L.length:=by rw [hc];exact K4 c L hcL
      refine ⟨[(-1,a),(1,b)],rfl,LD.of (fun d hd=>?_) ?_ ?_ ?_ ?_ (cY1 ea eb)⟩
      ·simp only [List.mem_cons,List.not_mem_nil,or_false] at hd
       rcases hd with rfl | rfl
       ·exact ⟨.inl rfl,ha⟩
       ·exact ⟨.inr (.inr rfl),hb⟩
      ·show a++[]=a;simp
      ·show b++[]=b;simp
      ·show a.length+(b.length+0)≤_
       rcases hcase with ⟨rfl,rfl,hgt⟩ | ⟨rfl,rfl,hgt⟩
       ·rw [uV _ _ _ (Nat.le_refl _),hdd];omega
       ·rw [hdd];omega
      ·simp;omega
     ·rw [biF (by simp;omega),aP4 n p0 a b hp,Option.bind_some]
      have h2a:2≤a.length∧2≤b.length:=by rcases hcase with ⟨rfl,rfl,hgt⟩ | ⟨rfl,rfl,hgt⟩ <;> omega
      obtain ⟨l,g1,g2⟩:=hq h2a.1 h2a.2 hd2
      refine ⟨l,?_,g2⟩
      rcases hln with rfl | h | h
      ·rw [cond_false,g1];rfl
      ·rw [bdF (by omega),g1];cases ln <;> rfl
      ·rw [bdF (p:=(b.length:Int)>100) (by omega),bO5,g1];rfl
   by_cases hgt:a.length>b.length
   ·rw [bdT (by omega)]
    exact key a b (by omega) (.inl ⟨rfl,rfl,hgt⟩)
   ·rw [bdF (by omega)]
    exact key b a (by omega) (.inr ⟨rfl,rfl,hgt⟩)
end
theorem bO4 {x y:List Int} {c d:Int} {u v:List Int} (hx:x.take (x.length - csl x y)=u++[c]) (hy:y.take (y.length - csl x y)=v++[d]):c≠d:=by
 have e1:=congrArg List.reverse hx
 have e2:=congrArg List.reverse hy
 rw [List.reverse_append] at e1 e2
 have q1:x.reverse.drop (cpl x.reverse y.reverse)=c::u.reverse:=by
  rw [List.drop_reverse];exact e1
 have q2:y.reverse.drop (cpl x.reverse y.reverse)=d::v.reverse:=by
  rw [List.drop_reverse];exact e2
 exact tC q1 q2
theorem cG3 (a b:List Int):Trim ((a.drop (cpl a b)).take ((a.drop (cpl a b)).length - csl (a.drop (cpl a b)) (b.drop (cpl a b)))) ((b.drop (cpl a b)).take ((b.drop (cpl a b)).length - csl (a.drop (cpl a b)) (b.drop (cpl a b)))):=by
 refine ⟨fun c x d y hx hy=>?_,fun c x d y hx hy=>bO4 hx hy⟩
 have g1:∃x',a.drop (cpl a b)=c::x':=by
  cases h:a.drop (cpl a b) with
  | nil=>rw [h] at hx;simp at hx
  | cons c' x'=>
   rw [h] at hx
   cases hn:(c'::x').length - csl (c'::x') (b.drop (cpl a b)) with
   | zero=>rw [hn] at hx;simp at hx
   | succ k=>rw [hn,List.take_succ_cons] at hx;exact ⟨x',by rw [List.cons.inj hx |>.1]⟩
 have g2:∃y',b.drop (cpl a b)=d::y':=by
  cases h:b.drop (cpl a b) with
  | nil=>rw [h] at hy;simp at hy
  | cons d' y'=>
   rw [h] at hy
   cases hn:(d'::y').length - csl (a.drop (cpl a b)) (d'::y') with
   | zero=>rw [hn] at hy;simp at hy
   | succ k=>rw [hn,List.take_succ_cons] at hy;exact ⟨y',by rw [List.cons.inj hy |>.1]⟩
 obtain ⟨x',g1⟩:=g1
 obtain ⟨y',g2⟩:=g2
 exact tC g1 g2
def cC (t:List Int):List Rp:=if t=[] then [] else [(0,t)]
theorem nY (t:List Int):Full (cC t):=by
 unfold cC
 split
 ·exact Full.nil
 ·rename_i h;exact Full.cons h Full.nil
theorem vX {t:List Int} (h:Valids t):Ok (cC t)∧bW (cC t)=t∧bV (cC t)=t∧edR (cC t)=0∧(cC t).length≤1:=by
 unfold cC
 split
 ·rename_i e;subst e;exact ⟨Ok.nil,rfl,rfl,rfl,by simp⟩
 ·refine ⟨fun d hd=>?_,by simp [bW],by simp [bV],by simp [edR],by simp⟩
  obtain rfl:=List.mem_singleton.1 hd
  exact ⟨.inr (.inl rfl),h⟩
section
variable (q67:DenA gT→Option (DenR fN)) (q82:DenA gZ→Option (DenR fW)) (aB:DenA eX→Option (DenR dO)) (aA:DenA eP→Option (DenR eA))
theorem aB1 (n:Nat) (hn:Big≤n) (p0) {a b:List Int} (ln:Bool) (ha:Valids a) (hb:Valids b) (hla:a.length≤100000) (hlb:b.length≤100000)
  (hq:a≠b→∀a' b':List Int,Valids a'→Valids b'→a'.length≤a.length→b'.length≤b.length→a'.length+b'.length≤a.length+b.length→Trim a' b'→(a'≠[]∨b'≠[])→∃l,q82 (p0,(a',(b',(ln,()))))=@some (DenR fW) (M l,())∧LD a' b' l):
  ∃l,bA0 n q67 q82 aB aA p0 a b ln=some (M l,())∧LD a b l∧((a=b∧l=cC a)∨(a≠b∧∃x,LD a b x∧l=merge x)):=by
 dsimp only [bA0,M3,aC0]
 rw [qE n hn a b (by omega),Option.bind_some]
 by_cases hab:a=b
 ·subst hab
  rw [biT (by simp)]
  have hd:=SH a
  by_cases ha0:a=[]
  ·subst ha0
   exact ⟨[],rfl,LD.of Ok.nil rfl rfl (Nat.zero_le _) (by simp) Full.nil, .inl ⟨rfl,rfl⟩⟩
  ·have:=List.length_pos_iff.2 ha0
   rw [bdT (by omega),bM (by simp)]
   have he:=vX ha
   have hep:cC a=[(0,a)]:=by unfold cC;rw [if_neg ha0]
   refine ⟨cC a,by rw [hep];rfl,LD.of he.1 he.2.1 he.2.2.1 (by rw [he.2.2.2.1];omega) (by omega) (nY a), .inl ⟨rfl,rfl⟩⟩
 ·rw [biF (by simpa using hab),HP n hn a b (by omega),Option.bind_some]
  have c1:=fB a b
  have c2:=eK a b
  have c3:=rX a b
  simp only
  rw [bF (by omega) (by omega) (by omega),bF (by omega) (by omega) (by omega),bF (by omega) (by omega) (by omega)]
  have htrim:=cG3 a b
  have q1:=gU (a.drop (cpl a b)) (b.drop (cpl a b))
  have q2:=gG (a.drop (cpl a b)) (b.drop (cpl a b))
  have q3:=SI (a.drop (cpl a b)) (b.drop (cpl a b))
  rw [gN a _ _ (by omega),gN b _ _ (by omega),Int.toNat_natCast,dM,Int.toNat_natCast]
  have ea:a=a.take (cpl a b)++a.drop (cpl a b):=(List.take_append_drop _ _).symm
  have eb:b=b.take (cpl a b)++b.drop (cpl a b):=(List.take_append_drop _ _).symm
  have la1:(a.drop (cpl a b)).length=a.length - cpl a b:=List.length_drop
  have lb1:(b.drop (cpl a b)).length=b.length - cpl a b:=List.length_drop
  have hva:Valids (a.take (cpl a b)):=ha.take _
  have hva1:Valids (a.drop (cpl a b)):=ha.drop _
  have hvb1:Valids (b.drop (cpl a b)):=hb.drop _
  generalize hpre:a.take (cpl a b)=pre at *
  generalize ha1:a.drop (cpl a b)=a1 at *
  generalize hb1:b.drop (cpl a b)=b1 at *
  generalize hs:csl a1 b1=s at *
  rw [vM n hn a1 b1 (by omega) (by omega),Option.bind_some,hs]
  simp only
  rw [aF (n:=(a1.length:Int) - s) (by omega) (by omega),aF (n:=(b1.length:Int) - s) (by omega) (by omega),bF (by omega) (by omega) (by omega),bF (by omega) (by omega) (by omega),bF (by omega) (by omega) (by omega),
   dM,dM,gN a1 _ _ (by omega),show ((a1.length:Int) - s).toNat=a1.length - s by omega,show ((b1.length:Int) - s).toNat=b1.length - s by omega]
  have ea1:a1=a1.take (a1.length - s)++a1.drop (a1.length - s):=(List.take_append_drop _ _).symm
  have eb1:b1=b1.take (b1.length - s)++a1.drop (a1.length - s):=by rw [q3];exact (List.take_append_drop _ _).symm
  have la2:(a1.take (a1.length - s)).length=a1.length - s:=by rw [List.length_take];omega
  have lb2:(b1.take (b1.length - s)).length=b1.length - s:=by rw [List.length_take];omega
  have lsf:(a1.drop (a1.length - s)).length=s:=by rw [List.length_drop];omega
  have hva2:=hva1.take (a1.length - s)
  have hvb2:=hvb1.take (b1.length - s)
  have hvsf:=hva1.drop (a1.length - s)
  have lpre:pre.length=cpl a b:=by rw [←hpre,List.length_take];omega
  generalize hsf:a1.drop (a1.length - s)=sf at *
  generalize ha2:a1.take (a1.length - s)=a2 at *
  generalize hb2:b1.take (b1.length - s)=b2 at *
  have hdst:dst a b=dst a2 b2:=by
   rw [ea,eb,←c3,jL,ea1,eb1,NJ]
  have eaf:a=pre++(a2++sf):=by rw [←ea1];exact ea
  have ebf:b=pre++(b2++sf):=by rw [←eb1,c3];exact eb
  have hne:a2≠[]∨b2≠[]:=by
   by_cases h:a2=[]
   ·right
    intro h2
    exact hab (by rw [eaf,ebf,h,h2])
   ·exact .inl h
  have hll:a2.length+b2.length≤a.length+b.length:=by omega
  obtain ⟨l,g1,g2⟩:=hq hab a2 b2 hva2 hvb2 (by omega) (by omega) hll htrim hne
  rw [aX g1]
  have hpo:=vX hva
  have hso:=vX hvsf
  have hlen:=g2.len
  have hx:LD a b (cC pre++l++cC sf):=by
   refine LD.of ((hpo.1.append g2.ok).append hso.1) ?_ ?_ ?_ ?_ (((nY pre).append g2.full).append (nY sf))
   ·rw [bO,bO,hpo.2.1,hso.2.1,g2.src,eaf,List.append_assoc]
   ·rw [bP,bP,hpo.2.2.1,hso.2.2.1,g2.tgt,ebf,List.append_assoc]
   ·rw [cM,cM,hpo.2.2.2.1,hso.2.2.2.1,g2.ed,hdst];omega
   ·have k1:(cC pre).length≤pre.length:=by
     unfold cC;split
     ·simp
     ·rename_i h;have:=List.length_pos_iff.2 h;simp;omega
    have k2:(cC sf).length≤sf.length:=by
     unfold cC;split
     ·simp
     ·rename_i h;have:=List.length_pos_iff.2 h;simp;omega
    rw [List.length_append,List.length_append]
    have z1:=congrArg List.length eaf
    have z2:=congrArg List.length ebf
    simp only [List.length_append] at z1 z2
    omega
  have hed:=hx.ed
  have hhi:=YO a b
  have hxl:=hx.len
  have hm:g73 n p0 (M (cC pre++l++cC sf))=some (M (merge (cC pre++l++cC sf)),()):=bX6 n hn p0 _ hx.ok (by unfold phi;omega) (by rw [hx.src,hx.tgt];omega)
  have last:∀z:List Rp,z=cC pre++l→M7 n q67 q82 aB aA (fun x8=>@some (DenR [.rw (.pair (.int .i8) .str) 81]) (x8,())) p0 sf (M z)=some (M (merge (cC pre++l++cC sf)),()):=fun z hz=>by
   subst hz
   unfold M7
   by_cases hsf0:sf=[]
   ·rw [biF (by simp [hsf0])]
    have:cC sf=[]:=by unfold cC;rw [if_pos hsf0]
    rw [this,List.append_nil] at hm ⊢
    rw [aX hm]
   ·have hp:=List.length_pos_iff.2 hsf0
    rw [biT (by simp [hsf0])]
    have:cC sf=[(0,sf)]:=by unfold cC;rw [if_neg hsf0]
    rw [bM (by unfold M;rw [List.length_map];simp only [List.length_append,List.length_cons,List.length_nil] at hxl ⊢;omega)]
    have e:M (cC pre++l)++[((0:Int),runesBytes sf)]=M (cC pre++l++cC sf):=by
     rw [this];unfold M;simp only [List.map_append];rfl
    rw [e,aX hm]
  refine ⟨merge (cC pre++l++cC sf),?_,hx.merge, .inr ⟨hab,_,hx,rfl⟩⟩
  by_cases hp0:pre=[]
  ·rw [biF (by simp [hp0])]
   exact last l (by unfold cC;rw [if_pos hp0];rfl)
  ·have hp:=List.length_pos_iff.2 hp0
   rw [biT (by simp [hp0]),bM (by unfold M;rw [List.length_map];simp only [List.length_append,List.length_cons,List.length_nil] at hxl ⊢;omega)]
   exact last ((0,pre)::l) (by unfold cC;rw [if_neg hp0];rfl)
end
theorem bO2 (n:Nat) (hn:Big≤n) (p0) (hp:p0.1≤(0:Int)):∀(N m:Nat) (a b:List Int) (ln:Bool),(ln=false∨a.length≤100∨b.length≤100∨a=b)→a.length+b.length≤N→N≤100000→4 * N+8≤m→Valids a→Valids b→
  ∃l,(bH n m).1 (p0,(a,(b,(ln,()))))=@some (DenR fN) (M l,())∧LD a b l∧((a=b∧l=cC a)∨(a≠b∧∃x,LD a b x∧l=merge x)):=by
 intro N
 induction N using Nat.strongRecOn with
 | _ N ih=>
  intro m a b ln hln hl hN hm ha hb
  obtain ⟨m,rfl⟩:∃m',m=m'+4:=⟨m - 4,by omega⟩
  refine aB1 (a:=a) (b:=b) (ln:=ln) (p0:=p0) (n:=n) (hn:=hn) (ha:=ha) (hb:=hb) (hla:=by omega) (hlb:=by omega) (hq:=?_) ..
  intro hab a' b' ha' hb' hla' hlb' hl' ht hne
  have hln':ln=false∨a'.length≤100∨b'.length≤100:=by
   rcases hln with h | h | h | h
   ·exact .inl h
   ·exact .inr (.inl (by omega))
   ·exact .inr (.inr (by omega))
   ·exact absurd h hab
  refine D9 (a:=a') (b:=b') (ln:=ln) (hln:=hln') (p0:=p0) (n:=n) (hn:=hn) (hp:=hp) (ha:=ha') (hb:=hb') (hla:=by omega) (hlb:=by omega) (ht:=ht) (hne:=hne) (hq:=?_) ..
  intro h2a h2b hd2
  rcases l9 (p0:=p0) (n:=n) (hn:=hn) (A:=a') (B:=b') (h3:=by omega) (hN:=by omega) (hM:=by omega) (kr:=fun x6=>@some (DenR dO) (x6,())) .. with h | ⟨h,hd⟩
  ·obtain ⟨x,y,ho,h1,h2,h3⟩:=h
   have hx:=ho.hx
   have hy:=ho.hy
   have hs:=ho.sum
   have l1:(a'.take x).length+(b'.take y).length < a'.length+b'.length:=by
    rw [List.length_take,List.length_take]
    by_cases e:x=a'.length∧y=b'.length
    ·rw [e.1,e.2,MK] at h1;omega
    ·omega
   have l2:(a'.drop x).length+(b'.drop y).length < a'.length+b'.length:=by
    rw [List.length_drop,List.length_drop]
    by_cases e:x=0∧y=0
    ·rw [e.1,e.2,F2] at h2;omega
    ·omega
   obtain ⟨u,u1,u2,_⟩:=ih _ (by omega:(a'.take x).length+(b'.take y).length < N) m (a'.take x) (b'.take y) false (.inl rfl) (Nat.le_refl _) (by omega) (by omega) (ha'.take _) (hb'.take _)
   obtain ⟨v,v1,v2,_⟩:=ih _ (by omega:(a'.drop x).length+(b'.drop y).length < N) m (a'.drop x) (b'.drop y) false (.inl rfl) (Nat.le_refl _) (by omega) (by omega) (ha'.drop _) (hb'.drop _)
   have ul:=u2.len
   have vl:=v2.len
   have hsp:=bX1 (n:=n) (p0:=p0) (hx:=hx) (hy:=hy) (h1:=u1) (h2:=v1) (hl:=by omega) (bH n m).1 (bH n m).2.1 (bH n m).2.2.1 (bH n m).2.2.2
   have key:LD a' b' (u++v):=by
    refine LD.of (u2.ok.append v2.ok) ?_ ?_ ?_ ?_ (u2.full.append v2.full)
    ·rw [bO,u2.src,v2.src,List.take_append_drop]
    ·rw [bP,u2.tgt,v2.tgt,List.take_append_drop]
    ·rw [cM,u2.ed,v2.ed]
     rw [eJ hx hy,gQ] at hs
     unfold gt at hs
     omega
    ·rw [List.length_append]
     rw [List.length_take,List.length_take] at ul
     rw [List.length_drop,List.length_drop] at vl
     omega
   refine ⟨u++v,?_,key⟩
   refine Eq.trans h3 ?_
   refine aX hsp
  ·refine ⟨[(-1,a'),(1,b')],h,LD.of (fun d hd'=>?_) ?_ ?_ ?_ ?_ (cY1 (List.ne_nil_of_length_pos (by omega)) (List.ne_nil_of_length_pos (by omega)))⟩
   ·simp only [List.mem_cons,List.not_mem_nil,or_false] at hd'
    rcases hd' with rfl | rfl
    ·exact ⟨.inl rfl,ha'⟩
    ·exact ⟨.inr (.inr rfl),hb'⟩
   ·show a'++[]=a';simp
   ·show b'++[]=b';simp
   ·show a'.length+(b'.length+0)≤_;omega
   ·simp;omega
theorem pH (n:Nat) (a b c d:Int):∃x,g65 n a b c d=some (x,()):=by
 dsimp only [g65,aQ3]
 by_cases h1:a < b
 ·rw [bdT h1];exact ⟨_,rfl⟩
 ·rw [bdF h1]
  by_cases h2:a>c
  ·rw [bdT h2];exact ⟨_,rfl⟩
  ·rw [bdF h2];exact ⟨_,rfl⟩
theorem Q2 (n:Nat) (a:Nat):∃x,g66 n a=some (x,()):=by
 dsimp only [g66,bU6]
 generalize (fGt .f64 a (0:Nat)||fEq .f64 a (0:Nat))=c1
 generalize (fLt .f64 a (4607182418800017408:Nat)||fEq .f64 a (4607182418800017408:Nat))=c2
 cases c1 <;> cases c2 <;> exact ⟨_,rfl⟩
theorem dF1 (n:Nat) (v):∃p,g50 n (false,v)=some (p,())∧p.1=(0:Int):=by
 dsimp only [g50,bP6]
 obtain ⟨x1,h1⟩:=pH n v.1 0 1000 4
 obtain ⟨x2,h2⟩:=pH n v.2.1 0 1048576 1000
 obtain ⟨x3,h3⟩:=Q2 n v.2.2.1
 obtain ⟨x4,h4⟩:=Q2 n v.2.2.2.1
 obtain ⟨x5,h5⟩:=pH n v.2.2.2.2.1 1 8 4
 obtain ⟨x6,h6⟩:=pH n v.2.2.2.2.2 32 62 32
 rw [aX h1,aX h2,aX h3,aX h4,aX h5,aX h6]
 exact ⟨_,rfl,rfl⟩
theorem dP4 (a m:Nat) (ha:a < 4294967296) (hm:m < 4294967296):dE .u32 (a:Int) (m:Int)=((a&&& m:Nat):Int):=by
 have e:(BitVec.ofInt 32 (a:Int)&&& BitVec.ofInt 32 (m:Int)).toNat=a&&& m:=by
  rw [BitVec.ofInt_natCast,BitVec.ofInt_natCast,BitVec.toNat_and,BitVec.toNat_ofNat,BitVec.toNat_ofNat,Nat.mod_eq_of_lt ha,Nat.mod_eq_of_lt hm]
 have hl:a&&& m≤a:=Nat.and_le_left
 show IntKind.u32.wrap ((BitVec.ofInt 32 (a:Int)&&& BitVec.ofInt 32 (m:Int)).toNat:Int)=_
 rw [e,eT (by omega) (by omega)]
theorem dR6 (a m:Nat) (ha:a < 256) (hm:m < 256):dE .u8 (a:Int) (m:Int)=((a&&& m:Nat):Int):=by
 have e:(BitVec.ofInt 8 (a:Int)&&& BitVec.ofInt 8 (m:Int)).toNat=a&&& m:=by
  rw [BitVec.ofInt_natCast,BitVec.ofInt_natCast,BitVec.toNat_and,BitVec.toNat_ofNat,BitVec.toNat_ofNat,Nat.mod_eq_of_lt ha,Nat.mod_eq_of_lt hm]
 have hl:a&&& m≤a:=Nat.and_le_left
 show IntKind.u8.wrap ((BitVec.ofInt 8 (a:Int)&&& BitVec.ofInt 8 (m:Int)).toNat:Int)=_
 rw [e,aD8 (by omega) (by omega)]
theorem or8 (a m:Nat) (ha:a < 256) (hm:m < 256):orI .u8 (a:Int) (m:Int)=((a||| m:Nat):Int):=by
 have e:(BitVec.ofInt 8 (a:Int)||| BitVec.ofInt 8 (m:Int)).toNat=a||| m:=by
  rw [BitVec.ofInt_natCast,BitVec.ofInt_natCast,BitVec.toNat_or,BitVec.toNat_ofNat,BitVec.toNat_ofNat,Nat.mod_eq_of_lt ha,Nat.mod_eq_of_lt hm]
 have hl:a||| m < 2 ^ 8:=Nat.or_lt_two_pow ha hm
 show IntKind.u8.wrap ((BitVec.ofInt 8 (a:Int)||| BitVec.ofInt 8 (m:Int)).toNat:Int)=_
 rw [e,aD8 (by omega) (by omega)]
theorem dR1 (a m:Nat) (ha:a < 4294967296) (hm:m < 4294967296):orI .u32 (a:Int) (m:Int)=((a||| m:Nat):Int):=by
 have e:(BitVec.ofInt 32 (a:Int)||| BitVec.ofInt 32 (m:Int)).toNat=a||| m:=by
  rw [BitVec.ofInt_natCast,BitVec.ofInt_natCast,BitVec.toNat_or,BitVec.toNat_ofNat,BitVec.toNat_ofNat,Nat.mod_eq_of_lt ha,Nat.mod_eq_of_lt hm]
 have hl:a||| m < 2 ^ 32:=Nat.or_lt_two_pow ha hm
 show IntKind.u32.wrap ((BitVec.ofInt 32 (a:Int)||| BitVec.ofInt 32 (m:Int)).toNat:Int)=_
 rw [e,eT (by omega) (by omega)]
theorem bB5 (k a b:Nat) (hb:b < 2 ^ k):2 ^ k * a||| b=2 ^ k * a+b:=(Nat.two_pow_add_eq_or_of_lt hb a).symm
theorem M0 (k a:Nat) (ha:a < 256) (hk:k≤8) (hp:2 ^ k≤256):dE .u8 (a:Int) ((2 ^ k - 1:Nat):Int)=((a % 2 ^ k:Nat):Int):=by
 have:=Nat.two_pow_pos k
 rw [dR6 a _ ha (by omega),Nat.and_two_pow_sub_one_eq_mod]
theorem R8 (k a b:Nat) (h:2 ^ k * a < 256) (h8:2 ^ k≤256) (hb:b < 2 ^ k):orI .u8 ((2 ^ k * a:Nat):Int) (b:Int)=((2 ^ k * a+b:Nat):Int):=by
 rw [or8 _ _ h (by omega),bB5 k a b hb]
theorem ZO (k a b:Nat) (h:2 ^ k * a < 4294967296) (h8:2 ^ k≤4294967296) (hb:b < 2 ^ k):orI .u32 ((2 ^ k * a:Nat):Int) (b:Int)=((2 ^ k * a+b:Nat):Int):=by
 rw [dR1 _ _ h (by omega),bB5 k a b hb]
theorem zL (K:IntKind) (a j:Nat) (h:j≤K.bits):dV K (a:Int) (j:Int)=((a / 2 ^ j:Nat):Int):=by
 unfold dV
 have e:min (j:Int).toNat K.bits=j:=by rw [Int.toNat_natCast];omega
 rw [e,Int.fdiv_eq_ediv_of_nonneg _ (Int.le_of_lt (Int.pow_pos (by decide)))]
 push_cast
 rfl
theorem T9 (a j:Nat) (h:j≤32) (hl:a * 2 ^ j < 4294967296):mP .u32 (a:Int) (j:Int)=((2 ^ j * a:Nat):Int):=by
 unfold mP
 have e:min (j:Int).toNat (IntKind.bits .u32)=j:=by rw [Int.toNat_natCast];show min j 32=j;omega
 have e2:(a:Int) * 2 ^ j=((a * 2 ^ j:Nat):Int):=by push_cast;rfl
 rw [e,e2,eT (by omega) (by omega),Nat.mul_comm]
theorem jU (a:Nat):IntKind.u8.wrap (a:Int)=((a % 256:Nat):Int):=by
 show ((a:Int) % (2 ^ 8:Int))=_
 omega
theorem dK (n v c f:Nat) (hv:v < 4294967296) (hc:c≤6) (hf:f≤18):rQ n (v:Int) (c:Int) (f:Int)=some (((v / 2 ^ f % 2 ^ c:Nat):Int),()):=by
 have h6:2 ^ c≤64:=Nat.le_trans (Nat.pow_le_pow_right (by decide) hc) (by decide)
 have h0:=Nat.two_pow_pos c
 have hd:v / 2 ^ f≤v:=Nat.div_le_self _ _
 have hm:v / 2 ^ f % 2 ^ c < 2 ^ c:=Nat.mod_lt _ h0
 dsimp only [rQ,XT]
 rw [R7 (by omega),R7 (by omega),zL .u32 v f (by show f≤32;omega),show (1:Int)=((1:Nat):Int) from rfl,T9 1 c (by omega) (by omega),Nat.mul_one]
 have e:((2 ^ c:Nat):Int) - ((1:Nat):Int)=((2 ^ c - 1:Nat):Int):=by omega
 rw [e,eT (by omega) (by omega),dP4 _ _ (by omega) (by omega),Nat.and_two_pow_sub_one_eq_mod,jU,Nat.mod_eq_of_lt (a:=v / 2 ^ f % 2 ^ c) (by omega)]
theorem iB (xs:List Int) (i:Nat) (h:i < xs.length) (hx:0≤xs[i]∧xs[i] < 256):((strOfNums xs).get! i).toNat=xs[i].toNat:=by
 have e:(strOfNums xs).get! i=UInt8.ofNat xs[i].toNat:=by
  show ((xs.map fun x=>UInt8.ofNat x.toNat).toArray)[i]! =_
  simp [h]
 rw [e,b8 _ (by omega)]
theorem C9 (xs:List Int) (h:xs≠[]):Lib.decodeGo (strOfNums xs)=Utf8.decode (strOfNums xs) 0:=by
 unfold Lib.decodeGo
 rw [if_neg]
 rw [eY]
 intro h0
 exact h (List.length_eq_zero_iff.1 h0)
theorem dr2 (n a b:Nat) (ha:a < 32) (hb:b < 64) (hc:128≤a * 64+b):yC n [((192+a:Nat):Int),((128+b:Nat):Int)]=some (((a * 64+b:Nat):Int),(2,())):=by
 unfold yC
 rw [if_pos ⟨by simp,by simp;omega⟩,C9 _ (by simp),L3 _ 0 a b (by rw [iB _ 0 (by simp) (by simp;omega)];simp;omega) (by rw [iB _ 1 (by simp) (by simp;omega)];simp;omega) (by rw [eY];simp) ha hb hc]
 rfl
theorem dr3 (n a b c:Nat) (ha:a < 16) (hb:b < 64) (hc:c < 64) (hv:2048≤a * 4096+b * 64+c) (hw:Utf8.valid ((a * 4096+b * 64+c:Nat):Int)=true):yC n [((224+a:Nat):Int),((128+b:Nat):Int),((128+c:Nat):Int)]=some (((a * 4096+b * 64+c:Nat):Int),(3,())):=by
 unfold yC
 rw [if_pos ⟨by simp,by simp;omega⟩,C9 _ (by simp),HV _ 0 a b c (by rw [iB _ 0 (by simp) (by simp;omega)];simp;omega) (by rw [iB _ 1 (by simp) (by simp;omega)];simp;omega) (by rw [iB _ 2 (by simp) (by simp;omega)];simp;omega) (by rw [eY];simp) ha hb hc hv hw]
 rfl
theorem dr4 (n a b c d:Nat) (ha:a < 8) (hb:b < 64) (hc:c < 64) (hd:d < 64) (hv:65536≤a * 262144+b * 4096+c * 64+d) (hw:Utf8.valid ((a * 262144+b * 4096+c * 64+d:Nat):Int)=true):yC n [((240+a:Nat):Int),((128+b:Nat):Int),((128+c:Nat):Int),((128+d:Nat):Int)]=some (((a * 262144+b * 4096+c * 64+d:Nat):Int),(4,())):=by
 unfold yC
 rw [if_pos ⟨by simp,by simp;omega⟩,C9 _ (by simp),TC _ 0 a b c d (by rw [iB _ 0 (by simp) (by simp;omega)];simp;omega) (by rw [iB _ 1 (by simp) (by simp;omega)];simp;omega) (by rw [iB _ 2 (by simp) (by simp;omega)];simp;omega) (by rw [iB _ 3 (by simp) (by simp;omega)];simp;omega) (by rw [eY];simp) ha hb hc hd hv hw]
 rfl
def ofN (v:Nat):Nat:=if v < 55296 then v else if v < 63485 then v+2048 else v+2051
theorem GV {v:Nat} (h:v < 1110016):ofN v < 1112067∧(ofN v < 55296∨57343 < ofN v)∧ofN v≠65533:=by
 unfold ofN;split
 ·omega
 ·split <;> omega
theorem wY {r:Nat} (h:r < 55296∨57343 < r∧r < 1114112):Utf8.valid (r:Int)=true:=by
 unfold Utf8.valid;simp;omega
theorem l2 (x:Nat) (h:x < 32):orI .u8 (192:Int) (x:Int)=((192+x:Nat):Int):=R8 5 6 x (by decide) (by decide) h
theorem l3 (x:Nat) (h:x < 16):orI .u8 (224:Int) (x:Int)=((224+x:Nat):Int):=R8 4 14 x (by decide) (by decide) h
theorem l4 (x:Nat) (h:x < 8):orI .u8 (240:Int) (x:Int)=((240+x:Nat):Int):=R8 3 30 x (by decide) (by decide) h
theorem l1 (x:Nat) (h:x < 64):orI .u8 (128:Int) (x:Int)=((128+x:Nat):Int):=R8 6 2 x (by decide) (by decide) h
theorem TM (n w:Nat) (h0:2048≤w) (h1:w < 65536) (h2:w < 55296∨57343 < w):yC n [orI .u8 (224:Int) ((w / 2 ^ 12 % 2 ^ 4:Nat):Int),orI .u8 (128:Int) ((w / 2 ^ 6 % 2 ^ 6:Nat):Int),orI .u8 (128:Int) ((w / 2 ^ 0 % 2 ^ 6:Nat):Int)]=some ((w:Int),(3,())):=by
 rw [l3 _ (by omega),l1 _ (by omega),l1 _ (by omega)]
 have e:w / 2 ^ 12 % 2 ^ 4 * 4096+w / 2 ^ 6 % 2 ^ 6 * 64+w / 2 ^ 0 % 2 ^ 6=w:=by omega
 rw [dr3 n _ _ _ (by omega) (by omega) (by omega) (by omega) (by rw [e];exact wY (by omega)),e]
theorem LX (n v:Nat) (hv:v < 1110016):g96 n (v:Int)=some ((ofN v:Int),()):=by
 dsimp only [g96,aG2]
 by_cases c1:v < 128
 ·rw [bdT (by omega),cA4 (by omega) (by omega),show ofN v=v by unfold ofN;rw [if_pos (by omega)]]
 rw [bdF (by omega)]
 by_cases c2:v < 2048
 ·rw [bdT (by omega),show (5:Int)=((5:Nat):Int) from rfl,show (6:Int)=((6:Nat):Int) from rfl,show (0:Int)=((0:Nat):Int) from rfl,dK n v 5 6 (by omega) (by omega) (by omega),dK n v 6 0 (by omega) (by omega) (by omega)]
  simp only [Option.bind_some]
  rw [l2 _ (by omega),l1 _ (by omega)]
  have e:v / 2 ^ 6 % 2 ^ 5 * 64+v / 2 ^ 0 % 2 ^ 6=v:=by omega
  rw [dr2 n _ _ (by omega) (by omega) (by omega),e,Option.bind_some]
  have ne:((v:Int)==(65533:Int))=false:=by simp;omega
  simp only [show ((2:Int)!=(2:Int))=false from rfl,cond_false,ne]
  rw [show ofN v=v by unfold ofN;rw [if_pos (by omega)]]
 rw [bdF (by omega)]
 by_cases c3:v < 63485
 ·rw [bdT (by omega)]
  by_cases c4:v < 55296
  ·rw [bdF (by omega),show (4:Int)=((4:Nat):Int) from rfl,show (12:Int)=((12:Nat):Int) from rfl,show (6:Int)=((6:Nat):Int) from rfl,show (0:Int)=((0:Nat):Int) from rfl,dK n v 4 12 (by omega) (by omega) (by omega),dK n v 6 6 (by omega) (by omega) (by omega),dK n v 6 0 (by omega) (by omega) (by omega)]
   simp only [Option.bind_some]
   rw [TM n v (by omega) (by omega) (by omega),Option.bind_some]
   have ne:((v:Int)==(65533:Int))=false:=by simp;omega
   simp only [show ((3:Int)!=(3:Int))=false from rfl,cond_false,ne]
   rw [show ofN v=v by unfold ofN;rw [if_pos (by omega)]]
  ·have hw:IntKind.u32.wrap ((v:Int)+2048)=((v+2048:Nat):Int):=by rw [eT (by omega) (by omega)];omega
   rw [bdT (by omega),hw,show (4:Int)=((4:Nat):Int) from rfl,show (12:Int)=((12:Nat):Int) from rfl,show (6:Int)=((6:Nat):Int) from rfl,show (0:Int)=((0:Nat):Int) from rfl,dK n (v+2048) 4 12 (by omega) (by omega) (by omega),dK n (v+2048) 6 6 (by omega) (by omega) (by omega),dK n (v+2048) 6 0 (by omega) (by omega) (by omega)]
   simp only [Option.bind_some]
   rw [TM n (v+2048) (by omega) (by omega) (by omega),Option.bind_some]
   have ne:(((v+2048:Nat):Int)==(65533:Int))=false:=by simp;omega
   simp only [show ((3:Int)!=(3:Int))=false from rfl,cond_false,ne]
   rw [show ofN v=v+2048 by unfold ofN;rw [if_neg (by omega),if_pos (by omega)]]
 rw [bdF (by omega),bdT (by omega)]
 have hw:IntKind.u32.wrap ((v:Int)+2051)=((v+2051:Nat):Int):=by rw [eT (by omega) (by omega)];omega
 rw [hw,show (3:Int)=((3:Nat):Int) from rfl,show (18:Int)=((18:Nat):Int) from rfl,show (12:Int)=((12:Nat):Int) from rfl,show (6:Int)=((6:Nat):Int) from rfl,show (0:Int)=((0:Nat):Int) from rfl,dK n (v+2051) 3 18 (by omega) (by omega) (by omega),dK n (v+2051) 6 12 (by omega) (by omega) (by omega),dK n (v+2051) 6 6 (by omega) (by omega) (by omega),dK n (v+2051) 6 0 (by omega) (by omega) (by omega)]
 simp only [Option.bind_some]
 rw [l4 _ (by omega),l1 _ (by omega),l1 _ (by omega),l1 _ (by omega)]
 have e:(v+2051) / 2 ^ 18 % 2 ^ 3 * 262144+(v+2051) / 2 ^ 12 % 2 ^ 6 * 4096+(v+2051) / 2 ^ 6 % 2 ^ 6 * 64+(v+2051) / 2 ^ 0 % 2 ^ 6=v+2051:=by omega
 rw [dr4 n _ _ _ _ (by omega) (by omega) (by omega) (by omega) (by omega) (by rw [e];exact wY (by omega)),e,Option.bind_some]
 have ne:(((v+2051:Nat):Int)==(65533:Int))=false:=by simp;omega
 simp only [show ((4:Int)!=(4:Int))=false from rfl,cond_false,ne]
 rw [show ofN v=v+2051 by unfold ofN;rw [if_neg (by omega),if_neg (by omega)]]
theorem m63 (a:Nat) (h:a < 256):dE .u8 (a:Int) (63:Int)=((a % 64:Nat):Int):=M0 6 a h (by decide) (by decide)
theorem m31 (a:Nat) (h:a < 256):dE .u8 (a:Int) (31:Int)=((a % 32:Nat):Int):=M0 5 a h (by decide) (by decide)
theorem m15 (a:Nat) (h:a < 256):dE .u8 (a:Int) (15:Int)=((a % 16:Nat):Int):=M0 4 a h (by decide) (by decide)
theorem m7 (a:Nat) (h:a < 256):dE .u8 (a:Int) (7:Int)=((a % 8:Nat):Int):=M0 3 a h (by decide) (by decide)
theorem sh6 (r:Nat):dV .i32 (r:Int) (6:Int)=((r / 64:Nat):Int):=zL .i32 r 6 (by decide)
theorem dD5 (r:Nat):dV .i32 (r:Int) (12:Int)=((r / 4096:Nat):Int):=zL .i32 r 12 (by decide)
theorem dR4 (r:Nat):dV .i32 (r:Int) (18:Int)=((r / 262144:Nat):Int):=zL .i32 r 18 (by decide)
theorem RN (x:Nat):orI .u8 (128:Int) (dE .u8 (IntKind.u8.wrap (x:Int)) (63:Int))=((128+x % 64:Nat):Int):=by
 rw [jU,m63 _ (by omega),l1 _ (by omega),show x % 256 % 64=x % 64 by omega]
theorem dR3 (n r:Nat) (h1:128≤r) (h2:r < 2048):g97 n [0,0,0,0] (r:Int)=some ((2,()),([((192+r / 64:Nat):Int),((128+r % 64:Nat):Int),0,0],())):=by
 have e:IntKind.u32.wrap (r:Int)=(r:Int):=eT (by omega) (by omega)
 dsimp only [g97,PW,bB4,wM,BH,CA,BZ]
 rw [e,bdF (by omega),bdT (by omega),aL (by simp) (by simp),aL (by simp) (by simp),aL (by simp) (by simp),sh6,jU,l2 _ (by omega),RN,show r / 64 % 256=r / 64 by omega]
 rfl
theorem dQ7 (n r:Nat) (h1:2048≤r) (h2:r < 65536) (h3:r < 55296∨57343 < r):g97 n [0,0,0,0] (r:Int)=some ((3,()),([((224+r / 4096:Nat):Int),((128+r / 64 % 64:Nat):Int),((128+r % 64:Nat):Int),0],())):=by
 have e:IntKind.u32.wrap (r:Int)=(r:Int):=eT (by omega) (by omega)
 dsimp only [g97,PW,bB4,wM,BH,CA,BZ]
 rw [e,bdF (by omega),bdF (by omega)]
 by_cases c:r < 55296
 ·rw [bdT (by omega),bdT (by omega),aL (by simp) (by simp),aL (by simp) (by simp),aL (by simp) (by simp),aL (by simp) (by simp),sh6,dD5,jU (r / 4096),l3 _ (by omega),RN,RN,show r / 4096 % 256=r / 4096 by omega]
  rfl
 ·rw [bdF (by omega),bdT (by omega),bdT (by omega),aL (by simp) (by simp),aL (by simp) (by simp),aL (by simp) (by simp),aL (by simp) (by simp),sh6,dD5,jU (r / 4096),l3 _ (by omega),RN,RN,show r / 4096 % 256=r / 4096 by omega]
  rfl
theorem dR2 (n r:Nat) (h1:65536≤r) (h2:r < 1114112):g97 n [0,0,0,0] (r:Int)=some ((4,()),([((240+r / 262144:Nat):Int),((128+r / 4096 % 64:Nat):Int),((128+r / 64 % 64:Nat):Int),((128+r % 64:Nat):Int)],())):=by
 have e:IntKind.u32.wrap (r:Int)=(r:Int):=eT (by omega) (by omega)
 dsimp only [g97,PW,bB4,wM,BH,CA,BZ]
 rw [e,bdF (by omega),bdF (by omega),bdF (by omega),bdT (by omega),bdF (by omega),bdT (by omega),bdT (by omega),aL (by simp) (by simp),aL (by simp) (by simp),aL (by simp) (by simp),aL (by simp) (by simp),aL (by simp) (by simp),sh6,dD5,dR4,jU (r / 262144),l4 _ (by omega),RN,RN,RN,show r / 262144 % 256=r / 262144 by omega]
 rfl
def toN (r:Nat):Nat:=if r < 57343 then r else if r < 65536 then r - 2048 else r - 2051
theorem sA {v:Nat} (h:v < 1110016):toN (ofN v)=v:=by
 unfold toN ofN;split
 ·rw [if_pos (by omega)]
 ·split
  ·rw [if_neg (by omega),if_pos (by omega)];omega
  ·rw [if_neg (by omega),if_neg (by omega)];omega
theorem s6 (a:Nat) (h:a < 64):mP .u32 (a:Int) (6:Int)=((64 * a:Nat):Int):=T9 a 6 (by decide) (by omega)
theorem s12 (a:Nat) (h:a < 64):mP .u32 (a:Int) (12:Int)=((4096 * a:Nat):Int):=T9 a 12 (by decide) (by omega)
theorem s18 (a:Nat) (h:a < 64):mP .u32 (a:Int) (18:Int)=((262144 * a:Nat):Int):=T9 a 18 (by decide) (by omega)
theorem j6 (a b:Nat) (h:a < 33554432) (hb:b < 64):orI .u32 ((64 * a:Nat):Int) (b:Int)=((64 * a+b:Nat):Int):=ZO 6 a b (by omega) (by decide) hb
theorem j12 (a b:Nat) (h:a < 524288) (hb:b < 4096):orI .u32 ((4096 * a:Nat):Int) (b:Int)=((4096 * a+b:Nat):Int):=ZO 12 a b (by omega) (by decide) hb
theorem j18 (a b:Nat) (h:a < 8192) (hb:b < 262144):orI .u32 ((262144 * a:Nat):Int) (b:Int)=((262144 * a+b:Nat):Int):=ZO 18 a b (by omega) (by decide) hb
theorem cH9 (a:Nat) (h:a < 4294967296):IntKind.u32.wrap (a:Int)=(a:Int):=eT (by omega) (by omega)
theorem p31 (x:Nat) (h:x < 32):IntKind.u32.wrap (dE .u8 ((192+x:Nat):Int) (31:Int))=(x:Int):=by rw [m31 _ (by omega),cH9 _ (by omega)];omega
theorem p15 (x:Nat) (h:x < 16):IntKind.u32.wrap (dE .u8 ((224+x:Nat):Int) (15:Int))=(x:Int):=by rw [m15 _ (by omega),cH9 _ (by omega)];omega
theorem p7 (x:Nat) (h:x < 8):IntKind.u32.wrap (dE .u8 ((240+x:Nat):Int) (7:Int))=(x:Int):=by rw [m7 _ (by omega),cH9 _ (by omega)];omega
theorem p63 (x:Nat) (h:x < 64):IntKind.u32.wrap (dE .u8 ((128+x:Nat):Int) (63:Int))=(x:Int):=by rw [m63 _ (by omega),cH9 _ (by omega)];omega
theorem KR (n r:Nat) (h:r < 55296∨57343 < r∧r < 1114112):g77 n (r:Int)=some ((toN r:Int),()):=by
 have e:IntKind.u32.wrap (r:Int)=(r:Int):=eT (by omega) (by omega)
 dsimp only [g77,bM7]
 rw [e]
 by_cases c1:r < 128
 ·rw [bdT (by omega),show toN r=r by unfold toN;rw [if_pos (by omega)]]
 rw [bdF (by omega)]
 by_cases c2:r < 2048
 ·rw [aX (dR3 n r (by omega) c2)]
  simp only [show ((2:Int)==(2:Int))=true from rfl,cond_true]
  rw [aL (by simp) (by simp),aL (by simp) (by simp)]
  simp only [show ∀a b c d:Int,rd [a,b,c,d] 0 0=a from fun _ _ _ _=>rfl,show ∀a b c d:Int,rd [a,b,c,d] 1 0=b from fun _ _ _ _=>rfl]
  rw [p31 _ (by omega),p63 _ (by omega),s6 _ (by omega),j6 _ _ (by omega) (by omega),show 64 * (r / 64)+r % 64=r by omega,show toN r=r by unfold toN;rw [if_pos (by omega)]]
 by_cases c3:r < 65536
 ·rw [aX (dQ7 n r (by omega) c3 (by omega))]
  simp only [show ((3:Int)==(2:Int))=false from rfl,show ((3:Int)==(3:Int))=true from rfl,cond_true,cond_false]
  rw [aL (by simp) (by simp),aL (by simp) (by simp),aL (by simp) (by simp)]
  simp only [show ∀a b c d:Int,rd [a,b,c,d] 0 0=a from fun _ _ _ _=>rfl,show ∀a b c d:Int,rd [a,b,c,d] 1 0=b from fun _ _ _ _=>rfl,show ∀a b c d:Int,rd [a,b,c,d] 2 0=c from fun _ _ _ _=>rfl]
  rw [p15 _ (by omega),p63 _ (by omega),p63 _ (by omega),s12 _ (by omega),s6 _ (by omega),j12 _ _ (by omega) (by omega),show 4096 * (r / 4096)+64 * (r / 64 % 64)=64 * (r / 64) by omega,j6 _ _ (by omega) (by omega),show 64 * (r / 64)+r % 64=r by omega]
  by_cases c4:r < 57343
  ·rw [bdF (by omega),show toN r=r by unfold toN;rw [if_pos c4]]
  ·rw [bdT (by omega),eT (by omega) (by omega),show toN r=r - 2048 by unfold toN;rw [if_neg c4,if_pos c3]]
   rw [show ((r:Int) - 2048)=((r - 2048:Nat):Int) by omega]
 rw [aX (dR2 n r (by omega) (by omega))]
 simp only [show ((4:Int)==(2:Int))=false from rfl,show ((4:Int)==(3:Int))=false from rfl,show ((4:Int)==(4:Int))=true from rfl,cond_true,cond_false]
 rw [aL (by simp) (by simp),aL (by simp) (by simp),aL (by simp) (by simp),aL (by simp) (by simp)]
 simp only [show ∀a b c d:Int,rd [a,b,c,d] 0 0=a from fun _ _ _ _=>rfl,show ∀a b c d:Int,rd [a,b,c,d] 1 0=b from fun _ _ _ _=>rfl,show ∀a b c d:Int,rd [a,b,c,d] 2 0=c from fun _ _ _ _=>rfl,show ∀a b c d:Int,rd [a,b,c,d] 3 0=d from fun _ _ _ _=>rfl]
 rw [p7 _ (by omega),p63 _ (by omega),p63 _ (by omega),p63 _ (by omega),s18 _ (by omega),s12 _ (by omega),s6 _ (by omega),j18 _ _ (by omega) (by omega),show 262144 * (r / 262144)+4096 * (r / 4096 % 64)=4096 * (r / 4096) by omega,j12 _ _ (by omega) (by omega),show 4096 * (r / 4096)+64 * (r / 64 % 64)=64 * (r / 64) by omega,j6 _ _ (by omega) (by omega),show 64 * (r / 64)+r % 64=r by omega,eT (n:=(r:Int) - 2048) (by omega) (by omega),eT (by omega) (by omega),show toN r=r - 2051 by unfold toN;rw [if_neg (by omega),if_neg c3]]
 rw [show ((r:Int) - 2048 - 3)=((r - 2051:Nat):Int) by omega]
def xQ (z:ByteArray):Nat→Nat→Nat
 | 0,i=>i
 | d+1,i=>if cL z (i:Int)=10 then i+1 else xQ z d (i+1)
def dQ (z:ByteArray) (i:Nat):Nat:=xQ z (z.size - i) i
def IsEnd (z:ByteArray) (i e:Nat):Prop:=i < e∧e≤z.size∧(∀j:Nat,i≤j→j+1 < e→cL z (j:Int)≠10)∧(cL z ((e - 1:Nat):Int)=10∨e=z.size)
theorem iR {z:ByteArray} {i:Nat} (h:i < z.size):IsEnd z i (dQ z i):=by
 have key:∀(d i:Nat),z.size - i=d→i < z.size→IsEnd z i (xQ z d i):=by
  intro d
  induction d with
  | zero=>intro i hd hi;omega
  | succ d ih=>
   intro i hd hi
   unfold xQ
   by_cases hb:cL z (i:Int)=10
   ·rw [if_pos hb]
    exact ⟨by omega,by omega,fun j h1 h2=>by omega, .inl hb⟩
   ·rw [if_neg hb]
    by_cases hi':i+1 < z.size
    ·obtain ⟨h1,h2,h3,h4⟩:=ih (i+1) (by omega) hi'
     refine ⟨by omega,h2,fun j hj1 hj2=>?_,h4⟩
     by_cases hji:j=i
     ·subst hji;exact hb
     ·exact h3 j (by omega) hj2
    ·obtain rfl:d=0:=by omega
     refine ⟨by unfold xQ;omega,by unfold xQ;omega,fun j hj1 hj2=>?_, .inr (by unfold xQ;omega)⟩
     unfold xQ at hj2
     obtain rfl:j=i:=by omega
     exact hb
 exact key _ i rfl h
theorem IsEnd.uniq {z:ByteArray} {i e f:Nat} (h:IsEnd z i e) (k:IsEnd z i f):e=f:=by
 obtain ⟨a1,a2,a3,a4⟩:=h
 obtain ⟨b1,b2,b3,b4⟩:=k
 rcases Nat.lt_trichotomy e f with c | c | c
 ·rcases a4 with a4 | a4
  ·exact absurd a4 (b3 (e - 1) (by omega) (by omega))
  ·omega
 ·exact c
 ·rcases b4 with b4 | b4
  ·exact absurd b4 (a3 (f - 1) (by omega) (by omega))
  ·omega
theorem mQ {z:ByteArray} {i e:Nat} (h:IsEnd z i e):dQ z i=e:=(iR (by obtain ⟨h1,h2,_⟩:=h;omega)).uniq h
def jT (z:ByteArray):Nat→Nat→List ByteArray
 | 0,_=>[]
 | f+1,i=>if i < z.size then cD z (i:Int) (dQ z i:Int)::jT z f (dQ z i) else []
def cJ (z:ByteArray) (i:Nat):List ByteArray:=jT z (z.size - i) i
theorem DO (z:ByteArray):∀(f i:Nat),z.size - i≤f→jT z f i=cJ z i:=by
 intro f
 induction f using Nat.strongRecOn with
 | _ f ih=>
  intro i hf
  unfold cJ
  by_cases h:i < z.size
  ·obtain ⟨f,rfl⟩:∃g,f=g+1:=⟨f - 1,by omega⟩
   obtain ⟨g,hg⟩:∃g,z.size - i=g+1:=⟨z.size - i - 1,by omega⟩
   obtain ⟨h1,h2,_⟩:=iR h
   rw [hg]
   unfold jT
   rw [if_pos h,if_pos h,ih f (by omega) (dQ z i) (by omega)]
   by_cases hgf:g < f+1
   ·rw [ih g hgf (dQ z i) (by omega)]
   ·omega
  ·rw [show z.size - i=0 by omega]
   cases f with
   | zero=>rfl
   | succ f=>unfold jT;rw [if_neg h]
theorem iP {z:ByteArray} {i:Nat} (h:i < z.size):cJ z i=cD z (i:Int) (dQ z i:Int)::cJ z (dQ z i):=by
 obtain ⟨h1,h2,_⟩:=iR h
 rw [←DO z (z.size - i - 1) (dQ z i) (by omega)]
 unfold cJ
 obtain ⟨g,hg⟩:∃g,z.size - i=g+1:=⟨z.size - i - 1,by omega⟩
 rw [hg,Nat.add_sub_cancel]
 show (if i < z.size then cD z (i:Int) (dQ z i:Int)::jT z g (dQ z i) else [])=_
 rw [if_pos h]
theorem fZ {z:ByteArray} {i:Nat} (h:z.size≤i):cJ z i=[]:=by
 unfold cJ
 rw [show z.size - i=0 by omega];rfl
theorem eU (z:ByteArray):∀(d i:Nat),z.size - i=d→(cJ z i).length≤d:=by
 intro d
 induction d using Nat.strongRecOn with
 | _ d ih=>
  intro i hd
  by_cases h:i < z.size
  ·obtain ⟨h1,h2,_⟩:=iR h
   rw [iP h,List.length_cons]
   have:=ih (z.size - dQ z i) (by omega) (dQ z i) rfl
   omega
  ·rw [fZ (by omega)];simp
theorem N5 {z:ByteArray} {i:Nat} (h:i < z.size):cD z (i:Int) (dQ z i:Int)≠(⟨#[]⟩:ByteArray):=by
 obtain ⟨h1,h2,_⟩:=iR h
 intro e
 have:=pF (z:=z) (a:=(i:Int)) (b:=(dQ z i:Int)) (by omega) (by omega) (by omega)
 rw [e] at this
 have h0:(⟨#[]⟩:ByteArray).size=0:=rfl
 omega
theorem tJ (n:Nat) (hn:Big≤n) (z:ByteArray) (hz:z.size≤1000000000):g31 n z=some (cJ z 0,()):=by
 have hB:(4611686018427387904:Nat)≤n:=hn
 dsimp only [g31,Q8,aK7,aK3,aO4]
 have key:∀(d i m from_:Nat) (acc:List ByteArray),z.size - i=d→d < m→i≤z.size→from_≤i→acc.length≤i→(∀j:Nat,from_≤j→j < i→cL z (j:Int)≠10)→
   g31_3L n (fun v0 x3 v4=>R6 n (fun x2=>some (x2,())) v0 x3 v4) m z acc (from_:Int) (i:Int)=some (acc++cJ z from_,()):=by
  intro d
  induction d with
  | zero=>
   intro i m from_ acc hd hm hi hf ha hno
   obtain ⟨m,rfl⟩:∃m',m=m'+1:=⟨m - 1,by omega⟩
   rw [g31_3L.eq_2,Q7,bdF (by omega)]
   dsimp only [R6]
   by_cases h:from_ < z.size
   ·have he:dQ z from_=z.size:=mQ ⟨h,Nat.le_refl _,fun j h1 h2=>hno j h1 (by omega), .inr rfl⟩
    rw [bdT (by omega),bF (by omega) (by omega) (by omega),bM (by simp only [List.length_cons,List.length_nil];omega),iP h,he,fZ (Nat.le_refl _)]
   ·rw [bdF (by omega),fZ (by omega),List.append_nil]
  | succ d ih=>
   intro i m from_ acc hd hm hi hf ha hno
   obtain ⟨m,rfl⟩:∃m',m=m'+1:=⟨m - 1,by omega⟩
   have hw:w64 ((i:Int)+1)=((i+1:Nat):Int):=by rw [aF (by omega) (by omega)];omega
   rw [g31_3L.eq_2,Q7,bdT (by omega),aL (by omega) (by omega),hw]
   by_cases hb:cL z (i:Int)=10
   ·have hb':(cL z (i:Int)==10)=true:=by rw [hb];rfl
    have he:dQ z from_=i+1:=mQ ⟨by omega,by omega,fun j h1 h2=>hno j h1 (by omega), .inl hb⟩
    rw [biT hb',bF (by omega) (by omega) (by omega),bM (by simp only [List.length_cons,List.length_nil];omega)]
    refine (ih (i+1) m (i+1) _ (by omega) (by omega) (by omega) (by omega) (by simp;omega) (fun j h1 h2=>by omega)).trans ?_
    rw [iP (show from_ < z.size by omega),he,List.append_assoc];rfl
   ·have hb':(cL z (i:Int)==10)=false:=by simpa using hb
    rw [biF hb']
    refine ih (i+1) m from_ acc (by omega) (by omega) (by omega) (by omega) (by omega) (fun j h1 h2=>?_)
    by_cases hji:j=i
    ·subst hji;exact hb
    ·exact hno j h1 (by omega)
 have:=key z.size 0 n 0 [] (by omega) (by omega) (by omega) (by omega) (by simp) (fun j h1 h2=>by omega)
 exact this
theorem T4 {z:ByteArray} {i:Nat} (h:i < z.size):bS (cD z (i:Int) ((i:Int)+1))=[cL z (i:Int)]:=by
 have hl:=aY z
 rw [dR,lK (by omega) (by omega)]
 unfold cut rd
 rw [show (i:Int).toNat=i by omega,show ((i:Int)+1).toNat - i=1 by omega,List.getD_eq_getElem?_getD,List.getElem?_eq_getElem (show i < (bS z).length by omega),List.drop_eq_getElem_cons (show i < (bS z).length by omega)]
 rfl
theorem dJ4 {z:ByteArray} {i:Nat} (h:i < z.size):dL (cD z (i:Int) ((i:Int)+1)) (⟨#[10]⟩:ByteArray)=decide (cL z (i:Int)=10):=by
 rw [fJ]
 have e:bS (⟨#[10]⟩:ByteArray)=[10]:=rfl
 by_cases hb:cL z (i:Int)=10
 ·rw [decide_eq_true hb,decide_eq_true]
  refine jA ?_
  rw [T4 h,hb,e]
 ·rw [decide_eq_false hb,decide_eq_false]
  intro h2
  have:=congrArg bS h2
  rw [T4 h,e] at this
  exact hb (List.cons.inj this).1
theorem P4 (n:Nat) (hn:Big≤n) (z:ByteArray) (hz:z.size≤1000000000):∃r:Int,g94 n z (⟨#[10]⟩:ByteArray)=some (r,())∧((r= -1∧∀j:Nat,j < z.size→cL z (j:Int)≠10)∨(∃k:Nat,r=k∧k < z.size∧cL z (k:Int)=10∧∀j:Nat,j < k→cL z (j:Int)≠10)):=by
 have hB:(4611686018427387904:Nat)≤n:=hn
 dsimp only [g94,M6,bT6,bT2,aX9,bJ5]
 have key:∀(d i m:Nat),z.size - i=d→d < m→i≤z.size→(∀j:Nat,j < i→cL z (j:Int)≠10)→∃r:Int,g94_3L n (fun v4=>@some (DenR [.dat (.int .i64)]) (v4,())) (some (-1,())) m z (⟨#[10]⟩:ByteArray) (i:Int)=some (r,())∧((r= -1∧∀j:Nat,j < z.size→cL z (j:Int)≠10)∨(∃k:Nat,r=k∧k < z.size∧cL z (k:Int)=10∧∀j:Nat,j < k→cL z (j:Int)≠10)):=by
  intro d
  have h1:(⟨#[10]⟩:ByteArray).size=1:=rfl
  induction d with
  | zero=>
   intro i m hd hm hi hno
   obtain ⟨m,rfl⟩:∃m',m=m'+1:=⟨m - 1,by omega⟩
   rw [g94_3L.eq_2,K7,h1,aF (by omega) (by omega),bdF (by omega)]
   exact ⟨-1,rfl, .inl ⟨rfl,fun j hj=>hno j (by omega)⟩⟩
  | succ d ih=>
   intro i m hd hm hi hno
   obtain ⟨m,rfl⟩:∃m',m=m'+1:=⟨m - 1,by omega⟩
   rw [g94_3L.eq_2,K7,h1,aF (by omega) (by omega),bdT (by omega),bF (by omega) (by omega) (by omega)]
   simp only [show ((1:Nat):Int)=1 from rfl]
   rw [dJ4 (by omega)]
   by_cases hb:cL z (i:Int)=10
   ·rw [bdT hb]
    exact ⟨i,rfl, .inr ⟨i,rfl,by omega,hb,hno⟩⟩
   ·rw [bdF hb,aF (n:=(i:Int)+1) (by omega) (by omega),show (i:Int)+1=((i+1:Nat):Int) by omega]
    exact ih (i+1) m (by omega) (by omega) (by omega) (fun j hj=>by
     by_cases hji:j=i
     ·subst hji;exact hb
     ·exact hno j (by omega))
 exact key z.size 0 n (by omega) (by omega) (by omega) (fun j hj=>by omega)
theorem X3 (n:Nat) (hn:Big≤n) (z:ByteArray) (hz:z.size≤1000000000) (i:Nat) (hi:i < z.size):∃r:Int,g95 n z (⟨#[10]⟩:ByteArray) (i:Int)=some (r,())∧((r= -1∧dQ z i=z.size)∨r+1=(dQ z i:Int)):=by
 dsimp only [g95,aA4]
 rw [aF (by omega) (by omega),bdF (by omega)]
 by_cases h0:i=0
 ·subst h0
  rw [bdT (by omega)]
  obtain ⟨r,e,h⟩:=P4 n hn z hz
  rw [e,Option.bind_some]
  refine ⟨r,rfl,?_⟩
  rcases h with ⟨h1,h2⟩ | ⟨k,h1,h2,h3,h4⟩
  ·exact .inl ⟨h1,mQ ⟨by omega,Nat.le_refl _,fun j _ hj=>h2 j (by omega), .inr rfl⟩⟩
  ·right
   have:dQ z 0=k+1:=mQ ⟨by omega,by omega,fun j _ hj=>h4 j (by omega), .inl h3⟩
   omega
 ·rw [bdF (by omega),bF (by omega) (by omega) (by omega)]
  have hs:(cD z (i:Int) (z.size:Int)).size=z.size - i:=by rw [pF (by omega) (by omega) (by omega)];omega
  have hba:∀j:Nat,j < z.size - i→cL (cD z (i:Int) (z.size:Int)) (j:Int)=cL z ((i+j:Nat):Int):=fun j hj=>by
   rw [QS (by omega) (by omega) (by omega) (by omega)];congr 1
  obtain ⟨r,e,h⟩:=P4 n hn (cD z (i:Int) (z.size:Int)) (by omega)
  rw [e,Option.bind_some]
  rcases h with ⟨h1,h2⟩ | ⟨k,h1,h2,h3,h4⟩
  ·subst h1
   refine ⟨-1,rfl, .inl ⟨rfl,mQ ⟨by omega,Nat.le_refl _,fun j hj1 hj2=>?_, .inr rfl⟩⟩⟩
   have:=h2 (j - i) (by omega)
   rw [hba _ (by omega),show i+(j - i)=j by omega] at this
   exact this
  ·subst h1
   have hne:((k:Int)== -1)=false:=by rw [beq_eq_false_iff_ne];omega
   simp only [hne,cond_false]
   rw [aF (by omega) (by omega)]
   refine ⟨(k:Int)+i,rfl, .inr ?_⟩
   have:dQ z i=i+k+1:=mQ ⟨by omega,by omega,fun j hj1 hj2=>?_, .inl ?_⟩
   ·omega
   ·have:=h4 (j - i) (by omega)
    rw [hba _ (by omega),show i+(j - i)=j by omega] at this
    exact this
   ·rw [hba _ (by omega)] at h3;exact h3
@[reducible] def Hash:=List (ByteArray×Int)
abbrev GO (x:ByteArray) (h:Hash):Option Int:=eR (a:= .str) (b:=(.int .i64)) x h
abbrev dI7 (x:ByteArray) (y:Int) (h:Hash):Hash:=mH (a:= .str) (b:=(.int .i64)) x y h
theorem kG (x:ByteArray) (y:Int):∀h:Hash,GO x (dI7 x y h)=some y
 | []=>by
  show (bif dL x x then some y else none)=some y
  rw [fJ,decide_eq_true rfl];rfl
 | e::h=>by
  show eR (a:= .str) (b:=(.int .i64)) x (bif dL x e.1 then (x,y)::h else e::mH (a:= .str) (b:=(.int .i64)) x y h)=some y
  cases hs:dL x e.1 with
  | true=>
   show (bif dL x x then some y else _)=some y
   rw [fJ x x,decide_eq_true rfl];rfl
  | false=>
   show (bif dL x e.1 then some e.2 else eR (a:= .str) (b:=(.int .i64)) x (mH (a:= .str) (b:=(.int .i64)) x y h))=some y
   rw [hs];exact kG x y h
theorem jE {x x':ByteArray} (y:Int) (hne:x'≠x):∀h:Hash,GO x' (dI7 x y h)=GO x' h
 | []=>by
  show (bif dL x' x then some y else none)=none
  rw [fJ,decide_eq_false hne];rfl
 | e::h=>by
  show eR (a:= .str) (b:=(.int .i64)) x' (bif dL x e.1 then (x,y)::h else e::mH (a:= .str) (b:=(.int .i64)) x y h)=(bif dL x' e.1 then some e.2 else eR (a:= .str) (b:=(.int .i64)) x' h)
  cases hs:dL x e.1 with
  | true=>
   have he:x=e.1:=by rw [fJ] at hs;simpa using hs
   show (bif dL x' x then some y else eR (a:= .str) (b:=(.int .i64)) x' h)=_
   rw [fJ,decide_eq_false hne,fJ,decide_eq_false (he ▸ hne)];rfl
  | false=>
   show (bif dL x' e.1 then some e.2 else eR (a:= .str) (b:=(.int .i64)) x' (mH (a:= .str) (b:=(.int .i64)) x y h))=_
   rw [show eR (a:= .str) (b:=(.int .i64)) x' (mH (a:= .str) (b:=(.int .i64)) x y h)=eR (a:= .str) (b:=(.int .i64)) x' h from jE y hne h]
structure HI (arr:List ByteArray) (h:Hash):Prop where
 head:arr[0]? =some (⟨#[]⟩:ByteArray)
 ne:∀j l,1≤j→arr[j]? =some l→l≠(⟨#[]⟩:ByteArray)
 find:∀(j:Nat) l,1≤j→arr[j]? =some l→GO l h=some (j:Int)
 back:∀l k,GO l h=some k→∃j:Nat,k=j∧1≤j∧arr[j]? =some l
theorem HI.start:HI [(⟨#[]⟩:ByteArray)] []:=by
 refine ⟨rfl,fun j l hj h=>?_,fun j l hj h=>?_,fun l k h=>by cases h⟩
 ·rw [List.getElem?_eq_none (by simp;omega)] at h;cases h
 ·rw [List.getElem?_eq_none (by simp;omega)] at h;cases h
theorem HI.len {arr:List ByteArray} {h:Hash} (H:HI arr h):1≤arr.length:=by
 have:=(List.getElem?_eq_some_iff.1 H.head).1
 omega
theorem HI.push {arr:List ByteArray} {h:Hash} (H:HI arr h) {l:ByteArray} (hl:GO l h=none) (hne:l≠(⟨#[]⟩:ByteArray)):HI (arr++[l]) (dI7 l (arr.length:Int) h):=by
 have h1:=H.len
 have key:∀(j:Nat) x,(arr++[l])[j]? =some x→(j < arr.length∧arr[j]? =some x)∨(j=arr.length∧x=l):=fun j x hx=>by
  rcases Nat.lt_trichotomy j arr.length with c | c | c
  ·rw [List.getElem?_append_left c] at hx;exact .inl ⟨c,hx⟩
  ·subst c;simp at hx;exact .inr ⟨rfl,hx.symm⟩
  ·rw [List.getElem?_eq_none (by simp;omega)] at hx;cases hx
 have lne:∀(j:Nat) x,1≤j→arr[j]? =some x→x≠l:=fun j x hj hx e=>by
  subst e;rw [H.find j x hj hx] at hl;cases hl
 refine ⟨by rw [List.getElem?_append_left (by omega)];exact H.head,fun j x hj hx=>?_,fun j x hj hx=>?_,fun x k hx=>?_⟩
 ·rcases key j x hx with ⟨_,h2⟩ | ⟨_,rfl⟩
  ·exact H.ne j x hj h2
  ·exact hne
 ·rcases key j x hx with ⟨_,h2⟩ | ⟨rfl,rfl⟩
  ·rw [jE _ (lne j x hj h2)];exact H.find j x hj h2
  ·exact kG _ _ h
 ·by_cases e:x=l
  ·subst e
   rw [kG] at hx
   cases hx
   exact ⟨arr.length,rfl,h1,by simp⟩
  ·rw [jE _ e] at hx
   obtain ⟨j,h2,h3,h4⟩:=H.back x k hx
   exact ⟨j,h2,h3,by rw [List.getElem?_append_left (List.getElem?_eq_some_iff.1 h4).1];exact h4⟩
def Pts (arr:List ByteArray) (js:List Nat) (L:List ByteArray):Prop:=js.map (fun j=>arr[j]?)=L.map some
theorem Pts.lt {arr:List ByteArray} {js:List Nat} {L:List ByteArray} (h:Pts arr js L):∀j∈js,j < arr.length:=fun j hj=>by
 have:arr[j]? ∈js.map (fun j=>arr[j]?):=List.mem_map.2 ⟨j,hj,rfl⟩
 rw [show js.map (fun j=>arr[j]?)=L.map some from h] at this
 obtain ⟨l,_,e⟩:=List.mem_map.1 this
 exact (List.getElem?_eq_some_iff.1 e.symm).1
theorem Pts.ext {arr:List ByteArray} {js:List Nat} {L:List ByteArray} (h:Pts arr js L) (x:List ByteArray):Pts (arr++x) js L:=by
 unfold Pts
 rw [←show js.map (fun j=>arr[j]?)=L.map some from h]
 exact List.map_congr_left fun j hj=>List.getElem?_append_left (h.lt j hj)
theorem Pts.length {arr:List ByteArray} {js:List Nat} {L:List ByteArray} (h:Pts arr js L):js.length=L.length:=by
 have:=congrArg List.length (show js.map (fun j=>arr[j]?)=L.map some from h)
 simpa using this
theorem Pts.push {arr:List ByteArray} {js:List Nat} {L:List ByteArray} (h:Pts arr js L) {j:Nat} {l:ByteArray} (hj:arr[j]? =some l):Pts arr (js++[j]) (L++[l]):=by
 unfold Pts
 rw [List.map_append,List.map_append,show js.map (fun j=>arr[j]?)=L.map some from h]
 simp [hj]
theorem Pts.at {arr:List ByteArray} {js:List Nat} {L:List ByteArray} (h:Pts arr js L) (i:Nat) (hi:i < js.length):arr[js[i]]? =some (L[i]'(by have:=h.length;omega)):=by
 have hl:=h.length
 have e:(js.map (fun j=>arr[j]?))[i]? =(L.map some)[i]? :=by rw [show js.map (fun j=>arr[j]?)=L.map some from h]
 rw [List.getElem?_map,List.getElem?_map,List.getElem?_eq_getElem hi,List.getElem?_eq_getElem (by omega)] at e
 simpa using e
theorem TH (n:Nat) (hn:Big≤n) (p0) (z:ByteArray) (hz:z.size≤1000000) (arr:List ByteArray) (h:Hash) (H:HI arr h) (hal:arr.length≤1000000):
  ∃(js:List Nat) (x:List ByteArray) (h':Hash),g75 n p0 z arr h=some ((js.map (fun j:Nat=>(j:Int)),()),(arr++x,(h',())))∧HI (arr++x) h'∧Pts (arr++x) js (cJ z 0)∧x.length≤z.size:=by
 have hB:(4611686018427387904:Nat)≤n:=hn
 dsimp only [g75,L7,bQ3,bC6,aZ2,bJ8]
 have key:∀(d i m:Nat) (js:List Nat) (L x:List ByteArray) (h:Hash),z.size - i=d→d < m→i≤z.size→HI (arr++x) h→Pts (arr++x) js L→x.length≤i→L.length≤i→
   ∃(js':List Nat) (x':List ByteArray) (h':Hash),g75_3L n (fun x1000002 m3 x11=>some ((x11,()),(x1000002,(m3,())))) m z (arr++x) h (i:Int) ((i:Int) - 1) (js.map (fun j:Nat=>(j:Int)))=some ((js'.map (fun j:Nat=>(j:Int)),()),(arr++x',(h',())))∧HI (arr++x') h'∧Pts (arr++x') js' (L++cJ z i)∧x'.length≤z.size:=by
  intro d
  induction d using Nat.strongRecOn with
  | _ d ih=>
   intro i m js L x h hd hm hi H hP hx hL
   obtain ⟨m,rfl⟩:∃m',m=m'+1:=⟨m - 1,by omega⟩
   rw [g75_3L.eq_2,bK7,aF (n:=(z.size:Int) - 1) (by omega) (by omega)]
   by_cases c:i < z.size
   ·obtain ⟨l1,l2,_⟩:=iR c
    obtain ⟨r,e,hr⟩:=X3 n hn z (by omega) i c
    have hjl:=hP.length
    have hne:=N5 c
    have hal2:(arr++x).length≤2000000:=by rw [List.length_append];omega
    have step:∀(q:Int),q=(dQ z i:Int) - 1→∃(js':List Nat) (x':List ByteArray) (h':Hash),
      (bif (eR (a:= .str) (b:=(.int .i64)) (cD z (i:Int) (dQ z i:Int)) h).isSome then (cG ((js.map (fun j:Nat=>(j:Int))).length+[(IntKind.u32.wrap (((eR (a:= .str) (b:=(.int .i64)) (cD z (i:Int) (dQ z i:Int)) h).getD 0)))].length)<|g75_3L n (fun x1000002 m3 x11=>some ((x11,()),(x1000002,(m3,())))) m z (arr++x) h (dQ z i:Int) q (js.map (fun j:Nat=>(j:Int))++[(IntKind.u32.wrap (((eR (a:= .str) (b:=(.int .i64)) (cD z (i:Int) (dQ z i:Int)) h).getD 0)))])) else (cG ((arr++x).length+[(cD z (i:Int) (dQ z i:Int))].length)<|cG ((js.map (fun j:Nat=>(j:Int))).length+[(IntKind.u32.wrap ((w64 ((((arr++x)++[(cD z (i:Int) (dQ z i:Int))]).length:Int) - 1))))].length)<|g75_3L n (fun x1000002 m3 x11=>some ((x11,()),(x1000002,(m3,())))) m z ((arr++x)++[(cD z (i:Int) (dQ z i:Int))]) (mH (a:= .str) (b:=(.int .i64)) (cD z (i:Int) (dQ z i:Int)) (w64 ((((arr++x)++[(cD z (i:Int) (dQ z i:Int))]).length:Int) - 1)) h) (dQ z i:Int) q (js.map (fun j:Nat=>(j:Int))++[(IntKind.u32.wrap ((w64 ((((arr++x)++[(cD z (i:Int) (dQ z i:Int))]).length:Int) - 1))))])))=some ((js'.map (fun j:Nat=>(j:Int)),()),(arr++x',(h',())))∧HI (arr++x') h'∧Pts (arr++x') js' (L++cJ z i)∧x'.length≤z.size:=by
     intro q hq
     subst hq
     rw [iP c]
     cases hf:eR (a:= .str) (b:=(.int .i64)) (cD z (i:Int) (dQ z i:Int)) h with
     | some k=>
      obtain ⟨j,rfl,hj1,hj2⟩:=H.back _ k hf
      have hjlt:=(List.getElem?_eq_some_iff.1 hj2).1
      have hw:IntKind.u32.wrap ((some (j:Int)).getD 0)=(j:Int):=eT (by show (0:Int)≤(j:Int);omega) (by show (j:Int) < 4294967296;omega)
      rw [biT (by rfl),bM (by simp only [List.length_cons,List.length_nil,List.length_map];omega),hw]
      obtain ⟨js',x',h',g1,g2,g3,g4⟩:=ih (z.size - dQ z i) (by omega) (dQ z i) m (js++[j]) (L++[cD z (i:Int) (dQ z i:Int)]) x h rfl (by omega) l2 H (hP.push hj2) (by omega) (by simp;omega)
      refine ⟨js',x',h',?_,g2,by rw [List.append_assoc] at g3;exact g3,g4⟩
      rw [←g1,List.map_append];rfl
     | none=>
      have hlen:(((arr++x)++[cD z (i:Int) (dQ z i:Int)]).length:Int) - 1=((arr++x).length:Int):=by simp only [List.length_append,List.length_cons,List.length_nil];omega
      rw [biF (by rfl),hlen,aF (by omega) (by omega),bM (by simp only [List.length_cons,List.length_nil];omega),bM (by simp only [List.length_cons,List.length_nil,List.length_map];omega),eT (by omega) (by omega)]
      have hx2:(arr++x)++[cD z (i:Int) (dQ z i:Int)]=arr++(x++[cD z (i:Int) (dQ z i:Int)]):=List.append_assoc _ _ _
      have H2:=H.push hf hne
      have hP2:Pts ((arr++x)++[cD z (i:Int) (dQ z i:Int)]) (js++[(arr++x).length]) (L++[cD z (i:Int) (dQ z i:Int)]):=(hP.ext _).push (by simp)
      rw [hx2] at H2 hP2 ⊢
      obtain ⟨js',x',h',g1,g2,g3,g4⟩:=ih (z.size - dQ z i) (by omega) (dQ z i) m _ _ _ _ rfl (by omega) l2 H2 hP2 (by simp;omega) (by simp;omega)
      refine ⟨js',x',h',?_,g2,by rw [List.append_assoc] at g3;exact g3,g4⟩
      rw [←g1,List.map_append];rfl
    rw [bdT (by omega),e,Option.bind_some]
    simp only
    by_cases hm1:r= -1
    ·subst hm1
     have hle:dQ z i=z.size:=by rcases hr with ⟨_,h2⟩ | h2 <;> omega
     have hw:w64 ((z.size:Int) - 1+1)=(dQ z i:Int):=by rw [aF (by omega) (by omega)];omega
     rw [biT (by rfl),hw,bF (by omega) (by omega) (by omega)]
     exact step _ (by omega)
    ·have hr':r+1=(dQ z i:Int):=by rcases hr with ⟨h1,_⟩ | h2;exact absurd h1 hm1;exact h2
     have hw:w64 (r+1)=(dQ z i:Int):=by rw [aF (by omega) (by omega)];exact hr'
     rw [biF (by rw [beq_eq_false_iff_ne];exact hm1),hw,bF (by omega) (by omega) (by omega)]
     exact step _ (by omega)
   ·rw [bdF (by omega),fZ (by omega),List.append_nil]
    exact ⟨js,x,h,rfl,H,hP,by omega⟩
 obtain ⟨js,x,h',g1,g2,g3,g4⟩:=key z.size 0 n [] [] [] h (by omega) (by omega) (by omega) (by rw [List.append_nil];exact H) rfl (by simp) (by simp)
 rw [List.append_nil] at g1
 exact ⟨js,x,h',g1,g2,by simpa using g3,g4⟩
def chs (js:List Nat):List Int:=js.map fun j=>(ofN j:Int)
theorem fF (js:List Nat):(chs js).length=js.length:=by simp [chs]
theorem lM {js:List Nat} (h:∀j∈js,j < 1110016):Valids (chs js):=fun c hc=>by
 obtain ⟨j,hj,rfl⟩:=List.mem_map.1 hc
 obtain ⟨h1,h2,_⟩:=GV (h j hj)
 exact wY (by omega)
theorem xE (n:Nat) (hn:Big≤n) (js:List Nat) (hl:js.length≤1000000) (h:∀j∈js,j < 1110016):g76 n (js.map (fun j:Nat=>(j:Int)))=some (runesBytes (chs js),()):=by
 have hB:(4611686018427387904:Nat)≤n:=hn
 dsimp only [g76,L6,bQ2,aX7,aJ2,bS7]
 have hlm:(js.map (fun j:Nat=>(j:Int))).length=js.length:=List.length_map _
 by_cases h0:js=[]
 ·subst h0;rfl
 have hp:=List.length_pos_iff.2 h0
 rw [biF (by rw [beq_eq_false_iff_ne];omega)]
 have e:=mB js (fun m s i=>g76_3L n (fun x3=>some (runesBytes x3,())) m s (js.map (fun j:Nat=>(j:Int))) ((js.map (fun j:Nat=>(j:Int))).length:Int) (i:Int)) (fun s=>some (runesBytes s,())) (fun s j=>s++[(ofN j:Int)]) (fun i s=>s.length=i)
  (fun m s i hi hs=>by
   refine ⟨?_,by simp [hs]⟩
   have hI:i < (js.map (fun j:Nat=>(j:Int))).length:=by omega
   have hg:(js.map (fun j:Nat=>(j:Int)))[i]=(js[i]:Int):=List.getElem_map _
   rw [g76_3L.eq_2,H3,bdT (by omega),aL (by omega) (by omega)]
   simp only [nE hI]
   rw [hg,LX n js[i] (h _ (by simp)),Option.bind_some,bM (by simp only [List.length_cons,List.length_nil];omega),aF (by omega) (by omega)]
   rfl)
  (fun m s hs=>by rw [g76_3L.eq_2,H3,bdF (by omega)]) n [] (by omega) rfl
 refine Eq.trans e ?_
 have hf:∀(l:List Nat) (s:List Int),l.foldl (fun s j=>s++[(ofN j:Int)]) s=s++chs l:=by
  intro l
  induction l with
  | nil=>intro s;simp [chs]
  | cons x l ih=>intro s;rw [List.foldl_cons,ih];simp [chs]
 rw [hf];rfl
theorem RM (n:Nat) (hn:Big≤n) (p0) (a b:ByteArray) (ha:a.size≤400000) (hb:b.size≤400000):∃(arr:List ByteArray) (h:Hash) (ja jb:List Nat),g59 n p0 a b=some (runesBytes (chs ja),(runesBytes (chs jb),(arr,())))∧HI arr h∧Pts arr ja (cJ a 0)∧Pts arr jb (cJ b 0)∧arr.length≤1+a.size+b.size:=by
 dsimp only [g59,bL2]
 obtain ⟨ja,x,h1,e1,H1,P1,l1⟩:=TH n hn p0 a (by omega) _ _ HI.start (by simp)
 obtain ⟨jb,y,h2,e2,H2,P2,l2⟩:=TH n hn p0 b (by omega) _ _ H1 (by simp;omega)
 have hla:=eU a a.size 0 rfl
 have hlb:=eU b b.size 0 rfl
 have P1':=P1.ext y
 have hja:∀j∈ja,j < 1110016:=fun j hj=>by have:=P1.lt j hj;simp at this;omega
 have hjb:∀j∈jb,j < 1110016:=fun j hj=>by have:=P2.lt j hj;simp at this;omega
 rw [aX e1]
 simp only
 rw [aX e2]
 simp only
 rw [xE n hn ja (by rw [P1.length];omega) hja,Option.bind_some,xE n hn jb (by rw [P2.length];omega) hjb,Option.bind_some]
 exact ⟨_,h2,ja,jb,rfl,H2,P1',P2,by simp;omega⟩
theorem FS (n:Nat) (hn:Big≤n) (p0) (a b:ByteArray) (ha:a.size≤400000) (hb:b.size≤400000):∃(arr:List ByteArray) (h:Hash) (ja jb:List Nat),g43 n p0 a b=some (chs ja,(chs jb,(arr,())))∧HI arr h∧Pts arr ja (cJ a 0)∧Pts arr jb (cJ b 0)∧arr.length≤1+a.size+b.size:=by
 obtain ⟨arr,h,ja,jb,e,H,P1,P2,l⟩:=RM n hn p0 a b ha hb
 have hla:=eU a a.size 0 rfl
 have hlb:=eU b b.size 0 rfl
 have va:Valids (chs ja):=lM fun j hj=>by have:=P1.lt j hj;omega
 have vb:Valids (chs jb):=lM fun j hj=>by have:=P2.lt j hj;omega
 have sa:=runesBytes_size_le (chs ja)
 have sb:=runesBytes_size_le (chs jb)
 rw [fF] at sa sb
 have q1:=P1.length
 have q2:=P2.length
 dsimp only [g43,aP3]
 rw [e,Option.bind_some]
 simp only
 rw [iM (by omega),iM (by omega),kH _ va,kH _ vb]
 exact ⟨arr,h,ja,jb,rfl,H,P1,P2,l⟩
def cat (xs:List ByteArray):ByteArray:=⟨(Lib.join (xs.map (·.data.toList)) []).toArray⟩
theorem s4 (xs:List (List UInt8)):Lib.join xs []=xs.flatten:=by
 cases xs with
 | nil=>rfl
 | cons x r=>
  rw [Lib.join_cons]
  unfold Lib.joinTail
  simp
theorem JA (xs:List ByteArray):bl (cat xs)=(xs.map bl).flatten:=by
 show (Lib.join (xs.map (·.data.toList)) [])=_
 rw [s4];rfl
theorem cB5 (z:ByteArray) (i e:Nat):bl (cD z (i:Int) (e:Int))=((bl z).drop i).take (e - i):=by
 unfold bl cD
 rw [ByteArray.data_extract]
 simp [Array.toList_extract,List.extract_eq_take_drop]
theorem ZI (x y:List ByteArray):cat (x++y)=cat x++cat y:=by
 refine gS ?_
 rw [cX,JA,JA,JA,List.map_append,List.flatten_append]
theorem bG4 {α γ:Type} (xs:List α) (f:α→γ) (e:γ) (i:Nat) (hi:i < xs.length):((xs.take i).map f++List.replicate (xs.length - i) e).set i (f xs[i])=(xs.take (i+1)).map f++List.replicate (xs.length - (i+1)) e:=by
 have hl:((xs.take i).map f).length=i:=by rw [List.length_map,List.length_take];omega
 obtain ⟨k,hk⟩:∃k,xs.length - i=k+1:=⟨xs.length - i - 1,by omega⟩
 rw [List.set_append_right _ _ (by omega),hl,Nat.sub_self,hk,List.replicate_succ,List.set_cons_zero,List.take_succ_eq_append_getElem hi,List.map_append,List.append_assoc,show xs.length - (i+1)=k by omega]
 rfl
def lns (arr:List ByteArray) (js:List Nat):List ByteArray:=js.map fun j=>arr.getD j (⟨#[]⟩:ByteArray)
theorem TZ (arr:List ByteArray) (js:List Nat):(lns arr js).length=js.length:=by simp [lns]
theorem Pts.lns {arr:List ByteArray} {js:List Nat} {L:List ByteArray} (h:Pts arr js L):lns arr js=L:=by
 have e:(Go.Proofs.YticibdjilmclgaaDoorZF.lns arr js).map some=L.map some:=by
  rw [←show js.map (fun j=>arr[j]?)=L.map some from h]
  unfold Go.Proofs.YticibdjilmclgaaDoorZF.lns
  rw [List.map_map]
  refine List.map_congr_left fun j hj=>?_
  have hlt:=h.lt j hj
  show some (arr.getD j _)=arr[j]?
  rw [List.getD_eq_getElem?_getD,List.getElem?_eq_getElem hlt];rfl
 exact (List.map_inj_right (fun a b hab=>Option.some.inj hab)).1 e
theorem cH1 (n:Nat) (xs:List ByteArray) (hl:xs.length≤1000000000) (hs:(cat xs).size≤1000000000):g78 n xs (⟨#[]⟩:ByteArray)=some (cat xs,()):=by
 unfold g78
 have h:(Lib.join (xs.map (·.data.toList)) (⟨#[]⟩:ByteArray).data.toList).length=(cat xs).size:=rfl
 rw [if_pos ⟨by omega,by rw [h];omega⟩]
 rfl
section
variable {n:Nat}
theorem dK1 (hB:(4611686018427387904:Nat)≤n) {β:Type} (kx2) (arr:List ByteArray) (ha:arr.length≤1110016) (s p x17 v18 v19) (js:List Nat) (hl:js.length≤1000000) (hj:∀j∈js,j < arr.length) (M:Nat) (hM:js.length < M):
  g61_5L (β:=β) n kx2 M arr s p (List.replicate js.length (⟨#[]⟩:ByteArray)) x17 v18 v19 (chs js) ((chs js).length:Int) 0=kx2 arr s p (lns arr js) x17 v18 v19:=by
 have hc:=fF js
 have key:∀(d i m:Nat),js.length - i=d→d < m→i≤js.length→g61_5L (β:=β) n kx2 m arr s p ((js.take i).map (fun j=>arr.getD j (⟨#[]⟩:ByteArray))++List.replicate (js.length - i) (⟨#[]⟩:ByteArray)) x17 v18 v19 (chs js) ((chs js).length:Int) (i:Int)=kx2 arr s p (lns arr js) x17 v18 v19:=by
  intro d
  induction d with
  | zero=>
   intro i m hd hm hi
   obtain ⟨m,rfl⟩:∃m',m=m'+1:=⟨m - 1,by omega⟩
   rw [g61_5L.eq_2,P3,bdF (by omega),List.take_of_length_le (by omega),hd,List.replicate_zero,List.append_nil]
   rfl
  | succ d ih=>
   intro i m hd hm hi
   obtain ⟨m,rfl⟩:∃m',m=m'+1:=⟨m - 1,by omega⟩
   have hi':i < js.length:=by omega
   have hI:i < (chs js).length:=by omega
   have hg:(chs js)[i]=(ofN js[i]:Int):=List.getElem_map _
   have hlt:=hj js[i] (by simp)
   have hv:=GV (v:=js[i]) (by omega)
   have next:=ih (i+1) m (by omega) (by omega) (by omega)
   have hrt:g77 n (ofN js[i]:Int)=some ((js[i]:Int),()):=by rw [KR n (ofN js[i]) (by omega),sA (by omega)]
   have hsz:((js.take i).map (fun j=>arr.getD j (⟨#[]⟩:ByteArray))++List.replicate (js.length - i) (⟨#[]⟩:ByteArray)).length=js.length:=by simp;omega
   rw [g61_5L.eq_2,P3,bdT (by omega),aL (by omega) (by omega),nE hI,hg,aX hrt]
   simp only
   rw [aL (by omega) (by omega),aL (by omega) (by omega),nE hlt,Int.toNat_natCast,aF (by omega) (by omega)]
   have hf:arr[js[i]]=(fun j=>arr.getD j (⟨#[]⟩:ByteArray)) js[i]:=by
    show _=arr.getD js[i] _
    rw [List.getD_eq_getElem?_getD,List.getElem?_eq_getElem hlt];rfl
   rw [hf,bG4 js (fun j=>arr.getD j (⟨#[]⟩:ByteArray)) (⟨#[]⟩:ByteArray) i hi',show (i:Int)+1=((i+1:Nat):Int) by omega]
   exact next
 exact key js.length 0 M (by omega) hM (by omega)
theorem dG8 (hn:Big≤n) (p0) (arr:List ByteArray) (ha:arr.length≤1110016) (DL:List (Int×List Nat)) (hD:DL.length≤1000000) (hd:∀d∈DL,d.2.length≤1000000∧(∀j∈d.2,j < arr.length)∧(cat (lns arr d.2)).size≤1000000000):
  g61 n p0 (DL.map fun d=>(d.1,enc (chs d.2))) arr=some (DL.map fun d=>(d.1,cat (lns arr d.2)),()):=by
 have hB:(4611686018427387904:Nat)≤n:=hn
 have hlm:(DL.map fun d=>(d.1,enc (chs d.2))).length=DL.length:=List.length_map _
 dsimp only [g61,LH,bT7,YV,YS,XJ]
 rw [bF (by omega) (by omega) (by omega),oI (by omega)]
 have e:=mB DL (fun m s i=>g61_12L n (fun x6=>some (x6,())) m arr s (DL.map fun d=>(d.1,enc (chs d.2))) ((DL.map fun d=>(d.1,enc (chs d.2))).length:Int) (i:Int)) (fun s=>some (s,())) (fun s d=>s++[(d.1,cat (lns arr d.2))]) (fun i s=>s.length=i)
  (fun m s i hi hs=>by
   refine ⟨?_,by simp [hs]⟩
   have hI:i < (DL.map fun d=>(d.1,enc (chs d.2))).length:=by omega
   have hg:(DL.map fun d=>(d.1,enc (chs d.2)))[i]=(DL[i].1,enc (chs DL[i].2)):=List.getElem_map _
   obtain ⟨h1,h2,h3⟩:=hd DL[i] (by simp)
   have hc:=fF DL[i].2
   have hv:Valids (chs DL[i].2):=lM fun j hj=>by have:=h2 j hj;omega
   have hsz:=bA (chs DL[i].2)
   rw [g61_12L.eq_2,EP,L8,bdT (by omega)]
   dsimp only [bA7,H0,aB0,B8,bM5,aV9]
   rw [aL (by omega) (by omega)]
   simp only [pN,nE hI,hg]
   rw [jP hv,iM (by omega),bF (by omega) (by omega) (by omega),oI (by omega),Int.toNat_natCast,hc,←hc]
   rw [show List.replicate (chs DL[i].2).length (⟨#[]⟩:ByteArray)=List.replicate DL[i].2.length (⟨#[]⟩:ByteArray) by rw [hc]]
   rw [dK1 hB _ arr ha _ _ _ _ _ DL[i].2 h1 h2 n (by omega)]
   dsimp only [aN3]
   rw [cH1 n (lns arr DL[i].2) (by rw [TZ];omega) h3,Option.bind_some,bM (by simp only [List.length_cons,List.length_nil];omega),aF (by omega) (by omega)]
   rfl)
  (fun m s hs=>by rw [g61_12L.eq_2,EP,L8,bdF (by omega)]) n [] (by omega) rfl
 refine Eq.trans e ?_
 have hf:∀(l:List (Int×List Nat)) (s:List Prt),l.foldl (fun s d=>s++[(d.1,cat (lns arr d.2))]) s=s++l.map fun d=>(d.1,cat (lns arr d.2)):=by
  intro l
  induction l with
  | nil=>intro s;simp
  | cons x l ih=>intro s;rw [List.foldl_cons,ih];simp
 rw [hf];rfl
end
theorem rB (z:ByteArray):bS z=(bl z).map fun b=>(b.toNat:Int):=rfl
theorem aI1 {r:Int} (hv:Utf8.valid r=true) (h:r≠10):∀b∈bl (Utf8.encode r),b.toNat≠10:=by
 obtain ⟨f,t,e,hf,ht⟩:=pL r
 intro b hb hb10
 rw [e] at hb
 rcases List.mem_cons.1 hb with rfl | hb
 ·have hd:=nZ r [] (⟨#[]⟩:ByteArray) hv
  have hbl:bl (enc [r]++(⟨#[]⟩:ByteArray))=b::t:=by
   rw [cX,dH,e];simp [JE,bl]
  have hs:(0:Int) < ((enc [r]++(⟨#[]⟩:ByteArray)).size:Int):=by
   rw [←jS,hbl];simp
  have h0:cL (enc [r]++(⟨#[]⟩:ByteArray)) 0=10:=by
   rw [lK (by omega) hs,rB,hbl]
   show ((b.toNat:Nat):Int)=10
   omega
  have h0':((enc [r]++(⟨#[]⟩:ByteArray)).get! 0).toNat=10:=by
   have:(((enc [r]++(⟨#[]⟩:ByteArray)).get! 0).toNat:Int)=10:=h0
   omega
  have:=H9 _ 0 10 h0' (by decide)
  rw [hd] at this
  have h1:r.toNat=10:=congrArg Prod.fst this
  have:=mE hv
  omega
 ·have:=(ht b hb).1;omega
theorem dH8:∀{w:List Int},Valids w→(10:Int)∉w→∀b∈bS (enc w),b≠10
 | [],_,_,b,hb=>by simp [JE,bS] at hb
 | r::w,hv,h,b,hb=>by
  rw [rB,dH,List.map_append,←rB (enc w)] at hb
  rcases List.mem_append.1 hb with hb | hb
  ·obtain ⟨x,hx,rfl⟩:=List.mem_map.1 hb
   have:=aI1 hv.cons.1 (fun e=>h (by simp [e])) x hx
   omega
  ·exact dH8 hv.cons.2 (fun hm=>h (by simp [hm])) b hb
def rln:List Int→List Int×List Int
 | []=>([],[])
 | c::t=>if c=10 then ([10],t) else (c::(rln t).1,(rln t).2)
theorem sY:∀q:List Int,(rln q).1++(rln q).2=q∧(q≠[]→(rln q).1≠[])∧((∃w,(rln q).1=w++[10]∧(10:Int)∉w)∨((10:Int)∉(rln q).1∧(rln q).2=[]))
 | []=>⟨rfl,fun h=>absurd rfl h, .inr ⟨by simp [rln],rfl⟩⟩
 | c::t=>by
  obtain ⟨h1,h2,h3⟩:=sY t
  unfold rln
  by_cases e:c=10
  ·subst e
   rw [if_pos rfl]
   exact ⟨rfl,fun _=>by simp, .inl ⟨[],rfl,by simp⟩⟩
  ·rw [if_neg e]
   refine ⟨by simp [h1],fun _=>by simp,?_⟩
   rcases h3 with ⟨w,hw,hn⟩ | ⟨hn,h0⟩
   ·exact .inl ⟨c::w,by simp [hw],by simp [hn];exact fun h=>e h.symm⟩
   ·exact .inr ⟨by simp [hn];exact fun h=>e h.symm,h0⟩
def DT:Nat→List Int→List (List Int)
 | 0,_=>[]
 | n+1,q=>if q=[] then [] else (rln q).1::DT n (rln q).2
def rls (q:List Int):List (List Int):=DT q.length q
theorem AZ (p u v:List Int) (j:Nat) (h1:(enc p).size≤j) (h2:j < (enc p).size+(enc u).size):cL (enc (p++(u++v))) (j:Int)=rd (bS (enc u)) ((j - (enc p).size:Nat):Int) 0:=by
 have hsz:(enc (p++(u++v))).size=(enc p).size+((enc u).size+(enc v).size):=by rw [cF,cF]
 rw [lK (by omega) (by omega),bY,cP,bY,cP,jC,jC,List.getD_eq_getElem?_getD,List.getD_eq_getElem?_getD,List.getElem?_append_right (by rw [aY];omega),List.getElem?_append_left (by rw [aY,aY];omega),aY]
theorem aR6 (p u v:List Int) (hp:Valids p) (hu:Valids u) (hv:Valids v) (hne:u≠[]) (h:(∃w,u=w++[10]∧(10:Int)∉w)∨((10:Int)∉u∧v=[])):dQ (enc (p++(u++v))) (enc p).size=(enc p).size+(enc u).size:=by
 have hpos:0 < (enc u).size:=by
  rcases Nat.eq_zero_or_pos (enc u).size with h0 | h0
  ·exact absurd (enc_size_zero.1 h0) hne
  ·exact h0
 have hsz:(enc (p++(u++v))).size=(enc p).size+((enc u).size+(enc v).size):=by rw [cF,cF]
 have hmem:∀j:Nat,j < (bS (enc u)).length→rd (bS (enc u)) (j:Int) 0∈bS (enc u):=fun j hj=>by
  rw [nG (by omega) (by omega)];exact List.getElem_mem _
 refine mQ ⟨by omega,by omega,fun j hj hj2=>?_,?_⟩
 ·rw [AZ p u v j hj (by omega)]
  rcases h with ⟨w,rfl,hn⟩ | ⟨hn,rfl⟩
  ·have e10:bS (enc ([10]:List Int))=[10]:=by rfl
   have hs:(enc (w++[10])).size=(enc w).size+1:=by rw [cF];rfl
   rw [bY,cP,jC,List.getD_eq_getElem?_getD,List.getElem?_append_left (by rw [aY];omega)]
   have hj3:j - (enc p).size < (bS (enc w)).length:=by rw [aY];omega
   rw [List.getElem?_eq_getElem hj3]
   exact dH8 (fun x hx=>hu x (by simp [hx])) hn _ (List.getElem_mem _)
  ·exact dH8 hu hn _ (hmem _ (by rw [aY];omega))
 ·rcases h with ⟨w,rfl,hn⟩ | ⟨hn,rfl⟩
  ·left
   have hs:(enc (w++[10])).size=(enc w).size+1:=by rw [cF];rfl
   have eb:bS (enc (w++[10]))=bS (enc w)++[10]:=by rw [bY,cP];rfl
   rw [AZ p _ v _ (by omega) (by omega),eb,jC,List.getD_eq_getElem?_getD,List.getElem?_append_right (by rw [aY];omega),aY,show (enc p).size+(enc (w++[10])).size - 1 - (enc p).size - (enc w).size=0 by omega]
   rfl
  ·right
   rw [hsz,JE];rfl
theorem q7:∀(n:Nat) (p q:List Int),q.length≤n→Valids p→Valids q→cJ (enc (p++q)) (enc p).size=(DT n q).map enc:=by
 intro n
 induction n with
 | zero=>
  intro p q hq hp hv
  obtain rfl:q=[]:=List.length_eq_zero_iff.1 (by omega)
  rw [List.append_nil,fZ (Nat.le_refl _)]
  rfl
 | succ n ih=>
  intro p q hq hp hv
  unfold DT
  by_cases e:q=[]
  ·subst e
   rw [if_pos rfl,List.append_nil,fZ (Nat.le_refl _)]
   rfl
  ·obtain ⟨h1,h2,h3⟩:=sY q
   have hu2:=h2 e
   have hsplit:p++q=p++((rln q).1++(rln q).2):=by rw [h1]
   have hvu:Valids (rln q).1:=fun x hx=>hv x (by rw [←h1];simp [hx])
   have hvv:Valids (rln q).2:=fun x hx=>hv x (by rw [←h1];simp [hx])
   have hl:=congrArg List.length h1
   rw [List.length_append] at hl
   have hup:=List.length_pos_iff.2 hu2
   rw [if_neg e,hsplit]
   have hend:=aR6 p (rln q).1 (rln q).2 hp hvu hvv hu2 h3
   have hlt:(enc p).size < (enc (p++((rln q).1++(rln q).2))).size:=by
    rw [cF,cF]
    have:=oK (rln q).1
    omega
   rw [iP hlt,hend,List.map_cons]
   have hs2:(enc p).size+(enc (rln q).1).size=(enc (p++(rln q).1)).size:=by rw [cF]
   congr 1
   ·apply gS
    rw [cB5,bY,cX,bY,cX,List.drop_left' (by rw [jS]),Nat.add_sub_cancel_left,List.take_left' (by rw [jS])]
   ·rw [hs2,←List.append_assoc]
    exact ih _ _ (by omega) (fun x hx=>(List.mem_append.1 hx).elim (hp x) (hvu x)) hvv
theorem PB (q:List Int) (hv:Valids q):cJ (enc q) 0=(rls q).map enc:=q7 q.length [] q (Nat.le_refl _) Valids.nil hv
theorem lA:∀(n:Nat) (q:List Int),q.length≤n→(DT n q).flatten=q:=by
 intro n
 induction n with
 | zero=>intro q hq;obtain rfl:q=[]:=List.length_eq_zero_iff.1 (by omega);rfl
 | succ n ih=>
  intro q hq
  unfold DT
  by_cases e:q=[]
  ·subst e;rfl
  ·obtain ⟨h1,h2,h3⟩:=sY q
   have hl:=congrArg List.length h1
   rw [List.length_append] at hl
   have hup:=List.length_pos_iff.2 (h2 e)
   rw [if_neg e,List.flatten_cons,ih _ (by omega),h1]
theorem aN4:∀(n:Nat) (q:List Int),(∀x∈DT n q,x≠[])∧∀A x B,DT n q=A++x::B→B≠[]→∃w,x=w++[10]:=by
 intro n
 induction n with
 | zero=>intro q;exact ⟨fun x hx=>(by cases hx),fun A x B h _=>(by simp [DT] at h)⟩
 | succ n ih=>
  intro q
  unfold DT
  by_cases e:q=[]
  ·subst e
   rw [if_pos rfl]
   exact ⟨fun x hx=>(by cases hx),fun A x B h _=>(by simp at h)⟩
  ·obtain ⟨h1,h2,h3⟩:=sY q
   obtain ⟨i1,i2⟩:=ih (rln q).2
   rw [if_neg e]
   refine ⟨fun x hx=>?_,fun A x B h hB=>?_⟩
   ·rcases List.mem_cons.1 hx with rfl | hx
    ·exact h2 e
    ·exact i1 x hx
   ·cases A with
    | nil=>
     simp only [List.nil_append,List.cons.injEq] at h
     obtain ⟨rfl,h⟩:=h
     rcases h3 with ⟨w,hw,_⟩ | ⟨_,h0⟩
     ·exact ⟨w,hw⟩
     ·rw [h0] at h
      cases n with
      | zero=>exact absurd (h:([]:List (List Int))=B) (fun e=>hB e.symm)
      | succ n=>simp [DT] at h;exact absurd h hB
    | cons a A=>
     simp only [List.cons_append,List.cons.injEq] at h
     exact i2 A x B h.2 hB
def Rc (arr:List ByteArray) (c:Int):List Int:=bE (arr.getD (toN c.toNat) (⟨#[]⟩:ByteArray))
theorem Pts.rc {arr:List ByteArray} {js:List Nat} {q:List Int} (hv:Valids q) (ha:arr.length≤1110016) (h:Pts arr js (cJ (enc q) 0)):(chs js).map (Rc arr)=rls q:=by
 have hl:=h.lns
 have hlt:=h.lt
 rw [PB q hv] at hl
 have hvs:∀x∈rls q,Valids x:=fun x hx c hc=>hv c (by rw [←lA q.length q (Nat.le_refl _)];exact List.mem_flatten.2 ⟨x,hx,hc⟩)
 unfold chs
 rw [List.map_map]
 have e:js.map (fun j=>bE (arr.getD j (⟨#[]⟩:ByteArray)))=(Go.Proofs.YticibdjilmclgaaDoorZF.lns arr js).map bE:=by unfold Go.Proofs.YticibdjilmclgaaDoorZF.lns;rw [List.map_map];rfl
 rw [show js.map (Rc arr∘fun j=>(ofN j:Int))=js.map (fun j=>bE (arr.getD j (⟨#[]⟩:ByteArray))) from List.map_congr_left fun j hj=>by
  show bE (arr.getD (toN ((ofN j:Nat):Int).toNat) _)=_
  rw [Int.toNat_natCast,sA (by have:=hlt j hj;omega)],e,hl,List.map_map]
 refine (List.map_congr_left (g:=id) fun x hx=>jP (hvs x hx)).trans (List.map_id _)
structure IO (arr:List ByteArray) (c:Int):Prop where
 lt:toN c.toNat < arr.length
 back:(ofN (toN c.toNat):Int)=c
 enc:arr.getD (toN c.toNat) (⟨#[]⟩:ByteArray)=enc (Rc arr c)
 valid:Valids (Rc arr c)
theorem Pts.stands {arr:List ByteArray} {js:List Nat} {q:List Int} (hv:Valids q) (ha:arr.length≤1110016) (h:Pts arr js (cJ (Go.Proofs.YticibdjilmclgaaDoorZF.enc q) 0)):∀c∈chs js,IO arr c:=fun c hc=>by
 obtain ⟨j,hj,rfl⟩:=List.mem_map.1 hc
 have hlt:=h.lt j hj
 have ht:toN ((ofN j:Nat):Int).toNat=j:=by rw [Int.toNat_natCast,sA (by omega)]
 have hl:=h.lns
 rw [PB q hv] at hl
 have hm:arr.getD j (⟨#[]⟩:ByteArray)∈(rls q).map Go.Proofs.YticibdjilmclgaaDoorZF.enc:=by rw [←hl];exact List.mem_map.2 ⟨j,hj,rfl⟩
 obtain ⟨x,hx,hx2⟩:=List.mem_map.1 hm
 have hvx:Valids x:=fun c hc=>hv c (by rw [←lA q.length q (Nat.le_refl _)];exact List.mem_flatten.2 ⟨x,hx,hc⟩)
 have hr:Rc arr (ofN j:Int)=x:=by unfold Rc;rw [ht,←hx2,jP hvx]
 exact ⟨by rw [ht];exact hlt,by rw [ht],by rw [ht,hr];exact hx2.symm,by rw [hr];exact hvx⟩
def iY (arr:List ByteArray) (l:List Rp):List Rp:=l.map fun d=>(d.1,(d.2.map (Rc arr)).flatten)
theorem TQ (xs:List (List Int)):enc xs.flatten=cat (xs.map enc):=by
 induction xs with
 | nil=>rfl
 | cons x xs ih=>rw [List.flatten_cons,bY,ih,List.map_cons];exact (ZI [enc x] (xs.map enc) ▸ (by rw [show cat [enc x]=enc x from gS (by rw [JA];simp)]):enc x++cat (xs.map enc)=cat ([enc x]++xs.map enc))
theorem HA:∀{l:List Rp},Ok l→∀d∈l,∀c∈d.2,c∈bW l∨c∈bV l
 | [],_,d,hd,_,_=>by cases hd
 | x::l,ok,d,hd,c,hc=>by
  have hx:=(ok x (by simp)).1
  rcases List.mem_cons.1 hd with rfl | hd
  ·rcases hx with h | h | h <;> simp [bW,bV,h,hc]
  ·have:=HA (fun y hy=>ok y (by simp [hy])) d hd c hc
   rcases hx with h | h | h <;> simp [bW,bV,h] <;> rcases this with h1 | h1 <;> simp [h1]
theorem OV (arr:List ByteArray):∀l:List Rp,bW (iY arr l)=((bW l).map (Rc arr)).flatten
 | []=>rfl
 | d::l=>by
  have:=OV arr l
  unfold iY at this ⊢
  simp only [List.map_cons,bW,this]
  split <;> simp
theorem QX (arr:List ByteArray):∀l:List Rp,bV (iY arr l)=((bV l).map (Rc arr)).flatten
 | []=>rfl
 | d::l=>by
  have:=QX arr l
  unfold iY at this ⊢
  simp only [List.map_cons,bV,this]
  split <;> simp
theorem cJ0 (n:Nat) (hn:Big≤n) (p0) (arr:List ByteArray) (ha:arr.length≤1110016) (l:List Rp) (hl:l.length≤1000000) (ok:Ok l) (hS:∀c∈bW l,IO arr c) (hT:∀c∈bV l,IO arr c) (hall:dB l≤1000000) (hall2:dB (iY arr l)≤1000000):
  g61 n p0 (M l) arr=some (M (iY arr l),())∧Ok (iY arr l):=by
 have st:∀d∈l,∀c∈d.2,IO arr c:=fun d hd c hc=>(HA ok d hd c hc).elim (hS c) (hT c)
 have e1:M l=(l.map fun d=>(d.1,d.2.map fun c=>toN c.toNat)).map fun d=>(d.1,enc (chs d.2)):=by
  unfold M
  rw [List.map_map]
  refine List.map_congr_left fun d hd=>?_
  show (d.1,enc d.2)=(d.1,enc (chs (d.2.map fun c=>toN c.toNat)))
  congr 2
  unfold chs
  rw [List.map_map]
  exact ((List.map_congr_left fun c hc=>(st d hd c hc).back).trans (List.map_id _)).symm
 have e2:∀d∈l,cat (lns arr (d.2.map fun c=>toN c.toNat))=enc ((d.2.map (Rc arr)).flatten):=fun d hd=>by
  rw [TQ]
  unfold lns
  rw [List.map_map,List.map_map]
  congr 1
  exact List.map_congr_left fun c hc=>(st d hd c hc).enc
 have e3:M (iY arr l)=(l.map fun d=>(d.1,d.2.map fun c=>toN c.toNat)).map fun d=>(d.1,cat (lns arr d.2)):=by
  unfold M iY
  rw [List.map_map,List.map_map]
  refine List.map_congr_left fun d hd=>?_
  show (d.1,enc _)=(d.1,_)
  rw [e2 d hd]
 refine ⟨?_,fun d hd=>?_⟩
 ·rw [e1,e3]
  refine dG8 hn p0 arr ha _ (by rw [List.length_map];exact hl) fun d hd=>?_
  obtain ⟨x,hx,rfl⟩:=List.mem_map.1 hd
  have h1:=lV hx
  have h2:=lV (l:=iY arr l) (List.mem_map.2 ⟨x,hx,rfl⟩)
  refine ⟨by show (x.2.map _).length≤_;rw [List.length_map];omega,fun j hj=>?_,?_⟩
  ·obtain ⟨c,hc,rfl⟩:=List.mem_map.1 hj
   exact (st x hx c hc).lt
  ·show (cat (lns arr (x.2.map fun c=>toN c.toNat))).size≤_
   rw [e2 x hx]
   have:=bA ((x.2.map (Rc arr)).flatten)
   have h3:((x.2.map (Rc arr)).flatten).length≤dB (iY arr l):=h2
   omega
 ·obtain ⟨x,hx,rfl⟩:=List.mem_map.1 hd
  refine ⟨(ok x hx).1,fun c hc=>?_⟩
  obtain ⟨y,hy,hc⟩:=List.mem_flatten.1 hc
  obtain ⟨z,hz,rfl⟩:=List.mem_map.1 hy
  exact (st x hx z hz).valid c hc
theorem cC5 (n:Nat) (hn:Big≤n) (a b:List Int) (ha:Valids a) (hb:Valids b) (hl:a.length+b.length≤50000):
  ∃l,g21 n a b false=some (M l,())∧LD a b l∧((a=b∧l=cC a)∨(a≠b∧∃z,LD a b z∧l=merge z)):=by
 dsimp only [g21,aS0,g39,PV,SY,g54,bI7]
 obtain ⟨p,hp,hp0⟩:=dF1 n ((0:Int),((0:Int),((0:Nat),((0:Nat),((0:Int),(0:Int))))))
 rw [aX hp]
 obtain ⟨l,h1,h2,h3⟩:=bO2 n hn p (Int.le_of_eq hp0) (a.length+b.length) n a b false (.inl rfl) (Nat.le_refl _) (by omega) (by unfold Big at hn;omega) ha hb
 refine ⟨l,?_,h2,h3⟩
 dsimp only [g53,bX5]
 have h4:g67 n p a b false=some (M l,()):=h1
 have hll:=h2.len
 have hls:g49 n (M l)=some (M l,()):=I2 n hn l (by omega) h2.ok
 simp only [List.nil_append]
 rw [bM (by show 0+a.length≤_;omega),Option.bind_some,bM (by show 0+b.length≤_;omega),Option.bind_some]
 simp only
 rw [aX h4]
 simp only [Option.bind_some]
 rw [aX hls]
 rfl
theorem cJ1 {a b:List Int} {l:List Rp} (h:(a=b∧l=cC a)∨(a≠b∧∃z,LD a b z∧l=merge z)):Nbs l:=by
 rcases h with ⟨_,rfl⟩ | ⟨_,z,hz,rfl⟩
 ·unfold cC;split <;> trivial
 ·exact (CD hz.ok hz.full hz.best).2
theorem Nbs.tail {d:Rp} {l:List Rp} (h:Nbs (d::l)):Nbs l:=by
 cases l with
 | nil=>trivial
 | cons e l=>exact h.2.2.2
theorem Nbs.of_append:∀{X Y:List Rp},Nbs (X++Y)→Nbs Y
 | [],_,h=>h
 | d::X,_,h=>Nbs.of_append (X:=X) (Nbs.tail h)
def dH6 (arr:List ByteArray) (s:List Int):Prop:=(∀c∈s,Rc arr c≠[])∧∀A c B,s=A++c::B→B≠[]→∃w,Rc arr c=w++[10]
theorem Pts.ends {arr:List ByteArray} {js:List Nat} {q:List Int} (hv:Valids q) (ha:arr.length≤1110016) (h:Pts arr js (cJ (Go.Proofs.YticibdjilmclgaaDoorZF.enc q) 0)):dH6 arr (chs js):=by
 have e:=Pts.rc hv ha h
 obtain ⟨h1,h2⟩:=aN4 q.length q
 refine ⟨fun c hc=>h1 _ (by show _∈rls q;rw [←e];exact List.mem_map.2 ⟨c,hc,rfl⟩),fun A c B hs hB=>?_⟩
 refine h2 (A.map (Rc arr)) _ (B.map (Rc arr)) ?_ (by simpa using hB)
 show rls q=_
 rw [←e,hs];simp
theorem i7 (n:Nat) (hn:Big≤n) (ra rb:List Int) (va:Valids ra) (vb:Valids rb) (la:ra.length≤300) (lb:rb.length≤300):
  ∃arr h ja jb l,g28 n (enc ra) (enc rb)=some (chs ja,(chs jb,(arr,())))∧HI arr h∧Pts arr ja (cJ (enc ra) 0)∧Pts arr jb (cJ (enc rb) 0)∧arr.length≤100000∧ja.length≤2000∧jb.length≤2000∧
   g21 n (chs ja) (chs jb) false=some (M l,())∧LD (chs ja) (chs jb) l∧Nbs l∧g29 n (M l) arr=some (M (iY arr l),())∧Ok (iY arr l)∧bW (iY arr l)=ra∧bV (iY arr l)=rb∧dB (iY arr l)≤600:=by
 have sa:=bA ra
 have sb:=bA rb
 obtain ⟨arr,h,ja,jb,e,H,P1,P2,l⟩:=FS n hn ((1000000000,(4,(1000,(4602678819172646912,(4,(32,4602678819172646912)))))):Int×(Int×(Int×(Nat×(Int×(Int×Nat)))))) (enc ra) (enc rb) (by omega) (by omega)
 have hNew:g42 n=some (((1000000000,(4,(1000,(4602678819172646912,(4,(32,4602678819172646912)))))):Int×(Int×(Int×(Nat×(Int×(Int×Nat)))))),()):=rfl
 have hlr:g28 n (enc ra) (enc rb)=some (chs ja,(chs jb,(arr,()))):=by
  dsimp only [g28,bR8]
  rw [aX hNew]
  simp only
  rw [e]
  rfl
 have hla:=eU (enc ra) (enc ra).size 0 rfl
 have hlb:=eU (enc rb) (enc rb).size 0 rfl
 have q1:=P1.length
 have q2:=P2.length
 have c1:=fF ja
 have c2:=fF jb
 have wa:Valids (chs ja):=lM fun j hj=>by have:=P1.lt j hj;omega
 have wb:Valids (chs jb):=lM fun j hj=>by have:=P2.lt j hj;omega
 obtain ⟨l,g1,g2,g3⟩:=cC5 n hn (chs ja) (chs jb) wa wb (by omega)
 have hll:=g2.len
 have hal:=wE (x:=l)
 rw [g2.src,g2.tgt] at hal
 have e1:bW (iY arr l)=ra:=by rw [OV,g2.src,Pts.rc va (by omega) P1];exact lA _ _ (Nat.le_refl _)
 have e2:bV (iY arr l)=rb:=by rw [QX,g2.tgt,Pts.rc vb (by omega) P2];exact lA _ _ (Nat.le_refl _)
 have hal2:=wE (x:=iY arr l)
 rw [e1,e2] at hal2
 obtain ⟨k1,k2⟩:=cJ0 n hn ((1000000000,(4,(1000,(4602678819172646912,(4,(32,4602678819172646912)))))):Int×(Int×(Int×(Nat×(Int×(Int×Nat)))))) arr (by omega) l (by omega) g2.ok (by rw [g2.src];exact Pts.stands va (by omega) P1) (by rw [g2.tgt];exact Pts.stands vb (by omega) P2) (by omega) (by omega)
 have hpl:(iY arr l).length=l.length:=List.length_map _
 have hm:g46 n (M l)=some (M l,()):=cK5 n hn l (by omega) g2.ok
 have hli:g49 n (M (iY arr l))=some (M (iY arr l),()):=I2 n hn _ (by omega) k2
 have hdf:g29 n (M l) arr=some (M (iY arr l),()):=by
  dsimp only [g29,bX8,g44,TN,OT]
  rw [aX hNew,aX hm]
  simp only
  rw [aX k1]
  simp only
  rw [aX hli]
  rfl
 exact ⟨arr,h,ja,jb,l,hlr,H,P1,P2,by omega,by omega,by omega,g1,g2,cJ1 g3,hdf,k2,e1,e2,by omega⟩
end Go.Proofs.YticibdjilmclgaaDoorZF
