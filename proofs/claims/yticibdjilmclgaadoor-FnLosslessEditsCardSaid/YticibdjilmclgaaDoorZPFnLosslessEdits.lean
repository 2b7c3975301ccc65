/- Plain statements about the printed functions. -/
import Derived.Test.YticibdjilmclgaaDoorZPQ0
import Derived.Test.YticibdjilmclgaaDoorZPQ1
import Derived.Test.YticibdjilmclgaaDoorZGA1
import Derived.Test.YticibdjilmclgaaDoorZGA2
import Derived.Test.YticibdjilmclgaaDoorZFB
namespace Go.Proofs.YticibdjilmclgaaDoorZF
open Go
set_option linter.unusedVariables false
set_option linter.unusedSimpArgs false
theorem dfLossless_ok (n : Nat) (hn : Big ≤ n) (x : List Rp) (hx : Ok x) (hl : x.length ≤ 1000000) (ha : allR x ≤ 10000000) : g24 n (M x) = some (M (lossless x), ()) := by
 dsimp only [g24, g24_1, g40, g40_1, g40_2]
 have h1 : g46 n (M x) = some (M x, ()) := made_ok n hn x hl hx
 have hi := @lossless_inv x
 have h2 : g49 n (M (lossless x)) = some (M (lossless x), ()) := list_ok n hn (lossless x) (by have := hi.2.2.2.2.1; omega) (hi.2.2.2.1 hx)
 obtain ⟨p, hp⟩ : ∃ p, g42 n = some (p, ()) := ⟨_, rfl⟩
 rw [bind_some' hp, bind_some' h1]
 simp only
 rw [bind_some' (lossless_ok n hn p x hx hl ha)]
 simp only
 rw [bind_some' h2]
 rfl
theorem dfKept_ok (n : Nat) (hn : Big ≤ n) (x y : List Rp) (hs : srcR x = srcR y) (ht : tgtR x = tgtR y) (h0 : y ≠ [] → x ≠ []) (hl : x.length ≤ 1000000) (hl2 : y.length ≤ 1000000) (ha : allR x ≤ 10000000) (ha2 : allR y ≤ 10000000) : g25 n (M x) (M y) = some (true, ()) := by
 have gs : g16 n (M y) = some (enc (srcR y), ()) := source_ok n hn y (by omega) (by omega)
 have gt : g17 n (M y) = some (enc (tgtR y), ()) := target_ok n hn y (by omega) (by omega)
 have gs' : g16 n (M x) = some (enc (srcR y), ()) := by rw [← hs]; exact source_ok n hn x (by omega) (by omega)
 have gt' : g17 n (M x) = some (enc (tgtR y), ()) := by rw [← ht]; exact target_ok n hn x (by omega) (by omega)
 dsimp only [g25, g25_1]
 rw [bind_some' gs, bind_some' gt, bind_some' gs']
 simp only
 rw [biT (by rw [strEq_eq]; simp), bind_some' gt']
 simp only
 rw [biT (by rw [strEq_eq]; simp)]
 have hml : (M x).length = x.length := List.length_map _
 by_cases hx : x = []
 ·have hy : y = [] := Classical.byContradiction fun h => h0 h hx
  subst hx; subst hy
  rw [bdF (by rw [hml]; simp), roomy_ok (by decide), show enc (srcR []) = enc [] from rfl, show enc (tgtR []) = enc [] from rfl, ← enc_append, ← enc_nil, List.append_nil, strEq_enc Valids.nil Valids.nil]
  simp
 ·have := List.length_pos_iff.2 hx
  have c : ((M x).length : Int) > 0 := by rw [hml]; omega
  rw [bdT c]
def editsR (l : List Rp) : List Rp := l.filter fun d => decide (d.1 ≠ 0)
theorem editsR_L : ∀ l : List Rp, (editsR l).map (fun d => (d.1, d.2.length)) = editsL l
 | [] => rfl
 | d :: l => by
  have ih := editsR_L l
  unfold editsR at ih ⊢
  rw [List.filter_cons]
  by_cases h : d.1 = 0
  ·rw [if_neg (by simp [h]), ih, editsL, if_pos h]
  ·rw [if_pos (by simp [h]), List.map_cons, ih, editsL, if_neg h]
theorem M_filter (l : List Rp) : (M l).filter (fun d => d.1 != 0) = M (editsR l) := by
 unfold M editsR
 rw [List.filter_map]
 congr 1
 refine List.filter_congr fun d _ => ?_
 show (d.1 != 0) = _
 by_cases h : d.1 = 0 <;> simp [h]
theorem losslessEdits_law (n : Nat) (hn : Big ≤ n) (x y : ByteArray) : g7 n x y = some (true, ()) := by
 have hB : (4611686018427387904 : Nat) ≤ n := hn
 dsimp only [g7, g7_14, g7_1]
 by_cases h1 : (x.size : Int) > 2147483647
 ·rw [bdT h1]
 by_cases h2 : (y.size : Int) > 2147483647
 ·rw [bdF h1, bdT h2]
 rw [bdF h1, bdF h2]
 have between : ∀ u v : ByteArray, u.size ≤ 2147483647 → v.size ≤ 2147483647 → ∃ l, g23 n u v = some (M l, ()) ∧ LD ((runesOf u).take 120) ((runesOf v).take 120) l := fun u v hu hv => by
  dsimp only [g23, g23_1]
  rw [show (120 : Int) = ((120 : Nat) : Int) from rfl, clean_ok n u 120 (by omega), Option.bind_some, clean_ok n v 120 (by omega), Option.bind_some]
  have la : ((runesOf u).take 120).length ≤ 120 := by rw [List.length_take]; omega
  have lb : ((runesOf v).take 120).length ≤ 120 := by rw [List.length_take]; omega
  obtain ⟨l, g1, g2, _⟩ := dfMain_ok n hn _ _ ((runesOf_valid u).take 120) ((runesOf_valid v).take 120) (by omega)
  exact ⟨l, by rw [bind_some' g1], g2⟩
 obtain ⟨l, b1, b2⟩ := between x y (by omega) (by omega)
 have la : ((runesOf x).take 120).length ≤ 120 := by rw [List.length_take]; omega
 have lb : ((runesOf y).take 120).length ≤ 120 := by rw [List.length_take]; omega
 have hl := b2.len
 have hal := all_le (x := l)
 rw [b2.src, b2.tgt] at hal
 have hi := @lossless_inv l
 have hil := hi.2.2.2.2.1
 have hal2 := all_le (x := lossless l)
 rw [hi.1, hi.2.1, b2.src, b2.tgt] at hal2
 have hls := dfLossless_ok n hn l b2.ok (by omega) (by omega)
 rw [bind_some' b1]
 simp only
 rw [bind_some' hls]
 simp only
 have lml : (M l).length = l.length := List.length_map _
 have lmm : (M (lossless l)).length = (lossless l).length := List.length_map _
 have step1 : ∀ (kx : List (Int × ByteArray) → List (Int × ByteArray) → List (Int × ByteArray) → List (Int × ByteArray) → Option (DenR [.dat .bool])), g7_4 n kx (M l) (M (lossless l)) [] [] (M l) ((M l).length : Int) (0 : Int) = kx (M l) (M (lossless l)) (M (editsR l)) [] := by
  intro kx
  have e := range_fold (M l) (fun m s i => g7_3L n kx m (M l) (M (lossless l)) s [] (M l) ((M l).length : Int) (i : Int)) (fun s => kx (M l) (M (lossless l)) s []) (fun s d => if (d.1 != 0) = true then s ++ [d] else s) (fun i s => s.length ≤ i)
   (fun m s i hi' hs => by
    have c0 : ((0 : Int) ≤ (i : Int)) := by omega
    have c1 : ((i : Int) < ((M l).length : Int)) := by omega
    refine ⟨?_, by
     split
     ·rw [List.length_append]; simp only [List.length_cons, List.length_nil]; omega
     ·omega⟩
    rw [g7_3L.eq_2, g7_2, bdT c1, idx_ok c0 c1]
    simp only [rd_at hi', rd_zero rfl]
    rw [w64_id (by omega) (by omega)]
    by_cases hd : ((M l)[i].1 != 0) = true
    ·rw [biT hd, if_pos hd, roomy_ok (by simp; omega)]; rfl
    ·rw [biF (by simpa using hd), if_neg hd]; rfl)
   (fun m s hs => by rw [g7_3L.eq_2, g7_2, bdF (by omega)]) n [] (by omega) (by simp)
  have hf : ∀ (zs s : List (Int × ByteArray)), zs.foldl (fun s d => if (d.1 != 0) = true then s ++ [d] else s) s = s ++ zs.filter (fun d => d.1 != 0) := by
   intro zs
   induction zs with
   | nil => intro s; simp
   | cons z zs ih =>
    intro s
    rw [List.foldl_cons, ih, List.filter_cons]
    split <;> simp
  rw [hf, M_filter] at e
  exact e
 have step2 : ∀ (kx : List (Int × ByteArray) → List (Int × ByteArray) → List (Int × ByteArray) → List (Int × ByteArray) → Option (DenR [.dat .bool])), g7_8 n kx (M l) (M (lossless l)) (M (editsR l)) [] (M (lossless l)) ((M (lossless l)).length : Int) (0 : Int) = kx (M l) (M (lossless l)) (M (editsR l)) (M (editsR (lossless l))) := by
  intro kx
  have e := range_fold (M (lossless l)) (fun m s i => g7_7L n kx m (M l) (M (lossless l)) (M (editsR l)) s (M (lossless l)) ((M (lossless l)).length : Int) (i : Int)) (fun s => kx (M l) (M (lossless l)) (M (editsR l)) s) (fun s d => if (d.1 != 0) = true then s ++ [d] else s) (fun i s => s.length ≤ i)
   (fun m s i hi' hs => by
    have c0 : ((0 : Int) ≤ (i : Int)) := by omega
    have c1 : ((i : Int) < ((M (lossless l)).length : Int)) := by omega
    refine ⟨?_, by
     split
     ·rw [List.length_append]; simp only [List.length_cons, List.length_nil]; omega
     ·omega⟩
    rw [g7_7L.eq_2, g7_6, bdT c1, idx_ok c0 c1]
    simp only [rd_at hi', rd_zero rfl]
    rw [w64_id (by omega) (by omega)]
    by_cases hd : ((M (lossless l))[i].1 != 0) = true
    ·rw [biT hd, if_pos hd, roomy_ok (by simp; omega)]; rfl
    ·rw [biF (by simpa using hd), if_neg hd]; rfl)
   (fun m s hs => by rw [g7_7L.eq_2, g7_6, bdF (by omega)]) n [] (by omega) (by simp)
  have hf : ∀ (zs s : List (Int × ByteArray)), zs.foldl (fun s d => if (d.1 != 0) = true then s ++ [d] else s) s = s ++ zs.filter (fun d => d.1 != 0) := by
   intro zs
   induction zs with
   | nil => intro s; simp
   | cons z zs ih =>
    intro s
    rw [List.foldl_cons, ih, List.filter_cons]
    split <;> simp
  rw [hf, M_filter] at e
  exact e
 rw [step1]
 dsimp only [g7_5]
 rw [step2]
 dsimp only [g7_9]
 have hed : (editsR (lossless l)).map (fun d => (d.1, d.2.length)) = (editsR l).map (fun d => (d.1, d.2.length)) := by rw [editsR_L, editsR_L, hi.2.2.1]
 have hlen : (editsR (lossless l)).length = (editsR l).length := by have := congrArg List.length hed; simpa using this
 have le1 : (M (editsR l)).length = (editsR l).length := List.length_map _
 have le2 : (M (editsR (lossless l))).length = (editsR (lossless l)).length := List.length_map _
 rw [biF (by rw [bne_eq_false_iff_eq, le1, le2, hlen])]
 have hkept := dfKept_ok n hn (lossless l) l hi.1 hi.2.1 hi.2.2.2.2.2 (by omega) (by omega) (by omega) (by omega)
 rw [bind_some' hkept]
 simp only [Bool.not_true, cond_false]
 have vex : ∀ c : Int, c = 98 ∨ c = 99 → Valids [97, c] := fun c hc => Asc.valids (by intro b hb; simp at hb; omega)
 have eab : (⟨#[97, 98]⟩ : ByteArray) = enc [97, 98] := by rw [← Asc.eq (by intro b hb; simp at hb; omega)]; rfl
 have eac : (⟨#[97, 99]⟩ : ByteArray) = enc [97, 99] := by rw [← Asc.eq (by intro b hb; simp at hb; omega)]; rfl
 obtain ⟨z, z1, z2⟩ := between (⟨#[97, 98]⟩ : ByteArray) (⟨#[97, 99]⟩ : ByteArray) (by decide) (by decide)
 rw [eab, eac, runes_enc (vex 98 (.inl rfl)), runes_enc (vex 99 (.inr rfl))] at z2
 have z3 : edR z = 2 := by
  rw [z2.ed]
  show dst [97, 98] [97, 99] = 2
  rw [dst_cons, if_pos rfl, dst_cons, if_neg (by decide), dst_nil, dst_nil']
  rfl
 have z4 := three_parts z2.ok.ops z2.full z2.src z2.tgt z3
 have z5 := three_loss z2.ok z4 z2.src z2.tgt z3
 have zal := all_le (x := z)
 rw [z2.src, z2.tgt] at zal
 simp only [List.take, List.length_cons, List.length_nil] at zal
 rw [bind_some' z1]
 simp only
 rw [bind_some' (dfLossless_ok n hn z z2.ok (by omega) (by omega))]
 simp only
 have zml : (M (lossless z)).length = (lossless z).length := List.length_map _
 rw [biF (by rw [bne_eq_false_iff_eq, zml, z5]; rfl)]
 dsimp only [g7_12, g7_11, g7_13]
 have hok1 : ∀ d ∈ editsR l, OkR d := fun d hd => b2.ok d (List.mem_filter.1 hd).1
 have hok2 : ∀ d ∈ editsR (lossless l), OkR d := fun d hd => (hi.2.2.2.1 b2.ok) d (List.mem_filter.1 hd).1
 have hsm1 : ∀ d ∈ editsR l, d.2.length ≤ 1000 := fun d hd => by have := allR_mem (List.mem_filter.1 hd).1; omega
 have hsm2 : ∀ d ∈ editsR (lossless l), d.2.length ≤ 1000 := fun d hd => by have := allR_mem (List.mem_filter.1 hd).1; omega
 have hle : (editsR l).length ≤ l.length := List.length_filter_le _ _
 have key : ∀ (d i m : Nat), (editsR l).length - i = d → i ≤ (editsR l).length → d < m → g7_11L n (fun v4 => some (v4, ())) (some (true, ())) m (M (editsR l)) (M (editsR (lossless l))) ((M (editsR l)).length : Int) (i : Int) = some (true, ()) := by
  intro d
  induction d with
  | zero =>
   intro i m hd hi2 hm
   obtain ⟨m, rfl⟩ : ∃ m', m = m' + 1 := ⟨m - 1, by omega⟩
   rw [g7_11L.eq_2, g7_10, bdF (by omega)]
  | succ d ih =>
   intro i m hd hi2 hm
   obtain ⟨m, rfl⟩ : ∃ m', m = m' + 1 := ⟨m - 1, by omega⟩
   have i1 : i < (editsR l).length := by omega
   have i2 : i < (editsR (lossless l)).length := by omega
   have I1 : i < (M (editsR l)).length := by omega
   have I2 : i < (M (editsR (lossless l))).length := by omega
   have hg : ((editsR (lossless l))[i].1, (editsR (lossless l))[i].2.length) = ((editsR l)[i].1, (editsR l)[i].2.length) := by
    have h := congrArg (fun q => q[i]?) hed
    simp only [List.getElem?_map, List.getElem?_eq_getElem i1, List.getElem?_eq_getElem i2, Option.map_some] at h
    exact Option.some.inj h
   have hg1 := (Prod.mk.inj hg).1
   have hg2 := (Prod.mk.inj hg).2
   have k1 := hok1 (editsR l)[i] (by simp)
   have k2 := hok2 (editsR (lossless l))[i] (by simp)
   have s1 := hsm1 (editsR l)[i] (by simp)
   have s2 := hsm2 (editsR (lossless l))[i] (by simp)
   have y1 := enc_size_le (editsR l)[i].2
   have y2 := enc_size_le (editsR (lossless l))[i].2
   have m1 : (M (editsR l))[i] = emb (editsR l)[i] := List.getElem_map _
   have m2 : (M (editsR (lossless l)))[i] = emb (editsR (lossless l))[i] := List.getElem_map _
   have c0 : (0 : Int) ≤ (i : Int) := by omega
   have c1 : (i : Int) < ((M (editsR l)).length : Int) := by omega
   have c2 : (i : Int) < ((M (editsR (lossless l))).length : Int) := by omega
   rw [g7_11L.eq_2, g7_10, bdT c1, idx_ok c0 c1, idx_ok c0 c2]
   simp only [rd_at I1, rd_at I2, m1, m2, idx_ok c0 c1, idx_ok c0 c2]
   rw [show (emb (editsR l)[i]).1 = (editsR l)[i].1 from rfl, show (emb (editsR (lossless l))[i]).1 = (editsR (lossless l))[i].1 from rfl, hg1, biF (by simp)]
   rw [show (emb (editsR l)[i]).2 = enc (editsR l)[i].2 from rfl, show (emb (editsR (lossless l))[i]).2 = enc (editsR (lossless l))[i].2 from rfl, runesOk_enc n _ k1.2 (by omega), Option.bind_some, runesOk_enc n _ k2.2 (by omega), Option.bind_some]
   simp only
   rw [biF (by rw [bne_eq_false_iff_eq, hg2]), w64_id (by omega) (by omega), show (i : Int) + 1 = ((i + 1 : Nat) : Int) by omega]
   exact ih (i + 1) m (by omega) (by omega) (by omega)
 exact key (editsR l).length 0 n (by omega) (by omega) (by omega)
theorem FnLosslessEdits_pure : ∀ d, GoodA g7_A d → ∃ n, g7_f n d = some (true, ()) := fun d _ => ⟨Big, losslessEdits_law Big (Nat.le_refl _) d.1 d.2.1⟩
end Go.Proofs.YticibdjilmclgaaDoorZF
