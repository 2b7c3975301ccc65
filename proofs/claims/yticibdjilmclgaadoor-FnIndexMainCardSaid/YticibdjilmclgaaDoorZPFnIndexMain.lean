/- Plain statements about the printed functions. -/
import Derived.Test.YticibdjilmclgaaDoorZPQ0
import Derived.Test.YticibdjilmclgaaDoorZPQ1
import Derived.Test.YticibdjilmclgaaDoorZGA1
import Derived.Test.YticibdjilmclgaaDoorZGA2
import Derived.Test.YticibdjilmclgaaDoorZFB
namespace Go.Proofs.YticibdjilmclgaaDoorZF
open Go
set_option linter.unusedVariables false
set_option linter.unusedSimpArgs false
def bz (d : Rp) : List Int := bytesOf (enc d.2)
def xi : List Rp → Nat → Nat
 | [], i => i
 | d :: l, i => if d.1 = 1 then (bz d).length + xi l i else if i < (bz d).length then (if d.1 = -1 then 0 else i) else (if d.1 = -1 then 0 else (bz d).length) + xi l (i - (bz d).length)
def kp : List Rp → Nat → Bool
 | [], _ => false
 | d :: l, i => if d.1 = 1 then kp l i else if i < (bz d).length then d.1 == 0 else kp l (i - (bz d).length)
def sb (l : List Rp) : List Int := bytesOf (enc (srcR l))
def tb (l : List Rp) : List Int := bytesOf (enc (tgtR l))
theorem sb_cons (d : Rp) (l : List Rp) : sb (d :: l) = (if d.1 = 1 then [] else bz d) ++ sb l := by
 unfold sb bz
 rw [show srcR (d :: l) = (if d.1 = 1 then [] else d.2) ++ srcR l from rfl, enc_append, bytesOf_append]
 split <;> rfl
theorem tb_cons (d : Rp) (l : List Rp) : tb (d :: l) = (if d.1 = -1 then [] else bz d) ++ tb l := by
 unfold tb bz
 rw [show tgtR (d :: l) = (if d.1 = -1 then [] else d.2) ++ tgtR l from rfl, enc_append, bytesOf_append]
 split <;> rfl
theorem xi_main : ∀ {l : List Rp} {i : Nat}, Ops l → i < (sb l).length → xi l i ≤ (tb l).length ∧ (kp l i = true → xi l i < (tb l).length ∧ (tb l)[xi l i]? = (sb l)[i]?)
 | [], i, _, h => absurd h (by simp [sb, srcR, enc_nil, bytesOf])
 | d :: l, i, ho, h => by
  have hd := ho d (by simp)
  have ho' : Ops l := fun e he => ho e (by simp [he])
  rw [sb_cons] at h ⊢
  rw [tb_cons]
  unfold xi kp
  rcases hd with hd | hd | hd
  ·simp only [hd, if_true, show ¬ ((-1 : Int) = 1) by omega, if_false, List.nil_append] at h ⊢
   by_cases c : i < (bz d).length
   ·rw [if_pos c, if_pos c]
    exact ⟨by omega, fun hk => absurd hk (by decide)⟩
   ·rw [if_neg c, if_neg c]
    rw [List.length_append] at h
    have := xi_main (i := i - (bz d).length) ho' (by omega)
    rw [Nat.zero_add, List.getElem?_append_right (by omega)]
    exact this
  ·simp only [hd, show ¬ ((0 : Int) = 1) by omega, show ¬ ((0 : Int) = -1) by omega, if_false] at h ⊢
   by_cases c : i < (bz d).length
   ·rw [if_pos c, if_pos c]
    rw [List.length_append]
    refine ⟨by omega, fun _ => ⟨by omega, ?_⟩⟩
    rw [List.getElem?_append_left c, List.getElem?_append_left c]
   ·rw [if_neg c, if_neg c]
    rw [List.length_append] at h
    have := xi_main (i := i - (bz d).length) ho' (by omega)
    rw [List.length_append]
    refine ⟨by omega, fun hk => ?_⟩
    have h2 := this.2 hk
    refine ⟨by omega, ?_⟩
    rw [List.getElem?_append_right (by omega), List.getElem?_append_right (by omega), Nat.add_sub_cancel_left]
    exact h2.2
  ·simp only [hd, if_true, show ¬ ((1 : Int) = -1) by omega, if_false, List.nil_append] at h ⊢
   have := xi_main (i := i) ho' h
   rw [List.length_append]
   refine ⟨by omega, fun hk => ?_⟩
   have h2 := this.2 hk
   refine ⟨by omega, ?_⟩
   rw [List.getElem?_append_right (by omega), Nat.add_sub_cancel_left]
   exact h2.2
theorem xi_mono : ∀ {l : List Rp} {i k : Nat}, Ops l → i ≤ k → xi l i ≤ xi l k ∧ (i < k → kp l i = true → xi l i < xi l k)
 | [], i, k, _, h => ⟨h, fun h _ => h⟩
 | d :: l, i, k, ho, h => by
  have hd := ho d (by simp)
  have ho' : Ops l := fun e he => ho e (by simp [he])
  unfold xi kp
  rcases hd with hd | hd | hd
  ·simp only [hd, if_true, show ¬ ((-1 : Int) = 1) by omega, if_false]
   by_cases c : i < (bz d).length
   ·rw [if_pos c, if_pos c]
    exact ⟨by omega, fun _ hk => absurd hk (by decide)⟩
   ·rw [if_neg c, if_neg c, if_neg (by omega)]
    have := xi_mono (i := i - (bz d).length) (k := k - (bz d).length) ho' (by omega)
    exact ⟨by omega, fun hik hk => by have := this.2 (by omega) hk; omega⟩
  ·simp only [hd, show ¬ ((0 : Int) = 1) by omega, show ¬ ((0 : Int) = -1) by omega, if_false]
   by_cases c : i < (bz d).length
   ·rw [if_pos c, if_pos c]
    split
    ·exact ⟨by omega, fun h _ => h⟩
    ·exact ⟨by omega, fun h _ => by omega⟩
   ·rw [if_neg c, if_neg c, if_neg (by omega)]
    have := xi_mono (i := i - (bz d).length) (k := k - (bz d).length) ho' (by omega)
    exact ⟨by omega, fun hik hk => by have := this.2 (by omega) hk; omega⟩
  ·simp only [hd, if_true, if_false]
   have := xi_mono (i := i) (k := k) ho' h
   exact ⟨by omega, fun hik hk => by have := this.2 hik hk; omega⟩
theorem bz_le (d : Rp) : (bz d).length ≤ 4 * d.2.length := by
 unfold bz; rw [bytesOf_length]; exact enc_size_le d.2
theorem xIndex_ok (n : Nat) (hn : Big ≤ n) (p) (l : List Rp) (ho : Ops l) (loc : Nat) (hc : loc ≤ 1000000000) (hl : l.length ≤ 1000000) (ha : allR l ≤ 1000000) :
  g47 n p (M l) (loc : Int) = some ((xi l loc : Int), ()) := by
 have hB : (4611686018427387904 : Nat) ≤ n := hn
 dsimp only [g47, g47_13, g47_1, g47_11, g47_10]
 have hlm : (M l).length = l.length := List.length_map _
 have key : ∀ (d j m s t i : Nat), l.length - j = d → j ≤ l.length → d < m → s + i = loc → s + 4 * allR (l.drop j) ≤ 2000000000 → t + 4 * allR (l.drop j) ≤ 2000000000 →
   g47_10L n (fun v2 v9 v10 p11 => g47_12 n (fun v6 => some (v6, ())) v2 v9 v10 p11) m (M l) (loc : Int) (s : Int) (t : Int) (s : Int) (t : Int) ((0 : Int), (⟨#[]⟩ : ByteArray)) (j : Int) = some (((t + xi (l.drop j) i : Nat) : Int), ()) := by
  intro d
  induction d with
  | zero =>
   intro j m s t i hd hj hm hs h1 h2
   obtain ⟨m, rfl⟩ : ∃ m', m = m' + 1 := ⟨m - 1, by omega⟩
   rw [g47_10L.eq_2, g47_9, g47_2, bdF (by omega), g47_12]
   rw [biF (by rfl), List.drop_eq_nil_of_le (by omega), w64_id (n := (loc : Int) - (s : Int)) (by omega) (by omega), w64_id (by omega) (by omega)]
   simp only [xi]
   congr 2; omega
  | succ d ih =>
   intro j m s t i hd hj hm hs h1 h2
   obtain ⟨m, rfl⟩ : ∃ m', m = m' + 1 := ⟨m - 1, by omega⟩
   have hj' : j < l.length := by omega
   have hI : j < (M l).length := by omega
   have m1 : (M l)[j] = emb l[j] := List.getElem_map _
   have hdc := List.drop_eq_getElem_cons hj'
   have hz := bz_le l[j]
   have hzs : ((enc l[j].2).size : Int) = ((bz l[j]).length : Int) := by unfold bz; rw [bytesOf_length]
   have hop := ho l[j] (by simp)
   rw [hdc, allR_cons] at h1 h2
   rw [hdc]
   rw [g47_10L.eq_2, g47_9, g47_2, bdT (by omega)]
   unfold g47_7 g47_6 g47_3
   rw [idx_ok (by omega) (by omega)]
   simp only [rd_at hI, rd_zero rfl, m1]
   rw [show (emb l[j]).1 = l[j].1 from rfl, show (emb l[j]).2 = enc l[j].2 from rfl, hzs]
   unfold xi
   rcases hop with hop | hop | hop
   ·simp only [hop]
    rw [biT (by rfl)]
    unfold g47_4
    rw [show (emb l[j]).1 = l[j].1 from rfl, hop, biF (by rfl)]
    unfold g47_5
    dsimp only
    rw [w64_id (n := (s : Int) + _) (by omega) (by omega), if_neg (by omega)]
    by_cases c : i < (bz l[j]).length
    ·rw [bdT (by omega), g47_12, show (emb l[j]).1 = l[j].1 from rfl, hop, biT (by rfl), if_pos c, if_pos trivial]
     rfl
    ·rw [bdF (by omega), g47_8, w64_id (n := (j : Int) + 1) (by omega) (by omega), if_neg c, if_pos trivial]
     have := ih (j + 1) m (s + (bz l[j]).length) t (i - (bz l[j]).length) (by omega) (by omega) (by omega) (by omega) (by omega) (by omega)
     rw [show (j : Int) + 1 = ((j + 1 : Nat) : Int) by omega, show (s : Int) + ((bz l[j]).length : Int) = ((s + (bz l[j]).length : Nat) : Int) by omega, Nat.zero_add]
     exact this
   ·simp only [hop]
    rw [biT (by rfl)]
    unfold g47_4
    rw [show (emb l[j]).1 = l[j].1 from rfl, show (emb l[j]).2 = enc l[j].2 from rfl, hzs, hop, biT (by rfl)]
    unfold g47_5
    dsimp only
    rw [w64_id (n := (s : Int) + _) (by omega) (by omega), w64_id (n := (t : Int) + _) (by omega) (by omega), if_neg (by omega)]
    by_cases c : i < (bz l[j]).length
    ·rw [bdT (by omega), g47_12, show (emb l[j]).1 = l[j].1 from rfl, hop, biF (by rfl), if_pos c, if_neg (by omega), w64_id (n := (loc : Int) - (s : Int)) (by omega) (by omega), w64_id (by omega) (by omega)]
     congr 2; omega
    ·rw [bdF (by omega), g47_8, w64_id (n := (j : Int) + 1) (by omega) (by omega), if_neg c, if_neg (by omega)]
     have := ih (j + 1) m (s + (bz l[j]).length) (t + (bz l[j]).length) (i - (bz l[j]).length) (by omega) (by omega) (by omega) (by omega) (by omega) (by omega)
     rw [show (j : Int) + 1 = ((j + 1 : Nat) : Int) by omega, show (s : Int) + ((bz l[j]).length : Int) = ((s + (bz l[j]).length : Nat) : Int) by omega, show (t : Int) + ((bz l[j]).length : Int) = ((t + (bz l[j]).length : Nat) : Int) by omega, ← Nat.add_assoc]
     exact this
   ·simp only [hop]
    rw [biF (by rfl)]
    unfold g47_4
    rw [show (emb l[j]).1 = l[j].1 from rfl, show (emb l[j]).2 = enc l[j].2 from rfl, hzs, hop, biT (by rfl)]
    unfold g47_5
    dsimp only
    rw [w64_id (n := (t : Int) + _) (by omega) (by omega), if_pos trivial]
    rw [bdF (by omega), g47_8, w64_id (n := (j : Int) + 1) (by omega) (by omega)]
    have := ih (j + 1) m s (t + (bz l[j]).length) i (by omega) (by omega) (by omega) (by omega) (by omega) (by omega)
    rw [show (j : Int) + 1 = ((j + 1 : Nat) : Int) by omega, show (t : Int) + ((bz l[j]).length : Int) = ((t + (bz l[j]).length : Nat) : Int) by omega, ← Nat.add_assoc]
    exact this
 have := key l.length 0 n 0 0 loc (by omega) (by omega) (by omega) (by omega) (by simp only [List.drop_zero]; omega) (by simp only [List.drop_zero]; omega)
 rw [List.drop_zero, Nat.zero_add] at this
 exact this
theorem impX_ok (n : Nat) (hn : Big ≤ n) (l : List Rp) (ho : Ok l) (loc : Nat) (hc : loc ≤ 1000000000) (hl : l.length ≤ 1000000) (ha : allR l ≤ 1000000) : g33 n (M l) (loc : Int) = some ((xi l loc : Int), ()) := by
 dsimp only [g33, g33_1]
 obtain ⟨p, hp⟩ : ∃ p, g42 n = some (p, ()) := ⟨_, rfl⟩
 have h1 : g46 n (M l) = some (M l, ()) := made_ok n hn l hl ho
 rw [bind_some' hp, bind_some' h1]
 simp only
 rw [bind_some' (xIndex_ok n hn p l ho.ops loc hc hl ha)]
theorem kept_ok (n : Nat) (hn : Big ≤ n) (l : List Rp) (ho : Ops l) (loc : Nat) (hc : loc ≤ 1000000000) (hl : l.length ≤ 1000000) (ha : allR l ≤ 1000000) :
  g34 n (M l) (loc : Int) = some (kp l loc, ()) := by
 have hB : (4611686018427387904 : Nat) ≤ n := hn
 dsimp only [g34, g34_6, g34_1, g34_4, g34_3]
 have hlm : (M l).length = l.length := List.length_map _
 have key : ∀ (d j m s i : Nat), l.length - j = d → j ≤ l.length → d < m → s + i = loc → s + 4 * allR (l.drop j) ≤ 2000000000 →
   g34_3L n (fun v4 => some (v4, ())) (g34_5 n (fun v4 => some (v4, ()))) m (loc : Int) (s : Int) (M l) ((M l).length : Int) (j : Int) = some (kp (l.drop j) i, ()) := by
  intro d
  induction d with
  | zero =>
   intro j m s i hd hj hm hs h1
   obtain ⟨m, rfl⟩ : ∃ m', m = m' + 1 := ⟨m - 1, by omega⟩
   rw [g34_3L.eq_2, g34_2, bdF (by omega), g34_5, List.drop_eq_nil_of_le (by omega)]
   rfl
  | succ d ih =>
   intro j m s i hd hj hm hs h1
   obtain ⟨m, rfl⟩ : ∃ m', m = m' + 1 := ⟨m - 1, by omega⟩
   have hj' : j < l.length := by omega
   have hI : j < (M l).length := by omega
   have m1 : (M l)[j] = emb l[j] := List.getElem_map _
   have hdc := List.drop_eq_getElem_cons hj'
   have hz := bz_le l[j]
   have hzs : ((enc l[j].2).size : Int) = ((bz l[j]).length : Int) := by unfold bz; rw [bytesOf_length]
   have hop := ho l[j] (by simp)
   rw [hdc, allR_cons] at h1
   rw [hdc]
   rw [g34_3L.eq_2, g34_2, bdT (by omega), idx_ok (by omega) (by omega)]
   simp only [rd_at hI, rd_zero rfl, m1]
   rw [show (emb l[j]).1 = l[j].1 from rfl, show (emb l[j]).2 = enc l[j].2 from rfl, hzs, w64_id (n := (j : Int) + 1) (by omega) (by omega), show (j : Int) + 1 = ((j + 1 : Nat) : Int) by omega]
   unfold kp
   by_cases c1 : l[j].1 = 1
   ·rw [biT (by rw [c1]; rfl), if_pos c1]
    exact ih (j + 1) m s i (by omega) (by omega) (by omega) (by omega) (by omega)
   ·rw [biF (by rw [beq_eq_false_iff_ne]; exact c1), if_neg c1, w64_id (by omega) (by omega)]
    by_cases c : i < (bz l[j]).length
    ·rw [bdT (by omega), if_pos c]
    ·rw [bdF (by omega), if_neg c, show (s : Int) + ((bz l[j]).length : Int) = ((s + (bz l[j]).length : Nat) : Int) by omega]
     exact ih (j + 1) m _ _ (by omega) (by omega) (by omega) (by omega) (by omega)
 have := key l.length 0 n 0 loc (by omega) (by omega) (by omega) (by omega) (by simp only [List.drop_zero]; omega)
 rw [List.drop_zero] at this
 exact this
theorem wu_range (x : Int) : 0 ≤ IntKind.u64.wrap x ∧ IntKind.u64.wrap x < 18446744073709551616 := by
 unfold IntKind.wrap; simp [IntKind.bits, IntKind.signed]; omega
theorem wu_id {x : Int} (h0 : 0 ≤ x) (h1 : x < 18446744073709551616) : IntKind.u64.wrap x = x := by
 unfold IntKind.wrap; simp [IntKind.bits, IntKind.signed]; omega
theorem rest_nat (x : Int) (k : Nat) (hk : 0 < k) (hk2 : k ≤ 1000000) : ∃ i : Nat, i < k ∧ w64 ((IntKind.u64.wrap x).tmod (IntKind.u64.wrap (k : Int))) = (i : Int) := by
 have h := wu_range x
 rw [wu_id (x := (k : Int)) (by omega) (by omega)]
 have h1 := Int.tmod_nonneg (k : Int) h.1
 have h2 := Int.tmod_lt_of_pos (IntKind.u64.wrap x) (show (0 : Int) < (k : Int) by omega)
 refine ⟨((IntKind.u64.wrap x).tmod (k : Int)).toNat, by omega, ?_⟩
 rw [w64_id (by omega) (by omega)]; omega
theorem indexMain_law (n : Nat) (hn : Big ≤ n) (x y : ByteArray) (at_ more : Int) : g12 n x y at_ more = some (true, ()) := by
 dsimp only [g12, g12_1]
 by_cases h1 : (x.size : Int) > 2147483647
 ·rw [bdT h1]
 by_cases h2 : (y.size : Int) > 2147483647
 ·rw [bdF h1, bdT h2]
 rw [bdF h1, bdF h2, show (120 : Int) = ((120 : Nat) : Int) from rfl, clean_ok n x 120 (by omega), Option.bind_some, clean_ok n y 120 (by omega), Option.bind_some]
 have va : Valids ((runesOf x).take 120) := (runesOf_valid x).take _
 have vb : Valids ((runesOf y).take 120) := (runesOf_valid y).take _
 have la : ((runesOf x).take 120).length ≤ 120 := by rw [List.length_take]; omega
 have lb : ((runesOf y).take 120).length ≤ 120 := by rw [List.length_take]; omega
 generalize (runesOf x).take 120 = A at *
 generalize (runesOf y).take 120 = B at *
 have hx : (⟨#[120]⟩ : ByteArray) = enc [120] := by decide
 have v1 : Valids ([120] ++ A) := Valids.append (fun z hz => by simp only [List.mem_cons, List.not_mem_nil, or_false] at hz; subst hz; decide) va
 have e1 := enc_size_le ([120] ++ A)
 have e2 := enc_size_le B
 have e3 : (enc ([120] ++ A)).size = (enc [120]).size + (enc A).size := enc_size_append _ _
 have e4 : (enc [120]).size = 1 := by decide
 have ll : ([120] ++ A).length ≤ 121 := by simp only [List.length_append, List.length_cons, List.length_nil]; omega
 simp only [hx]
 rw [roomy_ok (by omega), ← enc_append]
 obtain ⟨l, g1, g2, _⟩ := dfMain_ok n hn ([120] ++ A) B v1 vb (by omega)
 generalize [120] ++ A = A at *
 rw [bind_some' g1]
 obtain ⟨i, hi, ei⟩ := rest_nat at_ (enc A).size (by omega) (by omega)
 simp only [ei]
 have hw : w64 (((enc A).size : Int) - (i : Int)) = (((enc A).size - i : Nat) : Int) := by rw [w64_id (by omega) (by omega)]; omega
 rw [hw]
 obtain ⟨k, hk, ek⟩ := rest_nat more ((enc A).size - i) (by omega) (by omega)
 simp only [ek]
 rw [wu_id (by omega) (by omega), wu_id (by omega) (by omega), nz_ok (by omega), nz_ok (by omega), w64_id (n := (i : Int) + (k : Int)) (by omega) (by omega), show (i : Int) + (k : Int) = ((i + k : Nat) : Int) by omega]
 have hl := g2.len
 have hal := all_le (x := l)
 rw [g2.src, g2.tgt] at hal
 have hml : (M l).length = l.length := List.length_map _
 have x1 := impX_ok n hn l g2.ok i (by omega) (by omega) (by omega)
 have x2 := impX_ok n hn l g2.ok (i + k) (by omega) (by omega) (by omega)
 have kk := kept_ok n hn l g2.ok.ops i (by omega) (by omega) (by omega)
 have gs : g16 n (M l) = some (enc A, ()) := by rw [← g2.src]; exact source_ok n hn l (by omega) (by omega)
 have gt : g17 n (M l) = some (enc B, ()) := by rw [← g2.tgt]; exact target_ok n hn l (by omega) (by omega)
 have hs : sb l = bytesOf (enc A) := by unfold sb; rw [g2.src]
 have ht : tb l = bytesOf (enc B) := by unfold tb; rw [g2.tgt]
 have hsl : (sb l).length = (enc A).size := by rw [hs, bytesOf_length]
 have htl : (tb l).length = (enc B).size := by rw [ht, bytesOf_length]
 have m1 := xi_main (i := i) g2.ok.ops (by omega)
 have m2 := xi_main (i := i + k) g2.ok.ops (by omega)
 have m3 := xi_mono (i := i) (k := i + k) g2.ok.ops (by omega)
 have m11 := m1.1
 have m21 := m2.1
 have m31 := m3.1
 rw [bind_some' x1, bind_some' x2]
 simp only
 rw [bdF (show ¬ ((xi l i : Int) < 0) by omega), bdF (show ¬ ((xi l i : Int) > (xi l (i + k) : Int)) by omega), bdF (show ¬ ((xi l (i + k) : Int) > ((enc B).size : Int)) by omega), bind_some' kk, bind_some' gs, bind_some' gt]
 simp only
 have hst : strEq (enc A) (enc A) = true := by rw [strEq_eq]; simp
 have hst2 : strEq (enc B) (enc B) = true := by rw [strEq_eq]; simp
 simp only [hst, hst2, cond_true]
 cases hkp : kp l i with
 | false =>
  simp only [cond_false]
  rw [bind_some' kk]
  simp only [hkp]
  simp
 | true =>
  have m4 := m1.2 hkp
  have m5 := m3.2
  have m41 := m4.1
  rw [cond_true, bdF (show ¬ ((xi l i : Int) ≥ ((enc B).size : Int)) by omega), idx_ok (show (0 : Int) ≤ (xi l i : Int) by omega) (show (xi l i : Int) < ((enc B).size : Int) by omega), idx_ok (by omega) (by omega)]
  have hb : byteAt (enc B) (xi l i : Int) = byteAt (enc A) (i : Int) := by
   have q := m4.2
   rw [List.getElem?_eq_getElem (by omega), List.getElem?_eq_getElem (by omega)] at q
   rw [byteAt_rd (by omega) (by omega), byteAt_rd (by omega) (by omega), rd_at (by rw [bytesOf_length]; omega), rd_at (by rw [bytesOf_length]; omega)]
   simpa [hs, ht] using q
  rw [hb, biF (by simp)]
  by_cases hk0 : k = 0
  ·subst hk0; simp
  ·have := m5 (by omega) hkp
   rw [biF (by rw [beq_eq_false_iff_ne]; omega)]
   try rw [bind_some' kk]
   simp only [hkp, Bool.not_true, cond_false]
   simp; omega
theorem FnIndexMain_pure : ∀ d, GoodA g12_A d → ∃ n, g12_f n d = some (true, ()) := fun d _ => ⟨Big, indexMain_law Big (Nat.le_refl _) d.1 d.2.1 d.2.2.1 d.2.2.2.1⟩
end Go.Proofs.YticibdjilmclgaaDoorZF
