/- Plain statements about the printed functions. -/
import Derived.Test.YtfnjlgflbenfoaaYPQ0
import Derived.Test.YtfnjlgflbenfoaaYGA0
import Derived.Test.YtfnjlgflbenfoaaYGA1
import Derived.Test.YtfnjlgflbenfoaaYFB
namespace Go.Proofs.YtfnjlgflbenfoaaYF
open Go
set_option linter.unusedVariables false
set_option linter.unusedSimpArgs false
theorem slide_at {β : Type} (n : Nat) (kn : List Prt → Int → Option β) (kr : List Prt → Int → Bool → Option β) (kx0 : List Prt → Option β) (A R : List Rp) (p c q : Rp) (hp0 : Valids p.2) (hc : Valids c.2) (hq : Valids q.2) (hl : A.length + R.length ≤ 1000000) (hs : p.2.length + c.2.length + q.2.length ≤ 1000000) :
  g27_2 n kn kr kx0 (M (A.reverse ++ p :: c :: q :: R)) ((A.length : Int) + 1) =
   if p.1 = 0 ∧ q.1 = 0 ∧ c.1 ≠ 0 then
    if p.2 <:+ c.2 then kr (M (((c.1, p.2 ++ c.2.take (c.2.length - p.2.length)) :: A).reverse ++ (q.1, p.2 ++ q.2) :: R)) ((A.length : Int) + 1) true
    else if q.2 <+: c.2 then kr (M (((p.1, p.2 ++ q.2) :: A).reverse ++ (c.1, c.2.drop q.2.length ++ q.2) :: R)) ((A.length : Int) + 1) true
    else kn (M (A.reverse ++ p :: c :: q :: R)) ((A.length : Int) + 1)
   else kn (M (A.reverse ++ p :: c :: q :: R)) ((A.length : Int) + 1) := by
 have hAl : (M A.reverse).length = A.length := by rw [M_length, List.length_reverse]
 have z1 := enc_size_le p.2
 have z2 := enc_size_le c.2
 have z3 := enc_size_le q.2
 obtain ⟨X, hX⟩ : ∃ X, X = M (A.reverse ++ p :: c :: q :: R) := ⟨_, rfl⟩
 have hX1 : X = M A.reverse ++ (p.1, enc p.2) :: (c.1, enc c.2) :: (q.1, enc q.2) :: M R := by rw [hX, M_append]; rfl
 have hXl : X.length = A.length + 3 + R.length := by rw [hX, M_length]; simp; omega
 have r0 : rd X (A.length : Int) ((0 : Int), (⟨#[]⟩ : ByteArray)) = (p.1, enc p.2) := by rw [hX1]; exact rd_mid (by omega)
 have r1 : rd X ((A.length : Int) + 1) ((0 : Int), (⟨#[]⟩ : ByteArray)) = (c.1, enc c.2) := by
  rw [hX1, show M A.reverse ++ (p.1, enc p.2) :: (c.1, enc c.2) :: (q.1, enc q.2) :: M R = (M A.reverse ++ [(p.1, enc p.2)]) ++ (c.1, enc c.2) :: (q.1, enc q.2) :: M R by simp]
  exact rd_mid (by simp; omega)
 have r2 : rd X ((A.length : Int) + 2) ((0 : Int), (⟨#[]⟩ : ByteArray)) = (q.1, enc q.2) := by
  rw [hX1, show M A.reverse ++ (p.1, enc p.2) :: (c.1, enc c.2) :: (q.1, enc q.2) :: M R = (M A.reverse ++ [(p.1, enc p.2), (c.1, enc c.2)]) ++ (q.1, enc q.2) :: M R by simp]
  exact rd_mid (by simp; omega)
 have k1 : cut X 0 (A.length : Int) = M A.reverse := by rw [cut_take, hX1, Int.toNat_natCast, List.take_left' hAl]
 have k2 : cut X ((A.length : Int) + 3) (X.length : Int) = M R := by
  rw [cut_to _ _ _ (by omega), hX1, show M A.reverse ++ (p.1, enc p.2) :: (c.1, enc c.2) :: (q.1, enc q.2) :: M R = (M A.reverse ++ [(p.1, enc p.2), (c.1, enc c.2), (q.1, enc q.2)]) ++ M R by simp]
  exact List.drop_left' (by simp; omega)
 have w1 : w64 ((A.length : Int) + 1 - 1) = (A.length : Int) := by rw [w64_id (by omega) (by omega)]; omega
 have w2 : w64 ((A.length : Int) + 1 + 1) = (A.length : Int) + 2 := by rw [w64_id (by omega) (by omega)]; omega
 have w3 : w64 ((A.length : Int) + 1 + 2) = (A.length : Int) + 3 := by rw [w64_id (by omega) (by omega)]; omega
 have hRl := M_length R
 rw [← hX, g27_2]
 simp only [w1, w2, w3, r0, r1, r2, k1, k2]
 rw [bdT (by omega), idx_ok (by omega) (by omega)]
 by_cases h1 : p.1 = 0
 ·rw [biF (by simp [h1]), idx_ok (by omega) (by omega)]
  by_cases h2 : q.1 = 0
  ·rw [biF (by simp [h2]), idx_ok (by omega) (by omega)]
   by_cases h3 : c.1 = 0
   ·rw [biT (by simp [h3]), if_neg (fun h => h.2.2 h3)]
   rw [biF (by simp [h3]), if_pos ⟨h1, h2, h3⟩, idx_ok (by omega) (by omega), idx_ok (by omega) (by omega), idx_ok (by omega) (by omega)]
   by_cases hs0 : p.2 <:+ c.2
   ·obtain ⟨s1, s2⟩ := (suf_enc hc hp0).2 hs0
    have cs := (cut_suffix hs0).1
    have hw : w64 (((enc c.2).size : Int) - ((enc p.2).size : Int)) = ((enc c.2).size : Int) - ((enc p.2).size : Int) := w64_id (by omega) (by omega)
    have ct := enc_size_le (c.2.take (c.2.length - p.2.length))
    rw [List.length_take] at ct
    simp only [hw]
    rw [bdT (by omega), bnd_ok (by omega) (by omega) (by omega), biT (by rw [strEq_eq]; simpa using s2), if_pos hs0, idx_ok (by omega) (by omega), bnd_ok (by omega) (by omega) (by omega), cs, roomy_ok (by omega), roomy_ok (by omega), bnd_ok (by omega) (by omega) (by omega), roomy_ok (by simp [hAl]; omega), roomy_ok (by simp [hAl]; omega), bnd_ok (by omega) (by omega) (by omega), roomy_ok (by simp [hAl, M_length]; omega), ← enc_append, ← enc_append]
    congr 1
    simp [M_append, M_cons, h2]
   rw [if_neg hs0]
   have hcd : (enc (c.2.drop q.2.length)).size ≤ 4 * c.2.length := by
    have := enc_size_le (c.2.drop q.2.length)
    rw [List.length_drop] at this; omega
   by_cases hz0 : ((enc c.2).size : Int) ≥ ((enc p.2).size : Int)
   ·have hw : w64 (((enc c.2).size : Int) - ((enc p.2).size : Int)) = ((enc c.2).size : Int) - ((enc p.2).size : Int) := w64_id (by omega) (by omega)
    simp only [hw]
    rw [bdT hz0, bnd_ok (by omega) (by omega) (by omega), biF (by rw [strEq_eq, decide_eq_false_iff_not]; exact fun h => hs0 ((suf_enc hc hp0).1 ⟨by omega, h⟩))]
    by_cases hp : q.2 <+: c.2
    ·obtain ⟨s1, s2⟩ := (pre_enc hc hq).2 hp
     have cs := (cut_prefix hp).1
     rw [bdT (by omega), bnd_ok (by omega) (by omega) (by omega), biT (by rw [strEq_eq]; simpa using s2), if_pos hp, roomy_ok (by omega), idx_ok (by omega) (by omega), bnd_ok (by omega) (by omega) (by omega), cs, roomy_ok (by omega), bnd_ok (by omega) (by omega) (by omega), roomy_ok (by simp [hAl]; omega), roomy_ok (by simp [hAl]; omega), bnd_ok (by omega) (by omega) (by omega), roomy_ok (by simp [hAl, M_length]; omega), ← enc_append, ← enc_append]
     congr 1
     simp [M_append, M_cons, h1]
    ·rw [if_neg hp]
     by_cases hz : ((enc c.2).size : Int) ≥ ((enc q.2).size : Int)
     ·rw [bdT hz, bnd_ok (by omega) (by omega) (by omega), biF (by rw [strEq_eq, decide_eq_false_iff_not]; exact fun h => hp ((pre_enc hc hq).1 ⟨by omega, h⟩))]
     ·rw [bdF hz]
   ·rw [bdF hz0]
    by_cases hp : q.2 <+: c.2
    ·obtain ⟨s1, s2⟩ := (pre_enc hc hq).2 hp
     have cs := (cut_prefix hp).1
     rw [bdT (by omega), bnd_ok (by omega) (by omega) (by omega), biT (by rw [strEq_eq]; simpa using s2), if_pos hp, roomy_ok (by omega), idx_ok (by omega) (by omega), bnd_ok (by omega) (by omega) (by omega), cs, roomy_ok (by omega), bnd_ok (by omega) (by omega) (by omega), roomy_ok (by simp [hAl]; omega), roomy_ok (by simp [hAl]; omega), bnd_ok (by omega) (by omega) (by omega), roomy_ok (by simp [hAl, M_length]; omega), ← enc_append, ← enc_append]
     congr 1
     simp [M_append, M_cons, h1]
    ·rw [if_neg hp]
     by_cases hz : ((enc c.2).size : Int) ≥ ((enc q.2).size : Int)
     ·rw [bdT hz, bnd_ok (by omega) (by omega) (by omega), biF (by rw [strEq_eq, decide_eq_false_iff_not]; exact fun h => hp ((pre_enc hc hq).1 ⟨by omega, h⟩))]
     ·rw [bdF hz]
  ·rw [biT (by simp [h2]), if_neg (fun h => h2 h.2.1)]
 ·rw [biT (by simp [h1]), if_neg (fun h => h1 h.1)]
theorem slide_loop {β : Type} (n : Nat) (kr : List Prt → Int → Bool → Option β) (kx0 : List Prt → Option β) : ∀ (k : Nat) (A R : List Rp) (m : Nat), R.length = k → k < m → Ok R → A.length + R.length ≤ 1000000 → allR A + allR R ≤ 1000000 →
  g27_5L n kr kx0 m (M (A.reverse ++ R)) ((A.length : Int) + 1) = match hit A R with
   | none => kx0 (M (A.reverse ++ R))
   | some y => kr (M (y.1.reverse ++ y.2)) (y.1.length : Int) true := by
 intro k
 induction k with
 | zero =>
  intro A R m hk hm hR hl ha
  obtain ⟨m, rfl⟩ : ∃ m', m = m' + 1 := ⟨m - 1, by omega⟩
  obtain rfl := List.eq_nil_of_length_eq_zero hk
  rw [g27_5L.eq_2, g27_4, g27_2, bdF (by rw [M_length, w64_id (by omega) (by omega)]; simp; omega)]
  simp [hit]
 | succ k ih =>
  intro A R m hk hm hR hl ha
  obtain ⟨m, rfl⟩ : ∃ m', m = m' + 1 := ⟨m - 1, by omega⟩
  match R, hk, hR, hl, ha with
  | [p], hk, _, hl, _ =>
   rw [g27_5L.eq_2, g27_4, g27_2, bdF (by rw [M_length, w64_id (by simp at hl; omega) (by simp at hl; omega)]; simp; omega)]
   simp [hit]
  | [p, c], hk, _, hl, _ =>
   rw [g27_5L.eq_2, g27_4, g27_2, bdF (by rw [M_length, w64_id (by simp at hl; omega) (by simp at hl; omega)]; simp; omega)]
   simp [hit]
  | p :: c :: q :: R, hk, hR, hl, ha =>
   have ho := hR.of_cons
   have ho2 := ho.2.of_cons
   have ho3 := ho2.2.of_cons
   simp only [List.length_cons] at hk hl
   simp only [allR_cons] at ha
   rw [g27_5L.eq_2, g27_4, slide_at n _ _ _ A R p c q ho.1.2 ho2.1.2 ho3.1.2 (by omega) (by omega), hit]
   have next := ih (p :: A) (c :: q :: R) m (by simp only [List.length_cons]; omega) (by omega) ho.2 (by simp only [List.length_cons]; omega) (by simp only [allR_cons]; omega)
   have skip : (fun x0 v7 => g27_3 n (g27_5L n kr kx0 m) x0 v7) (M (A.reverse ++ p :: c :: q :: R)) ((A.length : Int) + 1) = match hit (p :: A) (c :: q :: R) with
     | none => kx0 (M (A.reverse ++ p :: c :: q :: R))
     | some y => kr (M (y.1.reverse ++ y.2)) (y.1.length : Int) true := by
    show g27_3 n (g27_5L n kr kx0 m) (M (A.reverse ++ p :: c :: q :: R)) ((A.length : Int) + 1) = _
    rw [g27_3, w64_id (by omega) (by omega)]
    have e1 : (p :: A).reverse ++ c :: q :: R = A.reverse ++ p :: c :: q :: R := by simp
    have e2 : (((p :: A).length : Nat) : Int) = (A.length : Int) + 1 := by simp
    rw [e1, e2] at next
    exact next
   by_cases h : p.1 = 0 ∧ q.1 = 0 ∧ c.1 ≠ 0
   ·rw [if_pos h, if_pos h]
    by_cases hs : p.2 <:+ c.2
    ·rw [if_pos hs, if_pos hs]; simp
    ·rw [if_neg hs, if_neg hs]
     by_cases hp : q.2 <+: c.2
     ·rw [if_pos hp, if_pos hp]; simp
     ·rw [if_neg hp, if_neg hp]; exact skip
   ·rw [if_neg h, if_neg h]; exact skip
theorem specSlide_ok (n : Nat) (hn : Big ≤ n) (A R : List Rp) (hR : Ok R) (hl : A.length + R.length ≤ 1000000) (ha : allR A + allR R ≤ 1000000) :
  g27 n (M (A.reverse ++ R)) ((A.length : Int) + 1) = match hit A R with
   | none => some (M (A.reverse ++ R), ((0 : Int), (false, ())))
   | some y => some (M (y.1.reverse ++ y.2), ((y.1.length : Int), (true, ()))) := by
 have hB : (4611686018427387904 : Nat) ≤ n := hn
 dsimp only [g27, g27_8, g27_1, g27_6, g27_5]
 have hm : maxI ((A.length : Int) + 1) 1 = (A.length : Int) + 1 := by unfold maxI; split <;> omega
 rw [hm]
 exact slide_loop n (fun x4 v5 v6 => some (x4, (v5, (v6, ())))) (fun x0 => g27_7 n (fun x4 v5 v6 => some (x4, (v5, (v6, ())))) x0) R.length A R n rfl (by omega) hR hl ha
theorem slides_ok {β : Type} (n : Nat) (hn : Big ≤ n) (kx : List Prt → Bool → Option β) : ∀ (k : Nat) (A R : List Rp) (ch : Bool) (m : Nat), R.length = k → k < m → Ok A → Ok R → NJ R → EqN (A.reverse ++ R) → A.length + R.length ≤ 1000000 → allR A + allR R ≤ 1000000 →
  g15_4L n kx m (M (A.reverse ++ R)) ch ((A.length : Int) + 1) = kx (M (slide A R ch).1) (slide A R ch).2 ∧ EqN (slide A R ch).1 := by
 intro k
 induction k using Nat.strongRecOn with
 | _ k ih =>
  intro A R ch m hk hm hA hR hN hE hl ha
  obtain ⟨m, rfl⟩ : ∃ m', m = m' + 1 := ⟨m - 1, by omega⟩
  have hh := hit_ok k A R hk hA hR hN hE
  have hs := specSlide_ok n hn A R hR hl ha
  rw [g15_4L.eq_2, g15_3]
  cases hc : hit A R with
  | none =>
   rw [hc] at hs
   rw [bind_some' hs, hh.2 hc ch]
   exact ⟨rfl, hE⟩
  | some y =>
   obtain ⟨A', R'⟩ := y
   rw [hc] at hs
   have h := hh.1 A' R' hc
   have h1 := h.lt
   have h2 := h.len
   have h3 := h.all
   rw [bind_some' hs, h.sl ch]
   simp only [Bool.not_true, cond_false]
   rw [w64_id (by omega) (by omega)]
   exact ih R'.length (by omega) A' R' true m rfl (by omega) h.okA h.okR h.nj h.eqn (by omega) (by omega)
theorem rounds_ok {β : Type} (n : Nat) (hn : Big ≤ n) (T : Nat) (hT : T ≤ 20000) (kr : List Prt → Option β) : ∀ (k : Nat) (x : List Rp) (m : Nat), phi x < k → k ≤ m → phi x ≤ 8000 → Ok x → EqN x → (srcR x).length + (tgtR x).length ≤ T →
  g15_9L n kr m (M x) = kr (M (mergeN k x)) := by
 have hB : (4611686018427387904 : Nat) ≤ n := hn
 intro k
 induction k with
 | zero => intro x m h; omega
 | succ k ih =>
  intro x m hk hm hph hx hE ht
  obtain ⟨m, rfl⟩ : ∃ m', m = m' + 1 := ⟨m - 1, by omega⟩
  have hal := all_le (x := x)
  have hlp : x.length ≤ phi x := by unfold phi; omega
  obtain ⟨j1, j2⟩ := joined_ok n hn x hx hE (by omega) (by omega)
  have jt := join1_texts hx.ops
  have jp := phi_join1 hx.ops
  have jal := all_le (x := join1 x)
  rw [jt.1, jt.2] at jal
  have jlp : (join1 x).length ≤ phi (join1 x) := by unfold phi; omega
  obtain ⟨s1, s2⟩ := slides_ok n hn (fun x0 v3 => g15_6 n (g15_9L n kr m) kr x0 v3) (join1 x).length [] (join1 x) false n rfl (by omega) Ok.nil hx.join1 (join1_nj hx.ops) j2 (by simp only [List.length_nil]; omega) (by rw [allR_nil]; omega)
  rw [g15_9L.eq_2]
  unfold g15_8 g15_7 g15_2
  rw [bind_some' j1]
  unfold g15_5 g15_4
  refine Eq.trans s1 ?_
  rw [g15_6, mergeN]
  cases hb : (slide [] (join1 x) false).2 with
  | false => simp
  | true =>
   simp only [Bool.not_true, cond_false, if_true]
   have hp := slide_phi0 hx.ops hb
   have st := slide_texts _ [] (join1 x) false rfl
   simp only [List.reverse_nil, List.nil_append] at st
   exact ih _ m (by omega) (by omega) (by omega) (Ok.slide _ rfl Ok.nil hx.join1) s2 (by rw [st.1, st.2.1, jt.1, jt.2]; exact ht)
theorem merged_ok (n : Nat) (hn : Big ≤ n) (x : List Rp) (hx : Ok x) (hE : EqN x) (hp : phi x ≤ 8000) (ha : allR x ≤ 8000) : g15 n (M x) = some (M (merge x), ()) := by
 have hB : (4611686018427387904 : Nat) ≤ n := hn
 dsimp only [g15, g15_11, g15_1, g15_10, g15_9]
 exact rounds_ok n hn (2 * allR x) (by omega) (fun x2 => some (x2, ())) (phi x + 1) x n (by omega) (by omega) hp hx hE (le_all x)
theorem filled_ok (n : Nat) (hn : Big ≤ n) (x : List Rp) (hl : x.length ≤ 1000000) : g14 n (M x) = some (M (x.filter fun d => !d.2.isEmpty), ()) := by
 have hB : (4611686018427387904 : Nat) ≤ n := hn
 dsimp only [g14, g14_6, g14_1, g14_4, g14_3]
 have hml := M_length x
 have key : ∀ (R X O : List Rp) (m : Nat), x = X ++ R → R.length < m → O.length + R.length ≤ 1000000 →
   g14_3L n (fun x3 => g14_5 n (fun x2 => some (x2, ())) x3) m (M O) (M x) ((M x).length : Int) (X.length : Int) = some (M (O ++ R.filter fun d => !d.2.isEmpty), ()) := by
  intro R
  induction R with
  | nil =>
   intro X O m hX hm _
   obtain ⟨m, rfl⟩ : ∃ m', m = m' + 1 := ⟨m - 1, by simp at hm; omega⟩
   rw [List.append_nil] at hX
   rw [g14_3L.eq_2, g14_2, bdF (by rw [hml, hX]; omega), g14_5]
   simp
  | cons d R ih =>
   intro X O m hX hm hO
   simp only [List.length_cons] at hm hO
   obtain ⟨m, rfl⟩ : ∃ m', m = m' + 1 := ⟨m - 1, by omega⟩
   have hxl : x.length = X.length + (R.length + 1) := by rw [hX]; simp
   have hX' : x = (X ++ [d]) ++ R := by rw [hX]; simp
   have hrd : rd (M x) (X.length : Int) ((0 : Int), (⟨#[]⟩ : ByteArray)) = (d.1, enc d.2) := by rw [hX, M_append]; exact rd_mid (by rw [M_length])
   have hl1 : ((X ++ [d]).length : Int) = (X.length : Int) + 1 := by simp
   rw [g14_3L.eq_2, g14_2, bdT (by rw [hml]; omega), idx_ok (by omega) (by rw [hml]; omega), hrd]
   simp only [rd_zero rfl]
   rw [w64_id (n := (X.length : Int) + 1) (by omega) (by omega)]
   by_cases c : d.2 = []
   ·rw [biF (by rw [strEq_eq]; simpa using enc_emp.2 c)]
    have next := ih (X ++ [d]) O m hX' (by omega) (by omega)
    rw [hl1] at next
    rw [List.filter_cons_of_neg (by simp [c])]
    exact next
   ·rw [biT (by rw [strEq_eq]; simpa using fun h => c (enc_emp.1 h)), roomy_ok (by rw [M_length]; simp; omega)]
    have next := ih (X ++ [d]) (O ++ [d]) m hX' (by omega) (by simp only [List.length_append, List.length_cons, List.length_nil]; omega)
    rw [hl1, M_append] at next
    rw [List.filter_cons_of_pos (by simpa using c)]
    refine Eq.trans next ?_
    simp
 have := key x [] [] n rfl (by omega) (by simp only [List.length_nil]; omega)
 exact this
theorem allR_filter (f : Rp → Bool) : ∀ x : List Rp, allR (x.filter f) ≤ allR x
 | [] => Nat.le_refl _
 | d :: x => by
  have := allR_filter f x
  rw [List.filter_cons, allR_cons]
  split
  ·rw [allR_cons]; omega
  ·omega
theorem FnMergeExact_ok (n : Nat) (hn : Big ≤ n) (l : List Prt) : g4 n l = some (true, ()) := by
 dsimp only [g4, g4_1]
 rcases fits_ok n hn l with ⟨h, hl, hs⟩ | h
 ·rw [h, Option.bind_some]
  rw [show (12 : Int) = ((12 : Nat) : Int) from rfl, parted_ok n hn l hl hs 12 (by omega)]
  simp only [Option.bind_some, Bool.not_true, cond_false]
  obtain ⟨h1, h2, h3⟩ := parts_small 12 (by omega) l
  have hlen := partsOf_length 12 l
  have hf : g14 n ((partsOf 12 l).map emb) = some (M ((partsOf 12 l).filter fun d => !d.2.isEmpty), ()) := filled_ok n hn _ (by omega)
  rw [bind_some' hf]
  simp only
  generalize hx : (partsOf 12 l).filter (fun d => !d.2.isEmpty) = x
  have hox : Ok x := fun d hd => h3 d (List.mem_filter.1 (show d ∈ (partsOf 12 l).filter (fun d => !d.2.isEmpty) by rw [hx]; exact hd)).1
  have hex : EqN x := fun d hd _ => by
   rw [← hx] at hd
   have := (List.mem_filter.1 hd).2
   simpa using this
  have hxl : x.length ≤ 12 := by rw [← hx]; exact Nat.le_trans (List.length_filter_le _ _) hlen
  have hal : allR x ≤ 3000 := by rw [← hx]; exact Nat.le_trans (allR_filter _ _) h2
  have hph : phi x ≤ 3100 := by have := edR_le x; unfold phi; omega
  have hd : g11 n (M x) = some (M (merge x), ()) := dfMerge_ok n hn x hox (by omega) (by omega)
  have hlm : (merge x).length ≤ 1000000000 := by
   have a1 := merge_small hox (by omega) (by omega)
   omega
  rw [bind_some' hd, bind_some' (merged_ok n hn x hox hex (by omega) (by omega))]
  have hsame : g12 n (M (merge x)) (M (merge x)) = some (decide (merge x = merge x), ()) := same_ok n hn _ _ hlm hox.merge hox.merge
  rw [bind_some' hsame]
  simp only [decide_true, cond_true]
  have ho1 : Ok [((1 : Int), [(97 : Int)])] := Ok.cons' ⟨.inr (.inr rfl), fun b hb => by simp only [List.mem_cons, List.not_mem_nil, or_false] at hb; subst hb; decide⟩ Ok.nil
  have hm1 : merge [((1 : Int), [(97 : Int)])] = [((1 : Int), [(97 : Int)])] := by
   simp [merge, mergeN, join1, run1, stepE, chop, slide]
  have hd1 : g11 n [((1 : Int), (⟨#[97]⟩ : ByteArray))] = some (M [((1 : Int), [(97 : Int)])], ()) := by
   have := dfMerge_ok n hn [((1 : Int), [(97 : Int)])] ho1 (by simp [phi, edR]) (by simp [allR])
   rw [hm1] at this
   exact this
  rw [bind_some' hd1]
  rfl
 ·rw [h]; rfl
theorem FnMergeExact_pure (d : DenA g4_A) (hd : GoodA g4_A d) : ∃ n, g4_f n d = some (true, ()) :=
 ⟨Big, FnMergeExact_ok Big (Nat.le_refl _) d.1⟩
end Go.Proofs.YtfnjlgflbenfoaaYF
