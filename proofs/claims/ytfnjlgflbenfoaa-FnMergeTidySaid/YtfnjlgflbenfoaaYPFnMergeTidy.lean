/- Plain statements about the printed functions. -/
import Derived.Test.YtfnjlgflbenfoaaYPQ0
import Derived.Test.YtfnjlgflbenfoaaYGA0
import Derived.Test.YtfnjlgflbenfoaaYGA1
import Derived.Test.YtfnjlgflbenfoaaYFB
namespace Go.Proofs.YtfnjlgflbenfoaaYF
open Go
set_option linter.unusedVariables false
set_option linter.unusedSimpArgs false
def Dj (x : List Rp) : Prop := ∀ d ∈ x, (d.1 = -1 → ∀ b ∈ d.2, 97 ≤ b) ∧ (d.1 = 1 → ∀ b ∈ d.2, b < 97)
theorem Dj.nil : Dj [] := fun d h => by cases h
theorem Dj.cons {d : Rp} {x : List Rp} (h : (d.1 = -1 → ∀ b ∈ d.2, 97 ≤ b) ∧ (d.1 = 1 → ∀ b ∈ d.2, b < 97)) (k : Dj x) : Dj (d :: x) := fun e he => by
 rcases List.mem_cons.1 he with rfl | he
 ·exact h
 ·exact k e he
theorem Dj.of_cons {d : Rp} {x : List Rp} (h : Dj (d :: x)) : ((d.1 = -1 → ∀ b ∈ d.2, 97 ≤ b) ∧ (d.1 = 1 → ∀ b ∈ d.2, b < 97)) ∧ Dj x := ⟨h d (by simp), fun e he => h e (by simp [he])⟩
theorem Dj.append {x y : List Rp} (h : Dj x) (k : Dj y) : Dj (x ++ y) := fun d hd => (List.mem_append.1 hd).elim (h d) (k d)
theorem Dj.reverse {x : List Rp} (h : Dj x) : Dj x.reverse := fun d hd => h d (List.mem_reverse.1 hd)
theorem Dj.eq {t : List Int} {x : List Rp} (k : Dj x) : Dj ((0, t) :: x) := Dj.cons ⟨fun h => absurd h (by simp), fun h => absurd h (by simp)⟩ k
theorem dels_dj : ∀ {P : List Rp}, Dj P → (∀ b ∈ delsR P, 97 ≤ b) ∧ (∀ b ∈ inssR P, b < 97)
 | [], _ => ⟨fun b hb => (by cases hb), fun b hb => (by cases hb)⟩
 | d :: P, h => by
  have ih := dels_dj h.of_cons.2
  have h1 := h.of_cons.1
  unfold delsR inssR
  constructor
  ·intro b hb
   rcases List.mem_append.1 hb with hb | hb
   ·split at hb
    ·rename_i q; exact h1.1 q b hb
    ·cases hb
   ·exact ih.1 b hb
  ·intro b hb
   rcases List.mem_append.1 hb with hb | hb
   ·split at hb
    ·rename_i q; exact h1.2 q b hb
    ·cases hb
   ·exact ih.2 b hb
theorem cpl_dj {x y : List Int} (hx : ∀ b ∈ x, 97 ≤ b) (hy : ∀ b ∈ y, b < 97) : cpl x y = 0 := by
 cases x with
 | nil => simp [cpl]
 | cons a x =>
  cases y with
  | nil => simp [cpl]
  | cons b y =>
   have h1 := hx a (by simp)
   have h2 := hy b (by simp)
   unfold cpl
   rw [if_neg (by omega)]
theorem csl_dj {x y : List Int} (hx : ∀ b ∈ x, 97 ≤ b) (hy : ∀ b ∈ y, b < 97) : csl x y = 0 := cpl_dj (fun b hb => hx b (List.mem_reverse.1 hb)) (fun b hb => hy b (List.mem_reverse.1 hb))
def Fd (x : List Rp) : Prop := Full x ∧ Dj x
theorem edits_dj {A P : List Rp} (hE : Eds P) (hA : Fd A) (hP : Fd P) : Fd (editsR A (delsR P) (inssR P) (cdR P) (ciR P)) := by
 have h1 := dels_dj hP.2
 have h2 := dels_full hP.1
 have c1 := cpl_dj h1.1 h1.2
 have c2 := csl_dj h1.1 h1.2
 have kD : ∀ {B : List Rp}, Fd B → cdR P ≠ 0 → Fd ((-1, delsR P) :: B) := fun hB h => ⟨Full.cons (h2.1 h) hB.1, Dj.cons ⟨fun _ => h1.1, fun h => absurd h (by simp)⟩ hB.2⟩
 have kI : ∀ {B : List Rp}, Fd B → ciR P ≠ 0 → Fd ((1, inssR P) :: B) := fun hB h => ⟨Full.cons (h2.2 h) hB.1, Dj.cons ⟨fun h => absurd h (by simp), fun _ => h1.2⟩ hB.2⟩
 unfold editsR
 rw [c1]
 simp only [List.drop_zero, List.take_zero]
 rw [c2]
 simp only [Nat.sub_zero, List.take_length, List.drop_length, keepR_nil]
 split
 ·rename_i h; exact kI (kD hA (by omega)) (by omega)
 ·split
  ·exact kD hA (by omega)
  ·split
   ·exact kI hA (by omega)
   ·exact hA
theorem keep_dj {A : List Rp} {t : List Int} (hA : Fd A) : Fd (keepR A t) := by
 unfold keepR
 split
 ·exact hA
 ·rename_i ht
  match A, hA with
  | [], _ => exact ⟨Full.cons ht Full.nil, Dj.nil.eq⟩
  | (k, s) :: A, hA =>
   rw [pushE_cons]
   split
   ·exact ⟨Full.cons (by simp [ht]) hA.1.of_cons.2, hA.2.of_cons.2.eq⟩
   ·exact ⟨Full.cons ht hA.1, hA.2.eq⟩
theorem run1_dj : ∀ (R A P : List Rp), Eds P → Ops R → Fd A → Fd P → Fd R → Fd (run1 A P R).1 ∧ Fd (run1 A P R).2 ∧ Eds (run1 A P R).2
 | [], A, P, hE, _, hA, hP, _ => ⟨hA, hP, hE⟩
 | d :: R, A, P, hE, hO, hA, hP, hR => by
  have ho := hO.cons
  have h1 := hR.1.of_cons
  have h2 := hR.2.of_cons
  rw [run1]
  split
  ·rename_i h0
   have := keep_dj (t := d.2) (edits_dj hE hA hP)
   rw [step_eq hE h1.1] at this
   exact run1_dj R _ [] Eds.nil ho.2 this ⟨Full.nil, Dj.nil⟩ ⟨h1.2, h2.2⟩
  ·rename_i h0
   exact run1_dj R A (P ++ [d]) (hE.snoc ho.1 h0) ho.2 hA ⟨hP.1.append (Full.cons h1.1 Full.nil), hP.2.append (Dj.cons h2.1 Dj.nil)⟩ ⟨h1.2, h2.2⟩
theorem Full.eqN {x : List Rp} (h : Full x) : EqN x := fun d hd _ => h d hd
theorem join1_dj {x : List Rp} (ho : Ops x) (h : Fd x) : Fd (join1 x) := by
 obtain ⟨h1, h2, h3⟩ := run1_dj x [] [] Eds.nil ho ⟨Full.nil, Dj.nil⟩ ⟨Full.nil, Dj.nil⟩ h
 have := edits_dj h3 h1 h2
 rw [last_eq h3 h1.1.eqN] at this
 unfold join1
 exact ⟨this.1.reverse, this.2.reverse⟩
theorem slide_dj : ∀ (k : Nat) (A R : List Rp) (ch : Bool), R.length = k → Dj A → Dj R → Dj (slide A R ch).1 := by
 intro k
 induction k using Nat.strongRecOn with
 | _ k ih =>
  intro A R ch hk hA hR
  match R, hk, hR with
  | [], _, hR => unfold slide; exact hA.reverse.append hR
  | [a], _, hR => unfold slide; exact hA.reverse.append hR
  | [a, b], _, hR => unfold slide; exact hA.reverse.append hR
  | p :: c :: q :: R, hk, hR =>
   have h1 := hR.of_cons
   have h2 := h1.2.of_cons
   have h3 := h2.2.of_cons
   simp only [List.length_cons] at hk
   unfold slide
   split
   ·rename_i h0
    split
    ·rename_i hs
     have hm : ∀ b ∈ p.2 ++ c.2.take (c.2.length - p.2.length), b ∈ c.2 := fun b hb => (List.mem_append.1 hb).elim (fun h => hs.subset h) (fun h => List.mem_of_mem_take h)
     exact ih _ (by simp only [List.length_cons]; omega) _ _ _ rfl (Dj.cons ⟨fun h b hb => h2.1.1 h b (hm b hb), fun h b hb => h2.1.2 h b (hm b hb)⟩ hA) (Dj.cons ⟨fun h => absurd (h0.2 ▸ h) (by simp), fun h => absurd (h0.2 ▸ h) (by simp)⟩ h3.2)
    ·split
     ·rename_i hp
      have hm : ∀ b ∈ c.2.drop q.2.length ++ q.2, b ∈ c.2 := fun b hb => (List.mem_append.1 hb).elim (fun h => List.mem_of_mem_drop h) (fun h => hp.subset h)
      exact ih _ (by simp only [List.length_cons]; omega) _ _ _ rfl (Dj.cons ⟨fun h => absurd (h0.1 ▸ h) (by simp), fun h => absurd (h0.1 ▸ h) (by simp)⟩ hA) (Dj.cons ⟨fun h b hb => h2.1.1 h b (hm b hb), fun h b hb => h2.1.2 h b (hm b hb)⟩ h3.2)
     ·exact ih _ (by simp only [List.length_cons]; omega) _ _ _ rfl (Dj.cons h1.1 hA) h1.2
   ·exact ih _ (by simp only [List.length_cons]; omega) _ _ _ rfl (Dj.cons h1.1 hA) h1.2
theorem merge_end_dj : ∀ (k : Nat) {x : List Rp}, Ok x → Fd x → phi x < k → ∃ z, Ok z ∧ Fd z ∧ mergeN k x = join1 z ∧ (slide [] (join1 z) false).2 = false
 | 0, x, _, _, h => by omega
 | k + 1, x, hx, hf, hk => by
  have hj := join1_dj hx.ops hf
  rw [mergeN]
  split
  ·rename_i h
   have := slide_phi0 hx.ops h
   exact merge_end_dj k (Ok.slide _ rfl Ok.nil hx.join1) ⟨slide_full _ [] (join1 x) false rfl Full.nil hj.1, slide_dj _ [] (join1 x) false rfl Dj.nil hj.2⟩ (by omega)
  ·rename_i h
   have h : (slide [] (join1 x) false).2 = false := by simpa using h
   exact ⟨x, hx, hf, by rw [(slide_still _ [] (join1 x) rfl).2 h]; rfl, h⟩
theorem join1_nbs {z : List Rp} (oz : Ok z) : Nbs (join1 z) := by
 have h1 := phi_run1 z [] [] Eds.nil oz.ops
 have hB := NA.stepE (A := (run1 [] [] z).1) (P := (run1 [] [] z).2) [] (NA.run1 z [] [] NA.nil Eds.nil oz.ops) h1.2
 have hn := hB.nbr
 unfold join1
 apply Nbr.reverse
 generalize stepE (run1 [] [] z).1 (run1 [] [] z).2 [] = C at hn
 cases C with
 | nil => trivial
 | cons d C =>
  obtain ⟨k, s⟩ := d
  rw [chop_cons]
  split
  ·exact hn.tail
  ·exact hn
theorem merge_len {x : List Rp} (hx : Ok x) : (merge x).length ≤ phi x ∧ allR (merge x) ≤ 2 * allR x := by
 have h3 : ∀ (k : Nat) {y : List Rp}, Ok y → phi (mergeN k y) ≤ phi y := by
  intro k
  induction k with
  | zero => intro y hy; exact Nat.le_refl _
  | succ k ih =>
   intro y hy
   have hj := phi_join1 hy.ops
   have hs := phi_slide _ [] (join1 y) false rfl
   have h0 : phi [] = 0 := rfl
   rw [mergeN]
   split
   ·have := ih (Ok.slide _ rfl Ok.nil hy.join1) (y := (slide [] (join1 y) false).1)
    omega
   ·omega
 have h1 := h3 (phi x + 1) hx
 have h2 : (merge x).length ≤ phi (merge x) := by unfold phi; omega
 have h4 := merge_texts hx
 have h5 := all_le (x := merge x)
 rw [h4.1, h4.2.1] at h5
 have h6 := le_all x
 exact ⟨Nat.le_trans h2 h1, by omega⟩
theorem slid_at {β : Type} (n : Nat) (kn : List Prt → Int → Option β) (kr : Bool → Option β) (kx0 : Option β) (A R : List Rp) (p c q : Rp) (hp0 : Valids p.2) (hc : Valids c.2) (hq : Valids q.2) (hl : A.length + R.length ≤ 1000000) (hs : p.2.length + c.2.length + q.2.length ≤ 1000000)
  (h : p.1 = 0 → q.1 = 0 → c.1 ≠ 0 → ¬ p.2 <:+ c.2 ∧ ¬ q.2 <+: c.2) :
  g19_2 n kn kr kx0 (M (A.reverse ++ p :: c :: q :: R)) ((A.length : Int) + 1) = kn (M (A.reverse ++ p :: c :: q :: R)) ((A.length : Int) + 1) := by
 have hAl : (M A.reverse).length = A.length := by rw [M_length, List.length_reverse]
 have z1 := enc_size_le p.2
 have z2 := enc_size_le c.2
 have z3 := enc_size_le q.2
 obtain ⟨X, hX⟩ : ∃ X, X = M (A.reverse ++ p :: c :: q :: R) := ⟨_, rfl⟩
 have hX1 : X = M A.reverse ++ (p.1, enc p.2) :: (c.1, enc c.2) :: (q.1, enc q.2) :: M R := by rw [hX, M_append]; rfl
 have hXl : X.length = A.length + 3 + R.length := by rw [hX, M_length]; simp; omega
 have r0 : rd X (A.length : Int) ((0 : Int), (⟨#[]⟩ : ByteArray)) = (p.1, enc p.2) := by rw [hX1]; exact rd_mid (by omega)
 have r1 : rd X ((A.length : Int) + 1) ((0 : Int), (⟨#[]⟩ : ByteArray)) = (c.1, enc c.2) := by
  rw [hX1, show M A.reverse ++ (p.1, enc p.2) :: (c.1, enc c.2) :: (q.1, enc q.2) :: M R = (M A.reverse ++ [(p.1, enc p.2)]) ++ (c.1, enc c.2) :: (q.1, enc q.2) :: M R by simp]
  exact rd_mid (by simp; omega)
 have r2 : rd X ((A.length : Int) + 2) ((0 : Int), (⟨#[]⟩ : ByteArray)) = (q.1, enc q.2) := by
  rw [hX1, show M A.reverse ++ (p.1, enc p.2) :: (c.1, enc c.2) :: (q.1, enc q.2) :: M R = (M A.reverse ++ [(p.1, enc p.2), (c.1, enc c.2)]) ++ (q.1, enc q.2) :: M R by simp]
  exact rd_mid (by simp; omega)
 have w1 : w64 ((A.length : Int) + 1 - 1) = (A.length : Int) := by rw [w64_id (by omega) (by omega)]; omega
 have w2 : w64 ((A.length : Int) + 1 + 1) = (A.length : Int) + 2 := by rw [w64_id (by omega) (by omega)]; omega
 rw [← hX, g19_2]
 simp only [w1, w2, r0, r1, r2]
 rw [bdT (by omega), idx_ok (by omega) (by omega)]
 by_cases h1 : p.1 = 0
 ·rw [biF (by simp [h1]), idx_ok (by omega) (by omega)]
  by_cases h2 : q.1 = 0
  ·rw [biF (by simp [h2]), idx_ok (by omega) (by omega)]
   by_cases h3 : c.1 = 0
   ·rw [biT (by simp [h3])]
   obtain ⟨hs1, hp1⟩ := h h1 h2 h3
   rw [biF (by simp [h3]), idx_ok (by omega) (by omega), idx_ok (by omega) (by omega), idx_ok (by omega) (by omega)]
   by_cases hz0 : ((enc c.2).size : Int) ≥ ((enc p.2).size : Int)
   ·have hw : w64 (((enc c.2).size : Int) - ((enc p.2).size : Int)) = ((enc c.2).size : Int) - ((enc p.2).size : Int) := w64_id (by omega) (by omega)
    simp only [hw]
    rw [bdT hz0, bnd_ok (by omega) (by omega) (by omega), biF (by rw [strEq_eq, decide_eq_false_iff_not]; exact fun h' => hs1 ((suf_enc hc hp0).1 ⟨by omega, h'⟩))]
    by_cases hz : ((enc c.2).size : Int) ≥ ((enc q.2).size : Int)
    ·rw [bdT hz, bnd_ok (by omega) (by omega) (by omega), biF (by rw [strEq_eq, decide_eq_false_iff_not]; exact fun h' => hp1 ((pre_enc hc hq).1 ⟨by omega, h'⟩))]
    ·rw [bdF hz]
   ·rw [bdF hz0]
    by_cases hz : ((enc c.2).size : Int) ≥ ((enc q.2).size : Int)
    ·rw [bdT hz, bnd_ok (by omega) (by omega) (by omega), biF (by rw [strEq_eq, decide_eq_false_iff_not]; exact fun h' => hp1 ((pre_enc hc hq).1 ⟨by omega, h'⟩))]
    ·rw [bdF hz]
  ·rw [biT (by simp [h2])]
 ·rw [biT (by simp [h1])]
theorem slid_loop {β : Type} (n : Nat) (kr : Bool → Option β) (kx0 : Option β) : ∀ (k : Nat) (A R : List Rp) (m : Nat), R.length = k → k < m → Ok R → A.length + R.length ≤ 1000000 → allR A + allR R ≤ 1000000 → hit A R = none →
  g19_5L n kr kx0 m (M (A.reverse ++ R)) ((A.length : Int) + 1) = kx0 := by
 intro k
 induction k with
 | zero =>
  intro A R m hk hm hR hl ha _
  obtain ⟨m, rfl⟩ : ∃ m', m = m' + 1 := ⟨m - 1, by omega⟩
  obtain rfl := List.eq_nil_of_length_eq_zero hk
  rw [g19_5L.eq_2, g19_4, g19_2, bdF (by rw [M_length, w64_id (by omega) (by omega)]; simp; omega)]
 | succ k ih =>
  intro A R m hk hm hR hl ha hh
  obtain ⟨m, rfl⟩ : ∃ m', m = m' + 1 := ⟨m - 1, by omega⟩
  match R, hk, hR, hl, ha, hh with
  | [p], hk, _, hl, _, _ =>
   rw [g19_5L.eq_2, g19_4, g19_2, bdF (by rw [M_length, w64_id (by simp at hl; omega) (by simp at hl; omega)]; simp; omega)]
  | [p, c], hk, _, hl, _, _ =>
   rw [g19_5L.eq_2, g19_4, g19_2, bdF (by rw [M_length, w64_id (by simp at hl; omega) (by simp at hl; omega)]; simp; omega)]
  | p :: c :: q :: R, hk, hR, hl, ha, hh =>
   have ho := hR.of_cons
   have ho2 := ho.2.of_cons
   have ho3 := ho2.2.of_cons
   simp only [List.length_cons] at hk hl
   simp only [allR_cons] at ha
   rw [hit] at hh
   have hcond : p.1 = 0 → q.1 = 0 → c.1 ≠ 0 → ¬ p.2 <:+ c.2 ∧ ¬ q.2 <+: c.2 := fun a1 a2 a3 => by
    rw [if_pos ⟨a1, a2, a3⟩] at hh
    refine ⟨fun hs => by rw [if_pos hs] at hh; simp at hh, fun hp => ?_⟩
    by_cases hs : p.2 <:+ c.2
    ·rw [if_pos hs] at hh; simp at hh
    ·rw [if_neg hs, if_pos hp] at hh; simp at hh
   have hnext : hit (p :: A) (c :: q :: R) = none := by
    by_cases a : p.1 = 0 ∧ q.1 = 0 ∧ c.1 ≠ 0
    ·have := hcond a.1 a.2.1 a.2.2
     rw [if_pos a, if_neg this.1, if_neg this.2] at hh
     exact hh
    ·rw [if_neg a] at hh; exact hh
   rw [g19_5L.eq_2, g19_4, slid_at n _ _ _ A R p c q ho.1.2 ho2.1.2 ho3.1.2 (by omega) (by omega) hcond]
   have next := ih (p :: A) (c :: q :: R) m (by simp only [List.length_cons]; omega) (by omega) ho.2 (by simp only [List.length_cons]; omega) (by simp only [allR_cons]; omega) hnext
   rw [g19_3, w64_id (by omega) (by omega)]
   have e1 : (p :: A).reverse ++ c :: q :: R = A.reverse ++ p :: c :: q :: R := by simp
   have e2 : (((p :: A).length : Nat) : Int) = (A.length : Int) + 1 := by simp
   rw [e1, e2] at next
   exact next
theorem slid_ok (n : Nat) (hn : Big ≤ n) (x : List Rp) (hx : Ok x) (hl : x.length ≤ 1000000) (ha : allR x ≤ 1000000) (hh : hit [] x = none) : g19 n (M x) = some (true, ()) := by
 have hB : (4611686018427387904 : Nat) ≤ n := hn
 dsimp only [g19, g19_8, g19_1, g19_6, g19_5]
 exact slid_loop n (fun v2 => some (v2, ())) (g19_7 n (fun v2 => some (v2, ()))) x.length [] x n rfl (by omega) hx (by simp only [List.length_nil]; omega) (by rw [allR_nil]; omega) hh
def dby (k c : Int) : Int := if k = 1 then 65 + c.tmod 4 else if k = 0 then (if c.tmod 8 > 3 then 65 + c.tmod 4 else 97 + c.tmod 4) else 97 + c.tmod 4
def dtx (d : Rp) : Rp := (d.1, (bytesOf (enc d.2)).map (dby d.1))
theorem dby_range {k c : Int} (h : 0 ≤ c) : 65 ≤ dby k c ∧ dby k c < 101 ∧ (k = -1 → 97 ≤ dby k c) ∧ (k = 1 → dby k c < 97) := by
 have h1 := Int.tmod_nonneg 4 h
 have h2 := Int.tmod_lt_of_pos c (show (0 : Int) < 4 by omega)
 unfold dby
 split
 ·refine ⟨by omega, by omega, fun _ => by omega, fun _ => by omega⟩
 ·split
  ·split <;> refine ⟨by omega, by omega, fun _ => by omega, fun _ => by omega⟩
  ·refine ⟨by omega, by omega, fun _ => by omega, fun _ => by omega⟩
theorem dtx_asc (d : Rp) : Asc (dtx d).2 := fun b hb => by
 obtain ⟨c, hc, rfl⟩ := List.mem_map.1 hb
 have := dby_range (k := d.1) (bytesOf_range c hc).1
 omega
theorem dtx_len (d : Rp) : (dtx d).2.length = (enc d.2).size := by unfold dtx; rw [List.length_map, bytesOf_length]
theorem bytes_loop {β : Type} (n : Nat) (hn : Big ≤ n) (κ : List Prt → Prt → List Int → List Prt → Int → Int → Option β) (x3 : List Prt) (p5 : Prt) (x10 : List Prt) (v11 v12 : Int) (L : List Int) (hL : ∀ b ∈ L, 0 ≤ b ∧ b < 256) (hl : L.length ≤ 1000000) :
  g17_7L n κ n x3 p5 L x10 v11 v12 (L.length : Int) 0 = κ x3 p5 (L.map (dby p5.1)) x10 v11 v12 := by
 have key : ∀ (R X : List Int) (m : Nat), L = X ++ R → R.length < m → g17_7L n κ m x3 p5 (X.map (dby p5.1) ++ R) x10 v11 v12 (L.length : Int) (X.length : Int) = κ x3 p5 (L.map (dby p5.1)) x10 v11 v12 := by
  intro R
  induction R with
  | nil =>
   intro X m hX hm
   obtain ⟨m, rfl⟩ : ∃ m', m = m' + 1 := ⟨m - 1, by simp at hm; omega⟩
   rw [List.append_nil] at hX
   subst hX
   rw [g17_7L.eq_2, g17_6, g17_4, bdF (by omega), List.append_nil]
  | cons c R ih =>
   intro X m hX hm
   simp only [List.length_cons] at hm
   obtain ⟨m, rfl⟩ : ∃ m', m = m' + 1 := ⟨m - 1, by omega⟩
   have hc := hL c (by rw [hX]; simp)
   have hll : L.length = X.length + (R.length + 1) := by rw [hX]; simp
   have hml : (X.map (dby p5.1)).length = X.length := List.length_map _
   have hlen : ((X.map (dby p5.1) ++ c :: R).length : Int) = (L.length : Int) := by simp; omega
   have h1 := Int.tmod_nonneg 4 hc.1
   have h2 := Int.tmod_lt_of_pos c (show (0 : Int) < 4 by omega)
   have hrd : rd (X.map (dby p5.1) ++ c :: R) (X.length : Int) (0 : Int) = c := rd_mid (by omega)
   have hset : ∀ v w : Int, (X.map (dby p5.1) ++ v :: R).set ((X.length : Int)).toNat w = X.map (dby p5.1) ++ w :: R := fun v w => set_mid (by omega)
   have hlen2 : ∀ v : Int, ((X.map (dby p5.1) ++ v :: R).length : Int) = (L.length : Int) := fun v => by simp; omega
   have next := ih (X ++ [c]) m (by rw [hX]; simp) (by omega)
   rw [List.map_append, show (X ++ [c]).length = X.length + 1 by simp] at next
   simp only [List.map_cons, List.map_nil, List.append_assoc, List.cons_append, List.nil_append] at next
   rw [g17_7L.eq_2, g17_6, g17_4, bdT (by omega), idx_ok (by omega) (by omega)]
   simp only [hrd, hset, hlen2]
   rw [wu8_id (n := 97 + c.tmod 4) (by omega) (by omega), wu8_id (n := 65 + c.tmod 4) (by omega) (by omega)]
   unfold dby at next
   have fin : ∀ v : Int, g17_7L n κ m x3 p5 (X.map (dby p5.1) ++ v :: R) x10 v11 v12 (L.length : Int) ((X.length + 1 : Nat) : Int) = κ x3 p5 (L.map (dby p5.1)) x10 v11 v12 → g17_5 n (g17_7L n κ m) x3 p5 (X.map (dby p5.1) ++ v :: R) x10 v11 v12 (L.length : Int) (X.length : Int) = κ x3 p5 (L.map (dby p5.1)) x10 v11 v12 := fun v h => by
    rw [g17_5, w64_id (by omega) (by omega)]
    exact h
   have hdb : ∀ v : Int, v = dby p5.1 c → g17_7L n κ m x3 p5 (X.map (dby p5.1) ++ v :: R) x10 v11 v12 (L.length : Int) ((X.length + 1 : Nat) : Int) = κ x3 p5 (L.map (dby p5.1)) x10 v11 v12 := fun v hv => by
    rw [hv]
    have := ih (X ++ [c]) m (by rw [hX]; simp) (by omega)
    rw [List.map_append, show (X ++ [c]).length = X.length + 1 by simp] at this
    simpa using this
   by_cases k1 : p5.1 = 1
   ·rw [biT (by rw [k1]; rfl), idx_ok (by omega) (by omega), idx_ok (by omega) (by omega)]
    exact fin _ (hdb _ (by unfold dby; rw [if_pos k1]))
   ·rw [biF (by rw [beq_eq_false_iff_ne]; exact k1)]
    by_cases k0 : p5.1 = 0
    ·rw [biT (by rw [k0]; rfl), idx_ok (by omega) (by omega)]
     by_cases k8 : c.tmod 8 > 3
     ·rw [bdT k8, idx_ok (by omega) (by omega)]
      exact fin _ (hdb _ (by unfold dby; rw [if_neg k1, if_pos k0, if_pos k8]))
     ·rw [bdF k8]
      exact fin _ (hdb _ (by unfold dby; rw [if_neg k1, if_pos k0, if_neg k8]))
    ·rw [biF (by rw [beq_eq_false_iff_ne]; exact k0), idx_ok (by omega) (by omega)]
     exact fin _ (hdb _ (by unfold dby; rw [if_neg k1, if_neg k0]))
 exact key L [] n rfl (by unfold Big at hn; omega)
theorem distinct_ok (n : Nat) (hn : Big ≤ n) (x : List Rp) (hl : x.length ≤ 1000) (ha : allR x ≤ 10000) : g17 n (M x) = some (M (x.map dtx), ()) := by
 have hB : (4611686018427387904 : Nat) ≤ n := hn
 dsimp only [g17, g17_17, g17_1, g17_15, g17_14]
 have hml := M_length x
 have key : ∀ (R X : List Rp) (m : Nat), x = X ++ R → R.length < m → g17_14L n (fun x3 => g17_16 n (fun x2 => some (x2, ())) x3) m (M (X.map dtx)) (M x) ((M x).length : Int) (X.length : Int) = some (M (x.map dtx), ()) := by
  intro R
  induction R with
  | nil =>
   intro X m hX hm
   obtain ⟨m, rfl⟩ : ∃ m', m = m' + 1 := ⟨m - 1, by simp at hm; omega⟩
   rw [List.append_nil] at hX
   subst hX
   rw [g17_14L.eq_2, g17_13, g17_2, bdF (by omega)]
   rfl
  | cons d R ih =>
   intro X m hX hm
   simp only [List.length_cons] at hm
   obtain ⟨m, rfl⟩ : ∃ m', m = m' + 1 := ⟨m - 1, by omega⟩
   have hxlen : x.length = X.length + (R.length + 1) := by rw [hX]; simp
   have hrd : rd (M x) (X.length : Int) ((0 : Int), (⟨#[]⟩ : ByteArray)) = (d.1, enc d.2) := by rw [hX, M_append]; exact rd_mid (by rw [M_length])
   have hdl : d.2.length ≤ 10000 := Nat.le_trans (allR_mem (l := x) (by rw [hX]; simp)) ha
   have z1 := enc_size_le d.2
   have z2 := bytesOf_length (enc d.2)
   have next := ih (X ++ [d]) m (by rw [hX]; simp) (by omega)
   rw [List.map_append, M_append, show (X ++ [d]).length = X.length + 1 by simp] at next
   rw [g17_14L.eq_2, g17_13, g17_2, bdT (by omega)]
   unfold g17_11 g17_10 g17_3
   rw [idx_ok (by omega) (by omega), hrd]
   simp only [rd_zero rfl]
   unfold g17_8 g17_7
   rw [bytes_loop n hn _ _ _ _ _ _ (bytesOf (enc d.2)) bytesOf_range (by omega)]
   unfold g17_9
   have hnl : (M (X.map dtx)).length = X.length := by rw [M_length, List.length_map]
   rw [roomy_ok (by rw [hnl]; simp; omega)]
   unfold g17_12
   dsimp only
   rw [w64_id (by omega) (by omega)]
   have he : strOfNums ((bytesOf (enc d.2)).map (dby d.1)) = enc (dtx d).2 := (dtx_asc d).eq
   rw [he]
   exact next
 exact key x [] n rfl (by omega)
theorem FnMergeTidy_ok (n : Nat) (hn : Big ≤ n) (l : List Prt) : g8 n l = some (true, ()) := by
 dsimp only [g8, g8_1]
 rcases fits_ok n hn l with ⟨h, hl, hs⟩ | h
 ·rw [h, Option.bind_some]
  rw [show (12 : Int) = ((12 : Nat) : Int) from rfl, parted_ok n hn l hl hs 12 (by omega)]
  simp only [Option.bind_some, Bool.not_true, cond_false]
  obtain ⟨h1, h2, h3⟩ := parts_small 12 (by omega) l
  have hlen := partsOf_length 12 l
  have hf : g14 n ((partsOf 12 l).map emb) = some (M ((partsOf 12 l).filter fun d => !d.2.isEmpty), ()) := filled_ok n hn _ (by omega)
  rw [bind_some' hf]
  simp only
  generalize hx : (partsOf 12 l).filter (fun d => !d.2.isEmpty) = x
  have hox : Ok x := fun d hd => h3 d (List.mem_filter.1 (show d ∈ (partsOf 12 l).filter (fun d => !d.2.isEmpty) by rw [hx]; exact hd)).1
  have hfx : Full x := fun d hd => by
   rw [← hx] at hd
   have := (List.mem_filter.1 hd).2
   simpa using this
  have hxl : x.length ≤ 12 := by rw [← hx]; exact Nat.le_trans (List.length_filter_le _ _) hlen
  have hal : allR x ≤ 3000 := by rw [← hx]; exact Nat.le_trans (allR_filter _ _) h2
  rw [bind_some' (distinct_ok n hn x (by omega) (by omega))]
  simp only
  have oky : Ok (x.map dtx) := fun d hd => by
   obtain ⟨e, he, rfl⟩ := List.mem_map.1 hd
   exact ⟨(hox e he).1, (dtx_asc e).valids⟩
  have fdy : Fd (x.map dtx) := by
   constructor
   ·intro d hd
    obtain ⟨e, he, rfl⟩ := List.mem_map.1 hd
    intro h0
    have := congrArg List.length h0
    rw [dtx_len, List.length_nil] at this
    exact hfx e he (enc_size_zero.1 this)
   ·intro d hd
    obtain ⟨e, he, rfl⟩ := List.mem_map.1 hd
    constructor
    ·intro h0 b hb
     obtain ⟨c, hc, rfl⟩ := List.mem_map.1 hb
     exact (dby_range (bytesOf_range c hc).1).2.2.1 h0
    ·intro h0 b hb
     obtain ⟨c, hc, rfl⟩ := List.mem_map.1 hb
     exact (dby_range (bytesOf_range c hc).1).2.2.2 h0
  have hyl : (x.map dtx).length ≤ 12 := by rw [List.length_map]; exact hxl
  have hya : ∀ x : List Rp, allR (x.map dtx) ≤ 4 * allR x := by
   intro x
   induction x with
   | nil => exact Nat.le_refl _
   | cons d x ih =>
    have := enc_size_le d.2
    rw [List.map_cons, allR_cons, allR_cons, dtx_len]; omega
  have hya := hya x
  generalize x.map dtx = y at *
  have hph : phi y ≤ 12012 := by have := edR_le y; unfold phi; omega
  have hd : g11 n (M y) = some (M (merge y), ()) := dfMerge_ok n hn y oky (by omega) (by omega)
  rw [bind_some' hd]
  simp only
  obtain ⟨z, oz, fz, ez, sz⟩ := merge_end_dj (phi y + 1) oky fdy (by omega)
  have ez : merge y = join1 z := ez
  obtain ⟨ml, ma⟩ := merge_len oky
  have hmt := merge_texts oky
  have hfull : Full (merge y) := by rw [ez]; exact (join1_dj oz.ops fz).1
  have hnbs : Nbs (merge y) := by rw [ez]; exact join1_nbs oz
  have hhit : hit [] (merge y) = none := by
   rw [ez]
   have hh := hit_ok _ [] (join1 z) rfl Ok.nil oz.join1 (join1_nj oz.ops) (by simpa using (join1_dj oz.ops fz).1.eqN)
   cases hc : hit [] (join1 z) with
   | none => rfl
   | some w =>
    obtain ⟨A', R'⟩ := w
    have := (hh.1 A' R' hc).sl false
    rw [this, (slide_still _ A' R' rfl).1] at sz
    cases sz
  have ht : g18 n (M (merge y)) = some (true, ()) := tidy_ok n hn _ oky.merge hfull hnbs (by omega)
  have hsl : g19 n (M (merge y)) = some (true, ()) := slid_ok n hn _ oky.merge (by omega) (by omega) hhit
  have hk : g13 n (M (merge y)) (M y) = some (true, ()) := kept_ok n hn _ _ oky.merge oky hmt.1 hmt.2.1 (by omega) (by omega) (by omega) (by omega)
  rw [bind_some' ht]
  simp only [cond_true]
  rw [bind_some' hsl]
  simp only [cond_true]
  rw [bind_some' hk]
 ·rw [h]; rfl
theorem FnMergeTidy_pure (d : DenA g8_A) (hd : GoodA g8_A d) : ∃ n, g8_f n d = some (true, ()) :=
 ⟨Big, FnMergeTidy_ok Big (Nat.le_refl _) d.1⟩
end Go.Proofs.YtfnjlgflbenfoaaYF
