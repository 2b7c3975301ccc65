/- Plain statements about the printed functions. -/
import Derived.Test.YtfnjlgflbenfoaaYPQ0
import Derived.Test.YtfnjlgflbenfoaaYGA0
import Derived.Test.YtfnjlgflbenfoaaYFB
namespace Go.Proofs.YtfnjlgflbenfoaaYF
open Go
set_option linter.unusedVariables false
set_option linter.unusedSimpArgs false
def nop (k : Int) : Int := if k = 0 then 1 else k
def nch (k c : Int) : List Int := if k = -1 then [100, 48 + c.tmod 10] else [73, 65 + c.tmod 26]
def ntx (k : Int) (r : List Int) : List Int := r.flatMap (nch k)
def nls (x : List Rp) : List Rp := x.map fun d => (nop d.1, ntx (nop d.1) d.2)
theorem ntx_append (k : Int) (x y : List Int) : ntx k (x ++ y) = ntx k x ++ ntx k y := List.flatMap_append
theorem ntx_one (k c : Int) : ntx k [c] = nch k c := by simp [ntx]
theorem tmod_nat {c : Int} (h : 0 ≤ c) (k : Int) (hk : 0 < k) : 0 ≤ c.tmod k ∧ c.tmod k < k := ⟨Int.tmod_nonneg _ h, Int.tmod_lt_of_pos _ hk⟩
theorem nch_valid (k : Int) {c : Int} (h : Utf8.valid c = true) : Valids (nch k c) := by
 have hc := valid_nonneg h
 have h1 := tmod_nat hc.1 10 (by omega)
 have h2 := tmod_nat hc.1 26 (by omega)
 unfold nch
 split <;> (intro z hz; simp only [List.mem_cons, List.not_mem_nil, or_false] at hz; rcases hz with rfl | rfl <;> (simp [Utf8.valid]; try omega))
theorem ntx_valid (k : Int) {r : List Int} (h : Valids r) : Valids (ntx k r) := fun z hz => by
 obtain ⟨c, hc, hz⟩ := List.mem_flatMap.1 hz
 exact nch_valid k (h c hc) z hz
theorem ntx_length (k : Int) : ∀ r : List Int, (ntx k r).length = 2 * r.length
 | [] => rfl
 | c :: r => by
  have := ntx_length k r
  rw [show c :: r = [c] ++ r from rfl, ntx_append, ntx_one, List.length_append, this]
  unfold nch
  split <;> simp <;> omega
theorem nls_ok {x : List Rp} (h : Ok x) : Ok (nls x) ∧ Eds (nls x) := by
 refine ⟨fun d hd => ?_, fun d hd => ?_⟩ <;> obtain ⟨e, he, rfl⟩ := List.mem_map.1 hd
 ·have := h e he
  refine ⟨?_, ntx_valid _ this.2⟩
  rcases this.1 with q | q | q <;> (simp only [nop, q]; simp)
 ·have := h e he
  rcases this.1 with q | q | q <;> (simp only [nop, q]; simp)
theorem nls_dels : ∀ x : List Rp, ∃ L, delsR (nls x) = ntx (-1) L
 | [] => ⟨[], rfl⟩
 | d :: x => by
  obtain ⟨L, hL⟩ := nls_dels x
  have e : delsR (nls (d :: x)) = (if nop d.1 = -1 then ntx (nop d.1) d.2 else []) ++ delsR (nls x) := rfl
  rw [e, hL]
  by_cases h : nop d.1 = -1
  ·rw [if_pos h, h]; exact ⟨d.2 ++ L, (ntx_append _ _ _).symm⟩
  ·rw [if_neg h]; exact ⟨L, rfl⟩
theorem nls_inss : ∀ {x : List Rp}, Ok x → ∃ L, Valids L ∧ inssR (nls x) = ntx 1 L
 | [], _ => ⟨[], Valids.nil, rfl⟩
 | d :: x, h => by
  obtain ⟨L, hv, hL⟩ := nls_inss h.of_cons.2
  have e : inssR (nls (d :: x)) = (if nop d.1 = 1 then ntx (nop d.1) d.2 else []) ++ inssR (nls x) := rfl
  rw [e, hL]
  by_cases c : nop d.1 = 1
  ·rw [if_pos c, c]; exact ⟨d.2 ++ L, h.of_cons.1.2.append hv, (ntx_append _ _ _).symm⟩
  ·rw [if_neg c]; exact ⟨L, hv, rfl⟩
theorem nls_dels' : ∀ {x : List Rp}, Ok x → ∃ L, Valids L ∧ delsR (nls x) = ntx (-1) L
 | [], _ => ⟨[], Valids.nil, rfl⟩
 | d :: x, h => by
  obtain ⟨L, hv, hL⟩ := nls_dels' h.of_cons.2
  have e : delsR (nls (d :: x)) = (if nop d.1 = -1 then ntx (nop d.1) d.2 else []) ++ delsR (nls x) := rfl
  rw [e, hL]
  by_cases c : nop d.1 = -1
  ·rw [if_pos c, c]; exact ⟨d.2 ++ L, h.of_cons.1.2.append hv, (ntx_append _ _ _).symm⟩
  ·rw [if_neg c]; exact ⟨L, hv, rfl⟩
theorem run1_eds : ∀ (P A Q R : List Rp), Eds P → run1 A Q (P ++ R) = run1 A (Q ++ P) R
 | [], A, Q, R, _ => by simp
 | d :: P, A, Q, R, h => by
  have hd := h d (by simp)
  rw [List.cons_append, run1, if_neg (by omega), run1_eds P A (Q ++ [d]) R fun e he => h e (by simp [he])]
  simp
def wantR (D I : List Int) : List Rp := [((0 : Int), [60])] ++ (if D = [] then [] else [((-1 : Int), D)]) ++ (if I = [] then [] else [((1 : Int), I)]) ++ [((0 : Int), [62])]
theorem ntx_ends (k : Int) {L : List Int} (hv : Valids L) (h : L ≠ []) : (∃ t, ntx k L = (if k = -1 then 100 else 73) :: t) ∧ (∃ u z, ntx k L = u ++ [z] ∧ (if k = -1 then 48 ≤ z ∧ z < 58 else 65 ≤ z ∧ z < 91)) := by
 constructor
 ·cases L with
  | nil => exact absurd rfl h
  | cons c L =>
   rw [show c :: L = [c] ++ L from rfl, ntx_append, ntx_one]
   unfold nch
   split <;> exact ⟨_, rfl⟩
 ·obtain ⟨L', c, rfl⟩ : ∃ L' c, L = L' ++ [c] := ⟨L.dropLast, L.getLast h, (List.dropLast_concat_getLast h).symm⟩
  have hc := valid_nonneg (hv c (by simp))
  have h1 := tmod_nat hc.1 10 (by omega)
  have h2 := tmod_nat hc.1 26 (by omega)
  rw [ntx_append, ntx_one]
  unfold nch
  split
  ·exact ⟨ntx k L' ++ [100], 48 + c.tmod 10, by simp, by omega, by omega⟩
  ·exact ⟨ntx k L' ++ [73], 65 + c.tmod 26, by simp, by omega, by omega⟩
theorem near_merge {P : List Rp} (hP : Eds P) (hF : Full P) (hO : Ok P) (L1 L2 : List Int) (v1 : Valids L1) (v2 : Valids L2) (hD : delsR P = ntx (-1) L1) (hI : inssR P = ntx 1 L2) :
  merge ([((0 : Int), [60])] ++ P ++ [((0 : Int), [62])]) = if delsR P = [] ∧ inssR P = [] then [((0 : Int), [60, 62])] else wantR (delsR P) (inssR P) := by
 have hdf := dels_full hF
 have hd0 : cdR P = 0 → delsR P = [] := dels_nil
 have hi0 : ciR P = 0 → inssR P = [] := inss_nil
 have hcp : cpl (delsR P) (inssR P) = 0 := by
  by_cases c1 : L1 = []
  ·rw [hD, c1]; simp [ntx, cpl]
  ·by_cases c2 : L2 = []
   ·rw [hI, c2, cpl_comm]; simp [ntx, cpl]
   ·obtain ⟨⟨t1, e1⟩, _⟩ := ntx_ends (-1) v1 c1
    obtain ⟨⟨t2, e2⟩, _⟩ := ntx_ends 1 v2 c2
    rw [hD, hI, e1, e2]
    simp [cpl]
 have hcs : csl (delsR P) (inssR P) = 0 := by
  by_cases c1 : L1 = []
  ·rw [hD, c1]; simp [ntx, csl, cpl]
  ·by_cases c2 : L2 = []
   ·rw [hI, c2, csl_comm]; simp [ntx, csl, cpl]
   ·obtain ⟨_, u1, z1, e1, r1⟩ := ntx_ends (-1) v1 c1
    obtain ⟨_, u2, z2, e2, r2⟩ := ntx_ends 1 v2 c2
    rw [if_pos rfl] at r1
    rw [if_neg (by decide)] at r2
    rw [hD, hI, e1, e2]
    unfold csl
    rw [List.reverse_append, List.reverse_append]
    simp only [List.reverse_cons, List.reverse_nil, List.nil_append, List.cons_append, cpl]
    rw [if_neg (by omega)]
 have hx : Ops ([((0 : Int), [60])] ++ P ++ [((0 : Int), [62])]) := fun d hd => by
  simp only [List.mem_append, List.mem_singleton] at hd
  rcases hd with (rfl | hd) | rfl
  ·simp
  ·have := hP d hd; omega
  ·simp
 have hrun : run1 [] [] ([((0 : Int), [60])] ++ P ++ [((0 : Int), [62])]) = (stepE [((0 : Int), [60])] P [62], []) := by
  rw [List.append_assoc, List.cons_append, List.nil_append, run1, if_pos rfl, show stepE [] [] [60] = [((0 : Int), [60])] by simp [stepE, pushE], run1_eds P _ _ _ hP, List.nil_append, run1, if_pos rfl, run1]
 have hst : stepE [((0 : Int), [60])] P [62] = (if delsR P = [] ∧ inssR P = [] then [((0 : Int), [60, 62])] else wantR (delsR P) (inssR P)).reverse := by
  rw [← step_eq hP (by simp)]
  unfold editsR wantR
  by_cases c1 : cdR P = 0
  ·by_cases c2 : ciR P = 0
   ·rw [if_neg (by omega), if_neg (by omega), if_neg (by omega), if_pos ⟨hd0 c1, hi0 c2⟩]; simp [keepR, pushE]
   ·have n2 := hdf.2 c2
    rw [if_neg (by omega), if_neg (by omega), if_pos (by omega), if_neg (fun h => n2 h.2), if_pos (hd0 c1), if_neg n2]; simp [keepR, pushE]
  ·have n1 := hdf.1 c1
   by_cases c2 : ciR P = 0
   ·rw [if_neg (by omega), if_pos (by omega), if_neg (fun h => n1 h.1), if_neg n1, if_pos (hi0 c2)]; simp [keepR, pushE]
   ·have n2 := hdf.2 c2
    rw [if_pos (by omega), if_neg (fun h => n1 h.1), if_neg n1, if_neg n2, hcp]
    simp only [List.drop_zero, List.take_zero]
    rw [hcs]
    simp [keepR, pushE]
 have hj : join1 ([((0 : Int), [60])] ++ P ++ [((0 : Int), [62])]) = if delsR P = [] ∧ inssR P = [] then [((0 : Int), [60, 62])] else wantR (delsR P) (inssR P) := by
  unfold join1
  rw [hrun]
  simp only
  rw [hst]
  by_cases c : delsR P = [] ∧ inssR P = []
  ·rw [if_pos c]; simp [stepE, pushE, chop]
  ·rw [if_neg c]
   unfold wantR
   simp [stepE, pushE, chop]
 unfold merge
 rw [mergeN, hj]
 have hsl : slide [] (if delsR P = [] ∧ inssR P = [] then [((0 : Int), [60, 62])] else wantR (delsR P) (inssR P)) false = (if delsR P = [] ∧ inssR P = [] then [((0 : Int), [60, 62])] else wantR (delsR P) (inssR P), false) := by
  have nl : ∀ (e : Rp), (e.2 = delsR P ∧ delsR P ≠ []) ∨ (e.2 = inssR P ∧ inssR P ≠ []) → ¬ ([60] <:+ e.2) ∧ ¬ ([62] <+: e.2) := by
   intro e he
   have gen : ∀ (k : Int) (L : List Int), Valids L → L ≠ [] → ¬ (([60] : List Int) <:+ ntx k L) ∧ ¬ (([62] : List Int) <+: ntx k L) := by
    intro k L hv hne
    obtain ⟨⟨t, e1⟩, u, z, e2, r⟩ := ntx_ends k hv hne
    constructor
    ·rintro ⟨w, hw⟩
     rw [e2] at hw
     have := (List.append_inj' hw rfl).2
     simp only [List.cons.injEq, and_true] at this
     split at r <;> omega
    ·rintro ⟨w, hw⟩
     rw [e1, List.cons_append] at hw
     have := (List.cons.inj hw).1
     split at this <;> omega
   rcases he with ⟨q1, q2⟩ | ⟨q1, q2⟩
   ·rw [q1, hD]; exact gen _ L1 v1 (fun h => q2 (by rw [hD, h]; rfl))
   ·rw [q1, hI]; exact gen _ L2 v2 (fun h => q2 (by rw [hI, h]; rfl))
  by_cases c : delsR P = [] ∧ inssR P = []
  ·rw [if_pos c]; unfold slide; rfl
  ·rw [if_neg c]
   unfold wantR
   by_cases c1 : delsR P = []
   ·have c2 : inssR P ≠ [] := fun h => c ⟨c1, h⟩
    obtain ⟨a1, a2⟩ := nl (1, inssR P) (.inr ⟨rfl, c2⟩)
    rw [if_pos c1, if_neg c2]
    simp only [List.append_nil, List.cons_append, List.nil_append]
    rw [slide, if_pos ⟨rfl, rfl⟩, if_neg a1, if_neg a2]
    unfold slide; rfl
   ·by_cases c2 : inssR P = []
    ·obtain ⟨a1, a2⟩ := nl (-1, delsR P) (.inl ⟨rfl, c1⟩)
     rw [if_neg c1, if_pos c2]
     simp only [List.append_nil, List.cons_append, List.nil_append]
     rw [slide, if_pos ⟨rfl, rfl⟩, if_neg a1, if_neg a2]
     unfold slide; rfl
    ·rw [if_neg c1, if_neg c2]
     simp only [List.append_nil, List.cons_append, List.nil_append]
     rw [slide, if_neg (by simp), slide, if_neg (by simp)]
     unfold slide; rfl
 rw [hsl]
 simp
theorem text_loop {β : Type} (n : Nat) (hn : Big ≤ n) (κ : ByteArray → ByteArray → List Prt → Prt → ByteArray → List Prt → Int → Int → Option β) (v3 v4 : ByteArray) (x5 : List Prt) (p7 : Prt) (x20 : List Prt) (v21 v22 : Int) (t : List Int) (ht : Valids t) (hl : t.length ≤ 1000000) :
  g6_6L n κ n v3 v4 x5 p7 (⟨#[]⟩ : ByteArray) x20 v21 v22 (enc t) 0 = κ v3 v4 x5 p7 (enc (ntx p7.1 t)) x20 v21 v22 := by
 have key : ∀ (v u : List Int) (m : Nat), t = u ++ v → v.length < m → g6_6L n κ m v3 v4 x5 p7 (enc (ntx p7.1 u)) x20 v21 v22 (enc t) (enc u).size = κ v3 v4 x5 p7 (enc (ntx p7.1 t)) x20 v21 v22 := by
  intro v
  induction v with
  | nil =>
   intro u m e hm
   obtain ⟨m, rfl⟩ : ∃ m', m = m' + 1 := ⟨m - 1, by simp at hm; omega⟩
   rw [List.append_nil] at e
   subst e
   rw [g6_6L.eq_2, g6_5]
   have : Nat.blt (enc t).size (enc t).size = false := by rw [Bool.eq_false_iff]; intro h; rw [Nat.blt_eq] at h; omega
   rw [this]; rfl
  | cons c v ih =>
   intro u m e hm
   obtain ⟨m, rfl⟩ : ∃ m', m = m' + 1 := ⟨m - 1, by omega⟩
   have hv : Utf8.valid c = true := ht c (by rw [e]; simp)
   have hc := valid_nonneg hv
   have hs : (enc t).size = (enc u).size + ((Utf8.encode c).size + (enc v).size) := by rw [e, enc_size_append, enc_size_cons]
   have hp := encode_pos c
   have hd : Utf8.decode (enc t) (enc u).size = (c.toNat, (Utf8.encode c).size) := by
    have := decode_encode (enc u) (enc v) c hv
    rw [e, enc_append, show enc (c :: v) = Utf8.encode c ++ enc v from runesBytes_cons c v, ← ByteArray.append_assoc, this]
   have hll := congrArg List.length e
   simp only [List.length_append, List.length_cons] at hll
   have hb : Nat.blt (enc u).size (enc t).size = true := by rw [Nat.blt_eq]; omega
   have t1 := tmod_nat hc.1 10 (by omega)
   have t2 := tmod_nat hc.1 26 (by omega)
   have next := ih (u ++ [c]) m (by rw [e]; simp) (by simp at hm; omega)
   have e1 : (enc [c]).size = (Utf8.encode c).size := by rw [enc_size_cons]; rfl
   have z1 := enc_size_le (ntx p7.1 u)
   rw [ntx_length] at z1
   rw [enc_size_append, e1, ntx_append, enc_append, ntx_one] at next
   have en : ∀ a : Int, Utf8.encode a = enc [a] := fun a => by show _ = runesBytes [a]; rw [runesBytes_cons]; simp [runesBytes]
   rw [g6_6L.eq_2, g6_5, hb, cond_true, hd]
   simp only [Int.toNat_of_nonneg hc.1]
   have z2 := enc_size_le [48 + c.tmod 10]
   have z3 := enc_size_le [65 + c.tmod 26]
   simp only [List.length_cons, List.length_nil] at z2 z3
   have y1 : (⟨#[100]⟩ : ByteArray).size = 1 := rfl
   have y2 : (⟨#[73]⟩ : ByteArray).size = 1 := rfl
   by_cases h : p7.1 = -1
   ·unfold nch at next
    rw [if_pos h] at next
    rw [biT (by rw [h]; rfl), wi32_id (by omega) (by omega), en, roomy_ok (by omega), roomy_ok (by rw [size_append]; omega)]
    rw [show ([100, 48 + c.tmod 10] : List Int) = [100] ++ [48 + c.tmod 10] from rfl, enc_append, show enc [100] = (⟨#[100]⟩ : ByteArray) by decide] at next
    exact next
   ·unfold nch at next
    rw [if_neg h] at next
    rw [biF (by rw [beq_eq_false_iff_ne]; exact h), wi32_id (by omega) (by omega), en, roomy_ok (by omega), roomy_ok (by rw [size_append]; omega)]
    rw [show ([73, 65 + c.tmod 26] : List Int) = [73] ++ [65 + c.tmod 26] from rfl, enc_append, show enc [73] = (⟨#[73]⟩ : ByteArray) by decide] at next
    exact next
 exact key t [] n rfl (by unfold Big at hn; omega)
theorem near_end (n : Nat) (hn : Big ≤ n) (x : List Rp) (hx : Ok x) (hF : Full x) (hl : x.length ≤ 4) (ha : allR x ≤ 3000) :
  g6_15 n (fun v4 x5 x11 => g6_16 n (fun x5 x11 => g6_17 n (fun v2 => @some (DenR [.dat .bool]) (v2, ())) x5 x11) v4 x5 x11) (enc (delsR (nls x))) (enc (inssR (nls x))) (M (((0 : Int), [60]) :: nls x)) = some (true, ()) := by
 obtain ⟨hO, hE⟩ := nls_ok hx
 obtain ⟨L1, v1, hD⟩ := nls_dels' hx
 obtain ⟨L2, v2, hI⟩ := nls_inss hx
 have hF' : Full (nls x) := fun d hd => by
  obtain ⟨e, he, rfl⟩ := List.mem_map.1 hd
  intro h
  have := congrArg List.length h
  simp only [ntx_length, List.length_nil] at this
  exact hF e he (List.eq_nil_of_length_eq_zero (by omega))
 have hnl : (nls x).length = x.length := List.length_map _
 have hna : ∀ x : List Rp, allR (nls x) = 2 * allR x := by
  intro x
  induction x with
  | nil => rfl
  | cons d x ih =>
   rw [show nls (d :: x) = (nop d.1, ntx (nop d.1) d.2) :: nls x from rfl, allR_cons, allR_cons, ih, ntx_length]; omega
 have hna := hna x
 have hda := dels_all (nls x)
 have z1 := enc_size_le (delsR (nls x))
 have z2 := enc_size_le (inssR (nls x))
 have v6 : Ok ([((0 : Int), [(60 : Int)])]) := Ok.cons' ⟨.inr (.inl rfl), fun b hb => by simp only [List.mem_cons, List.not_mem_nil, or_false] at hb; subst hb; decide⟩ Ok.nil
 have v7 : Ok ([((0 : Int), [(62 : Int)])]) := Ok.cons' ⟨.inr (.inl rfl), fun b hb => by simp only [List.mem_cons, List.not_mem_nil, or_false] at hb; subst hb; decide⟩ Ok.nil
 have v8 : Ok ([((0 : Int), [(60 : Int), 62])]) := Ok.cons' ⟨.inr (.inl rfl), fun b hb => by simp only [List.mem_cons, List.not_mem_nil, or_false] at hb; rcases hb with rfl | rfl <;> decide⟩ Ok.nil
 have hmg := near_merge hE hF' hO L1 L2 v1 v2 hD hI
 have hw : Ok ([((0 : Int), [60])] ++ nls x ++ [((0 : Int), [62])]) := (v6.append hO).append v7
 have hall : allR ([((0 : Int), [60])] ++ nls x ++ [((0 : Int), [62])]) = allR (nls x) + 2 := by rw [allR_append, allR_append]; simp [allR_cons, allR_nil]; omega
 have hdm : g11 n (M (((0 : Int), [60]) :: nls x) ++ [((0 : Int), (⟨#[62]⟩ : ByteArray))]) = some (M (merge ([((0 : Int), [60])] ++ nls x ++ [((0 : Int), [62])])), ()) := by
  have h1 := edR_le ([((0 : Int), [60])] ++ nls x ++ [((0 : Int), [62])])
  have := dfMerge_ok n hn _ hw (by unfold phi; simp only [List.length_append, List.length_cons, List.length_nil] at *; omega) (by omega)
  have e : M (((0 : Int), [60]) :: nls x) ++ [((0 : Int), (⟨#[62]⟩ : ByteArray))] = ([((0 : Int), [60])] ++ nls x ++ [((0 : Int), [62])]).map emb := by
   show _ = M ([((0 : Int), [60])] ++ nls x ++ [((0 : Int), [62])])
   rw [M_append]
   rfl
  rw [e]; exact this
 have hml : (M (((0 : Int), [60]) :: nls x)).length = x.length + 1 := by rw [M_length, List.length_cons, hnl]
 have vD := (dels_valid hO).1
 have vI := (dels_valid hO).2
 have fin : ∀ W : List Rp, Ok W → W.length ≤ 10 → merge ([((0 : Int), [60])] ++ nls x ++ [((0 : Int), [62])]) = W → g12 n (M (merge ([((0 : Int), [60])] ++ nls x ++ [((0 : Int), [62])]))) (M W) = some (true, ()) := by
  intro W hW hWl e
  have := same_ok n hn (merge ([((0 : Int), [60])] ++ nls x ++ [((0 : Int), [62])])) W (by rw [e]; omega) hw.merge hW
  rw [decide_eq_true e] at this
  exact this
 dsimp only [g6_15]
 rw [roomy_ok (by rw [hml]; simp; omega)]
 have e60 : ([((0 : Int), (⟨#[60]⟩ : ByteArray))] : List Prt) = M [((0 : Int), [60])] := rfl
 have e62 : ([((0 : Int), (⟨#[62]⟩ : ByteArray))] : List Prt) = M [((0 : Int), [62])] := rfl
 have okD : Ok [((-1 : Int), delsR (nls x))] := Ok.cons' ⟨.inl rfl, vD⟩ Ok.nil
 have okI : Ok [((1 : Int), inssR (nls x))] := Ok.cons' ⟨.inr (.inr rfl), vI⟩ Ok.nil
 by_cases c1 : delsR (nls x) = []
 ·rw [biF (by rw [strEq_eq]; simpa using enc_emp.2 c1)]
  dsimp only [g6_16]
  by_cases c2 : inssR (nls x) = []
  ·rw [biF (by rw [strEq_eq]; simpa using enc_emp.2 c2)]
   dsimp only [g6_17]
   rw [roomy_ok (by simp), biT (by rfl), bind_some' hdm]
   rw [if_pos ⟨c1, c2⟩] at hmg
   have := fin [((0 : Int), [60, 62])] v8 (by simp) hmg
   rw [show ([((0 : Int), (⟨#[60, 62]⟩ : ByteArray))] : List Prt) = M [((0 : Int), [60, 62])] from rfl]
   simp only
   rw [bind_some' this]
  ·rw [biT (by rw [strEq_eq]; simpa using fun h => c2 (enc_emp.1 h)), roomy_ok (by simp)]
   dsimp only [g6_17]
   rw [roomy_ok (by simp), biF (by simp), bind_some' hdm]
   rw [if_neg (fun h => c2 h.2)] at hmg
   unfold wantR at hmg
   rw [if_pos c1, if_neg c2] at hmg
   have := fin _ (((v6.append Ok.nil).append okI).append v7) (by simp) hmg
   simp only
   exact Eq.trans (bind_some' this) rfl
 ·rw [biT (by rw [strEq_eq]; simpa using fun h => c1 (enc_emp.1 h)), roomy_ok (by simp)]
  dsimp only [g6_16]
  by_cases c2 : inssR (nls x) = []
  ·rw [biF (by rw [strEq_eq]; simpa using enc_emp.2 c2)]
   dsimp only [g6_17]
   rw [roomy_ok (by simp), biF (by simp), bind_some' hdm]
   rw [if_neg (fun h => c1 h.1)] at hmg
   unfold wantR at hmg
   rw [if_neg c1, if_pos c2] at hmg
   have := fin _ (((v6.append okD).append Ok.nil).append v7) (by simp) hmg
   simp only
   exact Eq.trans (bind_some' this) rfl
  ·rw [biT (by rw [strEq_eq]; simpa using fun h => c2 (enc_emp.1 h)), roomy_ok (by simp)]
   dsimp only [g6_17]
   rw [roomy_ok (by simp), biF (by simp), bind_some' hdm]
   rw [if_neg (fun h => c1 h.1)] at hmg
   unfold wantR at hmg
   rw [if_neg c1, if_neg c2] at hmg
   have := fin _ (((v6.append okD).append okI).append v7) (by simp) hmg
   simp only
   exact Eq.trans (bind_some' this) rfl
theorem FnMergeNear_ok (n : Nat) (hn : Big ≤ n) (l : List Prt) : g6 n l = some (true, ()) := by
 have hB : (4611686018427387904 : Nat) ≤ n := hn
 dsimp only [g6, g6_18, g6_1]
 rcases fits_ok n hn l with ⟨h, hl, hs⟩ | h
 ·rw [h, Option.bind_some]
  rw [show (4 : Int) = ((4 : Nat) : Int) from rfl, parted_ok n hn l hl hs 4 (by omega)]
  simp only [Option.bind_some, Bool.not_true, cond_false]
  obtain ⟨h1, h2, h3⟩ := parts_small 4 (by omega) l
  have hlen := partsOf_length 4 l
  have hf : g14 n ((partsOf 4 l).map emb) = some (M ((partsOf 4 l).filter fun d => !d.2.isEmpty), ()) := filled_ok n hn _ (by omega)
  rw [bind_some' hf]
  simp only
  generalize hx : (partsOf 4 l).filter (fun d => !d.2.isEmpty) = x
  have hox : Ok x := fun d hd => h3 d (List.mem_filter.1 (show d ∈ (partsOf 4 l).filter (fun d => !d.2.isEmpty) by rw [hx]; exact hd)).1
  have hex : Full x := fun d hd => by
   rw [← hx] at hd
   have := (List.mem_filter.1 hd).2
   simpa using this
  have hxl : x.length ≤ 4 := by rw [← hx]; exact Nat.le_trans (List.length_filter_le _ _) hlen
  have hal : allR x ≤ 3000 := by rw [← hx]; exact Nat.le_trans (allR_filter _ _) h2
  have hml := M_length x
  unfold g6_14 g6_13
  have key : ∀ (R X : List Rp) (m : Nat), x = X ++ R → R.length < m →
    g6_13L n (fun v3 v4 x5 => g6_15 n (fun v4 x5 x11 => g6_16 n (fun x5 x11 => g6_17 n (fun v2 => @some (DenR [.dat .bool]) (v2, ())) x5 x11) v4 x5 x11) v3 v4 x5) m (enc (delsR (nls X))) (enc (inssR (nls X))) (M (((0 : Int), [60]) :: nls X)) (M x) ((M x).length : Int) (X.length : Int) = some (true, ()) := by
   intro R
   induction R with
   | nil =>
    intro X m hX hm
    obtain ⟨m, rfl⟩ : ∃ m', m = m' + 1 := ⟨m - 1, by simp at hm; omega⟩
    rw [List.append_nil] at hX
    subst hX
    rw [g6_13L.eq_2, g6_12, g6_2, bdF (by omega)]
    exact near_end n hn x hox hex hxl hal
   | cons d R ih =>
    intro X m hX hm
    simp only [List.length_cons] at hm
    obtain ⟨m, rfl⟩ : ∃ m', m = m' + 1 := ⟨m - 1, by omega⟩
    have hxlen : x.length = X.length + (R.length + 1) := by rw [hX]; simp
    have hX' : x = (X ++ [d]) ++ R := by rw [hX]; simp
    have hrd : rd (M x) (X.length : Int) ((0 : Int), (⟨#[]⟩ : ByteArray)) = (d.1, enc d.2) := by rw [hX, M_append]; exact rd_mid (by rw [M_length])
    have hl1 : ((X ++ [d]).length : Int) = (X.length : Int) + 1 := by simp
    have okd := hox d (by rw [hX]; simp)
    have hdl : d.2.length ≤ 3000 := Nat.le_trans (allR_mem (l := x) (by rw [hX]; simp)) hal
    have hXa : allR X ≤ 3000 := by rw [hX, allR_append] at hal; omega
    have hnX : allR (nls X) ≤ 6000 := by
     have : ∀ x : List Rp, allR (nls x) = 2 * allR x := by
      intro x
      induction x with
      | nil => rfl
      | cons d x ih =>
       rw [show nls (d :: x) = (nop d.1, ntx (nop d.1) d.2) :: nls x from rfl, allR_cons, allR_cons, ih, ntx_length]; omega
     rw [this]; omega
    have hda := dels_all (nls X)
    have z1 := enc_size_le (delsR (nls X))
    have z2 := enc_size_le (inssR (nls X))
    have z3 := enc_size_le (ntx (nop d.1) d.2)
    rw [ntx_length] at z3
    have hnl : (M (((0 : Int), [60]) :: nls X)).length = X.length + 1 := by rw [M_length, List.length_cons]; simp [nls]
    have next := ih (X ++ [d]) m hX' (by omega)
    have hns : nls (X ++ [d]) = nls X ++ [(nop d.1, ntx (nop d.1) d.2)] := by simp [nls]
    rw [hns, delsR_append, inssR_append, enc_append, enc_append, hl1, ← List.cons_append, M_append] at next
    have rest : ∀ p : Prt, p.1 = nop d.1 → p.2 = enc d.2 → g6_4 n (fun v3 v4 x5 p7 v8 x20 v21 v22 s32 i32 => g6_7 n (fun v3 v4 x5 p7 v8 x20 v21 v22 => g6_8 n (fun v3 v4 x5 x20 v21 v22 => g6_11 n (g6_13L n (fun v3 v4 x5 => g6_15 n (fun v4 x5 x11 => g6_16 n (fun x5 x11 => g6_17 n (fun v2 => @some (DenR [.dat .bool]) (v2, ())) x5 x11) v4 x5 x11) v3 v4 x5) m) v3 v4 x5 x20 v21 v22) v3 v4 x5 p7 v8 x20 v21 v22) v3 v4 x5 p7 v8 x20 v21 v22 s32 i32) (enc (delsR (nls X))) (enc (inssR (nls X))) (M (((0 : Int), [60]) :: nls X)) p (M x) ((M x).length : Int) (X.length : Int) = some (true, ()) := by
     intro p hp1 hp2
     unfold g6_4 g6_7 g6_6
     rw [hp2]
     dsimp only
     rw [text_loop n hn _ _ _ _ p _ _ _ d.2 okd.2 (by omega), hp1]
     unfold g6_8
     rw [hp1]
     have hno : nop d.1 = -1 ∨ nop d.1 = 1 := by
      rcases okd.1 with q | q | q <;> (rw [q]; simp [nop])
     rcases hno with q | q
     ·rw [q] at next ⊢
      rw [biT (by rfl), roomy_ok (by rw [q] at z3; omega), roomy_ok (by rw [hnl]; simp; omega)]
      unfold g6_11
      dsimp only
      rw [w64_id (by omega) (by omega)]
      simp only [delsR, inssR, if_true, show ¬ ((-1 : Int) = 1) by omega, if_false, List.append_nil] at next
      rw [show enc [] = (⟨#[]⟩ : ByteArray) from rfl] at next
      have ae : ∀ z : ByteArray, z ++ (⟨#[]⟩ : ByteArray) = z := fun z => bytesOf_inj (by rw [bytesOf_append]; simp [bytesOf])
      rw [ae] at next
      exact next
     ·rw [q] at next ⊢
      rw [biF (by rfl), roomy_ok (by rw [q] at z3; omega), roomy_ok (by rw [hnl]; simp; omega)]
      unfold g6_11
      dsimp only
      rw [w64_id (by omega) (by omega)]
      simp only [delsR, inssR, if_true, show ¬ ((1 : Int) = -1) by omega, if_false, List.append_nil] at next
      rw [show enc [] = (⟨#[]⟩ : ByteArray) from rfl] at next
      have ae : ∀ z : ByteArray, z ++ (⟨#[]⟩ : ByteArray) = z := fun z => bytesOf_inj (by rw [bytesOf_append]; simp [bytesOf])
      rw [ae] at next
      exact next
    rw [g6_13L.eq_2, g6_12, g6_2, bdT (by omega)]
    unfold g6_10 g6_9 g6_3
    rw [idx_ok (by omega) (by omega), hrd]
    simp only [rd_zero rfl]
    by_cases q : d.1 = 0
    ·rw [biT (by rw [q]; rfl)]
     exact rest ((1 : Int), enc d.2) (by rw [q]; rfl) rfl
    ·rw [biF (by rw [beq_eq_false_iff_ne]; exact q)]
     exact rest (d.1, enc d.2) (by simp [nop, q]) rfl
  exact key x [] n rfl (by omega)
 ·rw [h]; rfl
theorem FnMergeNear_pure (d : DenA g6_A) (hd : GoodA g6_A d) : ∃ n, g6_f n d = some (true, ()) :=
 ⟨Big, FnMergeNear_ok Big (Nat.le_refl _) d.1⟩
end Go.Proofs.YtfnjlgflbenfoaaYF
