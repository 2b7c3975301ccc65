/- The difference of two texts, not by lines. -/
import Derived.Test.YthkiaiilpaojnaaDoorUPB
import Derived.Test.YthkiaiilpaojnaaDoorUPLoop
import Derived.Test.YthkiaiilpaojnaaDoorUPUtf
import Derived.Test.YthkiaiilpaojnaaDoorUPEnc
import Derived.Test.YthkiaiilpaojnaaDoorUPParts
import Derived.Test.YthkiaiilpaojnaaDoorUPTexts
import Derived.Test.YthkiaiilpaojnaaDoorUPCmp
import Derived.Test.YthkiaiilpaojnaaDoorUPMerge
import Derived.Test.YthkiaiilpaojnaaDoorUPMerge2
import Derived.Test.YthkiaiilpaojnaaDoorUPMergeT
import Derived.Test.YthkiaiilpaojnaaDoorUPDist
import Derived.Test.YthkiaiilpaojnaaDoorUPGrid
import Derived.Test.YthkiaiilpaojnaaDoorUPBis3
import Derived.Test.YthkiaiilpaojnaaDoorUPRIx
import Derived.Test.YthkiaiilpaojnaaDoorUPMain
import Derived.Test.YthkiaiilpaojnaaDoorUGA1
import Derived.Test.YthkiaiilpaojnaaDoorUGA3
import Derived.Test.YthkiaiilpaojnaaDoorUFB
namespace Go.Proofs.YthkiaiilpaojnaaDoorUF
open Go
set_option linter.unusedVariables false
set_option linter.unusedSimpArgs false
theorem csl_last {x y : List Int} {c d : Int} {u v : List Int} (hx : x.take (x.length - csl x y) = u ++ [c]) (hy : y.take (y.length - csl x y) = v ++ [d]) : c ≠ d := by
  have e1 := congrArg List.reverse hx
  have e2 := congrArg List.reverse hy
  rw [List.reverse_append] at e1 e2
  have q1 : x.reverse.drop (cpl x.reverse y.reverse) = c :: u.reverse := by
    rw [List.drop_reverse]; exact e1
  have q2 : y.reverse.drop (cpl x.reverse y.reverse) = d :: v.reverse := by
    rw [List.drop_reverse]; exact e2
  exact cpl_head q1 q2
theorem trim_ok (a b : List Int) : Trim ((a.drop (cpl a b)).take ((a.drop (cpl a b)).length - csl (a.drop (cpl a b)) (b.drop (cpl a b)))) ((b.drop (cpl a b)).take ((b.drop (cpl a b)).length - csl (a.drop (cpl a b)) (b.drop (cpl a b)))) := by
  refine ⟨fun c x d y hx hy => ?_, fun c x d y hx hy => csl_last hx hy⟩
  have g1 : ∃ x', a.drop (cpl a b) = c :: x' := by
    cases h : a.drop (cpl a b) with
    | nil => rw [h] at hx; simp at hx
    | cons c' x' =>
      rw [h] at hx
      cases hn : (c' :: x').length - csl (c' :: x') (b.drop (cpl a b)) with
      | zero => rw [hn] at hx; simp at hx
      | succ k => rw [hn, List.take_succ_cons] at hx; exact ⟨x', by rw [List.cons.inj hx |>.1]⟩
  have g2 : ∃ y', b.drop (cpl a b) = d :: y' := by
    cases h : b.drop (cpl a b) with
    | nil => rw [h] at hy; simp at hy
    | cons d' y' =>
      rw [h] at hy
      cases hn : (d' :: y').length - csl (a.drop (cpl a b)) (d' :: y') with
      | zero => rw [hn] at hy; simp at hy
      | succ k => rw [hn, List.take_succ_cons] at hy; exact ⟨y', by rw [List.cons.inj hy |>.1]⟩
  obtain ⟨x', g1⟩ := g1
  obtain ⟨y', g2⟩ := g2
  exact cpl_head g1 g2
def eqPart (t : List Int) : List Rp := if t = [] then [] else [(0, t)]
theorem eqPart_full (t : List Int) : Full (eqPart t) := by
  unfold eqPart
  split
  · exact Full.nil
  · rename_i h; exact Full.cons h Full.nil
theorem eqPart_ok {t : List Int} (h : Valids t) : Ok (eqPart t) ∧ srcR (eqPart t) = t ∧ tgtR (eqPart t) = t ∧ edR (eqPart t) = 0 ∧ (eqPart t).length ≤ 1 := by
  unfold eqPart
  split
  · rename_i e; subst e; exact ⟨Ok.nil, rfl, rfl, rfl, by simp⟩
  · refine ⟨fun d hd => ?_, by simp [srcR], by simp [tgtR], by simp [edR], by simp⟩
    obtain rfl := List.mem_singleton.1 hd
    exact ⟨.inr (.inl rfl), h⟩
section
variable (q110 : DenA g110_A → Option (DenR g110_R)) (q114 : DenA g114_A → Option (DenR g114_R)) (q136 : DenA g136_A → Option (DenR g136_R)) (q143 : DenA g143_A → Option (DenR g143_R))
/-- The parts: what both begin with, the rest, what both end with. -/
theorem mainR_ok (n : Nat) (hn : Big ≤ n) (p0) {a b : List Int} (ln : Bool) (ha : Valids a) (hb : Valids b) (hla : a.length ≤ 100000) (hlb : b.length ≤ 100000)
    (hq : a ≠ b → ∀ a' b' : List Int, Valids a' → Valids b' → a'.length ≤ a.length → b'.length ≤ b.length → a'.length + b'.length ≤ a.length + b.length → Trim a' b' → (a' ≠ [] ∨ b' ≠ []) → ∃ l, q136 (p0, (a', (b', (ln, ())))) = @some (DenR g136_R) (M l, ()) ∧ LD a' b' l) :
    ∃ l, g110_b n q110 q114 q136 q143 p0 a b ln = some (M l, ()) ∧ LD a b l ∧ ((a = b ∧ l = eqPart a) ∨ (a ≠ b ∧ ∃ x, LD a b x ∧ l = merge x)) := by
  dsimp only [g110_b, g110_3, g110_1]
  rw [runesEqual_ok n hn a b (by omega), Option.bind_some]
  by_cases hab : a = b
  · subst hab
    rw [biT (by simp)]
    have hd := dst_self a
    by_cases ha0 : a = []
    · subst ha0
      exact ⟨[], rfl, LD.of Ok.nil rfl rfl (Nat.zero_le _) (by simp) Full.nil, .inl ⟨rfl, rfl⟩⟩
    · have := List.length_pos_iff.2 ha0
      rw [bdT (by omega), roomy_ok (by simp)]
      have he := eqPart_ok ha
      have hep : eqPart a = [(0, a)] := by unfold eqPart; rw [if_neg ha0]
      refine ⟨eqPart a, by rw [hep]; rfl, LD.of he.1 he.2.1 he.2.2.1 (by rw [he.2.2.2.1]; omega) (by omega) (eqPart_full a), .inl ⟨rfl, rfl⟩⟩
  · rw [biF (by simpa using hab), prefix_ok n hn a b (by omega), Option.bind_some]
    have c1 := cpl_le_left a b
    have c2 := cpl_le_right a b
    have c3 := cpl_take a b
    simp only
    rw [bnd_ok (by omega) (by omega) (by omega), bnd_ok (by omega) (by omega) (by omega), bnd_ok (by omega) (by omega) (by omega)]
    have htrim := trim_ok a b
    have q1 := csl_le_left (a.drop (cpl a b)) (b.drop (cpl a b))
    have q2 := csl_le_right (a.drop (cpl a b)) (b.drop (cpl a b))
    have q3 := csl_drop (a.drop (cpl a b)) (b.drop (cpl a b))
    rw [cut_to a _ _ (by omega), cut_to b _ _ (by omega), Int.toNat_natCast, cut_from, Int.toNat_natCast]
    have ea : a = a.take (cpl a b) ++ a.drop (cpl a b) := (List.take_append_drop _ _).symm
    have eb : b = b.take (cpl a b) ++ b.drop (cpl a b) := (List.take_append_drop _ _).symm
    have la1 : (a.drop (cpl a b)).length = a.length - cpl a b := List.length_drop
    have lb1 : (b.drop (cpl a b)).length = b.length - cpl a b := List.length_drop
    have hva : Valids (a.take (cpl a b)) := ha.take _
    have hva1 : Valids (a.drop (cpl a b)) := ha.drop _
    have hvb1 : Valids (b.drop (cpl a b)) := hb.drop _
    generalize hpre : a.take (cpl a b) = pre at *
    generalize ha1 : a.drop (cpl a b) = a1 at *
    generalize hb1 : b.drop (cpl a b) = b1 at *
    generalize hs : csl a1 b1 = s at *
    rw [suffix_ok n hn a1 b1 (by omega) (by omega), Option.bind_some, hs]
    simp only
    rw [w64_id (n := (a1.length : Int) - s) (by omega) (by omega), w64_id (n := (b1.length : Int) - s) (by omega) (by omega), bnd_ok (by omega) (by omega) (by omega), bnd_ok (by omega) (by omega) (by omega), bnd_ok (by omega) (by omega) (by omega),
      cut_from, cut_from, cut_to a1 _ _ (by omega), show ((a1.length : Int) - s).toNat = a1.length - s by omega, show ((b1.length : Int) - s).toNat = b1.length - s by omega]
    have ea1 : a1 = a1.take (a1.length - s) ++ a1.drop (a1.length - s) := (List.take_append_drop _ _).symm
    have eb1 : b1 = b1.take (b1.length - s) ++ a1.drop (a1.length - s) := by rw [q3]; exact (List.take_append_drop _ _).symm
    have la2 : (a1.take (a1.length - s)).length = a1.length - s := by rw [List.length_take]; omega
    have lb2 : (b1.take (b1.length - s)).length = b1.length - s := by rw [List.length_take]; omega
    have lsf : (a1.drop (a1.length - s)).length = s := by rw [List.length_drop]; omega
    have hva2 := hva1.take (a1.length - s)
    have hvb2 := hvb1.take (b1.length - s)
    have hvsf := hva1.drop (a1.length - s)
    have lpre : pre.length = cpl a b := by rw [← hpre, List.length_take]; omega
    generalize hsf : a1.drop (a1.length - s) = sf at *
    generalize ha2 : a1.take (a1.length - s) = a2 at *
    generalize hb2 : b1.take (b1.length - s) = b2 at *
    have hdst : dst a b = dst a2 b2 := by
      rw [ea, eb, ← c3, dst_pre_same, ea1, eb1, dst_suf_same]
    have eaf : a = pre ++ (a2 ++ sf) := by rw [← ea1]; exact ea
    have ebf : b = pre ++ (b2 ++ sf) := by rw [← eb1, c3]; exact eb
    have hne : a2 ≠ [] ∨ b2 ≠ [] := by
      by_cases h : a2 = []
      · right
        intro h2
        exact hab (by rw [eaf, ebf, h, h2])
      · exact .inl h
    have hll : a2.length + b2.length ≤ a.length + b.length := by omega
    obtain ⟨l, g1, g2⟩ := hq hab a2 b2 hva2 hvb2 (by omega) (by omega) hll htrim hne
    rw [bind_some' g1]
    have hpo := eqPart_ok hva
    have hso := eqPart_ok hvsf
    have hlen := g2.len
    have hx : LD a b (eqPart pre ++ l ++ eqPart sf) := by
      refine LD.of ((hpo.1.append g2.ok).append hso.1) ?_ ?_ ?_ ?_ (((eqPart_full pre).append g2.full).append (eqPart_full sf))
      · rw [srcR_append, srcR_append, hpo.2.1, hso.2.1, g2.src, eaf, List.append_assoc]
      · rw [tgtR_append, tgtR_append, hpo.2.2.1, hso.2.2.1, g2.tgt, ebf, List.append_assoc]
      · rw [edR_append, edR_append, hpo.2.2.2.1, hso.2.2.2.1, g2.ed, hdst]; omega
      · have k1 : (eqPart pre).length ≤ pre.length := by
          unfold eqPart; split
          · simp
          · rename_i h; have := List.length_pos_iff.2 h; simp; omega
        have k2 : (eqPart sf).length ≤ sf.length := by
          unfold eqPart; split
          · simp
          · rename_i h; have := List.length_pos_iff.2 h; simp; omega
        rw [List.length_append, List.length_append]
        have z1 := congrArg List.length eaf
        have z2 := congrArg List.length ebf
        simp only [List.length_append] at z1 z2
        omega
    have hed := hx.ed
    have hhi := dst_hi a b
    have hxl := hx.len
    have hm : g137 n p0 (M (eqPart pre ++ l ++ eqPart sf)) = some (M (merge (eqPart pre ++ l ++ eqPart sf)), ()) := merge_ok n hn p0 _ hx.ok (by unfold phi; omega) (by rw [hx.src, hx.tgt]; omega)
    have last : ∀ z : List Rp, z = eqPart pre ++ l → g110_2 n q110 q114 q136 q143 (fun x8 => @some (DenR [.rw (.pair (.int .i8) .str) 115]) (x8, ())) p0 sf (M z) = some (M (merge (eqPart pre ++ l ++ eqPart sf)), ()) := fun z hz => by
      subst hz
      unfold g110_2
      by_cases hsf0 : sf = []
      · rw [biF (by simp [hsf0])]
        have : eqPart sf = [] := by unfold eqPart; rw [if_pos hsf0]
        rw [this, List.append_nil] at hm ⊢
        rw [bind_some' hm]
      · have hp := List.length_pos_iff.2 hsf0
        rw [biT (by simp [hsf0])]
        have : eqPart sf = [(0, sf)] := by unfold eqPart; rw [if_neg hsf0]
        rw [roomy_ok (by unfold M; rw [List.length_map]; simp only [List.length_append, List.length_cons, List.length_nil] at hxl ⊢; omega)]
        have e : M (eqPart pre ++ l) ++ [((0 : Int), runesBytes sf)] = M (eqPart pre ++ l ++ eqPart sf) := by
          rw [this]; unfold M; simp only [List.map_append]; rfl
        rw [e, bind_some' hm]
    refine ⟨merge (eqPart pre ++ l ++ eqPart sf), ?_, hx.merge, .inr ⟨hab, _, hx, rfl⟩⟩
    by_cases hp0 : pre = []
    · rw [biF (by simp [hp0])]
      exact last l (by unfold eqPart; rw [if_pos hp0]; rfl)
    · have hp := List.length_pos_iff.2 hp0
      rw [biT (by simp [hp0]), roomy_ok (by unfold M; rw [List.length_map]; simp only [List.length_append, List.length_cons, List.length_nil] at hxl ⊢; omega)]
      exact last ((0, pre) :: l) (by unfold eqPart; rw [if_neg hp0]; rfl)
end
theorem main_rec (n : Nat) (hn : Big ≤ n) (p0) (hp : p0.1 ≤ (0 : Int)) : ∀ (N m : Nat) (a b : List Int) (ln : Bool), (ln = false ∨ a.length ≤ 100 ∨ b.length ≤ 100 ∨ a = b) → a.length + b.length ≤ N → N ≤ 100000 → 4 * N + 8 ≤ m → Valids a → Valids b →
    ∃ l, (g110_rec n m).1 (p0, (a, (b, (ln, ())))) = @some (DenR g110_R) (M l, ()) ∧ LD a b l ∧ ((a = b ∧ l = eqPart a) ∨ (a ≠ b ∧ ∃ x, LD a b x ∧ l = merge x)) := by
  intro N
  induction N using Nat.strongRecOn with
  | _ N ih =>
    intro m a b ln hln hl hN hm ha hb
    obtain ⟨m, rfl⟩ : ∃ m', m = m' + 4 := ⟨m - 4, by omega⟩
    refine mainR_ok (a := a) (b := b) (ln := ln) (p0 := p0) (n := n) (hn := hn) (ha := ha) (hb := hb) (hla := by omega) (hlb := by omega) (hq := ?_) ..
    intro hab a' b' ha' hb' hla' hlb' hl' ht hne
    have hln' : ln = false ∨ a'.length ≤ 100 ∨ b'.length ≤ 100 := by
      rcases hln with h | h | h | h
      · exact .inl h
      · exact .inr (.inl (by omega))
      · exact .inr (.inr (by omega))
      · exact absurd h hab
    refine compute_ok (a := a') (b := b') (ln := ln) (hln := hln') (p0 := p0) (n := n) (hn := hn) (hp := hp) (ha := ha') (hb := hb') (hla := by omega) (hlb := by omega) (ht := ht) (hne := hne) (hq := ?_) ..
    intro h2a h2b hd2
    rcases bisect_ok (p0 := p0) (n := n) (hn := hn) (A := a') (B := b') (h3 := by omega) (hN := by omega) (hM := by omega) (kr := fun x6 => @some (DenR g114_R) (x6, ())) .. with h | ⟨h, hd⟩
    · obtain ⟨x, y, ho, h1, h2, h3⟩ := h
      have hx := ho.hx
      have hy := ho.hy
      have hs := ho.sum
      have l1 : (a'.take x).length + (b'.take y).length < a'.length + b'.length := by
        rw [List.length_take, List.length_take]
        by_cases e : x = a'.length ∧ y = b'.length
        · rw [e.1, e.2, ft_end] at h1; omega
        · omega
      have l2 : (a'.drop x).length + (b'.drop y).length < a'.length + b'.length := by
        rw [List.length_drop, List.length_drop]
        by_cases e : x = 0 ∧ y = 0
        · rw [e.1, e.2, gt_zero] at h2; omega
        · omega
      obtain ⟨u, u1, u2, _⟩ := ih _ (by omega : (a'.take x).length + (b'.take y).length < N) m (a'.take x) (b'.take y) false (.inl rfl) (Nat.le_refl _) (by omega) (by omega) (ha'.take _) (hb'.take _)
      obtain ⟨v, v1, v2, _⟩ := ih _ (by omega : (a'.drop x).length + (b'.drop y).length < N) m (a'.drop x) (b'.drop y) false (.inl rfl) (Nat.le_refl _) (by omega) (by omega) (ha'.drop _) (hb'.drop _)
      have ul := u2.len
      have vl := v2.len
      have hsp := split_ok (n := n) (p0 := p0) (hx := hx) (hy := hy) (h1 := u1) (h2 := v1) (hl := by omega) (g110_rec n m).1 (g110_rec n m).2.1 (g110_rec n m).2.2.1 (g110_rec n m).2.2.2
      have key : LD a' b' (u ++ v) := by
        refine LD.of (u2.ok.append v2.ok) ?_ ?_ ?_ ?_ (u2.full.append v2.full)
        · rw [srcR_append, u2.src, v2.src, List.take_append_drop]
        · rw [tgtR_append, u2.tgt, v2.tgt, List.take_append_drop]
        · rw [edR_append, u2.ed, v2.ed]
          rw [ft_grid hx hy, dst_rev] at hs
          unfold gt at hs
          omega
        · rw [List.length_append]
          rw [List.length_take, List.length_take] at ul
          rw [List.length_drop, List.length_drop] at vl
          omega
      refine ⟨u ++ v, ?_, key⟩
      refine Eq.trans h3 ?_
      refine bind_some' hsp
    · refine ⟨[(-1, a'), (1, b')], h, LD.of (fun d hd' => ?_) ?_ ?_ ?_ ?_ (full2 (List.ne_nil_of_length_pos (by omega)) (List.ne_nil_of_length_pos (by omega)))⟩
      · simp only [List.mem_cons, List.not_mem_nil, or_false] at hd'
        rcases hd' with rfl | rfl
        · exact ⟨.inl rfl, ha'⟩
        · exact ⟨.inr (.inr rfl), hb'⟩
      · show a' ++ [] = a'; simp
      · show b' ++ [] = b'; simp
      · show a'.length + (b'.length + 0) ≤ _; omega
      · simp; omega
end Go.Proofs.YthkiaiilpaojnaaDoorUF
