/- Merging a least difference: what it comes to. -/
import Derived.Test.YthkiaiilpaojnaaDoorUPB
import Derived.Test.YthkiaiilpaojnaaDoorUPLoop
import Derived.Test.YthkiaiilpaojnaaDoorUPUtf
import Derived.Test.YthkiaiilpaojnaaDoorUPEnc
import Derived.Test.YthkiaiilpaojnaaDoorUPParts
import Derived.Test.YthkiaiilpaojnaaDoorUPTexts
import Derived.Test.YthkiaiilpaojnaaDoorUPCmp
import Derived.Test.YthkiaiilpaojnaaDoorUPMerge
import Derived.Test.YthkiaiilpaojnaaDoorUPMerge2
import Derived.Test.YthkiaiilpaojnaaDoorUPMergeA
import Derived.Test.YthkiaiilpaojnaaDoorUPDist
import Derived.Test.YthkiaiilpaojnaaDoorUPDstEd
import Derived.Test.YthkiaiilpaojnaaDoorUPTidy
import Derived.Test.YthkiaiilpaojnaaDoorUFB
namespace Go.Proofs.YthkiaiilpaojnaaDoorUF
open Go
set_option linter.unusedVariables false
set_option linter.unusedSimpArgs false
theorem stepE_parts {A P : List Rp} (hP : Eds P) {t : List Int} (hA : Full A) (hPf : Full P) (hne : edR A + edR P ≤ edR (stepE A P t)) : ∃ u B, stepE A P t = (0, u) :: B ∧ Full B ∧ (t ≠ [] → u ≠ []) := by
  have hdf := dels_full hPf
  unfold stepE
  by_cases h1 : 1 < P.length
  · rw [if_pos h1]
    by_cases h2 : cdR P = 0
    · rw [if_pos h2]
      have := cd_ci hP
      exact ⟨t, _, rfl, Full.cons (hdf.2 (by omega)) hA, id⟩
    · rw [if_neg h2]
      by_cases h3 : ciR P = 0
      · rw [if_pos h3]
        exact ⟨t, _, rfl, Full.cons (hdf.1 h2) hA, id⟩
      · rw [if_neg h3]
        have h4 := ed_fac (A := A) hP t h1 h2 h3
        have hc : cpl (inssR P) (delsR P) = 0 := by omega
        have hs : csl (inssR P) (delsR P) = 0 := by rw [hc] at h4; simp at h4; omega
        refine ⟨_, _, rfl, ?_, ?_⟩
        · unfold fac
          simp only [hc, List.drop_zero, hs, if_pos, Nat.sub_zero, List.take_length]
          exact Full.cons (hdf.2 h3) (Full.cons (hdf.1 h2) hA)
        · unfold fac
          simp only [hc, List.drop_zero, hs, Nat.sub_zero, List.drop_length, List.nil_append]
          exact id
  · rw [if_neg h1]
    by_cases h2 : P = []
    · rw [if_pos h2]
      match A, hA with
      | [], _ => exact ⟨t, [], rfl, Full.nil, id⟩
      | (k, s) :: A, hA =>
        by_cases hk : k = 0
        · subst hk
          rw [pushE, if_pos rfl]
          exact ⟨s ++ t, A, rfl, hA.of_cons.2, fun _ h0 => hA.of_cons.1 (List.append_eq_nil_iff.1 h0).1⟩
        · rw [pushE, if_neg hk]
          exact ⟨t, _, rfl, hA, id⟩
    · rw [if_neg h2]
      exact ⟨t, _, rfl, hPf.reverse.append hA, id⟩
theorem run1_full : ∀ (R A P : List Rp), Eds P → Ok A → Ok P → Ok R → Full A → Full P → Full R → Best (A.reverse ++ P ++ R) → Full (run1 A P R).1 ∧ Full (run1 A P R).2 ∧ Best ((run1 A P R).1.reverse ++ (run1 A P R).2) ∧ Ok (run1 A P R).1 ∧ Ok (run1 A P R).2 ∧ Eds (run1 A P R).2
  | [], A, P, hE, oA, oP, oR, hA, hP, hR, hb => ⟨hA, hP, by rw [List.append_nil] at hb; exact hb, oA, oP, hE⟩
  | (k, t) :: R, A, P, hE, oA, oP, oR, hA, hP, hR, hb => by
    have hkt := hR.of_cons
    have okt := oR.of_cons
    rw [run1]
    by_cases hk : k = 0
    · rw [if_pos hk]
      subst hk
      obtain ⟨b1, b2⟩ := best_step hE okt.2.ops oA.ops hb
      have hf := (stepE_full hE hkt.1 hA hP b1).1
      exact run1_full R (stepE A P t) [] Eds.nil (Ok.stepE oA oP okt.1.2) Ok.nil okt.2 hf Full.nil hkt.2 (by rw [List.append_nil]; exact b2)
    · rw [if_neg hk]
      refine run1_full R A (P ++ [(k, t)]) (hE.snoc okt.1.1 hk) oA (oP.append fun d hd => ?_) okt.2 hA (hP.append fun d hd => ?_) hkt.2 (by rw [← List.append_assoc, List.append_assoc]; exact hb)
      · obtain rfl := List.mem_singleton.1 hd; exact okt.1
      · obtain rfl := List.mem_singleton.1 hd; exact hkt.1
theorem join1_full {x : List Rp} (ox : Ok x) (hx : Full x) (hb : Best x) : Full (join1 x) ∧ Best (join1 x) := by
  obtain ⟨f1, f2, f3, f4, f5, f6⟩ := run1_full x [] [] Eds.nil Ok.nil Ok.nil ox Full.nil Full.nil hx hb
  have hb2 : edR (run1 [] [] x).1 + edR (run1 [] [] x).2 ≤ edR (stepE (run1 [] [] x).1 (run1 [] [] x).2 []) := by
    have ht := stepE_texts (A := (run1 [] [] x).1) f6 []
    have hok : Ok (stepE (run1 [] [] x).1 (run1 [] [] x).2 []) := Ok.stepE f4 f5 Valids.nil
    have hlow := dst_le_ed _ (hok.reverse).ops
    rw [ht.1, ht.2, List.append_nil, List.append_nil, ← srcR_append, ← tgtR_append, edR_reverse] at hlow
    unfold Best at f3
    rw [edR_append, edR_reverse] at f3
    omega
  obtain ⟨u, B, e, hB, _⟩ := stepE_parts f6 (t := []) f1 f2 hb2
  refine ⟨?_, ?_⟩
  · unfold join1
    rw [e, chop]
    split
    · exact hB.reverse
    · rename_i hu; exact (Full.cons hu hB).reverse
  · have h1 := join1_texts ox.ops
    have h2 := ed_join1 ox.ops
    unfold Best at *
    rw [h1.1, h1.2]; omega
theorem slide_full : ∀ (k : Nat) (A R : List Rp) (ch : Bool), R.length = k → Full A → Full R → Full (slide A R ch).1 := by
  intro k
  induction k using Nat.strongRecOn with
  | _ k ih =>
    intro A R ch hk hA hR
    match R, hk, hR with
    | [], _, hR => unfold slide; exact hA.reverse.append hR
    | [a], _, hR => unfold slide; exact hA.reverse.append hR
    | [a, b], _, hR => unfold slide; exact hA.reverse.append hR
    | p :: c :: q :: R, hk, hR =>
      have h1 := hR.of_cons
      have h2 := h1.2.of_cons
      have h3 := h2.2.of_cons
      simp only [List.length_cons] at hk
      unfold slide
      split
      · split
        · exact ih _ (by simp only [List.length_cons]; omega) _ _ _ rfl (Full.cons (fun h0 => h1.1 (List.append_eq_nil_iff.1 h0).1) hA) (Full.cons (fun h0 => h1.1 (List.append_eq_nil_iff.1 h0).1) h3.2)
        · split
          · exact ih _ (by simp only [List.length_cons]; omega) _ _ _ rfl (Full.cons (fun h0 => h1.1 (List.append_eq_nil_iff.1 h0).1) hA) (Full.cons (fun h0 => h3.1 (List.append_eq_nil_iff.1 h0).2) h3.2)
          · exact ih _ (by simp only [List.length_cons]; omega) _ _ _ rfl (Full.cons h1.1 hA) h1.2
      · exact ih _ (by simp only [List.length_cons]; omega) _ _ _ rfl (Full.cons h1.1 hA) h1.2
theorem merge_end_full : ∀ (k : Nat) {x : List Rp}, Ok x → Full x → Best x → phi x < k → ∃ z, Ok z ∧ Full z ∧ Best z ∧ mergeN k x = join1 z
  | 0, x, _, _, _, h => by omega
  | k + 1, x, hx, hf, hb, hk => by
    have hj := join1_full hx hf hb
    rw [mergeN]
    split
    · rename_i h
      have := slide_phi0 hx.ops h
      have ht := slide_texts _ [] (join1 x) false rfl
      refine merge_end_full k (Ok.slide _ rfl Ok.nil hx.join1) (slide_full _ [] (join1 x) false rfl Full.nil hj.1) ?_ (by omega)
      unfold Best at *
      rw [ht.1, ht.2.1, ht.2.2]
      exact hj.2
    · rename_i h
      have h : (slide [] (join1 x) false).2 = false := by simpa using h
      exact ⟨x, hx, hf, hb, by rw [(slide_still _ [] (join1 x) rfl).2 h]; rfl⟩
/-- Neighbours. -/
def Nbs : List Rp → Prop
  | d :: e :: l => d.1 ≠ e.1 ∧ ¬ (d.1 = 1 ∧ e.1 = -1) ∧ (d.1 ≠ 0 → e.1 ≠ 0 → cpl d.2 e.2 = 0 ∧ csl d.2 e.2 = 0) ∧ Nbs (e :: l)
  | _ => True
/-- The same, the other way round. -/
def Nbr : List Rp → Prop
  | e :: d :: l => d.1 ≠ e.1 ∧ ¬ (d.1 = 1 ∧ e.1 = -1) ∧ (d.1 ≠ 0 → e.1 ≠ 0 → cpl d.2 e.2 = 0 ∧ csl d.2 e.2 = 0) ∧ Nbr (d :: l)
  | _ => True
theorem NA.nbr : ∀ {A : List Rp}, NA A → Nbr A
  | _, .nil => trivial
  | _, .one s => trivial
  | _, .ed t e A h1 h2 => by
    have ih := h2.nbr
    have he : e.1 ≠ 0 := by rcases h1 with h | h <;> omega
    refine ⟨he, fun h => by simp at h, fun _ h => absurd rfl h, ?_⟩
    rcases h2.head with rfl | ⟨s, B, rfl, _⟩
    · trivial
    · exact ⟨fun h => he h.symm, fun h => by simp at h, fun h => absurd rfl h, ih⟩
  | _, .two t td ti A h1 h2 h3 => by
    have ih := h3.nbr
    refine ⟨by simp, fun h => by simp at h, fun _ h => absurd rfl h, by simp, fun h => by simp at h, fun _ _ => ⟨by rw [cpl_comm]; exact h1, by rw [csl_comm]; exact h2⟩, ?_⟩
    rcases h3.head with rfl | ⟨s, B, rfl, _⟩
    · trivial
    · exact ⟨by simp, fun h => by simp at h, fun h => absurd rfl h, ih⟩
theorem Nbr.tail {d : Rp} {l : List Rp} (h : Nbr (d :: l)) : Nbr l := by
  cases l with
  | nil => trivial
  | cons e l => exact h.2.2.2
theorem nbs_snoc : ∀ {l : List Rp} {d e : Rp}, Nbs (l ++ [d]) → (d.1 ≠ e.1 ∧ ¬ (d.1 = 1 ∧ e.1 = -1) ∧ (d.1 ≠ 0 → e.1 ≠ 0 → cpl d.2 e.2 = 0 ∧ csl d.2 e.2 = 0)) → Nbs (l ++ [d, e])
  | [], d, e, _, h => ⟨h.1, h.2.1, h.2.2, trivial⟩
  | [a], d, e, h1, h => ⟨h1.1, h1.2.1, h1.2.2.1, h.1, h.2.1, h.2.2, trivial⟩
  | a :: b :: l, d, e, h1, h => ⟨h1.1, h1.2.1, h1.2.2.1, nbs_snoc (l := b :: l) h1.2.2.2 h⟩
theorem Nbr.reverse : ∀ {A : List Rp}, Nbr A → Nbs A.reverse
  | [], _ => trivial
  | [d], _ => trivial
  | e :: d :: l, h => by
    have ih := Nbr.reverse (A := d :: l) h.2.2.2
    rw [List.reverse_cons] at ih
    have := nbs_snoc (l := l.reverse) (d := d) (e := e) ih ⟨h.1, h.2.1, h.2.2.1⟩
    simpa using this
/-- Merging a least difference without empty parts. -/
theorem merge_tidy {x : List Rp} (ox : Ok x) (hf : Full x) (hb : Best x) : Full (merge x) ∧ Nbs (merge x) := by
  obtain ⟨z, oz, fz, bz, e⟩ := merge_end_full (phi x + 1) ox hf hb (by omega)
  have e : merge x = join1 z := e
  rw [e]
  refine ⟨(join1_full oz fz bz).1, ?_⟩
  have h1 := phi_run1 z [] [] Eds.nil oz.ops
  have hB := NA.stepE (A := (run1 [] [] z).1) (P := (run1 [] [] z).2) [] (NA.run1 z [] [] NA.nil Eds.nil oz.ops) h1.2
  have hn := hB.nbr
  unfold join1
  apply Nbr.reverse
  generalize stepE (run1 [] [] z).1 (run1 [] [] z).2 [] = C at hn
  cases C with
  | nil => trivial
  | cons d C =>
    obtain ⟨k, s⟩ := d
    rw [chop]
    split
    · exact hn.tail
    · exact hn
end Go.Proofs.YthkiaiilpaojnaaDoorUF
