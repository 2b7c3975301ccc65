/- Merging a least difference: no part is empty. -/
import Derived.Test.YthkiaiilpaojnaaDoorUPB
import Derived.Test.YthkiaiilpaojnaaDoorUPLoop
import Derived.Test.YthkiaiilpaojnaaDoorUPUtf
import Derived.Test.YthkiaiilpaojnaaDoorUPEnc
import Derived.Test.YthkiaiilpaojnaaDoorUPParts
import Derived.Test.YthkiaiilpaojnaaDoorUPTexts
import Derived.Test.YthkiaiilpaojnaaDoorUPCmp
import Derived.Test.YthkiaiilpaojnaaDoorUPMerge
import Derived.Test.YthkiaiilpaojnaaDoorUPMerge2
import Derived.Test.YthkiaiilpaojnaaDoorUPMergeA
import Derived.Test.YthkiaiilpaojnaaDoorUPDist
import Derived.Test.YthkiaiilpaojnaaDoorUPDstEd
import Derived.Test.YthkiaiilpaojnaaDoorUFB
namespace Go.Proofs.YthkiaiilpaojnaaDoorUF
open Go
set_option linter.unusedVariables false
set_option linter.unusedSimpArgs false
def Full (x : List Rp) : Prop := ∀ d ∈ x, d.2 ≠ []
theorem Full.append {x y : List Rp} (h : Full x) (k : Full y) : Full (x ++ y) := fun d hd => (List.mem_append.1 hd).elim (h d) (k d)
theorem Full.of_append {x y : List Rp} (h : Full (x ++ y)) : Full x ∧ Full y := ⟨fun d hd => h d (List.mem_append.2 (.inl hd)), fun d hd => h d (List.mem_append.2 (.inr hd))⟩
theorem Full.cons {d : Rp} {x : List Rp} (h : d.2 ≠ []) (k : Full x) : Full (d :: x) := fun e he => (List.mem_cons.1 he).elim (fun q => by rw [q]; exact h) (k e)
theorem Full.of_cons {d : Rp} {x : List Rp} (h : Full (d :: x)) : d.2 ≠ [] ∧ Full x := ⟨h d (by simp), fun e he => h e (by simp [he])⟩
theorem Full.reverse {x : List Rp} (h : Full x) : Full x.reverse := fun d hd => h d (List.mem_reverse.1 hd)
theorem Full.nil : Full [] := fun d h => by cases h
theorem pushE_mem {u : List Int} : ∀ {A : List Rp} {d : Rp}, d ∈ pushE u A → d ∈ A ∨ (d.1 = 0 ∧ ∃ s, d.2 = s ++ u ∧ (s = [] ∨ (0, s) ∈ A))
  | [], d, h => by
    unfold pushE at h
    obtain rfl := List.mem_singleton.1 h
    exact .inr ⟨rfl, [], rfl, .inl rfl⟩
  | (k, s) :: A, d, h => by
    by_cases hk : k = 0
    · rw [pushE, if_pos hk] at h
      rcases List.mem_cons.1 h with rfl | h
      · exact .inr ⟨rfl, s, rfl, .inr (by rw [hk]; simp)⟩
      · exact .inl (by simp [h])
    · rw [pushE, if_neg hk] at h
      rcases List.mem_cons.1 h with rfl | h
      · exact .inr ⟨rfl, [], rfl, .inl rfl⟩
      · exact .inl h
def Best (x : List Rp) : Prop := edR x ≤ dst (srcR x) (tgtR x)
theorem dels_full : ∀ {P : List Rp}, Full P → (cdR P ≠ 0 → delsR P ≠ []) ∧ (ciR P ≠ 0 → inssR P ≠ [])
  | [], _ => ⟨fun h => absurd rfl h, fun h => absurd rfl h⟩
  | d :: P, h => by
    have ih := dels_full h.of_cons.2
    have hd := h.of_cons.1
    refine ⟨fun hc => ?_, fun hc => ?_⟩
    · unfold delsR
      unfold cdR at hc
      split
      · intro h0; exact hd (List.append_eq_nil_iff.1 h0).1
      · rename_i hne
        rw [if_neg hne] at hc
        simpa using ih.1 (by omega)
    · unfold inssR
      unfold ciR at hc
      split
      · intro h0; exact hd (List.append_eq_nil_iff.1 h0).1
      · rename_i hne
        rw [if_neg hne] at hc
        simpa using ih.2 (by omega)
/-- What is factored out lessens what is edited. -/
theorem ed_fac {A P : List Rp} (hP : Eds P) (t : List Int) (h1 : 1 < P.length) (h2 : cdR P ≠ 0) (h3 : ciR P ≠ 0) :
    edR (stepE A P t) + 2 * (cpl (inssR P) (delsR P) + csl ((inssR P).drop (cpl (inssR P) (delsR P))) ((delsR P).drop (cpl (inssR P) (delsR P)))) ≤ edR A + edR P := by
  have hd := dels_le P
  have e1 := edR_fac A (delsR P) (inssR P) t
  unfold stepE
  rw [if_pos h1, if_neg h2, if_neg h3]
  simp only [edR]
  have c1 := cpl_le_left (inssR P) (delsR P)
  have c2 := cpl_le_right (inssR P) (delsR P)
  have s1 := csl_le_left ((inssR P).drop (cpl (inssR P) (delsR P))) ((delsR P).drop (cpl (inssR P) (delsR P)))
  have s2 := csl_le_right ((inssR P).drop (cpl (inssR P) (delsR P))) ((delsR P).drop (cpl (inssR P) (delsR P)))
  rw [e1]
  unfold fac
  simp only [List.length_take, List.length_drop] at *
  simp
  omega
theorem stepE_full {A P : List Rp} (hP : Eds P) {t : List Int} (ht : t ≠ []) (hA : Full A) (hPf : Full P) (hne : edR A + edR P ≤ edR (stepE A P t)) : Full (stepE A P t) ∧ (1 < P.length → cdR P ≠ 0 → ciR P ≠ 0 → cpl (inssR P) (delsR P) = 0) := by
  have hdf := dels_full hPf
  unfold stepE
  split
  · rename_i h1
    split
    · rename_i h2
      have := cd_ci hP
      exact ⟨Full.cons ht (Full.cons (hdf.2 (by omega)) hA), fun _ h => absurd h2 h⟩
    · rename_i h2
      split
      · rename_i h3
        exact ⟨Full.cons ht (Full.cons (hdf.1 h2) hA), fun _ _ h => absurd h3 h⟩
      · rename_i h3
        have h4 := ed_fac (A := A) hP t h1 h2 h3
        have hc : cpl (inssR P) (delsR P) = 0 := by omega
        have hs : csl (inssR P) (delsR P) = 0 := by rw [hc] at h4; simp at h4; omega
        refine ⟨?_, fun _ _ _ => hc⟩
        unfold fac
        simp only [hc, List.drop_zero, hs, if_pos, Nat.sub_zero, List.take_length, List.drop_length, List.nil_append]
        exact Full.cons ht (Full.cons (hdf.2 h3) (Full.cons (hdf.1 h2) hA))
  · rename_i h1
    refine ⟨?_, fun h => absurd h h1⟩
    split
    · intro d hd
      rcases pushE_mem hd with h | ⟨_, s, h, _⟩
      · exact hA d h
      · intro h0; rw [h0] at h; exact ht (List.append_eq_nil_iff.1 h.symm).2
    · exact Full.cons ht (hPf.reverse.append hA)
theorem best_step {A P R : List Rp} {t : List Int} (hP : Eds P) (hR : Ops R) (hA : Ops A) (hb : Best (A.reverse ++ P ++ (0, t) :: R)) : edR A + edR P ≤ edR (stepE A P t) ∧ Best ((stepE A P t).reverse ++ R) := by
  have ht := stepE_texts (A := A) hP t
  have he := ed_stepE (A := A) hP t
  unfold Best at *
  have e1 : srcR (A.reverse ++ P ++ (0, t) :: R) = srcR ((stepE A P t).reverse ++ R) := by
    rw [srcR_append, srcR_append, srcR_append, ht.1]
    show srcR A.reverse ++ srcR P ++ (t ++ srcR R) = _
    simp
  have e2 : tgtR (A.reverse ++ P ++ (0, t) :: R) = tgtR ((stepE A P t).reverse ++ R) := by
    rw [tgtR_append, tgtR_append, tgtR_append, ht.2]
    show tgtR A.reverse ++ tgtR P ++ (t ++ tgtR R) = _
    simp
  have e3 : edR (A.reverse ++ P ++ (0, t) :: R) = edR A + edR P + edR R := by
    rw [edR_append, edR_append, edR_reverse]
    show edR A + edR P + (0 + edR R) = _
    omega
  have hops : Ops ((stepE A P t).reverse ++ R) := by
    intro d hd
    rcases List.mem_append.1 hd with h | h
    · have h := List.mem_reverse.1 h
      revert h
      unfold stepE
      split
      · split
        · intro h; simp only [List.mem_cons] at h; rcases h with rfl | rfl | h <;> first | simp | exact hA d h
        · split
          · intro h; simp only [List.mem_cons] at h; rcases h with rfl | rfl | h <;> first | simp | exact hA d h
          · intro h; simp only [List.mem_cons] at h
            rcases h with rfl | rfl | rfl | h <;> first | simp | skip
            unfold fac at h
            simp only at h
            split at h
            · exact hA d h
            · rcases pushE_mem h with h | ⟨h, _⟩
              · exact hA d h
              · exact .inr (.inl h)
      · split
        · intro h
          rcases pushE_mem h with h | ⟨h, _⟩
          · exact hA d h
          · exact .inr (.inl h)
        · intro h
          rcases List.mem_cons.1 h with rfl | h
          · simp
          · rcases List.mem_append.1 h with h | h
            · rcases hP d (List.mem_reverse.1 h) with q | q
              · exact .inl q
              · exact .inr (.inr q)
            · exact hA d h
    · exact hR d h
  have hlow := dst_le_ed _ hops
  rw [edR_append, edR_reverse] at hlow
  rw [e1, e2, e3] at hb
  refine ⟨by omega, ?_⟩
  rw [edR_append, edR_reverse]
  omega
end Go.Proofs.YthkiaiilpaojnaaDoorUF
