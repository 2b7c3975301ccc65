/- Merging, over characters: what stays. -/
import Derived.Test.YthkiaiilpaojnaaDoorUPB
import Derived.Test.YthkiaiilpaojnaaDoorUPLoop
import Derived.Test.YthkiaiilpaojnaaDoorUPUtf
import Derived.Test.YthkiaiilpaojnaaDoorUPEnc
import Derived.Test.YthkiaiilpaojnaaDoorUPParts
import Derived.Test.YthkiaiilpaojnaaDoorUPTexts
import Derived.Test.YthkiaiilpaojnaaDoorUPCmp
import Derived.Test.YthkiaiilpaojnaaDoorUPMerge
import Derived.Test.YthkiaiilpaojnaaDoorUFB
namespace Go.Proofs.YthkiaiilpaojnaaDoorUF
open Go
set_option linter.unusedVariables false
set_option linter.unusedSimpArgs false
def Ok (x : List Rp) : Prop := ∀ d ∈ x, OkR d
theorem Ok.nil : Ok [] := fun d h => by cases h
theorem Ok.append {x y : List Rp} (h : Ok x) (k : Ok y) : Ok (x ++ y) := fun d hd => (List.mem_append.1 hd).elim (h d) (k d)
theorem Ok.cons' {d : Rp} {x : List Rp} (h : OkR d) (k : Ok x) : Ok (d :: x) := fun e he => (List.mem_cons.1 he).elim (fun e => by rw [e]; exact h) (k e)
theorem Ok.of_append {x y : List Rp} (h : Ok (x ++ y)) : Ok x ∧ Ok y := ⟨fun d hd => h d (List.mem_append.2 (.inl hd)), fun d hd => h d (List.mem_append.2 (.inr hd))⟩
theorem Ok.of_cons {d : Rp} {x : List Rp} (h : Ok (d :: x)) : OkR d ∧ Ok x := ⟨h d (by simp), fun e he => h e (by simp [he])⟩
theorem Ok.reverse {x : List Rp} (h : Ok x) : Ok x.reverse := fun d hd => h d (List.mem_reverse.1 hd)
theorem Ok.ops {x : List Rp} (h : Ok x) : Ops x := fun d hd => (h d hd).1
theorem Valids.of_append {x y : List Int} (h : Valids (x ++ y)) : Valids x ∧ Valids y := ⟨fun d hd => h d (by simp [hd]), fun d hd => h d (by simp [hd])⟩
theorem dels_valid : ∀ {P : List Rp}, Ok P → Valids (delsR P) ∧ Valids (inssR P)
  | [], _ => ⟨Valids.nil, Valids.nil⟩
  | d :: P, h => by
    have ih := dels_valid h.of_cons.2
    have hd := h.of_cons.1.2
    unfold delsR inssR
    refine ⟨Valids.append ?_ ih.1, Valids.append ?_ ih.2⟩ <;> split <;> first | exact hd | exact Valids.nil
theorem Ok.pushE {u : List Int} (hu : Valids u) : ∀ {A : List Rp}, Ok A → Ok (pushE u A)
  | [], _ => Ok.cons' ⟨.inr (.inl rfl), hu⟩ Ok.nil
  | (k, s) :: A, h => by
    rw [Go.Proofs.YthkiaiilpaojnaaDoorUF.pushE]
    split
    · exact Ok.cons' ⟨.inr (.inl rfl), h.of_cons.1.2.append hu⟩ h.of_cons.2
    · exact Ok.cons' ⟨.inr (.inl rfl), hu⟩ h
theorem Ok.stepE {A P : List Rp} {t : List Int} (hA : Ok A) (hP : Ok P) (ht : Valids t) : Ok (stepE A P t) := by
  have hd := dels_valid hP
  unfold Go.Proofs.YthkiaiilpaojnaaDoorUF.stepE
  split
  · split
    · exact Ok.cons' ⟨.inr (.inl rfl), ht⟩ (Ok.cons' ⟨.inr (.inr rfl), hd.2⟩ hA)
    · split
      · exact Ok.cons' ⟨.inr (.inl rfl), ht⟩ (Ok.cons' ⟨.inl rfl, hd.1⟩ hA)
      · simp only
        have h1 : Ok (fac A (delsR P) (inssR P) t).A := by
          unfold fac; simp only; split
          · exact hA
          · exact Ok.pushE (hd.2.take _) hA
        refine Ok.cons' ⟨.inr (.inl rfl), ?_⟩ (Ok.cons' ⟨.inr (.inr rfl), ?_⟩ (Ok.cons' ⟨.inl rfl, ?_⟩ h1)) <;> unfold fac <;> simp only
        · exact ((hd.2.drop _).drop _).append ht
        · exact (hd.2.drop _).take _
        · exact (hd.1.drop _).take _
  · split
    · exact Ok.pushE ht hA
    · exact Ok.cons' ⟨.inr (.inl rfl), ht⟩ (hP.reverse.append hA)
theorem Ok.run1 : ∀ {R A P : List Rp}, Ok A → Ok P → Ok R → Ok (run1 A P R).1 ∧ Ok (run1 A P R).2
  | [], A, P, hA, hP, _ => ⟨hA, hP⟩
  | d :: R, A, P, hA, hP, hR => by
    rw [Go.Proofs.YthkiaiilpaojnaaDoorUF.run1]
    split
    · exact Ok.run1 (hA.stepE hP hR.of_cons.1.2) Ok.nil hR.of_cons.2
    · exact Ok.run1 hA (hP.append (Ok.cons' hR.of_cons.1 Ok.nil)) hR.of_cons.2
theorem Ok.chop : ∀ {A : List Rp}, Ok A → Ok (chop A)
  | [], _ => Ok.nil
  | (k, s) :: A, h => by
    rw [Go.Proofs.YthkiaiilpaojnaaDoorUF.chop]; split
    · exact h.of_cons.2
    · exact h
theorem Ok.join1 {x : List Rp} (h : Ok x) : Ok (join1 x) := by
  have := Ok.run1 Ok.nil Ok.nil h
  exact (Ok.chop (this.1.stepE this.2 Valids.nil)).reverse
theorem Ok.slide : ∀ (k : Nat) {A R : List Rp} {ch : Bool}, R.length = k → Ok A → Ok R → Ok (slide A R ch).1 := by
  intro k
  induction k using Nat.strongRecOn with
  | _ k ih =>
    intro A R ch hk hA hR
    match R, hk, hR with
    | [], hk, hR => unfold Go.Proofs.YthkiaiilpaojnaaDoorUF.slide; exact hA.reverse.append hR
    | [p], hk, hR => unfold Go.Proofs.YthkiaiilpaojnaaDoorUF.slide; exact hA.reverse.append hR
    | [p, c], hk, hR => unfold Go.Proofs.YthkiaiilpaojnaaDoorUF.slide; exact hA.reverse.append hR
    | p :: c :: q :: R, hk, hR =>
      rw [Go.Proofs.YthkiaiilpaojnaaDoorUF.slide]
      have hp := hR.of_cons.1
      have hc := hR.of_cons.2.of_cons.1
      have hq := hR.of_cons.2.of_cons.2.of_cons.1
      have hR' := hR.of_cons.2.of_cons.2.of_cons.2
      have skip := ih (c :: q :: R).length (by rw [← hk]; simp) (A := p :: A) (R := c :: q :: R) (ch := ch) rfl (Ok.cons' hp hA) hR.of_cons.2
      split
      · split
        · exact ih (((q.1, p.2 ++ q.2) :: R) : List Rp).length (by rw [← hk]; simp) rfl (Ok.cons' ⟨hc.1, hp.2.append (hc.2.take _)⟩ hA) (Ok.cons' ⟨hq.1, hp.2.append hq.2⟩ hR')
        · split
          · exact ih (((c.1, c.2.drop q.2.length ++ q.2) :: R) : List Rp).length (by rw [← hk]; simp) rfl (Ok.cons' ⟨hp.1, hp.2.append hq.2⟩ hA) (Ok.cons' ⟨hc.1, (hc.2.drop _).append hq.2⟩ hR')
          · exact skip
      · exact skip
theorem Ok.mergeN : ∀ (k : Nat) {x : List Rp}, Ok x → Ok (mergeN k x)
  | 0, x, h => h
  | k + 1, x, h => by
    have := Ok.slide (Go.Proofs.YthkiaiilpaojnaaDoorUF.join1 x).length (A := []) (R := Go.Proofs.YthkiaiilpaojnaaDoorUF.join1 x) (ch := false) rfl Ok.nil h.join1
    rw [Go.Proofs.YthkiaiilpaojnaaDoorUF.mergeN]
    split
    · exact Ok.mergeN k this
    · exact this
theorem Ok.merge {x : List Rp} (h : Ok x) : Ok (merge x) := Ok.mergeN _ h
/-! ### The texts -/
theorem src_eds : ∀ {P : List Rp}, Eds P → srcR P = delsR P ∧ tgtR P = inssR P
  | [], _ => ⟨rfl, rfl⟩
  | d :: P, h => by
    have ih := src_eds (P := P) fun e he => h e (by simp [he])
    unfold srcR tgtR delsR inssR
    rw [ih.1, ih.2]
    rcases h d (by simp) with hd | hd <;> simp [hd]
theorem src_pushE (u : List Int) : ∀ A : List Rp, srcR (pushE u A).reverse = srcR A.reverse ++ u ∧ tgtR (pushE u A).reverse = tgtR A.reverse ++ u
  | [] => by simp [pushE, srcR, tgtR]
  | (k, s) :: A => by
    rw [pushE]
    split
    · rename_i h; subst h
      simp [srcR_append, tgtR_append, srcR, tgtR]
    · simp [srcR_append, tgtR_append, srcR, tgtR]
theorem fac_texts (A : List Rp) (td ti t : List Int) : srcR (fac A td ti t).A.reverse ++ (fac A td ti t).td ++ (fac A td ti t).t = srcR A.reverse ++ td ++ t ∧ tgtR (fac A td ti t).A.reverse ++ (fac A td ti t).ti ++ (fac A td ti t).t = tgtR A.reverse ++ ti ++ t := by
  have h1 := cpl_take ti td
  have h2 := csl_drop (ti.drop (cpl ti td)) (td.drop (cpl ti td))
  unfold fac
  simp only
  generalize cpl ti td = c at *
  generalize csl (ti.drop c) (td.drop c) = s at *
  have hA : srcR (if c = 0 then A else pushE (ti.take c) A).reverse = srcR A.reverse ++ ti.take c ∧ tgtR (if c = 0 then A else pushE (ti.take c) A).reverse = tgtR A.reverse ++ ti.take c := by
    split
    · rename_i h; subst h; simp
    · exact src_pushE _ _
  rw [hA.1, hA.2]
  constructor
  · rw [h1, h2, ← List.append_assoc]
    have : (td.drop c).take ((td.drop c).length - s) ++ (td.drop c).drop ((td.drop c).length - s) = td.drop c := List.take_append_drop _ _
    rw [List.append_assoc (srcR A.reverse ++ td.take c), this, List.append_assoc (srcR A.reverse), List.take_append_drop]
  · rw [← List.append_assoc]
    have : (ti.drop c).take ((ti.drop c).length - s) ++ (ti.drop c).drop ((ti.drop c).length - s) = ti.drop c := List.take_append_drop _ _
    rw [List.append_assoc (tgtR A.reverse ++ ti.take c), this, List.append_assoc (tgtR A.reverse), List.take_append_drop]
theorem stepE_texts {A P : List Rp} (hP : Eds P) (t : List Int) : srcR (stepE A P t).reverse = srcR A.reverse ++ srcR P ++ t ∧ tgtR (stepE A P t).reverse = tgtR A.reverse ++ tgtR P ++ t := by
  have he := src_eds hP
  rw [he.1, he.2]
  unfold stepE
  split
  · split
    · rename_i h
      rw [dels_nil h]
      simp [srcR_append, tgtR_append, srcR, tgtR]
    · split
      · rename_i h
        rw [inss_nil h]
        simp [srcR_append, tgtR_append, srcR, tgtR]
      · have := fac_texts A (delsR P) (inssR P) t
        rw [← this.1, ← this.2]
        simp [srcR_append, tgtR_append, srcR, tgtR]
  · split
    · rename_i h; subst h
      simpa [delsR, inssR] using src_pushE t A
    · simp [srcR_append, tgtR_append, srcR, tgtR, he.1, he.2]
theorem run1_texts : ∀ (R A P : List Rp), Eds P → Ops R → srcR ((run1 A P R).1.reverse ++ (run1 A P R).2) = srcR (A.reverse ++ P ++ R) ∧ tgtR ((run1 A P R).1.reverse ++ (run1 A P R).2) = tgtR (A.reverse ++ P ++ R)
  | [], A, P, _, _ => by simp [run1]
  | d :: R, A, P, hP, hR => by
    rw [run1]
    split
    · rename_i h0
      have ih := run1_texts R (stepE A P d.2) [] Eds.nil hR.cons.2
      have h1 := stepE_texts (A := A) hP d.2
      rw [ih.1, ih.2]
      simp [srcR_append, tgtR_append, srcR, tgtR, h1.1, h1.2, h0]
    · rename_i h0
      have ih := run1_texts R A (P ++ [d]) (hP.snoc hR.cons.1 h0) hR.cons.2
      rw [ih.1, ih.2]
      simp
theorem chop_texts : ∀ A : List Rp, srcR (chop A).reverse = srcR A.reverse ∧ tgtR (chop A).reverse = tgtR A.reverse
  | [] => ⟨rfl, rfl⟩
  | (k, s) :: A => by
    rw [chop]; split
    · rename_i h; subst h; simp [srcR_append, tgtR_append, srcR, tgtR]
    · exact ⟨rfl, rfl⟩
theorem join1_texts {x : List Rp} (hx : Ops x) : srcR (join1 x) = srcR x ∧ tgtR (join1 x) = tgtR x := by
  have h1 := run1_texts x [] [] Eds.nil hx
  have h2 := (phi_run1 x [] [] Eds.nil hx).2
  have h3 := stepE_texts (A := (run1 [] [] x).1) h2 []
  have h4 := chop_texts (stepE (run1 [] [] x).1 (run1 [] [] x).2 [])
  unfold join1
  rw [h4.1, h4.2, h3.1, h3.2]
  simp only [srcR_append, tgtR_append, List.reverse_nil, List.nil_append] at h1
  rw [List.append_nil, List.append_nil, h1.1, h1.2]
  exact ⟨rfl, rfl⟩
theorem suffix_take {p c : List Int} (h : p <:+ c) : c.take (c.length - p.length) ++ p = c := by
  obtain ⟨x, rfl⟩ := h
  simp
theorem prefix_drop {q c : List Int} (h : q <+: c) : q ++ c.drop q.length = c := by
  obtain ⟨x, rfl⟩ := h
  simp
theorem slide_texts : ∀ (k : Nat) (A R : List Rp) (ch : Bool), R.length = k → srcR (slide A R ch).1 = srcR (A.reverse ++ R) ∧ tgtR (slide A R ch).1 = tgtR (A.reverse ++ R) ∧ edR (slide A R ch).1 = edR (A.reverse ++ R) := by
  intro k
  induction k using Nat.strongRecOn with
  | _ k ih =>
    intro A R ch hk
    match R, hk with
    | [], hk => unfold slide; exact ⟨rfl, rfl, rfl⟩
    | [p], hk => unfold slide; exact ⟨rfl, rfl, rfl⟩
    | [p, c], hk => unfold slide; exact ⟨rfl, rfl, rfl⟩
    | p :: c :: q :: R, hk =>
      rw [slide]
      have skip := ih (c :: q :: R).length (by rw [← hk]; simp) (p :: A) (c :: q :: R) ch rfl
      rw [List.reverse_cons, List.append_assoc, List.singleton_append] at skip
      split
      · rename_i h
        obtain ⟨h1, h2⟩ := h
        split
        · rename_i hs
          have e := suffix_take hs
          have := ih (((q.1, p.2 ++ q.2) :: R) : List Rp).length (by rw [← hk]; simp) ((c.1, p.2 ++ c.2.take (c.2.length - p.2.length)) :: A) ((q.1, p.2 ++ q.2) :: R) true rfl
          rw [this.1, this.2.1, this.2.2]
          have hl := hs.length_le
          simp only [srcR_append, tgtR_append, edR_append, srcR, tgtR, edR, List.reverse_cons, h1, h2, List.append_assoc]
          have hlen : (p.2 ++ c.2.take (c.2.length - p.2.length)).length = c.2.length := by simp; omega
          refine ⟨?_, ?_, ?_⟩
          · by_cases hc : c.1 = 1
            · simp [hc]
            · simp only [hc, if_false]
              have : p.2 ++ (List.take (c.2.length - p.2.length) c.2 ++ (p.2 ++ (q.2 ++ srcR R))) = p.2 ++ ((List.take (c.2.length - p.2.length) c.2 ++ p.2) ++ (q.2 ++ srcR R)) := by simp
              simp [this, e]
          · by_cases hc : c.1 = -1
            · simp [hc]
            · simp only [hc, if_false]
              have : p.2 ++ (List.take (c.2.length - p.2.length) c.2 ++ (p.2 ++ (q.2 ++ tgtR R))) = p.2 ++ ((List.take (c.2.length - p.2.length) c.2 ++ p.2) ++ (q.2 ++ tgtR R)) := by simp
              simp [this, e]
          · rw [hlen]; simp
        · split
          · rename_i hs
            have e := prefix_drop hs
            have := ih (((c.1, c.2.drop q.2.length ++ q.2) :: R) : List Rp).length (by rw [← hk]; simp) ((p.1, p.2 ++ q.2) :: A) ((c.1, c.2.drop q.2.length ++ q.2) :: R) true rfl
            rw [this.1, this.2.1, this.2.2]
            have hl := hs.length_le
            simp only [srcR_append, tgtR_append, edR_append, srcR, tgtR, edR, List.reverse_cons, h1, h2, List.append_assoc]
            have hlen : (c.2.drop q.2.length ++ q.2).length = c.2.length := by simp; omega
            refine ⟨?_, ?_, ?_⟩
            · by_cases hc : c.1 = 1
              · simp [hc]
              · simp only [hc, if_false]
                have : p.2 ++ (q.2 ++ (List.drop q.2.length c.2 ++ (q.2 ++ srcR R))) = p.2 ++ ((q.2 ++ List.drop q.2.length c.2) ++ (q.2 ++ srcR R)) := by simp
                simp [this, e]
            · by_cases hc : c.1 = -1
              · simp [hc]
              · simp only [hc, if_false]
                have : p.2 ++ (q.2 ++ (List.drop q.2.length c.2 ++ (q.2 ++ tgtR R))) = p.2 ++ ((q.2 ++ List.drop q.2.length c.2) ++ (q.2 ++ tgtR R)) := by simp
                simp [this, e]
            · rw [hlen]; simp
          · exact skip
      · exact skip
/-! ### No more is edited -/
theorem ed_stepE {A P : List Rp} (hP : Eds P) (t : List Int) : edR (stepE A P t) ≤ edR A + edR P := by
  have hd := dels_le P
  unfold stepE
  split
  · split
    · simp [edR]; omega
    · split
      · simp [edR]; omega
      · simp only [edR]
        rw [edR_fac]
        have e1 : (fac A (delsR P) (inssR P) t).td.length ≤ (delsR P).length := by unfold fac; simp only [List.length_take, List.length_drop]; omega
        have e2 : (fac A (delsR P) (inssR P) t).ti.length ≤ (inssR P).length := by unfold fac; simp only [List.length_take, List.length_drop]; omega
        simp; omega
  · split
    · rw [edR_pushE]; omega
    · simp [edR, edR_append, edR_reverse]; omega
theorem ed_run1 : ∀ (R A P : List Rp), Eds P → Ops R → edR (run1 A P R).1 + edR (run1 A P R).2 ≤ edR A + edR P + edR R
  | [], A, P, _, _ => by simp [run1, edR]
  | d :: R, A, P, hP, hR => by
    rw [run1]
    split
    · rename_i h0
      have ih := ed_run1 R (stepE A P d.2) [] Eds.nil hR.cons.2
      have h1 := ed_stepE (A := A) hP d.2
      simp only [edR] at ih ⊢
      omega
    · rename_i h0
      have ih := ed_run1 R A (P ++ [d]) (hP.snoc hR.cons.1 h0) hR.cons.2
      rw [edR_append] at ih
      simp only [edR] at ih ⊢
      omega
theorem ed_chop : ∀ A : List Rp, edR (chop A) ≤ edR A
  | [] => Nat.le_refl _
  | (k, s) :: A => by rw [chop]; split <;> simp only [edR] <;> omega
theorem ed_join1 {x : List Rp} (hx : Ops x) : edR (join1 x) ≤ edR x := by
  have h1 := ed_run1 x [] [] Eds.nil hx
  have h2 := (phi_run1 x [] [] Eds.nil hx).2
  have h3 := ed_stepE (A := (run1 [] [] x).1) h2 []
  have h4 := ed_chop (stepE (run1 [] [] x).1 (run1 [] [] x).2 [])
  unfold join1
  rw [edR_reverse]
  simp only [edR] at h1
  omega
theorem mergeN_texts : ∀ (k : Nat) {x : List Rp}, Ok x → srcR (mergeN k x) = srcR x ∧ tgtR (mergeN k x) = tgtR x ∧ edR (mergeN k x) ≤ edR x
  | 0, x, _ => ⟨rfl, rfl, Nat.le_refl _⟩
  | k + 1, x, h => by
    have h1 := join1_texts h.ops
    have h2 := slide_texts _ [] (join1 x) false rfl
    have h3 := ed_join1 h.ops
    have h4 := Ok.slide (join1 x).length (A := []) (R := join1 x) (ch := false) rfl Ok.nil h.join1
    simp only [List.reverse_nil, List.nil_append] at h2
    rw [mergeN]
    split
    · have ih := mergeN_texts k h4
      rw [ih.1, ih.2.1, h2.1, h2.2.1, h1.1, h1.2]
      exact ⟨rfl, rfl, by have := ih.2.2; rw [h2.2.2] at this; omega⟩
    · rw [h2.1, h2.2.1, h2.2.2, h1.1, h1.2]; exact ⟨rfl, rfl, h3⟩
theorem merge_texts {x : List Rp} (h : Ok x) : srcR (merge x) = srcR x ∧ tgtR (merge x) = tgtR x ∧ edR (merge x) ≤ edR x := mergeN_texts _ h
/-! ### How much there is -/
theorem all_le : ∀ {x : List Rp}, allR x ≤ (srcR x).length + (tgtR x).length
  | [] => Nat.le_refl _
  | d :: x => by
    have := all_le (x := x)
    rw [allR_cons]
    unfold srcR tgtR
    simp only [List.length_append]
    by_cases h1 : d.1 = 1
    · rw [if_pos h1, if_neg (by omega)]; simp; omega
    · rw [if_neg h1]; omega
theorem le_all : ∀ x : List Rp, (srcR x).length + (tgtR x).length ≤ 2 * allR x := fun x => by
  have := srcR_le x; have := tgtR_le x; omega
end Go.Proofs.YthkiaiilpaojnaaDoorUF
