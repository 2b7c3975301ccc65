/- Merging what was merged. -/
import Derived.Test.YthkiaiilpaojnaaDoorUPB
import Derived.Test.YthkiaiilpaojnaaDoorUPLoop
import Derived.Test.YthkiaiilpaojnaaDoorUPUtf
import Derived.Test.YthkiaiilpaojnaaDoorUPEnc
import Derived.Test.YthkiaiilpaojnaaDoorUPParts
import Derived.Test.YthkiaiilpaojnaaDoorUPTexts
import Derived.Test.YthkiaiilpaojnaaDoorUPCmp
import Derived.Test.YthkiaiilpaojnaaDoorUPMerge
import Derived.Test.YthkiaiilpaojnaaDoorUPMerge2
import Derived.Test.YthkiaiilpaojnaaDoorUFB
namespace Go.Proofs.YthkiaiilpaojnaaDoorUF
open Go
set_option linter.unusedVariables false
set_option linter.unusedSimpArgs false
theorem cpl_dropped (x y : List Int) : cpl (x.drop (cpl x y)) (y.drop (cpl x y)) = 0 := by
  cases hx : x.drop (cpl x y) with
  | nil => rfl
  | cons a x' =>
    cases hy : y.drop (cpl x y) with
    | nil => rfl
    | cons b y' => rw [cpl, if_neg (cpl_head hx hy)]
theorem cpl_take_zero {x y : List Int} (h : cpl x y = 0) (i j : Nat) : cpl (x.take i) (y.take j) = 0 := by
  cases x with
  | nil => simp [cpl]
  | cons a x =>
    cases y with
    | nil => cases i <;> simp [cpl]
    | cons b y =>
      cases i with
      | zero => simp [cpl]
      | succ i =>
        cases j with
        | zero => simp [cpl]
        | succ j =>
          rw [cpl] at h
          rw [List.take_succ_cons, List.take_succ_cons, cpl]
          split
          · rename_i e; rw [if_pos e] at h; omega
          · rfl
theorem csl_dropped (x y : List Int) : csl (x.take (x.length - csl x y)) (y.take (y.length - csl x y)) = 0 := by
  have h := cpl_dropped x.reverse y.reverse
  have h1 := csl_le_left x y
  have h2 := csl_le_right x y
  unfold csl at *
  rw [List.reverse_take, List.reverse_take]
  rw [show x.length - (x.length - cpl x.reverse y.reverse) = cpl x.reverse y.reverse by omega, show y.length - (y.length - cpl x.reverse y.reverse) = cpl x.reverse y.reverse by omega]
  exact h
/-- What one pass makes (the other way round). -/
inductive NA : List Rp → Prop
  | nil : NA []
  | one (s : List Int) : NA [(0, s)]
  | ed (t : List Int) (e : Rp) (A : List Rp) : (e.1 = -1 ∨ e.1 = 1) → NA A → NA ((0, t) :: e :: A)
  | two (t td ti : List Int) (A : List Rp) : cpl ti td = 0 → csl ti td = 0 → NA A → NA ((0, t) :: (1, ti) :: (-1, td) :: A)
theorem NA.head {A : List Rp} (h : NA A) : A = [] ∨ ∃ s B, A = (0, s) :: B ∧ ∀ u, NA ((0, u) :: B) := by
  cases h with
  | nil => exact .inl rfl
  | one s => exact .inr ⟨s, [], rfl, fun u => NA.one u⟩
  | ed t e A h1 h2 => exact .inr ⟨t, e :: A, rfl, fun u => NA.ed u e A h1 h2⟩
  | two t td ti A h1 h2 h3 => exact .inr ⟨t, _, rfl, fun u => NA.two u td ti A h1 h2 h3⟩
theorem NA.pushE {A : List Rp} (u : List Int) (h : NA A) : NA (pushE u A) := by
  rcases h.head with rfl | ⟨s, B, rfl, hB⟩
  · exact NA.one u
  · rw [Go.Proofs.YthkiaiilpaojnaaDoorUF.pushE, if_pos rfl]
    exact hB _
theorem NA.stepE {A P : List Rp} (t : List Int) (hA : NA A) (hP : Eds P) : NA (stepE A P t) := by
  unfold Go.Proofs.YthkiaiilpaojnaaDoorUF.stepE
  split
  · split
    · exact NA.ed _ _ _ (.inr rfl) hA
    · split
      · exact NA.ed _ _ _ (.inl rfl) hA
      · refine NA.two _ _ _ _ ?_ ?_ ?_ <;> unfold fac <;> simp only
        · exact cpl_take_zero (cpl_dropped _ _) _ _
        · exact csl_dropped _ _
        · split
          · exact hA
          · exact NA.pushE _ hA
  · split
    · exact NA.pushE _ hA
    · rename_i h1 h2
      match P, h1, h2, hP with
      | [e], _, _, hP => exact NA.ed _ _ _ (hP e (by simp)) hA
      | e :: f :: P, h1, _, _ => simp at h1
theorem NA.run1 : ∀ (R A P : List Rp), NA A → Eds P → Ops R → NA (run1 A P R).1
  | [], A, P, hA, _, _ => hA
  | d :: R, A, P, hA, hP, hR => by
    rw [Go.Proofs.YthkiaiilpaojnaaDoorUF.run1]
    split
    · exact NA.run1 R _ [] (NA.stepE _ hA hP) Eds.nil hR.cons.2
    · rename_i h0
      exact NA.run1 R A _ hA (hP.snoc hR.cons.1 h0) hR.cons.2
theorem step_one (A : List Rp) (e : Rp) (t : List Int) : stepE A [e] t = (0, t) :: e :: A := by simp [stepE]
theorem step_two (A : List Rp) (td ti t : List Int) (h1 : cpl ti td = 0) (h2 : csl ti td = 0) : stepE A [(-1, td), (1, ti)] t = (0, t) :: (1, ti) :: (-1, td) :: A := by
  unfold stepE
  rw [if_pos (by simp), if_neg (by simp [cdR]), if_neg (by simp [ciR])]
  simp [fac, delsR, inssR, h1, h2]
theorem run_back {A : List Rp} (h : NA A) : ∀ rest, run1 [] [] (A.reverse ++ rest) = run1 A [] rest := by
  induction h with
  | nil => intro rest; rfl
  | one s => intro rest; simp [run1, stepE, pushE]
  | ed t e A he hA ih =>
    intro rest
    have e1 : ((0, t) :: e :: A).reverse ++ rest = A.reverse ++ (e :: (0, t) :: rest) := by simp
    rw [e1]
    have hne : e.1 ≠ 0 := by rcases he with h | h <;> omega
    have key : run1 A [] (e :: (0, t) :: rest) = run1 ((0, t) :: e :: A) [] rest := by
      rw [run1, if_neg hne, run1, if_pos rfl, List.nil_append, step_one]
    rw [ih, key]
  | two t td ti A h1 h2 hA ih =>
    intro rest
    have e1 : ((0, t) :: (1, ti) :: (-1, td) :: A).reverse ++ rest = A.reverse ++ ((-1, td) :: (1, ti) :: (0, t) :: rest) := by simp
    rw [e1]
    have key : run1 A [] ((-1, td) :: (1, ti) :: (0, t) :: rest) = run1 ((0, t) :: (1, ti) :: (-1, td) :: A) [] rest := by
      rw [run1, if_neg (by simp), run1, if_neg (by simp), run1, if_pos rfl]
      simp only [List.nil_append, List.singleton_append, step_two A td ti t h1 h2]
    rw [ih, key]
theorem ne_stepE0 {A P : List Rp} {t : List Int} : (stepE A P t) ≠ [] := by
  unfold stepE
  split
  · split
    · simp
    · split <;> simp
  · split
    · cases A with
      | nil => simp [pushE]
      | cons d A => obtain ⟨k, s⟩ := d; rw [pushE]; split <;> simp
    · simp
theorem join1_again {x : List Rp} (hx : Ops x) : join1 (join1 x) = join1 x := by
  have h1 := phi_run1 x [] [] Eds.nil hx
  have hB := NA.stepE (A := (run1 [] [] x).1) (P := (run1 [] [] x).2) [] (NA.run1 x [] [] NA.nil Eds.nil hx) h1.2
  have hj : join1 x = (chop (stepE (run1 [] [] x).1 (run1 [] [] x).2 [])).reverse := rfl
  rw [hj]
  have hne0 : (stepE (run1 [] [] x).1 (run1 [] [] x).2 []) ≠ [] := ne_stepE0
  generalize stepE (run1 [] [] x).1 (run1 [] [] x).2 [] = B at hB hne0
  obtain ⟨s, C, rfl, _⟩ := hB.head.resolve_left hne0
  by_cases hs : s = []
  · subst hs
    have hc : chop ((0, []) :: C) = C := by rw [chop, if_pos rfl]
    rw [hc]
    unfold join1
    cases hB with
    | one => rfl
    | ed t e A he hA =>
      have hne : e.1 ≠ 0 := by rcases he with h | h <;> omega
      have hr : run1 [] [] (e :: A).reverse = (A, [e]) := by
        have e1 : (e :: A).reverse = A.reverse ++ [e] := by simp
        rw [e1]
        have key : run1 A [] [e] = (A, [e]) := by rw [run1, if_neg hne]; rfl
        rw [run_back hA, key]
      rw [hr, step_one, chop, if_pos rfl]
    | two t td ti A h1 h2 hA =>
      have hr : run1 [] [] ((1, ti) :: (-1, td) :: A).reverse = (A, [(-1, td), (1, ti)]) := by
        have e1 : ((1, ti) :: (-1, td) :: A : List Rp).reverse = A.reverse ++ [(-1, td), (1, ti)] := by simp
        rw [e1]
        have key : run1 A [] [(-1, td), (1, ti)] = (A, [(-1, td), (1, ti)]) := by rw [run1, if_neg (by simp), run1, if_neg (by simp)]; rfl
        rw [run_back hA, key]
      rw [hr]
      simp only
      rw [step_two A td ti [] h1 h2, chop, if_pos rfl]
  · have hc : chop ((0, s) :: C) = (0, s) :: C := by rw [chop, if_neg hs]
    rw [hc]
    have hr := run_back hB []
    rw [List.append_nil] at hr
    have hr2 : run1 ((0, s) :: C) [] [] = ((0, s) :: C, []) := rfl
    unfold join1
    rw [hr, hr2]
    have : stepE ((0, s) :: C) [] [] = (0, s) :: C := by simp [stepE, pushE]
    simp only
    rw [this, hc]
theorem slide_still : ∀ (k : Nat) (A R : List Rp), R.length = k → (slide A R true).2 = true ∧ ((slide A R false).2 = false → (slide A R false).1 = A.reverse ++ R) := by
  intro k
  induction k using Nat.strongRecOn with
  | _ k ih =>
    intro A R hk
    match R, hk with
    | [], hk => constructor <;> (intros; unfold slide; rfl)
    | [p], hk => constructor <;> (intros; unfold slide; rfl)
    | [p, c], hk => constructor <;> (intros; unfold slide; rfl)
    | p :: c :: q :: R, hk =>
      have skip := ih (c :: q :: R).length (by rw [← hk]; simp) (p :: A) (c :: q :: R) rfl
      rw [slide, slide]
      split
      · split
        · have h1 := ih (((q.1, p.2 ++ q.2) :: R) : List Rp).length (by rw [← hk]; simp) ((c.1, p.2 ++ c.2.take (c.2.length - p.2.length)) :: A) ((q.1, p.2 ++ q.2) :: R) rfl
          exact ⟨h1.1, fun h => by rw [h1.1] at h; cases h⟩
        · split
          · have h1 := ih (((c.1, c.2.drop q.2.length ++ q.2) :: R) : List Rp).length (by rw [← hk]; simp) ((p.1, p.2 ++ q.2) :: A) ((c.1, c.2.drop q.2.length ++ q.2) :: R) rfl
            exact ⟨h1.1, fun h => by rw [h1.1] at h; cases h⟩
          · exact ⟨skip.1, fun h => by rw [skip.2 h]; simp⟩
      · exact ⟨skip.1, fun h => by rw [skip.2 h]; simp⟩
theorem slide_phi0 {x : List Rp} (hx : Ops x) (h : (slide [] (join1 x) false).2 = true) : phi (slide [] (join1 x) false).1 < phi x := by
  have h1 := phi_slide _ [] (join1 x) false rfl
  have h2 := phi_join1 hx
  rw [if_pos ⟨h, rfl⟩] at h1
  have : phi [] = 0 := rfl
  omega
/-- What merging ends with: one pass, and nothing to be moved. -/
theorem merge_end : ∀ (k : Nat) {x : List Rp}, Ok x → phi x < k → ∃ z, Ok z ∧ mergeN k x = join1 z ∧ (slide [] (join1 z) false).2 = false
  | 0, x, _, h => by omega
  | k + 1, x, hx, hk => by
    rw [mergeN]
    split
    · rename_i h
      have := slide_phi0 hx.ops h
      exact merge_end k (Ok.slide _ rfl Ok.nil hx.join1) (by omega)
    · rename_i h
      have h : (slide [] (join1 x) false).2 = false := by simpa using h
      exact ⟨x, hx, by rw [(slide_still _ [] (join1 x) rfl).2 h]; rfl, h⟩
theorem merge_again {x : List Rp} (hx : Ok x) : merge (merge x) = merge x := by
  obtain ⟨z, hz, h1, h2⟩ := merge_end (phi x + 1) hx (by omega)
  have e : merge x = join1 z := h1
  rw [e]
  unfold merge
  rw [mergeN, join1_again hz.ops, if_neg (by rw [h2]; simp), (slide_still _ [] (join1 z) rfl).2 h2]
  rfl
end Go.Proofs.YthkiaiilpaojnaaDoorUF
