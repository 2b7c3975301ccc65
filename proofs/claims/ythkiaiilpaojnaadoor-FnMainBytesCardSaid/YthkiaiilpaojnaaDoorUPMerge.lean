/- Merging, over characters: what it makes of a difference. -/
import Derived.Test.YthkiaiilpaojnaaDoorUPB
import Derived.Test.YthkiaiilpaojnaaDoorUPLoop
import Derived.Test.YthkiaiilpaojnaaDoorUPUtf
import Derived.Test.YthkiaiilpaojnaaDoorUPEnc
import Derived.Test.YthkiaiilpaojnaaDoorUPParts
import Derived.Test.YthkiaiilpaojnaaDoorUPTexts
import Derived.Test.YthkiaiilpaojnaaDoorUPCmp
import Derived.Test.YthkiaiilpaojnaaDoorUFB
namespace Go.Proofs.YthkiaiilpaojnaaDoorUF
open Go
set_option linter.unusedVariables false
set_option linter.unusedSimpArgs false
def delsR : List Rp → List Int
  | [] => []
  | d :: l => (if d.1 = -1 then d.2 else []) ++ delsR l
def inssR : List Rp → List Int
  | [] => []
  | d :: l => (if d.1 = 1 then d.2 else []) ++ inssR l
def cdR : List Rp → Nat
  | [] => 0
  | d :: l => (if d.1 = -1 then 1 else 0) + cdR l
def ciR : List Rp → Nat
  | [] => 0
  | d :: l => (if d.1 = 1 then 1 else 0) + ciR l
theorem delsR_append : ∀ x y, delsR (x ++ y) = delsR x ++ delsR y
  | [], y => rfl
  | d :: x, y => by simp [delsR, delsR_append x y]
theorem inssR_append : ∀ x y, inssR (x ++ y) = inssR x ++ inssR y
  | [], y => rfl
  | d :: x, y => by simp [inssR, inssR_append x y]
theorem cdR_append : ∀ x y, cdR (x ++ y) = cdR x + cdR y
  | [], y => by simp [cdR]
  | d :: x, y => by simp [cdR, cdR_append x y]; omega
theorem ciR_append : ∀ x y, ciR (x ++ y) = ciR x + ciR y
  | [], y => by simp [ciR]
  | d :: x, y => by simp [ciR, ciR_append x y]; omega
/-- Edits alone. -/
def Eds (P : List Rp) : Prop := ∀ d ∈ P, d.1 = -1 ∨ d.1 = 1
theorem cd_ci : ∀ {P : List Rp}, Eds P → cdR P + ciR P = P.length
  | [], _ => rfl
  | d :: P, h => by
    have ih := cd_ci (P := P) fun e he => h e (by simp [he])
    rcases h d (by simp) with hd | hd <;> simp [cdR, ciR, hd] <;> omega
theorem dels_le : ∀ P : List Rp, (delsR P).length + (inssR P).length ≤ edR P
  | [] => Nat.le_refl _
  | d :: P => by
    have ih := dels_le P
    simp only [delsR, inssR, edR, List.length_append]
    by_cases h1 : d.1 = -1
    · rw [if_pos h1, if_neg (by omega), if_neg (by omega)]; simp; omega
    · rw [if_neg h1]
      by_cases h2 : d.1 = 1
      · rw [if_pos h2, if_neg (by omega)]; simp; omega
      · rw [if_neg h2]; simp; split <;> omega
theorem dels_nil : ∀ {P : List Rp}, cdR P = 0 → delsR P = []
  | [], _ => rfl
  | d :: P, h => by
    unfold cdR at h
    unfold delsR
    split at h
    · omega
    · rename_i hd; rw [if_neg hd, dels_nil (by omega)]; rfl
theorem inss_nil : ∀ {P : List Rp}, ciR P = 0 → inssR P = []
  | [], _ => rfl
  | d :: P, h => by
    unfold ciR at h
    unfold inssR
    split at h
    · omega
    · rename_i hd; rw [if_neg hd, inss_nil (by omega)]; rfl
/-- An equality is put behind; parts are held the other way round. -/
def pushE (u : List Int) : List Rp → List Rp
  | (k, s) :: A => if k = 0 then (0, s ++ u) :: A else (0, u) :: (k, s) :: A
  | [] => [(0, u)]
/-- What is deleted and inserted is told apart from what both begin and end with. -/
structure Fac where
  A : List Rp
  td : List Int
  ti : List Int
  t : List Int
def fac (A : List Rp) (td ti t : List Int) : Fac :=
  let c := cpl ti td
  let s := csl (ti.drop c) (td.drop c)
  ⟨if c = 0 then A else pushE (ti.take c) A, (td.drop c).take ((td.drop c).length - s), (ti.drop c).take ((ti.drop c).length - s), (ti.drop c).drop ((ti.drop c).length - s) ++ t⟩
/-- At an equality. -/
def stepE (A P : List Rp) (t : List Int) : List Rp :=
  if 1 < P.length then
    if cdR P = 0 then (0, t) :: (1, inssR P) :: A
    else if ciR P = 0 then (0, t) :: (-1, delsR P) :: A
    else let f := fac A (delsR P) (inssR P) t; (0, f.t) :: (1, f.ti) :: (-1, f.td) :: f.A
  else if P = [] then pushE t A
  else (0, t) :: (P.reverse ++ A)
def run1 : List Rp → List Rp → List Rp → List Rp × List Rp
  | A, P, [] => (A, P)
  | A, P, d :: R => if d.1 = 0 then run1 (stepE A P d.2) [] R else run1 A (P ++ [d]) R
def chop : List Rp → List Rp
  | (k, s) :: A => if s = [] then A else (k, s) :: A
  | [] => []
def join1 (x : List Rp) : List Rp := (chop (stepE (run1 [] [] x).1 (run1 [] [] x).2 [])).reverse
/-- Single edits are moved. -/
def slide : List Rp → List Rp → Bool → List Rp × Bool
  | A, p :: c :: q :: R, ch =>
    if p.1 = 0 ∧ q.1 = 0 then
      if p.2 <:+ c.2 then slide ((c.1, p.2 ++ c.2.take (c.2.length - p.2.length)) :: A) ((q.1, p.2 ++ q.2) :: R) true
      else if q.2 <+: c.2 then slide ((p.1, p.2 ++ q.2) :: A) ((c.1, c.2.drop q.2.length ++ q.2) :: R) true
      else slide (p :: A) (c :: q :: R) ch
    else slide (p :: A) (c :: q :: R) ch
  | A, R, ch => (A.reverse ++ R, ch)
termination_by _ R _ => R.length
/-- What lessens. -/
def phi (x : List Rp) : Nat := edR x + x.length
theorem phi_append (x y : List Rp) : phi (x ++ y) = phi x + phi y := by unfold phi; rw [edR_append, List.length_append]; omega
theorem edR_reverse : ∀ x : List Rp, edR x.reverse = edR x
  | [] => rfl
  | d :: x => by rw [List.reverse_cons, edR_append, edR_reverse x]; simp [edR]; omega
theorem phi_reverse (x : List Rp) : phi x.reverse = phi x := by unfold phi; rw [edR_reverse, List.length_reverse]
theorem phi_cons (d : Rp) (x : List Rp) : phi (d :: x) = (if d.1 = 0 then 0 else d.2.length) + 1 + phi x := by unfold phi; simp only [edR, List.length_cons]; omega
theorem edR_pushE (u : List Int) : ∀ A : List Rp, edR (pushE u A) = edR A
  | [] => rfl
  | (k, s) :: A => by
    rw [pushE]
    split
    · rename_i h; subst h; simp [edR]
    · simp [edR]
theorem phi_pushE (u : List Int) : ∀ A : List Rp, phi (pushE u A) ≤ phi A + 1 := fun A => by
  unfold phi; rw [edR_pushE]
  cases A with
  | nil => simp [pushE]
  | cons d A => obtain ⟨k, s⟩ := d; rw [pushE]; split <;> simp <;> omega
/-- Behind an equality, or at the beginning. -/
def Hd (A : List Rp) : Prop := A = [] ∨ ∃ s A', A = (0, s) :: A'
theorem phi_pushE_hd (u : List Int) {A : List Rp} (h : Hd A) (hA : A ≠ []) : phi (pushE u A) = phi A := by
  obtain ⟨s, A', rfl⟩ := h.resolve_left hA
  simp [pushE, phi, edR]
theorem edR_fac (A : List Rp) (td ti t : List Int) : edR (fac A td ti t).A = edR A := by
  unfold fac; simp only; split
  · rfl
  · exact edR_pushE _ _
theorem phi_stepE {A P : List Rp} (hP : Eds P) (t : List Int) : phi (stepE A P t) ≤ phi A + phi P + 1 := by
  have hd := dels_le P
  have hc := cd_ci hP
  unfold stepE
  by_cases h1 : 1 < P.length
  · rw [if_pos h1]
    by_cases h2 : cdR P = 0
    · rw [if_pos h2, phi_cons, phi_cons]; simp only [phi]; simp; omega
    · rw [if_neg h2]
      by_cases h3 : ciR P = 0
      · rw [if_pos h3, phi_cons, phi_cons]; simp only [phi]; simp; omega
      · rw [if_neg h3]
        simp only [phi_cons]
        have hA : phi (fac A (delsR P) (inssR P) t).A ≤ phi A + min 1 (cpl (inssR P) (delsR P)) := by
          unfold fac; simp only
          by_cases hc0 : cpl (inssR P) (delsR P) = 0
          · rw [if_pos hc0]; omega
          · rw [if_neg hc0]
            have := phi_pushE ((inssR P).take (cpl (inssR P) (delsR P))) A
            omega
        have hl := cpl_le_left (inssR P) (delsR P)
        have hr := cpl_le_right (inssR P) (delsR P)
        have e1 : (fac A (delsR P) (inssR P) t).td.length ≤ (delsR P).length - cpl (inssR P) (delsR P) := by unfold fac; simp only [List.length_take, List.length_drop]; omega
        have e2 : (fac A (delsR P) (inssR P) t).ti.length ≤ (inssR P).length - cpl (inssR P) (delsR P) := by unfold fac; simp only [List.length_take, List.length_drop]; omega
        simp only [phi] at hA ⊢
        simp
        omega
  · rw [if_neg h1]
    by_cases h2 : P = []
    · rw [if_pos h2]
      have := phi_pushE t A
      omega
    · rw [if_neg h2, phi_cons, phi_append, phi_reverse]; simp; omega
def Ops (x : List Rp) : Prop := ∀ d ∈ x, d.1 = -1 ∨ d.1 = 0 ∨ d.1 = 1
theorem Eds.snoc {P : List Rp} {d : Rp} (hP : Eds P) (h : d.1 = -1 ∨ d.1 = 0 ∨ d.1 = 1) (h0 : d.1 ≠ 0) : Eds (P ++ [d]) := fun e he => by
  rcases List.mem_append.1 he with he | he
  · exact hP e he
  · rw [List.mem_singleton.1 he]; omega
theorem Eds.nil : Eds [] := fun e he => by cases he
theorem Ops.cons {d : Rp} {x : List Rp} (h : Ops (d :: x)) : (d.1 = -1 ∨ d.1 = 0 ∨ d.1 = 1) ∧ Ops x := ⟨h d (by simp), fun e he => h e (by simp [he])⟩
theorem phi_run1 : ∀ (R A P : List Rp), Eds P → Ops R → phi (run1 A P R).1 + phi (run1 A P R).2 ≤ phi A + phi P + phi R ∧ Eds (run1 A P R).2
  | [], A, P, hP, _ => ⟨by simp [run1, phi, edR], hP⟩
  | d :: R, A, P, hP, hR => by
    rw [run1]
    split
    · rename_i h0
      have h1 := phi_run1 R (stepE A P d.2) [] Eds.nil hR.cons.2
      have h2 := phi_stepE (A := A) hP d.2
      refine ⟨?_, h1.2⟩
      have h1 := h1.1
      rw [phi_cons, if_pos h0]
      have : phi [] = 0 := rfl
      omega
    · rename_i h0
      have h1 := phi_run1 R A (P ++ [d]) (hP.snoc hR.cons.1 h0) hR.cons.2
      refine ⟨?_, h1.2⟩
      have h1 := h1.1
      rw [phi_append] at h1
      have : phi [d] = (if d.1 = 0 then 0 else d.2.length) + 1 := by rw [phi_cons]; rfl
      rw [phi_cons]
      omega
theorem phi_chop_le : ∀ A : List Rp, phi (chop A) ≤ phi A
  | [] => Nat.le_refl _
  | (k, s) :: A => by rw [chop]; split <;> simp only [phi_cons] <;> omega
theorem phi_chop_stepE {A P : List Rp} (hP : Eds P) : phi (chop (stepE A P [])) ≤ phi A + phi P := by
  have hd := dels_le P
  have hc := cd_ci hP
  unfold stepE
  by_cases h1 : 1 < P.length
  · rw [if_pos h1]
    by_cases h2 : cdR P = 0
    · rw [if_pos h2, chop, if_pos rfl, phi_cons]; simp only [phi]; simp; omega
    · rw [if_neg h2]
      by_cases h3 : ciR P = 0
      · rw [if_pos h3, chop, if_pos rfl, phi_cons]; simp only [phi]; simp; omega
      · rw [if_neg h3]
        simp only
        have hA : phi (fac A (delsR P) (inssR P) []).A ≤ phi A + min 1 (cpl (inssR P) (delsR P)) := by
          unfold fac; simp only
          by_cases hc0 : cpl (inssR P) (delsR P) = 0
          · rw [if_pos hc0]; omega
          · rw [if_neg hc0]
            have := phi_pushE ((inssR P).take (cpl (inssR P) (delsR P))) A
            omega
        have hl := cpl_le_left (inssR P) (delsR P)
        have hr := cpl_le_right (inssR P) (delsR P)
        have hl2 := csl_le_left ((inssR P).drop (cpl (inssR P) (delsR P))) ((delsR P).drop (cpl (inssR P) (delsR P)))
        have hr2 := csl_le_right ((inssR P).drop (cpl (inssR P) (delsR P))) ((delsR P).drop (cpl (inssR P) (delsR P)))
        simp only [List.length_drop] at hl2 hr2
        have e1 : (fac A (delsR P) (inssR P) []).td.length + csl ((inssR P).drop (cpl (inssR P) (delsR P))) ((delsR P).drop (cpl (inssR P) (delsR P))) = (delsR P).length - cpl (inssR P) (delsR P) := by unfold fac; simp only [List.length_take, List.length_drop]; omega
        have e2 : (fac A (delsR P) (inssR P) []).ti.length + csl ((inssR P).drop (cpl (inssR P) (delsR P))) ((delsR P).drop (cpl (inssR P) (delsR P))) = (inssR P).length - cpl (inssR P) (delsR P) := by unfold fac; simp only [List.length_take, List.length_drop]; omega
        have e3 : (fac A (delsR P) (inssR P) []).t.length = csl ((inssR P).drop (cpl (inssR P) (delsR P))) ((delsR P).drop (cpl (inssR P) (delsR P))) := by unfold fac; simp only [List.length_append, List.length_drop, List.length_nil]; omega
        rw [chop]
        split
        · simp only [phi_cons]; simp only [phi] at hA ⊢; simp; omega
        · rename_i hne
          have : 1 ≤ (fac A (delsR P) (inssR P) []).t.length := by
            cases hq : (fac A (delsR P) (inssR P) []).t with
            | nil => exact absurd hq hne
            | cons _ _ => simp
          simp only [phi_cons]; simp only [phi] at hA ⊢; simp; omega
  · rw [if_neg h1]
    by_cases h2 : P = []
    · rw [if_pos h2]
      subst h2
      cases A with
      | nil => simp [pushE, chop, phi, edR]
      | cons d A =>
        obtain ⟨k, s⟩ := d
        rw [pushE]
        split
        · rename_i h; subst h
          have := phi_chop_le ((0, s ++ []) :: A)
          rw [List.append_nil] at this ⊢
          exact Nat.le_trans this (Nat.le_add_right _ _)
        · rw [chop, if_pos rfl]; exact Nat.le_add_right _ _
    · rw [if_neg h2, chop, if_pos rfl, phi_append, phi_reverse]; omega
theorem phi_join1 {x : List Rp} (hx : Ops x) : phi (join1 x) ≤ phi x := by
  unfold join1
  rw [phi_reverse]
  have h := phi_run1 x [] [] Eds.nil hx
  have h1 := phi_chop_stepE (A := (run1 [] [] x).1) h.2
  have : phi [] = 0 := rfl
  omega
theorem phi_slide : ∀ (k : Nat) (A R : List Rp) (ch : Bool), R.length = k → phi (slide A R ch).1 + (if (slide A R ch).2 = true ∧ ch = false then 1 else 0) ≤ phi A + phi R := by
  intro k
  induction k using Nat.strongRecOn with
  | _ k ih =>
    intro A R ch hk
    match R, hk with
    | [], hk => unfold slide; rw [phi_append, phi_reverse]; cases ch <;> simp
    | [p], hk => unfold slide; rw [phi_append, phi_reverse]; cases ch <;> simp
    | [p, c], hk => unfold slide; rw [phi_append, phi_reverse]; cases ch <;> simp
    | p :: c :: q :: R, hk =>
      rw [slide]
      have e : phi (p :: c :: q :: R) = (if p.1 = 0 then 0 else p.2.length) + 1 + ((if c.1 = 0 then 0 else c.2.length) + 1 + ((if q.1 = 0 then 0 else q.2.length) + 1 + phi R)) := by simp only [phi_cons]
      have skip : phi (slide (p :: A) (c :: q :: R) ch).1 + (if (slide (p :: A) (c :: q :: R) ch).2 = true ∧ ch = false then 1 else 0) ≤ phi A + phi (p :: c :: q :: R) := by
        have := ih (c :: q :: R).length (by rw [← hk]; simp) (p :: A) (c :: q :: R) ch rfl
        simp only [phi_cons] at this ⊢
        omega
      split
      · rename_i h
        obtain ⟨h1, h2⟩ := h
        rw [e, if_pos h1, if_pos h2]
        split
        · rename_i hs
          have hl := hs.length_le
          have := ih (((q.1, p.2 ++ q.2) :: R) : List Rp).length (by rw [← hk]; simp) ((c.1, p.2 ++ c.2.take (c.2.length - p.2.length)) :: A) ((q.1, p.2 ++ q.2) :: R) true rfl
          simp only [phi_cons] at this
          rw [if_pos h2] at this
          simp only [Bool.true_eq_false, and_false, if_false, Nat.add_zero, List.length_append, List.length_take] at this
          have hb : (if (slide ((c.1, p.2 ++ c.2.take (c.2.length - p.2.length)) :: A) ((q.1, p.2 ++ q.2) :: R) true).2 = true ∧ ch = false then 1 else 0) ≤ 1 := by split <;> omega
          have hm : (if c.1 = 0 then 0 else p.2.length + min (c.2.length - p.2.length) c.2.length) = (if c.1 = 0 then 0 else c.2.length) := by split <;> omega
          rw [hm] at this
          omega
        · split
          · rename_i hs
            have hl := hs.length_le
            have := ih (((c.1, c.2.drop q.2.length ++ q.2) :: R) : List Rp).length (by rw [← hk]; simp) ((p.1, p.2 ++ q.2) :: A) ((c.1, c.2.drop q.2.length ++ q.2) :: R) true rfl
            simp only [phi_cons] at this
            rw [if_pos h1] at this
            simp only [Bool.true_eq_false, and_false, if_false, Nat.add_zero, List.length_append, List.length_drop] at this
            have hb : (if (slide ((p.1, p.2 ++ q.2) :: A) ((c.1, c.2.drop q.2.length ++ q.2) :: R) true).2 = true ∧ ch = false then 1 else 0) ≤ 1 := by split <;> omega
            have hm : (if c.1 = 0 then 0 else c.2.length - q.2.length + q.2.length) = (if c.1 = 0 then 0 else c.2.length) := by split <;> omega
            rw [hm] at this
            omega
          · rw [if_pos h1, if_pos h2] at e; rw [← e]; exact skip
      · exact skip
/-- Merging, by so many rounds. -/
def mergeN : Nat → List Rp → List Rp
  | 0, x => x
  | k + 1, x => if (slide [] (join1 x) false).2 = true then mergeN k (slide [] (join1 x) false).1 else (slide [] (join1 x) false).1
def merge (x : List Rp) : List Rp := mergeN (phi x + 1) x
end Go.Proofs.YthkiaiilpaojnaaDoorUF
