/- Edits that are moved sideways, over characters: theory. -/
import Derived.Test.YticibdjilmclgaaDoorUPB
import Derived.Test.YticibdjilmclgaaDoorUPLoop
import Derived.Test.YticibdjilmclgaaDoorUPUtf
import Derived.Test.YticibdjilmclgaaDoorUPEnc
import Derived.Test.YticibdjilmclgaaDoorUPParts
import Derived.Test.YticibdjilmclgaaDoorUPTexts
import Derived.Test.YticibdjilmclgaaDoorUPCmp
import Derived.Test.YticibdjilmclgaaDoorUPMerge
import Derived.Test.YticibdjilmclgaaDoorUPMerge2
import Derived.Test.YticibdjilmclgaaDoorUPAsc
import Derived.Test.YticibdjilmclgaaDoorUFB
namespace Go.Proofs.YticibdjilmclgaaDoorUF
open Go
set_option linter.unusedVariables false
set_option linter.unusedSimpArgs false
def letter (c : Int) : Bool := decide ((97 ≤ c ∧ c ≤ 122) ∨ (65 ≤ c ∧ c ≤ 90) ∨ (48 ≤ c ∧ c ≤ 57))
def space (c : Int) : Bool := decide (c = 32 ∨ c = 9 ∨ c = 10 ∨ c = 13 ∨ c = 12)
def brk (c : Int) : Bool := decide (c = 10 ∨ c = 13)
def blankE (l : List Int) : Bool := decide ([10, 10] <:+ l) || decide ([10, 13, 10] <:+ l)
def scoreL (e : Bool) (a b : Int) : Int := if e = true then 5 else if (brk a || brk b) = true then 4 else if (!letter a && !space a && space b) = true then 3 else if (space a || space b) = true then 2 else if (!letter a || !letter b) = true then 1 else 0
/-- What a boundary is worth. -/
def scoreG (x y : List Int) : Int := if x = [] ∨ y = [] then 6 else scoreL ((brk (x.getLastD 0) && blankE x) || (brk (y.headD 0) && blankE y)) (x.getLastD 0) (y.headD 0)
theorem scoreL_high {e : Bool} {a b : Int} (he : e = true → 5 ≤ (5 : Int)) (ha : 128 ≤ a) : 1 ≤ scoreL e a b := by
  have h1 : letter a = false := by unfold letter; rw [decide_eq_false]; omega
  unfold scoreL
  rw [h1]
  repeat' split
  all_goals first | omega | simp_all
theorem scoreL_two {a b : Int} (ha : 128 ≤ a) (hb : 128 ≤ b) : scoreL false a b = 1 := by
  have h1 : letter a = false := by unfold letter; rw [decide_eq_false]; omega
  have h2 : space a = false := by unfold space; rw [decide_eq_false]; omega
  have h3 : brk a = false := by unfold brk; rw [decide_eq_false]; omega
  have h4 : letter b = false := by unfold letter; rw [decide_eq_false]; omega
  have h5 : space b = false := by unfold space; rw [decide_eq_false]; omega
  have h6 : brk b = false := by unfold brk; rw [decide_eq_false]; omega
  unfold scoreL
  rw [h1, h2, h3, h4, h5, h6]
  rfl
@[reducible] def Tri := List Int × List Int × List Int
/-- To the right, character by character; the last one of the best places is kept. -/
def walkR : List Int → List Int → List Int → Tri → Int → Tri
  | a, c :: s, d :: b, best, m =>
    if c = d then
      if m ≤ scoreG (a ++ [c]) (s ++ [c]) + scoreG (s ++ [c]) b then walkR (a ++ [c]) (s ++ [c]) b (a ++ [c], s ++ [c], b) (scoreG (a ++ [c]) (s ++ [c]) + scoreG (s ++ [c]) b)
      else walkR (a ++ [c]) (s ++ [c]) b best m
    else best
  | _, _, _, best, _ => best
termination_by _ _ b => b.length
/-- How many of some characters (the last one first) have no more bytes together than so many. -/
def wholeJ : List Int → Nat → Nat
  | [], _ => 0
  | c :: r, k => if (Utf8.encode c).size ≤ k then 1 + wholeJ r (k - (Utf8.encode c).size) else 0
theorem wholeJ_le : ∀ (t : List Int) (k : Nat), wholeJ t k ≤ t.length
  | [], _ => Nat.le_refl _
  | c :: r, k => by
    rw [wholeJ]
    split
    · have := wholeJ_le r (k - (Utf8.encode c).size); simp; omega
    · omega
/-- Where moving begins. -/
def startR (a s b : List Int) : Tri :=
  let j := wholeJ a.reverse (csl a s)
  (a.take (a.length - j), a.drop (a.length - j) ++ s.take (s.length - j), a.drop (a.length - j) ++ b)
def shiftR (a s b : List Int) : Tri := walkR (startR a s b).1 (startR a s b).2.1 (startR a s b).2.2 (startR a s b) (scoreG (startR a s b).1 (startR a s b).2.1 + scoreG (startR a s b).2.1 (startR a s b).2.2)
/-- What stays. -/
structure Moved (a s b : List Int) (t : Tri) : Prop where
  all : t.1 ++ t.2.1 ++ t.2.2 = a ++ s ++ b
  out : t.1 ++ t.2.2 = a ++ b
  len : t.2.1.length = s.length
  val : Valids a → Valids s → Valids b → Valids t.1 ∧ Valids t.2.1 ∧ Valids t.2.2
theorem Moved.refl (a s b : List Int) : Moved a s b (a, s, b) := ⟨rfl, rfl, rfl, fun h1 h2 h3 => ⟨h1, h2, h3⟩⟩
theorem Moved.trans {a s b : List Int} {t u : Tri} (h : Moved a s b t) (k : Moved t.1 t.2.1 t.2.2 u) : Moved a s b u :=
  ⟨k.all.trans h.all, k.out.trans h.out, k.len.trans h.len, fun h1 h2 h3 => let ⟨q1, q2, q3⟩ := h.val h1 h2 h3; k.val q1 q2 q3⟩
theorem Moved.step (a s b : List Int) (c : Int) : Moved a (c :: s) (c :: b) (a ++ [c], s ++ [c], b) := by
  refine ⟨by simp, by simp, by simp, fun h1 h2 h3 => ⟨h1.append ?_, h2.cons.2.append ?_, h3.cons.2⟩⟩ <;> exact fun d hd => by rw [List.mem_singleton.1 hd]; exact h2.cons.1
theorem walkR_moved (a0 s0 b0 : List Int) : ∀ (n : Nat) (a s b : List Int) (best : Tri) (m : Int), b.length = n → Moved a0 s0 b0 (a, s, b) → Moved a0 s0 b0 best → Moved a0 s0 b0 (walkR a s b best m) := by
  intro n
  induction n with
  | zero =>
    intro a s b best m hb h1 h2
    have := List.eq_nil_of_length_eq_zero hb
    subst this
    cases s <;> (unfold walkR; exact h2)
  | succ n ih =>
    intro a s b best m hb h1 h2
    match s, b, hb with
    | [], d :: b, hb => unfold walkR; exact h2
    | c :: s, d :: b, hb =>
      unfold walkR
      split
      · rename_i e
        subst e
        have h3 := h1.trans (Moved.step a s b c)
        split
        · exact ih _ _ _ _ _ (by simpa using hb) h3 h3
        · exact ih _ _ _ _ _ (by simpa using hb) h3 h2
      · exact h2
theorem csl_le_suffix {x y : List Int} {j : Nat} (h : j ≤ csl x y) : x.drop (x.length - j) = y.drop (y.length - j) := by
  have h1 := csl_le_left x y
  have h2 := csl_le_right x y
  have e := csl_drop x y
  have e1 : x.drop (x.length - j) = (x.drop (x.length - csl x y)).drop (csl x y - j) := by rw [List.drop_drop]; congr 1; omega
  have e2 : y.drop (y.length - j) = (y.drop (y.length - csl x y)).drop (csl x y - j) := by rw [List.drop_drop]; congr 1; omega
  rw [e1, e2, e]
theorem enc_one_le (c : Int) : 1 ≤ (Utf8.encode c).size := encode_pos c
theorem wholeJ_le_k : ∀ (t : List Int) (k : Nat), wholeJ t k ≤ k
  | [], _ => Nat.zero_le _
  | c :: r, k => by
    rw [wholeJ]
    split
    · have := wholeJ_le_k r (k - (Utf8.encode c).size)
      have := encode_pos c
      omega
    · omega
theorem startR_moved (a s b : List Int) : Moved a s b (startR a s b) := by
  unfold startR
  have hj := wholeJ_le_k a.reverse (csl a s)
  have e := csl_le_suffix hj
  have l1 := csl_le_left a s
  have l2 := csl_le_right a s
  generalize wholeJ a.reverse (csl a s) = j at *
  have ea : a.take (a.length - j) ++ a.drop (a.length - j) = a := List.take_append_drop _ _
  have es : s.take (s.length - j) ++ a.drop (a.length - j) = s := by rw [e]; exact List.take_append_drop _ _
  refine ⟨?_, ?_, ?_, fun h1 h2 h3 => ⟨h1.take _, (h1.drop _).append (h2.take _), (h1.drop _).append h3⟩⟩
  · show a.take (a.length - j) ++ (a.drop (a.length - j) ++ s.take (s.length - j)) ++ (a.drop (a.length - j) ++ b) = _
    have : a.take (a.length - j) ++ (a.drop (a.length - j) ++ s.take (s.length - j)) ++ (a.drop (a.length - j) ++ b) = (a.take (a.length - j) ++ a.drop (a.length - j)) ++ (s.take (s.length - j) ++ a.drop (a.length - j)) ++ b := by simp only [List.append_assoc]
    rw [this, ea, es]
  · show a.take (a.length - j) ++ (a.drop (a.length - j) ++ b) = _
    rw [← List.append_assoc, ea]
  · show (a.drop (a.length - j) ++ s.take (s.length - j)).length = _
    rw [List.length_append, List.length_drop, List.length_take]; omega
theorem shiftR_moved (a s b : List Int) : Moved a s b (shiftR a s b) := walkR_moved a s b _ _ _ _ _ _ rfl (startR_moved a s b) (startR_moved a s b)
/-- All edits, from the beginning on; what lies behind is held the other way round. -/
def lossF : List Rp → List Rp → List Rp
  | A, p :: c :: q :: R =>
    if p.1 = 0 ∧ q.1 = 0 then
      let t := shiftR p.2 c.2 q.2
      if t.1 = p.2 then lossF (p :: A) (c :: q :: R)
      else if t.1 = [] then lossF A ((c.1, t.2.1) :: (q.1, t.2.2) :: R)
      else if t.2.2 = [] then lossF A ((p.1, t.1) :: (c.1, t.2.1) :: R)
      else lossF ((p.1, t.1) :: A) ((c.1, t.2.1) :: (q.1, t.2.2) :: R)
    else lossF (p :: A) (c :: q :: R)
  | A, R => A.reverse ++ R
termination_by _ R => R.length
def lossless (x : List Rp) : List Rp := lossF [] x
/-- The edits alone: kinds and lengths. -/
def editsL : List Rp → List (Int × Nat)
  | [] => []
  | d :: l => if d.1 = 0 then editsL l else (d.1, d.2.length) :: editsL l
theorem editsL_append : ∀ x y, editsL (x ++ y) = editsL x ++ editsL y
  | [], y => rfl
  | d :: x, y => by simp only [List.cons_append, editsL]; split <;> simp [editsL_append x y]
theorem loss_inv : ∀ (k : Nat) (A R : List Rp), R.length = k → srcR (lossF A R) = srcR (A.reverse ++ R) ∧ tgtR (lossF A R) = tgtR (A.reverse ++ R) ∧ editsL (lossF A R) = editsL (A.reverse ++ R) ∧ (Ok (A.reverse ++ R) → Ok (lossF A R)) ∧ (lossF A R).length ≤ A.length + R.length ∧ (A.reverse ++ R ≠ [] → lossF A R ≠ []) := by
  intro k
  induction k using Nat.strongRecOn with
  | _ k ih =>
    intro A R hk
    match R, hk with
    | [], hk => unfold lossF; exact ⟨rfl, rfl, rfl, id, by simp, id⟩
    | [p], hk => unfold lossF; exact ⟨rfl, rfl, rfl, id, by simp, id⟩
    | [p, c], hk => unfold lossF; exact ⟨rfl, rfl, rfl, id, by simp, id⟩
    | p :: c :: q :: R, hk =>
      rw [lossF]
      have skip := ih (c :: q :: R).length (by rw [← hk]; simp) (p :: A) (c :: q :: R) rfl
      rw [List.reverse_cons, List.append_assoc, List.singleton_append] at skip
      have skip' : srcR (lossF (p :: A) (c :: q :: R)) = srcR (A.reverse ++ p :: c :: q :: R) ∧ tgtR (lossF (p :: A) (c :: q :: R)) = tgtR (A.reverse ++ p :: c :: q :: R) ∧ editsL (lossF (p :: A) (c :: q :: R)) = editsL (A.reverse ++ p :: c :: q :: R) ∧ (Ok (A.reverse ++ p :: c :: q :: R) → Ok (lossF (p :: A) (c :: q :: R))) ∧ (lossF (p :: A) (c :: q :: R)).length ≤ A.length + (p :: c :: q :: R).length ∧ (A.reverse ++ p :: c :: q :: R ≠ [] → lossF (p :: A) (c :: q :: R) ≠ []) := by
        refine ⟨skip.1, skip.2.1, skip.2.2.1, skip.2.2.2.1, ?_, skip.2.2.2.2.2⟩
        have := skip.2.2.2.2.1
        simp at this ⊢; omega
      split
      · rename_i h
        obtain ⟨hp, hq⟩ := h
        have hm := shiftR_moved p.2 c.2 q.2
        generalize shiftR p.2 c.2 q.2 = t at *
        have ho := hm.out
        have hall := hm.all
        have hlen := hm.len
        simp only
        -- what all three ways share
        have key : ∀ (A' R' : List Rp), R'.length < k → A'.length + R'.length ≤ A.length + (p :: c :: q :: R).length → A'.reverse ++ R' ≠ [] →
            (srcR (A'.reverse ++ R') = srcR A.reverse ++ (t.1 ++ (if c.1 = 1 then [] else t.2.1) ++ t.2.2) ++ srcR R) → (tgtR (A'.reverse ++ R') = tgtR A.reverse ++ (t.1 ++ (if c.1 = -1 then [] else t.2.1) ++ t.2.2) ++ tgtR R) →
            editsL (A'.reverse ++ R') = editsL A.reverse ++ ((if c.1 = 0 then [] else [(c.1, t.2.1.length)]) ++ editsL R) → (Ok A → OkR (p.1, t.1) → OkR (c.1, t.2.1) → OkR (q.1, t.2.2) → Ok R → Ok (A'.reverse ++ R')) →
            srcR (lossF A' R') = srcR (A.reverse ++ p :: c :: q :: R) ∧ tgtR (lossF A' R') = tgtR (A.reverse ++ p :: c :: q :: R) ∧ editsL (lossF A' R') = editsL (A.reverse ++ p :: c :: q :: R) ∧ (Ok (A.reverse ++ p :: c :: q :: R) → Ok (lossF A' R')) ∧ (lossF A' R').length ≤ A.length + (p :: c :: q :: R).length ∧ (A.reverse ++ p :: c :: q :: R ≠ [] → lossF A' R' ≠ []) := by
          intro A' R' h1 h2 h3 h4 h5 h6 h7
          obtain ⟨i1, i2, i3, i4, i5, i6⟩ := ih R'.length h1 A' R' rfl
          refine ⟨?_, ?_, ?_, ?_, by omega, fun _ => i6 h3⟩
          · rw [i1, h4, srcR_append]
            simp only [srcR, hp, hq, if_neg (show ¬ (0 : Int) = 1 by decide)]
            by_cases hc : c.1 = 1
            · simp only [hc, if_true, List.append_nil, List.nil_append]
              rw [ho]; simp
            · simp only [hc, if_false]
              rw [hall]; simp
          · rw [i2, h5, tgtR_append]
            simp only [tgtR, hp, hq, if_neg (show ¬ (0 : Int) = -1 by decide)]
            by_cases hc : c.1 = -1
            · simp only [hc, if_true, List.append_nil, List.nil_append]
              rw [ho]; simp
            · simp only [hc, if_false]
              rw [hall]; simp
          · rw [i3, h6, editsL_append]
            simp only [editsL, hp, hq, if_true, hlen]
            split <;> rfl
          · intro hok
            have o1 := Ok.of_append hok
            have o2 := o1.2.of_cons
            have o3 := o2.2.of_cons
            have o4 := o3.2.of_cons
            have hv := hm.val o2.1.2 o3.1.2 o4.1.2
            exact i4 (h7 (by have := o1.1.reverse; rwa [List.reverse_reverse] at this) ⟨o2.1.1, hv.1⟩ ⟨o3.1.1, hv.2.1⟩ ⟨o4.1.1, hv.2.2⟩ o4.2)
        split
        · exact skip'
        · rename_i hne
          split
          · rename_i h0
            refine key A _ (by rw [← hk]; simp) (by simp) (by simp) ?_ ?_ ?_ (fun a1 a2 a3 a4 a5 => a1.reverse.append (Ok.cons' a3 (Ok.cons' a4 a5)))
            · simp only [srcR_append, srcR, hq, h0, if_neg (show ¬ (0 : Int) = 1 by decide)]; simp
            · simp only [tgtR_append, tgtR, hq, h0, if_neg (show ¬ (0 : Int) = -1 by decide)]; simp
            · simp only [editsL_append, editsL, hq, if_true]; split <;> simp
          · split
            · rename_i h0
              refine key A _ (by rw [← hk]; simp) (by simp) (by simp) ?_ ?_ ?_ (fun a1 a2 a3 a4 a5 => a1.reverse.append (Ok.cons' a2 (Ok.cons' a3 a5)))
              · simp only [srcR_append, srcR, hp, h0, if_neg (show ¬ (0 : Int) = 1 by decide)]; simp
              · simp only [tgtR_append, tgtR, hp, h0, if_neg (show ¬ (0 : Int) = -1 by decide)]; simp
              · simp only [editsL_append, editsL, hp, if_true]; split <;> simp
            · refine key _ _ (by rw [← hk]; simp) (by simp; omega) (by simp) ?_ ?_ ?_ (fun a1 a2 a3 a4 a5 => (Ok.cons' a2 a1).reverse.append (Ok.cons' a3 (Ok.cons' a4 a5)))
              · rw [List.reverse_cons, List.append_assoc]; simp only [srcR_append, srcR, hp, hq, if_neg (show ¬ (0 : Int) = 1 by decide)]; simp
              · rw [List.reverse_cons, List.append_assoc]; simp only [tgtR_append, tgtR, hp, hq, if_neg (show ¬ (0 : Int) = -1 by decide)]; simp
              · rw [List.reverse_cons, List.append_assoc]; simp only [editsL_append, editsL, hp, hq, if_true]; simp; split <;> simp
      · exact skip'
theorem lossless_inv {x : List Rp} : srcR (lossless x) = srcR x ∧ tgtR (lossless x) = tgtR x ∧ editsL (lossless x) = editsL x ∧ (Ok x → Ok (lossless x)) ∧ (lossless x).length ≤ x.length ∧ (x ≠ [] → lossless x ≠ []) := by
  have := loss_inv x.length [] x rfl
  simpa [lossless] using this
end Go.Proofs.YticibdjilmclgaaDoorUF
