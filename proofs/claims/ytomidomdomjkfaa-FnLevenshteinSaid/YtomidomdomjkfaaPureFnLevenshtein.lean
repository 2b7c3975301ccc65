/- impl.Levenshtein tells the number of single changes of a difference, as the definition says, for all differences (law FnLevenshtein). -/
import Derived.Test.YtomidomdomjkfaaQParts
import Derived.Test.YtomidomdomjkfaaPTx10
import Derived.Test.YtomidomdomjkfaaPTx73
import Derived.Test.YtomidomdomjkfaaPTx74
import Derived.Test.YtomidomdomjkfaaPTx75
import Derived.Test.YtomidomdomjkfaaPTx76
import Derived.Test.YtomidomdomjkfaaPTx77
import Derived.Test.YtomidomdomjkfaaPTx78
namespace Go.Proofs.Ytomidomdomjkfaa.Pure
open Go Go.RowKit Go.Proofs.Ytomidomdomjkfaa.PT Go.Proofs.YtomidomdomjkfaaW.PrintWords Go.Proofs.YtomidomdomjkfaaW.PrintLast
def lev : List Part → Int → Int → Int → Int
  | [], t, d, i => t + mx d i
  | p :: ps, t, d, i => if p.f0 = -1 then lev ps t (d + (runesOf p.f1).length) i else if p.f0 = 1 then lev ps t d (i + (runesOf p.f1).length) else lev ps (t + mx d i) 0 0
theorem lspec_l (xs : List Part) (hl : xs.length ≤ 1000000) (hx : ∀ y ∈ xs, Okp y) : ∀ (e n : Nat) (t d i : Int), xs.length - n = e → n ≤ xs.length → 0 ≤ t → 0 ≤ d → 0 ≤ i → t + d + i ≤ 120 * n → Ev (fun k => spec_Levenshtein.l0 k t d i xs (xs.length : Int) (n : Int)) (lev (xs.drop n) t d i)
  | 0, n, t, d, i, he, hn, ht, hd, hi, hb => by
    rw [List.drop_eq_nil_of_le (by omega)]
    refine Ev.step (fun k => by simp only [spec_Levenshtein.l0]; rfl) ?_
    refine Ev.iteF (by omega) ?_
    have hm : 0 ≤ mx d i ∧ mx d i ≤ d + i := by unfold mx; split <;> omega
    rw [w64 (by omega) (by omega)]
    exact Ev.now _
  | e + 1, n, t, d, i, he, hn, ht, hd, hi, hb => by
    have h : n < xs.length := by omega
    have ih := fun t d i => lspec_l xs hl hx e (n + 1) t d i (by omega) (by omega)
    obtain ⟨o, s⟩ := hx _ (mem_at xs z57 n h)
    rw [drop_at xs z57 n h]
    generalize hp : xs.getD n z57 = p at o s ⊢
    have rp : rd_T57 xs (n : Int) = p := by rw [rdP, hp]
    have e1 : ((n : Int) + 1) = ((n + 1 : Nat) : Int) := by omega
    have rl := runesOf_length p.f1
    have hm : 0 ≤ mx d i ∧ mx d i ≤ d + i := by unfold mx; split <;> omega
    refine Ev.step (fun k => by simp only [spec_Levenshtein.l0]; rfl) ?_
    refine Ev.iteT (by omega) (Ev.iteT (by omega) (Ev.iteT (by omega) ?_))
    rw [rp]
    refine Ev.bindC (runes_ok _ (by omega)) ?_
    rw [w64 (n := (n : Int) + 1) (by omega) (by omega), w64 (n := d + _) (by omega) (by omega), w64 (n := i + _) (by omega) (by omega), w64 (n := t + _) (by omega) (by omega), e1]
    unfold lev
    by_cases c1 : p.f0 = -1
    · rw [if_pos c1]; exact Ev.iteT c1 (ih _ _ _ (by omega) (by omega) (by omega) (by omega))
    rw [if_neg c1]; refine Ev.iteF c1 ?_
    by_cases c2 : p.f0 = 1
    · rw [if_pos c2]; exact Ev.iteT c2 (ih _ _ _ (by omega) (by omega) (by omega) (by omega))
    rw [if_neg c2]; exact Ev.iteF c2 (ih _ _ _ (by omega) (by omega) (by omega) (by omega))
theorem max_ok (a b : Int) : diffmatchpatch_max.f a b = some (mx a b) := by
  unfold diffmatchpatch_max.f mx
  split <;> split <;> first | rfl | (congr 1; omega)
theorem limpl_l (xs : List Part) (hl : xs.length ≤ 1000000) (hx : ∀ y ∈ xs, Okp y) (s0 s1 s2 : Int) (s3 : Nat) (s4 s5 : Int) (s6 : Nat) : ∀ (e n : Nat) (t d i : Int), xs.length - n = e → n ≤ xs.length → 0 ≤ t → 0 ≤ d → 0 ≤ i → t + d + i ≤ 120 * n →
    Ev (fun k => diffmatchpatch_DiffMatchPatch_DiffLevenshtein.l0 k t i d (xs.map difOf) (xs.length : Int) (n : Int) s0 s1 s2 s3 s4 s5 s6) (lev (xs.drop n) t d i, s0, s1, s2, s3, s4, s5, s6)
  | 0, n, t, d, i, he, hn, ht, hd, hi, hb => by
    rw [List.drop_eq_nil_of_le (by omega)]
    refine Ev.step (fun k => by simp only [diffmatchpatch_DiffMatchPatch_DiffLevenshtein.l0]; rfl) ?_
    refine Ev.iteF (by omega) (Ev.bindC (max_ok _ _) ?_)
    have hm : 0 ≤ mx i d ∧ mx i d ≤ d + i := by unfold mx; split <;> omega
    have ec : mx i d = mx d i := by unfold mx; split <;> split <;> omega
    rw [w64 (by omega) (by omega), ec]
    exact Ev.now _
  | e + 1, n, t, d, i, he, hn, ht, hd, hi, hb => by
    have h : n < xs.length := by omega
    have ih := fun t d i => limpl_l xs hl hx s0 s1 s2 s3 s4 s5 s6 e (n + 1) t d i (by omega) (by omega)
    obtain ⟨o, s⟩ := hx _ (mem_at xs z57 n h)
    rw [drop_at xs z57 n h]
    have rp : rd_T91 (xs.map difOf) (n : Int) = difOf (xs.getD n z57) := by
      rw [rdD]; simp [List.getD, List.getElem?_eq_getElem h]
    generalize hp : xs.getD n z57 = p at o s rp ⊢
    have e1 : ((n : Int) + 1) = ((n + 1 : Nat) : Int) := by omega
    have rl := runesOf_length p.f1
    have hm : 0 ≤ mx d i ∧ mx d i ≤ d + i := by unfold mx; split <;> omega
    have ec : mx i d = mx d i := by unfold mx; split <;> split <;> omega
    have cnt : utf8_RuneCountInString.f p.f1 = some ((runesOf p.f1).length : Int) := by unfold utf8_RuneCountInString.f; rw [if_pos (by omega)]
    refine Ev.step (fun k => by simp only [diffmatchpatch_DiffMatchPatch_DiffLevenshtein.l0]; rfl) ?_
    refine Ev.iteT (by omega) (Ev.iteT (by omega) (Ev.iteT (by simp; omega) ?_))
    rw [rp]
    simp only [difOf, cnt, max_ok, Option.bind_some, ec]
    rw [w64 (n := (n : Int) + 1) (by omega) (by omega), w64 (n := d + _) (by omega) (by omega), w64 (n := i + _) (by omega) (by omega), w64 (n := t + _) (by omega) (by omega), e1]
    unfold lev
    by_cases c2 : p.f0 = 1
    · rw [if_neg (by omega), if_pos c2]; exact Ev.iteT c2 (ih _ _ _ (by omega) (by omega) (by omega) (by omega))
    refine Ev.iteF c2 ?_
    by_cases c1 : p.f0 = -1
    · rw [if_pos c1]; exact Ev.iteT c1 (ih _ _ _ (by omega) (by omega) (by omega) (by omega))
    rw [if_neg c1, if_neg c2]; refine Ev.iteF c1 (Ev.iteT (by omega) (ih _ _ _ (by omega) (by omega) (by omega) (by omega)))
theorem implLev_ev (xs : List Part) (hl : xs.length ≤ 1000000) (hx : ∀ y ∈ xs, Okp y) : Ev (fun k => impl_Levenshtein.f k xs) (lev xs 0 0 0) := by
  unfold impl_Levenshtein.f diffmatchpatch_New.f diffmatchpatch_DiffMatchPatch_DiffLevenshtein.f
  refine Ev.bindC rfl (Ev.bind (made_ev xs hl (fun y hy => (hx y hy).1)) ?_)
  have e : (xs.map difOf).length = xs.length := by simp
  rw [e]
  refine Ev.bind (limpl_l xs hl hx _ _ _ _ _ _ _ _ 0 0 0 0 rfl (by omega) (by omega) (by omega) (by omega) (by omega)) (Ev.now _)
theorem specLev_ev (xs : List Part) (hl : xs.length ≤ 1000000) (hx : ∀ y ∈ xs, Okp y) : Ev (fun k => spec_Levenshtein.f k xs) (lev xs 0 0 0) := by
  unfold spec_Levenshtein.f
  have := lspec_l xs hl hx _ 0 0 0 0 rfl (by omega) (by omega) (by omega) (by omega) (by omega)
  simpa using this
theorem FnLevenshtein : laws_FnLevenshtein.Pure := by
  intro l _ _
  refine Ev.rounds ?_
  unfold laws_FnLevenshtein.f
  rcases fits_ev l with ⟨h1, h2, h3⟩ | h1
  · refine Ev.bind h1 (Ev.iteT rfl (Ev.bind (parted_ev l h2 h3 20 (by omega)) ?_))
    have pl := partsOf_length 20 l
    have po := partsOf_ok 20 l
    generalize partsOf 20 l = ps at pl po ⊢
    refine Ev.bind (implLev_ev ps (by omega) po) (Ev.bind (specLev_ev ps (by omega) po) (Ev.iteT rfl ?_))
    refine Ev.bind (implLev_ev _ (by decide) (by intro y hy; simp at hy; subst hy; exact ⟨by decide, by decide⟩)) ?_
    exact Ev.const (by decide +kernel)
  · exact Ev.bind h1 (Ev.iteF (by simp) (Ev.now _))
end Go.Proofs.Ytomidomdomjkfaa.Pure
