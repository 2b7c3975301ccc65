/- Parts of a difference: what the seeds of the laws come to, and the lists that the program makes of them. -/
import Derived.Test.YtomidomdomjkfaaQClean
import Derived.Test.YtomidomdomjkfaaQLists
import Derived.Test.YtomidomdomjkfaaPTx63
import Derived.Test.YtomidomdomjkfaaPTx64
import Derived.Test.YtomidomdomjkfaaPTx65
import Derived.Test.YtomidomdomjkfaaPTx68
import Derived.Test.YtomidomdomjkfaaPTx69
namespace Go.Proofs.Ytomidomdomjkfaa.PT
open Go Go.RowKit Go.Proofs.YtomidomdomjkfaaW.PrintWords
abbrev Part := S57
abbrev Dif := S91
theorem rdP (x : List Part) (n : Nat) : rd_T57 x (n : Int) = x.getD n z57 := by simp [rd_T57]
theorem rdD (x : List Dif) (n : Nat) : rd_T91 x (n : Int) = x.getD n z91 := by simp [rd_T91]
theorem drop_at {α : Type} (x : List α) (z : α) (n : Nat) (h : n < x.length) : x.drop n = x.getD n z :: x.drop (n + 1) := by
  rw [List.drop_eq_getElem_cons h]; simp [List.getD, List.getElem?_eq_getElem h]
theorem mem_at {α : Type} (x : List α) (z : α) (n : Nat) (h : n < x.length) : x.getD n z ∈ x := by
  simp [List.getD, List.getElem?_eq_getElem h]
/-- The seeds fit, or the law says true at once. -/
theorem fits_l (xs : List Part) (hl : xs.length ≤ 2147483647) : ∀ (d n : Nat), xs.length - n = d → n ≤ xs.length → (Ev (fun k => laws_zzFits1.l0 k xs (xs.length : Int) (n : Int)) true ∧ ∀ y ∈ xs.drop n, y.f1.size ≤ 2147483647) ∨ Ev (fun k => laws_zzFits1.l0 k xs (xs.length : Int) (n : Int)) false
  | 0, n, hd, hn => by
    left
    refine ⟨?_, ?_⟩
    · refine Ev.step (fun k => by simp only [laws_zzFits1.l0]; rfl) ?_
      exact Ev.iteF (by omega) (Ev.now _)
    · rw [List.drop_eq_nil_of_le (by omega)]; simp
  | d + 1, n, hd, hn => by
    have h : n < xs.length := by omega
    by_cases c : ((xs.getD n z57).f1.size : Int) > 2147483647
    · right
      refine Ev.step (fun k => by simp only [laws_zzFits1.l0]; rfl) ?_
      refine Ev.iteT (by omega) (Ev.iteT (by omega) (Ev.iteT (by omega) ?_))
      rw [rdP]
      refine Ev.bindC (a := false) (by unfold laws_zzFits2.f; rw [if_pos c]) ?_
      exact Ev.iteF (by simp) (Ev.now _)
    · have go : ∀ b, Ev (fun k => laws_zzFits1.l0 k xs (xs.length : Int) ((n + 1 : Nat) : Int)) b → Ev (fun k => laws_zzFits1.l0 k xs (xs.length : Int) (n : Int)) b := by
        intro b hb
        refine Ev.step (fun k => by simp only [laws_zzFits1.l0]; rfl) ?_
        refine Ev.iteT (by omega) (Ev.iteT (by omega) (Ev.iteT (by omega) ?_))
        rw [rdP]
        refine Ev.bindC (a := true) (by unfold laws_zzFits2.f; rw [if_neg c]) ?_
        refine Ev.iteT rfl ?_
        rw [w64 (by omega) (by omega)]
        have e1 : ((n : Int) + 1) = ((n + 1 : Nat) : Int) := by omega
        rw [e1]; exact hb
      rcases fits_l xs hl d (n + 1) (by omega) (by omega) with ⟨h1, h2⟩ | h1
      · left
        refine ⟨go _ h1, ?_⟩
        intro y hy
        rw [drop_at xs z57 n h] at hy
        rcases List.mem_cons.1 hy with rfl | hy
        · omega
        · exact h2 y hy
      · exact .inr (go _ h1)
theorem fits_ev (xs : List Part) : (Ev (fun k => laws_zzFits1.f k xs) true ∧ xs.length ≤ 2147483647 ∧ ∀ y ∈ xs, y.f1.size ≤ 2147483647) ∨ Ev (fun k => laws_zzFits1.f k xs) false := by
  unfold laws_zzFits1.f
  by_cases c : (xs.length : Int) > 2147483647
  · exact .inr (Ev.iteT c (Ev.now _))
  · rcases fits_l xs (by omega) _ 0 rfl (by omega) with ⟨h1, h2⟩ | h1
    · exact .inl ⟨Ev.iteF c h1, by omega, by simpa using h2⟩
    · exact .inr (Ev.iteF c h1)
/-- The operation of a seed. -/
def opOf (n : Int) : Int := if Int.tmod n 3 = 2 then -1 else if Int.tmod n 3 = -2 then 1 else Int.tmod n 3
def partOf (y : Part) : Part := ⟨opOf y.f0, cln y.f1 30⟩
theorem tmod3 (n : Int) : Int.tmod n 3 = -2 ∨ Int.tmod n 3 = -1 ∨ Int.tmod n 3 = 0 ∨ Int.tmod n 3 = 1 ∨ Int.tmod n 3 = 2 := by
  rcases Int.le_total 0 n with h | h
  · rw [Int.tmod_eq_emod_of_nonneg h]; omega
  · obtain ⟨k, rfl⟩ : ∃ k, n = -k := ⟨-n, by omega⟩
    rw [Int.neg_tmod, Int.tmod_eq_emod_of_nonneg (by omega)]; omega
theorem opOf_range (n : Int) : opOf n = -1 ∨ opOf n = 0 ∨ opOf n = 1 := by
  have := tmod3 n
  unfold opOf
  split
  · omega
  split <;> omega
def partsOf (m : Nat) (xs : List Part) : List Part := (xs.take m).map partOf
theorem parted_l (xs : List Part) (hl : xs.length ≤ 2147483647) (hs : ∀ y ∈ xs, y.f1.size ≤ 2147483647) (m : Nat) (hm : m ≤ 1000000) : ∀ (d n : Nat), m - n = d → n ≤ m → n ≤ xs.length → Ev (fun k => spec_Parted.l0 k xs (m : Int) (partsOf n xs) (n : Int)) (partsOf m xs)
  | d, n, hd, hm', hn => by
    have len : (partsOf n xs).length = n := by simp [partsOf]; omega
    have stop : ∀ b, b = false → (n = m ∨ n = xs.length) → Ev (fun k => spec_Parted.j1 k xs (m : Int) (partsOf n xs) (n : Int) b) (partsOf m xs) := by
      intro b hb he
      subst hb
      refine Ev.step (fun k => by simp only [spec_Parted.j1]; rfl) ?_
      refine Ev.iteF (by simp) ?_
      have : partsOf n xs = partsOf m xs := by
        unfold partsOf
        congr 1
        rw [List.take_eq_take_iff]; omega
      rw [this]; exact Ev.now _
    refine Ev.step (fun k => by simp only [spec_Parted.l0]; rfl) ?_
    by_cases h : n < xs.length
    · refine Ev.iteT (by omega) ?_
      by_cases h2 : n < m
      · rw [decide_eq_true (by omega)]
        have ih := parted_l xs hl hs m hm (d - 1) (n + 1) (by omega) (by omega) (by omega)
        have ep : partsOf (n + 1) xs = partsOf n xs ++ [partOf (xs.getD n z57)] := by
          unfold partsOf
          rw [take_succ_at xs z57 n h, List.map_append]; rfl
        have e1 : ((n : Int) + 1) = ((n + 1 : Nat) : Int) := by omega
        rw [ep, ← e1] at ih
        have hz := hs _ (mem_at xs z57 n h)
        refine Ev.step (fun k => by simp only [spec_Parted.j1]; rfl) ?_
        refine Ev.iteT trivial (Ev.iteT (by omega) (Ev.iteT (by omega) ?_))
        rw [rdP, w64 (n := (n : Int) + 1) (by omega) (by omega)]
        have ck := clean_ok (xs.getD n z57).f1 30 (by omega)
        have t3 := tmod3 (xs.getD n z57).f0
        by_cases c2 : Int.tmod (xs.getD n z57).f0 3 = 2
        · refine Ev.iteT c2 (Ev.bindC ck (Ev.iteT (by omega) ?_))
          have eo : opOf (xs.getD n z57).f0 = -1 := by unfold opOf; rw [if_pos c2]
          rw [c2, show wrap64 (Int.tdiv (wrap64 (-2)) 2) = -1 by decide +kernel]
          unfold partOf at ih; rw [eo] at ih
          exact ih
        refine Ev.iteF c2 ?_
        by_cases c3 : Int.tmod (xs.getD n z57).f0 3 = -2
        · refine Ev.iteT c3 (Ev.bindC ck (Ev.iteT (by omega) ?_))
          have eo : opOf (xs.getD n z57).f0 = 1 := by unfold opOf; rw [if_neg c2, if_pos c3]
          rw [c3, show wrap64 (Int.tdiv (wrap64 (- -2)) 2) = 1 by decide +kernel]
          unfold partOf at ih; rw [eo] at ih
          exact ih
        · refine Ev.iteF c3 (Ev.bindC ck (Ev.iteT (by omega) ?_))
          have eo : opOf (xs.getD n z57).f0 = Int.tmod (xs.getD n z57).f0 3 := by unfold opOf; rw [if_neg c2, if_neg c3]
          unfold partOf at ih; rw [eo] at ih
          exact ih
      · exact stop _ (decide_eq_false (by omega)) (by omega)
    · exact Ev.iteF (by omega) (stop _ rfl (by omega))
termination_by d => d
theorem parted_ev (xs : List Part) (hl : xs.length ≤ 2147483647) (hs : ∀ y ∈ xs, y.f1.size ≤ 2147483647) (m : Nat) (hm : m ≤ 1000000) : Ev (fun k => spec_Parted.f k xs (m : Int)) (partsOf m xs) := by
  unfold spec_Parted.f
  have := parted_l xs hl hs m hm _ 0 rfl (by omega) (by omega)
  simpa [partsOf] using this
theorem partsOf_length (m : Nat) (xs : List Part) : (partsOf m xs).length ≤ m := by simp [partsOf]; omega
/-- A part that a law made: a known operation, a text of at most 30 characters. -/
def Okp (y : Part) : Prop := (y.f0 = -1 ∨ y.f0 = 0 ∨ y.f0 = 1) ∧ y.f1.size ≤ 120
theorem partsOf_ok (m : Nat) (xs : List Part) : ∀ y ∈ partsOf m xs, Okp y := by
  intro y hy
  obtain ⟨x, _, rfl⟩ := List.mem_map.1 hy
  exact ⟨opOf_range _, cln_size _ _⟩
/-- The program's own list of the parts. -/
def difOf (y : Part) : Dif := ⟨y.f0, y.f1⟩
theorem operation_ok (n : Int) (h : n = -1 ∨ n = 0 ∨ n = 1) : impl_operation.f n = some n := by
  rcases h with rfl | rfl | rfl <;> rfl
theorem made_l (xs : List Part) (hl : xs.length ≤ 1000000) (ho : ∀ y ∈ xs, y.f0 = -1 ∨ y.f0 = 0 ∨ y.f0 = 1) : ∀ (d n : Nat), xs.length - n = d → n ≤ xs.length → Ev (fun k => impl_made.l0 k ((xs.take n).map difOf) xs (xs.length : Int) (n : Int)) (xs.map difOf)
  | 0, n, hd, hn => by
    refine Ev.step (fun k => by simp only [impl_made.l0]; rfl) ?_
    refine Ev.iteF (by omega) ?_
    rw [List.take_of_length_le (by omega)]
    exact Ev.now _
  | d + 1, n, hd, hn => by
    have h : n < xs.length := by omega
    have ih := made_l xs hl ho d (n + 1) (by omega) (by omega)
    rw [take_succ_at xs z57 n h, List.map_append] at ih
    refine Ev.step (fun k => by simp only [impl_made.l0]; rfl) ?_
    refine Ev.iteT (by omega) (Ev.iteT (by omega) (Ev.iteT (by omega) ?_))
    rw [rdP]
    refine Ev.bindC (operation_ok _ (ho _ (mem_at xs z57 n h))) (Ev.iteT (by simp; omega) ?_)
    rw [w64 (by omega) (by omega)]
    have e1 : ((n : Int) + 1) = ((n + 1 : Nat) : Int) := by omega
    rw [e1]; exact ih
theorem made_ev (xs : List Part) (hl : xs.length ≤ 1000000) (ho : ∀ y ∈ xs, y.f0 = -1 ∨ y.f0 = 0 ∨ y.f0 = 1) : Ev (fun k => impl_made.f k xs) (xs.map difOf) := by
  unfold impl_made.f
  have := made_l xs hl ho _ 0 rfl (by omega)
  simpa using this
end Go.Proofs.Ytomidomdomjkfaa.PT
