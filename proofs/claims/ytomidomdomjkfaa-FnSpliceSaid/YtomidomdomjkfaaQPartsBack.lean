/- The program's own list, told as parts again; and when two lists of parts are the same. -/
import Derived.Test.YtomidomdomjkfaaQParts
import Derived.Test.YtomidomdomjkfaaPTx79
import Derived.Test.YtomidomdomjkfaaPTx83
namespace Go.Proofs.Ytomidomdomjkfaa.PT
open Go Go.RowKit Go.Proofs.YtomidomdomjkfaaW.PrintWords
def partBack (y : Dif) : Part := ⟨y.f0, y.f1⟩
theorem back_difOf (xs : List Part) : (xs.map difOf).map partBack = xs := by
  rw [List.map_map]; conv => rhs; rw [← List.map_id xs]
  rfl
theorem list_l (xs : List Dif) (hl : xs.length ≤ 1000000) (ho : ∀ y ∈ xs, -9223372036854775808 ≤ y.f0 ∧ y.f0 < 9223372036854775808) : ∀ (d n : Nat), xs.length - n = d → n ≤ xs.length → Ev (fun k => impl_list.l0 k ((xs.take n).map partBack) xs (xs.length : Int) (n : Int)) (xs.map partBack)
  | 0, n, hd, hn => by
    refine Ev.step (fun k => by simp only [impl_list.l0]; rfl) ?_
    refine Ev.iteF (by omega) ?_
    rw [List.take_of_length_le (by omega)]
    exact Ev.now _
  | d + 1, n, hd, hn => by
    have h : n < xs.length := by omega
    have ih := list_l xs hl ho d (n + 1) (by omega) (by omega)
    rw [take_succ_at xs z91 n h, List.map_append] at ih
    obtain ⟨o1, o2⟩ := ho _ (mem_at xs z91 n h)
    refine Ev.step (fun k => by simp only [impl_list.l0]; rfl) ?_
    refine Ev.iteT (by omega) (Ev.iteT (by omega) (Ev.iteT (by omega) (Ev.iteT (by simp; omega) ?_)))
    rw [rdD, w64 o1 o2, w64 (by omega) (by omega)]
    have e1 : ((n : Int) + 1) = ((n + 1 : Nat) : Int) := by omega
    rw [e1]; exact ih
theorem list_ev (xs : List Dif) (hl : xs.length ≤ 1000000) (ho : ∀ y ∈ xs, -9223372036854775808 ≤ y.f0 ∧ y.f0 < 9223372036854775808) : Ev (fun k => impl_list.f k xs) (xs.map partBack) := by
  unfold impl_list.f
  have := list_l xs hl ho _ 0 rfl (by omega)
  simpa using this
theorem same_l (xs : List Part) (hl : xs.length ≤ 1000000) : ∀ (d n : Nat), xs.length - n = d → n ≤ xs.length → Ev (fun k => spec_SameParts.l0 k xs xs (xs.length : Int) (n : Int)) true
  | 0, n, hd, hn => by
    refine Ev.step (fun k => by simp only [spec_SameParts.l0]; rfl) ?_
    exact Ev.iteF (by omega) (Ev.now _)
  | d + 1, n, hd, hn => by
    have ih := same_l xs hl d (n + 1) (by omega) (by omega)
    refine Ev.step (fun k => by simp only [spec_SameParts.l0]; rfl) ?_
    refine Ev.iteT (by omega) (Ev.iteT (by omega) (Ev.iteT (by omega) (Ev.iteT (by omega) (Ev.iteF (by simp) ?_))))
    rw [w64 (by omega) (by omega)]
    have e1 : ((n : Int) + 1) = ((n + 1 : Nat) : Int) := by omega
    rw [e1]; exact ih
theorem same_ev (xs ys : List Part) (hl : xs.length ≤ 1000000) (h : xs = ys) : Ev (fun k => spec_SameParts.f k xs ys) true := by
  subst h
  unfold spec_SameParts.f
  have := same_l xs hl _ 0 rfl (by omega)
  exact Ev.iteT rfl (by simpa using this)
end Go.Proofs.Ytomidomdomjkfaa.PT
