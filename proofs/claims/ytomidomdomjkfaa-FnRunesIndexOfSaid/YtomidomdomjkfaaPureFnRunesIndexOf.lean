/- impl.RunesIndexOf tells the first place of a row of characters from a given place on, for all texts (law FnRunesIndexOf). -/
import Derived.Test.YtomidomdomjkfaaQLists
import Derived.Test.YtomidomdomjkfaaQUtf
import Derived.Test.YtomidomdomjkfaaQClean
import Derived.Test.YtomidomdomjkfaaPTx26
import Derived.Test.YtomidomdomjkfaaPTx27
import Derived.Test.YtomidomdomjkfaaPTx28
import Derived.Test.YtomidomdomjkfaaPTx29
import Derived.Test.YtomidomdomjkfaaPTx30
import Derived.Test.YtomidomdomjkfaaPTx31
namespace Go.Proofs.Ytomidomdomjkfaa.Pure
open Go Go.RowKit Go.Proofs.Ytomidomdomjkfaa.PT Go.Proofs.YtomidomdomjkfaaW.PrintWords Go.Proofs.YtomidomdomjkfaaW.PrintLast
def rmt (a b : List Int) (j : Nat) : Bool := decide ((a.take (j + b.length)).drop j = b)
theorem getD_drop (x : List Int) (n : Nat) (h : n < x.length) : x.drop n = x.getD n 0 :: x.drop (n + 1) := by
  rw [List.drop_eq_getElem_cons h]; simp [List.getD, List.getElem?_eq_getElem h]
theorem eq_l (x y : List Int) (hl : x.length = y.length) (hx : x.length ≤ 1000000) : ∀ (d n : Nat), x.length - n = d → n ≤ x.length → Ev (fun k => diffmatchpatch_runesEqual.l0 k y x (x.length : Int) (n : Int)) (decide (x.drop n = y.drop n))
  | 0, n, hd, hn => by
    have e1 : x.drop n = [] := List.drop_eq_nil_of_le (by omega)
    have e2 : y.drop n = [] := List.drop_eq_nil_of_le (by omega)
    rw [e1, e2]
    refine Ev.step (fun k => by simp only [diffmatchpatch_runesEqual.l0]; rfl) ?_
    exact Ev.iteF (by omega) (Ev.now _)
  | d + 1, n, hd, hn => by
    have ih := eq_l x y hl hx d (n + 1) (by omega) (by omega)
    have h1 : n < x.length := by omega
    have h2 : n < y.length := by omega
    rw [getD_drop x n h1, getD_drop y n h2]
    refine Ev.step (fun k => by simp only [diffmatchpatch_runesEqual.l0]; rfl) ?_
    refine Ev.iteT (by omega) (Ev.iteT (by omega) (Ev.iteT (by omega) (Ev.iteT (by omega) ?_)))
    rw [rd_at, rd_at, w64 (by omega) (by omega)]
    have e1 : ((n : Int) + 1) = ((n + 1 : Nat) : Int) := by omega
    rw [e1]
    by_cases c : x.getD n 0 = y.getD n 0
    · rw [c]
      have e : decide (y.getD n 0 :: x.drop (n + 1) = y.getD n 0 :: y.drop (n + 1)) = decide (x.drop (n + 1) = y.drop (n + 1)) := by simp
      rw [e]
      exact Ev.iteT rfl ih
    · have e : decide (x.getD n 0 :: x.drop (n + 1) = y.getD n 0 :: y.drop (n + 1)) = false := by
        apply decide_eq_false; intro h; exact c (List.cons.inj h).1
      rw [e]
      exact Ev.iteF c (Ev.now _)
theorem eq_ev (x y : List Int) (hl : x.length = y.length) (hx : x.length ≤ 1000000) : Ev (fun k => diffmatchpatch_runesEqual.f k x y) (decide (x = y)) := by
  unfold diffmatchpatch_runesEqual.f
  refine Ev.iteT (by omega) ?_
  have := eq_l x y hl hx _ 0 rfl (by omega)
  simpa using this
theorem rzz_l (a b : List Int) (ha : a.length ≤ 1000000) (hb : b.length ≤ 1000000) : ∀ (d n : Nat), a.length + 1 - n = d → n ≤ a.length + 1 → Ev (fun k => diffmatchpatch_runesIndex.l0 k a b (wrap64 ((a.length : Int) - (b.length : Int))) (n : Int)) (ffrom (rmt a b) (a.length + 1 - b.length - n) n)
  | d, n, hd, hn => by
    refine Ev.step (fun k => by simp only [diffmatchpatch_runesIndex.l0]; rfl) ?_
    rw [w64 (n := (n : Int) + (b.length : Int)) (by omega) (by omega), w64 (n := (a.length : Int) - (b.length : Int)) (by omega) (by omega)]
    by_cases h : n + b.length ≤ a.length
    · have e2 : (((n : Int) + (b.length : Int)) : Int).toNat = n + b.length := by omega
      have e3 : a.length + 1 - b.length - n = (a.length + 1 - b.length - (n + 1)) + 1 := by omega
      refine Ev.iteT (by omega) (Ev.iteT (by omega) (Ev.iteT (by omega) (Ev.iteT (by omega) ?_)))
      rw [e2, e3, Int.toNat_natCast]
      refine Ev.bind (eq_ev _ b (by simp; omega) (by simp; omega)) ?_
      unfold ffrom
      by_cases c : (a.take (n + b.length)).drop n = b
      · have hc : rmt a b n = true := by simp [rmt, c]
        rw [if_pos hc]; exact Ev.iteT (by simp [c]) (Ev.now _)
      · have hc : ¬ rmt a b n = true := by simp [rmt, c]
        rw [if_neg hc]; refine Ev.iteF (by simp [c]) ?_
        have ih := rzz_l a b ha hb (d - 1) (n + 1) (by omega) (by omega)
        rw [w64 (n := (a.length : Int) - (b.length : Int)) (by omega) (by omega)] at ih
        rw [w64 (by omega) (by omega)]
        have e1 : ((n : Int) + 1) = ((n + 1 : Nat) : Int) := by omega
        rw [e1]; exact ih
    · have e : a.length + 1 - b.length - n = 0 := by omega
      rw [e]
      exact Ev.iteF (by omega) (Ev.now _)
termination_by d => d
theorem rzz_ev (a b : List Int) (ha : a.length ≤ 1000000) (hb : b.length ≤ 1000000) : Ev (fun k => diffmatchpatch_runesIndex.f k a b) (ffrom (rmt a b) (a.length + 1 - b.length) 0) := by
  unfold diffmatchpatch_runesIndex.f
  have := rzz_l a b ha hb _ 0 rfl (by omega)
  simpa using this
theorem implRunesIndexOf_ev (a b : List Int) (loc : Int) (ha : a.length ≤ 1000000) (hb : b.length ≤ 1000000) (hb1 : 1 ≤ b.length) (h0 : -1000000 ≤ loc) (h1 : loc ≤ 2000000) : Ev (fun k => impl_RunesIndexOf.f k a b loc) (ffrom (rmt a b) (a.length + 1 - b.length - loc.toNat) loc.toNat) := by
  unfold impl_RunesIndexOf.f diffmatchpatch_ZzRunesIndexOf.f
  refine Ev.bind (a := ffrom (rmt a b) (a.length + 1 - b.length - loc.toNat) loc.toNat) (Ev.bind (a := ffrom (rmt a b) (a.length + 1 - b.length - loc.toNat) loc.toNat) ?_ (Ev.now _)) (Ev.now _)
  unfold diffmatchpatch_runesIndexOf.f
  rw [w64 (by omega) (by omega)]
  by_cases c1 : loc > (a.length : Int) - 1
  · refine Ev.iteT c1 ?_
    have e : a.length + 1 - b.length - loc.toNat = 0 := by omega
    rw [e]; exact Ev.now _
  refine Ev.iteF c1 ?_
  by_cases c2 : loc ≤ 0
  · have e : loc.toNat = 0 := by omega
    rw [e]
    exact Ev.iteT c2 (Ev.bind (rzz_ev a b ha hb) (Ev.now _))
  refine Ev.iteF c2 (Ev.iteT (by omega) (Ev.iteT (by omega) ?_))
  have sz : (a.drop loc.toNat).length = a.length - loc.toNat := by simp
  refine Ev.bind (rzz_ev _ b (by omega) hb) ?_
  rw [sz]
  have ed : a.length - loc.toNat + 1 - b.length = a.length + 1 - b.length - loc.toNat := by omega
  rw [ed]
  have sh : ffrom (rmt a b) (a.length + 1 - b.length - loc.toNat) loc.toNat = _ := ffrom_shift (rmt (a.drop loc.toNat) b) (rmt a b) loc.toNat (a.length + 1 - b.length - loc.toNat) 0 (by
    intro j _ hj
    unfold rmt
    rw [List.take_drop, List.drop_drop, Nat.add_assoc])
  rw [sh]
  have rg := ffrom_range (rmt (a.drop loc.toNat) b) (a.length + 1 - b.length - loc.toNat) 0
  by_cases c3 : ffrom (rmt (a.drop loc.toNat) b) (a.length + 1 - b.length - loc.toNat) 0 = -1
  · simp only [if_pos c3]; exact Ev.now _
  · simp only [if_neg c3]
    rw [w64 (by omega) (by omega)]
    have e4 : ((loc.toNat : Nat) : Int) = loc := by omega
    rw [e4]; exact Ev.now _
theorem bytes_eq (a b : List Int) (va : Valids a) (vb : Valids b) : ((runesBytes a).toList = (runesBytes b).toList) ↔ a = b := by
  constructor
  · intro h
    rw [ByteArray.toList_eq, ByteArray.toList_eq] at h
    exact runesBytes_inj va vb (ByteArray.ext (Array.ext' h))
  · rintro rfl; rfl
theorem rdown_l (a b : List Int) (loc : Int) (va : Valids a) (vb : Valids b) (ha : a.length ≤ 1000000) (hb : b.length ≤ 1000000) (hb1 : 1 ≤ b.length) (h0 : -1000000 ≤ loc) (h1 : loc ≤ 2000000) : ∀ (d j : Nat), j = loc.toNat + d → j + b.length ≤ a.length + 1 → Ev (fun k => laws_FnRunesIndexOf.l0 k loc a b (ffrom (rmt a b) (a.length + 1 - b.length - j) j) ((j : Int) - 1)) true
  | 0, j, hd, hj => by
    refine Ev.step (fun k => by simp only [laws_FnRunesIndexOf.l0]; rfl) ?_
    refine Ev.iteF (by unfold mx; split <;> omega) ?_
    refine Ev.bind (implRunesIndexOf_ev a b loc ha hb hb1 h0 h1) ?_
    have e : j = loc.toNat := by omega
    rw [e]
    exact Ev.const (by simp)
  | d + 1, j, hd, hj => by
    refine Ev.step (fun k => by simp only [laws_FnRunesIndexOf.l0]; rfl) ?_
    rw [w64 (n := _ + _) (by omega) (by omega)]
    refine Ev.iteT (by unfold mx; split <;> omega) (Ev.iteT (by omega) (Ev.iteT (by omega) (Ev.iteT (by omega) ?_)))
    have ih := rdown_l a b loc va vb ha hb hb1 h0 h1 d (j - 1) (by omega) (by omega)
    have e3 : a.length + 1 - b.length - (j - 1) = (a.length + 1 - b.length - j) + 1 := by omega
    rw [e3] at ih
    unfold ffrom at ih
    have e5 : j - 1 + 1 = j := by omega
    rw [e5] at ih
    have e4 : (((j - 1 : Nat) : Nat) : Int) = (j : Int) - 1 := by omega
    have e6 : ((j : Int) - 1).toNat = j - 1 := by omega
    have e7 : ((j : Int) - 1 + (b.length : Int)).toNat = j - 1 + b.length := by omega
    rw [e6, e7, w64 (n := (j : Int) - 1 - 1) (by omega) (by omega)]
    rw [e4] at ih
    have be := bytes_eq ((a.take (j - 1 + b.length)).drop (j - 1)) b ((va.take _).drop _) vb
    by_cases c : (a.take (j - 1 + b.length)).drop (j - 1) = b
    · have hc : rmt a b (j - 1) = true := by simp [rmt, c]
      rw [if_pos hc] at ih; exact Ev.iteT (be.2 c) ih
    · have hc : ¬ rmt a b (j - 1) = true := by simp [rmt, c]
      rw [if_neg hc] at ih; exact Ev.iteF (fun h => c (be.1 h)) ih
theorem rloop_ev (a b : List Int) (loc : Int) (va : Valids a) (vb : Valids b) (ha : a.length ≤ 1000000) (hb : b.length ≤ 1000000) (hb1 : 1 ≤ b.length) (h0 : -1000000 ≤ loc) (h1 : loc ≤ 2000000) : Ev (fun k => laws_FnRunesIndexOf.l0 k loc a b (-1) (wrap64 ((a.length : Int) - (b.length : Int)))) true := by
  rw [w64 (by omega) (by omega)]
  by_cases h : loc.toNat + b.length ≤ a.length + 1
  · have := rdown_l a b loc va vb ha hb hb1 h0 h1 (a.length + 1 - b.length - loc.toNat) (a.length + 1 - b.length) (by omega) (by omega)
    rw [Nat.sub_self] at this
    have e : (((a.length + 1 - b.length : Nat) : Nat) : Int) - 1 = (a.length : Int) - (b.length : Int) := by omega
    rw [e] at this
    exact this
  · refine Ev.step (fun k => by simp only [laws_FnRunesIndexOf.l0]; rfl) ?_
    refine Ev.iteF (by unfold mx; split <;> omega) ?_
    refine Ev.bind (implRunesIndexOf_ev a b loc ha hb hb1 h0 h1) ?_
    have e : a.length + 1 - b.length - loc.toNat = 0 := by omega
    rw [e]
    exact Ev.const (by simp [ffrom])
theorem rj1_ev (x : Int) (a b : List Int) (va : Valids a) (vb : Valids b) (ha : a.length ≤ 1000) (hb : b.length ≤ 1000) (hb1 : 1 ≤ b.length) : Ev (fun k => laws_FnRunesIndexOf.j1 k x a b) true := by
  refine Ev.step (fun k => by simp only [laws_FnRunesIndexOf.j1]; rfl) ?_
  have e1 : IntKind.u64.wrap (wrap64 ((a.length : Int) + 5)) = (a.length : Int) + 5 := by rw [w64 (by omega) (by omega), u64w]; omega
  rw [e1]
  refine Ev.iteF (by omega) ?_
  have r0 : 0 ≤ IntKind.u64.wrap x := by rw [u64w]; omega
  have m0 := Int.tmod_nonneg ((a.length : Int) + 5) r0
  have m1 : (IntKind.u64.wrap x).tmod ((a.length : Int) + 5) < (a.length : Int) + 5 := Int.tmod_lt_of_pos _ (by omega)
  rw [w64 (n := Int.tmod _ _) (by omega) (by omega), w64 (n := _ - 2) (by omega) (by omega)]
  exact rloop_ev a b _ va vb (by omega) (by omega) hb1 (by omega) (by omega)
theorem FnRunesIndexOf : laws_FnRunesIndexOf.Pure := by
  intro a b c _ _ _
  refine Ev.rounds ?_
  unfold laws_FnRunesIndexOf.f
  have skip : Ev (fun k => laws_FnRunesIndexOf.j0 k a b c true) true := by
    refine Ev.step (fun k => by simp only [laws_FnRunesIndexOf.j0]; rfl) ?_
    exact Ev.iteT (by simp) (Ev.now _)
  by_cases h1 : (a.size : Int) > 2147483647
  · exact Ev.iteT h1 skip
  refine Ev.iteF h1 ?_
  by_cases h2 : (b.size : Int) > 2147483647
  · rw [decide_eq_true h2]; exact skip
  rw [decide_eq_false h2]
  refine Ev.step (fun k => by simp only [laws_FnRunesIndexOf.j0]; rfl) ?_
  refine Ev.iteF (by simp) ?_
  have s1 := cln_size a 60
  have s2 := cln_size b 60
  have l1 := runesOf_length (cln a 60)
  have l2 := runesOf_length (cln b 60)
  refine Ev.bindC (clean_ok a 60 (by omega)) (Ev.bindC (runes_ok _ (by omega)) (Ev.bindC (clean_ok b 60 (by omega)) (Ev.bindC (runes_ok _ (by omega)) ?_)))
  have v1 := runesOf_valid (cln a 60)
  have v2 := runesOf_valid (cln b 60)
  by_cases c0 : ((runesOf (cln b 60)).length : Int) = 0
  · exact Ev.iteT c0 (rj1_ev c _ _ v1 (by intro x hx; simp at hx; subst hx; decide) (by omega) (by decide) (by decide))
  · exact Ev.iteF c0 (rj1_ev c _ _ v1 v2 (by omega) (by omega) (by omega))
end Go.Proofs.Ytomidomdomjkfaa.Pure
