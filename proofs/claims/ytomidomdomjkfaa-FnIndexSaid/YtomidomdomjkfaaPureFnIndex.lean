/- impl.XIndex tells where a place of the source lies in the target, as the definition says, for all differences (law FnIndex). -/
import Derived.Test.YtomidomdomjkfaaQParts
import Derived.Test.YtomidomdomjkfaaPTx10
import Derived.Test.YtomidomdomjkfaaPTx66
import Derived.Test.YtomidomdomjkfaaPTx67
import Derived.Test.YtomidomdomjkfaaPTx70
import Derived.Test.YtomidomdomjkfaaPTx71
import Derived.Test.YtomidomdomjkfaaPTx72
namespace Go.Proofs.Ytomidomdomjkfaa.Pure
open Go Go.RowKit Go.Proofs.Ytomidomdomjkfaa.PT Go.Proofs.YtomidomdomjkfaaW.PrintWords Go.Proofs.YtomidomdomjkfaaW.PrintLast
def xi : List Part → Int → Int → Int → Int
  | [], loc, a, b => b + loc - a
  | p :: ps, loc, a, b => if p.f0 = 1 then xi ps loc a (b + p.f1.size) else if loc < a + p.f1.size then (if p.f0 = -1 then b else b + loc - a) else xi ps loc (a + p.f1.size) (if p.f0 = 0 then b + p.f1.size else b)
theorem spec_l (xs : List Part) (hl : xs.length ≤ 1000000) (hx : ∀ y ∈ xs, Okp y) (loc : Int) (h0 : 0 ≤ loc) (h1 : loc ≤ 1000000000) : ∀ (d n : Nat) (a b : Int), xs.length - n = d → n ≤ xs.length → 0 ≤ a → a ≤ 120 * n → 0 ≤ b → b ≤ 120 * n → Ev (fun k => spec_Index.l0 k loc a b xs (xs.length : Int) (n : Int)) (xi (xs.drop n) loc a b)
  | 0, n, a, b, hd, hn, ha, ha', hb, hb' => by
    rw [List.drop_eq_nil_of_le (by omega)]
    refine Ev.step (fun k => by simp only [spec_Index.l0]; rfl) ?_
    refine Ev.iteF (by omega) ?_
    rw [w64 (n := b + loc) (by omega) (by omega), w64 (by omega) (by omega)]
    exact Ev.now _
  | d + 1, n, a, b, hd, hn, ha, ha', hb, hb' => by
    have h : n < xs.length := by omega
    have ih := fun a b => spec_l xs hl hx loc h0 h1 d (n + 1) a b (by omega) (by omega)
    obtain ⟨o, s⟩ := hx _ (mem_at xs z57 n h)
    rw [drop_at xs z57 n h]
    generalize hp : xs.getD n z57 = p at o s ⊢
    have rp : rd_T57 xs (n : Int) = p := by rw [rdP, hp]
    have e1 : ((n : Int) + 1) = ((n + 1 : Nat) : Int) := by omega
    refine Ev.step (fun k => by simp only [spec_Index.l0]; rfl) ?_
    refine Ev.iteT (by omega) (Ev.iteT (by omega) (Ev.iteT (by omega) ?_))
    rw [rp, w64 (n := (n : Int) + 1) (by omega) (by omega), w64 (n := b + _) (by omega) (by omega), w64 (n := a + _) (by omega) (by omega)]
    unfold xi
    by_cases c1 : p.f0 = 1
    · rw [if_pos c1]; refine Ev.iteT c1 ?_
      rw [e1]; exact ih _ _ (by omega) (by omega) (by omega) (by omega)
    rw [if_neg c1]; refine Ev.iteF c1 ?_
    by_cases c2 : loc < a + p.f1.size
    · rw [if_pos c2]; refine Ev.iteT c2 ?_
      refine Ev.step (fun k => by simp only [spec_Index.j1]; rfl) ?_
      by_cases c3 : p.f0 = -1
      · rw [if_pos c3]; exact Ev.iteT (by simp [c3]) (Ev.now _)
      · rw [if_neg c3]; refine Ev.iteF (by simp [c3]) ?_
        rw [w64 (n := a + _) (by omega) (by omega), w64 (n := b + loc) (by omega) (by omega), w64 (n := b + loc - a) (by omega) (by omega)]
        exact Ev.iteT c2 (Ev.now _)
    · rw [if_neg c2]; refine Ev.iteF c2 ?_
      refine Ev.step (fun k => by simp only [spec_Index.j1]; rfl) ?_
      refine Ev.iteF (by simp) ?_
      rw [w64 (n := a + (p.f1.size : Int)) (by omega) (by omega), w64 (n := b + (p.f1.size : Int)) (by omega) (by omega), w64 (n := (n : Int) + 1) (by omega) (by omega)]
      refine Ev.iteF c2 ?_
      rw [e1]
      by_cases c4 : p.f0 = 0
      · rw [if_pos c4]; exact Ev.iteT c4 (ih _ _ (by omega) (by omega) (by omega) (by omega))
      · rw [if_neg c4]; exact Ev.iteF c4 (ih _ _ (by omega) (by omega) (by omega) (by omega))
theorem spec_ev (xs : List Part) (hl : xs.length ≤ 1000000) (hx : ∀ y ∈ xs, Okp y) (loc : Int) (h0 : 0 ≤ loc) (h1 : loc ≤ 1000000000) : Ev (fun k => spec_Index.f k xs loc) (xi xs loc 0 0) := by
  unfold spec_Index.f
  have := spec_l xs hl hx loc h0 h1 _ 0 0 0 rfl (by omega) (by omega) (by omega) (by omega) (by omega)
  simpa using this
abbrev St := Int × Int × Int × Nat × Int × Int × Nat
theorem impl_l (xs : List Part) (hl : xs.length ≤ 1000000) (hx : ∀ y ∈ xs, Okp y) (loc : Int) (h0 : 0 ≤ loc) (h1 : loc ≤ 1000000000) (s0 s1 s2 : Int) (s3 : Nat) (s4 s5 : Int) (s6 : Nat) : ∀ (d n : Nat) (a b : Int), xs.length - n = d → n ≤ xs.length → 0 ≤ a → a ≤ 120 * n → a ≤ loc → 0 ≤ b → b ≤ 120 * n →
    Ev (fun k => diffmatchpatch_DiffMatchPatch_DiffXIndex.l0 k (xs.map difOf) loc a b a b (n : Int) s0 s1 s2 s3 s4 s5 s6 0 (⟨#[]⟩ : ByteArray)) (xi (xs.drop n) loc a b, s0, s1, s2, s3, s4, s5, s6)
  | 0, n, a, b, hd, hn, ha, ha', hal, hb, hb' => by
    rw [List.drop_eq_nil_of_le (by omega)]
    refine Ev.step (fun k => by simp only [diffmatchpatch_DiffMatchPatch_DiffXIndex.l0]; rfl) ?_
    refine Ev.iteF (by simp; omega) (Ev.iteF (by decide) ?_)
    rw [w64 (n := loc - a) (by omega) (by omega), w64 (by omega) (by omega)]
    have e : b + (loc - a) = b + loc - a := by omega
    rw [e]
    exact Ev.now _
  | d + 1, n, a, b, hd, hn, ha, ha', hal, hb, hb' => by
    have h : n < xs.length := by omega
    have ih := fun a b => impl_l xs hl hx loc h0 h1 s0 s1 s2 s3 s4 s5 s6 d (n + 1) a b (by omega) (by omega)
    obtain ⟨o, s⟩ := hx _ (mem_at xs z57 n h)
    rw [drop_at xs z57 n h]
    have rp : rd_T91 (xs.map difOf) (n : Int) = difOf (xs.getD n z57) := by
      rw [rdD]; simp [List.getD, List.getElem?_eq_getElem h]
    generalize hp : xs.getD n z57 = p at o s rp ⊢
    have e1 : ((n : Int) + 1) = ((n + 1 : Nat) : Int) := by omega
    refine Ev.step (fun k => by simp only [diffmatchpatch_DiffMatchPatch_DiffXIndex.l0]; rfl) ?_
    refine Ev.iteT (by simp; omega) (Ev.iteT (by omega) ?_)
    rw [rp]
    show Ev (fun k => if p.f0 = 1 then _ else _) _
    simp only [difOf]
    unfold xi
    by_cases c1 : p.f0 = 1
    · rw [if_pos c1]; refine Ev.iteT c1 ?_
      refine Ev.step (fun k => by simp only [diffmatchpatch_DiffMatchPatch_DiffXIndex.j1]; rfl) ?_
      refine Ev.iteF (by omega) (Ev.iteF (by omega) ?_)
      rw [w64 (n := (n : Int) + 1) (by omega) (by omega), w64 (n := b + _) (by omega) (by omega), e1]
      exact ih _ _ (by omega) (by omega) (by omega) (by omega) (by omega)
    rw [if_neg c1]; refine Ev.iteF c1 ?_
    rw [w64 (n := a + _) (by omega) (by omega)]
    refine Ev.step (fun k => by simp only [diffmatchpatch_DiffMatchPatch_DiffXIndex.j1]; rfl) ?_
    by_cases c2 : loc < a + p.f1.size
    · rw [if_pos c2]
      by_cases c3 : p.f0 = -1
      · rw [if_pos c3]; exact Ev.iteT c3 (Ev.iteT c2 (Ev.now _))
      · rw [if_neg c3]; refine Ev.iteF c3 (Ev.iteT c2 ?_)
        rw [w64 (n := loc - a) (by omega) (by omega), w64 (by omega) (by omega)]
        have e : b + (loc - a) = b + loc - a := by omega
        rw [e]
        exact Ev.now _
    · rw [if_neg c2]
      by_cases c3 : p.f0 = -1
      · refine Ev.iteT c3 (Ev.iteF (by omega) ?_)
        rw [if_neg (by omega), w64 (n := (n : Int) + 1) (by omega) (by omega), e1]
        exact ih _ _ (by omega) (by omega) (by omega) (by omega) (by omega)
      · refine Ev.iteF c3 (Ev.iteF (by omega) ?_)
        rw [if_pos (by omega), w64 (n := (n : Int) + 1) (by omega) (by omega), w64 (n := b + _) (by omega) (by omega), e1]
        exact ih _ _ (by omega) (by omega) (by omega) (by omega) (by omega)
theorem implIndex_ev (xs : List Part) (hl : xs.length ≤ 1000000) (hx : ∀ y ∈ xs, Okp y) (loc : Int) (h0 : 0 ≤ loc) (h1 : loc ≤ 1000000000) : Ev (fun k => impl_XIndex.f k xs loc) (xi xs loc 0 0) := by
  unfold impl_XIndex.f diffmatchpatch_New.f diffmatchpatch_DiffMatchPatch_DiffXIndex.f
  refine Ev.bindC rfl (Ev.bind (made_ev xs hl (fun y hy => (hx y hy).1)) ?_)
  refine Ev.bind (impl_l xs hl hx loc h0 h1 _ _ _ _ _ _ _ _ 0 0 0 rfl (by omega) (by omega) (by omega) (by omega) (by omega) (by omega)) (Ev.now _)
theorem source_l (xs : List Part) (hl : xs.length ≤ 1000000) (hx : ∀ y ∈ xs, Okp y) : ∀ (d n : Nat) (acc : ByteArray), xs.length - n = d → n ≤ xs.length → acc.size ≤ 120 * n → ∃ r : ByteArray, r.size ≤ 120 * xs.length ∧ Ev (fun k => spec_Source.l0 k acc xs (xs.length : Int) (n : Int)) r
  | 0, n, acc, hd, hn, ha => by
    refine ⟨acc, by omega, ?_⟩
    refine Ev.step (fun k => by simp only [spec_Source.l0]; rfl) ?_
    exact Ev.iteF (by omega) (Ev.now _)
  | d + 1, n, acc, hd, hn, ha => by
    have h : n < xs.length := by omega
    obtain ⟨o, s⟩ := hx _ (mem_at xs z57 n h)
    have ih := fun acc => source_l xs hl hx d (n + 1) acc (by omega) (by omega)
    have e1 : ((n : Int) + 1) = ((n + 1 : Nat) : Int) := by omega
    by_cases c1 : (xs.getD n z57).f0 = 1
    · obtain ⟨r, hr, er⟩ := ih acc (by omega)
      refine ⟨r, hr, ?_⟩
      refine Ev.step (fun k => by simp only [spec_Source.l0]; rfl) ?_
      rw [rdP, w64 (by omega) (by omega), e1]
      exact Ev.iteT (by omega) (Ev.iteT (by omega) (Ev.iteT (by omega) (Ev.iteT c1 er)))
    · obtain ⟨r, hr, er⟩ := ih (acc ++ (xs.getD n z57).f1) (by rw [ByteArray.size_append]; omega)
      refine ⟨r, hr, ?_⟩
      refine Ev.step (fun k => by simp only [spec_Source.l0]; rfl) ?_
      rw [rdP, w64 (by omega) (by omega), e1]
      exact Ev.iteT (by omega) (Ev.iteT (by omega) (Ev.iteT (by omega) (Ev.iteF c1 (Ev.iteT (by omega) er))))
theorem FnIndex : laws_FnIndex.Pure := by
  intro l a _ _ _
  refine Ev.rounds ?_
  unfold laws_FnIndex.f
  rcases fits_ev l with ⟨h1, h2, h3⟩ | h1
  · refine Ev.bind h1 (Ev.iteT rfl (Ev.bind (parted_ev l h2 h3 20 (by omega)) ?_))
    have pl := partsOf_length 20 l
    have po := partsOf_ok 20 l
    generalize partsOf 20 l = ps at pl po ⊢
    obtain ⟨r, hr, er⟩ := source_l ps (by omega) po _ 0 (⟨#[]⟩ : ByteArray) rfl (by omega) (by decide)
    refine Ev.bind (a := r) (by unfold spec_Source.f; exact er) ?_
    have e1 : IntKind.u64.wrap (wrap64 ((r.size : Int) + 10)) = (r.size : Int) + 10 := by rw [w64 (by omega) (by omega), u64w]; omega
    rw [e1]
    refine Ev.iteF (by omega) ?_
    have r0 : 0 ≤ IntKind.u64.wrap a := by rw [u64w]; omega
    have m0 := Int.tmod_nonneg ((r.size : Int) + 10) r0
    have m1 : (IntKind.u64.wrap a).tmod ((r.size : Int) + 10) < (r.size : Int) + 10 := Int.tmod_lt_of_pos _ (by omega)
    rw [w64 (by omega) (by omega)]
    refine Ev.bind (implIndex_ev ps (by omega) po _ m0 (by omega)) (Ev.bind (spec_ev ps (by omega) po _ m0 (by omega)) (Ev.iteT rfl ?_))
    refine Ev.bind (implIndex_ev _ (by decide) (by intro y hy; simp at hy; subst hy; exact ⟨by decide, by decide⟩) 0 (by decide) (by decide)) ?_
    exact Ev.const (by decide +kernel)
  · exact Ev.bind h1 (Ev.iteF (by simp) (Ev.now _))
end Go.Proofs.Ytomidomdomjkfaa.Pure
