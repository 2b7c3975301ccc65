/- impl.Splice takes the parts out and puts the new ones in, as the definition says, for all differences (law FnSplice). -/
import Derived.Test.YtomidomdomjkfaaQPartsBack
import Derived.Test.YtomidomdomjkfaaPTx80
import Derived.Test.YtomidomdomjkfaaPTx81
import Derived.Test.YtomidomdomjkfaaPTx82
import Derived.Test.YtomidomdomjkfaaPTx84
namespace Go.Proofs.Ytomidomdomjkfaa.Pure
open Go Go.RowKit Go.Proofs.Ytomidomdomjkfaa.PT Go.Proofs.YtomidomdomjkfaaW.PrintWords Go.Proofs.YtomidomdomjkfaaW.PrintLast
theorem implSplice_ev (xs ys : List Part) (i n : Nat) (hl : xs.length ≤ 1000) (hx : ∀ y ∈ xs, Okp y) (hl2 : ys.length ≤ 1000) (hy : ∀ y ∈ ys, Okp y) (hi : i + n ≤ xs.length) : Ev (fun k => impl_Splice.f k xs (i : Int) (n : Int) ys) (xs.take i ++ ys ++ xs.drop (i + n), 0) := by
  unfold impl_Splice.f
  refine Ev.bind (made_ev xs (by omega) (fun y h => (hx y h).1)) (Ev.bind (made_ev ys (by omega) (fun y h => (hy y h).1)) ?_)
  have e1 : ((i : Int)).toNat = i := by omega
  have e2 : ((i : Int) + (n : Int)).toNat = i + n := by omega
  have e : diffmatchpatch_ZzSplice.f (xs.map difOf) (i : Int) (n : Int) (ys.map difOf) = some ((xs.take i ++ ys ++ xs.drop (i + n)).map difOf) := by
    unfold diffmatchpatch_ZzSplice.f diffmatchpatch_splice.f
    rw [if_pos ⟨by omega, by omega, by simp; omega, by simp; omega⟩, e1, e2]
    simp
  refine Ev.bindC e ?_
  have hz : ∀ y ∈ xs.take i ++ ys ++ xs.drop (i + n), Okp y := by
    intro y h
    rcases List.mem_append.1 h with h | h
    · rcases List.mem_append.1 h with h | h
      · exact hx y (List.mem_of_mem_take h)
      · exact hy y h
    · exact hx y (List.mem_of_mem_drop h)
  have hlen : (xs.take i ++ ys ++ xs.drop (i + n)).length ≤ 2000 := by simp; omega
  generalize xs.take i ++ ys ++ xs.drop (i + n) = zs at hz hlen ⊢
  have := list_ev (zs.map difOf) (by simp; omega) (by
    intro y h
    obtain ⟨z, hz', rfl⟩ := List.mem_map.1 h
    rcases (hz z hz').1 with h | h | h <;> (unfold difOf; simp only [h]; omega))
  rw [back_difOf] at this
  exact Ev.bind this (Ev.now _)
theorem FnSplice : laws_FnSplice.Pure := by
  intro l a b m _ _ _ _ _ _
  refine Ev.rounds ?_
  unfold laws_FnSplice.f
  have skip : Ev (fun k => laws_FnSplice.j0 k l a b m true) true := by
    refine Ev.step (fun k => by simp only [laws_FnSplice.j0]; rfl) ?_
    exact Ev.iteT (by simp) (Ev.now _)
  rcases fits_ev l with ⟨h1, h2, h3⟩ | h1
  rotate_left
  · exact Ev.bind h1 (Ev.iteF (by simp) skip)
  refine Ev.bind h1 (Ev.iteT rfl ?_)
  rcases fits_ev m with ⟨g1, g2, g3⟩ | g1
  rotate_left
  · exact Ev.bind g1 skip
  refine Ev.bind g1 ?_
  refine Ev.step (fun k => by simp only [laws_FnSplice.j0]; rfl) ?_
  refine Ev.iteF (by simp) ?_
  refine Ev.bind (parted_ev l h2 h3 12 (by omega)) (Ev.bind (parted_ev m g2 g3 6 (by omega)) ?_)
  have pl := partsOf_length 12 l
  have po := partsOf_ok 12 l
  have ql := partsOf_length 6 m
  have qo := partsOf_ok 6 m
  generalize partsOf 12 l = xs at pl po ⊢
  generalize partsOf 6 m = ys at ql qo ⊢
  have u1 : IntKind.u64.wrap (wrap64 ((xs.length : Int) + 1)) = (xs.length : Int) + 1 := by rw [w64 (by omega) (by omega), u64w]; omega
  rw [u1]
  have r0 : 0 ≤ IntKind.u64.wrap a := by rw [u64w]; omega
  have m0 := Int.tmod_nonneg ((xs.length : Int) + 1) r0
  have m1 : (IntKind.u64.wrap a).tmod ((xs.length : Int) + 1) < (xs.length : Int) + 1 := Int.tmod_lt_of_pos _ (by omega)
  rw [w64 (n := Int.tmod (IntKind.u64.wrap a) _) (by omega) (by omega)]
  generalize hi : (IntKind.u64.wrap a).tmod ((xs.length : Int) + 1) = ii at m0 m1 ⊢
  obtain ⟨i, rfl⟩ := Int.eq_ofNat_of_zero_le m0
  have u2 : IntKind.u64.wrap (wrap64 ((wrap64 ((xs.length : Int) - (i : Int))) + 1)) = (xs.length : Int) - (i : Int) + 1 := by rw [w64 (n := _ - _) (by omega) (by omega), w64 (by omega) (by omega), u64w]; omega
  rw [u2]
  have r1 : 0 ≤ IntKind.u64.wrap b := by rw [u64w]; omega
  have n0 := Int.tmod_nonneg ((xs.length : Int) - (i : Int) + 1) r1
  have n1 : (IntKind.u64.wrap b).tmod ((xs.length : Int) - (i : Int) + 1) < (xs.length : Int) - (i : Int) + 1 := Int.tmod_lt_of_pos _ (by omega)
  rw [w64 (n := Int.tmod (IntKind.u64.wrap b) _) (by omega) (by omega)]
  generalize hn : (IntKind.u64.wrap b).tmod ((xs.length : Int) - (i : Int) + 1) = nn at n0 n1 ⊢
  obtain ⟨n, rfl⟩ := Int.eq_ofNat_of_zero_le n0
  rw [w64 (n := (i : Int) + (n : Int)) (by omega) (by omega)]
  have e1 : ((i : Int)).toNat = i := by omega
  have e2 : ((i : Int) + (n : Int)).toNat = i + n := by omega
  rw [e1, e2]
  refine Ev.iteF (by omega) (Ev.iteF (by omega) (Ev.iteT (by omega) (Ev.iteT (by omega) (Ev.bindC rfl (Ev.iteT (by simp; omega) (Ev.bindC rfl (Ev.iteT (by simp; omega) (Ev.bindC rfl (Ev.iteT (by omega) (Ev.iteT (by omega) (Ev.bindC rfl (Ev.iteT (by simp; omega) ?_))))))))))))
  refine Ev.bind (implSplice_ev xs ys i n (by omega) po (by omega) qo (by omega)) ?_
  refine Ev.bind (implSplice_ev [] [(⟨1, (⟨#[97]⟩ : ByteArray)⟩ : Part)] 0 0 (by decide) (by simp) (by decide) (by intro y hy; simp at hy; subst hy; exact ⟨by decide, by decide⟩) (by decide)) ?_
  refine Ev.iteT rfl ?_
  refine Ev.bind (same_ev _ _ (by simp; omega) (by simp)) (Ev.iteT rfl ?_)
  exact Ev.const rfl
end Go.Proofs.Ytomidomdomjkfaa.Pure
