/- The common suffix of two texts that impl.CommonSuffix tells is that of the definition, for all texts (law FnSuffix). -/
import Derived.Test.YtomidomdomjkfaaQCmp
import Derived.Test.YtomidomdomjkfaaQClean
import Derived.Test.YtomidomdomjkfaaPTx10
import Derived.Test.YtomidomdomjkfaaPTx23
import Derived.Test.YtomidomdomjkfaaPTx24
import Derived.Test.YtomidomdomjkfaaPTx25
namespace Go.Proofs.Ytomidomdomjkfaa.Pure
open Go.RowKit Go.Proofs.Ytomidomdomjkfaa.PT Go.Proofs.YtomidomdomjkfaaW.PrintWords Go.Proofs.YtomidomdomjkfaaW.PrintLast
theorem implSuffix_ev (a b : ByteArray) (ha : a.size ≤ 70368744177664) (hb : b.size ≤ 70368744177664) : Ev (fun k => impl_CommonSuffix.f k a b) (csl (runesOf a) (runesOf b) : Int) := by
  unfold impl_CommonSuffix.f diffmatchpatch_New.f diffmatchpatch_DiffMatchPatch_DiffCommonSuffix.f
  refine Ev.bindC rfl ?_
  refine Ev.bind (a := ((csl (runesOf a) (runesOf b) : Int), 1000000000, 4, 1000, 4602678819172646912, 4, 32, 4602678819172646912)) ?_ (Ev.now _)
  refine Ev.iteT ha (Ev.iteT hb ?_)
  have h1 := runesOf_length a
  have h2 := runesOf_length b
  exact Ev.bind (commonSuffix_ev _ _ (by omega) (by omega)) (Ev.now _)
theorem FnSuffix : laws_FnSuffix.Pure := by
  intro a b c _ _ _
  refine Ev.rounds ?_
  unfold laws_FnSuffix.f
  have skip : Ev (fun k => laws_FnSuffix.j0 k a b c true) true := by
    refine Ev.step (fun k => by simp only [laws_FnSuffix.j0]; rfl) ?_
    exact Ev.iteT (by simp) (Ev.now _)
  by_cases h1 : (a.size : Int) > 2147483647
  · exact Ev.iteT h1 skip
  refine Ev.iteF h1 ?_
  by_cases h2 : (b.size : Int) > 2147483647
  · exact Ev.iteT h2 skip
  refine Ev.iteF h2 ?_
  by_cases h3 : (c.size : Int) > 2147483647
  · rw [decide_eq_true h3]; exact skip
  rw [decide_eq_false h3]
  refine Ev.step (fun k => by simp only [laws_FnSuffix.j0]; rfl) ?_
  refine Ev.iteF (by simp) ?_
  have s1 := cln_size a 200
  have s2 := cln_size b 200
  have s3 := cln_size c 100
  refine Ev.bindC (clean_ok a 200 (by omega)) (Ev.bindC (clean_ok c 100 (by omega)) (Ev.iteT (by omega) (Ev.bindC (clean_ok b 200 (by omega)) (Ev.bindC (clean_ok c 100 (by omega)) (Ev.iteT (by omega) ?_)))))
  have z1 : (cln a 200 ++ cln c 100).size ≤ 70368744177664 := by rw [ByteArray.size_append]; omega
  have z2 : (cln b 200 ++ cln c 100).size ≤ 70368744177664 := by rw [ByteArray.size_append]; omega
  have l1 := runesOf_length (cln a 200 ++ cln c 100)
  have l2 := runesOf_length (cln b 200 ++ cln c 100)
  refine Ev.bind (implSuffix_ev _ _ z1 z2) (Ev.bindC (runes_ok _ z1) (Ev.bindC (runes_ok _ z2) (Ev.bind (specSuffix_ev _ _ (by omega) (by omega)) (Ev.iteT rfl ?_))))
  refine Ev.bind (implSuffix_ev _ _ (by decide) (by decide)) ?_
  exact Ev.const (by decide +kernel)
end Go.Proofs.Ytomidomdomjkfaa.Pure
