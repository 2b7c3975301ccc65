/- The common prefix of two texts that impl.CommonPrefix tells is that of the definition, for all texts (law FnPrefix). -/
import Derived.Test.YtomidomdomjkfaaQCmp
import Derived.Test.YtomidomdomjkfaaQClean
import Derived.Test.YtomidomdomjkfaaPTx10
import Derived.Test.YtomidomdomjkfaaPTx12
import Derived.Test.YtomidomdomjkfaaPTx13
import Derived.Test.YtomidomdomjkfaaPTx15
namespace Go.Proofs.Ytomidomdomjkfaa.Pure
open Go.RowKit Go.Proofs.Ytomidomdomjkfaa.PT Go.Proofs.YtomidomdomjkfaaW.PrintWords Go.Proofs.YtomidomdomjkfaaW.PrintLast
theorem implPrefix_ev (a b : ByteArray) (ha : a.size ≤ 70368744177664) (hb : b.size ≤ 70368744177664) : Ev (fun k => impl_CommonPrefix.f k a b) (cpl (runesOf a) (runesOf b) : Int) := by
  unfold impl_CommonPrefix.f diffmatchpatch_New.f diffmatchpatch_DiffMatchPatch_DiffCommonPrefix.f
  refine Ev.bindC rfl ?_
  refine Ev.bind (a := ((cpl (runesOf a) (runesOf b) : Int), 1000000000, 4, 1000, 4602678819172646912, 4, 32, 4602678819172646912)) ?_ (Ev.now _)
  refine Ev.iteT ha (Ev.iteT hb ?_)
  have h1 := runesOf_length a
  exact Ev.bind (commonPrefix_ev _ _ (by omega)) (Ev.now _)
theorem FnPrefix : laws_FnPrefix.Pure := by
  intro a b c _ _ _
  refine Ev.rounds ?_
  unfold laws_FnPrefix.f
  have skip : Ev (fun k => laws_FnPrefix.j0 k a b c true) true := by
    refine Ev.step (fun k => by simp only [laws_FnPrefix.j0]; rfl) ?_
    exact Ev.iteT (by simp) (Ev.now _)
  by_cases h1 : (a.size : Int) > 2147483647
  · exact Ev.iteT h1 skip
  refine Ev.iteF h1 ?_
  by_cases h2 : (b.size : Int) > 2147483647
  · exact Ev.iteT h2 skip
  refine Ev.iteF h2 ?_
  by_cases h3 : (c.size : Int) > 2147483647
  · rw [decide_eq_true h3]; exact skip
  rw [decide_eq_false h3]
  refine Ev.step (fun k => by simp only [laws_FnPrefix.j0]; rfl) ?_
  refine Ev.iteF (by simp) ?_
  have s1 := cln_size a 100
  have s2 := cln_size b 200
  have s3 := cln_size c 200
  refine Ev.bindC (clean_ok a 100 (by omega)) (Ev.bindC (clean_ok b 200 (by omega)) (Ev.iteT (by omega) (Ev.bindC (clean_ok a 100 (by omega)) (Ev.bindC (clean_ok c 200 (by omega)) (Ev.iteT (by omega) ?_)))))
  have z1 : (cln a 100 ++ cln b 200).size ≤ 70368744177664 := by rw [ByteArray.size_append]; omega
  have z2 : (cln a 100 ++ cln c 200).size ≤ 70368744177664 := by rw [ByteArray.size_append]; omega
  have l1 := runesOf_length (cln a 100 ++ cln b 200)
  refine Ev.bind (implPrefix_ev _ _ z1 z2) (Ev.bindC (runes_ok _ z1) (Ev.bindC (runes_ok _ z2) (Ev.bind (specPrefix_ev _ _ (by omega)) (Ev.iteT rfl ?_))))
  refine Ev.bind (implPrefix_ev _ _ (by decide) (by decide)) ?_
  exact Ev.const (by decide +kernel)
end Go.Proofs.Ytomidomdomjkfaa.Pure
