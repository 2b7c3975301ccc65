/- impl.PrefixRunes and impl.SuffixRunes tell how many characters two rows have in common at their beginning and at their end, as the definition says, for all texts (law FnPrefixRunes). -/
import Derived.Test.YtomidomdomjkfaaQCmp
import Derived.Test.YtomidomdomjkfaaQClean
import Derived.Test.YtomidomdomjkfaaPTx16
import Derived.Test.YtomidomdomjkfaaPTx17
import Derived.Test.YtomidomdomjkfaaPTx19
import Derived.Test.YtomidomdomjkfaaPTx20
import Derived.Test.YtomidomdomjkfaaPTx22
namespace Go.Proofs.Ytomidomdomjkfaa.Pure
open Go.RowKit Go.Proofs.Ytomidomdomjkfaa.PT Go.Proofs.YtomidomdomjkfaaW.PrintWords Go.Proofs.YtomidomdomjkfaaW.PrintLast
theorem implPrefixRunes_ev (x y : List Int) (hx : x.length ≤ 9223372036854775807) : Ev (fun k => impl_PrefixRunes.f k x y) (cpl x y : Int) := by
  unfold impl_PrefixRunes.f diffmatchpatch_ZzCommonPrefix.f
  exact Ev.bind (Ev.bind (commonPrefix_ev _ _ hx) (Ev.now _)) (Ev.now _)
theorem implSuffixRunes_ev (x y : List Int) (hx : x.length ≤ 9223372036854775807) (hy : y.length ≤ 9223372036854775807) : Ev (fun k => impl_SuffixRunes.f k x y) (csl x y : Int) := by
  unfold impl_SuffixRunes.f diffmatchpatch_ZzCommonSuffix.f
  exact Ev.bind (Ev.bind (commonSuffix_ev _ _ hx hy) (Ev.now _)) (Ev.now _)
theorem FnPrefixRunes : laws_FnPrefixRunes.Pure := by
  intro a b c _ _ _
  refine Ev.rounds ?_
  unfold laws_FnPrefixRunes.f
  have skip : Ev (fun k => laws_FnPrefixRunes.j0 k a b c true) true := by
    refine Ev.step (fun k => by simp only [laws_FnPrefixRunes.j0]; rfl) ?_
    exact Ev.iteT (by simp) (Ev.now _)
  by_cases h1 : (a.size : Int) > 2147483647
  · exact Ev.iteT h1 skip
  refine Ev.iteF h1 ?_
  by_cases h2 : (b.size : Int) > 2147483647
  · exact Ev.iteT h2 skip
  refine Ev.iteF h2 ?_
  by_cases h3 : (c.size : Int) > 2147483647
  · rw [decide_eq_true h3]; exact skip
  rw [decide_eq_false h3]
  refine Ev.step (fun k => by simp only [laws_FnPrefixRunes.j0]; rfl) ?_
  refine Ev.iteF (by simp) ?_
  have s1 := cln_size a 100
  have s2 := cln_size b 100
  have s3 := cln_size c 100
  have z0 : (cln b 100 ++ cln a 100).size ≤ 800 := by rw [ByteArray.size_append]; omega
  have z0' : (cln b 100 ++ cln c 100).size ≤ 800 := by rw [ByteArray.size_append]; omega
  have z1 : (cln b 100 ++ cln a 100 ++ cln b 100).size ≤ 70368744177664 := by rw [ByteArray.size_append]; omega
  have z2 : (cln b 100 ++ cln c 100 ++ cln b 100).size ≤ 70368744177664 := by rw [ByteArray.size_append]; omega
  have l1 := runesOf_length (cln b 100 ++ cln a 100 ++ cln b 100)
  have l2 := runesOf_length (cln b 100 ++ cln c 100 ++ cln b 100)
  have cb := clean_ok b 100 (by omega)
  refine Ev.bindC cb (Ev.bindC (clean_ok a 100 (by omega)) (Ev.iteT (by omega) (Ev.bindC cb (Ev.iteT (by omega) (Ev.bindC (runes_ok _ z1) ?_)))))
  refine Ev.bindC cb (Ev.bindC (clean_ok c 100 (by omega)) (Ev.iteT (by omega) (Ev.bindC cb (Ev.iteT (by omega) (Ev.bindC (runes_ok _ z2) ?_)))))
  refine Ev.bind (implPrefixRunes_ev _ _ (by omega)) (Ev.bind (specPrefix_ev _ _ (by omega)) (Ev.iteT rfl ?_))
  refine Ev.bind (implSuffixRunes_ev _ _ (by omega) (by omega)) (Ev.bind (specSuffix_ev _ _ (by omega) (by omega)) (Ev.iteT rfl ?_))
  refine Ev.bind (implPrefixRunes_ev _ _ (by decide)) ?_
  exact Ev.const (by decide +kernel)
end Go.Proofs.Ytomidomdomjkfaa.Pure
