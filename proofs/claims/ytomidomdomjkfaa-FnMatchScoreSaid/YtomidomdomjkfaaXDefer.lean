/- Words beside the print's: functions that defer one closure that recovers, where nothing panics; results that lie in variables of one cell. -/
import Derived.Test.YtomidomdomjkfaaWMore
import Derived.Defers
import Derived.Recover
namespace Go.Proofs.YtomidomdomjkfaaW.PrintWords
open Go Go.RowKit

/-- The values of results, some of which lie in variables. -/
inductive ValsX (P : Program) (tmps : Array Value) (w : World) : List ResultVar → List Value → Prop where
  | nil : ValsX P tmps w [] []
  | tmp {u : Tmp} {rs : List ResultVar} {vs : List Value} (h : ValsX P tmps w rs vs) : ValsX P tmps w (.tmp u :: rs) (tmps.getD u undef :: vs)
  | cell {p : Tmp} {ty : TypeId} {rs : List ResultVar} {vs : List Value} (g : Nat) (t : TypeId) (cs : Array Value) (fr : Nat × Nat) (d : TypeDesc)
      (hp : tmps.getD p undef = .pointer (some ⟨g, 0, none⟩)) (hg : w.heap[g]? = some (.cells cs t fr))
      (hu : P.underlying ty = some d) (hd : (match d with | .struct _ | .array _ _ => true | _ => false) = true) (hi : (P.info? ty).map (·.size) = some cs.size)
      (h : ValsX P tmps w rs vs) : ValsX P tmps w (.cell p ty :: rs) (.agg cs :: vs)
  | one {p : Tmp} {ty : TypeId} {rs : List ResultVar} {vs : List Value} (g : Nat) (t : TypeId) (v : Value) (fr : Nat × Nat) (d : TypeDesc)
      (hp : tmps.getD p undef = .pointer (some ⟨g, 0, none⟩)) (hg : w.heap[g]? = some (.cells #[v] t fr))
      (hu : P.underlying ty = some d) (hd : (match d with | .struct _ | .array _ _ => true | _ => false) = false)
      (h : ValsX P tmps w rs vs) : ValsX P tmps w (.cell p ty :: rs) (v :: vs)
section
variable {P : Program} {tmps : Array Value} {w : World}
theorem run_loadVar_one (w : World) (g : Nat) (t ty : TypeId) (v : Value) (fr : Nat × Nat) (d : TypeDesc) (hg : w.heap[g]? = some (.cells #[v] t fr))
    (hu : P.underlying ty = some d) (hd : (match d with | .struct _ | .array _ _ => true | _ => false) = false) : (loadVar ty ⟨g, 0, none⟩).run P w = .ok v w := by
  have hc : w.cell? ⟨g, 0, none⟩ = some v := (cell_of_row w g 0 #[v] t fr hg).trans rfl
  cases d <;> simp_all [loadVar, isAgg, run_underlying hu]
theorem valsX_run {rs : List ResultVar} {vs : List Value} (hv : ValsX P tmps w rs vs) (f : ResultVar → Sem Value) (hf : ∀ u, f (.tmp u) = pure (tmps.getD u undef)) (hc : ∀ a t, f (.cell a t) = (do loadVar t (← asAddr (tmps.getD a undef)))) :
    (rs.mapM f).run P w = .ok vs w := by
  induction hv with
  | nil => simp
  | tmp h ih => simp [List.mapM_cons, hf, ih]
  | cell g t cs fr d hp hg hu hd hi h ih =>
    have hp' := hp
    simp only [List.mapM_cons, hc, hp', asAddr]
    simp [run_loadVar_row w g t _ cs fr d hg hu hd hi, ih]
  | one g t v fr d hp hg hu hd h ih =>
    have hp' := hp
    simp only [List.mapM_cons, hc, hp', asAddr]
    simp [run_loadVar_one w g t _ v fr d hg hu hd, ih]
theorem resultsX_list {fn : Func} {rs : List ResultVar} {vs : List Value} (h : fn.results = rs.toArray) (hl : vs.length ≠ 1) (hv : ValsX P tmps w rs vs) : (results fn tmps).run P w = .ok (.tuple vs.toArray) w := by
  unfold results
  rw [h, List.mapM_toArray]
  simp only [Sem.run_bind, Sem.run_map]
  rw [valsX_run hv]
  · simp [hl]
  · intro u
    rfl
  · intro a t
    rfl
/-- Behind the last deferred call. -/
theorem leaves_end {fn : Func} {R : Ending → World → Prop} {v : Value} (hr : (results fn tmps).run P w = .ok v w) (h : R (.returned v) w) : Leaves P fn tmps R [] (settle .returning) w := ⟨v, hr, h⟩
end
end Go.Proofs.YtomidomdomjkfaaW.PrintWords
