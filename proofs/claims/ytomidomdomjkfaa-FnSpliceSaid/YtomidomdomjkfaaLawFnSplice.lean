/-
  THE LAW FnSplice: for every input that reads as data the law returns true, and each argument reads afterwards as it read before. Conditions: none beyond the row's own.
-/
import Derived.Test.YtomidomdomjkfaaRows
import Derived.Test.YtomidomdomjkfaaPTx84
import Derived.Test.YtomidomdomjkfaaPureFnSplice
import Derived.Test.YtomidomdomjkfaaXOpen
import Derived.WalkKit
import Derived.ProofKit
import Derived.OpenShut
import Derived.ShutString
import Derived.ChangeOld
import Derived.Below
import Derived.SizedLaws
import Derived.Laws.Cover2
import Derived.Test.YtomidomdomjkfaaWSized
namespace Go.Proofs.Ytomidomdomjkfaa.fnSplice
open Go.ChangeShapes Go.WideShapes Go.ChangeAt Go.RowKit Go.Proofs.YtomidomdomjkfaaW.PrintWords Go.Proofs.Ytomidomdomjkfaa.PT
open Go.ChangeMaps (open_string shut_string)
set_option linter.unusedVariables false
theorem own : ownKnob Try.prog.godebug = none := by kernel_rfl
theorem laidOut : laidOutB Try.prog = true := by kernel_rfl
def IsRow (k : IntKind) (w : World) (a : Option Addr) (len cap : Nat) (zs : List Int) : Prop :=
  (a = none ∧ len = 0 ∧ cap = 0 ∧ zs = []) ∨
  ∃ x, a = some x ∧ len ≤ cap ∧ cap ≤ maxLen ∧ zs.length = cap ∧ (∀ i, i < zs.length → w.cell? (x.add i) = some (.int k (zs.getD i 0))) ∧ ∀ n ∈ zs, (Lit.int k n).wf = true
theorem elem_k57 {H : Type} {enc : TypeId × Value → H} {w : World} {base : Nat} {spare : Nat → Bool} {held : Bool} : ElemOf enc Try.prog w base spare held k57 (fun y_ => ((Lit.int .i64 y_.f0).wf = true ∧ y_.f1.size ≤ maxLen)) 57 := by
  intro n cs x hl h
  match cs, hl with
  | [c0, c1], _ =>
    obtain ⟨m0, y0, g0⟩ := field_at Try.underlying57 (by kernel_rfl) h 0 _ rfl c0 rfl
    obtain ⟨x0, e0, G0⟩ := (elem_int Try.underlying3) m0 [c0] y0 rfl g0
    have q0 : [c0] = [_] := e0
    obtain rfl := (List.cons.inj q0).1
    obtain ⟨m1, y1, g1⟩ := field_at Try.underlying57 (by kernel_rfl) h 1 _ rfl c1 rfl
    obtain ⟨x1, e1, G1⟩ := (elem_string Try.underlying9) m1 [c1] y1 rfl g1
    have q1 : [c1] = [_] := e1
    obtain rfl := (List.cons.inj q1).1
    exact ⟨⟨x0, x1⟩, k57_mk w (⟨x0, x1⟩ : S57), G0, G1⟩
set_option maxRecDepth 100000 in
theorem lifted (os : Os) (started : os.Started) (H : Type) (enc : TypeId × Value → H) :
    ReturnsInHanded {} Try.checked os 14 .any (Rows.fnSpliceSpec.pre6 enc Try.prog Try.f14 Rows.fnSpliceRow.domain false) (Rows.fnSpliceSpec.post enc Try.prog Try.f14 false true false false) := by
  refine returnsInHanded_of_change_sized (C := Try.checked) own started (by kernel_rfl) Try.func14
    (ChangeSpec.witness6 (enc := enc) (C := Try.checked) false ⟨#[], #[.slice none 0 0, .int .i64 0, .int .i64 0, .slice none 0 0], []⟩ 8 (by kernel_rfl) (by kernel_rfl) (by kernel_rfl) (by kernel_rfl)) ?_
  intro W base args ds gs before hval0 hW hcnd hsz0 _
  have hsz : (DataW.weightsEach Try.prog (Try.f14.params.toList ++ Rows.fnSpliceSpec.plain.varTypes Try.prog) (ds ++ gs)).all (· ≤ reachBytes) = true := hsz0
  have hval : ∀ (j : Nat) t v, Try.f14.params[j]? = some t → args[j]? = some v → Value.okWide Try.prog W .any base t v := hval0
  have hW' := hW
  obtain ⟨p, q, hA0, hV, rfl, hfz, hnd⟩ := hW
  have hA : DataW.TrodAll enc Try.prog W 0 (fun _ => true) true Try.f14.params.toList args.toList ds p := hA0
  rw [Try.params14] at hA hval hsz
  obtain ⟨v0, vs0, d0, ds0, p0, q0, hargs, rfl, rfl, h0, r0⟩ := trodAll_cons hA
  obtain ⟨v1, vs1, d1, ds1, p1, q1, rfl, rfl, rfl, h1, r1⟩ := trodAll_cons r0
  obtain ⟨v2, vs2, d2, ds2, p2, q2, rfl, rfl, rfl, h2, r2⟩ := trodAll_cons r1
  obtain ⟨v3, vs3, d3, ds3, p3, q3, rfl, rfl, rfl, h3, r3⟩ := trodAll_cons r2
  obtain ⟨rfl, rfl, rfl⟩ := trodAll_nil r3
  obtain rfl : args = #[v0, v1, v2, v3] := by cases args; simp_all
  obtain ⟨rfl, rfl⟩ := trodVars_none hV
  obtain ⟨a0, len0, cap0, rfl⟩ := okWide_slice Try.underlying51 (hval 0 51 v0 rfl rfl)
  have k0 := h0
  have lt0 : ∀ x ∈ p0, x.block < W.heap.size := by obtain ⟨m, hm⟩ := k0; exact DataW.trod_lt m _ _ _ hm
  obtain ⟨z0, w0⟩ : ∃ zs : List (S57), zs.length = len0 ∧ len0 ≤ cap0 ∧ len0 ≤ maxLen ∧ Kd.C k57 W a0 len0 zs ∧ ∀ y_ ∈ zs, ((Lit.int .i64 y_.f0).wf = true ∧ y_.f1.size ≤ maxLen) := by
    obtain ⟨fuel, hf⟩ := h0
    obtain ⟨A_, l_, c_, xs, hcs, h1, h2, h3, h4, h5⟩ := open_row k57 Try.underlying51 (by kernel_rfl) elem_k57 hf
    simp [Value.cells] at hcs
    obtain ⟨rfl, rfl, rfl⟩ := hcs
    exact ⟨xs, h1, h2, h3, h4, h5⟩
  obtain ⟨a1, rfl, rfl, rfl, w1⟩ := open_int Try.underlying3 (hval 1 3 v1 rfl rfl) h1
  obtain ⟨a2, rfl, rfl, rfl, w2⟩ := open_int Try.underlying3 (hval 2 3 v2 rfl rfl) h2
  obtain ⟨a3, len3, cap3, rfl⟩ := okWide_slice Try.underlying51 (hval 3 51 v3 rfl rfl)
  have k3 := h3
  have lt3 : ∀ x ∈ p3, x.block < W.heap.size := by obtain ⟨m, hm⟩ := k3; exact DataW.trod_lt m _ _ _ hm
  obtain ⟨z3, w3⟩ : ∃ zs : List (S57), zs.length = len3 ∧ len3 ≤ cap3 ∧ len3 ≤ maxLen ∧ Kd.C k57 W a3 len3 zs ∧ ∀ y_ ∈ zs, ((Lit.int .i64 y_.f0).wf = true ∧ y_.f1.size ≤ maxLen) := by
    obtain ⟨fuel, hf⟩ := h3
    obtain ⟨A_, l_, c_, xs, hcs, h1, h2, h3, h4, h5⟩ := open_row k57 Try.underlying51 (by kernel_rfl) elem_k57 hf
    simp [Value.cells] at hcs
    obtain ⟨rfl, rfl, rfl⟩ := hcs
    exact ⟨xs, h1, h2, h3, h4, h5⟩
  clear hA0 hval0 hsz0 hsz
  refine (PT.laws_FnSplice.walk Pure.FnSplice a0 len0 cap0 z0 a1 a2 a3 len3 cap3 z3 W w0 w1 w2 w3).mono fun e W' ⟨he, bel⟩ => ?_
  subst he
  exact ⟨_, rfl, _, _, _, [], _, [], hW', trodAll_mk1 (shut_bool Try.underlying4 _), (trodAll_cons_mk (Below.trod laidOut (by kernel_rfl) (of_decide_eq_true (by kernel_rfl)) k0 bel lt0) (trodAll_cons_mk (shut_int Try.underlying3 w1) (trodAll_cons_mk (shut_int Try.underlying3 w2) (trodAll_cons_mk (Below.trod laidOut (by kernel_rfl) (of_decide_eq_true (by kernel_rfl)) k3 bel lt3) trodAll_mk0)))), rfl, bel.frame _, fun h => by cases h⟩
theorem over : Rows.fnSpliceRow.holds Try.pinned (OpenSpec.ofChange Rows.fnSpliceSpec) :=
  OpenClaim.holds_of_wide 14 Try.f14 rfl rfl rfl rfl rfl rfl rfl ⟨rfl, rfl, rfl, rfl, rfl⟩ rfl rfl rfl rfl rfl (by kernel_rfl) Try.func14 (by kernel_rfl)
    (of_decide_eq_true (by kernel_rfl)) (by unfold Func.isWrapper; first | (rw [if_pos (by decide +kernel)]; kernel_rfl) | (rw [if_neg (by decide +kernel)]; exact ⟨rfl, rfl⟩))
    (fun os started H enc _ => lifted os started H enc)
theorem proved : Rows.FnSpliceSaid := over
#print axioms proved
end Go.Proofs.Ytomidomdomjkfaa.fnSplice
namespace Go.Proofs.Ytomidomdomjkfaa
/-- The row, under a short name, for the claim. -/
theorem fnSplice_holds : Rows.FnSpliceSaid := fnSplice.proved
end Go.Proofs.Ytomidomdomjkfaa
