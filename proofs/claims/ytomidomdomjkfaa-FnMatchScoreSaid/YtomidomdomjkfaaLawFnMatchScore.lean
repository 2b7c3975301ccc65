/-
  THE LAW FnMatchScore: for every input that reads as data the law returns true, and each argument reads afterwards as it read before. Conditions: none beyond the row's own.
-/
import Derived.Test.YtomidomdomjkfaaRows
import Derived.Test.YtomidomdomjkfaaPTx53
import Derived.Test.YtomidomdomjkfaaPureFnMatchScore
import Derived.Test.YtomidomdomjkfaaXOpen
import Derived.WalkKit
import Derived.ProofKit
import Derived.OpenShut
import Derived.ShutString
import Derived.ChangeOld
import Derived.Below
import Derived.SizedLaws
import Derived.Laws.Cover2
import Derived.Test.YtomidomdomjkfaaWSized
namespace Go.Proofs.Ytomidomdomjkfaa.fnMatchScore
open Go.ChangeShapes Go.WideShapes Go.ChangeAt Go.RowKit Go.Proofs.YtomidomdomjkfaaW.PrintWords Go.Proofs.Ytomidomdomjkfaa.PT
open Go.ChangeMaps (open_string shut_string)
set_option linter.unusedVariables false
theorem own : ownKnob Try.prog.godebug = none := by kernel_rfl
theorem laidOut : laidOutB Try.prog = true := by kernel_rfl
def IsRow (k : IntKind) (w : World) (a : Option Addr) (len cap : Nat) (zs : List Int) : Prop :=
  (a = none ∧ len = 0 ∧ cap = 0 ∧ zs = []) ∨
  ∃ x, a = some x ∧ len ≤ cap ∧ cap ≤ maxLen ∧ zs.length = cap ∧ (∀ i, i < zs.length → w.cell? (x.add i) = some (.int k (zs.getD i 0))) ∧ ∀ n ∈ zs, (Lit.int k n).wf = true
theorem elem_k45 {H : Type} {enc : TypeId × Value → H} {w : World} {base : Nat} {spare : Nat → Bool} {held : Bool} : ElemOf enc Try.prog w base spare held k45 (fun y_ => (True ∧ (Lit.int .i64 y_.f1).wf = true ∧ (Lit.int .i64 y_.f2).wf = true ∧ (Lit.float .f64 y_.f3).wf = true ∧ (Lit.float .f64 y_.f4).wf = true ∧ (Lit.int .i64 y_.f5).wf = true ∧ (Lit.int .i64 y_.f6).wf = true)) 45 := by
  intro n cs x hl h
  match cs, hl with
  | [c0, c1, c2, c3, c4, c5, c6], _ =>
    obtain ⟨m0, y0, g0⟩ := field_at Try.underlying45 (by kernel_rfl) h 0 _ rfl c0 rfl
    obtain ⟨x0, e0, G0⟩ := (elem_bool Try.underlying4) m0 [c0] y0 rfl g0
    have q0 : [c0] = [_] := e0
    obtain rfl := (List.cons.inj q0).1
    obtain ⟨m1, y1, g1⟩ := field_at Try.underlying45 (by kernel_rfl) h 1 _ rfl c1 rfl
    obtain ⟨x1, e1, G1⟩ := (elem_int Try.underlying3) m1 [c1] y1 rfl g1
    have q1 : [c1] = [_] := e1
    obtain rfl := (List.cons.inj q1).1
    obtain ⟨m2, y2, g2⟩ := field_at Try.underlying45 (by kernel_rfl) h 2 _ rfl c2 rfl
    obtain ⟨x2, e2, G2⟩ := (elem_int Try.underlying3) m2 [c2] y2 rfl g2
    have q2 : [c2] = [_] := e2
    obtain rfl := (List.cons.inj q2).1
    obtain ⟨m3, y3, g3⟩ := field_at Try.underlying45 (by kernel_rfl) h 3 _ rfl c3 rfl
    obtain ⟨x3, e3, G3⟩ := (elem_flt Try.underlying43) m3 [c3] y3 rfl g3
    have q3 : [c3] = [_] := e3
    obtain rfl := (List.cons.inj q3).1
    obtain ⟨m4, y4, g4⟩ := field_at Try.underlying45 (by kernel_rfl) h 4 _ rfl c4 rfl
    obtain ⟨x4, e4, G4⟩ := (elem_flt Try.underlying43) m4 [c4] y4 rfl g4
    have q4 : [c4] = [_] := e4
    obtain rfl := (List.cons.inj q4).1
    obtain ⟨m5, y5, g5⟩ := field_at Try.underlying45 (by kernel_rfl) h 5 _ rfl c5 rfl
    obtain ⟨x5, e5, G5⟩ := (elem_int Try.underlying3) m5 [c5] y5 rfl g5
    have q5 : [c5] = [_] := e5
    obtain rfl := (List.cons.inj q5).1
    obtain ⟨m6, y6, g6⟩ := field_at Try.underlying45 (by kernel_rfl) h 6 _ rfl c6 rfl
    obtain ⟨x6, e6, G6⟩ := (elem_int Try.underlying3) m6 [c6] y6 rfl g6
    have q6 : [c6] = [_] := e6
    obtain rfl := (List.cons.inj q6).1
    exact ⟨⟨x0, x1, x2, x3, x4, x5, x6⟩, k45_mk w (⟨x0, x1, x2, x3, x4, x5, x6⟩ : S45), G0, G1, G2, G3, G4, G5, G6⟩
set_option maxRecDepth 100000 in
theorem lifted (os : Os) (started : os.Started) (H : Type) (enc : TypeId × Value → H) :
    ReturnsInHanded {} Try.checked os 10 .any (Rows.fnMatchScoreSpec.pre6 enc Try.prog Try.f10 Rows.fnMatchScoreRow.domain false) (Rows.fnMatchScoreSpec.post enc Try.prog Try.f10 false true false false) := by
  refine returnsInHanded_of_change_sized (C := Try.checked) own started (by kernel_rfl) Try.func10
    (ChangeSpec.witness6 (enc := enc) (C := Try.checked) false ⟨#[], #[.agg #[(.bool false), (.int .i64 0), (.int .i64 0), (.float .f64 0), (.float .f64 0), (.int .i64 0), (.int .i64 0)], .int .i64 0, .int .i64 0, .int .i64 0, .string ByteArray.empty], []⟩ 8 (by kernel_rfl) (by kernel_rfl) (by kernel_rfl) (by kernel_rfl)) ?_
  intro W base args ds gs before hval0 hW hcnd hsz0 _
  have hsz : (DataW.weightsEach Try.prog (Try.f10.params.toList ++ Rows.fnMatchScoreSpec.plain.varTypes Try.prog) (ds ++ gs)).all (· ≤ reachBytes) = true := hsz0
  have hval : ∀ (j : Nat) t v, Try.f10.params[j]? = some t → args[j]? = some v → Value.okWide Try.prog W .any base t v := hval0
  have hW' := hW
  obtain ⟨p, q, hA0, hV, rfl, hfz, hnd⟩ := hW
  have hA : DataW.TrodAll enc Try.prog W 0 (fun _ => true) true Try.f10.params.toList args.toList ds p := hA0
  rw [Try.params10] at hA hval hsz
  obtain ⟨v0, vs0, d0, ds0, p0, q0, hargs, rfl, rfl, h0, r0⟩ := trodAll_cons hA
  obtain ⟨v1, vs1, d1, ds1, p1, q1, rfl, rfl, rfl, h1, r1⟩ := trodAll_cons r0
  obtain ⟨v2, vs2, d2, ds2, p2, q2, rfl, rfl, rfl, h2, r2⟩ := trodAll_cons r1
  obtain ⟨v3, vs3, d3, ds3, p3, q3, rfl, rfl, rfl, h3, r3⟩ := trodAll_cons r2
  obtain ⟨v4, vs4, d4, ds4, p4, q4, rfl, rfl, rfl, h4, r4⟩ := trodAll_cons r3
  obtain ⟨rfl, rfl, rfl⟩ := trodAll_nil r4
  obtain rfl : args = #[v0, v1, v2, v3, v4] := by cases args; simp_all
  obtain ⟨rfl, rfl⟩ := trodVars_none hV
  obtain ⟨cs0, rfl, hsz0⟩ := okWide_struct Try.underlying45 (hval 0 45 v0 rfl rfl)
  have k0 := h0
  have lt0 : ∀ x ∈ p0, x.block < W.heap.size := by obtain ⟨m, hm⟩ := k0; exact DataW.trod_lt m _ _ _ hm
  obtain ⟨fuel0, hf0⟩ := h0
  obtain ⟨y0, hK0, hG0⟩ := elem_k45 fuel0 cs0.toList _ (by first | (simpa using hsz0) | (rw [Array.length_toList]; exact hsz0.trans (by kernel_rfl))) (by simpa [Value.cells] using hf0)
  have hq0 := k45_open hK0
  obtain rfl : cs0 = #[.bool y0.f0, .int .i64 y0.f1, .int .i64 y0.f2, .float .f64 y0.f3, .float .f64 y0.f4, .int .i64 y0.f5, .int .i64 y0.f6] := by cases cs0; simp_all
  obtain ⟨w0_0, w0_1, w0_2, w0_3, w0_4, w0_5, w0_6⟩ := hG0
  obtain ⟨a1, rfl, rfl, rfl, w1⟩ := open_int Try.underlying3 (hval 1 3 v1 rfl rfl) h1
  obtain ⟨a2, rfl, rfl, rfl, w2⟩ := open_int Try.underlying3 (hval 2 3 v2 rfl rfl) h2
  obtain ⟨a3, rfl, rfl, rfl, w3⟩ := open_int Try.underlying3 (hval 3 3 v3 rfl rfl) h3
  obtain ⟨a4, rfl, rfl, rfl, y4⟩ := open_string Try.underlying9 (hval 4 9 v4 rfl rfl) h4
  have w4 : a4.size ≤ 140737488351232 := by
    have z := sized_string hsz (j := 4) (t := 9) rfl rfl
    rw [Array.length_toList] at z
    exact z
  clear hA0 hval0 hsz0 hsz
  refine (PT.laws_FnMatchScore.walk Pure.FnMatchScore y0.f0 y0.f1 y0.f2 y0.f3 y0.f4 y0.f5 y0.f6 a1 a2 a3 a4 W w0_1 w0_2 w0_3 w0_4 w0_5 w0_6 w1 w2 w3 w4).mono fun e W' ⟨he, bel⟩ => ?_
  subst he
  exact ⟨_, rfl, _, _, _, [], _, [], hW', trodAll_mk1 (shut_bool Try.underlying4 _), (trodAll_cons_mk (Below.trod laidOut (by kernel_rfl) (of_decide_eq_true (by kernel_rfl)) k0 bel lt0) (trodAll_cons_mk (shut_int Try.underlying3 w1) (trodAll_cons_mk (shut_int Try.underlying3 w2) (trodAll_cons_mk (shut_int Try.underlying3 w3) (trodAll_cons_mk (shut_string Try.underlying9 y4) trodAll_mk0))))), rfl, bel.frame _, fun h => by cases h⟩
theorem over : Rows.fnMatchScoreRow.holds Try.pinned (OpenSpec.ofChange Rows.fnMatchScoreSpec) :=
  OpenClaim.holds_of_wide 10 Try.f10 rfl rfl rfl rfl rfl rfl rfl ⟨rfl, rfl, rfl, rfl, rfl⟩ rfl rfl rfl rfl rfl (by kernel_rfl) Try.func10 (by kernel_rfl)
    (of_decide_eq_true (by kernel_rfl)) (by unfold Func.isWrapper; first | (rw [if_pos (by decide +kernel)]; kernel_rfl) | (rw [if_neg (by decide +kernel)]; exact ⟨rfl, rfl⟩))
    (fun os started H enc _ => lifted os started H enc)
theorem proved : Rows.FnMatchScoreSaid := over
#print axioms proved
end Go.Proofs.Ytomidomdomjkfaa.fnMatchScore
namespace Go.Proofs.Ytomidomdomjkfaa
/-- The row, under a short name, for the claim. -/
theorem fnMatchScore_holds : Rows.FnMatchScoreSaid := fnMatchScore.proved
end Go.Proofs.Ytomidomdomjkfaa
