/- copy between rows whose elements lie in several cells each: what it does to the memory, as an equation, and as a step of a walk. -/
import Derived.Test.YtomidomdomjkfaaWMore
import Derived.Laws.IdiomCopy
import Derived.Deep.RegionLaw
namespace Go.Proofs.YtomidomdomjkfaaW.PrintWords
open Go Go.RowKit
theorem setCells_nil (w : World) (b o : Nat) : w.setCells b o [] = w := rfl
/-- As many elements as the shorter of the two has go over; where one has none, nothing is asked of the addresses. -/
theorem run_copy_rows {P : Program} (w : World) (dT sT ty elem : TypeId) (m : Nat) (A B : Option Addr) (dLen dCap sLen sCap g off : Nat) (cs : List Value)
    (hu : P.underlying dT = some (.slice elem)) (hs : (P.info? elem).map (·.size) = some m) (hn : cs.length = Nat.min sLen dLen * m)
    (hpos : 0 < cs.length → A = some ⟨g, off, none⟩ ∧ ∃ ad, B = some ad ∧ ∀ j v, cs[j]? = some v → w.cell? (ad.add j) = some v)
    (hc : ∀ j, j < cs.length → (w.cell? ⟨g, off + j, none⟩).isSome = true ∧ w.frozen? ⟨g, off + j, none⟩ = false) (h1 : ∀ v ∈ cs, v.oneCell' = true) :
    (Builtin.copy_ #[dT, sT] ty #[.slice A dLen dCap, .slice B sLen sCap]).run P w = .ok (goInt (Nat.min sLen dLen)) (w.setCells g off cs) := by
  cases hq : P.info? elem with
  | none => simp [hq] at hs
  | some i =>
    have hi : i.size = m := by simpa [hq] using hs
    by_cases h0 : cs.length = 0
    · obtain rfl : cs = [] := List.eq_nil_of_length_eq_zero h0
      have hz : Nat.min sLen dLen * m = 0 := by simpa using hn.symm
      have hl : ∀ (x : Addr), (loadCells x 0).run P w = .ok #[] w := fun x => by simpa using run_loadCells_list (P := P) w x [] (by simp)
      cases A <;> cases B <;> simp [Builtin.copy_, run_underlying hu, Builtin.lenOf, Builtin.firstCells, sizeOf, typeInfo, hq, hi, hz, storeCells, hl, setCells_nil]
    · obtain ⟨rfl, ad, rfl, hsrc⟩ := hpos (by omega)
      have hl := run_loadCells_list (P := P) w ad cs hsrc
      have hst := run_storeCells_cells (P := P) g off cs 0 w (by simpa using fun j hj => (hc j hj).1) (by simpa using fun j hj => (hc j hj).2) h1
      simp [Builtin.copy_, run_underlying hu, Builtin.lenOf, Builtin.firstCells, sizeOf, typeInfo, hq, hi, ← hn, hl, hst]
/-- The operation, where its run is known. -/
theorem wp_copy_known {P : Program} (w : World) {o : Oper} {a : Act} {K : Act → World → Prop} {Q : Exit → Act → World → Prop} (x y : Operand) (t t' : TypeId)
    (ho : o.op = .call { callee := .builtin .copy, args := #[x, y], argTypes := #[t, t'] }) {v : Value} {w' : World}
    (hr : (Builtin.copy_ #[t, t'] o.type #[a.eval x, a.eval y]).run P w = .ok v w') (h : K (a.put o.dst v) w') : o.wp P a w K Q := by
  unfold Oper.wp
  simp only [execOp, ho, resolve, invoke, builtin, Sem.run_bind, Sem.run_pure, Result.andThen_ok, List.map_toArray, List.map_cons, List.map_nil, hr]
  exact h
theorem list_copy_known {P : Program} (w : World) {ops : Array Oper} {rest : List Oper} {o : Oper} {a : Act} {Q : Exit → Act → World → Prop} (hg : o.guard = none) (x y : Operand) (t t' : TypeId)
    (ho : o.op = .call { callee := .builtin .copy, args := #[x, y], argTypes := #[t, t'] }) {v : Value} {w' : World} (u u' : Value) (hx : a.eval x = u) (hy : a.eval y = u')
    (hr : (Builtin.copy_ #[t, t'] o.type #[u, u']).run P w = .ok v w') (h : wpList P ops Q rest (a.put o.dst v) w') : wpList P ops Q (o :: rest) a w := by
  subst hx hy
  exact wpList_plain hg fun _ hK => wp_copy_known w x y t t' ho hr (hK _ _ h)
theorem step_copy_known {P : Program} {w : World} {ops : Array Oper} {o : Oper} {a : Act} {K : Act → World → Prop} {Q : Exit → Act → World → Prop} {E : Prop} (hg : o.guard = none) (x y : Operand) (t t' : TypeId)
    (ho : o.op = .call { callee := .builtin .copy, args := #[x, y], argTypes := #[t, t'] }) {v : Value} {w' : World} (u u' : Value) (hx : a.eval x = u) (hy : a.eval y = u')
    (hr : (Builtin.copy_ #[t, t'] o.type #[u, u']).run P w = .ok v w') (h : K (a.put o.dst v) w') : if Region.wanted o (yielded ops a.tmps) = true then Oper.wp P o a w K Q else E := by
  subst hx hy
  rw [if_pos (by simp [Region.wanted, hg])]
  exact wp_copy_known w x y t t' ho hr h
/-- All stands in w' as in w but block g, a row of S cells of type t whose first E are X. -/
structure InRow (t : TypeId) (g S E : Nat) (X : List Value) (w w' : World) : Prop where
  os : w'.os = w.os
  tape : w'.tape = w.tape
  output : w'.output = w.output
  size : w'.heap.size = w.heap.size
  far : ∀ k, k ≠ g → w'.heap[k]? = w.heap[k]?
  row : ∃ cur, w'.heap[g]? = some (.cells cur t (0, 0)) ∧ cur.size = S ∧ cur.toList.take E = X
section
variable {t : TypeId} {g S E : Nat} {X : List Value} {w w' : World}
theorem InRow.start {cur : Array Value} (h : w.heap[g]? = some (.cells cur t (0, 0))) (hs : cur.size = S) (E : Nat) : InRow t g S E (cur.toList.take E) w w := ⟨rfl, rfl, rfl, rfl, fun _ _ => rfl, cur, h, hs, rfl⟩
theorem InRow.drew (h : InRow t g S E X w w') : InRow t g S E X w w'.drew := ⟨h.os, h.tape, h.output, h.size, h.far, h.row⟩
theorem InRow.cut (h : InRow t g S E X w w') {E' : Nat} (he : E' ≤ E) : InRow t g S E' (X.take E') w w' := by
  obtain ⟨h1, h2, h3, h4, h5, cur, h6, h7, h8⟩ := h
  exact ⟨h1, h2, h3, h4, h5, cur, h6, h7, by rw [← h8, List.take_take, Nat.min_eq_left he]⟩
theorem InRow.cells (h : InRow t g S E X w w') {o : Nat} {vs : List Value} (hE : S ≤ E) (hf : o + vs.length ≤ S) : InRow t g S E (X.take o ++ vs ++ X.drop (o + vs.length)) w (w'.setCells g o vs) := by
  obtain ⟨h1, h2, h3, h4, h5, cur, h6, h7, h8⟩ := h
  obtain ⟨s1, s2, s3, s4⟩ := setCells_same g vs o w'
  obtain ⟨cur', k1, k2, k3⟩ := setCells_row vs o w' cur h6 (by omega)
  refine ⟨s1.trans h1, s2.trans h2, s3.trans h3, s4.trans h4, fun k hk => (setCells_far vs o k hk).trans (h5 k hk), cur', k1, k2.trans h7, ?_⟩
  have eX : X = cur.toList := by rw [← h8, List.take_of_length_le]; simp; omega
  rw [eX, List.take_of_length_le (by simp; omega), k3]
theorem InRow.cell (h : InRow t g S E X w w') {o : Nat} (ho : o < S) : (∃ v, w'.cell? ⟨g, o, none⟩ = some v) ∧ w'.frozen? ⟨g, o, none⟩ = false := by
  obtain ⟨_, _, _, _, _, cur, h6, h7, _⟩ := h
  have hl : o < cur.size := by omega
  exact ⟨⟨cur[o], by simp [World.cell?, h6, hl]⟩, by simp [World.frozen?, h6]⟩
theorem InRow.is (h : InRow t g S E X w w') {o : Nat} (ho : o < S) : (w'.cell? ⟨g, o, none⟩).isSome = true ∧ w'.frozen? ⟨g, o, none⟩ = false := by
  obtain ⟨⟨v, hv⟩, hf⟩ := h.cell ho
  exact ⟨by rw [hv]; rfl, hf⟩
theorem InRow.at_ (h : InRow t g S E X w w') {o : Nat} {v : Value} (hv : X[o]? = some v) : w'.cell? ⟨g, o, none⟩ = some v := by
  obtain ⟨_, _, _, _, _, cur, h6, h7, h8⟩ := h
  subst h8
  rw [List.getElem?_take] at hv
  split at hv
  · have hl : o < cur.size := by simpa using (List.getElem?_eq_some_iff.1 hv).1
    have hv' : cur[o] = v := by simpa [hl] using hv
    simp [World.cell?, h6, hl, hv']
  · simp at hv
theorem InRow.set (h : InRow t g S E X w w') {o : Nat} (h1 : E ≤ o) (h2 : o < S) (v : Value) : InRow t g S E X w (w'.setCell ⟨g, o, none⟩ v) := by
  obtain ⟨q1, q2, q3, q4, q5, cur, h6, h7, h8⟩ := h
  obtain ⟨s1, s2, s3, s4⟩ := setCells_same g [v] o w'
  obtain ⟨cur', k1, k2, k3⟩ := setCells_row [v] o w' cur h6 (by simp; omega)
  refine ⟨s1.trans q1, s2.trans q2, s3.trans q3, s4.trans q4, fun k hk => (setCells_far [v] o k hk).trans (q5 k hk), cur', k1, k2.trans h7, ?_⟩
  rw [← h8, k3, List.append_assoc, List.take_append_of_le_length (by simp; omega), List.take_take, Nat.min_eq_left h1]
end
theorem InRow.below {t g S E : Nat} {X : List Value} {w0 w w' : World} (h : InRow t g S E X w w') {B : Nat} (hb : Below B w0 w) (hg : B ≤ g) : Below B w0 w' :=
  ⟨h.os.trans hb.os, h.tape.trans hb.tape, h.output.trans hb.output, by rw [h.size]; exact hb.size, fun k hk => (h.far k (by omega)).trans (hb.block k hk)⟩
theorem InRow.kept {t g S E : Nat} {X : List Value} {w w1 w' : World} {P : Nat → Prop} (h : InRow t g S E X w1 w') (hk : Kept w w1 P) (hg : P g ∨ w.heap.size ≤ g) : Kept w w' P :=
  ⟨by rw [h.size]; exact hk.1, fun i hi hn => (h.far i (by rintro rfl; rcases hg with hg | hg; exact hn hg; omega)).trans (hk.2 i hi hn)⟩
/-! ### rows of elements that lie flat in two cells each -/
section
variable {α : Type} {e : α → List Value} (he : ∀ x, (e x).length = 2)
include he
theorem enc2_length (xs : List α) : (xs.flatMap e).length = xs.length * 2 := by
  induction xs with
  | nil => rfl
  | cons x xs ih => rw [List.flatMap_cons, List.length_append, he, ih, List.length_cons]; omega
theorem enc2_drop : ∀ (xs : List α) (n : Nat), (xs.flatMap e).drop (n * 2) = (xs.drop n).flatMap e
  | [], n => by simp
  | x :: xs, 0 => by simp
  | x :: xs, n + 1 => by
    rw [List.flatMap_cons, List.drop_succ_cons, ← enc2_drop xs n, List.drop_append, List.drop_of_length_le (by rw [he]; omega), he, List.nil_append]
    congr 1; omega
theorem enc2_take : ∀ (xs : List α) (n : Nat), (xs.flatMap e).take (n * 2) = (xs.take n).flatMap e
  | [], n => by simp
  | x :: xs, 0 => by simp
  | x :: xs, n + 1 => by
    rw [List.flatMap_cons, List.take_succ_cons, List.flatMap_cons, ← enc2_take xs n, List.take_append, List.take_of_length_le (by rw [he]; omega), he]
    congr 2; omega
omit he in
theorem reps_enc2 {R : α → List Value → Prop} (hR : ∀ x c, R x c → c = e x) : ∀ (xs : List α) (cs : List Value), Reps R 2 xs cs → cs = xs.flatMap e
  | [], cs, h => by have := h.1; simp at this; simpa using this
  | x :: xs, cs, h => by
    have h0 := hR _ _ (h.2 0 x rfl)
    have ih := reps_enc2 hR xs (cs.drop 2) ⟨by rw [List.length_drop, h.1, List.length_cons]; omega, fun j p hp => by
      have := h.2 (j + 1) p (by simpa using hp)
      rwa [List.drop_drop, show 2 + j * 2 = (j + 1) * 2 by omega]⟩
    rw [List.flatMap_cons, ← ih, ← h0]
    simp
theorem enc2_reps {R : α → List Value → Prop} (hR : ∀ x, R x (e x)) (xs : List α) : Reps R 2 xs (xs.flatMap e) := by
  refine ⟨enc2_length he xs, fun j p hp => ?_⟩
  have hj := (List.getElem?_eq_some_iff.1 hp).1
  rw [enc2_drop he, show (2 : Nat) = 1 * 2 by rfl, enc2_take he, List.drop_eq_getElem_cons hj, List.take_succ_cons, List.take_zero, List.flatMap_cons, List.flatMap_nil, List.append_nil]
  rw [(List.getElem?_eq_some_iff.1 hp).2]; exact hR p
theorem enc2_get (xs : List α) (j : Nat) (v : Value) (h : (xs.flatMap e)[j]? = some v) : ∃ q x i, xs[q]? = some x ∧ (e x)[i]? = some v ∧ j = q * 2 + i := by
  have hj : j < xs.length * 2 := by rw [← enc2_length he]; exact (List.getElem?_eq_some_iff.1 h).1
  have hq : j / 2 < xs.length := by omega
  refine ⟨j / 2, xs[j / 2], j % 2, List.getElem?_eq_getElem hq, ?_, by omega⟩
  have e1 : (xs.flatMap e)[j]? = ((xs.flatMap e).drop (j / 2 * 2))[j % 2]? := by rw [List.getElem?_drop]; congr 1; omega
  rw [e1, enc2_drop he, List.drop_eq_getElem_cons hq, List.flatMap_cons, List.getElem?_append_left (by rw [he]; omega)] at h
  exact h
theorem reads_enc2 {R : α → List Value → Prop} (hR : ∀ x c, R x c → c = e x) {w : World} {A : Option Addr} {n : Nat} {xs : List α} (h : ReadsRow R 2 w A n xs) (hn : 0 < (xs.flatMap e).length) : ∃ ad, A = some ad ∧ ∀ j v, (xs.flatMap e)[j]? = some v → w.cell? (ad.add j) = some v := by
  rw [enc2_length he] at hn
  obtain ⟨ad, hA, hc⟩ := h.2.2 (by have := h.1; omega)
  refine ⟨ad, hA, fun j v hv => ?_⟩
  obtain ⟨q, x, i, hq, hi, rfl⟩ := enc2_get he xs j v hv
  obtain ⟨c, _, hr, hcell⟩ := hc q x hq
  rw [hR _ _ hr] at hcell
  exact hcell i v hi
end
end Go.Proofs.YtomidomdomjkfaaW.PrintWords
