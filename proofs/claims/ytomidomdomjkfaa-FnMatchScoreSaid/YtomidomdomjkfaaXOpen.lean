/- Words for rows: an argument that is a slice of anything that has a kind is read as a list. -/
import Derived.Test.YtomidomdomjkfaaWMore
import Derived.Test.YtomidomdomjkfaaXConv
import Derived.Deep.Slices
import Derived.Deep.Fields
import Derived.ChangeSame
import Derived.Laws.Cover2
namespace Go.Proofs.YtomidomdomjkfaaW.PrintWords
open Go Go.RowKit Go.ChangeShapes Go.WideShapes Go.Deep
section
variable {H : Type} {enc : TypeId × Value → H} {P : Program} {w : World} {base : Nat} {spare : Nat → Bool} {held : Bool}
/-- The element's cells, read one by one, give a value of its kind. -/
def ElemOf {α : Type} (enc : TypeId × Value → H) (P : Program) (w : World) (base : Nat) (spare : Nat → Bool) (held : Bool) (d : Kd α) (good : α → Prop) (e : TypeId) : Prop :=
  ∀ (n : Nat) (cs : List Value) (x : DataW H × List MemPlace), cs.length = d.sz → DataW.trod enc P w base spare held n e cs = some x → ∃ y, d.K w y cs ∧ good y
theorem open_row {α : Type} (d : Kd α) {good : α → Prop} {t e : TypeId} (ht : P.underlying t = some (.slice e)) (hC : P.cellsOf e = d.sz) (hel : ElemOf enc P w base spare held d good e)
    {fuel : Nat} {cs : List Value} {x : DataW H × List MemPlace} (h : DataW.trod enc P w base spare held fuel t cs = some x) :
    ∃ (A : Option Addr) (len cap : Nat) (xs : List α), cs = [.slice A len cap] ∧ xs.length = len ∧ len ≤ cap ∧ len ≤ maxLen ∧ d.C w A len xs ∧ ∀ y ∈ xs, good y := by
  rcases open_slice ht h with ⟨rfl, _⟩ | ⟨a, len, cap, m, n, D, Pl, rfl, hb, hl, hm, hmm, hx, hi⟩
  · exact ⟨none, 0, 0, [], rfl, rfl, Nat.le_refl _, Nat.zero_le _, Kd.C_nil _ _, by simp⟩
  · have hlm : len ≤ m := by rw [hmm]; split <;> omega
    have hall : ∀ i, i < len → ∃ y, good y ∧ ∃ c : List Value, c.length = d.sz ∧ d.K w y c ∧ ∀ j u, c[j]? = some u → w.cell? (a.add (i * d.sz + j)) = some u := by
      intro i hil
      obtain ⟨cs', hc, ht'⟩ := hi i (by omega)
      obtain ⟨_, hcl, hat⟩ := World.cells?_some hc
      rw [hC] at hcl hat
      obtain ⟨y, hy, hg⟩ := hel n cs' _ hcl ht'
      refine ⟨y, hg, cs', hcl, hy, fun j u hj => ?_⟩
      have hjl : j < d.sz := by rw [← hcl]; exact (List.getElem?_eq_some_iff.1 hj).1
      have := hat j hjl
      rw [← Go.Deep.add_add, this, hj]
    have : ∃ xs : List α, xs.length = len ∧ ∀ i (hi : i < xs.length), good xs[i] ∧ ∃ c : List Value, c.length = d.sz ∧ d.K w xs[i] c ∧ ∀ j u, c[j]? = some u → w.cell? (a.add (i * d.sz + j)) = some u := by
      clear hlm hmm hx hi hl h
      induction len with
      | zero => exact ⟨[], rfl, fun i hi => absurd hi (Nat.not_lt_zero _)⟩
      | succ len ih =>
        obtain ⟨xs, hxl, hxs⟩ := ih (fun i hil => hall i (by omega))
        obtain ⟨y, hy⟩ := hall len (by omega)
        refine ⟨xs ++ [y], by simp [hxl], fun i hil => ?_⟩
        by_cases e : i < xs.length
        · rw [List.getElem_append_left e]; exact hxs i e
        · obtain rfl : i = xs.length := by simp at hil; omega
          rw [List.getElem_append_right (Nat.le_refl _)]
          simpa [hxl] using hy
    obtain ⟨xs, hxl, hxs⟩ := this
    have h63 : len ≤ 9223372036854775807 := by unfold maxLen at hm; omega
    refine ⟨some a, len, cap, xs, rfl, hxl, hl, by omega, ⟨hxl, h63, fun _ => ⟨a, rfl, fun j p hj => ?_⟩⟩, fun y hy => ?_⟩
    · obtain ⟨hjl, rfl⟩ := List.getElem?_eq_some_iff.1 hj
      obtain ⟨_, c, h1, h2, h3⟩ := hxs j hjl
      exact ⟨c, h1, h2, h3⟩
    · obtain ⟨i, hil, rfl⟩ := List.getElem_of_mem hy
      exact (hxs i hil).1
theorem elem_int {k : IntKind} {e : TypeId} (he : P.underlying e = some (.int k)) : ElemOf enc P w base spare held (Kd.int k) (fun x => (Lit.int k x).wf = true) e := by
  intro n cs x hl h
  obtain ⟨m, rfl, _, hw⟩ := DataW.trod_int he h
  exact ⟨m, rfl, hw⟩
theorem elem_string {e : TypeId} (he : P.underlying e = some .string) : ElemOf enc P w base spare held Kd.string (fun s => s.size ≤ maxLen) e := by
  intro n cs x hl h
  obtain ⟨s, rfl, _, hw⟩ := DataW.trod_string he h
  exact ⟨s, rfl, hw⟩
theorem elem_bool {e : TypeId} (he : P.underlying e = some .bool) : ElemOf enc P w base spare held Kd.bool (fun _ => True) e := by
  intro n cs x hl h
  have hb : ∃ b, cs = [Value.bool b] := by
    cases n with
    | zero => simp [DataW.trod] at h
    | succ n =>
      unfold DataW.trod at h
      rw [he] at h
      split at h
      all_goals first | exact ⟨_, rfl⟩ | simp_all
  obtain ⟨b, rfl⟩ := hb
  exact ⟨b, rfl, trivial⟩
theorem elem_flt {e : TypeId} (he : P.underlying e = some (.float .f64)) : ElemOf enc P w base spare held Kd.flt (fun x => (Lit.float .f64 x).wf = true) e := by
  intro n cs x hl h
  cases n with
  | zero => simp [DataW.trod] at h
  | succ n =>
    unfold DataW.trod at h
    rw [he] at h
    split at h <;> simp_all
    rename_i k1 k2 b hk
    subst hk
    exact ⟨b, rfl, h.1.2⟩
theorem elem_slice {α : Type} {d : Kd α} {good : α → Prop} {t e : TypeId} (ht : P.underlying t = some (.slice e)) (hC : P.cellsOf e = d.sz) (hel : ElemOf enc P w base spare held d good e) :
    ElemOf enc P w base spare held (Kd.slice e d) (fun xs => xs.length ≤ maxLen ∧ ∀ y ∈ xs, good y) t := by
  intro n cs x hl h
  obtain ⟨A, len, cap, xs, rfl, hx, h1, h2, h3, h4⟩ := open_row d ht hC hel h
  subst hx
  exact ⟨xs, ⟨A, cap, rfl, h1, h3⟩, h2, h4⟩
/-- A struct's field at a place, of one cell. -/
theorem field_at {fs : Array Field} {t : TypeId} (ht : P.underlying t = some (.struct fs)) (hone : oneCellFields P fs = true) {n : Nat} {cs : List Value} {x : DataW H × List MemPlace} (h : DataW.trod enc P w base spare held n t cs = some x)
    (i : Nat) (f : Field) (hf : fs[i]? = some f) (v : Value) (hv : cs[i]? = some v) : ∃ (m : Nat) (y : DataW H × List MemPlace), DataW.trod enc P w base spare held m f.type [v] = some y := by
  obtain ⟨xs, m, _, _, hlen, hxl, hg⟩ := DataW.trod_struct ht h
  obtain ⟨o, k⟩ := hone_of hone i f hf
  have h1 := hg i f hf
  rw [o, k] at h1
  obtain ⟨hil, rfl⟩ := List.getElem?_eq_some_iff.1 hv
  rw [List.drop_eq_getElem_cons hil] at h1
  have hx : i < xs.length := by rw [hxl]; exact (Array.getElem?_eq_some_iff.1 hf).1
  rw [List.getElem?_eq_getElem hx] at h1
  exact ⟨m, _, h1⟩
end
end Go.Proofs.YtomidomdomjkfaaW.PrintWords
