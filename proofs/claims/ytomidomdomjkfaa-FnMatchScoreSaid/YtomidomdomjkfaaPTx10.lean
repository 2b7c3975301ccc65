-- Written by this session's own program (wip/tools) out of the translation.
import Derived.Test.YtomidomdomjkfaaPTx0
namespace Go.Proofs.Ytomidomdomjkfaa.PT
open Go.RowKit Go.Proofs.YtomidomdomjkfaaW.PrintWords Go.Proofs.YtomidomdomjkfaaW.PrintLast Go.Proofs.YtomidomdomjkfaaW.PrintMore
attribute [local go_sem] max2_int min2_int max_two min_two max_three min_three max_four min_four   -- for this text's walks alone
set_option linter.unusedVariables false
set_option linter.unusedSimpArgs false

/-- A state of type 80 at block g of W; what its slices lead to came in by w0. -/
def IsS80 (w0 W : World) (g : Nat) (f0 : Int) (f1 : Int) (f2 : Int) (f3 : Nat) (f4 : Int) (f5 : Int) (f6 : Nat) : Prop := W.heap[g]? = some (.cells #[.int .i64 f0, .int .i64 f1, .int .i64 f2, .float .f64 f3, .int .i64 f4, .int .i64 f5, .float .f64 f6] 80 (0, 0)) ∧ w0.heap.size ≤ g
theorem IsS80.grown {w0 W : World} {g : Nat} {f0 : Int} {f1 : Int} {f2 : Int} {f3 : Nat} {f4 : Int} {f5 : Int} {f6 : Nat} {W1 : World} {row : Option Nat} (h : IsS80 w0 W g f0 f1 f2 f3 f4 f5 f6) (hw : W.grownBy W1 row) (hne : some g ≠ row) : IsS80 w0 W1 g f0 f1 f2 f3 f4 f5 f6 := by
  obtain ⟨hb, hg⟩ := h
  exact ⟨blk_grown hb hw hne, hg⟩
theorem IsS80.own_neN {w0 W : World} {g : Nat} {f0 : Int} {f1 : Int} {f2 : Int} {f3 : Nat} {f4 : Int} {f5 : Int} {f6 : Nat} {α : Type} {d : Kd α} {e : Nat} {base : Nat} {ok : Nat → Prop} {v : Value} {xs : List α} (h : IsS80 w0 W g f0 f1 f2 f3 f4 f5 f6) (ho : Kd.N d e W base ok v xs) (ht : e ≠ 80) : some g ≠ v.ownBlock := by
  obtain ⟨hb, hg⟩ := h
  exact Kd.N_ne ho hb ht
theorem IsS80.fresh {w0 W : World} {g : Nat} {f0 : Int} {f1 : Int} {f2 : Int} {f3 : Nat} {f4 : Int} {f5 : Int} {f6 : Nat} (h : IsS80 w0 W g f0 f1 f2 f3 f4 f5 f6) : ∀ k, W.heap.size ≤ k → k ≠ g := by
  obtain ⟨hb, hg⟩ := h
  exact Kd.freshB hb
theorem IsS80.kept {w0 W : World} {g : Nat} {f0 : Int} {f1 : Int} {f2 : Int} {f3 : Nat} {f4 : Int} {f5 : Int} {f6 : Nat} {W1 : World} {S : Nat → Prop} (h : IsS80 w0 W g f0 f1 f2 f3 f4 f5 f6) (hk : Kept W W1 S) (hne : ¬ S g) : IsS80 w0 W1 g f0 f1 f2 f3 f4 f5 f6 := by
  obtain ⟨hb, hg⟩ := h
  exact ⟨blk_kept hb hk hne, hg⟩
theorem IsS80.below {w0 W : World} {g : Nat} {f0 : Int} {f1 : Int} {f2 : Int} {f3 : Nat} {f4 : Int} {f5 : Int} {f6 : Nat} {W1 : World} (h : IsS80 w0 W g f0 f1 f2 f3 f4 f5 f6) (hw : Below W.heap.size W W1) : IsS80 w0 W1 g f0 f1 f2 f3 f4 f5 f6 := h.grown (grown_of_below hw none) (by simp)
theorem IsS80.alloc {w0 W : World} {g : Nat} {f0 : Int} {f1 : Int} {f2 : Int} {f3 : Nat} {f4 : Int} {f5 : Int} {f6 : Nat} (h : IsS80 w0 W g f0 f1 f2 f3 f4 f5 f6) (o : Obj) : IsS80 w0 (W.alloc o) g f0 f1 f2 f3 f4 f5 f6 := h.below (below_alloc (Below.refl _ _) o)
theorem IsS80.drewN {w0 W : World} {g : Nat} {f0 : Int} {f1 : Int} {f2 : Int} {f3 : Nat} {f4 : Int} {f5 : Int} {f6 : Nat} (h : IsS80 w0 W g f0 f1 f2 f3 f4 f5 f6) (m : Nat) : IsS80 w0 (W.drewN m) g f0 f1 f2 f3 f4 f5 f6 := h
theorem IsS80.drew {w0 W : World} {g : Nat} {f0 : Int} {f1 : Int} {f2 : Int} {f3 : Nat} {f4 : Int} {f5 : Int} {f6 : Nat} (h : IsS80 w0 W g f0 f1 f2 f3 f4 f5 f6) : IsS80 w0 W.drew g f0 f1 f2 f3 f4 f5 f6 := h
theorem IsS80.at_ {w0 W : World} {g : Nat} {f0 : Int} {f1 : Int} {f2 : Int} {f3 : Nat} {f4 : Int} {f5 : Int} {f6 : Nat} {w' : World} {m : Nat} (hq : W.drewN m = w') (h : IsS80 w0 W g f0 f1 f2 f3 f4 f5 f6) : IsS80 w0 w' g f0 f1 f2 f3 f4 f5 f6 := by subst hq; exact IsS80.drewN h m
theorem IsS80.apart {w0 W : World} {g : Nat} {f0 : Int} {f1 : Int} {f2 : Int} {f3 : Nat} {f4 : Int} {f5 : Int} {f6 : Nat} {α : Type} {d : Kd α} {e : Nat} {base : Nat} {ok : Nat → Prop} {v : Value} {xs : List α} (h : IsS80 w0 W g f0 f1 f2 f3 f4 f5 f6) (ho : d.R e W base ok v xs) (ht : ∀ q, q ∈ e :: d.E → q ≠ 80) : d.R e W base (fun k => ok k ∧ k ≠ g) v xs := by
  obtain ⟨hb, hg⟩ := h
  exact Kd.R_types ho hb ht
theorem IsS80.own_ne {w0 W : World} {g : Nat} {f0 : Int} {f1 : Int} {f2 : Int} {f3 : Nat} {f4 : Int} {f5 : Int} {f6 : Nat} {α : Type} {d : Kd α} {e : Nat} {base : Nat} {ok : Nat → Prop} {v : Value} {xs : List α} (h : IsS80 w0 W g f0 f1 f2 f3 f4 f5 f6) (ho : d.R e W base ok v xs) (ht : e ≠ 80) : some g ≠ v.ownBlock := by
  obtain ⟨hb, hg⟩ := h
  exact Kd.R_ne ho hb ht
theorem IsS80.apartQ {w0 W : World} {g : Nat} {f0 : Int} {f1 : Int} {f2 : Int} {f3 : Nat} {f4 : Int} {f5 : Int} {f6 : Nat} {α : Type} {d : Kd α} {e : Nat} {base : Nat} {ok : Nat → Prop} {v : Value} {xs : List α} (h : IsS80 w0 W g f0 f1 f2 f3 f4 f5 f6) (ho : d.Q e W base ok v xs) (ht : ∀ q, q ∈ e :: d.E → q ≠ 80) : d.Q e W base (fun k => ok k ∧ k ≠ g) v xs := by
  obtain ⟨hb, hg⟩ := h
  exact Kd.Q_types ho hb ht
theorem IsS80.own_neQ {w0 W : World} {g : Nat} {f0 : Int} {f1 : Int} {f2 : Int} {f3 : Nat} {f4 : Int} {f5 : Int} {f6 : Nat} {α : Type} {d : Kd α} {e : Nat} {base : Nat} {ok : Nat → Prop} {v : Value} {xs : List α} (h : IsS80 w0 W g f0 f1 f2 f3 f4 f5 f6) (ho : d.Q e W base ok v xs) (ht : e ≠ 80) : some g ≠ v.ownBlock := by
  obtain ⟨hb, hg⟩ := h
  exact Kd.Q_ne ho hb ht
theorem IsS80.apartS {w0 W : World} {g : Nat} {f0 : Int} {f1 : Int} {f2 : Int} {f3 : Nat} {f4 : Int} {f5 : Int} {f6 : Nat} {α : Type} {d : Kd α} {e : Nat} {base : Nat} {ok : Nat → Prop} {v : Value} {xs : List α} (h : IsS80 w0 W g f0 f1 f2 f3 f4 f5 f6) (ho : d.S e W base ok v xs) (ht : ∀ q, q ∈ e :: d.E → q ≠ 80) : d.S e W base (fun k => ok k ∧ k ≠ g) v xs := by
  obtain ⟨hb, hg⟩ := h
  exact Kd.S_types ho hb ht
theorem IsS80.own_neS {w0 W : World} {g : Nat} {f0 : Int} {f1 : Int} {f2 : Int} {f3 : Nat} {f4 : Int} {f5 : Int} {f6 : Nat} {α : Type} {d : Kd α} {e : Nat} {base : Nat} {ok : Nat → Prop} {v : Value} {xs : List α} (h : IsS80 w0 W g f0 f1 f2 f3 f4 f5 f6) (ho : d.S e W base ok v xs) (ht : e ≠ 80) : some g ≠ v.ownBlock := by
  obtain ⟨hb, hg⟩ := h
  exact Kd.S_ne ho hb ht
theorem IsS80.lt {w0 W : World} {g : Nat} {f0 : Int} {f1 : Int} {f2 : Int} {f3 : Nat} {f4 : Int} {f5 : Int} {f6 : Nat} (h : IsS80 w0 W g f0 f1 f2 f3 f4 f5 f6) : g < W.heap.size := by
  obtain ⟨hb, hg⟩ := h
  exact blk_lt hb
theorem IsS80.ge {w0 W : World} {g : Nat} {f0 : Int} {f1 : Int} {f2 : Int} {f3 : Nat} {f4 : Int} {f5 : Int} {f6 : Nat} (h : IsS80 w0 W g f0 f1 f2 f3 f4 f5 f6) : w0.heap.size ≤ g := by
  obtain ⟨hb, hg⟩ := h
  exact hg
theorem IsS80.ne_blk {w0 W : World} {g : Nat} {f0 : Int} {f1 : Int} {f2 : Int} {f3 : Nat} {f4 : Int} {f5 : Int} {f6 : Nat} {a : Nat} {cs : Array Value} {t : TypeId} {fr : Nat × Nat} (h : IsS80 w0 W g f0 f1 f2 f3 f4 f5 f6) (hb2 : W.heap[a]? = some (.cells cs t fr)) (ht : t ≠ 80) : g ≠ a := by
  obtain ⟨hb, hg⟩ := h
  rintro rfl
  rw [hb] at hb2
  injection hb2 with hb2
  injection hb2 with _ ht2
  exact ht ht2.symm
theorem IsS80.far {w0 W : World} {g : Nat} {f0 : Int} {f1 : Int} {f2 : Int} {f3 : Nat} {f4 : Int} {f5 : Int} {f6 : Nat} {p : Addr} (h : IsS80 w0 W g f0 f1 f2 f3 f4 f5 f6) (hne : g ≠ p.block) (u : Value) : IsS80 w0 (W.setCell p u) g f0 f1 f2 f3 f4 f5 f6 := by
  obtain ⟨hb, hg⟩ := h
  exact ⟨blk_far hb hne u, hg⟩
theorem cellS80_0 {W : World} {g : Nat} {f0 : Int} {f1 : Int} {f2 : Int} {f3 : Nat} {f4 : Int} {f5 : Int} {f6 : Nat} (h : W.heap[g]? = some (.cells #[.int .i64 f0, .int .i64 f1, .int .i64 f2, .float .f64 f3, .int .i64 f4, .int .i64 f5, .float .f64 f6] 80 (0, 0))) : W.cell? ⟨g, 0, none⟩ = some (.int .i64 f0) := (blk_cell h 0).trans rfl
theorem IsS80.set_0 {w0 W : World} {g : Nat} {f0 : Int} {f1 : Int} {f2 : Int} {f3 : Nat} {f4 : Int} {f5 : Int} {f6 : Nat} (h : IsS80 w0 W g f0 f1 f2 f3 f4 f5 f6) (x : Int) : IsS80 w0 (W.setCell ⟨g, 0, none⟩ (.int .i64 x)) g x f1 f2 f3 f4 f5 f6 := by
  obtain ⟨hb, hg⟩ := h
  exact ⟨by simpa using blk_set hb 0 (.int .i64 x), hg⟩
theorem cellS80_1 {W : World} {g : Nat} {f0 : Int} {f1 : Int} {f2 : Int} {f3 : Nat} {f4 : Int} {f5 : Int} {f6 : Nat} (h : W.heap[g]? = some (.cells #[.int .i64 f0, .int .i64 f1, .int .i64 f2, .float .f64 f3, .int .i64 f4, .int .i64 f5, .float .f64 f6] 80 (0, 0))) : W.cell? ⟨g, 1, none⟩ = some (.int .i64 f1) := (blk_cell h 1).trans rfl
theorem IsS80.set_1 {w0 W : World} {g : Nat} {f0 : Int} {f1 : Int} {f2 : Int} {f3 : Nat} {f4 : Int} {f5 : Int} {f6 : Nat} (h : IsS80 w0 W g f0 f1 f2 f3 f4 f5 f6) (x : Int) : IsS80 w0 (W.setCell ⟨g, 1, none⟩ (.int .i64 x)) g f0 x f2 f3 f4 f5 f6 := by
  obtain ⟨hb, hg⟩ := h
  exact ⟨by simpa using blk_set hb 1 (.int .i64 x), hg⟩
theorem cellS80_2 {W : World} {g : Nat} {f0 : Int} {f1 : Int} {f2 : Int} {f3 : Nat} {f4 : Int} {f5 : Int} {f6 : Nat} (h : W.heap[g]? = some (.cells #[.int .i64 f0, .int .i64 f1, .int .i64 f2, .float .f64 f3, .int .i64 f4, .int .i64 f5, .float .f64 f6] 80 (0, 0))) : W.cell? ⟨g, 2, none⟩ = some (.int .i64 f2) := (blk_cell h 2).trans rfl
theorem IsS80.set_2 {w0 W : World} {g : Nat} {f0 : Int} {f1 : Int} {f2 : Int} {f3 : Nat} {f4 : Int} {f5 : Int} {f6 : Nat} (h : IsS80 w0 W g f0 f1 f2 f3 f4 f5 f6) (x : Int) : IsS80 w0 (W.setCell ⟨g, 2, none⟩ (.int .i64 x)) g f0 f1 x f3 f4 f5 f6 := by
  obtain ⟨hb, hg⟩ := h
  exact ⟨by simpa using blk_set hb 2 (.int .i64 x), hg⟩
theorem cellS80_3 {W : World} {g : Nat} {f0 : Int} {f1 : Int} {f2 : Int} {f3 : Nat} {f4 : Int} {f5 : Int} {f6 : Nat} (h : W.heap[g]? = some (.cells #[.int .i64 f0, .int .i64 f1, .int .i64 f2, .float .f64 f3, .int .i64 f4, .int .i64 f5, .float .f64 f6] 80 (0, 0))) : W.cell? ⟨g, 3, none⟩ = some (.float .f64 f3) := (blk_cell h 3).trans rfl
theorem IsS80.set_3 {w0 W : World} {g : Nat} {f0 : Int} {f1 : Int} {f2 : Int} {f3 : Nat} {f4 : Int} {f5 : Int} {f6 : Nat} (h : IsS80 w0 W g f0 f1 f2 f3 f4 f5 f6) (x : Nat) : IsS80 w0 (W.setCell ⟨g, 3, none⟩ (.float .f64 x)) g f0 f1 f2 x f4 f5 f6 := by
  obtain ⟨hb, hg⟩ := h
  exact ⟨by simpa using blk_set hb 3 (.float .f64 x), hg⟩
theorem cellS80_4 {W : World} {g : Nat} {f0 : Int} {f1 : Int} {f2 : Int} {f3 : Nat} {f4 : Int} {f5 : Int} {f6 : Nat} (h : W.heap[g]? = some (.cells #[.int .i64 f0, .int .i64 f1, .int .i64 f2, .float .f64 f3, .int .i64 f4, .int .i64 f5, .float .f64 f6] 80 (0, 0))) : W.cell? ⟨g, 4, none⟩ = some (.int .i64 f4) := (blk_cell h 4).trans rfl
theorem IsS80.set_4 {w0 W : World} {g : Nat} {f0 : Int} {f1 : Int} {f2 : Int} {f3 : Nat} {f4 : Int} {f5 : Int} {f6 : Nat} (h : IsS80 w0 W g f0 f1 f2 f3 f4 f5 f6) (x : Int) : IsS80 w0 (W.setCell ⟨g, 4, none⟩ (.int .i64 x)) g f0 f1 f2 f3 x f5 f6 := by
  obtain ⟨hb, hg⟩ := h
  exact ⟨by simpa using blk_set hb 4 (.int .i64 x), hg⟩
theorem cellS80_5 {W : World} {g : Nat} {f0 : Int} {f1 : Int} {f2 : Int} {f3 : Nat} {f4 : Int} {f5 : Int} {f6 : Nat} (h : W.heap[g]? = some (.cells #[.int .i64 f0, .int .i64 f1, .int .i64 f2, .float .f64 f3, .int .i64 f4, .int .i64 f5, .float .f64 f6] 80 (0, 0))) : W.cell? ⟨g, 5, none⟩ = some (.int .i64 f5) := (blk_cell h 5).trans rfl
theorem IsS80.set_5 {w0 W : World} {g : Nat} {f0 : Int} {f1 : Int} {f2 : Int} {f3 : Nat} {f4 : Int} {f5 : Int} {f6 : Nat} (h : IsS80 w0 W g f0 f1 f2 f3 f4 f5 f6) (x : Int) : IsS80 w0 (W.setCell ⟨g, 5, none⟩ (.int .i64 x)) g f0 f1 f2 f3 f4 x f6 := by
  obtain ⟨hb, hg⟩ := h
  exact ⟨by simpa using blk_set hb 5 (.int .i64 x), hg⟩
theorem cellS80_6 {W : World} {g : Nat} {f0 : Int} {f1 : Int} {f2 : Int} {f3 : Nat} {f4 : Int} {f5 : Int} {f6 : Nat} (h : W.heap[g]? = some (.cells #[.int .i64 f0, .int .i64 f1, .int .i64 f2, .float .f64 f3, .int .i64 f4, .int .i64 f5, .float .f64 f6] 80 (0, 0))) : W.cell? ⟨g, 6, none⟩ = some (.float .f64 f6) := (blk_cell h 6).trans rfl
theorem IsS80.set_6 {w0 W : World} {g : Nat} {f0 : Int} {f1 : Int} {f2 : Int} {f3 : Nat} {f4 : Int} {f5 : Int} {f6 : Nat} (h : IsS80 w0 W g f0 f1 f2 f3 f4 f5 f6) (x : Nat) : IsS80 w0 (W.setCell ⟨g, 6, none⟩ (.float .f64 x)) g f0 f1 f2 f3 f4 f5 x := by
  obtain ⟨hb, hg⟩ := h
  exact ⟨by simpa using blk_set hb 6 (.float .f64 x), hg⟩
theorem IsS80.new (w0 W : World) (f0 : Int) (f1 : Int) (f2 : Int) (f3 : Nat) (f4 : Int) (f5 : Int) (f6 : Nat) (hB : Below w0.heap.size w0 W) : IsS80 w0 (W.alloc (.cells #[.int .i64 f0, .int .i64 f1, .int .i64 f2, .float .f64 f3, .int .i64 f4, .int .i64 f5, .float .f64 f6] 80)) W.heap.size f0 f1 f2 f3 f4 f5 f6 := ⟨by simpa using heap_alloc_new W _, hB.size⟩

/-! ### diffmatchpatch_New: function 44 -/
def diffmatchpatch_New.f  : Option (Int × Int × Int × Nat × Int × Int × Nat) := some (1000000000, 4, 1000, (4602678819172646912 : Nat), 4, 32, (4602678819172646912 : Nat))
set_option maxHeartbeats 8000000 in
set_option maxRecDepth 100000 in
theorem diffmatchpatch_New.calls  (r1 : Int) (r2 : Int) (r3 : Int) (r4 : Nat) (r5 : Int) (r6 : Int) (r7 : Nat) (w0 w : World) (hB : Below w0.heap.size w0 w) (h : diffmatchpatch_New.f  = some (r1, r2, r3, r4, r5, r6, r7)) :
    Calls Try.prog 44 #[] w fun e w' => ∃ g_ : Nat, e = .returned (.pointer (some ⟨g_, 0, none⟩)) ∧ IsS80 w0 w' g_ r1 r2 r3 r4 r5 r6 r7 ∧ Below w0.heap.size w0 w' ∧ Below w.heap.size w w' := by
  have hu80 := Try.underlying80
  have HBW := Aside0.mk (Below.refl w.heap.size w)
  have HW0 := Aside0.mk hB.size
  have HB := Aside0.mk hB
  clear hB
  have H : (some (1000000000, 4, 1000, (4602678819172646912 : Nat), 4, 32, (4602678819172646912 : Nat))) = some (r1, r2, r3, r4, r5, r6, r7) := h
  clear h
  simp only [Option.some.injEq, Prod.mk.injEq] at H
  obtain ⟨rfl, rfl, rfl, rfl, rfl, rfl, rfl⟩ := H
  go_enter Try.func44, Try.ntmps44
  go_wp2_with (first | ((with_reducible refine gate_dst (N := 2) rfl ?_); refine box_event ?hg (N := 2) ?hd (cs := #[.int .i64 1000000000, .int .i64 4, .int .i64 1000, .float .f64 (4602678819172646912 : Nat), .int .i64 4, .int .i64 32, .float .f64 (4602678819172646912 : Nat)]) (t := 80) ?hr ?_; (case hd => rfl); (case hg => rfl); (case hr => first | (go_simp; done) | (go_simp; rfl)); intro gb122 hg w1 hbox hb; have n0_ := Aside0.mk (below_step (by repeat (first | (with_reducible first | exact HBW.out | apply below_alloc | apply pw_below_drewN | apply below_drew1) | exact HBW.out)) hb); have n1_ := Aside0.mk (below_step (by repeat (first | (with_reducible first | exact HB.out | apply below_alloc | apply pw_below_drewN | apply below_drew1) | exact HB.out)) hb); have n2_ := Aside0.mk (hbox); have n3_ := Aside0.mk ((by rw [hg]; exact (below_size (by repeat (first | (with_reducible first | exact HBW.out | apply below_alloc | apply pw_below_drewN | apply below_drew1) | exact HBW.out))) : w.heap.size ≤ gb122)); have n4_ := Aside0.mk ((Nat.le_trans HW0.out (by rw [hg]; exact (below_size (by repeat (first | (with_reducible first | exact HBW.out | apply below_alloc | apply pw_below_drewN | apply below_drew1) | exact HBW.out))) : w.heap.size ≤ gb122) : w0.heap.size ≤ gb122)); clear HBW; clear HB; have HBW := n0_; have HB := n1_; have BK122 := n2_; have GW122 := n3_; have GE122 := n4_; clear n0_ n1_ n2_ n3_ n4_; clear hb hbox hg))
  go_ret
  exact ⟨_, rfl, (show IsS80 w0 _ gb122 1000000000 4 1000 (4602678819172646912 : Nat) 4 32 (4602678819172646912 : Nat) from ⟨by (with_reducible repeat (first | refine blk_drewN ?_ _ | refine blk_drew ?_ | refine blk_alloc ?_ _)); exact BK122.out, GE122.out⟩), by repeat (first | (with_reducible first | exact HB.out | apply below_alloc | apply pw_below_drewN | apply below_drew1 | refine below_set ?_ GE122.out) | exact HB.out), by repeat (first | (with_reducible first | exact HBW.out | apply below_alloc | apply pw_below_drewN | apply below_drew1 | refine below_set ?_ GW122.out) | exact HBW.out)⟩

end Go.Proofs.Ytomidomdomjkfaa.PT
