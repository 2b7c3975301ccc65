/- Words beside the print's: []rune(s) and string(runes) as rows of the call's own, strings of runes, floats as fields. -/
import Derived.Test.YtomidomdomjkfaaWMore
import Derived.Laws.IdiomStrings
import Derived.Laws.Cover2
import Derived.Laws.FloatArith
import Derived.Laws.Cover4
import Derived.Lib.RuneCount
import Derived.Laws.RangeString
import Derived.Laws.RangeAny
namespace Go.Proofs.YtomidomdomjkfaaW.PrintWords
open Go Go.RowKit

/-! ### []rune(s) -/
def runesAt (s : ByteArray) : Nat → Nat → List Int
  | 0, _ => []
  | b + 1, i => if i < s.size then ((Utf8.decode s i).1 : Int) :: runesAt s b (i + (Utf8.decode s i).2) else []
/-- The characters of a string. -/
def runesOf (s : ByteArray) : List Int := runesAt s s.size 0
theorem runesAt_length (s : ByteArray) : ∀ b i, (runesAt s b i).length ≤ b
  | 0, _ => by simp [runesAt]
  | b + 1, i => by
    unfold runesAt
    split
    · simpa using runesAt_length s b _
    · simp
theorem runesOf_length (s : ByteArray) : (runesOf s).length ≤ s.size := runesAt_length s _ _
theorem runesFrom_eq (s : ByteArray) : ∀ b i (acc : Array Value), Conv.runesFrom s b i acc = acc ++ (nums .i32 (runesAt s b i)).toArray
  | 0, _, acc => by simp [Conv.runesFrom, runesAt, nums]
  | b + 1, i, acc => by
    unfold Conv.runesFrom runesAt
    by_cases h : i < s.size
    · simp only [h, if_true]
      rw [runesFrom_eq s b _ _]
      simp [nums]
    · simp [h, nums]
theorem runesFrom_of (s : ByteArray) : Conv.runesFrom s s.size 0 #[] = (nums .i32 (runesOf s)).toArray := by
  rw [runesFrom_eq]; simp [runesOf]

theorem run_runes {P : Program} (w : World) (src dst e : TypeId) (s : ByteArray) (hs : P.underlying src = some .string) (hd : P.underlying dst = some (.slice e)) (he : P.underlying e = some (.int .i32)) (h46 : s.size ≤ 70368744177664) :
    (convert src dst (.string s)).run P w = .ok (.slice (some ⟨w.heap.size, 0, none⟩) (runesOf s).length (grownCap w (runesOf s).length 0 e))
      (w.drew.alloc (.cells ((nums .i32 (runesOf s)).toArray ++ Array.replicate (grownCap w (runesOf s).length 0 e - (runesOf s).length) (.int .i32 0)) e)) := by
  have hl := runesOf_length s
  have h := run_runes_of_string (P := P) w src dst e s hs hd he (by rw [runesFrom_of]; simp [nums]; omega)
  rw [runesFrom_of] at h
  simpa [nums] using h

theorem own_runes (w : World) (base : Nat) (e : TypeId) (xs : List Int) (hb : base ≤ w.heap.size) (hm : xs.length ≤ maxLen) :
    (w.drew.alloc (.cells ((nums .i32 xs).toArray ++ Array.replicate (grownCap w xs.length 0 e - xs.length) (.int .i32 0)) e)).ownsRow base e 1 (.slice (some ⟨w.heap.size, 0, none⟩) xs.length (grownCap w xs.length 0 e)) xs.length (nums .i32 xs) := by
  have hge := grownCap_ge w xs.length 0 e
  refine ⟨by simp [nums], .inr ⟨w.heap.size, grownCap w xs.length 0 e, _, rfl, hb, by simpa using heap_alloc_new w.drew _, hge, grownCap_le_maxLen w _ 0 e hm, ?_, ?_⟩⟩
  · simp [nums]; omega
  · simp [nums]

namespace Kd
def flt : Kd Nat := scalar (Value.float .f64) (fun _ => rfl)
theorem heap_flt : Heap Kd.flt := ⟨fun _ h => h⟩
theorem at_flt {w : World} {A : Option Addr} {n : Nat} {xs : List Nat} (h : Kd.flt.C w A n xs) (i : Int) (h0 : 0 ≤ i) (h1 : i < n) : ∃ ad, A = some ad ∧ w.cell? (ad.add i.toNat) = some (.float .f64 (rdOf 0 xs i)) :=
  ReadsOf.at_ (reads_of_C h) i h0 h1

theorem conv_own {W : World} (base e : Nat) (s : ByteArray) {ok : Nat → Prop} (hfresh : ok W.heap.size) (hbase : base ≤ W.heap.size) (h46 : s.size ≤ 70368744177664) :
    (Kd.int .i32).R e (W.drew.alloc (.cells ((nums .i32 (runesOf s)).toArray ++ Array.replicate (grownCap W (runesOf s).length 0 e - (runesOf s).length) (.int .i32 0)) e)) base ok (.slice (some ⟨W.heap.size, 0, none⟩) (runesOf s).length (grownCap W (runesOf s).length 0 e)) (runesOf s) := by
  have hl := runesOf_length s
  refine R_of_own (own_runes W base e (runesOf s) hbase (by unfold maxLen; omega)) ?_
  intro k hk
  have : W.heap.size = k := by simpa [Value.ownBlock] using hk
  subst this
  exact hfresh

section
variable {P : Program} {ops : Array Oper} {rest : List Oper} {o : Oper} {a : Act} {Q : Exit → Act → World → Prop} {Kc : Act → World → Prop}
theorem R_conv {w0 W : World} (base e : Nat) (hgd : o.guard = none) {N : Tmp} (_hd : o.dst = some N) (src dst : TypeId) (x : Operand) (ho : o.op = .convert src dst x) (s : ByteArray) (hx : a.eval x = .string s)
    (hs : P.underlying src = some .string) (ht : P.underlying dst = some (.slice e)) (he : P.underlying e = some (.int .i32)) {ok : Nat → Prop} (hfresh : ok W.heap.size) (h46 : s.size ≤ 70368744177664) (HB : Below base w0 W) (hbase : base ≤ W.heap.size)
    (h : ∀ v1 w1, (Kd.int .i32).R e w1 base ok v1 (runesOf s) → Below base w0 w1 → W.grownBy w1 none → (∃ b, v1.ownBlock = some b ∧ W.heap.size ≤ b) → wpList P ops Q rest (a.put o.dst v1) w1) : wpList P ops Q (o :: rest) a W := by
  refine event_run hgd ?_ (h _ _ (conv_own base e s hfresh hbase h46) ((below_drew HB).alloc hbase _) ?_ ⟨W.heap.size, by simp [Value.ownBlock], Nat.le_refl _⟩)
  · simp [execOp, ho, hx, run_runes W src dst e s hs ht he h46]
  · exact grown_of_below ((below_drew (Below.refl _ _)).alloc (Nat.le_refl _) _) none
theorem R_conv_step {w0 W : World} (base e : Nat) (hw : Region.wanted o (yielded ops a.tmps) = true) {N : Tmp} (_hd : o.dst = some N) (src dst : TypeId) (x : Operand) (ho : o.op = .convert src dst x) (s : ByteArray) (hx : a.eval x = .string s)
    (hs : P.underlying src = some .string) (ht : P.underlying dst = some (.slice e)) (he : P.underlying e = some (.int .i32)) {ok : Nat → Prop} (hfresh : ok W.heap.size) (h46 : s.size ≤ 70368744177664) (HB : Below base w0 W) (hbase : base ≤ W.heap.size)
    (h : ∀ v1 w1, (Kd.int .i32).R e w1 base ok v1 (runesOf s) → Below base w0 w1 → W.grownBy w1 none → (∃ b, v1.ownBlock = some b ∧ W.heap.size ≤ b) → Kc (a.put o.dst v1) w1) : if Region.wanted o (yielded ops a.tmps) = true then Oper.wp P o a W Kc Q else Kc (a.put o.dst undef) W := by
  refine event_step hw ?_ (h _ _ (conv_own base e s hfresh hbase h46) ((below_drew HB).alloc hbase _) ?_ ⟨W.heap.size, by simp [Value.ownBlock], Nat.le_refl _⟩)
  · simp [execOp, ho, hx, run_runes W src dst e s hs ht he h46]
  · exact grown_of_below ((below_drew (Below.refl _ _)).alloc (Nat.le_refl _) _) none
end
end Kd

/-! ### string(runes) -/
theorem string_of_runes {P : Program} {w : World} {src dst e : TypeId} {A : Option Addr} {n c : Nat} {xs : List Int} (hs : P.underlying src = some (.slice e)) (he : P.underlying e = some (.int .i32)) (hd : P.underlying dst = some .string)
    (h : ReadsInt w .i32 A n xs) : (convert src dst (.slice A n c)).run P w = .ok (.string (runesBytes xs)) w := by
  have hn : xs.length = n := h.1
  rcases A with _ | ad
  · have h0 : n = 0 := by
      rcases Nat.eq_zero_or_pos n with h0 | h0
      · exact h0
      · obtain ⟨ad, h', _⟩ := h.2.2 h0
        cases h'
    subst h0
    obtain rfl : xs = [] := List.eq_nil_of_length_eq_zero hn
    exact run_convert_runes_nil w src dst e 0 c hs he hd
  · rcases Nat.eq_zero_or_pos n with h0 | h0
    · subst h0
      obtain rfl : xs = [] := List.eq_nil_of_length_eq_zero hn
      have := run_convert_runes (P := P) w src dst e ad 0 c [] (by simp) hs he hd (fun j hj => by simp at hj)
      simpa using this
    · obtain ⟨ad', h', hc⟩ := h.2.2 h0
      obtain rfl : ad = ad' := by injection h'
      have := run_convert_runes (P := P) w src dst e ad n c xs (by omega) hs he hd (fun j hj => hc j (by omega))
      rwa [List.take_of_length_le (by omega)] at this
theorem own_string32 {P : Program} {w : World} {base n : Nat} {e' src dst e : TypeId} {v : Value} {xs : List Int} (hs : P.underlying src = some (.slice e)) (he : P.underlying e = some (.int .i32)) (hd : P.underlying dst = some .string)
    (h : w.ownsRow base e' 1 v n (nums .i32 xs)) : (convert src dst v).run P w = .ok (.string (runesBytes xs)) w := by
  obtain ⟨A, c, rfl, hr⟩ := own_reads h
  exact string_of_runes hs he hd hr
theorem Kd.C_string32 {P : Program} {w : World} {src dst e : TypeId} {A : Option Addr} {n c : Nat} {xs : List Int} (hs : P.underlying src = some (.slice e)) (he : P.underlying e = some (.int .i32)) (hd : P.underlying dst = some .string)
    (h : (Kd.int .i32).C w A n xs) : (convert src dst (.slice A n c)).run P w = .ok (.string (runesBytes xs)) w :=
  string_of_runes hs he hd (Kd.reads_of_C (enc := Value.int .i32) (d := (0 : Int)) (h1 := fun _ => rfl) h)

/-! ### ranging over a string -/
theorem runeCountFrom_eq (s : ByteArray) : ∀ b i, Lib.runeCountFrom s b i = (runesAt s b i).length
  | 0, _ => rfl
  | b + 1, i => by
    unfold Lib.runeCountFrom runesAt
    split
    · rw [runeCountFrom_eq s b]; simp [Nat.add_comm]
    · rfl
theorem runeCount_eq (s : ByteArray) : (Lib.runeCount s : Int) = ((runesOf s).length : Int) := by
  unfold Lib.runeCount runesOf; rw [runeCountFrom_eq]
theorem below_iter (w : World) (s : ByteArray) (pos : Nat) : Below w.heap.size w (w.iter s pos) :=
  below_alloc (Below.refl _ _) _
end Go.Proofs.YtomidomdomjkfaaW.PrintWords
