-- Written by this session's own program (wip/tools) out of the translation.
import Derived.Test.YtomidomdomjkfaaPTx0
namespace Go.Proofs.Ytomidomdomjkfaa.PT
open Go.RowKit Go.Proofs.YtomidomdomjkfaaW.PrintWords Go.Proofs.YtomidomdomjkfaaW.PrintLast Go.Proofs.YtomidomdomjkfaaW.PrintMore
attribute [local go_sem] max2_int min2_int max_two min_two max_three min_three max_four min_four   -- for this text's walks alone
set_option linter.unusedVariables false
set_option linter.unusedSimpArgs false

/-! ### diffmatchpatch_splice: function 79 -/
set_option maxHeartbeats 4000000 in
set_option maxRecDepth 100000 in
theorem diffmatchpatch_splice.same_ (g len cap i m : Nat) (A3 : Option Addr) (c3 : Nat) (cs : List Value) (w : World) (hic : i ≤ len) (hlc : len ≤ cap) (hcm : cap ≤ maxLen)
    (hcs : cs.length = Nat.min m (len - i) * 2) (hsrc : 0 < cs.length → ∃ ad, A3 = some ad ∧ ∀ j v, cs[j]? = some v → w.cell? (ad.add j) = some v)
    (hc : ∀ j, j < cs.length → (w.cell? ⟨g, i * 2 + j, none⟩).isSome = true ∧ w.frozen? ⟨g, i * 2 + j, none⟩ = false) (h1 : ∀ v ∈ cs, v.oneCell' = true) :
    Calls Try.prog 79 #[.slice (some ⟨g, 0, none⟩) len cap, .int .i64 i, .int .i64 m, .slice A3 m c3] w fun e w' => e = .returned (.slice (some ⟨g, 0, none⟩) len cap) ∧ w' = w.setCells g (i * 2) cs := by
  have hu := Try.underlying74
  have hz : (Try.prog.info? 91).map (·.size) = some 2 := by kernel_rfl
  obtain ⟨A, hA⟩ : ∃ A : Option Addr, (if cap = i then some (⟨g, 0, none⟩ : Addr) else some ⟨g, i * 2, none⟩) = A := ⟨_, rfl⟩
  have hrun := Aside0.mk (fun ty => run_copy_rows (P := Try.prog) w 74 74 ty 91 2 A A3 (len - i) (cap - i) m c3 g (i * 2) cs hu hz hcs (fun h => ⟨by rw [← hA, if_neg]; have := Nat.min_le_right m (len - i); simp only [Nat.min_def] at *; split at hcs <;> omega, hsrc h⟩) hc h1)
  have hp : (i : Int) ≤ (len : Int) := by omega
  clear hcs hsrc hc h1
  go_enter Try.func79, Try.ntmps79
  go_wp2_with (refine list_copy_known _ rfl (.tmp 19) (.tmp 20) 74 74 rfl _ _ ?_ ?_ (hrun.out _) ?_)
  case refine_1 => simp [Act.eval, Act.put, hA]
  case refine_2 => simp [Act.eval, Act.put]
  go_wp2
  go_ret
  exact ⟨rfl, rfl⟩

set_option maxHeartbeats 4000000 in
set_option maxRecDepth 100000 in
theorem diffmatchpatch_splice.less_ (g len cap i n m a b d e : Nat) (A3 : Option Addr) (c3 : Nat) (cs : List Value) (cur : Array Value) (w : World) (hg : w.heap[g]? = some (.cells cur 91 (0, 0))) (hsz : cur.size = cap * 2) (hlc : len ≤ cap) (hcm : cap ≤ maxLen)
    (hmn : m < n) (ha : a = i + m) (hb : b = i + n) (hbl : b ≤ len) (hd : d = len - n) (he : e = d + m)
    (hcs : cs.length = m * 2) (hsrc : 0 < cs.length → ∃ ad, A3 = some ad ∧ ∀ j v, cs[j]? = some v → w.cell? (ad.add j) = some v) (h1 : ∀ v ∈ cs, v.oneCell' = true) (h0 : ∀ v ∈ (cur.toList.drop (b * 2)).take ((len - b) * 2), v.oneCell' = true) :
    Calls Try.prog 79 #[.slice (some ⟨g, 0, none⟩) len cap, .int .i64 i, .int .i64 n, .slice A3 m c3] w fun e_ w' => e_ = .returned (.slice (some ⟨g, 0, none⟩) e cap) ∧ InRow 91 g (cap * 2) (e * 2) (cur.toList.take (i * 2) ++ cs ++ (cur.toList.drop (b * 2)).take ((len - b) * 2)) w w' := by
  have hu := Try.underlying74
  have hz : (Try.prog.info? 91).map (·.size) = some 2 := by kernel_rfl
  have hm64 : maxLen ≤ 9223372036854775807 := by decide
  have hll : cur.toList.length = cap * 2 := by simpa using hsz
  -- what the two copies do
  obtain ⟨cs2, hc2⟩ : ∃ x : List Value, x = (cur.toList.drop (b * 2)).take ((len - b) * 2) := ⟨_, rfl⟩
  have l2 : cs2.length = (len - b) * 2 := by rw [hc2]; simp; omega
  have r0 : InRow 91 g (cap * 2) (cap * 2) (cur.toList.take (cap * 2)) w w := InRow.start hg hsz _
  rw [List.take_of_length_le (by omega)] at r0
  have r1 := (r0.cells (o := i * 2) (vs := cs) (Nat.le_refl _) (by omega)).drew
  have r2 := r1.cells (o := a * 2) (vs := cs2) (Nat.le_refl _) (by omega)
  have eX : ((cur.toList.take (i * 2) ++ cs ++ cur.toList.drop (i * 2 + cs.length)).take (a * 2) ++ cs2 ++ (cur.toList.take (i * 2) ++ cs ++ cur.toList.drop (i * 2 + cs.length)).drop (a * 2 + cs2.length)).take (e * 2) = cur.toList.take (i * 2) ++ cs ++ cs2 := by
    have ee : e * 2 = a * 2 + cs2.length := by omega
    have e1 : (cur.toList.take (i * 2) ++ cs ++ cur.toList.drop (i * 2 + cs.length)).take (a * 2) = cur.toList.take (i * 2) ++ cs := by
      rw [List.take_append_of_le_length (by simp; omega), List.take_of_length_le (by simp; omega)]
    rw [e1, List.take_append_of_le_length (by simp; omega), List.take_of_length_le (by simp; omega)]
  have r3 := r2.cut (E' := e * 2) (by omega)
  rw [eX] at r3
  have HC2 := Aside0.mk hc2
  have HR := Aside0.mk r3
  obtain ⟨A2, hA2, hA2'⟩ : ∃ A : Addr, (if cap = b then some (⟨g, 0, none⟩ : Addr) else some ⟨g, b * 2, none⟩) = some A ∧ (cap ≠ b → A = ⟨g, b * 2, none⟩) := by
    by_cases hcb : cap = b
    · exact ⟨⟨g, 0, none⟩, by rw [if_pos hcb], fun h => absurd hcb h⟩
    · exact ⟨⟨g, b * 2, none⟩, by rw [if_neg hcb], fun _ => rfl⟩
  have hci : ¬ cap = i := by omega
  have hca : ¬ cap = a := by omega
  have mi : Nat.min m (len - i) = m := Nat.min_eq_left (by omega)
  have mi2 : Nat.min (len - b) (len - a) = len - b := Nat.min_eq_left (by omega)
  have hrun := Aside0.mk (fun ty => run_copy_rows (P := Try.prog) w 74 74 ty 91 2 (some ⟨g, i * 2, none⟩) A3 (len - i) (cap - i) m c3 g (i * 2) cs hu hz (by rw [mi]; exact hcs) (fun h => ⟨rfl, hsrc h⟩) (fun j hj => r0.is (by omega)) h1)
  have hrun2 := Aside0.mk (fun ty => run_copy_rows (P := Try.prog) (w.setCells g (i * 2) cs).drew 74 74 ty 91 2 (some ⟨g, a * 2, none⟩) (some A2) (len - a) (cap - a) (len - b) (cap - b) g (a * 2) cs2 hu hz (by rw [mi2]; exact l2)
    (fun h => ⟨rfl, ⟨g, b * 2, none⟩, by rw [hA2' (by omega)], fun j v hv => by
      rw [Addr.add_lit]
      refine r1.at_ ?_
      have hj : j < (len - b) * 2 := by have := (List.getElem?_eq_some_iff.1 hv).1; omega
      rw [hc2, List.getElem?_take, if_pos hj, List.getElem?_drop] at hv
      rw [List.getElem?_append_right (by simp; omega), List.getElem?_drop]
      rw [← hv]; congr 1; simp; omega⟩)
    (fun j hj => r1.is (by omega)) (fun v hv => h0 v (hc2 ▸ hv)))
  have hpa : (a : Int) ≤ (len : Int) := by omega
  have hpb : (b : Int) ≤ (len : Int) := by omega
  have hpi : (i : Int) ≤ (len : Int) := by omega
  have hpe : (e : Int) ≤ (len : Int) := by omega
  have hpc : (e : Int) ≤ (cap : Int) := by omega
  have hwa : IntKind.i64.wrap ((i : Int) + (m : Int)) = (a : Int) := by rw [IntKind.wrap_i64]; omega
  have hwb : IntKind.i64.wrap ((i : Int) + (n : Int)) = (b : Int) := by rw [IntKind.wrap_i64]; omega
  have hwd : IntKind.i64.wrap ((len : Int) - (n : Int)) = (d : Int) := by rw [IntKind.wrap_i64]; omega
  have hwe : IntKind.i64.wrap ((d : Int) + (m : Int)) = (e : Int) := by rw [IntKind.wrap_i64]; omega
  have hce : ¬ cap = e := by omega
  have hle := Aside0.mk (show len - e = n - m by omega)
  have hlc2 := Aside0.mk (show e + (n - m) ≤ cap by omega)
  have hmx := Aside0.mk (show n ≤ maxLen by omega)
  have hne : ((m : Int) == (n : Int)) = false := beq_eq_false_iff_ne.2 (by omega)
  have hlt : decide ((m : Int) < (n : Int)) = true := decide_eq_true (by omega)
  clear ha hb hd he hbl hcs hsrc h1 l2 r0 r1 r2 r3 eX hll hc2 h0 hg hsz
  go_enter Try.func79, Try.ntmps79
  go_wp2_with (refine list_copy_known _ rfl (.tmp 29) (.tmp 30) 74 74 rfl _ _ ?_ ?_ (hrun.out _) ?_)
  case refine_1 => simp [Act.eval, Act.put]
  case refine_2 => simp [Act.eval, Act.put]
  go_wp2_with fail
  go_region_law (refine step_copy_known rfl (.tmp 37) (.tmp 42) 74 74 rfl _ _ (by simp [Act.eval, Act.put]) (by simp [Act.eval, Act.put]) (hrun2.out _) ?_)
  go_wp2
  rw [hle.out]
  go_loopg [56] (n - m + 1) (fun kq v56 w' => ∃ (j : Nat), v56 = .int .i64 (j : Int) ∧ Aside0 (j + kq = n - m + 1) ∧ Aside0 (InRow 91 g (cap * 2) (e * 2) (cur.toList.take (i * 2) ++ cs ++ cs2) w w'))
  case atStart => exact ⟨0, rfl, ⟨by omega⟩, HR⟩
  case round =>
    obtain ⟨j, rfl, HJ, HA⟩ := hrel
    by_cases c : j < n - m
    · have q1 := HA.out.cell (o := e * 2 + j * 2) (by have := hlc2.out; omega)
      obtain ⟨⟨v1, q1⟩, f1⟩ := q1
      have q2 := HA.out.cell (o := e * 2 + j * 2 + 1) (by have := hlc2.out; omega)
      obtain ⟨⟨v2, q2⟩, f2⟩ := q2
      have s1 := HA.out.set (o := e * 2 + j * 2) (by omega) (by have := hlc2.out; omega) (.int .i8 0)
      have q3 := s1.cell (o := e * 2 + j * 2 + 1) (by have := hlc2.out; omega)
      obtain ⟨⟨v3, q3⟩, f3⟩ := q3
      have s2 := Aside0.mk (s1.set (o := e * 2 + j * 2 + 1) (by omega) (by have := hlc2.out; omega) (.string (⟨#[]⟩ : ByteArray)))
      have c1 : decide ((j : Int) < ((n - m : Nat) : Int)) = true := decide_eq_true (by omega)
      have c2 : (j : Int) < ((n - m : Nat) : Int) := by omega
      have hwj : IntKind.i64.wrap ((j : Int) + 1) = ((j + 1 : Nat) : Int) := by have := hmx.out; rw [IntKind.wrap_i64]; omega
      obtain ⟨j1, hj1⟩ : ∃ x, x = j + 1 := ⟨_, rfl⟩
      rw [← hj1] at hwj
      have HJ1 := Aside0.mk hj1
      have CC := Aside0.mk c
      clear s1 hj1 c
      go_wp2
      go_roundg (gk - 1)
      case measure => have := HJ.out; have := CC.out; omega
      case rel => exact ⟨j1, rfl, ⟨by have := HJ.out; have := HJ1.out; have := CC.out; omega⟩, s2⟩
    · have c1 : decide ((j : Int) < ((n - m : Nat) : Int)) = false := decide_eq_false (by omega)
      have c3 : ¬ (j : Int) < ((n - m : Nat) : Int) := by omega
      go_wp2
      go_ret
      exact ⟨rfl, by have h := HA.out; rw [HC2.out, List.append_assoc] at h; exact h⟩

theorem diffmatchpatch_splice.nil_ (A3 : Option Addr) (c3 : Nat) (w : World) :
    Calls Try.prog 79 #[.slice none 0 0, .int .i64 0, .int .i64 0, .slice A3 0 c3] w fun e_ w' => e_ = .returned (.slice none 0 0) ∧ w' = w := by
  have hu := Try.underlying74
  have hz : (Try.prog.info? 91).map (·.size) = some 2 := by kernel_rfl
  have hrun := Aside0.mk (fun ty => run_copy_rows (P := Try.prog) w 74 74 ty 91 2 none A3 0 0 0 c3 0 0 [] hu hz (by simp) (fun h => by simp at h) (fun j hj => by simp at hj) (fun v hv => by simp at hv))
  go_enter Try.func79, Try.ntmps79
  go_wp2_with (refine list_copy_known _ rfl (.tmp 19) (.tmp 20) 74 74 rfl _ _ ?_ ?_ (hrun.out _) ?_)
  case refine_1 => simp [Act.eval, Act.put]
  case refine_2 => simp [Act.eval, Act.put]
  go_wp2
  go_ret
  exact ⟨rfl, rfl⟩
def diffmatchpatch_splice.enc (x : S91) : List Value := [.int .i8 x.f0, .string x.f1]
theorem diffmatchpatch_splice.enc_two (x : S91) : (diffmatchpatch_splice.enc x).length = 2 := rfl
theorem diffmatchpatch_splice.enc_one (xs : List S91) : ∀ v ∈ xs.flatMap diffmatchpatch_splice.enc, v.oneCell' = true := by
  intro v hv
  obtain ⟨x, _, h⟩ := List.mem_flatMap.1 hv
  simp [diffmatchpatch_splice.enc] at h
  rcases h with rfl | rfl <;> rfl
theorem diffmatchpatch_splice.raw {w : World} {B : Nat} {P : Nat → Prop} {u : Value} {l : List S91} (h : Kd.R k91 91 w B P u l) : (u = .slice none 0 0 ∧ l = []) ∨ ∃ g cap cur, u = .slice (some ⟨g, 0, none⟩) l.length cap ∧ B ≤ g ∧ P g ∧ w.heap[g]? = some (.cells cur 91 (0, 0)) ∧ l.length ≤ cap ∧ cap ≤ maxLen ∧ cur.size = cap * 2 ∧ cur.toList.take (l.length * 2) = l.flatMap diffmatchpatch_splice.enc := by
  obtain ⟨h1, inner, ⟨h2, h3⟩, h4⟩ := h
  rcases h3 with ⟨rfl, h5⟩ | ⟨g, cap, cur, rfl, h6, h7, h8, h9, h10, h11⟩
  · exact .inl ⟨rfl, List.length_eq_zero_iff.1 h5⟩
  · refine .inr ⟨g, cap, cur, rfl, h6, h1 g rfl, h7, h8, h9, h10, ?_⟩
    rw [← reps_enc2 (e := diffmatchpatch_splice.enc) (fun x c hc => k91_openM hc) l inner h4]
    exact h11
theorem diffmatchpatch_splice.unraw {w : World} {B : Nat} {P : Nat → Prop} {l : List S91} {g cap : Nat} {cur : Array Value} (h1 : B ≤ g) (h2 : P g) (h3 : w.heap[g]? = some (.cells cur 91 (0, 0))) (h4 : l.length ≤ cap) (h5 : cap ≤ maxLen) (h6 : cur.size = cap * 2) (h7 : cur.toList.take (l.length * 2) = l.flatMap diffmatchpatch_splice.enc) : Kd.R k91 91 w B P (.slice (some ⟨g, 0, none⟩) l.length cap) l := by
  refine ⟨fun k hk => by simp [Value.ownBlock] at hk; exact hk ▸ h2, l.flatMap diffmatchpatch_splice.enc, ⟨enc2_length diffmatchpatch_splice.enc_two l, .inr ⟨g, cap, cur, rfl, h1, h3, h4, h5, h6, h7⟩⟩, ?_⟩
  exact enc2_reps diffmatchpatch_splice.enc_two (fun x => k91_mkM _ _ _ x) l
theorem diffmatchpatch_splice.ofRow {g cap : Nat} {l : List S91} {w w' : World} {B : Nat} {P : Nat → Prop} {n : Nat} (h : InRow 91 g (cap * 2) (n * 2) (l.flatMap diffmatchpatch_splice.enc) w w') (hn : n = l.length) (h1 : B ≤ g) (h2 : P g) (h4 : n ≤ cap) (h5 : cap ≤ maxLen) : Kd.R k91 91 w' B P (.slice (some ⟨g, 0, none⟩) n cap) l := by
  subst hn
  obtain ⟨cur, q1, q2, q3⟩ := h.row
  exact diffmatchpatch_splice.unraw h1 h2 q1 h4 h5 q2 q3
def diffmatchpatch_splice.f (l0 : List S91) (a1 a2 : Int) (l3 : List S91) : Option (List S91) := if 0 ≤ a1 ∧ 0 ≤ a2 ∧ a1 + a2 ≤ (l0.length : Int) ∧ l0.length + l3.length < 5864062014805 then some (l0.take a1.toNat ++ l3 ++ l0.drop (a1 + a2).toNat) else none
theorem diffmatchpatch_splice.same (P0_ : Nat → Prop) (u9000_ : Value) (l0 : List S91) (i : Nat) (A3 : Option Addr) (c3 : Nat) (l3 : List S91) (w0 w : World) (hB : Below w0.heap.size w0 w) (ho0 : Kd.R k91 91 w w0.heap.size P0_ u9000_ l0) (hr3 : ∀ W_, Kept w W_ (fun k_ => P0_ k_) → Kd.C k91 W_ A3 l3.length l3) (hi : i + l3.length ≤ l0.length) :
    Calls Try.prog 79 #[u9000_, .int .i64 (i : Int), .int .i64 (l3.length : Int), .slice A3 l3.length c3] w fun e w' => ∃ v0_ : Value, e = .returned (v0_) ∧ Kd.R k91 91 w' w0.heap.size (fun k_ => (P0_ k_ ∨ w.heap.size ≤ k_)) v0_ (l0.take i ++ l3 ++ l0.drop (i + l3.length)) ∧ Below w0.heap.size w0 w' ∧ Kept w w' (fun k_ => P0_ k_) := by
  rcases diffmatchpatch_splice.raw ho0 with ⟨rfl, rfl⟩ | ⟨g, cap, cur, rfl, q1, q2, q3, q4, q5, q6, q7⟩
  · have e3 : l3 = [] := by cases l3 with | nil => rfl | cons => simp at hi
    have e0 : i = 0 := by simp at hi; omega
    subst e3 e0
    refine (diffmatchpatch_splice.nil_ A3 c3 w).mono ?_
    rintro e w' ⟨rfl, rfl⟩
    exact ⟨_, rfl, by simpa using Kd.R_nil _ _ _ _ _, hB, Kept.refl _ _⟩
  · have hc := hr3 w (Kept.refl _ _)
    have hm : Nat.min l3.length (l0.length - i) = l3.length := Nat.min_eq_left (by omega)
    have hl : (l3.flatMap diffmatchpatch_splice.enc).length = l3.length * 2 := enc2_length diffmatchpatch_splice.enc_two _
    have r0 := InRow.start q3 q6 (cap * 2)
    rw [List.take_of_length_le (by rw [Array.length_toList]; omega)] at r0
    refine (diffmatchpatch_splice.same_ g l0.length cap i l3.length A3 c3 (l3.flatMap diffmatchpatch_splice.enc) w (by omega) q4 q5 (by rw [hm]; exact hl) (fun h => reads_enc2 diffmatchpatch_splice.enc_two (fun x c h => k91_open h) hc h) (fun j hj => r0.is (by omega)) (diffmatchpatch_splice.enc_one _)).mono ?_
    rintro e w' ⟨rfl, rfl⟩
    have r1 := (r0.cells (o := i * 2) (vs := l3.flatMap diffmatchpatch_splice.enc) (Nat.le_refl _) (by omega)).cut (E' := l0.length * 2) (by omega)
    refine ⟨_, rfl, ?_, r1.below hB q1, r1.kept (Kept.refl _ _) (.inl q2)⟩
    refine diffmatchpatch_splice.ofRow (w := w) (B := w0.heap.size) (P := fun k_ => (P0_ k_ ∨ w.heap.size ≤ k_)) (n := l0.length) ?_ (by simp; omega) q1 (.inl q2) q4 q5
    have eq : (cur.toList.take (i * 2) ++ l3.flatMap diffmatchpatch_splice.enc ++ cur.toList.drop (i * 2 + (l3.flatMap diffmatchpatch_splice.enc).length)).take (l0.length * 2) = (l0.take i ++ l3 ++ l0.drop (i + l3.length)).flatMap diffmatchpatch_splice.enc := by
      have hll : cur.toList.length = cap * 2 := by rw [Array.length_toList]; omega
      rw [List.flatMap_append, List.flatMap_append, ← enc2_take diffmatchpatch_splice.enc_two, ← enc2_drop diffmatchpatch_splice.enc_two, ← q7, List.take_take, Nat.min_eq_left (by omega), List.take_append, List.take_of_length_le (by simp [hl]; omega), List.drop_take]
      congr 2
      · simp [hl]; omega
      · rw [hl]; congr 1; omega
    rw [eq] at r1
    exact r1

theorem diffmatchpatch_splice.less (P0_ : Nat → Prop) (u9000_ : Value) (l0 : List S91) (i n : Nat) (A3 : Option Addr) (c3 : Nat) (l3 : List S91) (w0 w : World) (hB : Below w0.heap.size w0 w) (ho0 : Kd.R k91 91 w w0.heap.size P0_ u9000_ l0) (hr3 : ∀ W_, Kept w W_ (fun k_ => P0_ k_) → Kd.C k91 W_ A3 l3.length l3) (hi : i + n ≤ l0.length) (hm : l3.length < n) :
    Calls Try.prog 79 #[u9000_, .int .i64 (i : Int), .int .i64 (n : Int), .slice A3 l3.length c3] w fun e w' => ∃ v0_ : Value, e = .returned (v0_) ∧ Kd.R k91 91 w' w0.heap.size (fun k_ => (P0_ k_ ∨ w.heap.size ≤ k_)) v0_ (l0.take i ++ l3 ++ l0.drop (i + n)) ∧ Below w0.heap.size w0 w' ∧ Kept w w' (fun k_ => P0_ k_) := by
  rcases diffmatchpatch_splice.raw ho0 with ⟨rfl, rfl⟩ | ⟨g, cap, cur, rfl, q1, q2, q3, q4, q5, q6, q7⟩
  · simp at hi; omega
  · have hc := hr3 w (Kept.refl _ _)
    have hl : (l3.flatMap diffmatchpatch_splice.enc).length = l3.length * 2 := enc2_length diffmatchpatch_splice.enc_two _
    have hll : cur.toList.length = cap * 2 := by rw [Array.length_toList]; omega
    have e1 : cur.toList.take (i * 2) = (l0.take i).flatMap diffmatchpatch_splice.enc := by rw [← enc2_take diffmatchpatch_splice.enc_two, ← q7, List.take_take, Nat.min_eq_left (by omega)]
    have e2 : (cur.toList.drop ((i + n) * 2)).take ((l0.length - (i + n)) * 2) = (l0.drop (i + n)).flatMap diffmatchpatch_splice.enc := by
      rw [← enc2_drop diffmatchpatch_splice.enc_two, ← q7, List.drop_take]; congr 1; omega
    refine (diffmatchpatch_splice.less_ g l0.length cap i n l3.length (i + l3.length) (i + n) (l0.length - n) (l0.length - n + l3.length) A3 c3 (l3.flatMap diffmatchpatch_splice.enc) cur w q3 q6 q4 q5 hm rfl rfl hi rfl rfl hl (fun h => reads_enc2 diffmatchpatch_splice.enc_two (fun x c h => k91_open h) hc h) (diffmatchpatch_splice.enc_one _) (by rw [e2]; exact diffmatchpatch_splice.enc_one _)).mono ?_
    rintro e w' ⟨rfl, r1⟩
    refine ⟨_, rfl, ?_, r1.below hB q1, r1.kept (Kept.refl _ _) (.inl q2)⟩
    refine diffmatchpatch_splice.ofRow (w := w) (B := w0.heap.size) (P := fun k_ => (P0_ k_ ∨ w.heap.size ≤ k_)) (n := l0.length - n + l3.length) ?_ (by simp; omega) q1 (.inl q2) (by omega) q5
    rw [e1, e2] at r1
    rw [List.flatMap_append, List.flatMap_append]
    exact r1
set_option maxHeartbeats 4000000 in
set_option maxRecDepth 100000 in
theorem diffmatchpatch_splice.more (P0_ : Nat → Prop) (u9000_ : Value) (l0 : List S91) (i n L a b d e : Nat) (A3 : Option Addr) (c3 : Nat) (l3 : List S91) (m : Nat) (w0 w : World) (hB : Below w0.heap.size w0 w) (ho0 : Kd.R k91 91 w w0.heap.size P0_ u9000_ l0) (hr3 : ∀ W_, Kept w W_ (fun k_ => P0_ k_) → Kd.C k91 W_ A3 m l3) (hL : L = l0.length) (hm3 : m = l3.length)
    (ha : a = i + m) (hb : b = i + n) (hbl : b ≤ L) (hd : d = L - n) (he : e = d + m) (hm : n < m) (hsize : L + m < 5864062014805) :
    Calls Try.prog 79 #[u9000_, .int .i64 (i : Int), .int .i64 (n : Int), .slice A3 m c3] w fun e w' => ∃ v0_ : Value, e = .returned (v0_) ∧ Kd.R k91 91 w' w0.heap.size (fun k_ => (P0_ k_ ∨ w.heap.size ≤ k_)) v0_ (l0.take i ++ l3 ++ l0.drop b) ∧ Below w0.heap.size w0 w' ∧ Kept w w' (fun k_ => P0_ k_) := by
  have hu := Try.underlying74
  have hz : (Try.prog.info? 91).map (·.size) = some 2 := by kernel_rfl
  obtain ⟨A0, c0, rfl⟩ := Kd.R_slice ho0
  rw [← hL] at ho0 ⊢
  have hwa : IntKind.i64.wrap ((i : Int) + (m : Int)) = (a : Int) := by rw [IntKind.wrap_i64]; omega
  have hwb : IntKind.i64.wrap ((i : Int) + (n : Int)) = (b : Int) := by rw [IntKind.wrap_i64]; omega
  have hwd : IntKind.i64.wrap ((L : Int) - (n : Int)) = (d : Int) := by rw [IntKind.wrap_i64]; omega
  have hwe : IntKind.i64.wrap ((d : Int) + (m : Int)) = (e : Int) := by rw [IntKind.wrap_i64]; omega
  have hne : ((m : Int) == (n : Int)) = false := beq_eq_false_iff_ne.2 (by omega)
  have hlt : decide ((m : Int) < (n : Int)) = false := decide_eq_false (by omega)
  have hlt2 : ¬ m < n := by omega
  have hce : d + m = e := by omega
  have hO := Aside0.mk (Kd.R_mono (ok' := fun k_ => P0_ k_ ∨ w.heap.size ≤ k_) ho0 (fun k hk => .inl hk))
  have hB' := Aside0.mk hB
  have hr3' := Aside0.mk hr3
  have F1 := Aside0.mk (And.intro ha (And.intro hb (And.intro hbl (And.intro hd (And.intro he (And.intro hm hsize))))))
  have F2 := Aside0.mk (And.intro hL hm3)
  clear ha hb hbl hd he hm hsize ho0 hB hr3 hL hm3
  go_enter Try.func79, Try.ntmps79
  go_wp2
  go_loopg [0] (m - n + 1) (fun kq v0 w' => ∃ (j : Nat), Aside0 (j + kq = m - n + 1 ∧ j ≤ m - n) ∧ Aside0 (Kd.R k91 91 w' w0.heap.size (fun k_ => P0_ k_ ∨ w.heap.size ≤ k_) v0 (l0 ++ List.replicate j z91)) ∧ Aside0 (Below w0.heap.size w0 w') ∧ Aside0 (Kept w w' P0_))
  case atStart => exact ⟨0, ⟨by omega, by omega⟩, ⟨by simpa using hO.out⟩, hB', ⟨Kept.refl _ _⟩⟩
  case round =>
    obtain ⟨j, HJ, HO, HB, HK⟩ := hrel
    have hlen : (l0 ++ List.replicate j z91).length = L + j := by rw [List.length_append, List.length_replicate, ← F2.out.1]
    obtain ⟨A, c, rfl⟩ := Kd.R_slice HO.out
    rw [hlen] at HO ⊢
    by_cases c1 : j < m - n
    · have c2 : ((L + j : Nat) : Int) < (e : Int) := by have := F1.out; omega
      have c3 : L + j < e := by omega
      have CC := Aside0.mk c1
      clear c1
      go_wp2_with ((with_reducible refine gate_builtin (b := .append) (xs := #[.tmp 78, .tmp 80]) rfl ?_); at_builtin; refine Kd.R_append k91 (w0 := w0) w0.heap.size rfl (.tmp 78) (.tmp 80) 74 91 (.agg #[(.int .i8 0), (.string ⟨#[]⟩)]) 24 rfl Try.underlying74 info91 rfl (by decide) (by omega) (.slice A (L + j) c) (l0 ++ List.replicate j z91) z91 [.int .i8 0, .string ⟨#[]⟩] (fun k_ => P0_ k_ ∨ w.heap.size ≤ k_) (fun _ => False) rfl (by first | (go_simp; done) | (go_simp; rfl)) ?aP (fun _ hk => hk.elim) ?aF ?aO ?aB ?aS ?aL ?_; (case aP => exact k91_mkM _ _ _ z91); (case aB => exact HB.out); (case aF => exact (fun _ hk => .inr (Nat.le_trans HK.out.1 hk))); (case aO => exact HO.out); (case aS => exact HB.out.size); (case aL => (rw [hlen]; have := F1.out; have := CC.out; omega)); intro v1 w8 ho hb hg hat; have n0_ := Aside0.mk ho; have n1_ := Aside0.mk hb; have n2_ := Aside0.mk (HK.out.of_grown hg (fun k hk => HO.out.1 k hk)); clear ho hb hg hat)
      go_roundg (gk - 1)
      case measure => have := HJ.out; have := CC.out; omega
      case rel => exact ⟨j + 1, ⟨by have := HJ.out; have := CC.out; omega, by have := CC.out; omega⟩, ⟨by have h := n0_.out; rw [List.append_assoc, ← List.replicate_succ'] at h; exact h⟩, n1_, n2_⟩
    · obtain ⟨f1, f2, f3, f4, f5, f6, f7⟩ := F1.out
      obtain ⟨f8, f9⟩ := F2.out
      have hj : j = m - n := by have := HJ.out; omega
      have hLj : L + j = e := by omega
      rw [hLj] at HO hlen ⊢
      rcases diffmatchpatch_splice.raw HO.out with ⟨_, h0⟩ | ⟨g, cap, cur, hv, q1, q2, q3, q4, q5, q6, q7⟩
      · rw [h0] at hlen; simp at hlen; omega
      rw [hlen] at hv q4 q7
      simp only [Value.slice.injEq] at hv
      obtain ⟨rfl, _, rfl⟩ := hv
      have hll : cur.toList.length = c * 2 := by rw [Array.length_toList]; omega
      obtain ⟨cs2, hc2⟩ : ∃ x : List Value, x = (cur.toList.drop (b * 2)).take ((L - b) * 2) := ⟨_, rfl⟩
      obtain ⟨cs, hcs⟩ : ∃ x : List Value, x = l3.flatMap diffmatchpatch_splice.enc := ⟨_, rfl⟩
      have l2 : cs2.length = (L - b) * 2 := by rw [hc2]; simp; omega
      have l1 : cs.length = m * 2 := by rw [hcs, enc2_length diffmatchpatch_splice.enc_two, ← f9]
      have ec2 : cs2 = (l0.drop b).flatMap diffmatchpatch_splice.enc := by
        have h : (cur.toList.take (e * 2)).drop (b * 2) = ((l0 ++ List.replicate j z91).drop b).flatMap diffmatchpatch_splice.enc := by rw [q7, enc2_drop diffmatchpatch_splice.enc_two]
        rw [hc2]
        have h2 : (cur.toList.drop (b * 2)).take ((L - b) * 2) = ((cur.toList.take (e * 2)).drop (b * 2)).take ((L - b) * 2) := by
          rw [List.drop_take, List.take_take, Nat.min_eq_left (by omega)]
        rw [h2, h, enc2_take diffmatchpatch_splice.enc_two, List.drop_append_of_le_length (by omega), List.take_append_of_le_length (by simp; omega), List.take_of_length_le (by simp; omega)]
      have ei : cur.toList.take (i * 2) = (l0.take i).flatMap diffmatchpatch_splice.enc := by
        have h2 : cur.toList.take (i * 2) = (cur.toList.take (e * 2)).take (i * 2) := by rw [List.take_take, Nat.min_eq_left (by omega)]
        rw [h2, q7, enc2_take diffmatchpatch_splice.enc_two, List.take_append_of_le_length (by omega)]
      have r0 : InRow 91 g (c * 2) (c * 2) cur.toList wr wr.drew := by
        have h := (InRow.start q3 q6 (c * 2)).drew
        rwa [List.take_of_length_le (by omega)] at h
      have r1 := r0.cells (o := a * 2) (vs := cs2) (Nat.le_refl _) (by omega)
      have r2 := r1.cells (o := i * 2) (vs := cs) (Nat.le_refl _) (by omega)
      have r3 := r2.cut (E' := e * 2) (by omega)
      have eX : ((cur.toList.take (a * 2) ++ cs2 ++ cur.toList.drop (a * 2 + cs2.length)).take (i * 2) ++ cs ++ (cur.toList.take (a * 2) ++ cs2 ++ cur.toList.drop (a * 2 + cs2.length)).drop (i * 2 + cs.length)).take (e * 2) = (l0.take i ++ l3 ++ l0.drop b).flatMap diffmatchpatch_splice.enc := by
        have e1 : (cur.toList.take (a * 2) ++ cs2 ++ cur.toList.drop (a * 2 + cs2.length)).take (i * 2) = cur.toList.take (i * 2) := by
          rw [List.append_assoc, List.take_append_of_le_length (by simp; omega), List.take_take, Nat.min_eq_left (by omega)]
        have e2 : (cur.toList.take (a * 2) ++ cs2 ++ cur.toList.drop (a * 2 + cs2.length)).drop (i * 2 + cs.length) = cs2 ++ cur.toList.drop (a * 2 + cs2.length) := by
          rw [List.append_assoc, List.drop_append, List.drop_of_length_le (by simp; omega), List.nil_append]
          have : i * 2 + cs.length - (cur.toList.take (a * 2)).length = 0 := by simp; omega
          rw [this, List.drop_zero]
        rw [e1, e2, ← List.append_assoc, List.take_append_of_le_length (by simp; omega), List.take_of_length_le (by simp; omega), ei, hcs, ec2, List.flatMap_append, List.flatMap_append]
      rw [eX] at r3
      have hg' : P0_ g ∨ w.heap.size ≤ g := q2
      have k1 := r1.kept HK.out hg'
      have hC := hr3'.out _ k1
      obtain ⟨A1, hA1, hA1'⟩ : ∃ A : Addr, (if c = a then some (⟨g, 0, none⟩ : Addr) else some ⟨g, a * 2, none⟩) = some A ∧ (c ≠ a → A = ⟨g, a * 2, none⟩) := by
        by_cases hcb : c = a
        · exact ⟨⟨g, 0, none⟩, by rw [if_pos hcb], fun h => absurd hcb h⟩
        · exact ⟨⟨g, a * 2, none⟩, by rw [if_neg hcb], fun _ => rfl⟩
      have mi : Nat.min (e - b) (e - a) = L - b := (Nat.min_eq_right (by omega)).trans (by omega)
      have mi2 : Nat.min m (e - i) = m := Nat.min_eq_left (by omega)
      have hrun := Aside0.mk (fun ty => run_copy_rows (P := Try.prog) wr.drew 74 74 ty 91 2 (some A1) (some ⟨g, b * 2, none⟩) (e - a) (c - a) (e - b) (c - b) g (a * 2) cs2 hu hz (by rw [mi]; exact l2)
        (fun h => ⟨by rw [hA1' (by omega)], ⟨g, b * 2, none⟩, rfl, fun j v hv => by
          rw [Addr.add_lit]
          refine r0.at_ ?_
          have hj : j < (L - b) * 2 := by have := (List.getElem?_eq_some_iff.1 hv).1; omega
          rw [hc2, List.getElem?_take, if_pos hj, List.getElem?_drop] at hv
          exact hv⟩)
        (fun j hj => r0.is (by omega)) (by rw [ec2]; exact diffmatchpatch_splice.enc_one _))
      have hrun2 := Aside0.mk (fun ty => run_copy_rows (P := Try.prog) (wr.drew.setCells g (a * 2) cs2) 74 74 ty 91 2 (some ⟨g, i * 2, none⟩) A3 (e - i) (c - i) m c3 g (i * 2) cs hu hz (by rw [mi2]; exact l1)
        (fun h => ⟨rfl, by rw [hcs] at h ⊢; exact reads_enc2 diffmatchpatch_splice.enc_two (fun x c h => k91_open h) hC h⟩) (fun j hj => r1.is (by omega)) (by rw [hcs]; exact diffmatchpatch_splice.enc_one _))
      have hpa : (a : Int) ≤ (e : Int) := by omega
      have hpb : (b : Int) ≤ (e : Int) := by omega
      have hpi : (i : Int) ≤ (e : Int) := by omega
      have hcb : ¬ c = b := by omega
      have hci : ¬ c = i := by omega
      have hnn : ¬ e < e := by omega
      have R3 := Aside0.mk r3
      have QQ := Aside0.mk (And.intro q1 (And.intro q2 (And.intro q4 q5)))
      have EE := Aside0.mk (show (l0.take i ++ l3 ++ l0.drop b).length = e by simp; omega)
      clear r0 r1 r2 r3 eX k1 hC q1 q2 q3 q4 q5 q6 q7 f1 f2 f3 f4 f5 f6 f7 f8 f9 hj hLj hll hc2 hcs l1 l2 ec2 ei c1 hlen hA1'
      go_wp2_with fail
      go_region_law (refine step_copy_known rfl (.tmp 87) (.tmp 92) 74 74 rfl _ _ (by simp [Act.eval, Act.put]) (by simp [Act.eval, Act.put]) (hrun.out _) ?_)
      go_wp2_with (refine list_copy_known _ rfl (.tmp 96) (.tmp 97) 74 74 rfl _ _ ?_ ?_ (hrun2.out _) ?_)
      case refine_1 => simp [Act.eval, Act.put]
      case refine_2 => simp [Act.eval, Act.put]
      go_wp2
      go_ret
      obtain ⟨q1, q2, q4, q5⟩ := QQ.out
      exact ⟨_, rfl, diffmatchpatch_splice.ofRow (w := wr) R3.out EE.out.symm q1 q2 q4 q5, R3.out.below HB.out q1, R3.out.kept HK.out hg'⟩
theorem diffmatchpatch_splice.calls (P0_ : Nat → Prop) (u9000_ : Value) (l0 : List S91) (a1 : Int) (a2 : Int) (A3 : Option Addr) (c3 : Nat) (l3 : List S91) (r : List S91) (w0 w : World) (hB : Below w0.heap.size w0 w) (ho0 : Kd.R k91 91 w w0.heap.size P0_ u9000_ l0) (hr3 : ∀ W_, Kept w W_ (fun k_ => P0_ k_) → Kd.C k91 W_ A3 l3.length l3) (hc3 : l3.length ≤ c3) (h : diffmatchpatch_splice.f l0 a1 a2 l3 = some r) :
    Calls Try.prog 79 #[u9000_, .int .i64 a1, .int .i64 a2, .slice A3 l3.length c3] w fun e w' => ∃ v0_ : Value, e = .returned (v0_) ∧ Kd.R k91 91 w' w0.heap.size (fun k_ => (P0_ k_ ∨ w.heap.size ≤ k_)) v0_ r ∧ Below w0.heap.size w0 w' ∧ Kept w w' (fun k_ => P0_ k_) := by
  unfold diffmatchpatch_splice.f at h
  split at h
  · rename_i c
    obtain ⟨h1, h2, h3, h4⟩ := c
    obtain rfl := Option.some.inj h
    obtain ⟨i, rfl⟩ := Int.eq_ofNat_of_zero_le h1
    obtain ⟨n, rfl⟩ := Int.eq_ofNat_of_zero_le h2
    have e1 : ((i : Int) + (n : Int)).toNat = i + n := by omega
    have e2 : ((i : Int)).toNat = i := by omega
    rw [e1, e2]
    rcases Nat.lt_trichotomy l3.length n with hm | hm | hm
    · exact diffmatchpatch_splice.less P0_ u9000_ l0 i n A3 c3 l3 w0 w hB ho0 hr3 (by omega) hm
    · subst hm
      exact diffmatchpatch_splice.same P0_ u9000_ l0 i A3 c3 l3 w0 w hB ho0 hr3 (by omega)
    · exact diffmatchpatch_splice.more P0_ u9000_ l0 i n l0.length (i + l3.length) (i + n) (l0.length - n) (l0.length - n + l3.length) A3 c3 l3 l3.length w0 w hB ho0 hr3 rfl rfl rfl rfl (by omega) rfl rfl hm h4
  · simp at h

end Go.Proofs.Ytomidomdomjkfaa.PT
