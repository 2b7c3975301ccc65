-- Written by this session's own program (wip/tools) out of the translation.
import Derived.Test.YtomidomdomjkfaaPTx0
import Derived.Test.YtomidomdomjkfaaPTx37
import Derived.Test.YtomidomdomjkfaaPTx40
namespace Go.Proofs.Ytomidomdomjkfaa.PT
open Go.RowKit Go.Proofs.YtomidomdomjkfaaW.PrintWords Go.Proofs.YtomidomdomjkfaaW.PrintLast Go.Proofs.YtomidomdomjkfaaW.PrintMore
attribute [local go_sem] max2_int min2_int max_two min_two max_three min_three max_four min_four   -- for this text's walks alone
set_option linter.unusedVariables false
set_option linter.unusedSimpArgs false

/-! ### laws_FnIndexesBack: function 9 -/
mutual
def laws_FnIndexesBack.j1 : Nat → List Int → Option (Bool)
  | 0, _ => none
  | k + 1, x3 => (impl_IndexesToText.f k x3).bind fun t290 => ((impl_TextToIndexes.f k t290).bind fun t291 => (if (t291.length : Int) = (x3.length : Int) then ((impl_TextToIndexes.f k (⟨#[97, 98]⟩ : ByteArray)).bind fun t294 => (laws_FnIndexesBack.j2 k x3 t291 ((t294.length : Int) != 2))) else (laws_FnIndexesBack.j2 k x3 t291 true)))
def laws_FnIndexesBack.j2 : Nat → List Int → List Int → Bool → Option (Bool)
  | 0, _, _, _ => none
  | k + 1, x3, x5, x40 => if x40 = true then (some false) else (laws_FnIndexesBack.l1 k x3 x5 (x3.length : Int) 0)
def laws_FnIndexesBack.l1 : Nat → List Int → List Int → Int → Int → Option (Bool)
  | 0, _, _, _, _ => none
  | k + 1, x3, x5, x42, x43 => if x43 < x42 then (if 0 ≤ x43 then (if x43 < (x3.length : Int) then (if x43 < (x5.length : Int) then (if (rd x3 x43) = (rd x5 x43) then (laws_FnIndexesBack.l1 k x3 x5 x42 (wrap64 (x43 + 1))) else (some false)) else (none)) else (none)) else (none)) else (some true)
def laws_FnIndexesBack.l0 : Nat → List Int → List Int → Int → Option (Bool)
  | 0, _, _, _ => none
  | k + 1, x0, x3, x4 => if x4 < (x0.length : Int) then (if x4 < 60 then (if 0 ≤ x4 then (if x3.length < 35184372088832 then (laws_FnIndexesBack.l0 k x0 (x3 ++ [Int.tmod (rd x0 x4) 1110016]) (wrap64 (x4 + 1))) else (none)) else (none)) else (laws_FnIndexesBack.j1 k x3)) else (laws_FnIndexesBack.j1 k x3)
end
def laws_FnIndexesBack.f (k : Nat) (l0 : List Int) : Option (Bool) := if (l0.length : Int) > 2147483647 then (some true) else (laws_FnIndexesBack.l0 k l0 ([] : List Int) 0)
theorem laws_FnIndexesBack.mono_l : ∀ k, (∀ y0, LeO (laws_FnIndexesBack.j1 k y0) (laws_FnIndexesBack.j1 (k + 1) y0)) ∧ (∀ y0 y1 y2, LeO (laws_FnIndexesBack.j2 k y0 y1 y2) (laws_FnIndexesBack.j2 (k + 1) y0 y1 y2)) ∧ (∀ y0 y1 y2 y3, LeO (laws_FnIndexesBack.l1 k y0 y1 y2 y3) (laws_FnIndexesBack.l1 (k + 1) y0 y1 y2 y3)) ∧ (∀ y0 y1 y2, LeO (laws_FnIndexesBack.l0 k y0 y1 y2) (laws_FnIndexesBack.l0 (k + 1) y0 y1 y2))
  | 0 => ⟨fun _ r h => by simp [laws_FnIndexesBack.j1] at h, fun _ _ _ r h => by simp [laws_FnIndexesBack.j2] at h, fun _ _ _ _ r h => by simp [laws_FnIndexesBack.l1] at h, fun _ _ _ r h => by simp [laws_FnIndexesBack.l0] at h⟩
  | k + 1 => by
    obtain ⟨ih0, ih1, ih2, ih3⟩ := laws_FnIndexesBack.mono_l k
    refine ⟨?_, ?_, ?_, ?_⟩
    · intro y0
      unfold laws_FnIndexesBack.j1
      repeat' first
      | (with_reducible exact ih0 _)
      | (with_reducible exact ih1 _ _ _)
      | (with_reducible exact ih2 _ _ _ _)
      | (with_reducible exact ih3 _ _ _)
      | (with_reducible exact impl_IndexesToText.mono _ _)
      | (with_reducible exact impl_TextToIndexes.mono _ _)
      | (with_reducible exact LeO.refl _)
      | (with_reducible exact LeO.none _)
      | (with_reducible refine LeO.ite ?_ ?_)
      | (with_reducible refine LeO.bind ?_ (fun _ => ?_))
      | exact ih0 _
      | exact ih1 _ _ _
      | exact ih2 _ _ _ _
      | exact ih3 _ _ _
      | exact impl_IndexesToText.mono _ _
      | exact impl_TextToIndexes.mono _ _
      | exact LeO.none _
      | refine LeO.ite ?_ ?_
      | refine LeO.bind ?_ (fun _ => ?_)
    · intro y0 y1 y2
      unfold laws_FnIndexesBack.j2
      repeat' first
      | (with_reducible exact ih0 _)
      | (with_reducible exact ih1 _ _ _)
      | (with_reducible exact ih2 _ _ _ _)
      | (with_reducible exact ih3 _ _ _)
      | (with_reducible exact impl_IndexesToText.mono _ _)
      | (with_reducible exact impl_TextToIndexes.mono _ _)
      | (with_reducible exact LeO.refl _)
      | (with_reducible exact LeO.none _)
      | (with_reducible refine LeO.ite ?_ ?_)
      | (with_reducible refine LeO.bind ?_ (fun _ => ?_))
      | exact ih0 _
      | exact ih1 _ _ _
      | exact ih2 _ _ _ _
      | exact ih3 _ _ _
      | exact impl_IndexesToText.mono _ _
      | exact impl_TextToIndexes.mono _ _
      | exact LeO.none _
      | refine LeO.ite ?_ ?_
      | refine LeO.bind ?_ (fun _ => ?_)
    · intro y0 y1 y2 y3
      unfold laws_FnIndexesBack.l1
      repeat' first
      | (with_reducible exact ih0 _)
      | (with_reducible exact ih1 _ _ _)
      | (with_reducible exact ih2 _ _ _ _)
      | (with_reducible exact ih3 _ _ _)
      | (with_reducible exact impl_IndexesToText.mono _ _)
      | (with_reducible exact impl_TextToIndexes.mono _ _)
      | (with_reducible exact LeO.refl _)
      | (with_reducible exact LeO.none _)
      | (with_reducible refine LeO.ite ?_ ?_)
      | (with_reducible refine LeO.bind ?_ (fun _ => ?_))
      | exact ih0 _
      | exact ih1 _ _ _
      | exact ih2 _ _ _ _
      | exact ih3 _ _ _
      | exact impl_IndexesToText.mono _ _
      | exact impl_TextToIndexes.mono _ _
      | exact LeO.none _
      | refine LeO.ite ?_ ?_
      | refine LeO.bind ?_ (fun _ => ?_)
    · intro y0 y1 y2
      unfold laws_FnIndexesBack.l0
      repeat' first
      | (with_reducible exact ih0 _)
      | (with_reducible exact ih1 _ _ _)
      | (with_reducible exact ih2 _ _ _ _)
      | (with_reducible exact ih3 _ _ _)
      | (with_reducible exact impl_IndexesToText.mono _ _)
      | (with_reducible exact impl_TextToIndexes.mono _ _)
      | (with_reducible exact LeO.refl _)
      | (with_reducible exact LeO.none _)
      | (with_reducible refine LeO.ite ?_ ?_)
      | (with_reducible refine LeO.bind ?_ (fun _ => ?_))
      | exact ih0 _
      | exact ih1 _ _ _
      | exact ih2 _ _ _ _
      | exact ih3 _ _ _
      | exact impl_IndexesToText.mono _ _
      | exact impl_TextToIndexes.mono _ _
      | exact LeO.none _
      | refine LeO.ite ?_ ?_
      | refine LeO.bind ?_ (fun _ => ?_)
theorem laws_FnIndexesBack.mono : ∀ a0 k, LeO (laws_FnIndexesBack.f k a0) (laws_FnIndexesBack.f (k + 1) a0) := by
  intro a0 k
  obtain ⟨ih0, ih1, ih2, ih3⟩ := laws_FnIndexesBack.mono_l k
  unfold laws_FnIndexesBack.f
  repeat' first
      | (with_reducible exact ih0 _)
      | (with_reducible exact ih1 _ _ _)
      | (with_reducible exact ih2 _ _ _ _)
      | (with_reducible exact ih3 _ _ _)
      | (with_reducible exact impl_IndexesToText.mono _ _)
      | (with_reducible exact impl_TextToIndexes.mono _ _)
      | (with_reducible exact LeO.refl _)
      | (with_reducible exact LeO.none _)
      | (with_reducible refine LeO.ite ?_ ?_)
      | (with_reducible refine LeO.bind ?_ (fun _ => ?_))
      | exact ih0 _
      | exact ih1 _ _ _
      | exact ih2 _ _ _ _
      | exact ih3 _ _ _
      | exact impl_IndexesToText.mono _ _
      | exact impl_TextToIndexes.mono _ _
      | exact LeO.none _
      | refine LeO.ite ?_ ?_
      | refine LeO.bind ?_ (fun _ => ?_)
set_option maxHeartbeats 8000000 in
set_option maxRecDepth 100000 in
theorem laws_FnIndexesBack.calls (k : Nat) (A0 : Option Addr) (c0 : Nat) (l0 : List Int) (r : Bool) (w : World) (hr0 : Kd.C (Kd.int .u32) w A0 l0.length l0) (hc0 : l0.length ≤ c0) (h : laws_FnIndexesBack.f k l0 = some r) :
    Calls Try.prog 9 #[.slice A0 l0.length c0] w fun e w' => e = .returned (.bool r) ∧ Below w.heap.size w w' := by
  have HR0 := Aside0.mk hr0
  have HC0 := Aside0.mk hc0
  clear hr0 hc0
  have HB := Aside0.mk (Below.refl w.heap.size w)
  have H : (if (l0.length : Int) > 2147483647 then (some true) else (laws_FnIndexesBack.l0 k l0 ([] : List Int) 0)) = some r := h
  clear h
  by_cases c2 : (l0.length : Int) > 2147483647
  · rw [if_pos c2] at H
    have c2b0 : decide (2147483647 < (l0.length : Int)) = true := decide_eq_true c2
    have c2b1 : decide (2147483647 < l0.length) = true := decide_eq_true (by omega)
    clear c2
    obtain rfl := Option.some.inj H
    go_enter Try.func9, Try.ntmps9
    go_wp2
    repeat (go_quiet (fail); try go_wp2)
    go_ret
    exact ⟨by first | rfl | (simp [errW_none, errW_some] <;> rfl) | (simp [*, errW_none, errW_some] <;> rfl), by repeat (first | (with_reducible first | exact HB.out | apply below_alloc | apply pw_below_drewN | apply below_drew1) | exact HB.out)⟩
  · rw [if_neg c2] at H
    have c2b0 : decide (2147483647 < (l0.length : Int)) = false := decide_eq_false c2
    have c2b1 : decide (2147483647 < l0.length) = false := decide_eq_false (by omega)
    clear c2
    have HC3 := Aside0.mk H
    clear H
    go_enter Try.func9, Try.ntmps9
    go_upto_block 0 with (fail)
    repeat (go_quiet (fail); go_upto_block 0 with (fail))
    go_cut [3] (fun v3 wc => ∃ (kq : Nat) (x3_2 : List Int), Aside0 (laws_FnIndexesBack.j1 kq x3_2 = some r) ∧ Aside0 (kq ≤ k) ∧ Aside0 (Kd.R (Kd.int .u32) 39 wc w.heap.size (fun _ => True) v3 x3_2) ∧ Aside0 (Below w.heap.size w wc))
    case first =>
      have H := HC3.out
      clear HC3
      have H' := Aside0.mk H
      clear H
      go_wp2
      repeat (go_quiet (fail); try go_wp2)
      go_loopg [3, 4] k (fun kq v3 v4 w' => ∃ (x3_1 : List Int) (x4_1 : Int), v4 = .int .i64 x4_1 ∧ Aside0 (laws_FnIndexesBack.l0 kq l0 x3_1 x4_1 = some r) ∧ Aside0 (kq ≤ k) ∧ Aside0 (Kd.R (Kd.int .u32) 39 w' w.heap.size (fun _ => True) v3 x3_1) ∧ Aside0 (Below w.heap.size w w'))
      case atStart => exact ⟨(([] : List Int)), (0), (by first | rfl | (simp; done) | (simp [*]; done)), H', ⟨Nat.le_refl _⟩, ⟨by first | exact Kd.R_nil _ _ _ _ _ | exact Kd.N_nil _ _ _ _ _ | exact Kd.V_nil _ _ _ _ _ | exact Kd.Q_nil _ _ _ _ _ | exact Kd.S_nil _ _ _ _ _⟩, ⟨by repeat (first | (with_reducible first | exact HB.out | apply below_alloc | apply pw_below_drewN | apply below_drew1) | exact HB.out)⟩⟩
      case round =>
        clear H'
        try clear c2
        try clear c2b0
        try clear c2b1
        try clear p2
        obtain ⟨x3_1, x4_1, rfl, HA, HK1, HO_3, HB⟩ := hrel
        cases gk with
        | zero => exact absurd HA.out (by simp [laws_FnIndexesBack.l0])
        | succ k1 =>
          have H := HA.out
          clear HA
          simp only [laws_FnIndexesBack.l0] at H
          by_cases c4 : x4_1 < (l0.length : Int)
          · rw [if_pos c4] at H
            have c4b0 : decide (x4_1 < (l0.length : Int)) = true := decide_eq_true c4
            clear c4
            (first | rw [c4b0] | (simp only [i64_w, i32_w]; rw [c4b0]) | rw [c4b2] | skip)
            by_cases c5 : x4_1 < 60
            · rw [if_pos c5] at H
              have c5b0 : decide (x4_1 < 60) = true := decide_eq_true c5
              clear c5
              by_cases c6 : 0 ≤ x4_1
              · rw [if_pos c6] at H
                have c6b0 : decide (0 ≤ x4_1) = true := decide_eq_true c6
                clear c6
                by_cases c7 : x3_1.length < 35184372088832
                · rw [if_pos c7] at H
                  have LMc7 := Aside0.mk c7
                  clear c7
                  obtain ⟨y287, hy287⟩ : ∃ y_ : List Int, y_ = (x3_1 ++ [Int.tmod (rd l0 x4_1) 1110016]) := ⟨_, rfl⟩
                  replace H : (laws_FnIndexesBack.l0 k1 l0 y287 (wrap64 (x4_1 + 1))) = some r := by first | (rw [hy287]; with_reducible exact H) | (have H2_ := (Option.bind_some _ _).symm.trans H; rw [hy287]; with_reducible exact H2_) | (have H2_ := (Option.bind_some _ _).symm.trans H; with_reducible exact H2_) | with_reducible exact H | (rw [hy287]; exact H) | exact H
                  have Ny287 := Aside0.mk hy287
                  clear hy287
                  have H' := Aside0.mk H
                  clear H
                  have p286 : 0 ≤ (x4_1 : Int) := of_decide_eq_true (by first | (with_reducible assumption) | assumption)
                  have q286 : x4_1 < (l0.length : Int) := of_decide_eq_true (by first | (with_reducible assumption) | assumption)
                  obtain ⟨ad286, e286, hx286_0⟩ := Kd.at_int HR0.out x4_1 p286 q286
                  cases e286
                  replace hx286_0 := (HB.out.cell (World.block_lt_of_cell? w _ hx286_0)).trans hx286_0
                  replace p286 := eq_true p286
                  replace q286 := eq_true q286
                  go_wp2_with (first | ((with_reducible refine gate_builtin (b := .append) (xs := #[.tmp 20, .tmp 26]) rfl ?_); (try (refine gate_guard (by rfl) ?_; dsimp only)); at_builtin; refine Kd.R_append (Kd.int .u32) (w0 := w) w.heap.size rfl (.tmp 20) (.tmp 26) 38 39 (.int .u32 0) 4 rfl Try.underlying38 info39 rfl (by decide) (by omega) u3 x3_1 (Int.tmod (rd l0 x4_1) 1110016) [.int .u32 (Int.tmod (rd l0 x4_1) 1110016)] (fun _ => True) (fun _ => False) rfl rfl ?aP (fun _ hk => hk.elim) ?aF ?aO ?aB ?aS ?aL ?_; (case aP => exact rfl); (case aB => exact (by repeat (first | (with_reducible first | exact HB.out | apply below_alloc | apply pw_below_drewN | apply below_drew1) | exact HB.out))); (case aF => exact (fun _ _ => trivial)); (case aO => exact (by (with_reducible repeat (first | apply Kd.R_alloc | apply Kd.R_drewN | apply Kd.R_drew)); exact HO_3.out)); (case aS => exact (below_size (by repeat (first | (with_reducible first | exact HB.out | apply below_alloc | apply pw_below_drewN | apply below_drew1) | exact HB.out)))); (case aL => have := LMc7.out; omega); intro v288 w8 ho hb hg hat; rw [← Ny287.out] at ho; have n0_ := Aside0.mk (hb); have n1_ := Aside0.mk (ho); clear HB; clear HO_3; have HB := n0_; have HO289 := n1_; clear n0_ n1_; clear ho hb hg hat))
                  repeat (go_quiet (first | ((with_reducible refine gate_builtin (b := .append) (xs := #[.tmp 20, .tmp 26]) rfl ?_); (try (refine gate_guard (by rfl) ?_; dsimp only)); at_builtin; refine Kd.R_append (Kd.int .u32) (w0 := w) w.heap.size rfl (.tmp 20) (.tmp 26) 38 39 (.int .u32 0) 4 rfl Try.underlying38 info39 rfl (by decide) (by omega) u3 x3_1 (Int.tmod (rd l0 x4_1) 1110016) [.int .u32 (Int.tmod (rd l0 x4_1) 1110016)] (fun _ => True) (fun _ => False) rfl rfl ?aP (fun _ hk => hk.elim) ?aF ?aO ?aB ?aS ?aL ?_; (case aP => exact rfl); (case aB => exact (by repeat (first | (with_reducible first | exact HB.out | apply below_alloc | apply pw_below_drewN | apply below_drew1) | exact HB.out))); (case aF => exact (fun _ _ => trivial)); (case aO => exact (by (with_reducible repeat (first | apply Kd.R_alloc | apply Kd.R_drewN | apply Kd.R_drew)); exact HO_3.out)); (case aS => exact (below_size (by repeat (first | (with_reducible first | exact HB.out | apply below_alloc | apply pw_below_drewN | apply below_drew1) | exact HB.out)))); (case aL => have := LMc7.out; omega); intro v288 w8 ho hb hg hat; rw [← Ny287.out] at ho; have n0_ := Aside0.mk (hb); have n1_ := Aside0.mk (ho); clear HB; clear HO_3; have HB := n0_; have HO289 := n1_; clear n0_ n1_; clear ho hb hg hat)); try go_wp2_with (first | ((with_reducible refine gate_builtin (b := .append) (xs := #[.tmp 20, .tmp 26]) rfl ?_); (try (refine gate_guard (by rfl) ?_; dsimp only)); at_builtin; refine Kd.R_append (Kd.int .u32) (w0 := w) w.heap.size rfl (.tmp 20) (.tmp 26) 38 39 (.int .u32 0) 4 rfl Try.underlying38 info39 rfl (by decide) (by omega) u3 x3_1 (Int.tmod (rd l0 x4_1) 1110016) [.int .u32 (Int.tmod (rd l0 x4_1) 1110016)] (fun _ => True) (fun _ => False) rfl rfl ?aP (fun _ hk => hk.elim) ?aF ?aO ?aB ?aS ?aL ?_; (case aP => exact rfl); (case aB => exact (by repeat (first | (with_reducible first | exact HB.out | apply below_alloc | apply pw_below_drewN | apply below_drew1) | exact HB.out))); (case aF => exact (fun _ _ => trivial)); (case aO => exact (by (with_reducible repeat (first | apply Kd.R_alloc | apply Kd.R_drewN | apply Kd.R_drew)); exact HO_3.out)); (case aS => exact (below_size (by repeat (first | (with_reducible first | exact HB.out | apply below_alloc | apply pw_below_drewN | apply below_drew1) | exact HB.out)))); (case aL => have := LMc7.out; omega); intro v288 w8 ho hb hg hat; rw [← Ny287.out] at ho; have n0_ := Aside0.mk (hb); have n1_ := Aside0.mk (ho); clear HB; clear HO_3; have HB := n0_; have HO289 := n1_; clear n0_ n1_; clear ho hb hg hat)))
                  go_roundg k1
                  case measure => have := HK1.out; omega
                  case rel => exact ⟨(y287), (wrap64 (x4_1 + 1)), (by first | rfl | (simp; done) | (simp [*]; done)), H', ⟨by have := HK1.out; omega⟩, ⟨by (with_reducible repeat (first | apply Kd.R_alloc | apply Kd.R_drewN | apply Kd.R_drew)); exact HO289.out⟩, ⟨by repeat (first | (with_reducible first | exact HB.out | apply below_alloc | apply pw_below_drewN | apply below_drew1) | exact HB.out)⟩⟩
                · rw [if_neg c7] at H
                  exact absurd H (by simp)
              · rw [if_neg c6] at H
                exact absurd H (by simp)
            · rw [if_neg c5] at H
              have c5b0 : decide (x4_1 < 60) = false := decide_eq_false c5
              clear c5
              have H' := Aside0.mk H
              clear H
              go_wp2
              repeat (go_quiet (fail); try go_wp2)
              go_meet
              case rel => exact ⟨_, (x3_1), H', ⟨by have := HK1.out; first | omega | exact Nat.le_refl _⟩, ⟨by (with_reducible repeat (first | apply Kd.R_alloc | apply Kd.R_drewN | apply Kd.R_drew)); exact HO_3.out⟩, ⟨by repeat (first | (with_reducible first | exact HB.out | apply below_alloc | apply pw_below_drewN | apply below_drew1) | exact HB.out)⟩⟩
          · rw [if_neg c4] at H
            have c4b0 : decide (x4_1 < (l0.length : Int)) = false := decide_eq_false c4
            clear c4
            (first | rw [c4b0] | (simp only [i64_w, i32_w]; rw [c4b0]) | rw [c4b2] | skip)
            have H' := Aside0.mk H
            clear H
            go_wp2
            repeat (go_quiet (fail); try go_wp2)
            go_meet
            case rel => exact ⟨_, (x3_1), H', ⟨by have := HK1.out; first | omega | exact Nat.le_refl _⟩, ⟨by (with_reducible repeat (first | apply Kd.R_alloc | apply Kd.R_drewN | apply Kd.R_drew)); exact HO_3.out⟩, ⟨by repeat (first | (with_reducible first | exact HB.out | apply below_alloc | apply pw_below_drewN | apply below_drew1) | exact HB.out)⟩⟩
    case rest =>
      clear HC3
      try clear c2
      try clear c2b0
      try clear c2b1
      try clear p2
      try clear q2
      try clear hx2
      try clear c4
      try clear c4b0
      try clear c4b2
      try clear c5
      try clear c5b0
      try clear c6
      try clear c6b0
      try clear p6
      try clear c7
      try clear hx286_0
      try clear p2
      try clear p286
      try clear q286
      obtain ⟨kq, x3_2, HA, HJ2, HO_3, HB⟩ := hcut
      cases kq with
      | zero => exact absurd HA.out (by simp [laws_FnIndexesBack.j1])
      | succ kj2 =>
        have H := HA.out
        clear HA
        simp only [laws_FnIndexesBack.j1] at H
        replace H := Option.bind_eq_some_iff.mp H
        obtain ⟨t290, A90, H⟩ := H
        replace H : ((impl_TextToIndexes.f kj2 t290).bind fun t291 => (if (t291.length : Int) = (x3_2.length : Int) then ((impl_TextToIndexes.f kj2 (⟨#[97, 98]⟩ : ByteArray)).bind fun t294 => (laws_FnIndexesBack.j2 kj2 x3_2 t291 ((t294.length : Int) != 2))) else (laws_FnIndexesBack.j2 kj2 x3_2 t291 true))) = some r := H
        have A9 := Aside0.mk A90
        clear A90
        replace H := Option.bind_eq_some_iff.mp H
        obtain ⟨t291, A100, H⟩ := H
        replace H : (if (t291.length : Int) = (x3_2.length : Int) then ((impl_TextToIndexes.f kj2 (⟨#[97, 98]⟩ : ByteArray)).bind fun t294 => (laws_FnIndexesBack.j2 kj2 x3_2 t291 ((t294.length : Int) != 2))) else (laws_FnIndexesBack.j2 kj2 x3_2 t291 true)) = some r := H
        have A10 := Aside0.mk A100
        clear A100
        have HC11 := Aside0.mk H
        clear H
        obtain ⟨Ao12, co12, eo12⟩ := Kd.R_slice HO_3.out
        subst eo12
        go_upto_region 9 with (first | (go_at_call 28; (with_reducible refine (impl_IndexesToText.calls kj2 _ _ x3_2 t290 _ ?side1 ?side2 A9.out).mono ?_); (case side1 => repeat (first | exact (Kd.R_reads' HO_3.out).2.2 | (with_reducible refine Kd.C_alloc ?_ _) | (with_reducible refine Kd.C_drewN ?_ _) | (with_reducible refine Kd.C_drew ?_))); (case side2 => exact (Kd.R_reads' HO_3.out).2.1); rintro e w13 ⟨rfl, hb⟩; have n0_ := Aside0.mk (Kd.R_below (by (with_reducible repeat (first | apply Kd.R_alloc | apply Kd.R_drewN | apply Kd.R_drew)); exact HO_3.out) hb); have n1_ := Aside0.mk (below_step (by repeat (first | (with_reducible first | exact HB.out | apply below_alloc | apply pw_below_drewN | apply below_drew1) | exact HB.out)) hb); clear HO_3; clear HB; have HO_3 := n0_; have HB := n1_; clear n0_ n1_; (try clear hb); (try clear hb2); (try clear hk); (try clear hi)) | (go_at_call 27; (with_reducible refine (impl_TextToIndexes.calls kj2 t290 t291 _ A10.out).mono ?_); rintro e w14 ⟨v292, rfl, ho0, hb⟩; have n0_ := Aside0.mk (Kd.R_elder' (by (with_reducible repeat (first | apply Kd.R_alloc | apply Kd.R_drewN | apply Kd.R_drew)); exact HO_3.out) (Kd.R_base ho0) hb); have n1_ := Aside0.mk (Kd.R_lower (Kd.R_new' ho0 (Kd.R_lt (by (with_reducible repeat (first | apply Kd.R_alloc | apply Kd.R_drewN | apply Kd.R_drew)); exact HO_3.out))) (below_size (by repeat (first | (with_reducible first | exact HB.out | apply below_alloc | apply pw_below_drewN | apply below_drew1) | exact HB.out)))); have n2_ := Aside0.mk (below_step (by repeat (first | (with_reducible first | exact HB.out | apply below_alloc | apply pw_below_drewN | apply below_drew1) | exact HB.out)) hb); clear HO_3; clear HB; have HO_3 := n0_; have HO293 := n1_; have HB := n2_; clear n0_ n1_ n2_; (try clear hb); (try clear hb2); (try clear hk); (try clear hi); (try clear ho0)))
        repeat (go_quiet (first | (go_at_call 28; (with_reducible refine (impl_IndexesToText.calls kj2 _ _ x3_2 t290 _ ?side1 ?side2 A9.out).mono ?_); (case side1 => repeat (first | exact (Kd.R_reads' HO_3.out).2.2 | (with_reducible refine Kd.C_alloc ?_ _) | (with_reducible refine Kd.C_drewN ?_ _) | (with_reducible refine Kd.C_drew ?_))); (case side2 => exact (Kd.R_reads' HO_3.out).2.1); rintro e w13 ⟨rfl, hb⟩; have n0_ := Aside0.mk (Kd.R_below (by (with_reducible repeat (first | apply Kd.R_alloc | apply Kd.R_drewN | apply Kd.R_drew)); exact HO_3.out) hb); have n1_ := Aside0.mk (below_step (by repeat (first | (with_reducible first | exact HB.out | apply below_alloc | apply pw_below_drewN | apply below_drew1) | exact HB.out)) hb); clear HO_3; clear HB; have HO_3 := n0_; have HB := n1_; clear n0_ n1_; (try clear hb); (try clear hb2); (try clear hk); (try clear hi)) | (go_at_call 27; (with_reducible refine (impl_TextToIndexes.calls kj2 t290 t291 _ A10.out).mono ?_); rintro e w14 ⟨v292, rfl, ho0, hb⟩; have n0_ := Aside0.mk (Kd.R_elder' (by (with_reducible repeat (first | apply Kd.R_alloc | apply Kd.R_drewN | apply Kd.R_drew)); exact HO_3.out) (Kd.R_base ho0) hb); have n1_ := Aside0.mk (Kd.R_lower (Kd.R_new' ho0 (Kd.R_lt (by (with_reducible repeat (first | apply Kd.R_alloc | apply Kd.R_drewN | apply Kd.R_drew)); exact HO_3.out))) (below_size (by repeat (first | (with_reducible first | exact HB.out | apply below_alloc | apply pw_below_drewN | apply below_drew1) | exact HB.out)))); have n2_ := Aside0.mk (below_step (by repeat (first | (with_reducible first | exact HB.out | apply below_alloc | apply pw_below_drewN | apply below_drew1) | exact HB.out)) hb); clear HO_3; clear HB; have HO_3 := n0_; have HO293 := n1_; have HB := n2_; clear n0_ n1_ n2_; (try clear hb); (try clear hb2); (try clear hk); (try clear hi); (try clear ho0))); go_upto_region 9 with (first | (go_at_call 28; (with_reducible refine (impl_IndexesToText.calls kj2 _ _ x3_2 t290 _ ?side1 ?side2 A9.out).mono ?_); (case side1 => repeat (first | exact (Kd.R_reads' HO_3.out).2.2 | (with_reducible refine Kd.C_alloc ?_ _) | (with_reducible refine Kd.C_drewN ?_ _) | (with_reducible refine Kd.C_drew ?_))); (case side2 => exact (Kd.R_reads' HO_3.out).2.1); rintro e w13 ⟨rfl, hb⟩; have n0_ := Aside0.mk (Kd.R_below (by (with_reducible repeat (first | apply Kd.R_alloc | apply Kd.R_drewN | apply Kd.R_drew)); exact HO_3.out) hb); have n1_ := Aside0.mk (below_step (by repeat (first | (with_reducible first | exact HB.out | apply below_alloc | apply pw_below_drewN | apply below_drew1) | exact HB.out)) hb); clear HO_3; clear HB; have HO_3 := n0_; have HB := n1_; clear n0_ n1_; (try clear hb); (try clear hb2); (try clear hk); (try clear hi)) | (go_at_call 27; (with_reducible refine (impl_TextToIndexes.calls kj2 t290 t291 _ A10.out).mono ?_); rintro e w14 ⟨v292, rfl, ho0, hb⟩; have n0_ := Aside0.mk (Kd.R_elder' (by (with_reducible repeat (first | apply Kd.R_alloc | apply Kd.R_drewN | apply Kd.R_drew)); exact HO_3.out) (Kd.R_base ho0) hb); have n1_ := Aside0.mk (Kd.R_lower (Kd.R_new' ho0 (Kd.R_lt (by (with_reducible repeat (first | apply Kd.R_alloc | apply Kd.R_drewN | apply Kd.R_drew)); exact HO_3.out))) (below_size (by repeat (first | (with_reducible first | exact HB.out | apply below_alloc | apply pw_below_drewN | apply below_drew1) | exact HB.out)))); have n2_ := Aside0.mk (below_step (by repeat (first | (with_reducible first | exact HB.out | apply below_alloc | apply pw_below_drewN | apply below_drew1) | exact HB.out)) hb); clear HO_3; clear HB; have HO_3 := n0_; have HO293 := n1_; have HB := n2_; clear n0_ n1_ n2_; (try clear hb); (try clear hb2); (try clear hk); (try clear hi); (try clear ho0))))
        (try simp only [Act.put, List.setIfInBounds_toArray, List.set_cons_zero, List.set_cons_succ])
        go_cut [40] (fun v40 wc => ∃ (kq : Nat) (x40_10 : Bool), v40 = .bool x40_10 ∧ Aside0 (laws_FnIndexesBack.j2 kq x3_2 t291 x40_10 = some r) ∧ Aside0 (kq ≤ kj2) ∧ Aside0 (Kd.R (Kd.int .u32) 39 wc w.heap.size (fun k_ => some k_ ≠ (v292 : Value).ownBlock) (.slice Ao12 x3_2.length co12) x3_2) ∧ Aside0 (Kd.R (Kd.int .u32) 39 wc w.heap.size (fun k_ => some k_ ≠ ((.slice Ao12 x3_2.length co12) : Value).ownBlock) v292 t291) ∧ Aside0 (Below w.heap.size w wc))
        case first =>
          have H := HC11.out
          clear HC11
          by_cases c15 : (t291.length : Int) = (x3_2.length : Int)
          · rw [if_pos c15] at H
            have c15b0 : ((t291.length : Int) == (x3_2.length : Int)) = true := beq_iff_eq.mpr c15
            have c15b1 : ((t291.length : Int) != (x3_2.length : Int)) = false := bne_eq_false_iff_eq.mpr c15
            have c15b2 : (t291.length == x3_2.length) = true := by first | simpa using c15 | (simp at c15 ⊢; omega)
            clear c15
            (first | rw [c15b0] | (simp only [i64_w, i32_w]; rw [c15b0]) | rw [c15b2] | skip)
            replace H := Option.bind_eq_some_iff.mp H
            obtain ⟨t294, A160, H⟩ := H
            replace H : (laws_FnIndexesBack.j2 kj2 x3_2 t291 ((t294.length : Int) != 2)) = some r := H
            have A16 := Aside0.mk A160
            clear A160
            have H' := Aside0.mk H
            clear H
            obtain ⟨Ao17, co17, eo17⟩ := Kd.R_slice HO293.out
            subst eo17
            go_wp2_with (first | (go_at_call 27; (with_reducible refine (impl_TextToIndexes.calls kj2 (⟨#[97, 98]⟩ : ByteArray) t294 _ A16.out).mono ?_); rintro e w18 ⟨v295, rfl, ho0, hb⟩; have n0_ := Aside0.mk (Kd.R_elder' (by (with_reducible repeat (first | apply Kd.R_alloc | apply Kd.R_drewN | apply Kd.R_drew)); exact HO_3.out) (Kd.R_base ho0) hb); have n1_ := Aside0.mk (Kd.R_elder' (by (with_reducible repeat (first | apply Kd.R_alloc | apply Kd.R_drewN | apply Kd.R_drew)); exact HO293.out) (Kd.R_base ho0) hb); have n2_ := Aside0.mk (Kd.R_lower (Kd.R_new' (Kd.R_new' ho0 (Kd.R_lt (by (with_reducible repeat (first | apply Kd.R_alloc | apply Kd.R_drewN | apply Kd.R_drew)); exact HO_3.out))) (Kd.R_lt (by (with_reducible repeat (first | apply Kd.R_alloc | apply Kd.R_drewN | apply Kd.R_drew)); exact HO293.out))) (below_size (by repeat (first | (with_reducible first | exact HB.out | apply below_alloc | apply pw_below_drewN | apply below_drew1) | exact HB.out)))); have n3_ := Aside0.mk (below_step (by repeat (first | (with_reducible first | exact HB.out | apply below_alloc | apply pw_below_drewN | apply below_drew1) | exact HB.out)) hb); clear HO_3; clear HO293; clear HB; have HO_3 := n0_; have HO293 := n1_; have HO296 := n2_; have HB := n3_; clear n0_ n1_ n2_ n3_; (try clear hb); (try clear hb2); (try clear hk); (try clear hi); (try clear ho0); obtain ⟨Ao19, co19, eo19⟩ := Kd.R_slice HO296.out; subst eo19))
            repeat (go_quiet (first | (go_at_call 27; (with_reducible refine (impl_TextToIndexes.calls kj2 (⟨#[97, 98]⟩ : ByteArray) t294 _ A16.out).mono ?_); rintro e w18 ⟨v295, rfl, ho0, hb⟩; have n0_ := Aside0.mk (Kd.R_elder' (by (with_reducible repeat (first | apply Kd.R_alloc | apply Kd.R_drewN | apply Kd.R_drew)); exact HO_3.out) (Kd.R_base ho0) hb); have n1_ := Aside0.mk (Kd.R_elder' (by (with_reducible repeat (first | apply Kd.R_alloc | apply Kd.R_drewN | apply Kd.R_drew)); exact HO293.out) (Kd.R_base ho0) hb); have n2_ := Aside0.mk (Kd.R_lower (Kd.R_new' (Kd.R_new' ho0 (Kd.R_lt (by (with_reducible repeat (first | apply Kd.R_alloc | apply Kd.R_drewN | apply Kd.R_drew)); exact HO_3.out))) (Kd.R_lt (by (with_reducible repeat (first | apply Kd.R_alloc | apply Kd.R_drewN | apply Kd.R_drew)); exact HO293.out))) (below_size (by repeat (first | (with_reducible first | exact HB.out | apply below_alloc | apply pw_below_drewN | apply below_drew1) | exact HB.out)))); have n3_ := Aside0.mk (below_step (by repeat (first | (with_reducible first | exact HB.out | apply below_alloc | apply pw_below_drewN | apply below_drew1) | exact HB.out)) hb); clear HO_3; clear HO293; clear HB; have HO_3 := n0_; have HO293 := n1_; have HO296 := n2_; have HB := n3_; clear n0_ n1_ n2_ n3_; (try clear hb); (try clear hb2); (try clear hk); (try clear hi); (try clear ho0); obtain ⟨Ao19, co19, eo19⟩ := Kd.R_slice HO296.out; subst eo19)); try go_wp2_with (first | (go_at_call 27; (with_reducible refine (impl_TextToIndexes.calls kj2 (⟨#[97, 98]⟩ : ByteArray) t294 _ A16.out).mono ?_); rintro e w18 ⟨v295, rfl, ho0, hb⟩; have n0_ := Aside0.mk (Kd.R_elder' (by (with_reducible repeat (first | apply Kd.R_alloc | apply Kd.R_drewN | apply Kd.R_drew)); exact HO_3.out) (Kd.R_base ho0) hb); have n1_ := Aside0.mk (Kd.R_elder' (by (with_reducible repeat (first | apply Kd.R_alloc | apply Kd.R_drewN | apply Kd.R_drew)); exact HO293.out) (Kd.R_base ho0) hb); have n2_ := Aside0.mk (Kd.R_lower (Kd.R_new' (Kd.R_new' ho0 (Kd.R_lt (by (with_reducible repeat (first | apply Kd.R_alloc | apply Kd.R_drewN | apply Kd.R_drew)); exact HO_3.out))) (Kd.R_lt (by (with_reducible repeat (first | apply Kd.R_alloc | apply Kd.R_drewN | apply Kd.R_drew)); exact HO293.out))) (below_size (by repeat (first | (with_reducible first | exact HB.out | apply below_alloc | apply pw_below_drewN | apply below_drew1) | exact HB.out)))); have n3_ := Aside0.mk (below_step (by repeat (first | (with_reducible first | exact HB.out | apply below_alloc | apply pw_below_drewN | apply below_drew1) | exact HB.out)) hb); clear HO_3; clear HO293; clear HB; have HO_3 := n0_; have HO293 := n1_; have HO296 := n2_; have HB := n3_; clear n0_ n1_ n2_ n3_; (try clear hb); (try clear hb2); (try clear hk); (try clear hi); (try clear ho0); obtain ⟨Ao19, co19, eo19⟩ := Kd.R_slice HO296.out; subst eo19)))
            go_meet
            case rel => exact ⟨_, (((t294.length : Int) != 2)), (by first | rfl | (simp; done) | (simp [*]; done)), H', ⟨by have := HJ2.out; first | omega | exact Nat.le_refl _⟩, ⟨by (with_reducible repeat (first | apply Kd.R_alloc | apply Kd.R_drewN | apply Kd.R_drew)); exact Kd.R_mono HO_3.out (fun _ hk => hk.1.2)⟩, ⟨by (with_reducible repeat (first | apply Kd.R_alloc | apply Kd.R_drewN | apply Kd.R_drew)); exact Kd.R_mono HO293.out (fun _ hk => hk.1.2)⟩, ⟨by repeat (first | (with_reducible first | exact HB.out | apply below_alloc | apply pw_below_drewN | apply below_drew1) | exact HB.out)⟩⟩
          · rw [if_neg c15] at H
            have c15b0 : ((t291.length : Int) == (x3_2.length : Int)) = false := beq_eq_false_iff_ne.mpr c15
            have c15b1 : ((t291.length : Int) != (x3_2.length : Int)) = true := bne_iff_ne.mpr c15
            have c15b2 : (t291.length == x3_2.length) = false := by first | simpa using c15 | (simp at c15 ⊢; omega)
            (first | rw [c15b0] | (simp only [i64_w, i32_w]; rw [c15b0]) | rw [c15b2] | skip)
            have H' := Aside0.mk H
            clear H
            obtain ⟨Ao20, co20, eo20⟩ := Kd.R_slice HO293.out
            subst eo20
            go_wp2
            repeat (go_quiet (fail); try go_wp2)
            go_meet
            case rel => exact ⟨_, (true), (by first | rfl | (simp; done) | (simp [*]; done)), H', ⟨by have := HJ2.out; first | omega | exact Nat.le_refl _⟩, ⟨by (with_reducible repeat (first | apply Kd.R_alloc | apply Kd.R_drewN | apply Kd.R_drew)); exact Kd.R_mono HO_3.out (fun _ hk => hk.2)⟩, ⟨by (with_reducible repeat (first | apply Kd.R_alloc | apply Kd.R_drewN | apply Kd.R_drew)); exact Kd.R_mono HO293.out (fun _ hk => hk.2)⟩, ⟨by repeat (first | (with_reducible first | exact HB.out | apply below_alloc | apply pw_below_drewN | apply below_drew1) | exact HB.out)⟩⟩
        case rest =>
          clear HC11
          try clear c1
          try clear c2
          try clear c2b0
          try clear c2b1
          try clear p2
          try clear q2
          try clear hx2
          try clear c4
          try clear c4b0
          try clear c4b2
          try clear c5
          try clear c5b0
          try clear c6
          try clear c6b0
          try clear p6
          try clear c7
          try clear c9
          try clear c15
          try clear c15b0
          try clear c15b1
          try clear c15b2
          try clear hx286_0
          try clear p2
          try clear p286
          try clear p6
          try clear q2
          try clear q286
          obtain ⟨kq, x40_10, rfl, HA, HJ10, HO_3, HO_5, HB⟩ := hcut
          cases kq with
          | zero => exact absurd HA.out (by simp [laws_FnIndexesBack.j2])
          | succ kj10 =>
            have H := HA.out
            clear HA
            simp only [laws_FnIndexesBack.j2] at H
            by_cases c21 : x40_10 = true
            · subst c21
              have H1 : (some false) = some r := by rw [if_pos rfl] at H; exact H
              clear H
              have H := H1
              clear H1
              obtain rfl := Option.some.inj H
              go_wp2
              repeat (go_quiet (fail); try go_wp2)
              go_ret
              exact ⟨by first | rfl | (simp [errW_none, errW_some] <;> rfl) | (simp [*, errW_none, errW_some] <;> rfl), by repeat (first | (with_reducible first | exact HB.out | apply below_alloc | apply pw_below_drewN | apply below_drew1) | exact HB.out)⟩
            · replace c21 := Bool.eq_false_iff.mpr c21
              subst c21
              have H1 : (laws_FnIndexesBack.l1 kj10 x3_2 t291 (x3_2.length : Int) 0) = some r := by rw [if_neg (show ¬ (false = true) by decide)] at H; exact H
              clear H
              have H := H1
              clear H1
              have H' := Aside0.mk H
              clear H
              go_wp2
              repeat (go_quiet (fail); try go_wp2)
              go_loopg [43] kj10 (fun kq v43 w' => ∃ (x43_3 : Int), v43 = .int .i64 x43_3 ∧ Aside0 (laws_FnIndexesBack.l1 kq x3_2 t291 (x3_2.length : Int) x43_3 = some r) ∧ Aside0 (kq ≤ kj10) ∧ Aside0 (Kd.R (Kd.int .u32) 39 w' w.heap.size (fun k_ => some k_ ≠ (v292 : Value).ownBlock) (.slice Ao12 x3_2.length co12) x3_2) ∧ Aside0 (Kd.R (Kd.int .u32) 39 w' w.heap.size (fun k_ => some k_ ≠ ((.slice Ao12 x3_2.length co12) : Value).ownBlock) v292 t291) ∧ Aside0 (Below w.heap.size w w'))
              case atStart => exact ⟨(0), (by first | rfl | (simp; done) | (simp [*]; done)), H', ⟨Nat.le_refl _⟩, ⟨by (with_reducible repeat (first | apply Kd.R_alloc | apply Kd.R_drewN | apply Kd.R_drew)); exact HO_3.out⟩, ⟨by (with_reducible repeat (first | apply Kd.R_alloc | apply Kd.R_drewN | apply Kd.R_drew)); exact HO_5.out⟩, ⟨by repeat (first | (with_reducible first | exact HB.out | apply below_alloc | apply pw_below_drewN | apply below_drew1) | exact HB.out)⟩⟩
              case round =>
                clear H'
                try clear c1
                try clear c2
                try clear c2b0
                try clear c2b1
                try clear p2
                try clear q2
                try clear hx2
                try clear c4
                try clear c4b0
                try clear c4b2
                try clear c5
                try clear c5b0
                try clear c6
                try clear c6b0
                try clear p6
                try clear c7
                try clear c9
                try clear c15
                try clear c15b0
                try clear c15b1
                try clear c15b2
                try clear c21
                try clear hx286_0
                try clear p2
                try clear p286
                try clear p6
                try clear q2
                try clear q286
                obtain ⟨x43_3, rfl, HA, HK3, HO_3, HO_5, HB⟩ := hrel
                cases gk with
                | zero => exact absurd HA.out (by simp [laws_FnIndexesBack.l1])
                | succ k3 =>
                  have H := HA.out
                  clear HA
                  simp only [laws_FnIndexesBack.l1] at H
                  by_cases c22 : x43_3 < (x3_2.length : Int)
                  · rw [if_pos c22] at H
                    have c22b0 : decide (x43_3 < (x3_2.length : Int)) = true := decide_eq_true c22
                    clear c22
                    by_cases c23 : 0 ≤ x43_3
                    · rw [if_pos c23] at H
                      have c23b0 : decide (0 ≤ x43_3) = true := decide_eq_true c23
                      clear c23
                      by_cases c24 : x43_3 < (x3_2.length : Int)
                      · rw [if_pos c24] at H
                        have c24b0 : decide (x43_3 < (x3_2.length : Int)) = true := decide_eq_true c24
                        clear c24
                        by_cases c25 : x43_3 < (t291.length : Int)
                        · rw [if_pos c25] at H
                          have c25b0 : decide (x43_3 < (t291.length : Int)) = true := decide_eq_true c25
                          clear c25
                          by_cases c26 : (rd x3_2 x43_3) = (rd t291 x43_3)
                          · rw [if_pos c26] at H
                            have c26b0 : ((rd x3_2 x43_3) == (rd t291 x43_3)) = true := beq_iff_eq.mpr c26
                            have c26b1 : ((rd x3_2 x43_3) != (rd t291 x43_3)) = false := bne_eq_false_iff_eq.mpr c26
                            clear c26
                            have H' := Aside0.mk H
                            clear H
                            have p297 : 0 ≤ (x43_3 : Int) := of_decide_eq_true (by first | (with_reducible assumption) | assumption)
                            have q297 : x43_3 < (x3_2.length : Int) := of_decide_eq_true (by first | (with_reducible assumption) | assumption)
                            obtain ⟨ad297, e297, hx297_0⟩ := Kd.at_int (Kd.R_reads' HO_3.out).2.2 x43_3 p297 q297
                            cases e297
                            replace p297 := eq_true p297
                            replace q297 := eq_true q297
                            obtain ⟨Ao27, co27, eo27⟩ := Kd.R_slice HO_5.out
                            subst eo27
                            have p298 : 0 ≤ (x43_3 : Int) := of_decide_eq_true (by first | (with_reducible assumption) | assumption)
                            have q298 : x43_3 < (t291.length : Int) := of_decide_eq_true (by first | (with_reducible assumption) | assumption)
                            obtain ⟨ad298, e298, hx298_0⟩ := Kd.at_int (Kd.R_reads' HO_5.out).2.2 x43_3 p298 q298
                            cases e298
                            replace p298 := eq_true p298
                            replace q298 := eq_true q298
                            go_wp2
                            repeat (go_quiet (fail); try go_wp2)
                            go_roundg k3
                            case measure => have := HJ2.out; have := HJ10.out; have := HK3.out; omega
                            case rel => exact ⟨(wrap64 (x43_3 + 1)), (by first | rfl | (simp; done) | (simp [*]; done)), H', ⟨by have := HJ2.out; have := HJ10.out; have := HK3.out; omega⟩, ⟨by (with_reducible repeat (first | apply Kd.R_alloc | apply Kd.R_drewN | apply Kd.R_drew)); exact HO_3.out⟩, ⟨by (with_reducible repeat (first | apply Kd.R_alloc | apply Kd.R_drewN | apply Kd.R_drew)); exact HO_5.out⟩, ⟨by repeat (first | (with_reducible first | exact HB.out | apply below_alloc | apply pw_below_drewN | apply below_drew1) | exact HB.out)⟩⟩
                          · rw [if_neg c26] at H
                            have c26b0 : ((rd x3_2 x43_3) == (rd t291 x43_3)) = false := beq_eq_false_iff_ne.mpr c26
                            have c26b1 : ((rd x3_2 x43_3) != (rd t291 x43_3)) = true := bne_iff_ne.mpr c26
                            obtain rfl := Option.some.inj H
                            have p297 : 0 ≤ (x43_3 : Int) := of_decide_eq_true (by first | (with_reducible assumption) | assumption)
                            have q297 : x43_3 < (x3_2.length : Int) := of_decide_eq_true (by first | (with_reducible assumption) | assumption)
                            obtain ⟨ad297, e297, hx297_0⟩ := Kd.at_int (Kd.R_reads' HO_3.out).2.2 x43_3 p297 q297
                            cases e297
                            replace p297 := eq_true p297
                            replace q297 := eq_true q297
                            obtain ⟨Ao28, co28, eo28⟩ := Kd.R_slice HO_5.out
                            subst eo28
                            have p298 : 0 ≤ (x43_3 : Int) := of_decide_eq_true (by first | (with_reducible assumption) | assumption)
                            have q298 : x43_3 < (t291.length : Int) := of_decide_eq_true (by first | (with_reducible assumption) | assumption)
                            obtain ⟨ad298, e298, hx298_0⟩ := Kd.at_int (Kd.R_reads' HO_5.out).2.2 x43_3 p298 q298
                            cases e298
                            replace p298 := eq_true p298
                            replace q298 := eq_true q298
                            go_wp2
                            repeat (go_quiet (fail); try go_wp2)
                            go_ret
                            exact ⟨by first | rfl | (simp [errW_none, errW_some] <;> rfl) | (simp [*, errW_none, errW_some] <;> rfl), by repeat (first | (with_reducible first | exact HB.out | apply below_alloc | apply pw_below_drewN | apply below_drew1) | exact HB.out)⟩
                        · rw [if_neg c25] at H
                          exact absurd H (by simp)
                      · rw [if_neg c24] at H
                        exact absurd H (by simp)
                    · rw [if_neg c23] at H
                      exact absurd H (by simp)
                  · rw [if_neg c22] at H
                    have c22b0 : decide (x43_3 < (x3_2.length : Int)) = false := decide_eq_false c22
                    clear c22
                    obtain rfl := Option.some.inj H
                    go_wp2
                    repeat (go_quiet (fail); try go_wp2)
                    go_ret
                    exact ⟨by first | rfl | (simp [errW_none, errW_some] <;> rfl) | (simp [*, errW_none, errW_some] <;> rfl), by repeat (first | (with_reducible first | exact HB.out | apply below_alloc | apply pw_below_drewN | apply below_drew1) | exact HB.out)⟩

/-- THE ONE PURE STATEMENT of laws_FnIndexesBack: yours. -/
def laws_FnIndexesBack.Pure : Prop := ∀ (l0 : List Int), l0.length ≤ maxLen → l0.length * 4 ≤ 140737488351232 → (∀ x ∈ l0, (Lit.int .u32 x).wf = true) → ∃ k, laws_FnIndexesBack.f k l0 = some true
theorem laws_FnIndexesBack.walk (P : laws_FnIndexesBack.Pure) (a0 : Option Addr) (len0 cap0 : Nat) (z0 : List Int) (w : World) (w0 : (a0 = none ∧ len0 = 0 ∧ cap0 = 0 ∧ z0 = []) ∨ ∃ x, a0 = some x ∧ len0 ≤ cap0 ∧ cap0 ≤ maxLen ∧ z0.length = cap0 ∧ (∀ i, i < z0.length → w.cell? (x.add i) = some (.int .u32 (z0.getD i 0))) ∧ ∀ n ∈ z0, (Lit.int .u32 n).wf = true) (y0 : len0 * 4 ≤ 140737488351232) :
    Calls Try.prog 9 #[.slice a0 len0 cap0] w fun e w' => e = .returned (.bool true) ∧ Below w.heap.size w w' := by
  obtain ⟨l0, rfl, hr0, hm0, hw0, hc0⟩ := ReadsInt.ofRowC w0
  obtain ⟨k, h⟩ := P l0 hm0 y0 hw0
  refine (laws_FnIndexesBack.calls k _ _ l0 true w (Kd.C_of_reads (d := (0 : Int)) (h1 := fun _ => rfl) hr0) hc0 h).mono ?_
  rintro e w' ⟨rfl, hd⟩
  exact ⟨rfl, hd⟩

end Go.Proofs.Ytomidomdomjkfaa.PT
