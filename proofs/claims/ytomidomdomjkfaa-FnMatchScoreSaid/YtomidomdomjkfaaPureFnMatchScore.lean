/- impl.MatchScore tells the score of a match as the definition says, for all settings, places and patterns of the law's bounds (law FnMatchScore). -/
import Derived.Test.YtomidomdomjkfaaQFloat
import Derived.Test.YtomidomdomjkfaaPTx42
import Derived.Test.YtomidomdomjkfaaPTx43
import Derived.Test.YtomidomdomjkfaaPTx44
import Derived.Test.YtomidomdomjkfaaPTx45
import Derived.Test.YtomidomdomjkfaaPTx48
import Derived.Test.YtomidomdomjkfaaPTx49
import Derived.Test.YtomidomdomjkfaaPTx50
import Derived.Test.YtomidomdomjkfaaPTx51
import Derived.Test.YtomidomdomjkfaaPTx52
import Derived.Test.YtomidomdomjkfaaPTx53
namespace Go.Proofs.Ytomidomdomjkfaa.Pure
open Go Go.RowKit Go.Proofs.Ytomidomdomjkfaa.PT Go.Proofs.YtomidomdomjkfaaW.PrintWords Go.Proofs.YtomidomdomjkfaaW.PrintLast Ieee
theorem quo_int (a b : Nat) (ha : a < 9007199254740992) (hb : b < 9007199254740992) (h0 : 0 < b) : ∃ m p, floatBits .quo .f64 (floatOfInt .f64 (a : Int)) (floatOfInt .f64 (b : Int)) = some (double.nearest false m p) := by
  rw [floatOfInt_nat, floatOfInt_nat]
  obtain ⟨m, p, h1, _⟩ := read_small a ha
  obtain ⟨n, q, h2, h3⟩ := read_small b hb
  obtain ⟨x, y, h4⟩ := quo_nn (m := m) (p := p) (n := n) (q := q) (by intro h; have := h3.1 h; omega) (double.fractionBits + 2)
  refine ⟨x, y, ?_⟩
  show Format.div double _ _ = _
  unfold Format.div
  rw [h1, h2, h4]
  rfl
theorem add_nn (m n : Nat) (p q : Int) : ∃ d, floatBits .add .f64 (double.nearest false m p) (double.nearest false n q) = some (double.write d) ∧ Nn d := by
  obtain ⟨d, h1, h2⟩ := sum_nn (read_nearest m p) (read_nearest n q)
  refine ⟨d, ?_, h2⟩
  show Format.add double _ _ = _
  unfold Format.add
  rw [h1]; rfl
theorem self_eq {d : Datum} (h : Nn d) : (FloatKind.f64.format.order (double.write d) (double.write d) == some .eq) = true := by
  show (Format.order double _ _ == some .eq) = true
  unfold Format.order
  rw [order_self (write_nn h)]; rfl
theorem order_zero (n : Nat) (h : n < 9007199254740992) : (FloatKind.f64.format.order (double.nearest false n 0) 0 == some .eq) = true ↔ n = 0 := by
  show (Format.order double _ _ == some .eq) = true ↔ _
  unfold Format.order
  obtain ⟨m, p, h1, h2⟩ := read_small n h
  have hz : double.read 0 = .number false 0 (-1074) := by decide
  rw [h1, hz]
  simp only [Datum.order, signed, Bool.false_eq_true, if_false, Nat.zero_shiftLeft]
  rw [← h2]
  constructor
  · intro h3
    have h4 : compare ((m <<< (p - min p (-1074)).toNat : Nat) : Int) ((0 : Nat) : Int) = .eq := by simpa using h3
    rw [Int.compare_eq_eq] at h4
    have h5 : m <<< (p - min p (-1074)).toNat = 0 := by omega
    rw [Nat.shiftLeft_eq] at h5
    rcases Nat.mul_eq_zero.1 h5 with h6 | h6
    · exact h6
    · have := Nat.two_pow_pos (p - min p (-1074)).toNat; omega
  · rintro rfl
    simp
/-- The score, and that it is no NaN. -/
theorem score_same (dist e far size : Nat) (hd : dist ≤ 1048576) (he : e ≤ 1000) (hf : far ≤ 1073741824) (hs : size ≤ 1000) (h1 : 1 ≤ size) (found at_ : Int) (hfar : (at_ - found).natAbs = far) (hr : -9223372036854775808 ≤ at_ - found ∧ at_ - found < 9223372036854775808) (s0 s1 : Int) (s3 : Nat) (s4 s5 : Int) (s6 : Nat) (pat : ByteArray) (hp : pat.size = size) :
    ∃ d, Nn d ∧ diffmatchpatch_DiffMatchPatch_matchBitapScore.f s0 s1 (dist : Int) s3 s4 s5 s6 (e : Int) found at_ pat = some (double.write d, s0, s1, (dist : Int), s3, s4, s5, s6) ∧
      (∀ (b : Bool) (y1 y2 : Int) (y3 y4 : Nat) (y5 y6 : Int), Ev (fun k => spec_Score.j0 k (e : Int) (size : Int) (far : Int) b y1 (dist : Int) y3 y4 y5 y6) (double.write d)) := by
  obtain ⟨m, p, q1⟩ := quo_int e size (by omega) (by omega) (by omega)
  have ab : math_Abs.f (floatOfInt .f64 (wrap64 (at_ - found))) = some (double.nearest false far 0) := by
    unfold math_Abs.f
    have hw : floatOfInt .f64 (at_ - found) < 18446744073709551616 := by
      have := double.nearest_lt (decide (at_ - found < 0)) (at_ - found).natAbs 0
      exact this
    rw [w64 hr.1 hr.2, if_pos hw, floatOfInt_abs, hfar, floatOfInt_nat]
  unfold diffmatchpatch_DiffMatchPatch_matchBitapScore.f
  rw [hp, q1, ab]
  simp only [Option.bind_some]
  rcases Nat.eq_zero_or_pos dist with rfl | hd0
  · rw [if_pos (by rfl)]
    by_cases hz : far = 0
    · refine ⟨.number false m p, .inl ⟨m, p, rfl⟩, ?_, ?_⟩
      · rw [if_pos ((order_zero far (by omega)).2 hz)]; rfl
      · intro b y1 y2 y3 y4 y5 y6
        refine Ev.step (fun k => by simp only [spec_Score.j0]; rfl) ?_
        refine Ev.bindC q1 (Ev.iteF (by omega) (Ev.iteT (by omega) (Ev.now _)))
    · refine ⟨.number false 1 0, .inl ⟨1, 0, rfl⟩, ?_, ?_⟩
      · rw [if_neg (fun h => hz ((order_zero far (by omega)).1 h))]
        have : double.write (.number false 1 0) = 4607182418800017408 := by decide +kernel
        rw [this]
      · intro b y1 y2 y3 y4 y5 y6
        have : double.write (.number false 1 0) = 4607182418800017408 := by decide +kernel
        rw [this]
        refine Ev.step (fun k => by simp only [spec_Score.j0]; rfl) ?_
        refine Ev.bindC q1 (Ev.iteF (by omega) (Ev.iteF (by omega) (Ev.now _)))
  · rw [if_neg (by omega)]
    obtain ⟨n, q, q2⟩ := quo_int far dist (by omega) (by omega) hd0
    have q2' := q2
    rw [floatOfInt_nat far] at q2'
    obtain ⟨d, q3, q4⟩ := add_nn m n p q
    refine ⟨d, q4, ?_, ?_⟩
    · rw [q2']; simp only [Option.bind_some]; rw [q3]; rfl
    · intro b y1 y2 y3 y4 y5 y6
      refine Ev.step (fun k => by simp only [spec_Score.j0]; rfl) ?_
      exact Ev.bindC q1 (Ev.iteT (by omega) (Ev.bindC q2 (Ev.bindC q3 (Ev.now _))))
theorem usable (b : Bool) (y1 y2 : Int) (y3 y4 : Nat) (y5 y6 : Int) : spec_Usable.f b y1 y2 y3 y4 y5 y6 = some false ∨ (spec_Usable.f b y1 y2 y3 y4 y5 y6 = some true ∧ 0 ≤ y2 ∧ y2 ≤ 1048576 ∧ ∃ x0 : Int, impl_dmp.f b y1 y2 y3 y4 y5 y6 = some (x0, y1, y2, y4, y5, y6, y3)) := by
  unfold spec_Usable.f
  by_cases c1 : y1 ≥ 0
  rotate_left
  · left; rw [if_neg c1]
  by_cases c2 : y1 ≤ 1000
  rotate_left
  · left; rw [if_pos c1, if_neg c2]
  by_cases c3 : y2 ≥ 0
  rotate_left
  · left; rw [if_pos c1, if_pos c2, if_neg c3]
  by_cases c4 : y2 ≤ 1048576
  rotate_left
  · left; rw [if_pos c1, if_pos c2, if_pos c3, if_neg c4]
  rw [if_pos c1, if_pos c2, if_pos c3, if_pos c4]
  generalize hP3 : (FloatKind.f64.format.order y3 0 == some .gt || FloatKind.f64.format.order y3 0 == some .eq) = p3
  generalize hQ3 : (FloatKind.f64.format.order y3 4607182418800017408 == some .lt || FloatKind.f64.format.order y3 4607182418800017408 == some .eq) = q3
  generalize hP4 : (FloatKind.f64.format.order y4 0 == some .gt || FloatKind.f64.format.order y4 0 == some .eq) = p4
  generalize hQ4 : (FloatKind.f64.format.order y4 4607182418800017408 == some .lt || FloatKind.f64.format.order y4 4607182418800017408 == some .eq) = q4
  cases p3
  · left; rfl
  cases q3
  · left; rfl
  cases p4
  · left; rfl
  cases q4
  · left; rfl
  by_cases c5 : y5 ≥ 1
  rotate_left
  · left; simp [c5]
  by_cases c6 : y5 ≤ 8
  rotate_left
  · left; simp [c5, c6]
  by_cases c7 : y6 ≥ 32
  rotate_left
  · left; simp [c5, c6, c7]
  by_cases c8 : y6 ≤ 62
  rotate_left
  · left; simp [c5, c6, c7, c8]
  right
  refine ⟨by simp [c5, c6, c7, c8], c3, c4, if b = true then 1 else 0, ?_⟩
  have w : ∀ x lo hi d : Int, lo ≤ x → x ≤ hi → impl_within.f x lo hi d = some x := by
    intro x lo hi d h1 h2
    unfold impl_within.f
    rw [if_neg (by omega), if_neg (by omega)]
  have pt : ∀ x, (FloatKind.f64.format.order x 0 == some .gt || FloatKind.f64.format.order x 0 == some .eq) = true → (FloatKind.f64.format.order x 4607182418800017408 == some .lt || FloatKind.f64.format.order x 4607182418800017408 == some .eq) = true → impl_part.f x = some x := by
    intro x h1 h2
    unfold impl_part.f
    rw [if_pos h1, if_pos h2]
  unfold impl_dmp.f
  rw [w y1 0 1000 4 c1 c2, w y2 0 1048576 1000 c3 c4, pt y3 hP3 hQ3, pt y4 hP4 hQ4, w y5 1 8 4 c5 c6, w y6 32 62 32 c7 c8]
  cases b <;> rfl
theorem FnMatchScore : laws_FnMatchScore.Pure := by
  intro b y1 y2 y3 y4 y5 y6 e found at_ pat _ _ _ _ _ _ _ _ _ _
  refine Ev.rounds ?_
  unfold laws_FnMatchScore.f
  have skip : Ev (fun k => laws_FnMatchScore.j0 k e found at_ pat true b y1 y2 y3 y4 y5 y6) true := by
    refine Ev.step (fun k => by simp only [laws_FnMatchScore.j0]; rfl) ?_
    exact Ev.iteT (by simp) (Ev.now _)
  by_cases h0 : (pat.size : Int) > 2147483647
  · exact Ev.iteT h0 (Ev.now _)
  refine Ev.iteF h0 ?_
  rcases usable b y1 y2 y3 y4 y5 y6 with hu | ⟨hu, d0, d1, x0, hd⟩
  · exact Ev.bindC hu (Ev.iteF (by simp) skip)
  refine Ev.bindC hu (Ev.iteT rfl ?_)
  by_cases h1 : (pat.size : Int) < 1
  · exact Ev.iteT h1 skip
  refine Ev.iteF h1 ?_
  by_cases h2 : (pat.size : Int) > 1000
  · exact Ev.iteT h2 skip
  refine Ev.iteF h2 ?_
  by_cases h3 : e < 0
  · exact Ev.iteT h3 skip
  refine Ev.iteF h3 ?_
  by_cases h4 : e > (pat.size : Int)
  · exact Ev.iteT h4 skip
  refine Ev.iteF h4 ?_
  by_cases h5 : found < 0
  · exact Ev.iteT h5 skip
  refine Ev.iteF h5 ?_
  by_cases h6 : at_ < 0
  · exact Ev.iteT h6 skip
  refine Ev.iteF h6 ?_
  by_cases h7 : found > 1073741824
  · exact Ev.iteT h7 skip
  refine Ev.iteF h7 ?_
  by_cases h8 : at_ > 1073741824
  · rw [decide_eq_true h8]; exact skip
  rw [decide_eq_false h8]
  obtain ⟨dist, rfl⟩ := Int.eq_ofNat_of_zero_le d0
  obtain ⟨en, rfl⟩ := Int.eq_ofNat_of_zero_le (show 0 ≤ e by omega)
  obtain ⟨d, q1, q2, q3⟩ := score_same dist en (at_ - found).natAbs pat.size (by omega) (by omega) (by omega) (by omega) (by omega) found at_ rfl (by omega) x0 y1 y4 y5 y6 y3 pat rfl
  refine Ev.step (fun k => by simp only [laws_FnMatchScore.j0]; rfl) ?_
  refine Ev.iteF (by simp) ?_
  have hi : impl_MatchScore.f b y1 (dist : Int) y3 y4 y5 y6 (en : Int) found at_ pat = some (double.write d) := by
    unfold impl_MatchScore.f
    rw [hd]
    simp only [Option.bind_some]
    unfold diffmatchpatch_DiffMatchPatch_ZzMatchScore.f
    rw [q2]; rfl
  refine Ev.bindC hi ?_
  have hs : Ev (fun k => spec_Score.f k b y1 (dist : Int) y3 y4 y5 y6 (en : Int) found at_ (pat.size : Int)) (double.write d) := by
    unfold spec_Score.f
    rw [w64 (n := at_ - found) (by omega) (by omega)]
    have q := q3 b y1 0 y3 y4 y5 y6
    by_cases c : at_ - found < 0
    · refine Ev.iteT c ?_
      rw [w64 (by omega) (by omega), show -(at_ - found) = (((at_ - found).natAbs : Nat) : Int) by omega]
      exact q
    · refine Ev.iteF c ?_
      have q' := q
      rw [show (((at_ - found).natAbs : Nat) : Int) = at_ - found by omega] at q'
      exact q'
  refine Ev.bind hs ?_
  rw [self_eq q1]
  exact Ev.now _
end Go.Proofs.Ytomidomdomjkfaa.Pure
