/- The laws' differences. -/
import Derived.Test.YthkiaiilpaojnaaDoorUPB
import Derived.Test.YthkiaiilpaojnaaDoorUPLoop
import Derived.Test.YthkiaiilpaojnaaDoorUPUtf
import Derived.Test.YthkiaiilpaojnaaDoorUPEnc
import Derived.Test.YthkiaiilpaojnaaDoorUPParts
import Derived.Test.YthkiaiilpaojnaaDoorUPTexts
import Derived.Test.YthkiaiilpaojnaaDoorUPCmp
import Derived.Test.YthkiaiilpaojnaaDoorUPMerge
import Derived.Test.YthkiaiilpaojnaaDoorUPMerge2
import Derived.Test.YthkiaiilpaojnaaDoorUPMergeT
import Derived.Test.YthkiaiilpaojnaaDoorUPDist
import Derived.Test.YthkiaiilpaojnaaDoorUPMain
import Derived.Test.YthkiaiilpaojnaaDoorUPMain2
import Derived.Test.YthkiaiilpaojnaaDoorUGA0
import Derived.Test.YthkiaiilpaojnaaDoorUGA3
import Derived.Test.YthkiaiilpaojnaaDoorUGA4
import Derived.Test.YthkiaiilpaojnaaDoorUGA5
import Derived.Test.YthkiaiilpaojnaaDoorUFB
namespace Go.Proofs.YthkiaiilpaojnaaDoorUF
open Go
set_option linter.unusedVariables false
set_option linter.unusedSimpArgs false
theorem within_ex (n : Nat) (a b c d : Int) : ∃ x, g89 n a b c d = some (x, ()) := by
  dsimp only [g89, g89_1]
  by_cases h1 : a < b
  · rw [bdT h1]; exact ⟨_, rfl⟩
  · rw [bdF h1]
    by_cases h2 : a > c
    · rw [bdT h2]; exact ⟨_, rfl⟩
    · rw [bdF h2]; exact ⟨_, rfl⟩
theorem part_ex (n : Nat) (a : Nat) : ∃ x, g90 n a = some (x, ()) := by
  dsimp only [g90, g90_1]
  generalize (fGt .f64 a (0 : Nat) || fEq .f64 a (0 : Nat)) = c1
  generalize (fLt .f64 a (4607182418800017408 : Nat) || fEq .f64 a (4607182418800017408 : Nat)) = c2
  cases c1 <;> cases c2 <;> exact ⟨_, rfl⟩
theorem dmp_ex (n : Nat) (v) : ∃ p, g62 n (false, v) = some (p, ()) ∧ p.1 = (0 : Int) := by
  dsimp only [g62, g62_1]
  obtain ⟨x1, h1⟩ := within_ex n v.1 0 1000 4
  obtain ⟨x2, h2⟩ := within_ex n v.2.1 0 1048576 1000
  obtain ⟨x3, h3⟩ := part_ex n v.2.2.1
  obtain ⟨x4, h4⟩ := part_ex n v.2.2.2.1
  obtain ⟨x5, h5⟩ := within_ex n v.2.2.2.2.1 1 8 4
  obtain ⟨x6, h6⟩ := within_ex n v.2.2.2.2.2 32 62 32
  rw [bind_some' h1, bind_some' h2, bind_some' h3, bind_some' h4, bind_some' h5, bind_some' h6]
  exact ⟨_, rfl, rfl⟩
theorem dfMainB_ok (n : Nat) (hn : Big ≤ n) (x y : ByteArray) (ln : Bool) (hln : ln = false ∨ (runesOf x).length ≤ 100 ∨ (runesOf y).length ≤ 100 ∨ runesOf x = runesOf y) (hx : x.size ≤ 1000000000) (hy : y.size ≤ 1000000000) (hl : (runesOf x).length + (runesOf y).length ≤ 50000) :
    ∃ l, g39 n x y ln = some (M l, ()) ∧ LD (runesOf x) (runesOf y) l ∧ ((runesOf x = runesOf y ∧ l = eqPart (runesOf x)) ∨ (runesOf x ≠ runesOf y ∧ ∃ z, LD (runesOf x) (runesOf y) z ∧ l = merge z)) := by
  dsimp only [g39, g39_1, g40, g40_1, g40_2]
  obtain ⟨p, hp, hp0⟩ := dmp_ex n ((0 : Int), ((0 : Int), ((0 : Nat), ((0 : Nat), ((0 : Int), (0 : Int))))))
  rw [bind_some' hp]
  have ha := runesOf_valid x
  have hb := runesOf_valid y
  obtain ⟨l, h1, h2, h3⟩ := main_rec n hn p (Int.le_of_eq hp0) ((runesOf x).length + (runesOf y).length) n (runesOf x) (runesOf y) ln hln (Nat.le_refl _) (by omega) (by unfold Big at hn; omega) ha hb
  refine ⟨l, ?_, h2, h3⟩
  dsimp only [g68, g68_1, g94, g94_1]
  rw [room46_ok (by omega), room46_ok (by omega)]
  have h4 : g110 n p (runesOf x) (runesOf y) ln = some (M l, ()) := h1
  have hll := h2.len
  have hls : g45 n (M l) = some (M l, ()) := list_ok n hn l (by omega) h2.ok
  rw [bind_some' h4]
  simp only [Option.bind_some]
  rw [bind_some' hls]
  rfl
theorem dfMainL_ok (n : Nat) (hn : Big ≤ n) (a b : List Int) (ln : Bool) (hln : ln = false ∨ a.length ≤ 100 ∨ b.length ≤ 100 ∨ a = b) (ha : Valids a) (hb : Valids b) (hl : a.length + b.length ≤ 50000) :
    ∃ l, g39 n (enc a) (enc b) ln = some (M l, ()) ∧ LD a b l ∧ ((a = b ∧ l = eqPart a) ∨ (a ≠ b ∧ ∃ x, LD a b x ∧ l = merge x)) := by
  have e1 := enc_size_le a
  have e2 := enc_size_le b
  have := dfMainB_ok n hn (enc a) (enc b) ln (by rw [runes_enc ha, runes_enc hb]; exact hln) (by omega) (by omega) (by rw [runes_enc ha, runes_enc hb]; exact hl)
  rw [runes_enc ha, runes_enc hb] at this
  exact this
theorem dfMain_ok (n : Nat) (hn : Big ≤ n) (a b : List Int) (ha : Valids a) (hb : Valids b) (hl : a.length + b.length ≤ 50000) :
    ∃ l, g39 n (enc a) (enc b) false = some (M l, ()) ∧ LD a b l ∧ ((a = b ∧ l = eqPart a) ∨ (a ≠ b ∧ ∃ x, LD a b x ∧ l = merge x)) := dfMainL_ok n hn a b false (.inl rfl) ha hb hl
end Go.Proofs.YthkiaiilpaojnaaDoorUF
