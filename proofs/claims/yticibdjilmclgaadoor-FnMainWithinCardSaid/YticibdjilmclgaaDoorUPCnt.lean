/- How many parts a difference has. -/
import Derived.Test.YticibdjilmclgaaDoorUPB
import Derived.Test.YticibdjilmclgaaDoorUPLoop
import Derived.Test.YticibdjilmclgaaDoorUPUtf
import Derived.Test.YticibdjilmclgaaDoorUPEnc
import Derived.Test.YticibdjilmclgaaDoorUPParts
import Derived.Test.YticibdjilmclgaaDoorUPTexts
import Derived.Test.YticibdjilmclgaaDoorUPCmp
import Derived.Test.YticibdjilmclgaaDoorUPMerge
import Derived.Test.YticibdjilmclgaaDoorUPMerge2
import Derived.Test.YticibdjilmclgaaDoorUPTidy
import Derived.Test.YticibdjilmclgaaDoorUPShf
import Derived.Test.YticibdjilmclgaaDoorUFB
namespace Go.Proofs.YticibdjilmclgaaDoorUF
open Go
set_option linter.unusedVariables false
set_option linter.unusedSimpArgs false
def nEq : List Rp → Nat
  | [] => 0
  | d :: l => (if d.1 = 0 then 1 else 0) + nEq l
def cEq : List Rp → Nat
  | [] => 0
  | d :: l => (if d.1 = 0 then d.2.length else 0) + cEq l
theorem len_split : ∀ l : List Rp, l.length = (editsL l).length + nEq l
  | [] => rfl
  | d :: l => by
    have ih := len_split l
    rw [List.length_cons, editsL, nEq]
    by_cases h : d.1 = 0
    · rw [if_pos h, if_pos h]; omega
    · rw [if_neg h, if_neg h, List.length_cons]; omega
theorem cnt_split : ∀ {l : List Rp}, Ops l → (srcR l).length = cEq l + (delsR l).length ∧ (tgtR l).length = cEq l + (inssR l).length ∧ edR l = (delsR l).length + (inssR l).length ∧ (editsL l).length = cdR l + ciR l
  | [], _ => ⟨rfl, rfl, rfl, rfl⟩
  | d :: l, h => by
    obtain ⟨i1, i2, i3, i4⟩ := cnt_split h.cons.2
    unfold srcR tgtR edR editsL delsR inssR cEq cdR ciR
    simp only [List.length_append, i1, i2, i3]
    rcases h.cons.1 with hd | hd | hd <;> simp [hd, i4] <;> omega
theorem cEq_pos : ∀ {l : List Rp}, 0 < cEq l → 0 < nEq l
  | [], h => h
  | d :: l, h => by
    unfold cEq at h
    unfold nEq
    split
    · omega
    · rename_i hd
      rw [if_neg hd] at h
      have := cEq_pos (l := l) (by omega)
      omega
theorem nEq_le : ∀ {l : List Rp}, Full l → nEq l ≤ cEq l
  | [], _ => Nat.le_refl _
  | d :: l, h => by
    have ih := nEq_le h.of_cons.2
    have := List.length_pos_iff.2 h.of_cons.1
    unfold nEq cEq
    split <;> omega
theorem edits_le : ∀ {l : List Rp}, Full l → (editsL l).length ≤ edR l
  | [], _ => Nat.le_refl _
  | d :: l, h => by
    have ih := edits_le h.of_cons.2
    have := List.length_pos_iff.2 h.of_cons.1
    unfold editsL edR
    split
    · omega
    · simp only [List.length_cons]; omega
def sumL : List (Int × Nat) → Nat
  | [] => 0
  | d :: l => d.2 + sumL l
theorem ed_sum : ∀ l : List Rp, edR l = sumL (editsL l)
  | [] => rfl
  | d :: l => by
    unfold edR editsL
    split
    · rw [ed_sum l]; omega
    · rw [ed_sum l]; rfl
/-- Of "ab" and "ac": three parts. -/
theorem three_parts {z : List Rp} {a b c : Int} (ho : Ops z) (hf : Full z) (hs : srcR z = [a, b]) (ht : tgtR z = [a, c]) (he : edR z = 2) : z.length = 3 := by
  obtain ⟨i1, i2, i3, i4⟩ := cnt_split ho
  rw [hs] at i1
  rw [ht] at i2
  simp only [List.length_cons, List.length_nil] at i1 i2
  have h1 := nEq_le hf
  have h2 := @cEq_pos z
  have h3 := edits_le hf
  have h4 := len_split z
  have h5 : cdR z ≠ 0 := fun h => by have := congrArg List.length (dels_nil h); simp only [List.length_nil] at this; omega
  have h6 : ciR z ≠ 0 := fun h => by have := congrArg List.length (inss_nil h); simp only [List.length_nil] at this; omega
  omega
theorem three_loss {z : List Rp} {a b c : Int} (ho : Ok z) (hz : z.length = 3) (hs : srcR z = [a, b]) (ht : tgtR z = [a, c]) (he : edR z = 2) : (lossless z).length = 3 := by
  have hi := @lossless_inv z
  obtain ⟨i1, i2, i3, i4⟩ := cnt_split ho.ops
  obtain ⟨j1, j2, j3, j4⟩ := cnt_split (hi.2.2.2.1 ho).ops
  rw [hi.1, hs] at j1
  rw [hi.2.1, ht] at j2
  rw [hs] at i1
  rw [ht] at i2
  simp only [List.length_cons, List.length_nil] at i1 i2 j1 j2
  have e1 := ed_sum z
  have e2 := ed_sum (lossless z)
  rw [hi.2.2.1] at e2
  have h2 := @cEq_pos (lossless z)
  have h4 := len_split z
  have h5 := len_split (lossless z)
  rw [hi.2.2.1] at h5
  have h6 : cdR z ≠ 0 := fun h => by have := congrArg List.length (dels_nil h); simp only [List.length_nil] at this; omega
  have h7 : ciR z ≠ 0 := fun h => by have := congrArg List.length (inss_nil h); simp only [List.length_nil] at this; omega
  have h8 := hi.2.2.2.2.1
  omega
end Go.Proofs.YticibdjilmclgaaDoorUF
