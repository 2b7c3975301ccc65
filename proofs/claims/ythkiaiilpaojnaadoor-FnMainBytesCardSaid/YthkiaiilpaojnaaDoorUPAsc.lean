/- Texts of ASCII. -/
import Derived.Test.YthkiaiilpaojnaaDoorUPB
import Derived.Test.YthkiaiilpaojnaaDoorUPLoop
import Derived.Test.YthkiaiilpaojnaaDoorUPUtf
import Derived.Test.YthkiaiilpaojnaaDoorUPEnc
import Derived.Test.YthkiaiilpaojnaaDoorUFB
namespace Go.Proofs.YthkiaiilpaojnaaDoorUF
open Go
set_option linter.unusedVariables false
set_option linter.unusedSimpArgs false
def Asc (l : List Int) : Prop := ∀ b ∈ l, 0 ≤ b ∧ b < 128
theorem Asc.valids {l : List Int} (h : Asc l) : Valids l := fun b hb => by
  have := h b hb
  unfold Utf8.valid; simp; omega
theorem Asc.nil : Asc [] := fun b hb => by cases hb
theorem Asc.append {x y : List Int} (hx : Asc x) (hy : Asc y) : Asc (x ++ y) := fun b hb => (List.mem_append.1 hb).elim (hx b) (hy b)
theorem Asc.take {x : List Int} (hx : Asc x) (k : Nat) : Asc (x.take k) := fun b hb => hx b (List.mem_of_mem_take hb)
theorem Asc.drop {x : List Int} (hx : Asc x) (k : Nat) : Asc (x.drop k) := fun b hb => hx b (List.mem_of_mem_drop hb)
theorem Asc.sub {x y : List Int} (hx : Asc x) (h : ∀ b ∈ y, b ∈ x) : Asc y := fun b hb => hx b (h b hb)
theorem encode_asc {b : Int} (h : 0 ≤ b ∧ b < 128) : bytesOf (Utf8.encode b) = [b] := by
  obtain ⟨k, rfl⟩ := Int.eq_ofNat_of_zero_le h.1
  have hk : k < 128 := by omega
  have hv : Utf8.valid (k : Int) = true := by unfold Utf8.valid; simp; omega
  unfold Utf8.encode
  simp only [hv, if_true, Int.ofNat_eq_natCast, Int.toNat_natCast, hk]
  simp [bytesOf]
  omega
theorem bytes_enc : ∀ {l : List Int}, Asc l → bytesOf (enc l) = l
  | [], _ => rfl
  | b :: l, h => by
    show bytesOf (runesBytes (b :: l)) = _
    rw [runesBytes_cons, bytesOf_append, encode_asc (h b (by simp))]
    have : bytesOf (enc l) = l := bytes_enc fun c hc => h c (by simp [hc])
    show [b] ++ bytesOf (enc l) = _
    rw [this]; rfl
theorem Asc.eq {l : List Int} (h : Asc l) : strOfNums l = enc l := by
  apply bytesOf_inj
  rw [bytes_enc h, bytesOf_strOfNums fun b hb => by have := h b hb; omega]
theorem Asc.size {l : List Int} (h : Asc l) : (enc l).size = l.length := by rw [← bytesOf_length, bytes_enc h]
theorem Asc.byteAt {l : List Int} (h : Asc l) {i : Nat} (hi : i < l.length) : byteAt (enc l) (i : Int) = l[i] := by
  rw [byteAt_rd (by omega) (by rw [h.size]; omega), bytes_enc h, rd_at hi]
theorem Asc.bl {l : List Int} (h : Asc l) : bl (enc l) = l.map fun b => UInt8.ofNat b.toNat := by
  have := h.eq
  rw [← this]
  exact strOfNums_data l
end Go.Proofs.YthkiaiilpaojnaaDoorUF
