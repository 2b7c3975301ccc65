/- Texts of characters: their bytes are joined, cut, compared as the characters are. -/
import Derived.Test.YthkiaiilpaojnaaDoorUPB
import Derived.Test.YthkiaiilpaojnaaDoorUPUtf
import Derived.Test.YthkiaiilpaojnaaDoorUFB
namespace Go.Proofs.YthkiaiilpaojnaaDoorUF
open Go
set_option linter.unusedVariables false
set_option linter.unusedSimpArgs false
def bl (z : ByteArray) : List UInt8 := z.data.toList
theorem bl_append (x y : ByteArray) : bl (x ++ y) = bl x ++ bl y := by unfold bl; rw [ByteArray.data_append, Array.toList_append]
theorem bl_length (z : ByteArray) : (bl z).length = z.size := rfl
theorem bl_inj {x y : ByteArray} (h : bl x = bl y) : x = y := ba_ext h
/-- A byte within a character. -/
def inner (b : UInt8) : Prop := 128 ≤ b.toNat ∧ b.toNat < 192
theorem enc_shape (r : Int) : ∃ f t, bl (Utf8.encode r) = f :: t ∧ ¬ inner f ∧ ∀ b ∈ t, inner b := by
  have tn : ∀ n : Nat, n < 256 → (UInt8.ofNat n).toNat = n := fun n h => by rw [UInt8.toNat_ofNat']; omega
  have hc : (if Utf8.valid r then r.toNat else Utf8.runeError) < 1114112 := by
    split
    · rename_i h
      unfold Utf8.valid at h
      simp at h
      omega
    · decide
  unfold Utf8.encode
  simp only
  generalize (if Utf8.valid r then r.toNat else Utf8.runeError) = n at hc ⊢
  by_cases h1 : n < 0x80
  · rw [if_pos h1]
    exact ⟨UInt8.ofNat n, [], rfl, by unfold inner; rw [tn n (by omega)]; omega, by simp⟩
  · rw [if_neg h1]
    by_cases h2 : n < 0x800
    · rw [if_pos h2]
      refine ⟨UInt8.ofNat (0xC0 + n / 64), [UInt8.ofNat (0x80 + n % 64)], rfl, by unfold inner; rw [tn _ (by omega)]; omega, ?_⟩
      intro b hb
      simp only [List.mem_cons, List.not_mem_nil, or_false] at hb
      subst hb
      unfold inner; rw [tn _ (by omega)]; omega
    · rw [if_neg h2]
      by_cases h3 : n < 0x10000
      · rw [if_pos h3]
        refine ⟨UInt8.ofNat (0xE0 + n / 4096), [UInt8.ofNat (0x80 + n / 64 % 64), UInt8.ofNat (0x80 + n % 64)], rfl, by unfold inner; rw [tn _ (by omega)]; omega, ?_⟩
        intro b hb
        simp only [List.mem_cons, List.not_mem_nil, or_false] at hb
        rcases hb with rfl | rfl <;> (unfold inner; rw [tn _ (by omega)]; omega)
      · rw [if_neg h3]
        refine ⟨UInt8.ofNat (0xF0 + n / 262144), [UInt8.ofNat (0x80 + n / 4096 % 64), UInt8.ofNat (0x80 + n / 64 % 64), UInt8.ofNat (0x80 + n % 64)], rfl, by unfold inner; rw [tn _ (by omega)]; omega, ?_⟩
        intro b hb
        simp only [List.mem_cons, List.not_mem_nil, or_false] at hb
        rcases hb with rfl | rfl | rfl <;> (unfold inner; rw [tn _ (by omega)]; omega)
abbrev enc (x : List Int) : ByteArray := runesBytes x
theorem bl_enc_cons (r : Int) (x : List Int) : bl (enc (r :: x)) = bl (Utf8.encode r) ++ bl (enc x) := by
  show bl (runesBytes (r :: x)) = _
  rw [runesBytes_cons, bl_append]
theorem enc_append (x y : List Int) : enc (x ++ y) = enc x ++ enc y := runesBytes_append x y
theorem enc_nil : enc [] = (⟨#[]⟩ : ByteArray) := rfl
theorem enc_size_append (x y : List Int) : (enc (x ++ y)).size = (enc x).size + (enc y).size := by rw [enc_append, size_append]
theorem enc_size_cons (r : Int) (x : List Int) : (enc (r :: x)).size = (Utf8.encode r).size + (enc x).size := by
  have := bl_enc_cons r x
  rw [← bl_length, this, List.length_append, bl_length, bl_length]
theorem enc_size_ge : ∀ x : List Int, x.length ≤ (enc x).size
  | [] => Nat.zero_le _
  | r :: x => by
    have h1 := encode_pos r
    have h2 := enc_size_ge x
    rw [enc_size_cons, List.length_cons]; omega
theorem enc_size_le (x : List Int) : (enc x).size ≤ 4 * x.length := runesBytes_size_le x
theorem enc_size_zero {x : List Int} : (enc x).size = 0 ↔ x = [] := by
  constructor
  · intro h
    have := enc_size_ge x
    exact List.eq_nil_of_length_eq_zero (by omega)
  · rintro rfl; rfl
theorem enc_inj {x y : List Int} (hx : Valids x) (hy : Valids y) : enc x = enc y ↔ x = y := ⟨runesBytes_inj hx hy, fun h => by rw [h]⟩
theorem runes_enc {x : List Int} (hx : Valids x) : runesOf (enc x) = x := runes_back x hx
theorem Valids.nil : Valids [] := fun x hx => by cases hx
theorem Valids.cons {r : Int} {x : List Int} (h : Valids (r :: x)) : Utf8.valid r = true ∧ Valids x := ⟨h r (by simp), fun y hy => h y (by simp [hy])⟩
theorem decode_head (r : Int) (x : List Int) (u : ByteArray) (hr : Utf8.valid r = true) : Utf8.decode (enc (r :: x) ++ u) 0 = (r.toNat, (Utf8.encode r).size) := by
  have := decode_encode ByteArray.empty (enc x ++ u) r hr
  have e : enc (r :: x) ++ u = ByteArray.empty ++ Utf8.encode r ++ (enc x ++ u) := by
    apply bl_inj
    simp only [bl_append, bl_enc_cons, List.append_assoc]
    rfl
  rw [e]; exact this
theorem valid_nonneg {r : Int} (h : Utf8.valid r = true) : 0 ≤ r ∧ r < 1114112 := by unfold Utf8.valid at h; simp at h; omega
/-- A text that begins with another's bytes begins with its characters. -/
theorem pre_of_bytes : ∀ {a b : List Int} {u : ByteArray}, Valids a → Valids b → enc a = enc b ++ u → ∃ c, a = b ++ c ∧ u = enc c
  | a, [], u, ha, hb, h => ⟨a, rfl, by
      have := congrArg bl h
      rw [bl_append] at this
      exact (bl_inj (this.trans rfl)).symm⟩
  | [], r :: b, u, ha, hb, h => by
    have := congrArg bl h
    obtain ⟨f, t, h1, _⟩ := enc_shape r
    rw [bl_append, bl_enc_cons, h1] at this
    cases this
  | s :: a, r :: b, u, ha, hb, h => by
    have h1 := decode_head s a ByteArray.empty ha.cons.1
    have h2 := decode_head r b u hb.cons.1
    have e : enc (s :: a) ++ ByteArray.empty = enc (s :: a) := by apply bl_inj; rw [bl_append]; show _ ++ [] = _; simp
    rw [e, h] at h1
    rw [h1] at h2
    have hs := valid_nonneg ha.cons.1
    have hr := valid_nonneg hb.cons.1
    have hsr : s = r := by have := (Prod.mk.inj h2).1; omega
    subst hsr
    have h3 : enc a = enc b ++ u := by
      have := congrArg bl h
      rw [bl_append, bl_enc_cons, bl_enc_cons, List.append_assoc] at this
      have := List.append_cancel_left this
      exact bl_inj (this.trans (bl_append _ _).symm)
    obtain ⟨c, hc, hu⟩ := pre_of_bytes ha.cons.2 hb.cons.2 h3
    exact ⟨c, by rw [hc]; rfl, hu⟩
/-- A place in a text at which no byte within a character stands is a place between characters. -/
theorem split_at : ∀ {a : List Int} {u v : ByteArray}, enc a = u ++ v → (∀ f t, bl v = f :: t → ¬ inner f) → ∃ b c, a = b ++ c ∧ u = enc b ∧ v = enc c
  | [], u, v, h, hv => by
    have := congrArg bl h
    rw [bl_append] at this
    have h1 : bl u = [] ∧ bl v = [] := by
      have : bl u ++ bl v = [] := this.symm.trans rfl
      simpa using this
    exact ⟨[], [], rfl, bl_inj (h1.1.trans rfl), bl_inj (h1.2.trans rfl)⟩
  | r :: a, u, v, h, hv => by
    by_cases hu : bl u = []
    · refine ⟨[], r :: a, rfl, bl_inj (hu.trans rfl), ?_⟩
      apply bl_inj
      have := congrArg bl h
      rw [bl_append, hu] at this
      exact this.symm
    · have hh := congrArg bl h
      rw [bl_append, bl_enc_cons] at hh
      obtain ⟨f, t, h1, h2, h3⟩ := enc_shape r
      rcases List.append_eq_append_iff.1 hh with ⟨w, hw1, hw2⟩ | ⟨w, hw1, hw2⟩
      · -- u begins with r's bytes
        obtain ⟨b, c, e1, e2, e3⟩ := split_at (a := a) (u := ⟨⟨w⟩⟩) (v := v) (by apply bl_inj; rw [bl_append]; exact hw2) hv
        refine ⟨r :: b, c, by rw [e1]; rfl, ?_, e3⟩
        apply bl_inj
        rw [hw1, bl_enc_cons, ← e2]; rfl
      · cases w with
        | nil =>
          obtain ⟨b, c, e1, e2, e3⟩ := split_at (a := a) (u := ⟨⟨[]⟩⟩) (v := v) (by apply bl_inj; rw [bl_append]; exact hw2.symm) hv
          refine ⟨r :: b, c, by rw [e1]; rfl, ?_, e3⟩
          apply bl_inj
          rw [bl_enc_cons, ← e2, hw1, List.append_nil]
          show bl u = bl u ++ []
          simp
        | cons x w =>
          exfalso
          have hx := hv x (w ++ bl (enc a)) hw2
          rw [h1] at hw1
          cases hbu : bl u with
          | nil => exact hu hbu
          | cons y l =>
            rw [hbu] at hw1
            simp only [List.cons_append, List.cons.injEq] at hw1
            exact hx (h3 x (by rw [hw1.2]; simp))
theorem suf_of_bytes {a b : List Int} {u : ByteArray} (ha : Valids a) (hb : Valids b) (h : enc a = u ++ enc b) : ∃ c, a = c ++ b ∧ u = enc c := by
  obtain ⟨c, d, h1, h2, h3⟩ := split_at h (fun f t hf => by
    cases b with
    | nil => cases (show ([] : List UInt8) = f :: t from hf)
    | cons r b =>
      obtain ⟨f', t', g1, g2, _⟩ := enc_shape r
      rw [bl_enc_cons, g1] at hf
      simp only [List.cons_append, List.cons.injEq] at hf
      rw [← hf.1]; exact g2)
  subst h1
  have : b = d := runesBytes_inj hb (fun x hx => ha x (by simp [hx])) h3
  subst this
  exact ⟨c, rfl, h2⟩
theorem cutS_append_left (x y : ByteArray) : cutS (x ++ y) 0 (x.size : Int) = x := by
  apply bytesOf_inj
  rw [bytesOf_cutS, bytesOf_append, cut_from]
  simp [← bytesOf_length]
theorem cutS_append_right (x y : ByteArray) : cutS (x ++ y) (x.size : Int) ((x ++ y).size : Int) = y := by
  apply bytesOf_inj
  rw [bytesOf_cutS, bytesOf_append, cut_to _ _ _ (by rw [← bytesOf_length, bytesOf_append]; simp)]
  simp [← bytesOf_length]
theorem cutS_all (x : ByteArray) : cutS x 0 (x.size : Int) = x := by
  apply bytesOf_inj
  rw [bytesOf_cutS, cut_from]
  simp [← bytesOf_length]
theorem strEq_enc {x y : List Int} (hx : Valids x) (hy : Valids y) : strEq (enc x) (enc y) = decide (x = y) := by
  rw [strEq_eq]; congr 1; exact propext (enc_inj hx hy)
end Go.Proofs.YthkiaiilpaojnaaDoorUF
