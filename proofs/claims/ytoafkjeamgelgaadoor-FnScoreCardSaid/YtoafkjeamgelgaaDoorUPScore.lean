/- How good a boundary between two texts of ASCII is: the program and the definition say the same. -/
import Derived.Test.YtoafkjeamgelgaaDoorUPB
import Derived.Test.YtoafkjeamgelgaaDoorUPLoop
import Derived.Test.YtoafkjeamgelgaaDoorUPUtf
import Derived.Test.YtoafkjeamgelgaaDoorUPEnc
import Derived.Test.YtoafkjeamgelgaaDoorUPSuf
import Derived.Test.YtoafkjeamgelgaaDoorUPAsc
import Derived.Test.YtoafkjeamgelgaaDoorUGA0
import Derived.Test.YtoafkjeamgelgaaDoorUGA1
import Derived.Test.YtoafkjeamgelgaaDoorUFB
import Derived.Lib.TrimAscii
namespace Go.Proofs.YtoafkjeamgelgaaDoorUF
open Go
set_option linter.unusedVariables false
set_option linter.unusedSimpArgs false
def letter (c : Int) : Bool := decide ((97 ≤ c ∧ c ≤ 122) ∨ (65 ≤ c ∧ c ≤ 90) ∨ (48 ≤ c ∧ c ≤ 57))
def space (c : Int) : Bool := decide (c = 32 ∨ c = 9 ∨ c = 10 ∨ c = 13 ∨ c = 12)
def brk (c : Int) : Bool := decide (c = 10 ∨ c = 13)
def blankE (l : List Int) : Bool := decide ([10, 10] <:+ l) || decide ([10, 13, 10] <:+ l)
def scoreL (e : Bool) (a b : Int) : Int := if e = true then 5 else if (brk a || brk b) = true then 4 else if (!letter a && !space a && space b) = true then 3 else if (space a || space b) = true then 2 else if (!letter a || !letter b) = true then 1 else 0
def score (x y : List Int) : Int := if x = [] ∨ y = [] then 6 else scoreL (blankE x) (x.getLastD 0) (y.headD 0)
theorem suf2 (u : List Int) (a b : Int) : [10, 10] <:+ u ++ [a, b] ↔ a = 10 ∧ b = 10 := by
  rw [← List.reverse_prefix]; simp; constructor <;> (rintro ⟨rfl, rfl⟩; exact ⟨rfl, rfl⟩)
theorem suf3 (u : List Int) (c a b : Int) : [10, 13, 10] <:+ u ++ [c, a, b] ↔ c = 10 ∧ a = 13 ∧ b = 10 := by
  rw [← List.reverse_prefix]; simp; constructor <;> (rintro ⟨rfl, rfl, rfl⟩; exact ⟨rfl, rfl, rfl⟩)
theorem suf_short {p l : List Int} (h : l.length < p.length) : ¬ p <:+ l := fun hp => by have := hp.length_le; omega
theorem letter_ok (n : Nat) (c : Int) : g33 n c = some (letter c, ()) := by
  dsimp only [g33, g33_1, letter]
  by_cases h1 : 97 ≤ c <;> by_cases h2 : c ≤ 122 <;> by_cases h3 : 65 ≤ c <;> by_cases h4 : c ≤ 90 <;> by_cases h5 : 48 ≤ c <;> by_cases h6 : c ≤ 57 <;> first | omega | (simp [h1, h2, h3, h4, h5, h6]; done) | (simp [h1, h2, h3, h4, h5, h6]; omega)
theorem nonAlnum_ok (n : Nat) (c : Int) : g63 n c = some (!letter c, ()) := by
  dsimp only [g63, g63_1, letter]
  by_cases h1 : 97 ≤ c <;> by_cases h2 : c ≤ 122 <;> by_cases h3 : 65 ≤ c <;> by_cases h4 : c ≤ 90 <;> by_cases h5 : 48 ≤ c <;> by_cases h6 : c ≤ 57 <;> first | omega | (simp [h1, h2, h3, h4, h5, h6]; done) | (simp [h1, h2, h3, h4, h5, h6]; omega)
theorem space_ok (n : Nat) (c : Int) : g34 n c = some (space c, ()) := by
  dsimp only [g34, g34_1, space]
  have e : ∀ k : Int, ¬ c = k → (c == k) = false := fun k h => beq_false_of_ne h
  by_cases h1 : c = 32
  · subst h1; rfl
  by_cases h2 : c = 9
  · subst h2; rfl
  by_cases h3 : c = 10
  · subst h3; rfl
  by_cases h4 : c = 13
  · subst h4; rfl
  by_cases h5 : c = 12
  · subst h5; rfl
  simp [e _ h1, e _ h2, e _ h3, e _ h4, e _ h5, h1, h2, h3, h4, h5]
theorem white_ok (n : Nat) (c : Int) : g64 n c = some (space c, ()) := by
  dsimp only [g64, g64_1, space]
  have e : ∀ k : Int, ¬ c = k → (c == k) = false := fun k h => beq_false_of_ne h
  by_cases h1 : c = 32
  · subst h1; rfl
  by_cases h2 : c = 9
  · subst h2; rfl
  by_cases h3 : c = 10
  · subst h3; rfl
  by_cases h4 : c = 13
  · subst h4; rfl
  by_cases h5 : c = 12
  · subst h5; rfl
  simp [e _ h1, e _ h2, e _ h3, e _ h4, e _ h5, h1, h2, h3, h4, h5]
theorem brk_ok (n : Nat) (c : Int) : g65 n c = some (brk c, ()) := by
  dsimp only [g65, g65_1, brk]
  have e : ∀ k : Int, ¬ c = k → (c == k) = false := fun k h => beq_false_of_ne h
  by_cases h3 : c = 10
  · subst h3; rfl
  by_cases h4 : c = 13
  · subst h4; rfl
  simp [e _ h3, e _ h4, h3, h4]
theorem brk_eq (c : Int) : brk c = (c == 10 || c == 13) := by
  unfold brk
  by_cases h3 : c = 10 <;> by_cases h4 : c = 13 <;> simp_all
theorem brk_space {c : Int} (h : brk c = true) : space c = true := by
  unfold brk at h; unfold space; simp at h ⊢; omega
theorem space_letter {c : Int} (h : space c = true) : letter c = false := by
  unfold space at h; unfold letter; simp at h ⊢; omega
theorem blankE_last {u : List Int} {a : Int} (h : blankE (u ++ [a]) = true) : a = 10 := by
  unfold blankE at h
  simp only [Bool.or_eq_true, decide_eq_true_eq] at h
  rcases h with ⟨t, h⟩ | ⟨t, h⟩
  · rw [show t ++ [10, 10] = (t ++ [10]) ++ [(10 : Int)] by simp] at h
    exact (List.append_inj' h rfl).2 |> fun h => by simpa using h.symm
  · rw [show t ++ [10, 13, 10] = (t ++ [10, 13]) ++ [(10 : Int)] by simp] at h
    exact (List.append_inj' h rfl).2 |> fun h => by simpa using h.symm
theorem Tame.blankE {y : List Int} (h : Tame y) : blankE y = false := by
  unfold Go.Proofs.YtoafkjeamgelgaaDoorUF.blankE
  rw [Bool.or_eq_false_iff]
  refine ⟨decide_eq_false ?_, decide_eq_false ?_⟩
  · rintro ⟨t, rfl⟩
    exact h.two t [] rfl
  · rintro ⟨t, rfl⟩
    exact h.cr 13 (by simp) rfl
theorem enc_two : enc [10, 10] = (⟨#[10, 10]⟩ : ByteArray) := by rw [← Asc.eq (by intro b hb; simp at hb; omega)]; rfl
theorem enc_three : enc [10, 13, 10] = (⟨#[10, 13, 10]⟩ : ByteArray) := by rw [← Asc.eq (by intro b hb; simp at hb; omega)]; rfl
theorem blanklineEnd_ok (n : Nat) (x : List Int) (hx : Asc x) (hl : x.length ≤ 1000) : g66 n (enc x) = some (blankE x, ()) := by
  dsimp only [g66, g66_1]
  have h2 : Valids [10, 10] := Asc.valids (by intro b hb; simp at hb; omega)
  have h3 : Valids [10, 13, 10] := Asc.valids (by intro b hb; simp at hb; omega)
  rw [← enc_two, ← enc_three, hasSuffix_ok n _ _ hx.valids h2 (by omega) (by simp), hasSuffix_ok n _ _ hx.valids h3 (by omega) (by simp)]
  unfold blankE
  by_cases h : [10, 10] <:+ x <;> simp [h]
/-- The last letters of a text. -/
theorem last_at {u : List Int} {t : List Int} (h : Asc (u ++ t)) (i : Nat) (hi : i < t.length) (k : Int) (hk : k = ((u.length + i : Nat) : Int)) : byteAt (enc (u ++ t)) k = t[i] := by
  subst hk
  rw [Asc.byteAt h (by simp; omega), List.getElem_append_right (by omega)]
  congr 1; omega
theorem blankEnd_ok (n : Nat) (x : List Int) (hx : Asc x) (hl : x.length ≤ 1000) : g31 n (enc x) = some (blankE x, ()) := by
  dsimp only [g31, g31_1]
  rw [hx.size]
  rcases List.eq_nil_or_concat x with rfl | ⟨u, b, rfl⟩
  · rw [bdF (by simp)]
    unfold blankE
    simp
  · rcases List.eq_nil_or_concat u with rfl | ⟨u, a, rfl⟩
    · rw [bdF (by simp)]
      unfold blankE
      rw [decide_eq_false (suf_short (by simp)), decide_eq_false (suf_short (by simp))]
      rfl
    · simp only [List.concat_eq_append, List.append_assoc, List.cons_append, List.nil_append] at hx hl ⊢
      have hlen : (u ++ [a, b]).length = u.length + 2 := by simp
      rw [hlen] at hl ⊢
      rw [bdT (by omega), w64_id (n := ((u.length + 2 : Nat) : Int) - 1) (by omega) (by omega), w64_id (n := ((u.length + 2 : Nat) : Int) - 2) (by omega) (by omega), w64_id (n := ((u.length + 2 : Nat) : Int) - 3) (by omega) (by omega), idx_ok (by omega) (by omega), last_at hx 1 (by simp) _ (by omega), last_at hx 0 (by simp) _ (by omega)]
      simp only [List.getElem_cons_succ, List.getElem_cons_zero, idx_ok (show (0 : Int) ≤ ((u.length + 2 : Nat) : Int) - 2 by omega) (show ((u.length + 2 : Nat) : Int) - 2 < ((u.length + 2 : Nat) : Int) by omega)]
      by_cases hb : b = 10
      · rw [biT (by simp [hb])]
        by_cases ha : a = 10
        · rw [biT (by simp [ha])]
          unfold blankE
          rw [decide_eq_true ((suf2 u a b).2 ⟨ha, hb⟩)]; rfl
        · rw [biF (by simp [ha])]
          have h1 : ¬ [10, 10] <:+ u ++ [a, b] := fun h => ha ((suf2 u a b).1 h).1
          unfold blankE
          rw [decide_eq_false h1, Bool.false_or]
          rcases List.eq_nil_or_concat u with rfl | ⟨u, c, rfl⟩
          · rw [bdF (by simp), decide_eq_false (suf_short (by simp))]
          · simp only [List.concat_eq_append, List.append_assoc, List.cons_append, List.nil_append] at hx hl ⊢
            have hl2 : (u ++ [c]).length = u.length + 1 := by simp
            rw [hl2] at hl ⊢
            rw [bdT (by omega)]
            by_cases h13 : a = 13
            · rw [biT (by simp [h13]), idx_ok (by omega) (by omega), last_at hx 0 (by simp) _ (by omega)]
              congr 2
              rw [Bool.eq_iff_iff]
              simp only [List.getElem_cons_zero, beq_iff_eq, decide_eq_true_eq, suf3]
              exact ⟨fun h => ⟨h, h13, hb⟩, fun h => h.1⟩
            · rw [biF (by simp [h13]), decide_eq_false (fun h => h13 ((suf3 u c a b).1 h).2.1)]
      · rw [biF (by simp [hb])]
        have e : blankE (u ++ [a, b]) = false := by
          rw [Bool.eq_false_iff]
          intro h
          rw [show u ++ [a, b] = (u ++ [a]) ++ [b] by simp] at h
          exact hb (blankE_last h)
        rw [e]
theorem blankBegin_ok (n : Nat) (hn : Big ≤ n) (b : Int) (y : List Int) (hy : Asc (b :: y)) (h10 : b ≠ 10) (h13 : b ≠ 13) : g32 n (enc (b :: y)) = some (false, ()) := by
  obtain ⟨m, rfl⟩ : ∃ m, n = m + 1 := ⟨n - 1, by unfold Big at hn; omega⟩
  have h0 : byteAt (enc (b :: y)) 0 = b := hy.byteAt (i := 0) (by simp)
  have hs := hy.size
  dsimp only [g32, g32_6, g32_5, g32_4, g32_3, g32_1]
  rw [g32_3L.eq_2, g32_2]
  have e : strEq (enc (b :: y)) (⟨#[]⟩ : ByteArray) = false := by
    rw [← enc_nil, strEq_enc hy.valids Valids.nil]; simp
  simp only [List.length_cons] at hs
  rw [bdT (by omega), e, h0, hs]
  have e1 : (b == 13) = false := by simp [h13]
  have e2 : (b != 10) = true := by simp [h10]
  simp [e1, e2, idx_ok (show (0 : Int) ≤ 0 by omega) (show (0 : Int) < (y.length : Int) + 1 by omega)]
theorem boundary_ok (n : Nat) (hn : Big ≤ n) (x y : List Int) (hx : Asc x) (hy : Asc y) (hl : x.length ≤ 1000) (hl2 : y.length ≤ 1000) (ht : ∀ b t, y = b :: t → b ≠ 10 ∧ b ≠ 13) : g13 n (enc x) (enc y) = some (score x y, ()) := by
  dsimp only [g13, g13_7, g13_6, g13_5, g13_4, g13_3, g13_2, g13_1]
  rw [← enc_nil, strEq_enc hx.valids Valids.nil, strEq_enc hy.valids Valids.nil]
  rcases List.eq_nil_or_concat x with rfl | ⟨u, a, rfl⟩
  · simp [score]
  · match y with
    | [] => simp [score]
    | b :: y =>
      simp only [List.concat_eq_append] at *
      obtain ⟨h10, h13⟩ := ht b y rfl
      have hb0 : byteAt (enc (b :: y)) 0 = b := hy.byteAt (i := 0) (by simp)
      have hs1 := hx.size
      have hs2 := hy.size
      simp only [List.length_cons, List.length_append, List.length_nil] at hs1 hs2 hl hl2
      rw [bdF (by simp), bdF (by simp), w64_id (by omega) (by omega), idx_ok (by omega) (by omega), idx_ok (by omega) (by omega), last_at hx 0 (by simp) _ (by omega), hb0]
      have e5 : score (u ++ [a]) (b :: y) = scoreL (blankE (u ++ [a])) a b := by simp [score]
      rw [e5]
      simp only [blankEnd_ok n _ hx (by simp; omega), blankBegin_ok n hn b y hy h10 h13, letter_ok, space_ok, Option.bind_some, List.getElem_cons_zero]
      have hb : brk b = false := by rw [brk_eq]; simp [h10, h13]
      have hb10 : (b == 10) = false := by simp [h10]
      have hb13 : (b == 13) = false := by simp [h13]
      have hbl := @blankE_last u a
      unfold scoreL
      rw [brk_eq a, hb]
      simp only [hb10, hb13]
      cases hbe : blankE (u ++ [a]) with
      | true =>
        have := hbl hbe
        subst this
        simp
      | false =>
        cases h1 : (a == 10) <;> cases h2 : (a == 13) <;> cases h3 : letter a <;> cases h4 : space a <;> cases h5 : letter b <;> cases h6 : space b <;> rfl
theorem score_ok (n : Nat) (x y : List Int) (hx : Asc x) (hy : Asc y) (hl : x.length ≤ 1000) (hl2 : y.length ≤ 1000) (ht : blankE y = false) : g50 n (enc x) (enc y) = some (score x y, ()) := by
  dsimp only [g50, g50_8, g50_7, g50_6, g50_5, g50_4, g50_3, g50_2, g50_1]
  rw [hx.size, hy.size]
  rcases List.eq_nil_or_concat x with rfl | ⟨u, a, rfl⟩
  · simp [score]
  · match y with
    | [] => simp [score]
    | b :: y =>
      simp only [List.concat_eq_append] at *
      rw [biF (by simp; omega), biF (by simp; omega)]
      have ea := hx a (by simp)
      have eb := hy b (by simp)
      have d1 : g62 n (enc (u ++ [a])) = some (a, (1, ())) := by
        unfold g62
        rw [if_pos (by rw [hx.size]; simp at hl ⊢; omega)]
        have : (enc (u ++ [a])).data.toList = (u.map fun b => UInt8.ofNat b.toNat) ++ [UInt8.ofNat a.toNat] := by
          have := hx.bl
          unfold Go.Proofs.YtoafkjeamgelgaaDoorUF.bl at this
          rw [this, List.map_append]; rfl
        rw [this, Lib.decodeLastL_ascii _ _ (by rw [b8 _ (by omega)]; omega), b8 _ (by omega)]
        rw [Int.toNat_of_nonneg ea.1]; rfl
      have d2 : ∃ k, g61 n (enc (b :: y)) = some (b, (k, ())) := by
        unfold g61 Lib.decodeGo
        rw [if_neg (by rw [hy.size]; simp)]
        have := decode_head b y ByteArray.empty (hy.valids b (by simp))
        rw [ByteArray.append_empty] at this
        rw [this]
        refine ⟨(((Utf8.encode b).size : Nat) : Int), ?_⟩
        rw [Int.toNat_of_nonneg eb.1]
      obtain ⟨k, d2⟩ := d2
      rw [d1, d2]
      simp only [Option.bind_some, nonAlnum_ok, white_ok, brk_ok, blanklineEnd_ok n _ hx hl, blanklineEnd_ok n _ hy hl2, ht]
      have e5 : score (u ++ [a]) (b :: y) = scoreL (blankE (u ++ [a])) a b := by simp [score]
      rw [e5]
      unfold scoreL
      have c1 := @brk_space a
      have c2 := @brk_space b
      have c3 := @space_letter a
      have c4 := @space_letter b
      cases hbe : blankE (u ++ [a]) with
      | true =>
        have := blankE_last hbe
        subst this
        have e1 : letter 10 = false := rfl
        have e2 : space 10 = true := rfl
        have e3 : brk 10 = true := rfl
        rw [e1, e2, e3]
        cases h5 : letter b <;> cases h6 : space b <;> cases h7 : brk b <;> simp_all
      | false =>
        cases h1 : letter a <;> cases h2 : space a <;> cases h3 : brk a <;> cases h5 : letter b <;> cases h6 : space b <;> cases h7 : brk b <;> first | rfl | simp_all
end Go.Proofs.YtoafkjeamgelgaaDoorUF
