/- Texts of ASCII. -/
import Derived.Test.YtoafkjeamgelgaaDoorUPB
import Derived.Test.YtoafkjeamgelgaaDoorUPLoop
import Derived.Test.YtoafkjeamgelgaaDoorUPUtf
import Derived.Test.YtoafkjeamgelgaaDoorUPEnc
import Derived.Test.YtoafkjeamgelgaaDoorUGA0
import Derived.Test.YtoafkjeamgelgaaDoorUFB
namespace Go.Proofs.YtoafkjeamgelgaaDoorUF
open Go
set_option linter.unusedVariables false
set_option linter.unusedSimpArgs false
def Asc (l : List Int) : Prop := ∀ b ∈ l, 0 ≤ b ∧ b < 128
theorem Asc.valids {l : List Int} (h : Asc l) : Valids l := fun b hb => by
  have := h b hb
  unfold Utf8.valid; simp; omega
theorem Asc.nil : Asc [] := fun b hb => by cases hb
theorem Asc.append {x y : List Int} (hx : Asc x) (hy : Asc y) : Asc (x ++ y) := fun b hb => (List.mem_append.1 hb).elim (hx b) (hy b)
theorem Asc.take {x : List Int} (hx : Asc x) (k : Nat) : Asc (x.take k) := fun b hb => hx b (List.mem_of_mem_take hb)
theorem Asc.drop {x : List Int} (hx : Asc x) (k : Nat) : Asc (x.drop k) := fun b hb => hx b (List.mem_of_mem_drop hb)
theorem Asc.sub {x y : List Int} (hx : Asc x) (h : ∀ b ∈ y, b ∈ x) : Asc y := fun b hb => hx b (h b hb)
theorem encode_asc {b : Int} (h : 0 ≤ b ∧ b < 128) : bytesOf (Utf8.encode b) = [b] := by
  obtain ⟨k, rfl⟩ := Int.eq_ofNat_of_zero_le h.1
  have hk : k < 128 := by omega
  have hv : Utf8.valid (k : Int) = true := by unfold Utf8.valid; simp; omega
  unfold Utf8.encode
  simp only [hv, if_true, Int.ofNat_eq_natCast, Int.toNat_natCast, hk]
  simp [bytesOf]
  omega
theorem bytes_enc : ∀ {l : List Int}, Asc l → bytesOf (enc l) = l
  | [], _ => rfl
  | b :: l, h => by
    show bytesOf (runesBytes (b :: l)) = _
    rw [runesBytes_cons, bytesOf_append, encode_asc (h b (by simp))]
    have : bytesOf (enc l) = l := bytes_enc fun c hc => h c (by simp [hc])
    show [b] ++ bytesOf (enc l) = _
    rw [this]; rfl
theorem Asc.eq {l : List Int} (h : Asc l) : strOfNums l = enc l := by
  apply bytesOf_inj
  rw [bytes_enc h, bytesOf_strOfNums fun b hb => by have := h b hb; omega]
theorem Asc.size {l : List Int} (h : Asc l) : (enc l).size = l.length := by rw [← bytesOf_length, bytes_enc h]
theorem Asc.byteAt {l : List Int} (h : Asc l) {i : Nat} (hi : i < l.length) : byteAt (enc l) (i : Int) = l[i] := by
  rw [byteAt_rd (by omega) (by rw [h.size]; omega), bytes_enc h, rd_at hi]
theorem Asc.bl {l : List Int} (h : Asc l) : bl (enc l) = l.map fun b => UInt8.ofNat b.toNat := by
  have := h.eq
  rw [← this]
  exact strOfNums_data l
/-- What the law makes of its bytes. -/
def asc (x : List Int) (k : Nat) : List Int := (x.take k).map fun b => b.tmod 128
def IsBytes (x : List Int) : Prop := ∀ b ∈ x, 0 ≤ b ∧ b < 256
theorem asc_ok {x : List Int} (h : IsBytes x) (k : Nat) : Asc (asc x k) := fun b hb => by
  unfold asc at hb
  obtain ⟨c, hc, rfl⟩ := List.mem_map.1 hb
  have := h c (List.mem_of_mem_take hc)
  rw [Int.tmod_eq_emod_of_nonneg this.1]
  omega
theorem asc_length (x : List Int) (k : Nat) : (asc x k).length ≤ k := by unfold asc; rw [List.length_map, List.length_take]; omega
theorem dfAscii_ok (n : Nat) (hn : Big ≤ n) (x : List Int) (hx : IsBytes x) (k : Nat) (hk : k ≤ 1000) (hl : x.length ≤ 2147483647) : g9 n x (k : Int) = some (enc (asc x k), ()) := by
  have key : ∀ (d i m : Nat), min x.length k - i = d → i ≤ min x.length k → d < m → g9_3L n (fun x5 => some (strOfNums x5, ())) m x (k : Int) (asc x i) (i : Int) = some (enc (asc x k), ()) := by
    intro d
    induction d with
    | zero =>
      intro i m hd hi hm
      obtain ⟨m, rfl⟩ : ∃ m', m = m' + 1 := ⟨m - 1, by omega⟩
      have e : asc x i = asc x k := by
        unfold asc
        congr 1
        by_cases hc : x.length ≤ k
        · rw [List.take_of_length_le (by omega), List.take_of_length_le hc]
        · obtain rfl : i = k := by omega
          rfl
      rw [g9_3L.eq_2, g9_2]
      by_cases hc : (i : Int) < (x.length : Int)
      · rw [bdT hc, bdF (by omega), e, (asc_ok hx k).eq]
      · rw [bdF hc, e, (asc_ok hx k).eq]
    | succ d ih =>
      intro i m hd hi hm
      obtain ⟨m, rfl⟩ : ∃ m', m = m' + 1 := ⟨m - 1, by omega⟩
      have hl2 := asc_length x i
      have hi2 : i < x.length := by omega
      have e : asc x i ++ [(rd x (i : Int) (0 : Int)).tmod (128 : Int)] = asc x (i + 1) := by
        unfold asc
        rw [rd_at hi2, List.take_succ_eq_append_getElem hi2, List.map_append]; rfl
      rw [g9_3L.eq_2, g9_2, bdT (by omega), bdT (by omega), idx_ok (by omega) (by omega), roomy_ok (by simp; omega), e, w64_id (by omega) (by omega)]
      exact ih (i + 1) m (by omega) (by omega) (by omega)
  dsimp only [g9, g9_6, g9_5, g9_4, g9_3, g9_1]
  have := key (min x.length k) 0 n (by omega) (by omega) (by unfold Big at hn; omega)
  simpa [asc] using this
theorem GoodK.bytes {e : TypeId} {x : List Int} (h : GoodK (.sl e (.int .u8)) x) : IsBytes x ∧ x.length ≤ maxLen := ⟨fun b hb => by
  have h : (Lit.int .u8 b).wf = true := h.2 b hb
  simp only [Lit.wf, Bool.and_eq_true, decide_eq_true_eq] at h
  have h1 : IntKind.u8.min = 0 := rfl
  have h2 : IntKind.u8.max = 255 := rfl
  omega, h.1⟩
/-- A text without empty lines and carriage returns. -/
structure Tame (y : List Int) : Prop where
  asc : Asc y
  cr : ∀ b ∈ y, b ≠ 13
  head : ∀ t, y ≠ 10 :: t
  two : ∀ u v, y ≠ u ++ 10 :: 10 :: v
structure UnInv (i L : Nat) (y : List Int) : Prop where
  len : y.length = L
  asc : Asc y
  cr : ∀ j (h : j < y.length), j < i → y[j] ≠ 13
  head : ∀ (h : 0 < y.length), 0 < i → y[0] ≠ 10
  two : ∀ j (h : j + 1 < y.length), j + 1 < i → ¬ (y[j] = 10 ∧ y[j + 1] = 10)
theorem UnInv.tame {L : Nat} {y : List Int} (h : UnInv L L y) : Tame y := by
  have hl := h.len
  refine ⟨h.asc, fun b hb => ?_, fun t e => ?_, fun u v e => ?_⟩
  · obtain ⟨j, hj, rfl⟩ := List.getElem_of_mem hb
    exact h.cr j hj (by omega)
  · subst e
    have : 0 < (10 :: t).length := by simp
    exact h.head this (by omega) rfl
  · subst e
    have h1 : u.length + 1 < (u ++ 10 :: 10 :: v).length := by simp
    refine h.two u.length h1 (by omega) ⟨?_, ?_⟩
    · simp
    · rw [List.getElem_append_right (by omega)]; simp
theorem unblank_ok (n : Nat) (hn : Big ≤ n) (x : List Int) (hx : Asc x) (hl : x.length ≤ 1000) : ∃ y, g11 n (enc x) = some (enc y, ()) ∧ Tame y ∧ y.length = x.length := by
  have set_asc : ∀ (y : List Int) (i : Nat), Asc y → Asc (y.set i 114) := fun y i hy b hb => by
    rcases List.mem_or_eq_of_mem_set hb with h | h
    · exact hy b h
    · subst h; omega
  have key : ∀ (d i m : Nat) (y : List Int), x.length - i = d → i ≤ x.length → d < m → UnInv i x.length y → ∃ z, g11_5L n (fun x3 => some (strOfNums x3, ())) m y (x.length : Int) (i : Int) = some (enc z, ()) ∧ UnInv x.length x.length z := by
    intro d
    induction d with
    | zero =>
      intro i m y hd hi hm hy
      obtain ⟨m, rfl⟩ : ∃ m', m = m' + 1 := ⟨m - 1, by omega⟩
      obtain rfl : i = x.length := by omega
      rw [g11_5L.eq_2]
      dsimp only [g11_4, g11_3, g11_2]
      rw [bdF (by omega), hy.asc.eq]
      exact ⟨y, rfl, hy⟩
    | succ d ih =>
      intro i m y hd hi hm hy
      obtain ⟨m, rfl⟩ : ∃ m', m = m' + 1 := ⟨m - 1, by omega⟩
      have hyl := hy.len
      have hi2 : i < y.length := by omega
      have next : ∀ (z : List Int), UnInv (i + 1) x.length z → ∃ w, g11_5L n (fun x3 => some (strOfNums x3, ())) m z (x.length : Int) (w64 ((i : Int) + 1)) = some (enc w, ()) ∧ UnInv x.length x.length w := fun z hz => by
        rw [w64_id (by omega) (by omega)]
        exact ih (i + 1) m z (by omega) (by omega) (by omega) hz
      have put : UnInv (i + 1) x.length (y.set i 114) := by
        refine ⟨by rw [List.length_set]; exact hyl, set_asc y i hy.asc, fun j hj hji => ?_, fun hj _ => ?_, fun j hj hji => ?_⟩
        · rw [List.getElem_set]
          split
          · omega
          · exact hy.cr j (by simpa using hj) (by omega)
        · rw [List.getElem_set]
          split
          · omega
          · exact hy.head (by simpa using hj) (by omega)
        · rw [List.getElem_set, List.getElem_set]
          split
          · omega
          · split
            · omega
            · exact hy.two j (by simpa using hj) (by omega)
      have keep : y[i] ≠ 13 → (y[i] = 10 → ∃ (h : 0 < i), y[i - 1]'(by omega) ≠ 10) → UnInv (i + 1) x.length y := fun h1 h2 => by
        refine ⟨hyl, hy.asc, fun j hj hji => ?_, fun hj _ => ?_, fun j hj hji => ?_⟩
        · by_cases e : j = i
          · subst e; exact h1
          · exact hy.cr j hj (by omega)
        · by_cases e : i = 0
          · subst e
            intro h
            obtain ⟨h0, _⟩ := h2 h
            omega
          · exact hy.head hj (by omega)
        · by_cases e : j + 1 = i
          · subst e
            rintro ⟨g1, g2⟩
            obtain ⟨h0, h3⟩ := h2 g2
            exact h3 (by simpa using g1)
          · exact hy.two j hj (by omega)
      rw [g11_5L.eq_2]
      dsimp only [g11_4, g11_3, g11_2]
      rw [bdT (by omega), rd_at hi2]
      simp only [idx_ok (show (0 : Int) ≤ (i : Int) by omega) (show (i : Int) < (y.length : Int) by omega), Int.toNat_natCast]
      by_cases h13 : y[i] = 13
      · rw [biT (by simp [h13])]; exact next _ put
      · rw [biF (by simp [h13])]
        by_cases h10 : y[i] = 10
        · rw [biT (by simp [h10])]
          by_cases h0 : i = 0
          · rw [biT (by simp [h0])]; exact next _ put
          · rw [biF (by simp; omega), w64_id (by omega) (by omega), idx_ok (by omega) (by omega), show ((i : Int) - 1) = ((i - 1 : Nat) : Int) by omega, rd_at (by omega)]
            by_cases hp : y[i - 1]'(by omega) = 10
            · rw [biT (by simp [hp])]; exact next _ put
            · rw [biF (by simp [hp])]; exact next _ (keep h13 fun _ => ⟨by omega, hp⟩)
        · rw [biF (by simp [h10])]; exact next _ (keep h13 fun h => absurd h h10)
  obtain ⟨z, h1, h2⟩ := key x.length 0 n x (by omega) (by omega) (by unfold Big at hn; omega) ⟨rfl, hx, fun j _ h => by omega, fun _ h => by omega, fun j _ h => by omega⟩
  refine ⟨z, ?_, h2.tame, h2.len⟩
  dsimp only [g11, g11_8, g11_7, g11_6, g11_5, g11_1]
  rw [bytes_enc hx]
  exact h1
end Go.Proofs.YtoafkjeamgelgaaDoorUF
