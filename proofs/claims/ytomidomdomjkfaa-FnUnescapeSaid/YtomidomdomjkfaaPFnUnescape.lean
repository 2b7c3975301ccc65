/- The plain statement of FnUnescape: what the program makes of a text is what the definition makes of it. -/
import Derived.Test.YtomidomdomjkfaaPB
import Derived.Test.YtomidomdomjkfaaGA0
import Derived.Test.YtomidomdomjkfaaFB
namespace Go.Proofs.YtomidomdomjkfaaF
open Go
set_option linter.unusedVariables false
set_option linter.unusedSimpArgs false
set_option maxRecDepth 100000
/-- The value of a digit. -/
def hexV (b : Int) : Int := if 48 ≤ b ∧ b ≤ 57 then b - 48 else if 97 ≤ b ∧ b ≤ 102 then b - 97 + 10 else if 65 ≤ b ∧ b ≤ 70 then b - 65 + 10 else 16
theorem deHex_ok (n : Nat) (b : Int) (h0 : 0 ≤ b) (h1 : b < 256) : g57 n b = some (hexV b, ()) := by
  unfold g57 g57_3 g57_1 g57_2 hexV
  by_cases c1 : b ≥ 48
  · by_cases c2 : b ≤ 57
    · rw [bdT c1, bdT c2, wu8_id (by omega) (by omega), w64_id (by omega) (by omega), if_pos ⟨c1, c2⟩]
    · rw [bdT c1, bdF c2, if_neg (by omega)]
      by_cases c3 : b ≥ 97
      · rw [bdT c3]
        by_cases c4 : b ≤ 102
        · rw [bdT c4, wu8_id (by omega) (by omega), w64_id (n := b - 97) (by omega) (by omega), w64_id (by omega) (by omega), if_pos ⟨c3, c4⟩]
        · rw [bdF c4, bdT (show b ≥ 65 by omega), bdF (show ¬ b ≤ 70 by omega), if_neg (by omega), if_neg (by omega)]
      · rw [bdF c3, if_neg (by omega)]
        by_cases c5 : b ≥ 65
        · rw [bdT c5]
          by_cases c6 : b ≤ 70
          · rw [bdT c6, wu8_id (by omega) (by omega), w64_id (n := b - 65) (by omega) (by omega), w64_id (by omega) (by omega), if_pos ⟨c5, c6⟩]
          · rw [bdF c6, if_neg (by omega)]
        · rw [bdF c5, if_neg (by omega)]
  · rw [bdF c1, bdF (show ¬ b ≥ 97 by omega), bdF (show ¬ b ≥ 65 by omega), if_neg (by omega), if_neg (by omega), if_neg (by omega)]
def isDig (b : Int) : Bool := decide (hexV b ≤ 15) && decide (b < 97)
theorem digits_ok (n : Nat) (hn : Big ≤ n) (z : ByteArray) (hz : z.size = 2) : g56 n z = some (isDig (byteAt z 0) && isDig (byteAt z 1), ()) := by
  have hl : (bytesOf z).length = 2 := by rw [bytesOf_length]; exact hz
  have e0 := byteAt_rd (z := z) (i := 0) (by omega) (by omega)
  have e1 := byteAt_rd (z := z) (i := 1) (by omega) (by omega)
  obtain ⟨a, b, hab⟩ : ∃ a b, bytesOf z = [a, b] := by
    match h : bytesOf z, hl with
    | [a, b], _ => exact ⟨a, b, rfl⟩
  have ha := bytesOf_range (z := z) a (by rw [hab]; simp)
  have hb := bytesOf_range (z := z) b (by rw [hab]; simp)
  rw [e0, e1, hab]
  have step : ∀ (m : Nat) (i c : Int), rd [a, b] i 0 = c → 0 ≤ c → c < 256 → 0 ≤ i → i < 2 → g56_3L n (fun v2 => some (v2, ())) (g56_5 n (fun v2 => some (v2, ()))) (m + 1) [a, b] 2 i = bif isDig c then g56_3L n (fun v2 => some (v2, ())) (g56_5 n (fun v2 => some (v2, ()))) m [a, b] 2 (i + 1) else some (false, ()) := by
    intro m i c hc h0 h1 h2 h3
    rw [g56_3L.eq_2, g56_2]
    rw [bdT h3, idx_ok h2 (by simpa using h3), hc, deHex_ok _ _ h0 h1, Option.bind_some, w64_id (by omega) (by omega)]
    unfold isDig
    by_cases c1 : hexV c ≤ 15
    · rw [bdF (by simpa using c1)]
      by_cases c2 : c < 97
      · rw [bdF (by omega)]; simp [c1, c2]
      · rw [bdT (by omega)]; simp [c1, c2]
    · rw [bdT (show hexV c > 15 by omega)]; simp [c1]
  obtain ⟨m, rfl⟩ : ∃ m, n = m + 3 := ⟨n - 3, by unfold Big at hn; omega⟩
  have last : g56_3L (m + 3) (fun v2 => some (v2, ())) (g56_5 (m + 3) (fun v2 => some (v2, ()))) (m + 1) [a, b] 2 2 = some (true, ()) := by
    unfold g56_3L g56_2
    rw [bdF (by omega)]
    rfl
  unfold g56 g56_6 g56_1 g56_4 g56_3
  rw [hab]
  show g56_3L (m + 3) (fun v2 => some (v2, ())) (g56_5 (m + 3) (fun v2 => some (v2, ()))) (m + 3) [a, b] 2 0 = _
  rw [step (m + 2) 0 a rfl ha.1 ha.2 (by omega) (by omega)]
  have r0 : rd [a, b] 0 (0 : Int) = a := rfl
  have r1 : rd [a, b] 1 (0 : Int) = b := rfl
  rw [r0, r1]
  cases isDig a with
  | false => rfl
  | true =>
    rw [cond_true, Bool.true_and, step (m + 1) (0 + 1) b rfl hb.1 hb.2 (by omega) (by omega)]
    cases isDig b with
    | false => rfl
    | true => rw [cond_true]; exact last
def signs : List Int := [33, 126, 42, 39, 40, 41, 59, 47, 63, 58, 64, 38, 61, 43, 36, 44, 35]
theorem sign_loop (n : Nat) (v : Int) : ∀ (m i : Nat), i ≤ 17 → 17 - i < m → g58_3L n (fun v2 => some (v2, ())) (g58_5 n (fun v2 => some (v2, ()))) m v signs 17 (i : Int) = some ((signs.drop i).contains v, ()) := by
  intro m
  induction m with
  | zero => intro i _ h; omega
  | succ m ih =>
    intro i hi hm
    unfold g58_3L g58_2
    by_cases h : i < 17
    · rw [bdT (by omega), idx_ok (by omega) (by unfold signs; simp; omega), rd_nat, w64_id (by omega) (by omega)]
      have hd : signs.drop i = signs.getD i 0 :: signs.drop (i + 1) := by
        have hl : i < signs.length := by unfold signs; simpa using h
        rw [List.drop_eq_getElem_cons hl, List.getD_eq_getElem?_getD, List.getElem?_eq_getElem hl]; rfl
      rw [hd, List.contains_cons]
      cases hv : v == signs.getD i 0 with
      | true => rw [cond_true]; simp
      | false => rw [cond_false, Bool.false_or]; exact ih (i + 1) (by omega) (by omega)
    · rw [bdF (by omega)]
      have : i = 17 := by omega
      subst this
      rfl
theorem sign_ok (n : Nat) (hn : Big ≤ n) (v : Int) : g58 n v = some (signs.contains v, ()) := by
  unfold g58 g58_6 g58_1 g58_4 g58_3
  rw [idx_ok (by omega) (by simp)]
  exact sign_loop n v n 0 (by omega) (by unfold Big at hn; omega)
/-- The escapes, and the signs that they are. -/
def escs : List (List Int × Int) := [([37, 50, 49], 33), ([37, 55, 69], 126), ([37, 50, 55], 39), ([37, 50, 56], 40), ([37, 50, 57], 41), ([37, 51, 66], 59), ([37, 50, 70], 47), ([37, 51, 70], 63), ([37, 51, 65], 58), ([37, 52, 48], 64), ([37, 50, 54], 38), ([37, 51, 68], 61), ([37, 50, 66], 43), ([37, 50, 52], 36), ([37, 50, 67], 44), ([37, 50, 51], 35), ([37, 50, 65], 42)]
def lkE : List (List Int × Int) → List Int → Int
  | [], _ => 0
  | (a, c) :: l, x => if x = a then c else lkE l x
theorem strEq_lit (z y : ByteArray) (l : List Int) (hy : bytesOf y = l) : strEq z y = decide (bytesOf z = l) := by
  rw [strEq_eq]
  congr 1
  exact propext ⟨fun h => by rw [h, hy], fun h => bytesOf_inj (h.trans hy.symm)⟩
theorem unescaped_ok (n : Nat) (z : ByteArray) : g83 n z = some (lkE escs (bytesOf z), ()) := by
  simp only [g83, g83_37, g83_1, g83_35, g83_34, g83_2, g83_33, g83_32, g83_3, g83_4, g83_31, g83_30, g83_5, g83_6, g83_29, g83_28, g83_7, g83_8, g83_27, g83_26, g83_9, g83_10, g83_25, g83_24, g83_11, g83_12, g83_23, g83_22, g83_13, g83_14, g83_21, g83_20, g83_15, g83_16, g83_19, g83_18, g83_17, g83_36]
  rw [strEq_lit z _ [37, 50, 49] rfl, strEq_lit z _ [37, 55, 69] rfl, strEq_lit z _ [37, 50, 55] rfl, strEq_lit z _ [37, 50, 56] rfl, strEq_lit z _ [37, 50, 57] rfl, strEq_lit z _ [37, 51, 66] rfl, strEq_lit z _ [37, 50, 70] rfl, strEq_lit z _ [37, 51, 70] rfl, strEq_lit z _ [37, 51, 65] rfl, strEq_lit z _ [37, 52, 48] rfl, strEq_lit z _ [37, 50, 54] rfl, strEq_lit z _ [37, 51, 68] rfl, strEq_lit z _ [37, 50, 66] rfl, strEq_lit z _ [37, 50, 52] rfl, strEq_lit z _ [37, 50, 67] rfl, strEq_lit z _ [37, 50, 51] rfl, strEq_lit z _ [37, 50, 65] rfl]
  generalize bytesOf z = l
  unfold escs
  by_cases h0 : l = [37, 50, 49]
  · subst h0; rfl
  rw [decide_eq_false h0, cond_false, lkE, if_neg h0]
  by_cases h1 : l = [37, 55, 69]
  · subst h1; rfl
  rw [decide_eq_false h1, cond_false, lkE, if_neg h1]
  by_cases h2 : l = [37, 50, 55]
  · subst h2; rfl
  rw [decide_eq_false h2, cond_false, lkE, if_neg h2]
  by_cases h3 : l = [37, 50, 56]
  · subst h3; rfl
  rw [decide_eq_false h3, cond_false, lkE, if_neg h3]
  by_cases h4 : l = [37, 50, 57]
  · subst h4; rfl
  rw [decide_eq_false h4, cond_false, lkE, if_neg h4]
  by_cases h5 : l = [37, 51, 66]
  · subst h5; rfl
  rw [decide_eq_false h5, cond_false, lkE, if_neg h5]
  by_cases h6 : l = [37, 50, 70]
  · subst h6; rfl
  rw [decide_eq_false h6, cond_false, lkE, if_neg h6]
  by_cases h7 : l = [37, 51, 70]
  · subst h7; rfl
  rw [decide_eq_false h7, cond_false, lkE, if_neg h7]
  by_cases h8 : l = [37, 51, 65]
  · subst h8; rfl
  rw [decide_eq_false h8, cond_false, lkE, if_neg h8]
  by_cases h9 : l = [37, 52, 48]
  · subst h9; rfl
  rw [decide_eq_false h9, cond_false, lkE, if_neg h9]
  by_cases h10 : l = [37, 50, 54]
  · subst h10; rfl
  rw [decide_eq_false h10, cond_false, lkE, if_neg h10]
  by_cases h11 : l = [37, 51, 68]
  · subst h11; rfl
  rw [decide_eq_false h11, cond_false, lkE, if_neg h11]
  by_cases h12 : l = [37, 50, 66]
  · subst h12; rfl
  rw [decide_eq_false h12, cond_false, lkE, if_neg h12]
  by_cases h13 : l = [37, 50, 52]
  · subst h13; rfl
  rw [decide_eq_false h13, cond_false, lkE, if_neg h13]
  by_cases h14 : l = [37, 50, 67]
  · subst h14; rfl
  rw [decide_eq_false h14, cond_false, lkE, if_neg h14]
  by_cases h15 : l = [37, 50, 51]
  · subst h15; rfl
  rw [decide_eq_false h15, cond_false, lkE, if_neg h15]
  by_cases h16 : l = [37, 50, 65]
  · subst h16; rfl
  rw [decide_eq_false h16, cond_false, lkE, if_neg h16]
  rfl
theorem esc_code {l : List Int} (h : lkE escs l ≠ 0) : ∃ a b c, l = [37, a, b] ∧ isDig a = true ∧ isDig b = true ∧ IntKind.u8.wrap (orI .i64 (shlI .i64 (hexV a) 4) (hexV b)) = c ∧ signs.contains c = true ∧ lkE escs l = c := by
  have key : ∀ (E : List (List Int × Int)), (∀ p ∈ E, ∃ a b, p.1 = [37, a, b] ∧ isDig a = true ∧ isDig b = true ∧ IntKind.u8.wrap (orI .i64 (shlI .i64 (hexV a) 4) (hexV b)) = p.2 ∧ signs.contains p.2 = true) → lkE E l ≠ 0 → ∃ a b c, l = [37, a, b] ∧ isDig a = true ∧ isDig b = true ∧ IntKind.u8.wrap (orI .i64 (shlI .i64 (hexV a) 4) (hexV b)) = c ∧ signs.contains c = true ∧ lkE E l = c := by
    intro E
    induction E with
    | nil => intro _ h; exact absurd rfl h
    | cons p E ih =>
      intro hE h
      unfold lkE at h ⊢
      by_cases e : l = p.1
      · rw [if_pos e]
        obtain ⟨a, b, h1, h2, h3, h4, h5⟩ := hE p (by simp)
        exact ⟨a, b, p.2, e.trans h1, h2, h3, h4, h5, rfl⟩
      · rw [if_neg e] at h ⊢
        exact ih (fun q hq => hE q (by simp [hq])) h
  refine key escs ?_ h
  intro p hp
  have := List.all_eq_true.1 (show escs.all (fun p => match p.1 with | [x, a, b] => decide (x = 37) && (isDig a && (isDig b && (decide (IntKind.u8.wrap (orI .i64 (shlI .i64 (hexV a) 4) (hexV b)) = p.2) && signs.contains p.2))) | _ => false) = true by decide +kernel) p hp
  obtain ⟨l', c⟩ := p
  match l', this with
  | [x, a, b], this =>
    simp only [Bool.and_eq_true, decide_eq_true_eq] at this
    obtain ⟨rfl, h1, h2, h3, h4⟩ := this
    exact ⟨a, b, rfl, h1, h2, h3, h4⟩
def digs : List Int := [48, 49, 50, 51, 52, 53, 54, 55, 56, 57, 65, 66, 67, 68, 69, 70]
theorem isDig_mem {a : Int} (h : isDig a = true) : a ∈ digs := by
  unfold isDig hexV at h
  simp only [Bool.and_eq_true, decide_eq_true_eq] at h
  obtain ⟨h1, h2⟩ := h
  unfold digs
  split at h1
  · rename_i h3
    have : a = 48 ∨ a = 49 ∨ a = 50 ∨ a = 51 ∨ a = 52 ∨ a = 53 ∨ a = 54 ∨ a = 55 ∨ a = 56 ∨ a = 57 := by omega
    simp; omega
  · split at h1
    · omega
    · split at h1
      · simp; omega
      · omega
theorem code_esc {a b : Int} (ha : isDig a = true) (hb : isDig b = true) (hs : signs.contains (IntKind.u8.wrap (orI .i64 (shlI .i64 (hexV a) 4) (hexV b))) = true) : lkE escs [37, a, b] = IntKind.u8.wrap (orI .i64 (shlI .i64 (hexV a) 4) (hexV b)) ∧ lkE escs [37, a, b] ≠ 0 := by
  have := List.all_eq_true.1 (List.all_eq_true.1 (show digs.all (fun a => digs.all fun b => !signs.contains (IntKind.u8.wrap (orI .i64 (shlI .i64 (hexV a) 4) (hexV b))) || (decide (lkE escs [37, a, b] = IntKind.u8.wrap (orI .i64 (shlI .i64 (hexV a) 4) (hexV b))) && decide (lkE escs [37, a, b] ≠ 0))) = true by decide +kernel) a (isDig_mem ha)) b (isDig_mem hb)
  rw [hs] at this
  simpa using this
theorem cut3 {z : ByteArray} {i : Nat} (h : i + 3 ≤ z.size) : bytesOf (cutS z (i : Int) ((i : Int) + 3)) = [byteAt z (i : Int), byteAt z ((i : Int) + 1), byteAt z ((i : Int) + 2)] := by
  have hl := bytesOf_length z
  rw [byteAt_rd (by omega) (by omega), byteAt_rd (by omega) (by omega), byteAt_rd (by omega) (by omega), bytesOf_cutS]
  have e : ∀ j : Nat, ((i : Int) + (j : Int)) = ((i + j : Nat) : Int) := fun j => by omega
  rw [show ((i : Int) + 1) = ((i + 1 : Nat) : Int) by omega, show ((i : Int) + 2) = ((i + 2 : Nat) : Int) by omega, show ((i : Int) + 3) = ((i + 3 : Nat) : Int) by omega, cut_nat, rd_nat, rd_nat, rd_nat]
  rw [List.drop_eq_getElem_cons (show i < (bytesOf z).length by omega), List.drop_eq_getElem_cons (show i + 1 < (bytesOf z).length by omega), List.drop_eq_getElem_cons (show i + 1 + 1 < (bytesOf z).length by omega)]
  rw [show i + 3 - i = 3 by omega]
  simp only [List.take_succ_cons, List.take_zero, List.getD_eq_getElem?_getD, List.getElem?_eq_getElem (show i < (bytesOf z).length by omega), List.getElem?_eq_getElem (show i + 1 < (bytesOf z).length by omega), List.getElem?_eq_getElem (show i + 2 < (bytesOf z).length by omega), Option.getD_some]
theorem loops (n : Nat) (hn : Big ≤ n) (z : ByteArray) (hz : z.size ≤ 1000) {β : Type} (k1 k2 : List Int → Option β) : ∀ (d i : Nat) (x : List Int), z.size - i = d → x.length ≤ i → ∃ y, ∀ m1 m2, d < m1 → d < m2 → g75_3L n k1 m1 z x (i : Int) = k1 y ∧ g33_5L n k2 m2 z x (i : Int) = k2 y := by
  intro d
  induction d using Nat.strongRecOn with
  | _ d ih =>
    intro i x hd hx
    by_cases hi : i < z.size
    · have hcur : ∀ m1 m2, d < m1 → d < m2 → ∃ m1' m2', m1 = m1' + 1 ∧ m2 = m2' + 1 := fun m1 m2 h1 h2 => ⟨m1 - 1, m2 - 1, by omega, by omega⟩
      have hb0 := bytesOf_range (z := z) (byteAt z (i : Int)) (by rw [byteAt_rd (by omega) (by omega), rd_nat, List.getD_eq_getElem?_getD, List.getElem?_eq_getElem (by rw [bytesOf_length]; exact hi)]; simp)
      by_cases hE : i + 3 ≤ z.size ∧ lkE escs (bytesOf (cutS z (i : Int) ((i : Int) + 3))) ≠ 0
      · obtain ⟨h3, hE⟩ := hE
        obtain ⟨y, hy⟩ := ih (d - 3) (by omega) (i + 3) (x ++ [lkE escs (bytesOf (cutS z (i : Int) ((i : Int) + 3)))]) (by omega) (by simp; omega)
        refine ⟨y, fun m1 m2 h1 h2 => ?_⟩
        obtain ⟨m1', m2', rfl, rfl⟩ := hcur m1 m2 h1 h2
        obtain ⟨g1, g2⟩ := hy m1' m2' (by omega) (by omega)
        obtain ⟨a, b, c, hc1, hc2, hc3, hc4, hc5, hc6⟩ := esc_code hE
        have hc1' := hc1
        rw [cut3 h3] at hc1
        simp only [List.cons.injEq, and_true] at hc1
        obtain ⟨e0, e1, e2⟩ := hc1
        have ra := bytesOf_range (z := z) a (by rw [← e1, byteAt_rd (by omega) (by omega), show ((i : Int) + 1) = ((i + 1 : Nat) : Int) by omega, rd_nat, List.getD_eq_getElem?_getD, List.getElem?_eq_getElem (by rw [bytesOf_length]; omega)]; simp)
        have rb := bytesOf_range (z := z) b (by rw [← e2, byteAt_rd (by omega) (by omega), show ((i : Int) + 2) = ((i + 2 : Nat) : Int) by omega, rd_nat, List.getD_eq_getElem?_getD, List.getElem?_eq_getElem (by rw [bytesOf_length]; omega)]; simp)
        constructor
        · unfold g75_3L g75_2
          rw [w64_id (by omega) (by omega), bdT (by omega), bdT (by omega), bnd_ok (by omega) (by omega) (by omega), unescaped_ok, Option.bind_some]
          have : (lkE escs (bytesOf (cutS z (i : Int) ((i : Int) + 3))) != 0) = true := by simpa using hE
          rw [this, cond_true, roomy_ok (by simp; omega)]
          exact g1
        · unfold g33_5L g33_4 g33_2 g33_3
          rw [w64_id (by omega) (by omega), w64_id (by omega) (by omega), w64_id (by omega) (by omega), bdT (by omega), idx_ok (by omega) (by omega), e0]
          have hdg : g56 n (cutS z ((i : Int) + 1) ((i : Int) + 3)) = some (true, ()) := by
            rw [digits_ok n hn _ (by rw [size_cutS (by omega) (by omega) (by omega)]; omega), byteAt_cutS (by omega) (by omega) (by omega) (by omega), byteAt_cutS (by omega) (by omega) (by omega) (by omega)]
            rw [show (i : Int) + 1 + 0 = (i : Int) + 1 by omega, show (i : Int) + 1 + 1 = (i : Int) + 2 by omega, e1, e2, hc2, hc3]; rfl
          rw [show ((37 : Int) == 37) = true from rfl, cond_true, bdT (by omega), bnd_ok (by omega) (by omega) (by omega), hdg, Option.bind_some, cond_true, idx_ok (by omega) (by omega), e1, deHex_ok _ _ ra.1 ra.2, Option.bind_some, idx_ok (by omega) (by omega), e2, deHex_ok _ _ rb.1 rb.2, Option.bind_some, hc4, sign_ok n hn, Option.bind_some, hc5, cond_true, roomy_ok (by simp; omega)]
          dsimp only
          rw [w64_id (by omega) (by omega), ← hc6]
          exact g2
      · have hE' : i + 3 ≤ z.size → lkE escs (bytesOf (cutS z (i : Int) ((i : Int) + 3))) = 0 := fun h => Classical.byContradiction fun h' => hE ⟨h, h'⟩
        obtain ⟨y, hy⟩ := ih (d - 1) (by omega) (i + 1) (x ++ [byteAt z (i : Int)]) (by omega) (by simp; omega)
        refine ⟨y, fun m1 m2 h1 h2 => ?_⟩
        obtain ⟨m1', m2', rfl, rfl⟩ := hcur m1 m2 h1 h2
        obtain ⟨g1, g2⟩ := hy m1' m2' (by omega) (by omega)
        constructor
        · unfold g75_3L g75_2
          have hlast : (idx (i : Int) (z.size : Int) <| roomy (x.length + [(byteAt z (i : Int))].length) <| g75_3L n k1 m1' z (x ++ [(byteAt z (i : Int))]) (w64 ((i : Int) + (1 : Int)))) = k1 y := by
            rw [idx_ok (by omega) (by omega), roomy_ok (by simp; omega), w64_id (by omega) (by omega)]
            exact g1
          rw [w64_id (by omega) (by omega), bdT (by omega)]
          by_cases h3 : i + 3 ≤ z.size
          · rw [bdT (by omega), bnd_ok (by omega) (by omega) (by omega), unescaped_ok, Option.bind_some, hE' h3]
            exact hlast
          · rw [bdF (by omega)]
            exact hlast
        · unfold g33_5L g33_4 g33_2
          have hlast : (idx (i : Int) (z.size : Int) <| roomy (x.length + [(byteAt z (i : Int))].length) <| g33_3 n (g33_5L n k2 m2') z (x ++ [(byteAt z (i : Int))]) (i : Int)) = k2 y := by
            unfold g33_3
            rw [idx_ok (by omega) (by omega), roomy_ok (by simp; omega), w64_id (by omega) (by omega)]
            exact g2
          rw [w64_id (by omega) (by omega), w64_id (by omega) (by omega), w64_id (by omega) (by omega), bdT (by omega), idx_ok (by omega) (by omega)]
          cases h37 : byteAt z (i : Int) == 37 with
          | false => rw [cond_false]; exact hlast
          | true =>
            rw [cond_true]
            by_cases h3 : i + 3 ≤ z.size
            · rw [bdT (by omega), bnd_ok (by omega) (by omega) (by omega), digits_ok n hn _ (by rw [size_cutS (by omega) (by omega) (by omega)]; omega), Option.bind_some, byteAt_cutS (by omega) (by omega) (by omega) (by omega), byteAt_cutS (by omega) (by omega) (by omega) (by omega)]
              rw [show (i : Int) + 1 + 0 = (i : Int) + 1 by omega, show (i : Int) + 1 + 1 = (i : Int) + 2 by omega]
              have ra := bytesOf_range (z := z) (byteAt z ((i : Int) + 1)) (by rw [byteAt_rd (by omega) (by omega), show ((i : Int) + 1) = ((i + 1 : Nat) : Int) by omega, rd_nat, List.getD_eq_getElem?_getD, List.getElem?_eq_getElem (by rw [bytesOf_length]; omega)]; simp)
              have rb := bytesOf_range (z := z) (byteAt z ((i : Int) + 2)) (by rw [byteAt_rd (by omega) (by omega), show ((i : Int) + 2) = ((i + 2 : Nat) : Int) by omega, rd_nat, List.getD_eq_getElem?_getD, List.getElem?_eq_getElem (by rw [bytesOf_length]; omega)]; simp)
              cases hdd : isDig (byteAt z ((i : Int) + 1)) && isDig (byteAt z ((i : Int) + 2)) with
              | false => rw [cond_false]; exact hlast
              | true =>
                rw [cond_true, idx_ok (by omega) (by omega), deHex_ok _ _ ra.1 ra.2, Option.bind_some, idx_ok (by omega) (by omega), deHex_ok _ _ rb.1 rb.2, Option.bind_some, sign_ok n hn, Option.bind_some]
                simp only [Bool.and_eq_true] at hdd
                cases hsg : signs.contains (IntKind.u8.wrap (orI .i64 (shlI .i64 (hexV (byteAt z ((i : Int) + 1))) 4) (hexV (byteAt z ((i : Int) + 2))))) with
                | false => rw [cond_false]; exact hlast
                | true =>
                  exfalso
                  have h0 := hE' h3
                  rw [cut3 h3, beq_iff_eq.1 h37] at h0
                  exact (code_esc hdd.1 hdd.2 hsg).2 h0
            · rw [bdF (by omega)]
              exact hlast
    · refine ⟨x, fun m1 m2 h1 h2 => ?_⟩
      obtain ⟨m1', rfl⟩ : ∃ m, m1 = m + 1 := ⟨m1 - 1, by omega⟩
      obtain ⟨m2', rfl⟩ : ∃ m, m2 = m + 1 := ⟨m2 - 1, by omega⟩
      constructor
      · unfold g75_3L g75_2; rw [bdF (by omega)]
      · unfold g33_5L g33_4 g33_2; rw [bdF (by omega)]
theorem FnUnescape_ok (n : Nat) (hn : Big ≤ n) (z : ByteArray) : g11 n z = some (true, ()) := by
  unfold g11 g11_1
  by_cases h1 : (z.size : Int) > 2147483647
  · rw [bdT h1]
  · rw [bdF h1]
    by_cases h2 : (z.size : Int) > 1000
    · rw [bdT h2]
    · rw [bdF h2]
      obtain ⟨y, hy⟩ := loops n hn z (by omega) (fun x => some (strOfNums x, ())) (fun x => some (strOfNums x, ())) z.size 0 [] rfl (by simp)
      obtain ⟨g1, g2⟩ := hy n n (by unfold Big at hn; omega) (by unfold Big at hn; omega)
      have e1 : g32 n z = some (strOfNums y, ()) := by
        have e0 : g75 n z = some (strOfNums y, ()) := g1
        unfold g32 g32_1 g55 g55_1
        rw [e0]; rfl
      have e2 : g33 n z = some (strOfNums y, ()) := g2
      rw [e1, e2, Option.bind_some, Option.bind_some, strEq_eq]
      simp
theorem FnUnescape_pure (d : DenA g11_A) (hd : GoodA g11_A d) : ∃ n, g11_f n d = some (true, ()) :=
  ⟨Big, FnUnescape_ok Big (Nat.le_refl _) d.1⟩
end Go.Proofs.YtomidomdomjkfaaF
