/- Plain statements about the printed functions. -/
import Derived.Test.YtfnjlgflbenfoaaDoorZPQ0
import Derived.Test.YtfnjlgflbenfoaaDoorZGA0
import Derived.Test.YtfnjlgflbenfoaaDoorZFB
namespace Go.Proofs.YtfnjlgflbenfoaaDoorZF
open Go
set_option linter.unusedVariables false
set_option linter.unusedSimpArgs false
theorem lined_ok (n : Nat) (hn : Big ≤ n) (arr : List ByteArray) (js : List Nat) (z : ByteArray) (hz : z.size ≤ 1000000) (hP : Pts arr js (linesAt z 0)) (ha : arr.length ≤ 1110016) : g17 n (chs js) arr z = some (true, ()) := by
 have hB : (4611686018427387904 : Nat) ≤ n := hn
 have hl := hP.length
 have hll := linesAt_length z z.size 0 rfl
 have hc := chs_length js
 dsimp only [g17, g17_6, g17_1, g17_4, g17_3, g17_5]
 rw [specLines_ok n hn z (by omega), Option.bind_some]
 simp only
 rw [biF (by rw [hc, hl]; simp)]
 have key : ∀ (d i m : Nat), js.length - i = d → d < m → i ≤ js.length → g17_3L n (fun v6 => some (v6, ())) (some (true, ())) m arr (linesAt z 0) (chs js) ((chs js).length : Int) (i : Int) = some (true, ()) := by
  intro d
  induction d with
  | zero =>
   intro i m hd hm hi
   obtain ⟨m, rfl⟩ : ∃ m', m = m' + 1 := ⟨m - 1, by omega⟩
   rw [g17_3L.eq_2, g17_2, bdF (by omega)]
  | succ d ih =>
   intro i m hd hm hi
   obtain ⟨m, rfl⟩ : ∃ m', m = m' + 1 := ⟨m - 1, by omega⟩
   have hi' : i < js.length := by omega
   have hI : i < (chs js).length := by omega
   have hg : (chs js)[i] = (ofN js[i] : Int) := List.getElem_map _
   have hlt := hP.lt js[i] (by simp)
   have hat := hP.at i hi'
   rw [List.getElem?_eq_getElem hlt] at hat
   have hat := Option.some.inj hat
   have hv := ofN_valid (v := js[i]) (by omega)
   have e2 : g35 n (ofN js[i] : Int) = some ((js[i] : Int), (0, ())) := by
    dsimp only [g35, g35_1, g35_2, g48, g48_1]
    rw [runeToInt_ok n (ofN js[i]) (by omega), toN_ofN (by omega)]; rfl
   have next := ih (i + 1) m (by omega) (by omega) (by omega)
   rw [g17_3L.eq_2, g17_2, bdT (by omega), idx_ok (by omega) (by omega), rd_at hI, hg, e2, Option.bind_some]
   refine (biF (by rfl)).trans ?_
   rw [w64_id (n := (js[i] : Int)) (by omega) (by omega)]
   refine (bdF (by show ¬ (arr.length : Int) ≤ (js[i] : Int); omega)).trans ?_
   rw [idx_ok (by show (0 : Int) ≤ (js[i] : Int); omega) (by show (js[i] : Int) < (arr.length : Int); omega), idx_ok (by omega) (by omega)]
   simp only [rd_at hlt, rd_at (show i < (linesAt z 0).length by omega)]
   rw [hat, strEq_eq, biF (by simp), w64_id (by omega) (by omega)]
   exact next
 exact key js.length 0 n (by omega) (by omega) (by omega)
theorem apart_ok (n : Nat) (hn : Big ≤ n) (arr : List ByteArray) (h : Hash) (H : HI arr h) (ha : arr.length ≤ 1110016) : g18 n arr = some (true, ()) := by
 have hB : (4611686018427387904 : Nat) ≤ n := hn
 dsimp only [g18, g18_14, g18_1, g18_12, g18_11, g18_13]
 have inner : ∀ (kx2 : List ByteArray → List ByteArray → Int → Int → Option (DenR [.dat .bool])) (i : Nat) (hi : i < arr.length) (d k m : Nat), i - k = d → d < m → k ≤ i → g18_5L n (fun v2 => some (v2, ())) kx2 m arr (i : Int) arr[i] (k : Int) arr (arr.length : Int) (i : Int) = kx2 arr arr (arr.length : Int) (i : Int) := by
  intro kx2 i hi d
  induction d with
  | zero =>
   intro k m hd hm hk
   obtain ⟨m, rfl⟩ : ∃ m', m = m' + 1 := ⟨m - 1, by omega⟩
   rw [g18_5L.eq_2, g18_4, bdF (by omega)]
  | succ d ih =>
   intro k m hd hm hk
   obtain ⟨m, rfl⟩ : ∃ m', m = m' + 1 := ⟨m - 1, by omega⟩
   have hk' : k < arr.length := by omega
   have next := ih (k + 1) m (by omega) (by omega) (by omega)
   have hne : arr[k] ≠ arr[i] := fun e => by
    have hi2 := List.getElem?_eq_getElem hi
    have hk2 := List.getElem?_eq_getElem hk'
    have f1 := H.find i _ (by omega) hi2
    by_cases hk0 : k = 0
    ·subst hk0
     rw [H.head] at hk2
     have := Option.some.inj hk2
     exact H.ne i _ (by omega) hi2 (by rw [← e, ← this])
    ·have f2 := H.find k _ (by omega) hk2
     rw [e, f1] at f2
     have := Option.some.inj f2
     omega
   rw [g18_5L.eq_2, g18_4, bdT (by omega), idx_ok (by omega) (by omega), rd_at hk', strEq_eq, bdF hne, w64_id (by omega) (by omega)]
   exact next
 have key : ∀ (d i m : Nat), arr.length - i = d → d < m → i ≤ arr.length → g18_11L n (fun v2 => some (v2, ())) (some (true, ())) m arr arr (arr.length : Int) (i : Int) = some (true, ()) := by
  intro d
  induction d with
  | zero =>
   intro i m hd hm hi
   obtain ⟨m, rfl⟩ : ∃ m', m = m' + 1 := ⟨m - 1, by omega⟩
   rw [g18_11L.eq_2, g18_10, g18_2, bdF (by omega)]
  | succ d ih =>
   intro i m hd hm hi
   obtain ⟨m, rfl⟩ : ∃ m', m = m' + 1 := ⟨m - 1, by omega⟩
   have hi' : i < arr.length := by omega
   have next := ih (i + 1) m (by omega) (by omega) (by omega)
   have hi2 := List.getElem?_eq_getElem hi'
   rw [g18_11L.eq_2, g18_10, g18_2, bdT (by omega)]
   dsimp only [g18_8, g18_7, g18_3, g18_6, g18_5, g18_9]
   have hc : (strEq arr[i] (⟨#[]⟩ : ByteArray) != ((i : Int) == 0)) = false := by
    by_cases hi0 : i = 0
    ·subst hi0
     rw [H.head] at hi2
     have := Option.some.inj hi2
     rw [strEq_eq, decide_eq_true this.symm]; rfl
    ·have hne := H.ne i _ (by omega) hi2
     rw [strEq_eq, decide_eq_false hne, show ((i : Int) == 0) = false by rw [beq_eq_false_iff_ne]; omega]; rfl
   rw [idx_ok (by omega) (by omega), rd_at hi', biF hc]
   refine (inner _ i hi' i 0 n (by omega) (by omega) (by omega)).trans ?_
   rw [w64_id (by omega) (by omega)]
   exact next
 exact key arr.length 0 n (by omega) (by omega) (by omega)
theorem linesBack_law (n : Nat) (hn : Big ≤ n) (x y : ByteArray) : g6 n x y = some (true, ()) := by
 dsimp only [g6, g6_1]
 by_cases h1 : (x.size : Int) > 2147483647
 ·rw [bdT h1]
 by_cases h2 : (y.size : Int) > 2147483647
 ·rw [bdF h1, bdT h2]
 rw [bdF h1, bdF h2, show (200 : Int) = ((200 : Nat) : Int) from rfl, clean_ok n x 200 (by omega), Option.bind_some, clean_ok n y 200 (by omega), Option.bind_some]
 have la : ((runesOf x).take 200).length ≤ 200 := by rw [List.length_take]; omega
 have lb : ((runesOf y).take 200).length ≤ 200 := by rw [List.length_take]; omega
 have sa := enc_size_le ((runesOf x).take 200)
 have sb := enc_size_le ((runesOf y).take 200)
 generalize enc ((runesOf x).take 200) = a at *
 generalize enc ((runesOf y).take 200) = b at *
 simp only
 have hlr : ∃ (arr : List ByteArray) (h : Hash) (ja jb : List Nat), g16 n a b = some (chs ja, (chs jb, (arr, ()))) ∧ HI arr h ∧ Pts arr ja (linesAt a 0) ∧ Pts arr jb (linesAt b 0) ∧ arr.length ≤ 1 + a.size + b.size := by
  obtain ⟨arr, h, ja, jb, e, H, P1, P2, l⟩ := linesRunes_ok n hn ((1000000000, (4, (1000, (4602678819172646912, (4, (32, 4602678819172646912)))))) : Int × (Int × (Int × (Nat × (Int × (Int × Nat)))))) a b (by omega) (by omega)
  refine ⟨arr, h, ja, jb, ?_, H, P1, P2, l⟩
  dsimp only [g16, g16_1]
  rw [bind_some' (show g27 n = some ((1000000000, (4, (1000, (4602678819172646912, (4, (32, 4602678819172646912)))))), ()) from rfl)]
  simp only
  rw [e]
  rfl
 obtain ⟨arr, h, ja, jb, e, H, P1, P2, l⟩ := hlr
 rw [bind_some' e]
 simp only
 rw [bind_some' (lined_ok n hn arr ja a (by omega) P1 (by omega))]
 simp only [cond_true]
 rw [bind_some' (lined_ok n hn arr jb b (by omega) P2 (by omega))]
 simp only [cond_true]
 rw [bind_some' (apart_ok n hn arr h H (by omega))]
 simp only [cond_true]
 have := H.len
 rw [decide_eq_true (by omega)]
theorem FnLinesBack_pure : ∀ d, GoodA g6_A d → ∃ n, g6_f n d = some (true, ()) := fun d _ => ⟨Big, linesBack_law Big (Nat.le_refl _) d.1 d.2.1⟩
end Go.Proofs.YtfnjlgflbenfoaaDoorZF
