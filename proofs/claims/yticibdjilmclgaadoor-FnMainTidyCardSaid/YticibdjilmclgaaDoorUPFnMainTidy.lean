/- The plain statement of FnMainTidy. -/
import Derived.Test.YticibdjilmclgaaDoorUPB
import Derived.Test.YticibdjilmclgaaDoorUPLoop
import Derived.Test.YticibdjilmclgaaDoorUPUtf
import Derived.Test.YticibdjilmclgaaDoorUPEnc
import Derived.Test.YticibdjilmclgaaDoorUPParts
import Derived.Test.YticibdjilmclgaaDoorUPTexts
import Derived.Test.YticibdjilmclgaaDoorUPCmp
import Derived.Test.YticibdjilmclgaaDoorUPPreSuf
import Derived.Test.YticibdjilmclgaaDoorUPMerge
import Derived.Test.YticibdjilmclgaaDoorUPMerge2
import Derived.Test.YticibdjilmclgaaDoorUPTidy
import Derived.Test.YticibdjilmclgaaDoorUPTidy2
import Derived.Test.YticibdjilmclgaaDoorUPDist
import Derived.Test.YticibdjilmclgaaDoorUPMain
import Derived.Test.YticibdjilmclgaaDoorUPMain2
import Derived.Test.YticibdjilmclgaaDoorUPDMain
import Derived.Test.YticibdjilmclgaaDoorUGA4
import Derived.Test.YticibdjilmclgaaDoorUGA5
import Derived.Test.YticibdjilmclgaaDoorUFB
namespace Go.Proofs.YticibdjilmclgaaDoorUF
open Go
set_option linter.unusedVariables false
set_option linter.unusedSimpArgs false
theorem Nbs.get : ∀ {l : List Rp}, Nbs l → ∀ i (h : i + 1 < l.length), l[i].1 ≠ l[i + 1].1 ∧ ¬ (l[i].1 = 1 ∧ l[i + 1].1 = -1) ∧ (l[i].1 ≠ 0 → l[i + 1].1 ≠ 0 → cpl l[i].2 l[i + 1].2 = 0 ∧ csl l[i].2 l[i + 1].2 = 0)
  | [], _, i, h => by simp at h
  | [d], _, i, h => by simp at h
  | d :: e :: l, hn, 0, h => ⟨hn.1, hn.2.1, hn.2.2.1⟩
  | d :: e :: l, hn, i + 1, h => by
    have := Nbs.get (l := e :: l) hn.2.2.2 i (by simpa using h)
    exact this
theorem eqPart_nbs (t : List Int) : Nbs (eqPart t) := by
  unfold eqPart
  split <;> trivial
theorem tidy_ok (n : Nat) (hn : Big ≤ n) (l : List Rp) (ho : Ok l) (hf : Full l) (hb : Nbs l) (hl : l.length ≤ 1000000) : g18 n (l.map emb) = some (true, ()) := by
  have hlm : (l.map emb).length = l.length := List.length_map _
  have key : ∀ (d i m : Nat), l.length - i = d → i ≤ l.length → d < m → g18_3L n (fun v2 => some (v2, ())) (g18_5 n (fun v2 => some (v2, ()))) m (l.map emb) (l.map emb) ((l.map emb).length : Int) (i : Int) = some (true, ()) := by
    intro d
    induction d with
    | zero =>
      intro i m hd hi hm
      obtain ⟨m, rfl⟩ : ∃ m', m = m' + 1 := ⟨m - 1, by omega⟩
      rw [g18_3L.eq_2, g18_2, bdF (by omega)]
      rfl
    | succ d ih =>
      intro i m hd hi hm
      obtain ⟨m, rfl⟩ : ∃ m', m = m' + 1 := ⟨m - 1, by omega⟩
      have hi' : i < l.length := by omega
      have hI : i < (l.map emb).length := by omega
      have hop := (ho l[i] (by simp)).1
      have hv := (ho l[i] (by simp)).2
      have hne := hf l[i] (by simp)
      have next := ih (i + 1) m (by omega) (by omega) (by omega)
      have e1 : (strEq (enc l[i].2) (⟨#[]⟩ : ByteArray)) = false := by rw [← enc_nil, strEq_enc hv Valids.nil]; simp [hne]
      rw [g18_3L.eq_2, g18_2, bdT (by omega), idx_ok (by omega) (by omega)]
      simp only [rd_at hI, rd_zero rfl, List.getElem_map]
      rw [show (emb l[i]).2 = enc l[i].2 from rfl, e1, cond_false, show (emb l[i]).1 = l[i].1 from rfl, bdF (by omega), bdF (by omega), w64_id (n := (i : Int) + 1) (by omega) (by omega), show (i : Int) + 1 = ((i + 1 : Nat) : Int) by omega]
      by_cases h0 : i = 0
      · rw [bdF (by omega)]; exact next
      · have hI1 : i - 1 < (l.map emb).length := by omega
        have hg := hb.get (i - 1) (by omega)
        have ei : i - 1 + 1 = i := by omega
        simp only [ei] at hg
        rw [bdT (by omega), w64_id (n := (i : Int) - 1) (by omega) (by omega), show (i : Int) - 1 = ((i - 1 : Nat) : Int) by omega, idx_ok (by omega) (by omega)]
        simp only [rd_at hI1, List.getElem_map, idx_ok (show (0 : Int) ≤ ((i - 1 : Nat) : Int) by omega) (show ((i - 1 : Nat) : Int) < ((l.map emb).length : Int) by omega)]
        rw [show (emb l[i - 1]).1 = l[i - 1].1 from rfl, biF (by simpa using hg.1)]
        by_cases h1 : l[i - 1].1 = 1
        · rw [biT (by simpa using h1), biF (by simp; exact fun h2 => hg.2.1 ⟨h1, h2⟩)]; exact next
        · rw [biF (by simpa using h1)]; exact next
  have := key l.length 0 n (by omega) (by omega) (by unfold Big at hn; omega)
  exact this
theorem factored_ok (n : Nat) (hn : Big ≤ n) (l : List Rp) (ho : Ok l) (hb : Nbs l) (hl : l.length ≤ 1000000) (ha : ∀ d ∈ l, d.2.length ≤ 1000000) : g19 n (l.map emb) = some (true, ()) := by
  have hlm : (l.map emb).length = l.length := List.length_map _
  have key : ∀ (d i m : Nat), l.length - i = d → 1 ≤ i → d < m → g19_3L n (fun v2 => some (v2, ())) (g19_5 n (fun v2 => some (v2, ()))) m (l.map emb) (i : Int) = some (true, ()) := by
    intro d
    induction d with
    | zero =>
      intro i m hd hi hm
      obtain ⟨m, rfl⟩ : ∃ m', m = m' + 1 := ⟨m - 1, by omega⟩
      rw [g19_3L.eq_2, g19_2, bdF (by omega)]
      rfl
    | succ d ih =>
      intro i m hd hi hm
      obtain ⟨m, rfl⟩ : ∃ m', m = m' + 1 := ⟨m - 1, by omega⟩
      have hi' : i < l.length := by omega
      have hi1 : i - 1 < l.length := by omega
      have hI : i < (l.map emb).length := by omega
      have hI1 : i - 1 < (l.map emb).length := by omega
      have next := ih (i + 1) m (by omega) (by omega) (by omega)
      have hv := (ho l[i] (by simp)).2
      have hv1 := (ho l[i - 1] (by simp)).2
      have hg := hb.get (i - 1) (by omega)
      have ei : i - 1 + 1 = i := by omega
      simp only [ei] at hg
      have s1 := enc_size_le l[i].2
      have s2 := enc_size_le l[i - 1].2
      have s3 := ha l[i] (by simp)
      have s4 := ha l[i - 1] (by simp)
      rw [g19_3L.eq_2, g19_2, bdT (by omega), w64_id (n := (i : Int) - 1) (by omega) (by omega), show (i : Int) - 1 = ((i - 1 : Nat) : Int) by omega, idx_ok (by omega) (by omega)]
      simp only [rd_at hI1, rd_at hI, List.getElem_map, idx_ok (show (0 : Int) ≤ ((i - 1 : Nat) : Int) by omega) (show ((i - 1 : Nat) : Int) < ((l.map emb).length : Int) by omega), idx_ok (show (0 : Int) ≤ (i : Int) by omega) (show (i : Int) < ((l.map emb).length : Int) by omega)]
      rw [show (emb l[i - 1]).2 = enc l[i - 1].2 from rfl, runesOk_enc n _ hv1 (by omega), Option.bind_some, show (emb l[i]).2 = enc l[i].2 from rfl, runesOk_enc n _ hv (by omega), Option.bind_some, w64_id (n := (i : Int) + 1) (by omega) (by omega), show (i : Int) + 1 = ((i + 1 : Nat) : Int) by omega]
      rw [show (emb l[i - 1]).1 = l[i - 1].1 from rfl, show (emb l[i]).1 = l[i].1 from rfl]
      by_cases h1 : l[i - 1].1 = 0
      · rw [biF (by simp [h1])]; exact next
      · rw [biT (by simpa using h1)]
        by_cases h2 : l[i].1 = 0
        · rw [biF (by simp [h2])]; exact next
        · rw [biT (by simpa using h2), specPrefix_ok n hn l[i - 1].2 l[i].2 (by omega) (by omega), Option.bind_some, specSuffix_ok n hn l[i - 1].2 l[i].2 (by omega) (by omega), Option.bind_some]
          have hz := hg.2.2 h1 h2
          simp only [hz.1, hz.2]
          rw [w64_id (by omega) (by omega), bdF (by omega)]
          exact next
  have := key (l.length - 1) 1 n (by omega) (by omega) (by unfold Big at hn; omega)
  exact this
theorem mainTidy_law (n : Nat) (hn : Big ≤ n) (x y : ByteArray) : g4 n x y = some (true, ()) := by
  dsimp only [g4, g4_1]
  by_cases h1 : (x.size : Int) > 2147483647
  · rw [bdT h1]
  by_cases h2 : (y.size : Int) > 2147483647
  · rw [bdF h1, bdT h2]
  rw [bdF h1, bdF h2, show (300 : Int) = ((300 : Nat) : Int) from rfl, clean_ok n x 300 (by omega), Option.bind_some, clean_ok n y 300 (by omega), Option.bind_some]
  have va : Valids ((runesOf x).take 300) := (runesOf_valid x).take _
  have vb : Valids ((runesOf y).take 300) := (runesOf_valid y).take _
  have la : ((runesOf x).take 300).length ≤ 300 := by rw [List.length_take]; omega
  have lb : ((runesOf y).take 300).length ≤ 300 := by rw [List.length_take]; omega
  generalize (runesOf x).take 300 = a at *
  generalize (runesOf y).take 300 = b at *
  simp only
  obtain ⟨l, g1, g2, g3⟩ := dfMain_ok n hn a b va vb (by omega)
  have hl := g2.len
  have hnb : Nbs l := by
    rcases g3 with ⟨_, rfl⟩ | ⟨z, hz, rfl⟩
    · exact eqPart_nbs _
    · exact (merge_tidy hz.ok hz.full hz.best).2
  have hal := all_le (x := l)
  rw [g2.src, g2.tgt] at hal
  have hd : ∀ d ∈ l, d.2.length ≤ 1000000 := fun d hd => by have := allR_mem hd; omega
  have ht : g18 n (M l) = some (true, ()) := tidy_ok n hn l g2.ok g2.full hnb (by omega)
  have hfa : g19 n (M l) = some (true, ()) := factored_ok n hn l g2.ok hnb (by omega) hd
  have ea := enc_size_le a
  have eb := enc_size_le b
  rw [bind_some' g1]
  simp only
  rw [bind_some' ht]
  simp only [cond_true]
  rw [bind_some' hfa]
  simp only [cond_true]
  have hml : (M l).length = l.length := List.length_map _
  by_cases h0 : l = []
  · subst h0
    have h3 : a = [] := g2.src.symm
    have h4 : b = [] := g2.tgt.symm
    subst h3; subst h4
    rw [bdF (by rw [hml]; simp), roomy_ok (by rw [enc_nil]; decide), ← enc_append, ← enc_nil, List.append_nil, strEq_enc Valids.nil Valids.nil]
    simp
  · have := List.length_pos_iff.2 h0
    have c : ((M l).length : Int) > 0 := by rw [hml]; omega
    rw [bdT c]
theorem FnMainTidy_pure : ∀ d, GoodA g4_A d → ∃ n, g4_f n d = some (true, ()) := fun d _ => ⟨Big, mainTidy_law Big (Nat.le_refl _) d.1 d.2.1⟩
end Go.Proofs.YticibdjilmclgaaDoorUF
