/- The plain statement of FnMainSame. -/
import Derived.Test.YthkiaiilpaojnaaDoorUPB
import Derived.Test.YthkiaiilpaojnaaDoorUPLoop
import Derived.Test.YthkiaiilpaojnaaDoorUPUtf
import Derived.Test.YthkiaiilpaojnaaDoorUPEnc
import Derived.Test.YthkiaiilpaojnaaDoorUPAsc
import Derived.Test.YthkiaiilpaojnaaDoorUPParts
import Derived.Test.YthkiaiilpaojnaaDoorUPTexts
import Derived.Test.YthkiaiilpaojnaaDoorUPSame
import Derived.Test.YthkiaiilpaojnaaDoorUPCmp
import Derived.Test.YthkiaiilpaojnaaDoorUPMerge
import Derived.Test.YthkiaiilpaojnaaDoorUPMerge2
import Derived.Test.YthkiaiilpaojnaaDoorUPTidy
import Derived.Test.YthkiaiilpaojnaaDoorUPTidy2
import Derived.Test.YthkiaiilpaojnaaDoorUPDist
import Derived.Test.YthkiaiilpaojnaaDoorUPDstEd
import Derived.Test.YthkiaiilpaojnaaDoorUPMain
import Derived.Test.YthkiaiilpaojnaaDoorUPMain2
import Derived.Test.YthkiaiilpaojnaaDoorUPDMain
import Derived.Test.YthkiaiilpaojnaaDoorUGA5
import Derived.Test.YthkiaiilpaojnaaDoorUFB
namespace Go.Proofs.YthkiaiilpaojnaaDoorUF
open Go
set_option linter.unusedVariables false
set_option linter.unusedSimpArgs false
theorem ld_nbs {a b : List Int} {l : List Rp} (h : (a = b ∧ l = eqPart a) ∨ (a ≠ b ∧ ∃ x, LD a b x ∧ l = merge x)) : Nbs l := by
  rcases h with ⟨_, rfl⟩ | ⟨_, z, hz, rfl⟩
  · unfold eqPart; split <;> trivial
  · exact (merge_tidy hz.ok hz.full hz.best).2
theorem only_del {l : List Rp} (ho : Ops l) (hf : Full l) (hn : Nbs l) (ht : tgtR l = []) : l = [] ∨ ∃ t, l = [(-1, t)] := by
  have hall : ∀ d ∈ l, d.1 = -1 := by
    intro d hd
    obtain ⟨u, v, rfl⟩ := List.append_of_mem hd
    rw [tgtR_append] at ht
    have h1 := (List.append_eq_nil_iff.1 ht).2
    unfold tgtR at h1
    have h2 := (List.append_eq_nil_iff.1 h1).1
    by_cases h : d.1 = -1
    · exact h
    · rw [if_neg h] at h2; exact absurd h2 (hf d hd)
  match l, hn, hall with
  | [], _, _ => exact .inl rfl
  | [(k, t)], _, hall => have := hall (k, t) (by simp); simp only at this; subst this; exact .inr ⟨t, rfl⟩
  | d :: e :: l, hn, hall =>
    have h1 := hall d (by simp)
    have h2 := hall e (by simp)
    exact absurd (h1.trans h2.symm) hn.1
theorem only_ins {l : List Rp} (ho : Ops l) (hf : Full l) (hn : Nbs l) (ht : srcR l = []) : l = [] ∨ ∃ t, l = [(1, t)] := by
  have hall : ∀ d ∈ l, d.1 = 1 := by
    intro d hd
    obtain ⟨u, v, rfl⟩ := List.append_of_mem hd
    rw [srcR_append] at ht
    have h1 := (List.append_eq_nil_iff.1 ht).2
    unfold srcR at h1
    have h2 := (List.append_eq_nil_iff.1 h1).1
    by_cases h : d.1 = 1
    · exact h
    · rw [if_neg h] at h2; exact absurd h2 (hf d hd)
  match l, hn, hall with
  | [], _, _ => exact .inl rfl
  | [(k, t)], _, hall => have := hall (k, t) (by simp); simp only at this; subst this; exact .inr ⟨t, rfl⟩
  | d :: e :: l, hn, hall =>
    have h1 := hall d (by simp)
    have h2 := hall e (by simp)
    exact absurd (h1.trans h2.symm) hn.1
theorem mainSame_law (n : Nat) (hn : Big ≤ n) (x : ByteArray) (ln : Bool) : g13 n x ln = some (true, ()) := by
  dsimp only [g13, g13_1]
  by_cases h1 : (x.size : Int) > 2147483647
  · rw [bdT h1]
  rw [bdF h1, show (300 : Int) = ((300 : Nat) : Int) from rfl, clean_ok n x 300 (by omega), Option.bind_some]
  have va : Valids ((runesOf x).take 300) := (runesOf_valid x).take _
  have la : ((runesOf x).take 300).length ≤ 300 := by rw [List.length_take]; omega
  generalize (runesOf x).take 300 = a at *
  simp only
  -- a text and itself
  have same : ∀ b : List Int, Valids b → b.length ≤ 300 → g39 n (enc b) (enc b) ln = some (M (eqPart b), ()) := fun b vb lb => by
    obtain ⟨l, g1, g2, g3⟩ := dfMainL_ok n hn b b ln (.inr (.inr (.inr rfl))) vb vb (by omega)
    rcases g3 with ⟨_, rfl⟩ | ⟨h, _⟩
    · exact g1
    · exact absurd rfl h
  have sp : ∀ xs : List Rp, xs.length ≤ 1000 → Ok xs → g19 n (M xs) (M xs) = some (true, ()) := fun xs hl ho => by
    have := same_ok n hn xs xs (by omega) ho ho
    rw [decide_eq_true rfl] at this
    exact this
  by_cases ha : a = []
  · subst ha
    rw [biT (by rw [← enc_nil, strEq_enc Valids.nil Valids.nil]; simp), bind_some' (same [] Valids.nil (by simp))]
    simp only
    rw [biT (by rfl)]
    have vx : Valids [120] := Asc.valids (by intro b hb; simp at hb; omega)
    have ex : (⟨#[120]⟩ : ByteArray) = enc [120] := by rw [← Asc.eq (by intro b hb; simp at hb; omega)]; rfl
    rw [ex, bind_some' (same [120] vx (by simp))]
    simp only
    have e : [((0 : Int), enc [120])] = M (eqPart [120]) := rfl
    rw [e, bind_some' (sp _ (by decide) (eqPart_ok vx).1)]
  · have e0 : (⟨#[]⟩ : ByteArray) = enc [] := rfl
    have eqa : eqPart a = [(0, a)] := by unfold eqPart; rw [if_neg ha]
    rw [biF (by rw [e0, strEq_enc va Valids.nil]; simpa using ha), bind_some' (same a va la)]
    simp only
    have e : [((0 : Int), enc a)] = M (eqPart a) := by rw [eqa]; rfl
    rw [e, bind_some' (sp _ (by rw [eqa]; simp) (eqPart_ok va).1), e0]
    simp only
    obtain ⟨l, g1, g2, g3⟩ := dfMainL_ok n hn a [] ln (.inr (.inr (.inl (by simp)))) va Valids.nil (by simp; omega)
    have hl : l = [(-1, a)] := by
      rcases only_del g2.ok.ops g2.full (ld_nbs g3) g2.tgt with h | ⟨t, h⟩
      · exact absurd (by rw [← g2.src, h]; rfl) ha
      · have := g2.src; rw [h] at this; simp [srcR] at this; rw [h, this]
    subst hl
    rw [bind_some' g1]
    simp only
    have e2 : [((-1 : Int), enc a)] = M [(-1, a)] := rfl
    rw [e2, bind_some' (sp _ (by simp) g2.ok)]
    simp only
    obtain ⟨l, k1, k2, k3⟩ := dfMainL_ok n hn [] a ln (.inr (.inl (by simp))) Valids.nil va (by simp; omega)
    have hl : l = [(1, a)] := by
      rcases only_ins k2.ok.ops k2.full (ld_nbs k3) k2.src with h | ⟨t, h⟩
      · exact absurd (by rw [← k2.tgt, h]; rfl) ha
      · have := k2.tgt; rw [h] at this; simp [tgtR] at this; rw [h, this]
    subst hl
    rw [bind_some' k1]
    simp only
    have e3 : [((1 : Int), enc a)] = M [(1, a)] := rfl
    rw [e3, bind_some' (sp _ (by simp) k2.ok)]
    rfl
theorem FnMainSame_pure : ∀ d, GoodA g13_A d → ∃ n, g13_f n d = some (true, ()) := fun d _ => ⟨Big, mainSame_law Big (Nat.le_refl _) d.1 d.2.1⟩
end Go.Proofs.YthkiaiilpaojnaaDoorUF
