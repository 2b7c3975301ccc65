/- What the program's merging comes to: the whole. -/
import Derived.Test.YthkiaiilpaojnaaDoorUPB
import Derived.Test.YthkiaiilpaojnaaDoorUPLoop
import Derived.Test.YthkiaiilpaojnaaDoorUPUtf
import Derived.Test.YthkiaiilpaojnaaDoorUPEnc
import Derived.Test.YthkiaiilpaojnaaDoorUPParts
import Derived.Test.YthkiaiilpaojnaaDoorUPTexts
import Derived.Test.YthkiaiilpaojnaaDoorUPCmp
import Derived.Test.YthkiaiilpaojnaaDoorUPMerge
import Derived.Test.YthkiaiilpaojnaaDoorUPMerge2
import Derived.Test.YthkiaiilpaojnaaDoorUPSplice
import Derived.Test.YthkiaiilpaojnaaDoorUPMergeG
import Derived.Test.YthkiaiilpaojnaaDoorUPSuf
import Derived.Test.YthkiaiilpaojnaaDoorUPPre
import Derived.Test.YthkiaiilpaojnaaDoorUGA0
import Derived.Test.YthkiaiilpaojnaaDoorUGA1
import Derived.Test.YthkiaiilpaojnaaDoorUFB
namespace Go.Proofs.YthkiaiilpaojnaaDoorUF
open Go
set_option linter.unusedVariables false
set_option linter.unusedSimpArgs false
set_option maxRecDepth 100000
theorem all_pushE (u : List Int) : ∀ A : List Rp, allR (pushE u A) = allR A + u.length
  | [] => by simp [pushE, allR]
  | (k, s) :: A => by
    rw [pushE]; split
    · simp [allR_cons]; omega
    · simp [allR_cons]; omega
theorem all_reverse : ∀ A : List Rp, allR A.reverse = allR A
  | [] => rfl
  | d :: A => by rw [List.reverse_cons, allR_append, all_reverse A]; simp [allR]; omega
theorem dels_all : ∀ P : List Rp, (delsR P).length + (inssR P).length ≤ allR P := fun P => Nat.le_trans (dels_le P) (edR_le P)
theorem all_stepE {A P : List Rp} (t : List Int) : allR (stepE A P t) ≤ allR A + allR P + t.length := by
  have hd := dels_all P
  unfold stepE
  split
  · split
    · simp only [allR_cons]; omega
    · split
      · simp only [allR_cons]; omega
      · simp only [allR_cons]
        have hl := cpl_le_left (inssR P) (delsR P)
        have hr := cpl_le_right (inssR P) (delsR P)
        have hl2 := csl_le_left ((inssR P).drop (cpl (inssR P) (delsR P))) ((delsR P).drop (cpl (inssR P) (delsR P)))
        have hr2 := csl_le_right ((inssR P).drop (cpl (inssR P) (delsR P))) ((delsR P).drop (cpl (inssR P) (delsR P)))
        have e0 : allR (fac A (delsR P) (inssR P) t).A ≤ allR A + cpl (inssR P) (delsR P) := by
          unfold fac; simp only; split
          · omega
          · rw [all_pushE, List.length_take]; omega
        unfold fac at e0 ⊢
        simp only at e0 ⊢
        simp only [List.length_take, List.length_drop, List.length_append] at *
        omega
  · split
    · rw [all_pushE]; omega
    · simp only [allR_cons, allR_append, all_reverse]; omega
theorem Hd.stepE (A P : List Rp) (t : List Int) (hA : Hd A) : Hd (stepE A P t) := by
  unfold Go.Proofs.YthkiaiilpaojnaaDoorUF.stepE
  split
  · split
    · exact .inr ⟨_, _, rfl⟩
    · split
      · exact .inr ⟨_, _, rfl⟩
      · exact .inr ⟨_, _, rfl⟩
  · split
    · rcases hA with rfl | ⟨s, A', rfl⟩
      · exact .inr ⟨_, _, rfl⟩
      · exact .inr ⟨s ++ t, A', by simp [pushE]⟩
    · exact .inr ⟨_, _, rfl⟩
theorem ne_stepE {A P : List Rp} {t : List Int} : (stepE A P t) ≠ [] := by
  unfold Go.Proofs.YthkiaiilpaojnaaDoorUF.stepE
  split
  · split
    · simp
    · split <;> simp
  · split
    · cases A with
      | nil => simp [pushE]
      | cons d A => obtain ⟨k, s⟩ := d; rw [pushE]; split <;> simp
    · simp
/-- At an equality: behind edits. -/
theorem splits_ok {β : Type} (n : Nat) (hn : Big ≤ n) (q : DenA g137_A → Option (DenR g137_R)) (kn) (p0) (A P R : List Rp) (t : List Int) (b : Bool)
    (hA : Hd A) (hP : Eds P) (hOP : Ok P) (h1 : 1 < P.length) (hl : A.length + P.length + R.length ≤ 1000000000) (hs : allR A + allR P + t.length ≤ 1000000000) :
    g137_14 (β := β) n q kn p0 (M (A.reverse ++ P ++ (0, t) :: R)) ((A.length + P.length : Nat) : Int) (cdR P : Int) (ciR P : Int) (delsR P) (inssR P) b =
      kn p0 (M ((stepE A P t).reverse ++ R)) ((stepE A P t).length : Int) := by
  have hc := cd_ci hP
  have hd := dels_all P
  dsimp only [g137_14]
  have splice_at : ∀ (A P : List Rp) (t : List Int) (es : List Rp), A.length + P.length + R.length ≤ 1000000010 → es.length ≤ 2 → g113 n (M (A.reverse ++ P ++ (0, t) :: R)) (A.length : Int) (P.length : Int) (M es) = some (M (A.reverse ++ es ++ (0, t) :: R), ()) := by
    intro A P t es h1 h2
    rw [splice_ok n hn _ _ A.length P.length (by simp [M_length]) (by simp [M_length]; omega) (by simp [M_length]; omega)]
    have e1 : (M (A.reverse ++ P ++ (0, t) :: R)).take A.length = M A.reverse := by
      rw [M_append, M_append, List.append_assoc]
      have : (M A.reverse).length = A.length := by simp [M_length]
      rw [← this, List.take_left']; rfl
    have e2 : (M (A.reverse ++ P ++ (0, t) :: R)).drop (A.length + P.length) = M ((0, t) :: R) := by
      rw [M_append]
      have : (M (A.reverse ++ P)).length = A.length + P.length := by simp [M_length]
      rw [← this, List.drop_left']; rfl
    rw [e1, e2]
    simp [M_append]
  by_cases hcd : cdR P = 0
  · -- insertions alone
    have hst : stepE A P t = (0, t) :: (1, inssR P) :: A := by unfold stepE; rw [if_pos h1, if_pos hcd]
    rw [hst]
    unfold g137_10
    rw [biF (by simp [hcd])]
    dsimp only [g137_11]
    rw [biT (by simp [hcd])]
    have hw1 : w64 (((A.length + P.length : Nat) : Int) - (ciR P : Int)) = (A.length : Int) := by rw [w64_id (by omega) (by omega)]; omega
    have hw2 : w64 ((cdR P : Int) + (ciR P : Int)) = (P.length : Int) := by rw [w64_id (by omega) (by omega)]; omega
    rw [hw1, hw2]
    have := splice_at A P t [(1, inssR P)] (by omega) (by simp)
    rw [show [((1 : Int), runesBytes (inssR P))] = M [(1, inssR P)] from rfl, this, Option.bind_some]
    dsimp only [g137_12]
    have hw3 : w64 (((A.length + P.length : Nat) : Int) - (cdR P : Int)) = ((A.length + P.length : Nat) : Int) := by rw [w64_id (by omega) (by omega)]; omega
    have hw4 : w64 ((A.length : Int) + 1) = ((A.length + 1 : Nat) : Int) := by rw [w64_id (by omega) (by omega)]; omega
    have hw5 : w64 (((A.length + 1 : Nat) : Int) + 1) = ((A.length + 2 : Nat) : Int) := by rw [w64_id (by omega) (by omega)]; omega
    rw [biF (by simp [hcd]), hw3, hw1, hw4]
    dsimp only [g137_13]
    rw [biT (by simp; omega), hw5]
    simp only [List.reverse_cons, List.append_assoc, List.singleton_append, List.cons_append, List.nil_append]
    rfl
  · by_cases hci : ciR P = 0
    · -- deletions alone
      have hst : stepE A P t = (0, t) :: (-1, delsR P) :: A := by unfold stepE; rw [if_pos h1, if_neg hcd, if_pos hci]
      rw [hst]
      unfold g137_10
      rw [biT (by simpa using hcd), biF (by simp [hci])]
      dsimp only [g137_11]
      have hw1 : w64 (((A.length + P.length : Nat) : Int) - (cdR P : Int)) = (A.length : Int) := by rw [w64_id (by omega) (by omega)]; omega
      have hw2 : w64 ((cdR P : Int) + (ciR P : Int)) = (P.length : Int) := by rw [w64_id (by omega) (by omega)]; omega
      rw [biF (by simpa using hcd), biT (by simp [hci]), hw1, hw2]
      have := splice_at A P t [(-1, delsR P)] (by omega) (by simp)
      rw [show [((-1 : Int), runesBytes (delsR P))] = M [(-1, delsR P)] from rfl, this, Option.bind_some]
      dsimp only [g137_12]
      have hw3 : w64 ((A.length : Int) - (ciR P : Int)) = (A.length : Int) := by rw [w64_id (by omega) (by omega)]; omega
      have hw4 : w64 ((A.length : Int) + 1) = ((A.length + 1 : Nat) : Int) := by rw [w64_id (by omega) (by omega)]; omega
      have hw5 : w64 (((A.length + 1 : Nat) : Int) + 1) = ((A.length + 2 : Nat) : Int) := by rw [w64_id (by omega) (by omega)]; omega
      rw [biT (by simpa using hcd), hw1, hw3, hw4, hw5]
      dsimp only [g137_13]
      rw [biF (by simp [hci])]
      simp only [List.reverse_cons, List.append_assoc, List.singleton_append, List.cons_append, List.nil_append]
      rfl
    · -- both
      have hst : stepE A P t = (0, (fac A (delsR P) (inssR P) t).t) :: (1, (fac A (delsR P) (inssR P) t).ti) :: (-1, (fac A (delsR P) (inssR P) t).td) :: (fac A (delsR P) (inssR P) t).A := by unfold stepE; rw [if_pos h1, if_neg hcd, if_neg hci]
      rw [fac_ok n hn q _ p0 A P R t (delsR P) (inssR P) (cdR P) (ciR P) b hA hcd hci hc (by omega) (by omega) (by omega) hl (by omega), hst]
      have hfl : (fac A (delsR P) (inssR P) t).A.length ≤ A.length + 1 := by
        unfold fac; simp only; split
        · omega
        · cases A with
          | nil => simp [pushE]
          | cons d A => obtain ⟨k, s⟩ := d; rw [pushE]; split <;> simp
      generalize fac A (delsR P) (inssR P) t = f at hfl ⊢
      dsimp only [g137_11]
      have hw1 : w64 (((f.A.length + P.length : Nat) : Int) - (cdR P : Int)) = ((f.A.length + ciR P : Nat) : Int) := by rw [w64_id (by omega) (by omega)]; omega
      have hw1' : w64 (((f.A.length + ciR P : Nat) : Int) - (ciR P : Int)) = (f.A.length : Int) := by rw [w64_id (by omega) (by omega)]; omega
      have hw2 : w64 ((cdR P : Int) + (ciR P : Int)) = (P.length : Int) := by rw [w64_id (by omega) (by omega)]; omega
      rw [biF (by simpa using hcd), biF (by simpa using hci), hw1, hw1', hw2]
      have := splice_at f.A P f.t [(-1, f.td), (1, f.ti)] (by omega) (by simp)
      rw [show [((-1 : Int), runesBytes f.td), ((1 : Int), runesBytes f.ti)] = M [(-1, f.td), (1, f.ti)] from rfl, this, Option.bind_some]
      dsimp only [g137_12]
      have hw4 : w64 ((f.A.length : Int) + 1) = ((f.A.length + 1 : Nat) : Int) := by rw [w64_id (by omega) (by omega)]; omega
      have hw5 : w64 (((f.A.length + 1 : Nat) : Int) + 1) = ((f.A.length + 2 : Nat) : Int) := by rw [w64_id (by omega) (by omega)]; omega
      have hw6 : w64 (((f.A.length + 2 : Nat) : Int) + 1) = ((f.A.length + 3 : Nat) : Int) := by rw [w64_id (by omega) (by omega)]; omega
      rw [biT (by simpa using hcd), hw1, hw1', hw4, hw5]
      dsimp only [g137_13]
      rw [biT (by simpa using hci), hw6]
      simp only [List.reverse_cons, List.append_assoc, List.singleton_append, List.cons_append, List.nil_append]
      rfl
theorem loop1_ok {β : Type} (n : Nat) (hn : Big ≤ n) (q : DenA g137_A → Option (DenR g137_R)) (kx) (p0) : ∀ (R A P : List Rp) (m : Nat), R.length < m → Hd A → Eds P → Ok P → Ok R →
    phi A + phi P + phi R ≤ 1000000000 → allR A + allR P + allR R ≤ 1000000000 →
    g137_30L (β := β) n q kx m p0 (M (A.reverse ++ P ++ R)) ((A.length + P.length : Nat) : Int) (cdR P : Int) (ciR P : Int) (delsR P) (inssR P) = kx p0 (M ((run1 A P R).1.reverse ++ (run1 A P R).2))
  | [], A, P, m, hm, hA, hP, hOP, hR, hph, hal => by
    obtain ⟨m, rfl⟩ : ∃ m', m = m' + 1 := ⟨m - 1, by omega⟩
    rw [g137_30L.eq_2]
    dsimp only [g137_29, g137_2]
    rw [bdF (by simp [M_length])]
    simp [run1]
  | d :: R, A, P, m, hm, hA, hP, hOP, hR, hph, hal => by
    obtain ⟨m, rfl⟩ : ∃ m', m = m' + 1 := ⟨m - 1, by simp at hm; omega⟩
    have hlA : A.length ≤ phi A := by unfold phi; omega
    have hlP : P.length ≤ phi P := by unfold phi; omega
    have hlR : R.length + 1 ≤ phi (d :: R) := by unfold phi; simp
    have hc := cd_ci hP
    have hdl := dels_all P
    have hx : M (A.reverse ++ P ++ d :: R) = M (A.reverse ++ P) ++ (d.1, enc d.2) :: M R := by rw [M_append, M_cons]
    have hl1 : (M (A.reverse ++ P)).length = A.length + P.length := by rw [M_length]; simp
    have hlm : (M (A.reverse ++ P ++ d :: R)).length = A.length + P.length + 1 + R.length := by rw [M_length]; simp; omega
    have hrd : rd (M (A.reverse ++ P ++ d :: R)) ((A.length + P.length : Nat) : Int) ((0 : Int), (⟨#[]⟩ : ByteArray)) = (d.1, enc d.2) := by rw [hx]; exact rd_mid (by rw [hl1])
    have hop := hR.of_cons.1
    have hsz := enc_size_le d.2
    have had := hal
    rw [allR_cons] at had
    have hz1 : ((A.length + P.length : Nat) : Int) < (((M (A.reverse ++ P ++ d :: R)).length : Nat) : Int) := by omega
    have hw1 : w64 (((A.length + P.length : Nat) : Int) + 1) = ((A.length + (P.length + 1) : Nat) : Int) := by rw [w64_id (by omega) (by omega)]; omega
    rw [g137_30L.eq_2]
    dsimp only [g137_29, g137_2]
    rw [bdT hz1]
    dsimp only [g137_28, g137_27, g137_3]
    rw [idx_ok (by omega) hz1, hrd]
    dsimp only [g137_26, g137_25, g137_4, g137_24]
    by_cases h1 : d.1 = 1
    · -- an insertion
      have hd0 : d.1 ≠ 0 := by omega
      have e1 : delsR (P ++ [d]) = delsR P := by rw [delsR_append]; simp [delsR, h1]
      have e2 : inssR (P ++ [d]) = inssR P ++ d.2 := by rw [inssR_append]; simp [inssR, h1]
      have e3 : cdR (P ++ [d]) = cdR P := by rw [cdR_append]; simp [cdR, h1]
      have e4 : ciR (P ++ [d]) = ciR P + 1 := by rw [ciR_append]; simp [ciR, h1]
      have ih := loop1_ok n hn q kx p0 R A (P ++ [d]) m (by simp at hm; omega) hA (hP.snoc hop.1 hd0) (hOP.append (Ok.cons' hop Ok.nil)) hR.of_cons.2
        (by rw [phi_append]; have h3 : phi (d :: R) = phi [d] + phi R := by rw [← phi_append]; rfl
            omega) (by rw [allR_append]; have h3 : allR (d :: R) = allR [d] + allR R := by rw [← allR_append]; rfl
                       omega)
      rw [e1, e2, e3, e4] at ih
      rw [biT (by simp [h1])]
      dsimp only [g137_5]
      rw [idx_ok (by omega) hz1, hrd]
      simp only
      rw [room46_ok (by omega), runes_enc hop.2, roomy_ok (by omega), hw1, w64_id (by omega) (by omega)]
      have hrun : run1 A P (d :: R) = run1 A (P ++ [d]) R := by rw [run1, if_neg hd0]
      rw [hrun, ← ih]
      simp
    · rw [biF (by simpa using h1)]
      dsimp only [g137_23, g137_6, g137_22]
      by_cases h2 : d.1 = -1
      · -- a deletion
        have hd0 : d.1 ≠ 0 := by omega
        have e1 : delsR (P ++ [d]) = delsR P ++ d.2 := by rw [delsR_append]; simp [delsR, h2]
        have e2 : inssR (P ++ [d]) = inssR P := by rw [inssR_append]; simp [inssR, h2]
        have e3 : cdR (P ++ [d]) = cdR P + 1 := by rw [cdR_append]; simp [cdR, h2]
        have e4 : ciR (P ++ [d]) = ciR P := by rw [ciR_append]; simp [ciR, h2]
        have ih := loop1_ok n hn q kx p0 R A (P ++ [d]) m (by simp at hm; omega) hA (hP.snoc hop.1 hd0) (hOP.append (Ok.cons' hop Ok.nil)) hR.of_cons.2
          (by rw [phi_append]; have h3 : phi (d :: R) = phi [d] + phi R := by rw [← phi_append]; rfl
              omega) (by rw [allR_append]; have h3 : allR (d :: R) = allR [d] + allR R := by rw [← allR_append]; rfl
                         omega)
        rw [e1, e2, e3, e4] at ih
        rw [biT (by simp [h2])]
        dsimp only [g137_7]
        rw [idx_ok (by omega) hz1, hrd]
        simp only
        rw [room46_ok (by omega), runes_enc hop.2, roomy_ok (by omega), hw1, w64_id (by omega) (by omega)]
        have hrun : run1 A P (d :: R) = run1 A (P ++ [d]) R := by rw [run1, if_neg hd0]
        rw [hrun, ← ih]
        simp
      · -- an equality
        have h0 : d.1 = 0 := by have := hop.1; omega
        obtain ⟨k0, t⟩ := d
        simp only at h0
        subst h0
        rw [biF (by simp)]
        dsimp only [g137_21, g137_8, g137_20]
        rw [biT (by simp)]
        dsimp only [g137_18, g137_9, g137_16]
        have hw2 : w64 ((cdR P : Int) + (ciR P : Int)) = (P.length : Int) := by rw [w64_id (by omega) (by omega)]; omega
        rw [hw2]
        have hphi := phi_stepE (A := A) hP t
        have halls := all_stepE (A := A) (P := P) t
        simp only at had hsz
        have hrun : run1 A P ((0, t) :: R) = run1 (stepE A P t) [] R := by rw [run1, if_pos rfl]
        have hphR : phi ((0, t) :: R) = 1 + phi R := by rw [phi_cons]; simp
        have ih := loop1_ok n hn q kx p0 R (stepE A P t) [] m (by simp at hm; omega) (Hd.stepE A P t hA) Eds.nil Ok.nil hR.of_cons.2 (by have : phi [] = 0 := rfl; omega) (by have : allR [] = 0 := rfl; omega)
        simp only [List.append_nil, List.length_nil, Nat.add_zero, cdR, ciR, delsR, inssR] at ih
        rw [hrun, ← ih]
        by_cases hp : 1 < P.length
        · rw [bdT (by omega)]
          rw [splits_ok n hn q _ p0 A P R t _ hA hP hOP hp (by omega) (by omega)]
          rfl
        · rw [bdF (by omega)]
          dsimp only [g137_15]
          by_cases hv : A.length + P.length = 0
          · -- the first one
            have hA0 : A = [] := List.eq_nil_of_length_eq_zero (by omega)
            have hP0 : P = [] := List.eq_nil_of_length_eq_zero (by omega)
            subst hA0; subst hP0
            rw [biF (by simp), hw1]
            have : stepE [] [] t = [(0, t)] := by simp [stepE, pushE]
            rw [this]
            rfl
          · rw [biT (by simp; omega)]
            have hw3 : w64 (((A.length + P.length : Nat) : Int) - 1) = ((A.length + P.length - 1 : Nat) : Int) := by rw [w64_id (by omega) (by omega)]; omega
            rw [hw3, idx_ok (by omega) (by omega)]
            by_cases hP0 : P = []
            · -- two equalities
              subst hP0
              rcases hA with rfl | ⟨s0, A', rfl⟩
              · simp at hv
              have hza := enc_size_le s0
              have hsa := had
              rw [allR_cons] at hsa
              simp only at hsa
              have e1 : M (((0, s0) :: A').reverse ++ [] ++ (0, t) :: R) = M A'.reverse ++ ((0 : Int), enc s0) :: (((0 : Int), enc t) :: M R) := by simp [M_append, M_cons, M_nil]
              have hlA' : ((((0, s0) :: A' : List Rp).length + ([] : List Rp).length - 1 : Nat) : Int) = (A'.length : Int) := by simp
              have hlA2 : ((((0, s0) :: A' : List Rp).length + ([] : List Rp).length : Nat) : Int) = ((A'.length + 1 : Nat) : Int) := by simp
              rw [hlA', hlA2]
              simp only [e1]
              have hrd1 : rd (M A'.reverse ++ ((0 : Int), enc s0) :: (((0 : Int), enc t) :: M R)) (A'.length : Int) ((0 : Int), (⟨#[]⟩ : ByteArray)) = ((0 : Int), enc s0) := rd_mid (by simp [M_length])
              have hrd2 : rd (M A'.reverse ++ ((0 : Int), enc s0) :: (((0 : Int), enc t) :: M R)) ((A'.length + 1 : Nat) : Int) ((0 : Int), (⟨#[]⟩ : ByteArray)) = ((0 : Int), enc t) := by
                have : M A'.reverse ++ ((0 : Int), enc s0) :: (((0 : Int), enc t) :: M R) = (M A'.reverse ++ [((0 : Int), enc s0)]) ++ ((0 : Int), enc t) :: M R := by simp
                rw [this]; exact rd_mid (by simp [M_length])
              have hset : ∀ v, (M A'.reverse ++ ((0 : Int), enc s0) :: (((0 : Int), enc t) :: M R)).set (A'.length : Int).toNat v = M A'.reverse ++ v :: (((0 : Int), enc t) :: M R) := fun v => set_mid (by simp [M_length])
              simp only [hrd1, hrd2, hset]
              have hll : (M A'.reverse ++ ((0 : Int), enc s0) :: (((0 : Int), enc t) :: M R)).length = A'.length + 2 + R.length := by simp [M_length]; omega
              have hll2 : ∀ v : Prt, (M A'.reverse ++ v :: (((0 : Int), enc t) :: M R)).length = A'.length + 2 + R.length := by intro v; simp [M_length]; omega
              have hlA3 : ((0, s0) :: A' : List Rp).length = A'.length + 1 := rfl
              rw [biT (by rfl), idx_ok (by omega) (by omega), idx_ok (by omega) (by omega), roomy_ok (by show (enc s0).size + (enc t).size ≤ _; omega), idx_ok (by omega) (by omega)]
              have hw4 : w64 (((A'.length + 1 : Nat) : Int) + 1) = ((A'.length + 2 : Nat) : Int) := by rw [w64_id (by omega) (by omega)]; omega
              simp only [hw4, hll2]
              have hc1 : ∀ v : Prt, cut (M A'.reverse ++ v :: (((0 : Int), enc t) :: M R)) 0 (0 + (((A'.length + 1 : Nat) : Int) - 0)) = M A'.reverse ++ [v] := by
                intro v
                rw [cut_from, show (0 + (((A'.length + 1 : Nat) : Int) - 0)).toNat = (M A'.reverse ++ [v]).length by simp [M_length]]
                have : M A'.reverse ++ v :: (((0 : Int), enc t) :: M R) = (M A'.reverse ++ [v]) ++ (((0 : Int), enc t) :: M R) := by simp
                rw [this, List.take_left']; rfl
              have hc2 : ∀ v : Prt, cut (M A'.reverse ++ v :: (((0 : Int), enc t) :: M R)) ((A'.length + 2 : Nat) : Int) (((A'.length + 2 : Nat) : Int) + (((A'.length + 2 + R.length : Nat) : Int) - ((A'.length + 2 : Nat) : Int))) = M R := by
                intro v
                rw [cut_to _ _ _ (by rw [hll2]; omega), show (((A'.length + 2 : Nat) : Int)).toNat = (M A'.reverse ++ [v, ((0 : Int), enc t)]).length by simp [M_length]; omega]
                have : M A'.reverse ++ v :: (((0 : Int), enc t) :: M R) = (M A'.reverse ++ [v, ((0 : Int), enc t)]) ++ M R := by simp
                rw [this, List.drop_left']; rfl
              simp only [hc1, hc2]
              rw [bnd_ok (by omega) (by omega) (by omega), bnd_ok (by omega) (by omega) (by omega), roomy_ok (by simp [M_length]; omega)]
              have hst : stepE ((0, s0) :: A') [] t = (0, s0 ++ t) :: A' := by simp [stepE, pushE]
              rw [hst]
              simp only [g137_17, List.reverse_cons, M_append, M_cons, M_nil, enc_append, List.length_cons, List.append_assoc, List.singleton_append]
              rfl
            · -- one edit
              have hPl : P.length = 1 := by
                have : P.length ≠ 0 := fun h => hP0 (List.eq_nil_of_length_eq_zero h)
                omega
              obtain ⟨e, rfl⟩ : ∃ e, P = [e] := by
                match P, hPl with
                | [e], _ => exact ⟨e, rfl⟩
              have hrd1 : rd (M (A.reverse ++ [e] ++ (0, t) :: R)) ((A.length + [e].length - 1 : Nat) : Int) ((0 : Int), (⟨#[]⟩ : ByteArray)) = (e.1, enc e.2) := by
                have : M (A.reverse ++ [e] ++ (0, t) :: R) = M A.reverse ++ (e.1, enc e.2) :: M ((0, t) :: R) := by simp [M_append, M_cons, M_nil]
                rw [this]; exact rd_mid (by simp [M_length])
              have he := hP e (by simp)
              rw [hrd1, biF (by show (e.1 == 0) = false; rcases he with h | h <;> rw [h] <;> rfl), hw1]
              have hst : stepE A [e] t = (0, t) :: e :: A := by simp [stepE]
              rw [hst]
              simp only [g137_17, List.reverse_cons, List.length_cons, List.length_nil, List.append_assoc, List.singleton_append]
              rfl
end Go.Proofs.YthkiaiilpaojnaaDoorUF
