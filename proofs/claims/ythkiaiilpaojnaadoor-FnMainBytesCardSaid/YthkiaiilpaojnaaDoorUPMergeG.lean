/- What the program's merging comes to: its first pass. -/
import Derived.Test.YthkiaiilpaojnaaDoorUPB
import Derived.Test.YthkiaiilpaojnaaDoorUPLoop
import Derived.Test.YthkiaiilpaojnaaDoorUPUtf
import Derived.Test.YthkiaiilpaojnaaDoorUPEnc
import Derived.Test.YthkiaiilpaojnaaDoorUPParts
import Derived.Test.YthkiaiilpaojnaaDoorUPTexts
import Derived.Test.YthkiaiilpaojnaaDoorUPCmp
import Derived.Test.YthkiaiilpaojnaaDoorUPMerge
import Derived.Test.YthkiaiilpaojnaaDoorUPSplice
import Derived.Test.YthkiaiilpaojnaaDoorUGA1
import Derived.Test.YthkiaiilpaojnaaDoorUFB
namespace Go.Proofs.YthkiaiilpaojnaaDoorUF
open Go
set_option linter.unusedVariables false
set_option linter.unusedSimpArgs false
set_option maxRecDepth 100000
def M (l : List Rp) : List Prt := l.map emb
theorem M_append (x y : List Rp) : M (x ++ y) = M x ++ M y := List.map_append
theorem M_cons (d : Rp) (x : List Rp) : M (d :: x) = (d.1, enc d.2) :: M x := rfl
theorem M_length (x : List Rp) : (M x).length = x.length := List.length_map _
theorem M_nil : M [] = [] := rfl
theorem rd_mid {α : Type} {X : List α} {d : α} {Y : List α} {i : Int} {z : α} (h : i = X.length) : rd (X ++ d :: Y) i z = d := by
  subst h; rw [rd_nat, List.getD_eq_getElem?_getD, List.getElem?_append_right (Nat.le_refl _)]; simp
theorem set_mid {α : Type} {X : List α} {d v : α} {Y : List α} {i : Nat} (h : i = X.length) : (X ++ d :: Y).set i v = X ++ v :: Y := by
  subst h; rw [List.set_append_right _ _ (Nat.le_refl _)]; simp
theorem cut_take {α : Type} (x : List α) (b : Int) : cut x 0 b = x.take b.toNat := cut_from x b
def Fits (n : Nat) : Prop := n ≤ 1000000000
theorem emb_size (d : Rp) : (emb d).2.size ≤ 4 * d.2.length := enc_size_le d.2
theorem fac_ok {β : Type} (n : Nat) (hn : Big ≤ n) (q : DenA g137_A → Option (DenR g137_R)) (kn) (p0) (A P R : List Rp) (t td ti : List Int) (cd ci : Nat) (b : Bool)
    (hA : Hd A) (hcd : cd ≠ 0) (hci : ci ≠ 0) (hP : cd + ci = P.length) (ht : t.length ≤ 1000000000) (htd : td.length ≤ 1000000000) (hti : ti.length ≤ 1000000000) (hl : A.length + P.length + R.length ≤ 1000000000) (hAs : allR A ≤ 1000000000) :
    g137_10 (β := β) n q kn p0 (M (A.reverse ++ P ++ (0, t) :: R)) ((A.length + P.length : Nat) : Int) (cd : Int) (ci : Int) td ti b =
      kn p0 (M ((fac A td ti t).A.reverse ++ P ++ (0, (fac A td ti t).t) :: R)) (((fac A td ti t).A.length + P.length : Nat) : Int) (cd : Int) (ci : Int) (fac A td ti t).td (fac A td ti t).ti := by
  have hc1 := cpl_le_left ti td
  have hc2 := cpl_le_right ti td
  have hs1 := csl_le_left (ti.drop (cpl ti td)) (td.drop (cpl ti td))
  have hs2 := csl_le_right (ti.drop (cpl ti td)) (td.drop (cpl ti td))
  simp only [List.length_drop] at hs1 hs2
  have hze := enc_size_le t
  unfold g137_10
  rw [biT (by simp; omega), biT (by simp; omega), prefix_ok n hn ti td (by omega), Option.bind_some]
  have hI0 : w64 (w64 (((A.length + P.length : Nat) : Int) - cd) - ci) = (A.length : Int) := by
    rw [w64_id (n := ((A.length + P.length : Nat) : Int) - cd) (by omega) (by omega), w64_id (by omega) (by omega)]; omega
  rw [hI0]
  have hx1 : M (A.reverse ++ P ++ (0, t) :: R) = M (A.reverse ++ P) ++ ((0 : Int), enc t) :: M R := by rw [M_append, M_cons]
  have hlm : (M (A.reverse ++ P ++ (0, t) :: R)).length = A.length + P.length + 1 + R.length := by rw [M_length]; simp; omega
  have hl1 : (M (A.reverse ++ P)).length = A.length + P.length := by rw [M_length]; simp
  by_cases hc : cpl ti td = 0
  · -- no common prefix
    have hf : fac A td ti t = ⟨A, td.take (td.length - csl ti td), ti.take (ti.length - csl ti td), ti.drop (ti.length - csl ti td) ++ t⟩ := by
      unfold fac; simp only [hc, if_true, List.drop_zero]
    rw [hc] at hs1 hs2
    simp only [List.drop_zero, Nat.sub_zero] at hs1 hs2
    rw [biF (by simp [hc]), suffix_ok n hn ti td (by omega) (by omega), Option.bind_some, hf]
    simp only
    by_cases hs : csl ti td = 0
    · rw [biF (by simp [hs]), hs]
      simp
    · rw [biT (by simpa using hs)]
      have hzd := enc_size_le (ti.drop (ti.length - csl ti td))
      have hw1 : w64 ((ti.length : Int) - (csl ti td : Int)) = ((ti.length - csl ti td : Nat) : Int) := by rw [w64_id (by omega) (by omega)]; omega
      have hw2 : w64 ((td.length : Int) - (csl ti td : Int)) = ((td.length - csl ti td : Nat) : Int) := by rw [w64_id (by omega) (by omega)]; omega
      simp only [hw1, hw2]
      have hrd : rd (M (A.reverse ++ P ++ (0, t) :: R)) ((A.length + P.length : Nat) : Int) ((0 : Int), (⟨#[]⟩ : ByteArray)) = ((0 : Int), enc t) := by rw [hx1]; exact rd_mid (by rw [hl1])
      rw [hrd]
      have hcut1 : cut ti ((ti.length - csl ti td : Nat) : Int) (((ti.length - csl ti td : Nat) : Int) + ((ti.length : Int) - ((ti.length - csl ti td : Nat) : Int))) = ti.drop (ti.length - csl ti td) := by
        rw [cut_to _ _ _ (by omega)]; congr 1
      have hcut2 : cut td 0 (0 + (((td.length - csl ti td : Nat) : Int) - 0)) = td.take (td.length - csl ti td) := by rw [cut_from]; congr 1; omega
      have hcut3 : cut ti 0 (0 + (((ti.length - csl ti td : Nat) : Int) - 0)) = ti.take (ti.length - csl ti td) := by rw [cut_from]; congr 1; omega
      rw [hcut1, hcut2, hcut3]
      simp only [List.length_drop] at hzd
      rw [bnd_ok (by omega) (by omega) (by omega), idx_ok (by omega) (by omega), roomy_ok (by show (enc _).size + (enc t).size ≤ _; omega), idx_ok (by omega) (by omega), bnd_ok (by omega) (by omega) (by omega), bnd_ok (by omega) (by omega) (by omega)]
      have hset : (M (A.reverse ++ P ++ (0, t) :: R)).set ((A.length + P.length : Nat) : Int).toNat ((0 : Int), enc (ti.drop (ti.length - csl ti td)) ++ enc t) = M (A.reverse ++ P ++ (0, ti.drop (ti.length - csl ti td) ++ t) :: R) := by
        rw [hx1, set_mid (by rw [hl1]; omega)]; simp only [M_append, M_cons, enc_append]
      show kn p0 ((M (A.reverse ++ P ++ (0, t) :: R)).set ((A.length + P.length : Nat) : Int).toNat ((0 : Int), enc (ti.drop (ti.length - csl ti td)) ++ enc t)) _ _ _ _ _ = _
      rw [hset]
  · -- a common prefix
    rw [biT (by simpa using hc)]
    have hzp := enc_size_le (ti.take (cpl ti td))
    simp only [List.length_take] at hzp
    have hcutP : cut ti 0 (0 + (((cpl ti td : Nat) : Int) - 0)) = ti.take (cpl ti td) := by rw [cut_from]; congr 1; omega
    have hcutI : cut ti ((cpl ti td : Nat) : Int) (((cpl ti td : Nat) : Int) + ((ti.length : Int) - ((cpl ti td : Nat) : Int))) = ti.drop (cpl ti td) := by rw [cut_to _ _ _ (by omega)]; congr 1
    have hcutD : cut td ((cpl ti td : Nat) : Int) (((cpl ti td : Nat) : Int) + ((td.length : Int) - ((cpl ti td : Nat) : Int))) = td.drop (cpl ti td) := by rw [cut_to _ _ _ (by omega)]; congr 1
    simp only [hcutP, hcutI, hcutD]
    rw [suffix_ok n hn (ti.drop (cpl ti td)) (td.drop (cpl ti td)) (by simp; omega) (by simp; omega)]
    simp only [Option.bind_some]
    generalize hS : csl (ti.drop (cpl ti td)) (td.drop (cpl ti td)) = s at hs1 hs2
    generalize hC : cpl ti td = c at *
    have hw1 : w64 ((ti.length : Int) - (c : Int) - (s : Int)) = ((ti.length - c - s : Nat) : Int) := by rw [w64_id (by omega) (by omega)]; omega
    have hw2 : w64 ((td.length : Int) - (c : Int) - (s : Int)) = ((td.length - c - s : Nat) : Int) := by rw [w64_id (by omega) (by omega)]; omega
    have hcut1 : cut ti ((c : Int) + ((ti.length - c - s : Nat) : Int)) ((c : Int) + ((ti.length - c - s : Nat) : Int) + ((ti.length : Int) - (c : Int) - ((ti.length - c - s : Nat) : Int))) = (ti.drop c).drop ((ti.drop c).length - s) := by
      rw [cut_to _ _ _ (by omega), List.drop_drop, List.length_drop]; congr 1 <;> omega
    have hcut2 : cut td ((c : Int) + 0) ((c : Int) + 0 + (((td.length - c - s : Nat) : Int) - 0)) = (td.drop c).take ((td.drop c).length - s) := by
      unfold cut; rw [List.length_drop, show ((c : Int) + 0).toNat = c by omega, show ((c : Int) + 0 + (((td.length - c - s : Nat) : Int) - 0)).toNat - c = td.length - c - s by omega]
    have hcut3 : cut ti ((c : Int) + 0) ((c : Int) + 0 + (((ti.length - c - s : Nat) : Int) - 0)) = (ti.drop c).take ((ti.drop c).length - s) := by
      unfold cut; rw [List.length_drop, show ((c : Int) + 0).toNat = c by omega, show ((c : Int) + 0 + (((ti.length - c - s : Nat) : Int) - 0)).toNat - c = ti.length - c - s by omega]
    have hzd : (enc ((ti.drop c).drop ((ti.drop c).length - s))).size ≤ 4 * ti.length := Nat.le_trans (enc_size_le _) (by simp only [List.length_drop]; omega)
    have hf : fac A td ti t = ⟨pushE (ti.take c) A, (td.drop c).take ((td.drop c).length - s), (ti.drop c).take ((ti.drop c).length - s), (ti.drop c).drop ((ti.drop c).length - s) ++ t⟩ := by
      unfold fac; simp only [hC, hS, if_neg hc]
    simp only [hw1, hw2, hcut1, hcut2, hcut3]
    rw [hf]
    have hs0 : s = 0 → (ti.drop c).take ((ti.drop c).length - s) = ti.drop c ∧ (td.drop c).take ((td.drop c).length - s) = td.drop c ∧ (ti.drop c).drop ((ti.drop c).length - s) = [] := by
      rintro rfl; exact ⟨List.take_of_length_le (by simp), List.take_of_length_le (by simp), List.drop_eq_nil_of_le (by simp)⟩
    rcases hA with rfl | ⟨s0, A', rfl⟩
    · -- at the beginning
      have e1 : M ([].reverse ++ P ++ (0, t) :: R) = M P ++ ((0 : Int), enc t) :: M R := by simp [M_append, M_cons]
      have hw3 : w64 (((0 + P.length : Nat) : Int) + 1) = ((1 + P.length : Nat) : Int) := by rw [w64_id (by omega) (by omega)]; omega
      rw [bdF (by simp)]
      simp only [List.length_nil, hw3, e1]
      have hlm' : ([((0 : Int), runesBytes (ti.take c))] ++ (M P ++ ((0 : Int), enc t) :: M R)).length = 1 + P.length + 1 + R.length := by simp [M_length]; omega
      have hrd : rd ([((0 : Int), runesBytes (ti.take c))] ++ (M P ++ ((0 : Int), enc t) :: M R)) ((1 + P.length : Nat) : Int) ((0 : Int), (⟨#[]⟩ : ByteArray)) = ((0 : Int), enc t) := by
        rw [← List.append_assoc]; exact rd_mid (by simp [M_length]; omega)
      have hset : ∀ v, ([((0 : Int), runesBytes (ti.take c))] ++ (M P ++ ((0 : Int), enc t) :: M R)).set ((1 + P.length : Nat) : Int).toNat v = ([((0 : Int), runesBytes (ti.take c))] ++ M P) ++ v :: M R := by
        intro v; rw [← List.append_assoc]; exact set_mid (by simp [M_length]; omega)
      rw [bnd_ok (by omega) (by omega) (by omega), roomy_ok (by simp [M_length]; omega), bnd_ok (by omega) (by omega) (by omega), bnd_ok (by omega) (by omega) (by omega)]
      simp only [hrd, hset]
      by_cases hs : s = 0
      · rw [biF (by simp [hs])]
        obtain ⟨g1, g2, g3⟩ := hs0 hs
        rw [g1, g2, g3]
        simp [pushE, M_append, M_cons, M_nil, enc]
      · rw [biT (by simpa using hs), bnd_ok (by omega) (by omega) (by omega), idx_ok (by omega) (by omega), roomy_ok (by show (enc _).size + (enc t).size ≤ _; omega), idx_ok (by omega) (by omega), bnd_ok (by omega) (by omega) (by omega), bnd_ok (by omega) (by omega) (by omega)]
        simp only [pushE, List.reverse_cons, List.reverse_nil, List.nil_append, M_append, M_cons, M_nil, List.length_cons, List.length_nil, Nat.zero_add]
        rw [enc_append]
    · -- behind an equality
      have e1 : M (((0, s0) :: A').reverse ++ P ++ (0, t) :: R) = M A'.reverse ++ ((0 : Int), enc s0) :: (M P ++ ((0 : Int), enc t) :: M R) := by simp [M_append, M_cons, M_nil]
      have hlen : ((0, s0) :: A' : List Rp).length = A'.length + 1 := rfl
      have hw3 : w64 ((((0, s0) :: A' : List Rp).length : Int) - 1) = (A'.length : Int) := by rw [w64_id (by omega) (by omega)]; omega
      have hza := enc_size_le s0
      have hsa : s0.length ≤ 1000000000 := by rw [allR_cons] at hAs; simp only at hAs; omega
      rw [bdT (by omega)]
      simp only [hw3, e1]
      have hrd : rd (M A'.reverse ++ ((0 : Int), enc s0) :: (M P ++ ((0 : Int), enc t) :: M R)) (A'.length : Int) ((0 : Int), (⟨#[]⟩ : ByteArray)) = ((0 : Int), enc s0) := rd_mid (by simp [M_length])
      have hset : ∀ v, (M A'.reverse ++ ((0 : Int), enc s0) :: (M P ++ ((0 : Int), enc t) :: M R)).set (A'.length : Int).toNat v = M A'.reverse ++ v :: (M P ++ ((0 : Int), enc t) :: M R) := fun v => set_mid (by simp [M_length])
      have hlm2 : ∀ v : Prt, (M A'.reverse ++ v :: (M P ++ ((0 : Int), enc t) :: M R)).length = A'.length + 1 + P.length + 1 + R.length := by intro v; simp [M_length]; omega
      simp only [hrd, hset, hlm2]
      have hrd2 : ∀ v : Prt, rd (M A'.reverse ++ v :: (M P ++ ((0 : Int), enc t) :: M R)) ((((0, s0) :: A' : List Rp).length + P.length : Nat) : Int) ((0 : Int), (⟨#[]⟩ : ByteArray)) = ((0 : Int), enc t) := by
        intro v
        have : M A'.reverse ++ v :: (M P ++ ((0 : Int), enc t) :: M R) = (M A'.reverse ++ v :: M P) ++ ((0 : Int), enc t) :: M R := by simp
        rw [this]; exact rd_mid (by simp [M_length]; omega)
      have hset2 : ∀ v u : Prt, (M A'.reverse ++ v :: (M P ++ ((0 : Int), enc t) :: M R)).set ((((0, s0) :: A' : List Rp).length + P.length : Nat) : Int).toNat u = M A'.reverse ++ v :: (M P ++ u :: M R) := by
        intro v u
        have : M A'.reverse ++ v :: (M P ++ ((0 : Int), enc t) :: M R) = (M A'.reverse ++ v :: M P) ++ ((0 : Int), enc t) :: M R := by simp
        rw [this, set_mid (by simp [M_length]; omega)]; simp
      simp only [hrd2, hset2]
      rw [idx_ok (by omega) (by omega), biT (by rfl), idx_ok (by omega) (by omega), bnd_ok (by omega) (by omega) (by omega), roomy_ok (by show (enc s0).size + (enc _).size ≤ _; omega), idx_ok (by omega) (by omega), bnd_ok (by omega) (by omega) (by omega), bnd_ok (by omega) (by omega) (by omega)]
      by_cases hs : s = 0
      · rw [biF (by simp [hs])]
        obtain ⟨g1, g2, g3⟩ := hs0 hs
        rw [g1, g2, g3]
        simp only [pushE, if_true, List.reverse_cons, M_append, M_cons, M_nil, List.length_cons, enc_append, List.nil_append, List.append_assoc, List.singleton_append, List.cons_append]
      · rw [biT (by simpa using hs), bnd_ok (by omega) (by omega) (by omega), idx_ok (by omega) (by omega), roomy_ok (by show (enc _).size + (enc t).size ≤ _; omega), idx_ok (by omega) (by omega), bnd_ok (by omega) (by omega) (by omega), bnd_ok (by omega) (by omega) (by omega)]
        simp only [pushE, if_true, List.reverse_cons, M_append, M_cons, M_nil, List.length_cons, enc_append, List.nil_append, List.append_assoc, List.singleton_append, List.cons_append]
end Go.Proofs.YthkiaiilpaojnaaDoorUF
