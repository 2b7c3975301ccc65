/- What the program's merging comes to. -/
import Derived.Test.YthkiaiilpaojnaaDoorUPB
import Derived.Test.YthkiaiilpaojnaaDoorUPLoop
import Derived.Test.YthkiaiilpaojnaaDoorUPUtf
import Derived.Test.YthkiaiilpaojnaaDoorUPEnc
import Derived.Test.YthkiaiilpaojnaaDoorUPParts
import Derived.Test.YthkiaiilpaojnaaDoorUPTexts
import Derived.Test.YthkiaiilpaojnaaDoorUPCmp
import Derived.Test.YthkiaiilpaojnaaDoorUPMerge
import Derived.Test.YthkiaiilpaojnaaDoorUPMerge2
import Derived.Test.YthkiaiilpaojnaaDoorUPSplice
import Derived.Test.YthkiaiilpaojnaaDoorUPMergeG
import Derived.Test.YthkiaiilpaojnaaDoorUPSuf
import Derived.Test.YthkiaiilpaojnaaDoorUPPre
import Derived.Test.YthkiaiilpaojnaaDoorUPMergeL
import Derived.Test.YthkiaiilpaojnaaDoorUGA1
import Derived.Test.YthkiaiilpaojnaaDoorUFB
namespace Go.Proofs.YthkiaiilpaojnaaDoorUF
open Go
set_option linter.unusedVariables false
set_option linter.unusedSimpArgs false
set_option maxRecDepth 100000
theorem loop2_ok {β : Type} (n : Nat) (hn : Big ≤ n) (q0 : DenA g137_A → Option (DenR g137_R)) (kx) (p0) : ∀ (k : Nat) (R A : List Rp) (ch : Bool) (m : Nat), R.length = k → k < m → Ok A → Ok R →
    A.length + R.length ≤ 1000000000 → allR A + allR R ≤ 1000000000 →
    g137_35L (β := β) n q0 kx m p0 (M (A.reverse ++ R)) ((A.length + 1 : Nat) : Int) ch = kx p0 (M (slide A R ch).1) (slide A R ch).2 := by
  intro k
  induction k using Nat.strongRecOn with
  | _ k ih =>
    intro R A ch m hk hm hA hR hl hal
    obtain ⟨m, rfl⟩ : ∃ m', m = m' + 1 := ⟨m - 1, by omega⟩
    have hlm : (M (A.reverse ++ R)).length = A.length + R.length := by rw [M_length]; simp
    have hw0 : w64 (((M (A.reverse ++ R)).length : Int) - 1) = (A.length : Int) + (R.length : Int) - 1 := by rw [w64_id (by omega) (by omega)]; omega
    rw [g137_35L.eq_2]
    unfold g137_34
    rw [hw0]
    by_cases h3 : R.length < 3
    · rw [bdF (by omega)]
      have : slide A R ch = (A.reverse ++ R, ch) := by
        match R, h3 with
        | [], _ => unfold slide; rfl
        | [p], _ => unfold slide; rfl
        | [p, c], _ => unfold slide; rfl
      rw [this]
    · obtain ⟨p, c, q, R, rfl⟩ : ∃ p c q R', R = p :: c :: q :: R' := by
        match R, h3 with
        | [], h3 => simp at h3
        | [p], h3 => simp at h3
        | [p, c], h3 => simp at h3
        | p :: c :: q :: R, _ => exact ⟨p, c, q, R, rfl⟩
      · skip
        have hRl : (p :: c :: q :: R).length = R.length + 3 := rfl
        have hp := hR.of_cons.1
        have hc := hR.of_cons.2.of_cons.1
        have hq := hR.of_cons.2.of_cons.2.of_cons.1
        have hR' := hR.of_cons.2.of_cons.2.of_cons.2
        simp only [allR_cons] at hal
        have hzp := enc_size_le p.2
        have hzc := enc_size_le c.2
        have hzq := enc_size_le q.2
        have hx : M (A.reverse ++ p :: c :: q :: R) = M A.reverse ++ (p.1, enc p.2) :: (c.1, enc c.2) :: (q.1, enc q.2) :: M R := by rw [M_append]; rfl
        have hAl : (M A.reverse).length = A.length := by simp [M_length]
        have hwm : w64 (((A.length + 1 : Nat) : Int) - 1) = (A.length : Int) := by rw [w64_id (by omega) (by omega)]; omega
        have hwp : w64 (((A.length + 1 : Nat) : Int) + 1) = ((A.length + 2 : Nat) : Int) := by rw [w64_id (by omega) (by omega)]; omega
        have g0 : ∀ u v w : Prt, rd (M A.reverse ++ u :: v :: w :: M R) (A.length : Int) ((0 : Int), (⟨#[]⟩ : ByteArray)) = u := fun u v w => rd_mid (by rw [hAl])
        have g1 : ∀ u v w : Prt, rd (M A.reverse ++ u :: v :: w :: M R) ((A.length + 1 : Nat) : Int) ((0 : Int), (⟨#[]⟩ : ByteArray)) = v := fun u v w => by
          have : M A.reverse ++ u :: v :: w :: M R = (M A.reverse ++ [u]) ++ v :: w :: M R := by simp
          rw [this]; exact rd_mid (by simp [hAl])
        have g2 : ∀ u v w : Prt, rd (M A.reverse ++ u :: v :: w :: M R) ((A.length + 2 : Nat) : Int) ((0 : Int), (⟨#[]⟩ : ByteArray)) = w := fun u v w => by
          have : M A.reverse ++ u :: v :: w :: M R = (M A.reverse ++ [u, v]) ++ w :: M R := by simp
          rw [this]; exact rd_mid (by simp [hAl])
        have s0 : ∀ u v w x : Prt, (M A.reverse ++ u :: v :: w :: M R).set (A.length : Int).toNat x = M A.reverse ++ x :: v :: w :: M R := fun u v w x => set_mid (by rw [hAl]; omega)
        have s1 : ∀ u v w x : Prt, (M A.reverse ++ u :: v :: w :: M R).set ((A.length + 1 : Nat) : Int).toNat x = M A.reverse ++ u :: x :: w :: M R := fun u v w x => by
          have : M A.reverse ++ u :: v :: w :: M R = (M A.reverse ++ [u]) ++ v :: w :: M R := by simp
          rw [this, set_mid (by simp [hAl])]; simp
        have s2 : ∀ u v w x : Prt, (M A.reverse ++ u :: v :: w :: M R).set ((A.length + 2 : Nat) : Int).toNat x = M A.reverse ++ u :: v :: x :: M R := fun u v w x => by
          have : M A.reverse ++ u :: v :: w :: M R = (M A.reverse ++ [u, v]) ++ w :: M R := by simp
          rw [this, set_mid (by simp [hAl]; omega)]; simp
        have ll : ∀ u v w : Prt, (M A.reverse ++ u :: v :: w :: M R).length = A.length + 3 + R.length := fun u v w => by simp [M_length]; omega
        have skip : g137_35L (β := β) n q0 kx m p0 (M A.reverse ++ (p.1, enc p.2) :: (c.1, enc c.2) :: (q.1, enc q.2) :: M R) ((A.length + 2 : Nat) : Int) ch = kx p0 (M (slide (p :: A) (c :: q :: R) ch).1) (slide (p :: A) (c :: q :: R) ch).2 := by
          have := ih (c :: q :: R).length (by rw [← hk]; simp) (c :: q :: R) (p :: A) ch m rfl (by simp at hk ⊢; omega) (Ok.cons' hp hA) hR.of_cons.2 (by simp at hl ⊢; omega) (by simp only [allR_cons]; omega)
          rw [← this]
          have e : M ((p :: A).reverse ++ c :: q :: R) = M A.reverse ++ (p.1, enc p.2) :: (c.1, enc c.2) :: (q.1, enc q.2) :: M R := by
            simp [M_append, M_cons, M_nil]
          rw [e]; rfl
        rw [bdT (by omega)]
        simp only [hwm, hwp, hx, g0, g1, g2, ll]
        rw [idx_ok (by omega) (by omega), idx_ok (by omega) (by omega), idx_ok (by omega) (by omega), idx_ok (by omega) (by omega)]
        rw [slide]
        by_cases hp0 : p.1 = 0
        · rw [biT (by simpa using hp0)]
          by_cases hq0 : q.1 = 0
          · rw [biT (by simpa using hq0), if_pos ⟨hp0, hq0⟩, hasSuffix_ok n _ _ hc.2 hp.2 (by omega) (by omega), Option.bind_some]
            by_cases hs : p.2 <:+ c.2
            · -- over the one ahead
              rw [if_pos hs, biT (by simpa using hs)]
              obtain ⟨e1, e2⟩ := cut_suffix hs
              have hwc : w64 (((enc c.2).size : Int) - ((enc p.2).size : Int)) = ((enc c.2).size : Int) - ((enc p.2).size : Int) := w64_id (by omega) (by omega)
              have hzt := enc_size_le (c.2.take (c.2.length - p.2.length))
              simp only [List.length_take] at hzt
              simp only [hwc, e1, s1, ll, g0, g1, g2, s2]
              simp (disch := omega) only [idx_ok, bnd_ok, roomy_ok]
              have hsp := splice_ok n hn (M A.reverse ++ (p.1, enc p.2) :: (c.1, enc p.2 ++ enc (c.2.take (c.2.length - p.2.length))) :: (q.1, enc p.2 ++ enc q.2) :: M R) [] A.length 1 (by rw [ll]; omega) (by rw [ll]; omega) (by simp)
              have ht : (M A.reverse ++ (p.1, enc p.2) :: (c.1, enc p.2 ++ enc (c.2.take (c.2.length - p.2.length))) :: (q.1, enc p.2 ++ enc q.2) :: M R).take A.length = M A.reverse := by rw [← hAl, List.take_left']; rfl
              have hd : (M A.reverse ++ (p.1, enc p.2) :: (c.1, enc p.2 ++ enc (c.2.take (c.2.length - p.2.length))) :: (q.1, enc p.2 ++ enc q.2) :: M R).drop (A.length + 1) = (c.1, enc p.2 ++ enc (c.2.take (c.2.length - p.2.length))) :: (q.1, enc p.2 ++ enc q.2) :: M R := by
                have : M A.reverse ++ (p.1, enc p.2) :: (c.1, enc p.2 ++ enc (c.2.take (c.2.length - p.2.length))) :: (q.1, enc p.2 ++ enc q.2) :: M R = (M A.reverse ++ [(p.1, enc p.2)]) ++ (c.1, enc p.2 ++ enc (c.2.take (c.2.length - p.2.length))) :: (q.1, enc p.2 ++ enc q.2) :: M R := by simp
                rw [this, show A.length + 1 = (M A.reverse ++ [(p.1, enc p.2)]).length by simp [hAl], List.drop_left']; rfl
              rw [ht, hd] at hsp
              rw [show (1 : Int) = ((1 : Nat) : Int) from rfl, hsp, Option.bind_some]
              have := ih (((q.1, p.2 ++ q.2) :: R : List Rp)).length (by rw [← hk]; simp) ((q.1, p.2 ++ q.2) :: R) ((c.1, p.2 ++ c.2.take (c.2.length - p.2.length)) :: A) true m rfl (by simp at hk ⊢; omega)
                (Ok.cons' ⟨hc.1, hp.2.append (hc.2.take _)⟩ hA) (Ok.cons' ⟨hq.1, hp.2.append hq.2⟩ hR') (by simp at hl ⊢; omega) (by have := hs.length_le; simp only [allR_cons, List.length_append, List.length_take]; omega)
              rw [← this]
              have e : M (((c.1, p.2 ++ c.2.take (c.2.length - p.2.length)) :: A).reverse ++ (q.1, p.2 ++ q.2) :: R) = M A.reverse ++ [] ++ (c.1, enc p.2 ++ enc (c.2.take (c.2.length - p.2.length))) :: (q.1, enc p.2 ++ enc q.2) :: M R := by
                simp [M_append, M_cons, M_nil, enc_append]
              rw [e]; rfl
            · rw [if_neg hs, biF (by simpa using hs), idx_ok (by omega) (by omega), idx_ok (by omega) (by omega), hasPrefix_ok n _ _ hc.2 hq.2 (by omega) (by omega), Option.bind_some]
              by_cases hs2 : q.2 <+: c.2
              · -- over the one behind
                rw [if_pos hs2, biT (by simpa using hs2)]
                obtain ⟨e1, e2⟩ := cut_prefix hs2
                have hzt := enc_size_le (c.2.drop q.2.length)
                simp only [List.length_drop] at hzt
                simp only [s0, ll, g0, g1, g2, s1, e1]
                simp (disch := omega) only [idx_ok, bnd_ok, roomy_ok]
                have hsp := splice_ok n hn (M A.reverse ++ (p.1, enc p.2 ++ enc q.2) :: (c.1, enc (c.2.drop q.2.length) ++ enc q.2) :: (q.1, enc q.2) :: M R) [] (A.length + 2) 1 (by rw [ll]; omega) (by rw [ll]; omega) (by simp)
                have hre : M A.reverse ++ (p.1, enc p.2 ++ enc q.2) :: (c.1, enc (c.2.drop q.2.length) ++ enc q.2) :: (q.1, enc q.2) :: M R = (M A.reverse ++ [(p.1, enc p.2 ++ enc q.2), (c.1, enc (c.2.drop q.2.length) ++ enc q.2)]) ++ (q.1, enc q.2) :: M R := by simp
                have ht : (M A.reverse ++ (p.1, enc p.2 ++ enc q.2) :: (c.1, enc (c.2.drop q.2.length) ++ enc q.2) :: (q.1, enc q.2) :: M R).take (A.length + 2) = M A.reverse ++ [(p.1, enc p.2 ++ enc q.2), (c.1, enc (c.2.drop q.2.length) ++ enc q.2)] := by
                  rw [hre, show A.length + 2 = (M A.reverse ++ [(p.1, enc p.2 ++ enc q.2), (c.1, enc (c.2.drop q.2.length) ++ enc q.2)]).length by simp [hAl], List.take_left']; rfl
                have hd : (M A.reverse ++ (p.1, enc p.2 ++ enc q.2) :: (c.1, enc (c.2.drop q.2.length) ++ enc q.2) :: (q.1, enc q.2) :: M R).drop (A.length + 2 + 1) = M R := by
                  have : M A.reverse ++ (p.1, enc p.2 ++ enc q.2) :: (c.1, enc (c.2.drop q.2.length) ++ enc q.2) :: (q.1, enc q.2) :: M R = (M A.reverse ++ [(p.1, enc p.2 ++ enc q.2), (c.1, enc (c.2.drop q.2.length) ++ enc q.2), (q.1, enc q.2)]) ++ M R := by simp
                  rw [this, show A.length + 2 + 1 = (M A.reverse ++ [(p.1, enc p.2 ++ enc q.2), (c.1, enc (c.2.drop q.2.length) ++ enc q.2), (q.1, enc q.2)]).length by simp [hAl], List.drop_left']; rfl
                rw [ht, hd] at hsp
                rw [show (1 : Int) = ((1 : Nat) : Int) from rfl, hsp, Option.bind_some]
                have := ih (((c.1, c.2.drop q.2.length ++ q.2) :: R : List Rp)).length (by rw [← hk]; simp) ((c.1, c.2.drop q.2.length ++ q.2) :: R) ((p.1, p.2 ++ q.2) :: A) true m rfl (by simp at hk ⊢; omega)
                  (Ok.cons' ⟨hp.1, hp.2.append hq.2⟩ hA) (Ok.cons' ⟨hc.1, (hc.2.drop _).append hq.2⟩ hR') (by simp at hl ⊢; omega) (by have := hs2.length_le; simp only [allR_cons, List.length_append, List.length_drop]; omega)
                rw [← this]
                have e : M (((p.1, p.2 ++ q.2) :: A).reverse ++ (c.1, c.2.drop q.2.length ++ q.2) :: R) = M A.reverse ++ [(p.1, enc p.2 ++ enc q.2), (c.1, enc (c.2.drop q.2.length) ++ enc q.2)] ++ [] ++ M R := by
                  simp [M_append, M_cons, M_nil, enc_append]
                rw [e]; rfl
              · rw [if_neg hs2, biF (by simpa using hs2)]
                exact skip
          · rw [biF (by simpa using hq0), if_neg (fun h => hq0 h.2)]
            exact skip
        · rw [biF (by simpa using hp0), if_neg (fun h => hp0 h.1)]
          exact skip
theorem all_texts {x : List Rp} : allR x ≤ (srcR x).length + (tgtR x).length := all_le
theorem merge_body (n : Nat) (hn : Big ≤ n) (q0 : DenA g137_A → Option (DenR g137_R)) (p0) (x : List Rp) (hx : Ok x) (hph : phi x ≤ 100000000) (hal : allR x ≤ 100000000) :
    g137_b n q0 p0 (M x) = if (slide [] (join1 x) false).2 = true then (q0 (p0, (M (slide [] (join1 x) false).1, ()))).bind (fun r => some (r.1, ())) else some (M (slide [] (join1 x) false).1, ()) := by
  have hB : (4611686018427387904 : Nat) ≤ n := hn
  have hlx : x.length ≤ phi x := by unfold phi; omega
  dsimp only [g137_b, g137_38, g137_1]
  rw [roomy_ok (by simp [M_length]; omega)]
  dsimp only [g137_31, g137_30]
  have hx0 : Ok (x ++ [(0, [])]) := hx.append (Ok.cons' ⟨.inr (.inl rfl), Valids.nil⟩ Ok.nil)
  have e0 : M x ++ [((0 : Int), (⟨#[]⟩ : ByteArray))] = M ([].reverse ++ [] ++ (x ++ [(0, [])])) := by simp [M_append, M_cons, M_nil]; rfl
  have hp0 : phi (x ++ [(0, [])]) = phi x + 1 := by rw [phi_append]; rfl
  have ha0 : allR (x ++ [(0, [])]) = allR x := by rw [allR_append]; rfl
  have h1 := loop1_ok (β := DenR g137_R) n hn q0 (fun p0 x1 => g137_32 n q0 (fun p0 x1 => g137_33 n q0 (fun p0 x1 v5 v14 => g137_36 n q0 (fun p0 x1 v14 => g137_37 n q0 (fun x4 => some (x4, ())) p0 x1 v14) p0 x1 v5 v14) p0 x1) p0 x1) p0 (x ++ [(0, [])]) [] [] n (by simp; omega) (.inl rfl) Eds.nil Ok.nil hx0 (by have : phi [] = 0 := rfl; omega) (by have : allR [] = 0 := rfl; omega)
  rw [e0]
  refine Eq.trans h1 ?_
  have hrun : (run1 [] [] (x ++ [(0, [])])).1 = stepE (run1 [] [] x).1 (run1 [] [] x).2 [] ∧ (run1 [] [] (x ++ [(0, [])])).2 = [] := by
    have key : ∀ (R A P : List Rp), run1 A P (R ++ [(0, [])]) = (stepE (run1 A P R).1 (run1 A P R).2 [], []) := by
      intro R
      induction R with
      | nil => intro A P; rfl
      | cons d R ih => intro A P; rw [List.cons_append, run1, run1]; split <;> exact ih _ _
    rw [key]; exact ⟨rfl, rfl⟩
  rw [hrun.1, hrun.2, List.append_nil]
  have hne := ne_stepE (A := (run1 [] [] x).1) (P := (run1 [] [] x).2) (t := [])
  have hok : Ok (stepE (run1 [] [] x).1 (run1 [] [] x).2 []) := (Ok.run1 Ok.nil Ok.nil hx).1.stepE (Ok.run1 Ok.nil Ok.nil hx).2 Valids.nil
  have hphs : phi (stepE (run1 [] [] x).1 (run1 [] [] x).2 []) ≤ phi x + 1 := by
    have h2 := phi_run1 x [] [] Eds.nil hx.ops
    have h3 := phi_stepE (A := (run1 [] [] x).1) h2.2 []
    have : phi [] = 0 := rfl
    omega
  have hjoin : join1 x = (chop (stepE (run1 [] [] x).1 (run1 [] [] x).2 [])).reverse := rfl
  have hokj := hx.join1
  have hphj := phi_join1 hx.ops
  have haj : allR (join1 x) ≤ 2 * allR x := by
    have h2 := join1_texts hx.ops
    have h3 := all_le (x := join1 x)
    rw [h2.1, h2.2] at h3
    have := le_all x
    omega
  have hlj : (join1 x).length ≤ phi (join1 x) := by unfold phi; omega
  have second : g137_33 n q0 (fun p0 x1 v5 v14 => g137_36 n q0 (fun p0 x1 v14 => g137_37 n q0 (fun x4 => some (x4, ())) p0 x1 v14) p0 x1 v5 v14) p0 (M (join1 x)) = if (slide [] (join1 x) false).2 = true then (q0 (p0, (M (slide [] (join1 x) false).1, ()))).bind (fun r => some (r.1, ())) else some (M (slide [] (join1 x) false).1, ()) := by
    dsimp only [g137_33, g137_36, g137_35]
    have h4 := loop2_ok (β := DenR g137_R) n hn q0 (fun p0 x1 v14 => g137_37 n q0 (fun x4 => some (x4, ())) p0 x1 v14) p0 (join1 x).length (join1 x) [] false n rfl (by omega) Ok.nil hokj (by simp; omega) (by have : allR [] = 0 := rfl; omega)
    refine Eq.trans h4 ?_
    dsimp only [g137_37]
    cases (slide [] (join1 x) false).2 with
    | true => rfl
    | false => rfl
  rw [hjoin] at second ⊢
  generalize stepE (run1 [] [] x).1 (run1 [] [] x).2 [] = y at *
  rw [← second]
  match y, hne, hok, hphs with
  | (k0, s) :: A, _, hok, hphs =>
    have hlA : A.length + 1 ≤ phi ((k0, s) :: A) := by unfold phi; simp
    have hrev : M ((k0, s) :: A).reverse = M A.reverse ++ [(k0, enc s)] := by simp [M_append, M_cons, M_nil]
    have hll : (M ((k0, s) :: A).reverse).length = A.length + 1 := by simp [M_length]
    dsimp only [g137_32]
    have hw : w64 (((M ((k0, s) :: A).reverse).length : Int) - 1) = (A.length : Int) := by rw [w64_id (by omega) (by omega)]; omega
    rw [hw, idx_ok (by omega) (by omega)]
    have hrd : rd (M ((k0, s) :: A).reverse) (A.length : Int) ((0 : Int), (⟨#[]⟩ : ByteArray)) = (k0, enc s) := by rw [hrev]; exact rd_mid (by simp [M_length])
    rw [hrd]
    by_cases hs : s = []
    · rw [biT (by subst hs; rfl), bnd_ok (by omega) (by omega) (by omega)]
      have hcut : cut (M ((k0, s) :: A).reverse) 0 (0 + ((A.length : Int) - 0)) = M A.reverse := by
        rw [cut_from, hrev, show (0 + ((A.length : Int) - 0)).toNat = (M A.reverse).length by simp [M_length], List.take_left']; rfl
      rw [hcut]
      have : chop ((k0, s) :: A) = A := by rw [chop, if_pos hs]
      rw [this]
      rfl
    · rw [biF (by
        have := enc_size_zero (x := s)
        have : (enc s).size ≠ 0 := fun h => hs (this.1 h)
        have h0 : ((enc s).size : Int) ≠ 0 := by omega
        show (((enc s).size : Int) == 0) = false
        exact beq_false_of_ne h0)]
      have : chop ((k0, s) :: A) = (k0, s) :: A := by rw [chop, if_neg hs]
      rw [this]
      rfl
theorem slide_phi {x : List Rp} (hx : Ops x) (h : (slide [] (join1 x) false).2 = true) : phi (slide [] (join1 x) false).1 < phi x := by
  have h1 := phi_slide _ [] (join1 x) false rfl
  have h2 := phi_join1 hx
  rw [if_pos ⟨h, rfl⟩] at h1
  have : phi [] = 0 := rfl
  omega
theorem mergeN_stable : ∀ (k j : Nat) {x : List Rp}, Ok x → phi x < k → phi x < j → mergeN k x = mergeN j x
  | 0, _, x, _, h, _ => by omega
  | _ + 1, 0, x, _, _, h => by omega
  | k + 1, j + 1, x, hx, hk, hj => by
    rw [mergeN, mergeN]
    split
    · rename_i h
      have := slide_phi hx.ops h
      exact mergeN_stable k j (Ok.slide _ rfl Ok.nil hx.join1) (by omega) (by omega)
    · rfl
theorem merge_rec (n : Nat) (hn : Big ≤ n) (p0) : ∀ (k : Nat) (x : List Rp), Ok x → phi x < k → phi x ≤ 100000000 → (srcR x).length + (tgtR x).length ≤ 100000000 → g137_rec n k (p0, (M x, ())) = some (M (merge x), ()) := by
  intro k
  induction k with
  | zero => intro x _ h; omega
  | succ k ih =>
    intro x hx hk hph hal
    have h1 := merge_body n hn (g137_rec n k) p0 x hx hph (Nat.le_trans all_le hal)
    refine Eq.trans (show _ = g137_b n (g137_rec n k) p0 (M x) from rfl) ?_
    rw [h1]
    have hst := mergeN_stable (phi x + 1) (phi x + 1 + 1) hx (by omega) (by omega)
    unfold merge
    rw [hst, mergeN]
    have hjt := join1_texts hx.ops
    have hst2 := slide_texts _ [] (join1 x) false rfl
    simp only [List.reverse_nil, List.nil_append] at hst2
    split
    · rename_i h
      have h2 := slide_phi hx.ops h
      have h3 : Ok (slide [] (join1 x) false).1 := Ok.slide _ rfl Ok.nil hx.join1
      have h4 := ih _ h3 (by omega) (by omega) (by rw [hst2.1, hst2.2.1, hjt.1, hjt.2]; exact hal)
      rw [h4]
      refine (show _ = some (M (merge (slide [] (join1 x) false).1), ()) from rfl).trans ?_
      unfold merge
      rw [mergeN_stable (phi (slide [] (join1 x) false).1 + 1) (phi x + 1) h3 (by omega) (by omega)]
    · rfl
theorem merge_ok (n : Nat) (hn : Big ≤ n) (p0) (x : List Rp) (hx : Ok x) (hph : phi x ≤ 100000000) (hal : (srcR x).length + (tgtR x).length ≤ 100000000) : g137 n p0 (M x) = some (M (merge x), ()) :=
  merge_rec n hn p0 n x hx (by unfold Big at hn; omega) hph hal
end Go.Proofs.YthkiaiilpaojnaaDoorUF
