/- The Levenshtein distance of a difference. -/
import Derived.Test.YticibdjilmclgaaDoorUPB
import Derived.Test.YticibdjilmclgaaDoorUPLoop
import Derived.Test.YticibdjilmclgaaDoorUPUtf
import Derived.Test.YticibdjilmclgaaDoorUPEnc
import Derived.Test.YticibdjilmclgaaDoorUPParts
import Derived.Test.YticibdjilmclgaaDoorUPTexts
import Derived.Test.YticibdjilmclgaaDoorUPMerge
import Derived.Test.YticibdjilmclgaaDoorUPMerge2
import Derived.Test.YticibdjilmclgaaDoorUGA5
import Derived.Test.YticibdjilmclgaaDoorUFB
namespace Go.Proofs.YticibdjilmclgaaDoorUF
open Go
set_option linter.unusedVariables false
set_option linter.unusedSimpArgs false
theorem count_ok (n : Nat) (hn : Big ≤ n) (t : List Int) (ht : Valids t) (hl : t.length ≤ 1000000000) : g62 n (enc t) = some ((t.length : Int), ()) := by
  have key : ∀ (v u : List Int) (m : Nat), t = u ++ v → v.length < m → g62_3L n (fun v2 => @some (DenR [.dat (.int .i64)]) (v2, ())) m (u.length : Int) (enc t) (enc u).size = some ((t.length : Int), ()) := by
    intro v
    induction v with
    | nil =>
      intro u m e hm
      obtain ⟨m, rfl⟩ : ∃ m', m = m' + 1 := ⟨m - 1, by simp at hm; omega⟩
      rw [List.append_nil] at e
      subst e
      rw [g62_3L.eq_2, g62_2]
      have : Nat.blt (enc t).size (enc t).size = false := by rw [Bool.eq_false_iff]; intro h; rw [Nat.blt_eq] at h; omega
      rw [this]; rfl
    | cons c v ih =>
      intro u m e hm
      obtain ⟨m, rfl⟩ : ∃ m', m = m' + 1 := ⟨m - 1, by omega⟩
      have hv : Utf8.valid c = true := ht c (by rw [e]; simp)
      have hs : (enc t).size = (enc u).size + ((Utf8.encode c).size + (enc v).size) := by rw [e, enc_size_append, enc_size_cons]
      have hp := encode_pos c
      have hd : (Utf8.decode (enc t) (enc u).size).2 = (Utf8.encode c).size := by
        have := decode_encode (enc u) (enc v) c hv
        rw [e, enc_append, show enc (c :: v) = Utf8.encode c ++ enc v from runesBytes_cons c v, ← ByteArray.append_assoc, this]
      rw [g62_3L.eq_2, g62_2]
      have hll := congrArg List.length e
      simp only [List.length_append, List.length_cons] at hll
      have : Nat.blt (enc u).size (enc t).size = true := by rw [Nat.blt_eq]; omega
      rw [this, cond_true, hd, w64_id (by omega) (by omega)]
      have := ih (u ++ [c]) m (by rw [e]; simp) (by simp at hm; omega)
      rw [enc_size_append, List.length_append] at this
      have e1 : (enc [c]).size = (Utf8.encode c).size := by rw [enc_size_cons]; rfl
      rw [e1] at this
      have e2 : ((u.length + [c].length : Nat) : Int) = (u.length : Int) + 1 := by simp
      rw [e2] at this
      exact this
  dsimp only [g62, g62_6, g62_5, g62_4, g62_3, g62_1]
  have := key t [] n rfl (by unfold Big at hn; omega)
  exact this
theorem max_ok (n : Nat) (a b : Int) : g63 n a b = some (max a b, ()) := by
  dsimp only [g63, g63_1]
  by_cases h : a > b
  · first | rw [bdT h, Int.max_eq_left (by omega)] | rw [bdF (by omega), Int.max_eq_left (by omega)]
  · first | rw [bdF h, Int.max_eq_right (by omega)] | rw [bdT (by omega), Int.max_eq_right (by omega)]
def dlR (l : List Rp) : Nat := ((l.filter fun d => d.1 == -1).map fun d => d.2.length).sum
def inR (l : List Rp) : Nat := ((l.filter fun d => d.1 == 1).map fun d => d.2.length).sum
theorem dl_in : ∀ (l : List Rp), Ops l → edR l = dlR l + inR l ∧ (srcR l).length + inR l = (tgtR l).length + dlR l
  | [], _ => ⟨rfl, rfl⟩
  | (o, t) :: l, h => by
    have ih := dl_in l h.cons.2
    unfold dlR inR at ih ⊢
    rcases h.cons.1 with e | e | e
    · have e : o = -1 := e
      subst e
      simp [edR, srcR, tgtR] at ih ⊢; omega
    · have e : o = 0 := e
      subst e
      simp [edR, srcR, tgtR] at ih ⊢; omega
    · have e : o = 1 := e
      subst e
      simp [edR, srcR, tgtR] at ih ⊢; omega
/-- What the program's distance has to do with what is edited. -/
structure LInv (p : List Rp) (lev ins del : Int) : Prop where
  i0 : 0 ≤ ins
  d0 : 0 ≤ del
  l0 : 0 ≤ lev
  up : lev ≤ (edR p : Int) - ins - del
  lo : (edR p : Int) - ins - del ≤ 2 * lev
  a : (dlR p : Int) - del - (inR p - ins) ≤ lev
  b : (inR p : Int) - ins - (dlR p - del) ≤ lev
theorem lev_ok (n : Nat) (hn : Big ≤ n) (p0) (x : List Rp) (hx : Ok x) (hl : x.length ≤ 1000000) (ha : allR x ≤ 1000000) : ∃ v : Int, g45 n p0 (x.map emb) = some (v, ()) ∧ v ≤ edR x ∧ (edR x : Int) ≤ 2 * v ∧ (dlR x : Int) - inR x ≤ v ∧ (inR x : Int) - dlR x ≤ v := by
  have hlm : (x.map emb).length = x.length := List.length_map _
  have key : ∀ (q p : List Rp) (m : Nat) (lev ins del : Int), x = p ++ q → q.length < m → LInv p lev ins del →
      ∃ lev' ins' del', LInv x lev' ins' del' ∧ g45_5L n (fun v5 v6 v7 => g45_7 n (fun v4 => @some (DenR [.dat (.int .i64)]) (v4, ())) v5 v6 v7) m lev ins del (x.map emb) (x.length : Int) (p.length : Int) = g45_7 n (fun v4 => @some (DenR [.dat (.int .i64)]) (v4, ())) lev' ins' del' := by
    intro q
    induction q with
    | nil =>
      intro p m lev ins del e hm hI
      obtain ⟨m, rfl⟩ : ∃ m', m = m' + 1 := ⟨m - 1, by simp at hm; omega⟩
      rw [List.append_nil] at e
      subst e
      refine ⟨lev, ins, del, hI, ?_⟩
      rw [g45_5L.eq_2]
      dsimp only [g45_4, g45_2]
      rw [bdF (by omega)]
    | cons d q ih =>
      intro p m lev ins del e hm hI
      obtain ⟨m, rfl⟩ : ∃ m', m = m' + 1 := ⟨m - 1, by omega⟩
      have hll := congrArg List.length e
      simp only [List.length_append, List.length_cons] at hll
      have hd : OkR d := hx d (by rw [e]; simp)
      have hrd : rd (x.map emb) (p.length : Int) ((0 : Int), (⟨#[]⟩ : ByteArray)) = emb d := by
        rw [rd_at (by rw [hlm]; omega), List.getElem_map]
        congr 1
        subst e
        rw [List.getElem_append_right (by omega)]; simp
      have hdl : d.2.length ≤ allR x := allR_mem (by rw [e]; simp)
      have hex : edR p + (if d.1 = 0 then 0 else d.2.length) ≤ edR x := by rw [e, edR_append]; simp only [edR]; omega
      have hea := edR_le x
      obtain ⟨i0, d0, l0, up, lo, ia, ib⟩ := hI
      have go : ∀ (lev' ins' del' : Int), LInv (p ++ [d]) lev' ins' del' → ∃ lev'' ins'' del'', LInv x lev'' ins'' del'' ∧ g45_5L n (fun v5 v6 v7 => g45_7 n (fun v4 => @some (DenR [.dat (.int .i64)]) (v4, ())) v5 v6 v7) m lev' ins' del' (x.map emb) (x.length : Int) (w64 ((p.length : Int) + 1)) = g45_7 n (fun v4 => @some (DenR [.dat (.int .i64)]) (v4, ())) lev'' ins'' del'' := fun lev' ins' del' hI' => by
        rw [w64_id (by omega) (by omega)]
        have := ih (p ++ [d]) m lev' ins' del' (by rw [e]; simp) (by simp at hm; omega) hI'
        rw [List.length_append] at this
        have e2 : ((p.length + [d].length : Nat) : Int) = (p.length : Int) + 1 := by simp
        rw [e2] at this
        exact this
      have ed1 : edR (p ++ [d]) = edR p + (if d.1 = 0 then 0 else d.2.length) := by rw [edR_append]; simp [edR]
      have dl1 : dlR (p ++ [d]) = dlR p + (if d.1 = -1 then d.2.length else 0) := by unfold dlR; rw [List.filter_append, List.map_append, List.sum_append]; by_cases h : d.1 = -1 <;> simp [h]
      have in1 : inR (p ++ [d]) = inR p + (if d.1 = 1 then d.2.length else 0) := by unfold inR; rw [List.filter_append, List.map_append, List.sum_append]; by_cases h : d.1 = 1 <;> simp [h]
      rw [g45_5L.eq_2]
      dsimp only [g45_4, g45_3, g45_2]
      rw [bdT (by omega), idx_ok (by omega) (by rw [hlm]; omega), hrd]
      simp only [rd_zero (show (0 : Int) = 0 from rfl)]
      have e1 : (emb d).1 = d.1 := rfl
      have e2 : (emb d).2 = enc d.2 := rfl
      rw [e1, e2]
      rcases hd.1 with h | h | h
      · rw [biF (by rw [h]; rfl), biT (by rw [h]; rfl), count_ok n hn d.2 hd.2 (by omega), Option.bind_some]
        simp only
        rw [w64_id (n := del + (d.2.length : Int)) (by omega) (by omega)]
        refine go _ _ _ ⟨i0, by omega, l0, ?_, ?_, ?_, ?_⟩ <;> (rw [h] at ed1 dl1 in1; simp at ed1 dl1 in1; omega)
      · rw [biF (by rw [h]; rfl), biF (by rw [h]; rfl), biT (by rw [h]; rfl), max_ok n ins del, Option.bind_some]
        simp only
        have m1 := Int.le_max_left ins del
        have m2 := Int.le_max_right ins del
        have m3 : max ins del ≤ ins + del := Int.max_le.2 ⟨by omega, by omega⟩
        rw [w64_id (n := lev + max ins del) (by omega) (by omega)]
        refine go _ _ _ ⟨by omega, by omega, by omega, ?_, ?_, ?_, ?_⟩ <;> (rw [h] at ed1 dl1 in1; simp at ed1 dl1 in1; omega)
      · rw [biT (by rw [h]; rfl), count_ok n hn d.2 hd.2 (by omega), Option.bind_some]
        simp only
        rw [w64_id (n := ins + (d.2.length : Int)) (by omega) (by omega)]
        refine go _ _ _ ⟨by omega, d0, l0, ?_, ?_, ?_, ?_⟩ <;> (rw [h] at ed1 dl1 in1; simp at ed1 dl1 in1; omega)
  obtain ⟨lev, ins, del, hI, hr⟩ := key x [] n 0 0 0 rfl (by unfold Big at hn; omega) ⟨by omega, by omega, by omega, by simp [edR], by simp [edR], by simp [dlR, inR], by simp [dlR, inR]⟩
  obtain ⟨i0, d0, l0, up, lo, ia, ib⟩ := hI
  have m1 := Int.le_max_left ins del
  have m2 := Int.le_max_right ins del
  have m3 : max ins del ≤ ins + del := Int.max_le.2 ⟨by omega, by omega⟩
  have hea := edR_le x
  refine ⟨lev + max ins del, ?_, by omega, by omega, by omega, by omega⟩
  dsimp only [g45, g45_8, g45_6, g45_5, g45_1]
  rw [hlm]
  refine Eq.trans hr ?_
  dsimp only [g45_7]
  rw [max_ok n ins del, Option.bind_some]
  simp only
  rw [w64_id (by omega) (by omega)]
end Go.Proofs.YticibdjilmclgaaDoorUF
