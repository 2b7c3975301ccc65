/- Plain statements about the printed functions. -/
import Derived.Test.YtfnjlgflbenfoaaDoorZPQ0
import Derived.Test.YtfnjlgflbenfoaaDoorZGA0
import Derived.Test.YtfnjlgflbenfoaaDoorZFB
namespace Go.Proofs.YtfnjlgflbenfoaaDoorZF
open Go
set_option linter.unusedVariables false
set_option linter.unusedSimpArgs false
def fullR (l : List Rp) : List Rp := l.filter fun d => decide (d.2 ≠ [])
theorem loss_three {a s b : List Int} {op : Int} (hs : s ≠ []) (ha : a ≠ []) (hb : b ≠ []) : lossless [(0, a), (op, s), (0, b)] = fullR [(0, (shiftR a s b).1), (op, (shiftR a s b).2.1), (0, (shiftR a s b).2.2)] := by
 have hm := shiftR_moved a s b
 unfold lossless
 rw [lossF, if_pos ⟨rfl, rfl⟩]
 simp only
 generalize shiftR a s b = t at *
 have h2 : t.2.1 ≠ [] := fun h => by have := hm.len; rw [h] at this; exact hs (List.eq_nil_of_length_eq_zero this.symm)
 by_cases h1 : t.1 = a
 ·rw [if_pos h1]
  have ho := hm.out
  rw [h1] at ho
  have e3 : t.2.2 = b := List.append_cancel_left ho
  have hall := hm.all
  rw [h1, e3] at hall
  have e2 : t.2.1 = s := List.append_cancel_left (List.append_cancel_right hall)
  rw [h1, e2, e3]
  have : lossF [(0, a)] [(op, s), (0, b)] = [(0, a), (op, s), (0, b)] := by unfold lossF; rfl
  rw [this]
  simp [fullR, hs, ha, hb]
 ·rw [if_neg h1]
  by_cases h0 : t.1 = []
  ·have h3 : t.2.2 ≠ [] := fun h => by
    have := hm.out
    rw [h0, h] at this
    exact ha (List.append_eq_nil_iff.1 this.symm).1
   rw [if_pos h0]
   have : lossF [] [(op, t.2.1), (0, t.2.2)] = [(op, t.2.1), (0, t.2.2)] := by unfold lossF; rfl
   rw [this]
   simp [fullR, h0, h2, h3]
  ·rw [if_neg h0]
   by_cases h3 : t.2.2 = []
   ·rw [if_pos h3]
    have : lossF [] [(0, t.1), (op, t.2.1)] = [(0, t.1), (op, t.2.1)] := by unfold lossF; rfl
    rw [this]
    simp [fullR, h0, h2, h3]
   ·rw [if_neg h3]
    have : lossF [(0, t.1)] [(op, t.2.1), (0, t.2.2)] = [(0, t.1), (op, t.2.1), (0, t.2.2)] := by unfold lossF; rfl
    rw [this]
    simp [fullR, h0, h2, h3]
theorem best_core (n : Nat) (hn : Big ≤ n) (a s b : List Int) (op : Int) (hop : op = -1 ∨ op = 1) (hf : Flat (a ++ s ++ b)) (hl : (a ++ s ++ b).length ≤ 100) (hs : s ≠ []) (ha : a ≠ []) (hb : b ≠ []) :
  g7_4 n (fun v9 v10 v11 v13 x17 x93 v94 v95 => g7_7 n (fun v9 v10 v11 v13 x17 => g7_8 n (fun v8 => @some (DenR [.dat .bool]) (v8, ())) v9 v10 v11 v13 x17) v9 v10 v11 v13 x17 x93 v94 v95) (enc a) (enc s) (enc b) op = some (true, ()) := by
 have hB : (4611686018427387904 : Nat) ≤ n := hn
 have va := hf.left.left.asc.valids
 have vs : Valids s := (Flat.mid (u := a) (v := b) hf).asc.valids
 have vb := hf.right.asc.valids
 have hm := shiftR_moved a s b
 have hv := hm.val va vs vb
 have ho3 : Ok [(0, a), (op, s), (0, b)] := by
  intro d hd
  simp only [List.mem_cons, List.not_mem_nil, or_false] at hd
  rcases hd with rfl | rfl | rfl
  ·exact ⟨.inr (.inl rfl), va⟩
  ·exact ⟨by omega, vs⟩
  ·exact ⟨.inr (.inl rfl), vb⟩
 have hl3 : allR [(0, a), (op, s), (0, b)] ≤ 100 := by simp only [List.length_append] at hl; simp only [allR_cons, allR_nil]; omega
 have hls := loss_three (op := op) hs ha hb
 unfold g7_4
 rw [shiftedF_ok n hn a s b hf (by omega), Option.bind_some]
 simp only
 generalize shiftR a s b = t at *
 have ht : Ok [(0, t.1), (op, t.2.1), (0, t.2.2)] := by
  intro d hd
  simp only [List.mem_cons, List.not_mem_nil, or_false] at hd
  rcases hd with rfl | rfl | rfl
  ·exact ⟨.inr (.inl rfl), hv.1⟩
  ·exact ⟨by omega, hv.2.1⟩
  ·exact ⟨.inr (.inl rfl), hv.2.2⟩
 have e0 : [((0 : Int), enc t.1), (op, enc t.2.1), ((0 : Int), enc t.2.2)] = M [(0, t.1), (op, t.2.1), (0, t.2.2)] := rfl
 have hw3 : [((0 : Int), t.1), (op, t.2.1), (0, t.2.2)].length ≤ 3 := by simp
 rw [e0]
 generalize [((0 : Int), t.1), (op, t.2.1), (0, t.2.2)] = w at *
 have hlm : (M w).length = w.length := List.length_map _
 unfold g7_7 g7_6
 have key : ∀ (d i m : Nat), w.length - i = d → i ≤ w.length → d < m → g7_6L n (fun v9 v10 v11 v13 x17 => g7_8 n (fun v8 => @some (DenR [.dat .bool]) (v8, ())) v9 v10 v11 v13 x17) m (enc a) (enc s) (enc b) op (M (fullR (w.take i))) (M w) ((M w).length : Int) (i : Int) = g7_8 n (fun v8 => @some (DenR [.dat .bool]) (v8, ())) (enc a) (enc s) (enc b) op (M (fullR w)) := by
  intro d
  induction d with
  | zero =>
   intro i m hd hi hm
   obtain ⟨m, rfl⟩ : ∃ m', m = m' + 1 := ⟨m - 1, by omega⟩
   rw [g7_6L.eq_2, g7_5, bdF (by omega), List.take_of_length_le (by omega)]
  | succ d ih =>
   intro i m hd hi hm
   obtain ⟨m, rfl⟩ : ∃ m', m = m' + 1 := ⟨m - 1, by omega⟩
   have hi' : i < w.length := by omega
   have hI : i < (M w).length := by omega
   have m1 : (M w)[i] = emb w[i] := List.getElem_map _
   have hvi := (ht w[i] (by simp)).2
   have next := ih (i + 1) m (by omega) (by omega) (by omega)
   have hfl : (fullR (w.take i)).length ≤ 3 := by
    have h1 := List.length_filter_le (fun d : Rp => decide (d.2 ≠ [])) (w.take i)
    rw [List.length_take] at h1
    unfold fullR; omega
   have hfm : (M (fullR (w.take i))).length = (fullR (w.take i)).length := List.length_map _
   have hstep : fullR (w.take (i + 1)) = fullR (w.take i) ++ (if w[i].2 ≠ [] then [w[i]] else []) := by
    unfold fullR
    rw [List.take_succ_eq_append_getElem hi', List.filter_append, List.filter_cons]
    by_cases h : w[i].2 = [] <;> simp [h]
   rw [g7_6L.eq_2, g7_5, bdT (by omega), idx_ok (by omega) (by omega)]
   simp only [rd_at hI, rd_zero rfl, m1]
   rw [show (emb w[i]).2 = enc w[i].2 from rfl, ← enc_nil, strEq_enc hvi Valids.nil, w64_id (n := (i : Int) + 1) (by omega) (by omega), show (i : Int) + 1 = ((i + 1 : Nat) : Int) by omega]
   by_cases h : w[i].2 = []
   ·rw [biF (by simp [h])]
    rw [hstep, if_neg (by simp [h]), List.append_nil] at next
    exact next
   ·rw [biT (by simp [h]), roomy_ok (by simp only [List.length_cons, List.length_nil]; omega)]
    rw [hstep, if_pos h, M_append] at next
    exact next
 have := key w.length 0 n (by omega) (by omega) (by omega)
 refine Eq.trans this ?_
 unfold g7_8
 have e1 : [((0 : Int), enc a), (op, enc s), ((0 : Int), enc b)] = M [(0, a), (op, s), (0, b)] := rfl
 have hdl := dfLossless_ok n hn [(0, a), (op, s), (0, b)] ho3 (by simp) (by omega)
 rw [hls] at hdl
 rw [e1, bind_some' hdl]
 simp only
 have hok : Ok (fullR w) := fun d hd => ht d (List.mem_filter.1 hd).1
 have hsm : g22 n (M (fullR w)) (M (fullR w)) = some (decide (fullR w = fullR w), ()) := same_ok n hn _ _ (by have := List.length_filter_le (fun d : Rp => decide (d.2 ≠ [])) w; unfold fullR; omega) hok hok
 rw [bind_some' hsm]
 simp
theorem losslessBest_law (n : Nat) (hn : Big ≤ n) (x y z : List Int) (v : Bool) (hx : IsBytes x) (hy : IsBytes y) (hz : IsBytes z) : g7 n x y z v = some (true, ()) := by
 dsimp only [g7, g7_9, g7_1]
 by_cases h1 : (x.length : Int) > 2147483647
 ·rw [bdT h1]
 by_cases h2 : (y.length : Int) > 2147483647
 ·rw [bdF h1, bdT h2]
 by_cases h3 : (z.length : Int) > 2147483647
 ·rw [bdF h1, bdF h2, bdT h3]
 rw [bdF h1, bdF h2, bdF h3, show (20 : Int) = ((20 : Nat) : Int) from rfl, dfAscii_ok n hn x hx 20 (by omega) (by omega), Option.bind_some, dfAscii_ok n hn y hy 20 (by omega) (by omega), Option.bind_some, dfAscii_ok n hn z hz 20 (by omega) (by omega), Option.bind_some]
 have ax := asc_ok hx 20
 have ay := asc_ok hy 20
 have az := asc_ok hz 20
 have lx := asc_length x 20
 have ly := asc_length y 20
 have lz := asc_length z 20
 generalize asc x 20 = A at *
 generalize asc y 20 = S at *
 generalize asc z 20 = B at *
 simp only
 have rest : ∀ S : List Int, Asc S → S.length ≤ 20 → S ≠ [] → g7_2 n (fun v9 v10 v11 v13 => g7_3 n (fun v9 v10 v11 v13 => g7_4 n (fun v9 v10 v11 v13 x17 x93 v94 v95 => g7_7 n (fun v9 v10 v11 v13 x17 => g7_8 n (fun v8 => @some (DenR [.dat .bool]) (v8, ())) v9 v10 v11 v13 x17) v9 v10 v11 v13 x17 x93 v94 v95) v9 v10 v11 v13) v9 v10 v11 v13) v (enc A) (enc S) (enc B) = some (true, ()) := by
  intro S aS lS hS
  have za := ax.size
  have zs := aS.size
  have zb := az.size
  have hSp := List.length_pos_iff.2 hS
  have z2 := size_append (enc A) (enc S)
  unfold g7_2
  rw [roomy_ok (by omega), roomy_ok (by omega), ← enc_append, ← enc_append]
  obtain ⟨w, hw, tw, lw⟩ := unblank_ok n hn (A ++ S ++ B) ((ax.append aS).append az) (by simp; omega)
  rw [hw, Option.bind_some]
  simp only
  have zw := tw.asc.size
  simp only [List.length_append] at lw
  have wS : w64 (((enc A).size : Int) + ((enc S).size : Int)) = ((A.length + S.length : Nat) : Int) := by rw [w64_id (by omega) (by omega)]; omega
  rw [wS, bnd_ok (by omega) (by omega) (by omega), bnd_ok (by omega) (by omega) (by omega), bnd_ok (by omega) (by omega) (by omega), za, zw]
  have c1 : cutS (enc w) 0 (A.length : Int) = enc (w.take A.length) := by rw [cutS_asc tw.asc _ _ (by omega) (by omega) (by omega), cut_from, Int.toNat_natCast]
  have c2 : cutS (enc w) (A.length : Int) ((A.length + S.length : Nat) : Int) = enc ((w.drop A.length).take S.length) := by
   rw [cutS_asc tw.asc _ _ (by omega) (by omega) (by omega), cut_nat]; congr 2; omega
  have c3 : cutS (enc w) ((A.length + S.length : Nat) : Int) (w.length : Int) = enc (w.drop (A.length + S.length)) := by
   rw [cutS_asc tw.asc _ _ (by omega) (by omega) (by omega), cut_to _ _ _ (by omega), Int.toNat_natCast]
  rw [c1, c2, c3]
  have hsp : w = w.take A.length ++ (w.drop A.length).take S.length ++ w.drop (A.length + S.length) := by
   rw [List.append_assoc, ← List.drop_drop, List.take_append_drop, List.take_append_drop]
  have hf : Flat (w.take A.length ++ (w.drop A.length).take S.length ++ w.drop (A.length + S.length)) := by rw [← hsp]; exact tw.flat
  have hl : (w.take A.length ++ (w.drop A.length).take S.length ++ w.drop (A.length + S.length)).length ≤ 60 := by rw [← hsp]; omega
  have hs0 : (w.drop A.length).take S.length ≠ [] := fun h => by
   have := congrArg List.length h
   rw [List.length_take, List.length_drop, List.length_nil] at this
   omega
  generalize w.take A.length = a at *
  generalize (w.drop A.length).take S.length = s at *
  generalize w.drop (A.length + S.length) = b at *
  have core : ∀ op : Int, op = -1 ∨ op = 1 → g7_3 n (fun v9 v10 v11 v13 => g7_4 n (fun v9 v10 v11 v13 x17 x93 v94 v95 => g7_7 n (fun v9 v10 v11 v13 x17 => g7_8 n (fun v8 => @some (DenR [.dat .bool]) (v8, ())) v9 v10 v11 v13 x17) v9 v10 v11 v13 x17 x93 v94 v95) v9 v10 v11 v13) (enc a) (enc s) (enc b) op = some (true, ()) := by
   intro op hop
   have va := hf.left.left.asc.valids
   have vb := hf.right.asc.valids
   have e60 : (⟨#[60]⟩ : ByteArray) = enc [60] := by rw [← Asc.eq (by intro b hb; simp at hb; omega)]; rfl
   have e62 : (⟨#[62]⟩ : ByteArray) = enc [62] := by rw [← Asc.eq (by intro b hb; simp at hb; omega)]; rfl
   have za := hf.left.left.asc.size
   have zb := hf.right.asc.size
   simp only [List.length_append] at hl
   unfold g7_3
   have wider : g7_4 n (fun v9 v10 v11 v13 x17 x93 v94 v95 => g7_7 n (fun v9 v10 v11 v13 x17 => g7_8 n (fun v8 => @some (DenR [.dat .bool]) (v8, ())) v9 v10 v11 v13 x17) v9 v10 v11 v13 x17 x93 v94 v95) (enc (a ++ [60])) (enc s) (enc ([62] ++ b)) op = some (true, ()) := by
    refine best_core n hn (a ++ [60]) s ([62] ++ b) op hop ?_ ?_ hs0 (by simp) (by simp)
    ·have f1 : Flat (a ++ (60 :: (s ++ b))) := Flat.ins (by rw [← List.append_assoc]; exact hf) (by omega) (by omega) (by omega)
     have f2 : Flat (a ++ [60] ++ s ++ 62 :: b) := Flat.ins (by simpa using f1) (by omega) (by omega) (by omega)
     simpa using f2
    ·simp only [List.length_append, List.length_cons, List.length_nil]; omega
   have s60 : (enc [60]).size = 1 := Asc.size (by intro b hb; simp at hb; omega)
   have s62 : (enc [62]).size = 1 := Asc.size (by intro b hb; simp at hb; omega)
   rw [← enc_nil, strEq_enc va Valids.nil, strEq_enc vb Valids.nil, e60, e62]
   by_cases ha : a = []
   ·rw [biT (by simp [ha]), roomy_ok (by omega), roomy_ok (by omega), ← enc_append, ← enc_append]
    exact wider
   ·rw [biF (by simp [ha])]
    by_cases hb : b = []
    ·rw [biT (by simp [hb]), roomy_ok (by omega), roomy_ok (by omega), ← enc_append, ← enc_append]
     exact wider
    ·rw [biF (by simp [hb])]
     exact best_core n hn a s b op hop hf (by simp only [List.length_append]; omega) hs0 ha hb
  cases v with
  | true => exact core (-1) (.inl rfl)
  | false => exact core 1 (.inr rfl)
 have e97 : (⟨#[97]⟩ : ByteArray) = enc [97] := by rw [← Asc.eq (by intro b hb; simp at hb; omega)]; rfl
 rw [← enc_nil, strEq_enc ay.valids Valids.nil]
 by_cases hS : S = []
 ·rw [biT (by simp [hS]), e97]
  exact rest [97] (by intro b hb; simp at hb; omega) (by simp) (by simp)
 ·rw [biF (by simp [hS])]
  exact rest S ay ly hS
theorem FnLosslessBest_pure : ∀ d, GoodA g7_A d → ∃ n, g7_f n d = some (true, ()) := fun d hd => ⟨Big, losslessBest_law Big (Nat.le_refl _) d.1 d.2.1 d.2.2.1 d.2.2.2.1 (GoodK.bytes hd.1).1 (GoodK.bytes hd.2.1).1 (GoodK.bytes hd.2.2.1).1⟩
end Go.Proofs.YtfnjlgflbenfoaaDoorZF
