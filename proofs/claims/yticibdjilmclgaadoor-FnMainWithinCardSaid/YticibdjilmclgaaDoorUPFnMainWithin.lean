/- The plain statement of FnMainWithin. -/
import Derived.Test.YticibdjilmclgaaDoorUPB
import Derived.Test.YticibdjilmclgaaDoorUPLoop
import Derived.Test.YticibdjilmclgaaDoorUPUtf
import Derived.Test.YticibdjilmclgaaDoorUPEnc
import Derived.Test.YticibdjilmclgaaDoorUPParts
import Derived.Test.YticibdjilmclgaaDoorUPTexts
import Derived.Test.YticibdjilmclgaaDoorUPEdited
import Derived.Test.YticibdjilmclgaaDoorUPCmp
import Derived.Test.YticibdjilmclgaaDoorUPMerge
import Derived.Test.YticibdjilmclgaaDoorUPMerge2
import Derived.Test.YticibdjilmclgaaDoorUPTidy
import Derived.Test.YticibdjilmclgaaDoorUPDist
import Derived.Test.YticibdjilmclgaaDoorUPDstEd
import Derived.Test.YticibdjilmclgaaDoorUPMain
import Derived.Test.YticibdjilmclgaaDoorUPMain2
import Derived.Test.YticibdjilmclgaaDoorUPDMain
import Derived.Test.YticibdjilmclgaaDoorUPShf
import Derived.Test.YticibdjilmclgaaDoorUPCnt
import Derived.Test.YticibdjilmclgaaDoorUGA4
import Derived.Test.YticibdjilmclgaaDoorUGA5
import Derived.Test.YticibdjilmclgaaDoorUFB
namespace Go.Proofs.YticibdjilmclgaaDoorUF
open Go
set_option linter.unusedVariables false
set_option linter.unusedSimpArgs false
theorem no_ins : ∀ {l : List Rp}, Full l → inssR l = [] → ∀ d ∈ l, d.1 ≠ 1
  | [], _, _, d, hd => by cases hd
  | e :: l, hf, h, d, hd => by
    unfold inssR at h
    have h1 := List.append_eq_nil_iff.1 h
    rcases List.mem_cons.1 hd with rfl | hd
    · intro h2
      rw [if_pos h2] at h1
      exact hf.of_cons.1 h1.1
    · exact no_ins hf.of_cons.2 h1.2 d hd
theorem no_del : ∀ {l : List Rp}, Full l → delsR l = [] → ∀ d ∈ l, d.1 ≠ -1
  | [], _, _, d, hd => by cases hd
  | e :: l, hf, h, d, hd => by
    unfold delsR at h
    have h1 := List.append_eq_nil_iff.1 h
    rcases List.mem_cons.1 hd with rfl | hd
    · intro h2
      rw [if_pos h2] at h1
      exact hf.of_cons.1 h1.1
    · exact no_del hf.of_cons.2 h1.2 d hd
theorem within_del {H A T : List Int} {l : List Rp} (h : LD (H ++ A ++ T) A l) : edR l = H.length + T.length ∧ ∀ d ∈ l, d.1 = 0 ∨ d.1 = -1 := by
  obtain ⟨i1, i2, i3, i4⟩ := cnt_split h.ok.ops
  have hop : Ops [((-1 : Int), H), (0, A), (-1, T)] := by
    intro d hd
    simp only [List.mem_cons, List.not_mem_nil, or_false] at hd
    rcases hd with rfl | rfl | rfl <;> simp
  have hu := dst_le_ed [((-1 : Int), H), (0, A), (-1, T)] hop
  have e1 : srcR [((-1 : Int), H), (0, A), (-1, T)] = H ++ A ++ T := by simp [srcR]
  have e2 : tgtR [((-1 : Int), H), (0, A), (-1, T)] = A := by simp [tgtR]
  have e3 : edR [((-1 : Int), H), (0, A), (-1, T)] = H.length + T.length := by simp [edR]
  rw [e1, e2, e3, ← h.ed] at hu
  rw [h.src] at i1
  rw [h.tgt] at i2
  simp only [List.length_append] at i1
  have h0 : (inssR l).length = 0 := by omega
  refine ⟨by omega, fun d hd => ?_⟩
  have h1 := no_ins h.full (List.eq_nil_of_length_eq_zero h0) d hd
  have h2 := h.ok.ops d hd
  omega
theorem within_ins {H A T : List Int} {l : List Rp} (h : LD A (H ++ A ++ T) l) : edR l = H.length + T.length ∧ ∀ d ∈ l, d.1 = 0 ∨ d.1 = 1 := by
  obtain ⟨i1, i2, i3, i4⟩ := cnt_split h.ok.ops
  have hop : Ops [((1 : Int), H), (0, A), (1, T)] := by
    intro d hd
    simp only [List.mem_cons, List.not_mem_nil, or_false] at hd
    rcases hd with rfl | rfl | rfl <;> simp
  have hu := dst_le_ed [((1 : Int), H), (0, A), (1, T)] hop
  have e1 : tgtR [((1 : Int), H), (0, A), (1, T)] = H ++ A ++ T := by simp [tgtR]
  have e2 : srcR [((1 : Int), H), (0, A), (1, T)] = A := by simp [srcR]
  have e3 : edR [((1 : Int), H), (0, A), (1, T)] = H.length + T.length := by simp [edR]
  rw [e1, e2, e3, ← h.ed] at hu
  rw [h.src] at i1
  rw [h.tgt] at i2
  simp only [List.length_append] at i2
  have h0 : (delsR l).length = 0 := by omega
  refine ⟨by omega, fun d hd => ?_⟩
  have h1 := no_del h.full (List.eq_nil_of_length_eq_zero h0) d hd
  have h2 := h.ok.ops d hd
  omega
theorem within_core (n : Nat) (hn : Big ≤ n) (H T one two : List Int) (op : Int) (vH : Valids H) (vT : Valids T) (v1 : Valids one) (v2 : Valids two) (lH : H.length ≤ 40) (lT : T.length ≤ 40) (l1 : one.length ≤ 120) (l2 : two.length ≤ 120)
    (h : ∀ l, LD one two l → edR l = H.length + T.length ∧ ∀ d ∈ l, d.1 = 0 ∨ d.1 = op) :
    g5_2 n (fun v0 v2 v9 v10 v11 x12 x46 v47 v48 => g5_5 n (fun v0 v2 v9 v10 x12 => g5_6 n (fun v8 => @some (DenR [.dat .bool]) (v8, ())) v0 v2 v9 v10 x12) (fun v8 => some (v8, ())) v0 v2 v9 v10 v11 x12 x46 v47 v48) (enc H) (enc T) (enc one) (enc two) op = some (true, ()) := by
  have hB : (4611686018427387904 : Nat) ≤ n := hn
  obtain ⟨l, g1, g2, _⟩ := dfMain_ok n hn one two v1 v2 (by omega)
  obtain ⟨he, ho⟩ := h l g2
  have hl := g2.len
  have hal := all_le (x := l)
  rw [g2.src, g2.tgt] at hal
  have e1 := enc_size_le H
  have e2 := enc_size_le T
  unfold g5_2
  rw [bind_some' g1]
  simp only
  unfold g5_5 g5_4
  have hlm : (M l).length = l.length := List.length_map _
  have key : ∀ (d i m : Nat), l.length - i = d → i ≤ l.length → d < m → g5_4L n (fun v8 => @some (DenR [.dat .bool]) (v8, ())) (fun v0 v2 v9 v10 x12 => g5_6 n (fun v8 => @some (DenR [.dat .bool]) (v8, ())) v0 v2 v9 v10 x12) m (enc H) (enc T) (enc one) (enc two) op (M l) (M l) ((M l).length : Int) (i : Int) = g5_6 n (fun v8 => @some (DenR [.dat .bool]) (v8, ())) (enc H) (enc T) (enc one) (enc two) (M l) := by
    intro d
    induction d with
    | zero =>
      intro i m hd hi hm
      obtain ⟨m, rfl⟩ : ∃ m', m = m' + 1 := ⟨m - 1, by omega⟩
      rw [g5_4L.eq_2, g5_3, bdF (by omega)]
    | succ d ih =>
      intro i m hd hi hm
      obtain ⟨m, rfl⟩ : ∃ m', m = m' + 1 := ⟨m - 1, by omega⟩
      have hi' : i < l.length := by omega
      have hI : i < (M l).length := by omega
      have hx := ho l[i] (by simp)
      have m1 : (M l)[i] = emb l[i] := List.getElem_map _
      have next := ih (i + 1) m (by omega) (by omega) (by omega)
      rw [g5_4L.eq_2, g5_3, bdT (by omega), idx_ok (by omega) (by omega)]
      simp only [rd_at hI, rd_zero rfl, m1]
      rw [show (emb l[i]).1 = l[i].1 from rfl, w64_id (n := (i : Int) + 1) (by omega) (by omega), show (i : Int) + 1 = ((i + 1 : Nat) : Int) by omega, next]
      rcases hx with hx | hx
      · rw [biF (by simp [hx])]
      · cases (l[i].1 != 0)
        · rfl
        · rw [cond_true, biF (by simp [hx])]
  have := key l.length 0 n (by omega) (by omega) (by omega)
  refine Eq.trans this ?_
  unfold g5_6
  have gs : g16 n (M l) = some (enc one, ()) := by rw [← g2.src]; exact source_ok n hn l (by omega) (by omega)
  have gt : g17 n (M l) = some (enc two, ()) := by rw [← g2.tgt]; exact target_ok n hn l (by omega) (by omega)
  have ge : g15 n (M l) = some ((edR l : Int), ()) := edited_ok n hn l g2.ok (by omega) (by omega)
  rw [bind_some' gs]
  simp only
  rw [biT (by rw [strEq_eq]; simp), bind_some' gt]
  simp only
  rw [biT (by rw [strEq_eq]; simp), bind_some' ge, runesOk_enc n H vH (by omega), Option.bind_some, runesOk_enc n T vT (by omega), Option.bind_some]
  simp only
  rw [he, w64_id (by omega) (by omega)]
  have : (((H.length + T.length : Nat) : Int) == (H.length : Int) + (T.length : Int)) = true := by rw [beq_iff_eq]; omega
  rw [this]
theorem mainWithin_law (n : Nat) (hn : Big ≤ n) (x y z : ByteArray) (b : Bool) : g5 n x y z b = some (true, ()) := by
  dsimp only [g5, g5_7, g5_1]
  by_cases h1 : (x.size : Int) > 2147483647
  · rw [bdT h1]
  by_cases h2 : (y.size : Int) > 2147483647
  · rw [bdF h1, bdT h2]
  by_cases h3 : (z.size : Int) > 2147483647
  · rw [bdF h1, bdF h2, bdT h3]
  rw [bdF h1, bdF h2, bdF h3, show (40 : Int) = ((40 : Nat) : Int) from rfl, clean_ok n x 40 (by omega), Option.bind_some, clean_ok n y 40 (by omega), Option.bind_some, clean_ok n z 40 (by omega), Option.bind_some]
  have va : Valids ((runesOf x).take 40) := (runesOf_valid x).take _
  have vb : Valids ((runesOf y).take 40) := (runesOf_valid y).take _
  have vc : Valids ((runesOf z).take 40) := (runesOf_valid z).take _
  have la : ((runesOf x).take 40).length ≤ 40 := by rw [List.length_take]; omega
  have lb : ((runesOf y).take 40).length ≤ 40 := by rw [List.length_take]; omega
  have lc : ((runesOf z).take 40).length ≤ 40 := by rw [List.length_take]; omega
  generalize (runesOf x).take 40 = H at *
  generalize (runesOf y).take 40 = A at *
  generalize (runesOf z).take 40 = T at *
  have e1 := enc_size_le H
  have e2 := enc_size_le A
  have e3 := enc_size_le T
  have s1 := size_append (enc H) (enc A)
  have hall : enc H ++ enc A ++ enc T = enc (H ++ A ++ T) := by rw [enc_append, enc_append]
  simp only
  rw [roomy_ok (by omega), roomy_ok (by omega), hall]
  have v3 : Valids (H ++ A ++ T) := (va.append vb).append vc
  have l3 : (H ++ A ++ T).length ≤ 120 := by simp only [List.length_append]; omega
  cases b with
  | true => exact within_core n hn H T A (H ++ A ++ T) 1 va vc vb v3 la lc (by omega) l3 (fun l h => within_ins h)
  | false => exact within_core n hn H T (H ++ A ++ T) A (-1) va vc v3 vb la lc l3 (by omega) (fun l h => within_del h)
theorem FnMainWithin_pure : ∀ d, GoodA g5_A d → ∃ n, g5_f n d = some (true, ()) := fun d _ => ⟨Big, mainWithin_law Big (Nat.le_refl _) d.1 d.2.1 d.2.2.1 d.2.2.2.1⟩
end Go.Proofs.YticibdjilmclgaaDoorUF
