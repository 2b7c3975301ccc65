/- The difference of two lists of characters, not by lines: it leads from the one to the other, and edits as little as can be. -/
import Derived.Test.YthkiaiilpaojnaaDoorUPB
import Derived.Test.YthkiaiilpaojnaaDoorUPLoop
import Derived.Test.YthkiaiilpaojnaaDoorUPUtf
import Derived.Test.YthkiaiilpaojnaaDoorUPEnc
import Derived.Test.YthkiaiilpaojnaaDoorUPParts
import Derived.Test.YthkiaiilpaojnaaDoorUPTexts
import Derived.Test.YthkiaiilpaojnaaDoorUPCmp
import Derived.Test.YthkiaiilpaojnaaDoorUPMerge
import Derived.Test.YthkiaiilpaojnaaDoorUPMerge2
import Derived.Test.YthkiaiilpaojnaaDoorUPMergeT
import Derived.Test.YthkiaiilpaojnaaDoorUPDist
import Derived.Test.YthkiaiilpaojnaaDoorUPDstEd
import Derived.Test.YthkiaiilpaojnaaDoorUPTidy
import Derived.Test.YthkiaiilpaojnaaDoorUPTidy2
import Derived.Test.YthkiaiilpaojnaaDoorUPGrid
import Derived.Test.YthkiaiilpaojnaaDoorUPBis3
import Derived.Test.YthkiaiilpaojnaaDoorUPRIx
import Derived.Test.YthkiaiilpaojnaaDoorUGA2
import Derived.Test.YthkiaiilpaojnaaDoorUGA3
import Derived.Test.YthkiaiilpaojnaaDoorUFB
namespace Go.Proofs.YthkiaiilpaojnaaDoorUF
open Go
set_option linter.unusedVariables false
set_option linter.unusedSimpArgs false
/-- A least difference. -/
structure LD (a b : List Int) (l : List Rp) : Prop where
  ok : Ok l
  src : srcR l = a
  tgt : tgtR l = b
  ed : edR l = dst a b
  len : l.length ≤ 3 * (a.length + b.length)
  full : Full l
theorem LD.best {a b : List Int} {l : List Rp} (h : LD a b l) : Best l := by unfold Best; rw [h.src, h.tgt]; exact Nat.le_of_eq h.ed
theorem LD.of {a b : List Int} {l : List Rp} (ok : Ok l) (src : srcR l = a) (tgt : tgtR l = b) (ed : edR l ≤ dst a b) (len : l.length ≤ 3 * (a.length + b.length)) (full : Full l) : LD a b l :=
  ⟨ok, src, tgt, by have := dst_le_ed l ok.ops; rw [src, tgt] at this; omega, len, full⟩
theorem LD.merge {a b : List Int} {l : List Rp} (h : LD a b l) : LD a b (merge l) := by
  have h1 := merge_texts h.ok
  have h2 := phi_merge h.ok
  have h3 := dst_le_ed (Go.Proofs.YthkiaiilpaojnaaDoorUF.merge l) h.ok.merge.ops
  rw [h1.1, h1.2.1, h.src, h.tgt] at h3
  have h4 := h.ed
  have h5 := h.len
  refine LD.of h.ok.merge (h1.1.trans h.src) (h1.2.1.trans h.tgt) (by omega) ?_ (merge_tidy h.ok h.full h.best).1
  unfold phi at h2
  omega
theorem dst_one : ∀ (c : Int) (v : List Int), c ∉ v → dst [c] v = 1 + v.length
  | c, [], _ => by rw [dst_nil']; rfl
  | c, b :: v, h => by
    have h1 : ¬ c = b := fun e => h (by simp [e])
    have h2 := dst_one c v fun hv => h (by simp [hv])
    rw [dst_cons, if_neg h1, dst_nil, h2, List.length_cons]; omega
/-- What does not begin, or end, alike. -/
def Trim (a b : List Int) : Prop := (∀ c x d y, a = c :: x → b = d :: y → c ≠ d) ∧ (∀ c x d y, a = x ++ [c] → b = y ++ [d] → c ≠ d)
theorem Trim.two {a b : List Int} (h : Trim a b) (ha : a ≠ []) (hb : b ≠ []) : 2 ≤ dst a b := by
  match a, b, ha, hb with
  | c :: x, d :: y, _, _ =>
    have hcd := h.1 c x d y rfl rfl
    rw [dst_cons, if_neg hcd]
    have k1 : dst x (d :: y) ≠ 0 := fun h0 => by
      have e := dst_zero h0
      rcases List.eq_nil_or_concat (d :: y) with g | ⟨u, q, g⟩
      · cases g
      · rw [List.concat_eq_append] at g
        exact h.2 q (c :: u) q u (by rw [e, g]; rfl) g rfl
    have k2 : dst (c :: x) y ≠ 0 := fun h0 => by
      have e := dst_zero h0
      rcases List.eq_nil_or_concat (c :: x) with g | ⟨u, q, g⟩
      · cases g
      · rw [List.concat_eq_append] at g
        exact h.2 q u q (d :: u) g (by rw [← e, g]; rfl) rfl
    omega
/-- The shorter one within the longer one: something stands ahead of it and behind it. -/
theorem within_ne {L S u v : List Int} (e : L = u ++ S ++ v) (hS : S ≠ []) (h1 : ∀ c x y, L = c :: x → S = c :: y → False) (h2 : ∀ c x y, L = x ++ [c] → S = y ++ [c] → False) : u ≠ [] ∧ v ≠ [] := by
  refine ⟨fun hu => ?_, fun hv => ?_⟩
  · subst hu
    cases S with
    | nil => exact hS rfl
    | cons c y => exact h1 c (y ++ v) y (by rw [e]; simp) rfl
  · subst hv
    rcases List.eq_nil_or_concat S with g | ⟨y, c, g⟩
    · exact hS g
    · rw [List.concat_eq_append] at g
      exact h2 c (u ++ y) y (by rw [e, g]; simp) g
theorem Trim.ne {a b : List Int} (h : Trim a b) : (∀ c x y, a = c :: x → b = c :: y → False) ∧ (∀ c x y, a = x ++ [c] → b = y ++ [c] → False) := ⟨fun c x y h1 h2 => h.1 c x c y h1 h2 rfl, fun c x y h1 h2 => h.2 c x c y h1 h2 rfl⟩
theorem full3 {k1 k2 k3 : Int} {u s v : List Int} (hu : u ≠ []) (hs : s ≠ []) (hv : v ≠ []) : Full [(k1, u), (k2, s), (k3, v)] := Full.cons hu (Full.cons hs (Full.cons hv Full.nil))
theorem full2 {k1 k2 : Int} {u v : List Int} (hu : u ≠ []) (hv : v ≠ []) : Full [(k1, u), (k2, v)] := Full.cons hu (Full.cons hv Full.nil)
theorem halfNone (n : Nat) (p0) (x y : List Int) (hp : p0.1 ≤ (0 : Int)) : g157 n p0 x y = some ((), ()) := by
  dsimp only [g157, g157_3, g157_1]
  rw [bdT hp]
section
variable (q110 : DenA g110_A → Option (DenR g110_R)) (q114 : DenA g114_A → Option (DenR g114_R)) (q136 : DenA g136_A → Option (DenR g136_R)) (q143 : DenA g143_A → Option (DenR g143_R))
theorem split_ok (n : Nat) (p0) {A B : List Int} {x y : Nat} (hx : x ≤ A.length) (hy : y ≤ B.length) {l1 l2 : List Rp} (h1 : q110 (p0, (A.take x, (B.take y, (false, ())))) = @some (DenR g110_R) (M l1, ())) (h2 : q110 (p0, (A.drop x, (B.drop y, (false, ())))) = @some (DenR g110_R) (M l2, ())) (hl : l1.length + l2.length ≤ 1000000) :
    g143_b n q110 q114 q136 q143 p0 A B (x : Int) (y : Int) = some (M (l1 ++ l2), ()) := by
  dsimp only [g143_b, g143_1]
  rw [bnd_ok (by omega) (by omega) (by omega), bnd_ok (by omega) (by omega) (by omega), bnd_ok (by omega) (by omega) (by omega), bnd_ok (by omega) (by omega) (by omega), cut_from, cut_from, cut_to _ _ _ (by omega), cut_to _ _ _ (by omega), Int.toNat_natCast, Int.toNat_natCast, bind_some' h1, bind_some' h2]
  simp only
  rw [roomy_ok (by unfold M; rw [List.length_map, List.length_map]; omega)]
  unfold M
  rw [List.map_append]
theorem same_way {γ : Type} (c d : Bool) (z : γ) : (bif c then (bif d then z else z) else z) = z := by cases c <;> cases d <;> rfl
theorem compute_ok (n : Nat) (hn : Big ≤ n) (p0) (hp : p0.1 ≤ (0 : Int)) {a b : List Int} (ln : Bool) (hln : ln = false ∨ a.length ≤ 100 ∨ b.length ≤ 100) (ha : Valids a) (hb : Valids b) (hla : a.length ≤ 100000) (hlb : b.length ≤ 100000) (ht : Trim a b) (hne : a ≠ [] ∨ b ≠ [])
    (hq : 2 ≤ a.length → 2 ≤ b.length → 2 ≤ dst a b → ∃ l, q114 (p0, (a, (b, ()))) = @some (DenR g114_R) (M l, ()) ∧ LD a b l) : ∃ l, g136_b n q110 q114 q136 q143 p0 a b ln = some (M l, ()) ∧ LD a b l := by
  dsimp only [g136_b, g136_3, g136_1]
  by_cases ea : a = []
  · subst ea
    rw [biT (by simp), roomy_ok (by simp)]
    refine ⟨[(1, b)], rfl, LD.of (fun d hd => ?_) rfl (by simp [tgtR]) (by rw [dst_nil]; show b.length + 0 ≤ _; omega) ?_ (Full.cons (hne.resolve_left (fun h => h rfl)) Full.nil)⟩
    · obtain rfl := List.mem_singleton.1 hd
      exact ⟨.inr (.inr rfl), hb⟩
    · have : b ≠ [] := hne.resolve_left (fun h => h rfl)
      have := List.length_pos_iff.2 this
      simp; omega
  · have pa := List.length_pos_iff.2 ea
    rw [biF (by simp; exact ea)]
    by_cases eb : b = []
    · subst eb
      rw [biT (by simp), roomy_ok (by simp)]
      refine ⟨[(-1, a)], rfl, LD.of (fun d hd => ?_) (by simp [srcR]) rfl (by rw [dst_nil']; show a.length + 0 ≤ _; omega) ?_ (Full.cons ea Full.nil)⟩
      · obtain rfl := List.mem_singleton.1 hd
        exact ⟨.inl rfl, ha⟩
      · simp; omega
    · have pb := List.length_pos_iff.2 eb
      rw [biF (by simp; exact eb)]
      have hd2 := ht.two ea eb
      -- the longer one and the shorter one
      have key : ∀ (L S : List Int), S.length ≤ L.length → ((L = a ∧ S = b ∧ a.length > b.length) ∨ (L = b ∧ S = a ∧ ¬ a.length > b.length)) → ∃ l, g136_2 n q110 q114 q136 q143 (fun x8 => @some (DenR [.rw (.pair (.int .i8) .str) 115]) (x8, ())) p0 a b ln L S = some (M l, ()) ∧ LD a b l := by
        intro L S hSL hcase
        have hLv : Valids L := by rcases hcase with ⟨rfl, _, _⟩ | ⟨rfl, _, _⟩ <;> assumption
        have hSv : Valids S := by rcases hcase with ⟨_, rfl, _⟩ | ⟨_, rfl, _⟩ <;> assumption
        have hLl : L.length ≤ 100000 := by rcases hcase with ⟨rfl, _, _⟩ | ⟨rfl, _, _⟩ <;> assumption
        have hSn : S ≠ [] := by rcases hcase with ⟨_, rfl, _⟩ | ⟨_, rfl, _⟩ <;> assumption
        have hSp := List.length_pos_iff.2 hSn
        unfold g136_2
        rcases runesIndex_ok n hn L S (by omega) (by omega) with ⟨u, v, e, h⟩ | ⟨hno, h⟩
        · have hl := congrArg List.length e
          simp only [List.length_append] at hl
          have huv : Valids u ∧ Valids v := by
            rw [e] at hLv
            exact ⟨(Valids.of_append (Valids.of_append hLv).1).1, (Valids.of_append hLv).2⟩
          have c1 : cut L 0 (u.length : Int) = u := by rw [cut_from, e, Int.toNat_natCast, List.append_assoc, List.take_left]
          have c2 : cut L ((u.length : Int) + S.length) (L.length : Int) = v := by
            rw [cut_to _ _ _ (by omega), e, show ((u.length : Int) + S.length).toNat = (u ++ S).length by rw [List.length_append]; omega, List.drop_left]
          rw [h, Option.bind_some, biT (by simp)]
          have hw : w64 ((u.length : Int) + S.length) = (u.length : Int) + S.length := w64_id (by omega) (by omega)
          rcases hcase with ⟨rfl, rfl, hgt⟩ | ⟨rfl, rfl, hgt⟩
          · rw [bdT (by omega)]
            simp only [hw]
            rw [bnd_ok (by omega) (by omega) (by omega), bnd_ok (by omega) (by omega) (by omega), c1, c2]
            have hw := within_ne e hSn ht.ne.1 ht.ne.2
            refine ⟨[(-1, u), (0, S), (-1, v)], rfl, LD.of (fun d hd => ?_) ?_ ?_ ?_ ?_ (full3 hw.1 hSn hw.2)⟩
            · simp only [List.mem_cons, List.not_mem_nil, or_false] at hd
              rcases hd with rfl | rfl | rfl
              · exact ⟨.inl rfl, huv.1⟩
              · exact ⟨.inr (.inl rfl), hSv⟩
              · exact ⟨.inl rfl, huv.2⟩
            · show u ++ (S ++ (v ++ [])) = L; rw [e]; simp
            · show S ++ [] = S; simp
            · show u.length + (0 + (v.length + 0)) ≤ _
              have := (dst_lo L S).1
              omega
            · simp; omega
          · rw [bdF (by omega)]
            simp only [hw]
            rw [bnd_ok (by omega) (by omega) (by omega), bnd_ok (by omega) (by omega) (by omega), c1, c2]
            have hw := within_ne e hSn (fun c x y k1 k2 => ht.ne.1 c y x k2 k1) (fun c x y k1 k2 => ht.ne.2 c y x k2 k1)
            refine ⟨[(1, u), (0, S), (1, v)], rfl, LD.of (fun d hd => ?_) ?_ ?_ ?_ ?_ (full3 hw.1 hSn hw.2)⟩
            · simp only [List.mem_cons, List.not_mem_nil, or_false] at hd
              rcases hd with rfl | rfl | rfl
              · exact ⟨.inr (.inr rfl), huv.1⟩
              · exact ⟨.inr (.inl rfl), hSv⟩
              · exact ⟨.inr (.inr rfl), huv.2⟩
            · show S ++ [] = S; simp
            · show u ++ (S ++ (v ++ [])) = L; rw [e]; simp
            · show u.length + (0 + (v.length + 0)) ≤ _
              have := (dst_lo S L).2
              omega
            · simp; omega
        · rw [h, Option.bind_some, biF (by simp)]
          by_cases h1 : S.length = 1
          · rw [biT (by simp [h1])]
            obtain ⟨c, hc⟩ := List.length_eq_one_iff.1 h1
            have hcL : c ∉ L := fun hm => by
              obtain ⟨u, v, e⟩ := List.append_of_mem hm
              exact hno u v (by rw [e, hc]; simp)
            have hdd : dst S L = 1 + L.length := by rw [hc]; exact dst_one c L hcL
            refine ⟨[(-1, a), (1, b)], rfl, LD.of (fun d hd => ?_) ?_ ?_ ?_ ?_ (full2 ea eb)⟩
            · simp only [List.mem_cons, List.not_mem_nil, or_false] at hd
              rcases hd with rfl | rfl
              · exact ⟨.inl rfl, ha⟩
              · exact ⟨.inr (.inr rfl), hb⟩
            · show a ++ [] = a; simp
            · show b ++ [] = b; simp
            · show a.length + (b.length + 0) ≤ _
              rcases hcase with ⟨rfl, rfl, hgt⟩ | ⟨rfl, rfl, hgt⟩
              · rw [dst_comm _ _ _ (Nat.le_refl _), hdd]; omega
              · rw [hdd]; omega
            · simp; omega
          · rw [biF (by simp; omega), halfNone n p0 a b hp, Option.bind_some]
            have h2a : 2 ≤ a.length ∧ 2 ≤ b.length := by rcases hcase with ⟨rfl, rfl, hgt⟩ | ⟨rfl, rfl, hgt⟩ <;> omega
            obtain ⟨l, g1, g2⟩ := hq h2a.1 h2a.2 hd2
            refine ⟨l, ?_, g2⟩
            rcases hln with rfl | h | h
            · rw [cond_false, g1]; rfl
            · rw [bdF (by omega), g1]; cases ln <;> rfl
            · rw [bdF (p := (b.length : Int) > 100) (by omega), same_way, g1]; rfl
      by_cases hgt : a.length > b.length
      · rw [bdT (by omega)]
        exact key a b (by omega) (.inl ⟨rfl, rfl, hgt⟩)
      · rw [bdF (by omega)]
        exact key b a (by omega) (.inr ⟨rfl, rfl, hgt⟩)
end
end Go.Proofs.YthkiaiilpaojnaaDoorUF
