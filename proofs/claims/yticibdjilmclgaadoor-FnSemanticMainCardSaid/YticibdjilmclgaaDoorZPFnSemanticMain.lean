/- Plain statements about the printed functions. -/
import Derived.Test.YticibdjilmclgaaDoorZPQ0
import Derived.Test.YticibdjilmclgaaDoorZPQ1
import Derived.Test.YticibdjilmclgaaDoorZGA1
import Derived.Test.YticibdjilmclgaaDoorZGA2
import Derived.Test.YticibdjilmclgaaDoorZFB
namespace Go.Proofs.YticibdjilmclgaaDoorZF
open Go
set_option linter.unusedVariables false
set_option linter.unusedSimpArgs false
theorem OL : ∀ {l : List Rp}, Full l → l.length ≤ cP l
 | [], _ => Nat.le_refl _
 | d :: l, h => by
  have h1 := OL h.of_cons.2
  have h2 := List.length_pos_iff.2 h.of_cons.1
  rw [bZ, List.length_cons]; omega
theorem CE (n : Nat) (hn : Big ≤ n) (x : List Rp) (hl : x.length ≤ 1000000) : g27 n (M x) = some ((nE x : Int), ()) := by
 have hB : (4611686018427387904 : Nat) ≤ n := hn
 dsimp only [g27, J1, bS8, bV5, aS0]
 have hml := aY x
 have hle : ∀ x : List Rp, nE x ≤ x.length := fun x => by
  induction x with
  | nil => exact Nat.le_refl _
  | cons d x ih => unfold nE; split <;> simp <;> omega
 have key : ∀ (R X : List Rp) (m : Nat), x = X ++ R → R.length < m → g27_3L n (fun v3 => aH4 n (fun v2 => @some (DenR [.dat (.int .i64)]) (v2, ())) v3) m (nE X : Int) (M x) ((M x).length : Int) (X.length : Int) = some ((nE x : Int), ()) := by
  intro R
  induction R with
  | nil =>
   intro X m hX hm
   obtain ⟨m, rfl⟩ : ∃ m', m = m' + 1 := ⟨m - 1, by simp at hm; omega⟩
   rw [List.append_nil] at hX
   subst hX
   rw [g27_3L.eq_2, N3, bdF (by omega)]
   rfl
  | cons d R ih =>
   intro X m hX hm
   simp only [List.length_cons] at hm
   obtain ⟨m, rfl⟩ : ∃ m', m = m' + 1 := ⟨m - 1, by omega⟩
   have hxlen : x.length = X.length + (R.length + 1) := by rw [hX]; simp
   have hrd : rd (M x) (X.length : Int) ((0 : Int), (⟨#[]⟩ : ByteArray)) = (d.1, enc d.2) := by rw [hX, bT]; exact eG (by rw [aY])
   have hX1 := hle X
   have next := ih (X ++ [d]) m (by rw [hX]; simp) (by omega)
   rw [show (X ++ [d]).length = X.length + 1 by simp, dS] at next
   rw [g27_3L.eq_2, N3, bdT (by omega), aM (by omega) (by omega), hrd]
   simp only [nB rfl]
   rw [aF (n := (X.length : Int) + 1) (by omega) (by omega), show (X.length : Int) + 1 = ((X.length + 1 : Nat) : Int) by omega]
   by_cases h : d.1 = 0
   ·rw [biF (by simp [h])]
    simp only [nE, h, if_true, Nat.add_zero] at next
    exact next
   ·rw [biT (by simp [h]), aF (by omega) (by omega), show (nE X : Int) + 1 = ((nE X + 1 : Nat) : Int) by omega]
    simp only [nE, h, if_false, Nat.add_zero] at next
    exact next
 exact key x [] n rfl (by omega)
theorem RF {z : List Rp} (ho : Ops z) (hf : Full z) (hn : Nbs z) (hl : z.length = 3) (hs : bL z = [97, 98]) (ht : bK z = [97, 99]) (he : edR z = 2) : z = [((0 : Int), [97]), ((-1 : Int), [98]), ((1 : Int), [99])] := by
 match z, hl with
 | [(k1, t1), (k2, t2), (k3, t3)], _ =>
  have f1 := List.length_pos_iff.2 (hf (k1, t1) (by simp))
  have f2 := List.length_pos_iff.2 (hf (k2, t2) (by simp))
  have f3 := List.length_pos_iff.2 (hf (k3, t3) (by simp))
  have o1 := ho (k1, t1) (by simp)
  have o2 := ho (k2, t2) (by simp)
  have o3 := ho (k3, t3) (by simp)
  have n1 := hn.1
  have n2 := hn.2.1
  have n3 := hn.2.2.2.1
  have n4 := hn.2.2.2.2.1
  simp only at f1 f2 f3 o1 o2 o3 n1 n2 n3 n4
  have ls := congrArg List.length hs
  have lt := congrArg List.length ht
  have one : ∀ t : List Int, t.length = 1 → ∃ c, t = [c] := fun t h => by
   match t, h with
   | [c], _ => exact ⟨c, rfl⟩
  rcases o1 with rfl | rfl | rfl <;> rcases o2 with rfl | rfl | rfl <;> rcases o3 with rfl | rfl | rfl <;> (simp [bL, bK, edR] at hs ht he ls lt n1 n2 n3 n4 ⊢) <;> (try omega)
  all_goals
   obtain ⟨c1, rfl⟩ := one t1 (by omega)
   obtain ⟨c2, rfl⟩ := one t2 (by omega)
   obtain ⟨c3, rfl⟩ := one t3 (by omega)
   simp at hs ht
   first
    | (obtain ⟨rfl, rfl⟩ := hs; obtain ⟨_, rfl⟩ := ht; simp)
    | omega
theorem dJ3 : ∃ z, g23 Big (⟨#[97, 98]⟩ : ByteArray) (⟨#[97, 99]⟩ : ByteArray) = some (z, ()) ∧ ∃ w, g26 Big z = some (w, ()) ∧ w.length = 3 := by
 have vex : ∀ c : Int, c = 98 ∨ c = 99 → Valids [97, c] := fun c hc => Asc.valids (by intro b hb; simp at hb; omega)
 have eab : (⟨#[97, 98]⟩ : ByteArray) = enc [97, 98] := by rw [← Asc.eq (by intro b hb; simp at hb; omega)]; rfl
 have eac : (⟨#[97, 99]⟩ : ByteArray) = enc [97, 99] := by rw [← Asc.eq (by intro b hb; simp at hb; omega)]; rfl
 obtain ⟨z, z1, z2, z3⟩ := uW Big (Nat.le_refl _) (⟨#[97, 98]⟩ : ByteArray) (⟨#[97, 99]⟩ : ByteArray) (by decide) (by decide)
 rw [eab, eac, eE (vex 98 (.inl rfl)), eE (vex 99 (.inr rfl))] at z2 z3
 have z2 : LD [97, 98] [97, 99] z := z2
 have hnb : Nbs z := by
  rcases z3 with ⟨h, _⟩ | ⟨_, x, hx, rfl⟩
  ·exact absurd h (by decide)
  ·exact (BD hx.ok hx.full hx.best).2
 have he := RF z2.ok.ops z2.full hnb (PE z2.ok.ops z2.full z2.src z2.tgt (by rw [z2.ed, R8])) z2.src z2.tgt (by rw [z2.ed, R8])
 subst he
 exact ⟨_, z1, _, ex4, rfl⟩
theorem wJ (x y : ByteArray) : g8 Big x y = some (true, ()) := by
 have hn : Big ≤ Big := Nat.le_refl _
 dsimp only [g8, dE0]
 by_cases h1 : (x.size : Int) > 2147483647
 ·rw [bdT h1]
 by_cases h2 : (y.size : Int) > 2147483647
 ·rw [bdF h1, bdT h2]
 rw [bdF h1, bdF h2]
 obtain ⟨l, g1, g2, _⟩ := uW Big hn x y (by omega) (by omega)
 have la : ((aS x).take 120).length ≤ 120 := by rw [List.length_take]; omega
 have lb : ((aS y).take 120).length ≤ 120 := by rw [List.length_take]; omega
 generalize (aS x).take 120 = a at *
 generalize (aS y).take 120 = b at *
 have hal := nP (x := l)
 rw [g2.src, g2.tgt] at hal
 have hfl := OL g2.full
 obtain ⟨v, s1, s2, s3, s4, s5, s6⟩ := FQ Big hn l g2.ok (by omega) (by omega)
 obtain ⟨z, z1, w, z2, z3⟩ := dJ3
 have hav := nP (x := v)
 rw [s3, s4, g2.src, g2.tgt] at hav
 have hk := bL7 Big hn v l s3 s4 (by omega) (by omega) (by omega) (by omega)
 have e1 : g15 Big (M v) = some ((edR v : Int), ()) := GU Big hn v s2 (by omega) (by omega)
 have e2 : g15 Big (M l) = some ((edR l : Int), ()) := GU Big hn l g2.ok (by omega) (by omega)
 have hd := jT v s2.ops
 rw [s3, s4, g2.src, g2.tgt, ← g2.ed] at hd
 have d1 := CE Big hn v s5
 have d2 := CE Big hn l (by omega)
 rw [aJ g1]
 simp only
 rw [aJ s1, aJ z1]
 simp only
 rw [aJ z2]
 simp only
 rw [biF (by rw [z3]; rfl), aJ hk]
 simp only [cond_true]
 rw [aJ e1, aJ e2]
 simp only
 rw [bdT (show (edR v : Int) ≥ (edR l : Int) by omega), aJ d1, aJ d2]
 simp only
 rw [decide_eq_true (show (nE v : Int) ≤ (nE l : Int) by omega)]
theorem FnSemanticMain_pure : ∀ d, F9 g8_A d → ∃ n, dJ2 n d = some (true, ()) := fun d _ => ⟨Big, wJ d.1 d.2.1⟩
end Go.Proofs.YticibdjilmclgaaDoorZF
