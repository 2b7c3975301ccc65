/- The search for the middle of a shortest way: what is known of one side between and within its steps. -/
import Derived.Test.YthkiaiilpaojnaaDoorUPB
import Derived.Test.YthkiaiilpaojnaaDoorUPDist
import Derived.Test.YthkiaiilpaojnaaDoorUPGrid
import Derived.Test.YthkiaiilpaojnaaDoorUFB
namespace Go.Proofs.YthkiaiilpaojnaaDoorUF
open Go
set_option linter.unusedVariables false
set_option linter.unusedSimpArgs false
/-- x on diagonal k is within reach of d edits. -/
def Ent (A B : List Int) (d k x : Int) : Prop := 0 ≤ x ∧ k ≤ x ∧ (ft A B x.toNat (x - k).toNat : Int) ≤ d
def Stop (A B : List Int) (k x : Int) : Prop := ¬ ∃ (h1 : x.toNat < A.length) (h2 : (x - k).toNat < B.length), A[x.toNat] = B[(x - k).toNat]
theorem Ent.up {A B : List Int} {d d' k x : Int} (h : Ent A B d k x) (hd : d ≤ d') : Ent A B d' k x := ⟨h.1, h.2.1, by have := h.2.2; omega⟩
theorem Ent.low {A B : List Int} {d k x : Int} (h : Ent A B d k x) (hp : (k - d) % 2 = 1) : (ft A B x.toNat (x - k).toNat : Int) ≤ d - 1 := by
  have h1 := ft_par (A := A) (B := B) x.toNat (x - k).toNat
  have h2 := h.1
  have h3 := h.2.1
  have h4 := h.2.2
  omega
structure Done (A B : List Int) (mD d s e : Int) (V : Int → Int) : Prop where
  s0 : 0 ≤ s ∧ s % 2 = 0
  e0 : 0 ≤ e ∧ e % 2 = 0
  dlo : -1 ≤ d
  good : ∀ j, -mD ≤ j → j < mD → V j = -1 ∨ Ent A B d j (V j) ∨ (j = 1 ∧ V j = 0 ∧ d ≤ 0)
  prune : ∀ x y : Nat, Opt A B x y → d ≤ ft A B x y → -(ft A B x y : Int) + s ≤ (x : Int) - y ∧ (x : Int) - y ≤ ft A B x y - e
  comp : ∀ x y : Nat, Opt A B x y → (ft A B x y : Int) = d → (x : Int) ≤ V ((x : Int) - y)
  set : 0 ≤ d → ∀ j, -d + s ≤ j → j ≤ d - e → (j - d) % 2 = 0 → V j ≠ -1
  ini : d = -1 → V 1 = 0
structure Mid (A B : List Int) (mD d s0 e0 s e k : Int) (V : Int → Int) : Prop where
  dpos : 0 ≤ d
  dm : d < mD
  hs : 0 ≤ s0 ∧ s0 ≤ s ∧ s % 2 = 0 ∧ s0 % 2 = 0
  he : 0 ≤ e0 ∧ e0 ≤ e ∧ e % 2 = 0 ∧ e0 % 2 = 0
  kpar : (k - d) % 2 = 0
  klo : -d + s ≤ k
  good : ∀ j, -mD ≤ j → j < mD → V j = -1 ∨ Ent A B d j (V j) ∨ (j = 1 ∧ V j = 0 ∧ (d = 0 ∨ d = 1 ∧ k ≤ 1))
  virt : d = 1 → k ≤ 1 → e = 0
  prune : ∀ x y : Nat, Opt A B x y → d ≤ ft A B x y → -(ft A B x y : Int) + s ≤ (x : Int) - y ∧ (x : Int) - y ≤ ft A B x y - e
  comp0 : ∀ x y : Nat, Opt A B x y → (ft A B x y : Int) = d - 1 → (x : Int) ≤ V ((x : Int) - y)
  comp : ∀ x y : Nat, Opt A B x y → (ft A B x y : Int) = d → (x : Int) - y < k → (x : Int) ≤ V ((x : Int) - y)
  rng : 1 ≤ d → -(d - 1) + s0 ≤ (d - 1) - e0
  set0 : 1 ≤ d → ∀ j, -(d - 1) + s0 ≤ j → j ≤ (d - 1) - e0 → (j - d) % 2 = 1 → V j ≠ -1
  set1 : ∀ j, -d + s0 ≤ j → j < k → (j - d) % 2 = 0 → V j ≠ -1
  ini : d = 0 → V 1 = 0
/-- Where diagonal k begins. -/
def pick (V : Int → Int) (d k : Int) : Int := if k = -d ∨ (k ≠ d ∧ V (k - 1) < V (k + 1)) then V (k + 1) else V (k - 1) + 1
section
variable {A B : List Int} {mD d s0 e0 s e k : Int} {V : Int → Int}
theorem Mid.low (h : Mid A B mD d s0 e0 s e k V) (j : Int) (h1 : -mD ≤ j) (h2 : j < mD) : -1 ≤ V j := by
  rcases h.good j h1 h2 with g | g | g
  · omega
  · have := g.1; omega
  · omega
theorem Mid.pick_ok (h : Mid A B mD d s0 e0 s e k V) (hk : k ≤ d - e) : Ent A B d k (pick V d k) := by
  have hs := h.hs
  have he := h.he
  have hd := h.dpos
  have hm := h.dm
  have hp := h.kpar
  have hl := h.klo
  unfold pick
  by_cases c : k = -d ∨ (k ≠ d ∧ V (k - 1) < V (k + 1))
  · rw [if_pos c]
    by_cases d0 : d = 0
    · have k0 : k = 0 := by omega
      subst k0
      have := h.ini d0
      simp only [Int.zero_add]
      rw [this]
      refine ⟨by omega, by omega, ?_⟩
      have := ft_zero (A := A) (B := B)
      simp only [Int.toNat_zero, Int.sub_zero, this]
      omega
    · have hset : V (k + 1) ≠ -1 := by
        rcases c with c | ⟨c1, c2⟩
        · have hr := h.rng (by omega)
          exact h.set0 (by omega) (k + 1) (by omega) (by omega) (by omega)
        · have := h.low (k - 1) (by omega) (by omega)
          omega
      have kd : k + 1 ≤ d := by
        rcases c with c | ⟨c1, c2⟩ <;> omega
      rcases h.good (k + 1) (by omega) (by omega) with g | g | ⟨g1, g2, g3⟩
      · exact absurd g hset
      · have hlow := g.low (by omega)
        obtain ⟨x0, xk, _⟩ := g
        refine ⟨x0, by omega, ?_⟩
        have := ft_down (A := A) (B := B) (V (k + 1)).toNat (V (k + 1) - (k + 1)).toNat
        rw [show (V (k + 1) - (k + 1)).toNat + 1 = (V (k + 1) - k).toNat by omega] at this
        omega
      · omega
  · rw [if_neg c]
    simp only [not_or, not_and, Int.not_lt] at c
    obtain ⟨c1, c2⟩ := c
    have d1 : 1 ≤ d := by omega
    have hr := h.rng d1
    have hset : V (k - 1) ≠ -1 := by
      by_cases kd : k = d
      · exact h.set0 d1 (k - 1) (by omega) (by omega) (by omega)
      · intro hv
        have h1 := c2 kd
        have h2 := h.low (k + 1) (by omega) (by omega)
        by_cases hkl : -(d - 1) + s0 ≤ k - 1
        · exact h.set0 d1 (k - 1) hkl (by omega) (by omega) hv
        · exact h.set0 d1 (k + 1) (by omega) (by omega) (by omega) (by omega)
    rcases h.good (k - 1) (by omega) (by omega) with g | g | ⟨g1, g2, g3⟩
    · exact absurd g hset
    · have hlow := g.low (by omega)
      obtain ⟨x0, xk, _⟩ := g
      refine ⟨by omega, by omega, ?_⟩
      have := ft_right (A := A) (B := B) (V (k - 1)).toNat (V (k - 1) - (k - 1)).toNat
      rw [show (V (k - 1)).toNat + 1 = (V (k - 1) + 1).toNat by omega, show (V (k - 1) - (k - 1)).toNat = (V (k - 1) + 1 - k).toNat by omega] at this
      rw [show (V (k - 1) - (k - 1)).toNat = (V (k - 1) + 1 - k).toNat by omega] at hlow
      omega
    · omega
/-- Each place on a shortest way with d edits on the diagonal is reached. -/
theorem Mid.reach (h : Mid A B mD d s0 e0 s e k V) (hk : k ≤ d - e) {xf : Int} (hf : Ent A B d k xf) (hi : pick V d k ≤ xf) (hstop : Stop A B k xf) : ∀ (x y : Nat), Opt A B x y → (ft A B x y : Int) = d → (x : Int) - y = k → (x : Int) ≤ xf := by
  intro x
  induction x using Nat.strongRecOn with
  | _ x ih =>
    intro y ho hfd hxy
    have h0 := hf.1
    have h1 := hf.2.1
    rcases ho.pred with ⟨hx, hy⟩ | ⟨x', y', hx, hy, rfl, rfl, he, ho', hff⟩ | ⟨x', rfl, ho', hff⟩ | ⟨y', rfl, ho', hff⟩
    · omega
    · have := ih x' (by omega) y' ho' (by omega) (by omega)
      by_cases hlt : (x' : Int) < xf
      · omega
      · exfalso
        have e1 : xf.toNat = x' := by omega
        have e2 : (xf - k).toNat = y' := by omega
        exact hstop ⟨by omega, by omega, by simp only [e1, e2]; exact he⟩
    · have g := h.comp0 x' y ho' (by omega)
      have glo := ft_lo ho'.hx ho'.hy
      rw [show (x' : Int) - y = k - 1 by omega] at g
      unfold pick at hi
      split at hi
      · rename_i c
        rcases c with c | c
        · omega
        · omega
      · omega
    · have g := h.comp0 x y' ho' (by omega)
      have glo := ft_lo ho'.hx ho'.hy
      rw [show (x : Int) - y' = k + 1 by omega] at g
      unfold pick at hi
      split at hi
      · omega
      · rename_i c
        simp only [not_or, not_and, Int.not_lt] at c
        have := c.2 (by omega)
        omega
/-- What is off the right border prunes no place on a shortest way. -/
theorem off_right {f : Int} {xf : Int} (hf : Ent A B d k xf) (hD : d ≤ dst A B) (hx : (A.length : Int) < xf) {x y : Nat} (ho : Opt A B x y) (hfd : d ≤ ft A B x y) : (x : Int) - y ≤ k - 2 - (ft A B x y - d) := by
  obtain ⟨h0, h1, h2⟩ := hf
  have hdd : 0 ≤ d := by omega
  obtain ⟨h3, h4⟩ := ft_off_right (A := A) (B := B) (x := xf.toNat) (y := (xf - k).toNat) (d := d.toNat) (by omega) (by omega) (by omega)
  have h5 := gt_lo ho.hx ho.hy
  have h6 := ho.sum
  have h7 := ho.hx
  have h8 := ho.hy
  omega
theorem off_down {xf : Int} (hf : Ent A B d k xf) (hD : d ≤ dst A B) (hx : (B.length : Int) < xf - k) {x y : Nat} (ho : Opt A B x y) (hfd : d ≤ ft A B x y) : k + 2 + (ft A B x y - d) ≤ (x : Int) - y := by
  obtain ⟨h0, h1, h2⟩ := hf
  have hdd : 0 ≤ d := by omega
  obtain ⟨h3, h4⟩ := ft_off_down (A := A) (B := B) (x := xf.toNat) (y := (xf - k).toNat) (d := d.toNat) (by omega) (by omega) (by omega)
  have h5 := gt_lo ho.hx ho.hy
  have h6 := ho.sum
  have h7 := ho.hx
  have h8 := ho.hy
  omega
def updV (V : Int → Int) (k x : Int) : Int → Int := fun j => if j = k then x else V j
theorem updV_same (V : Int → Int) (k x : Int) : updV V k x k = x := by simp [updV]
theorem updV_other (V : Int → Int) {k j x : Int} (h : j ≠ k) : updV V k x j = V j := by simp [updV, h]
theorem Mid.step (h : Mid A B mD d s0 e0 s e k V) (hk : k ≤ d - e) (hD : d ≤ dst A B) {xf : Int} (hf : Ent A B d k xf) (hi : pick V d k ≤ xf) (hstop : Stop A B k xf) {s' e' : Int}
    (hse : ((A.length : Int) < xf ∧ s' = s ∧ e' = e + 2) ∨ (xf ≤ A.length ∧ (B.length : Int) < xf - k ∧ s' = s + 2 ∧ e' = e) ∨ (xf ≤ A.length ∧ xf - k ≤ B.length ∧ s' = s ∧ e' = e)) : Mid A B mD d s0 e0 s' e' (k + 2) (updV V k xf) := by
  have hs := h.hs
  have he := h.he
  have hd := h.dpos
  have hm := h.dm
  have hp := h.kpar
  have hl := h.klo
  have hreach := h.reach hk hf hi hstop
  refine ⟨hd, hm, ?_, ?_, by omega, ?_, ?_, ?_, ?_, ?_, ?_, h.rng, ?_, ?_, ?_⟩
  · omega
  · omega
  · omega
  · intro j h1 h2
    by_cases ej : j = k
    · subst ej; rw [updV_same]; exact .inr (.inl hf)
    · rw [updV_other V ej]
      rcases h.good j h1 h2 with g | g | ⟨g1, g2, g3⟩
      · exact .inl g
      · exact .inr (.inl g)
      · refine .inr (.inr ⟨g1, g2, ?_⟩)
        rcases g3 with g3 | ⟨g3, g4⟩
        · exact .inl g3
        · right; refine ⟨g3, ?_⟩; omega
  · intro hd1 hk1
    have hv := h.virt hd1 (by omega)
    rcases hse with ⟨hx, rfl, rfl⟩ | ⟨_, _, rfl, rfl⟩ | ⟨_, _, rfl, rfl⟩
    · exfalso
      obtain ⟨x, y, ho, hfo⟩ := Opt.level (A := A) (B := B) d.toNat (by omega)
      have := off_right (f := 0) hf hD hx ho (by omega)
      have := ft_lo ho.hx ho.hy
      omega
    · exact hv
    · exact hv
  · intro x y ho hfd
    have h1 := h.prune x y ho hfd
    rcases hse with ⟨hx, rfl, rfl⟩ | ⟨_, hx, rfl, rfl⟩ | ⟨_, _, rfl, rfl⟩
    · have := off_right (f := 0) hf hD hx ho hfd
      omega
    · have := off_down hf hD hx ho hfd
      omega
    · exact h1
  · intro x y ho hfd
    have := ft_par (A := A) (B := B) x y
    rw [updV_other V (by omega)]
    exact h.comp0 x y ho hfd
  · intro x y ho hfd hlt
    have := ft_par (A := A) (B := B) x y
    by_cases ej : (x : Int) - y = k
    · rw [ej, updV_same]; exact hreach x y ho hfd ej
    · rw [updV_other V ej]; exact h.comp x y ho hfd (by omega)
  · intro h1 j h2 h3 h4
    rw [updV_other V (by omega)]
    exact h.set0 h1 j h2 h3 h4
  · intro j h2 h3 h4
    by_cases ej : j = k
    · subst ej; rw [updV_same]; have := hf.1; omega
    · rw [updV_other V ej]; exact h.set1 j h2 (by omega) h4
  · intro h1
    rw [updV_other V (by omega)]
    exact h.ini h1
theorem Mid.finish (h : Mid A B mD d s0 e0 s e k V) (hk : ¬ k ≤ d - e) : Done A B mD d s e V := by
  have hs := h.hs
  have he := h.he
  have hd := h.dpos
  refine ⟨by omega, by omega, by omega, ?_, h.prune, ?_, ?_, by omega⟩
  · intro j h1 h2
    rcases h.good j h1 h2 with g | g | ⟨g1, g2, g3⟩
    · exact .inl g
    · exact .inr (.inl g)
    · refine .inr (.inr ⟨g1, g2, ?_⟩)
      rcases g3 with g3 | ⟨g3, g4⟩
      · omega
      · have := h.virt g3 g4; omega
  · intro x y ho hfd
    have := h.prune x y ho (by omega)
    exact h.comp x y ho hfd (by omega)
  · intro _ j h2 h3 h4
    exact h.set1 j (by omega) (by omega) h4
theorem Done.start (h : Done A B mD d s e V) (hm : d + 1 < mD) (hD : d ≤ dst A B) : Mid A B mD (d + 1) s e s e (-(d + 1) + s) V := by
  have hs := h.s0
  have he := h.e0
  have hd := h.dlo
  have h00 : d ≤ 0 → s = 0 ∧ e = 0 := fun hd0 => by
    have := h.prune 0 0 Opt.zero (by rw [ft_zero]; omega)
    rw [ft_zero] at this
    omega
  refine ⟨by omega, hm, by omega, by omega, by omega, by omega, ?_, ?_, ?_, ?_, ?_, ?_, ?_, ?_, ?_⟩
  · intro j h1 h2
    rcases h.good j h1 h2 with g | g | ⟨g1, g2, g3⟩
    · exact .inl g
    · exact .inr (.inl (g.up (by omega)))
    · have := h00 g3
      exact .inr (.inr ⟨g1, g2, by omega⟩)
  · intro h1 _
    exact (h00 (by omega)).2
  · intro x y ho hfd
    exact h.prune x y ho (by omega)
  · intro x y ho hfd
    exact h.comp x y ho (by omega)
  · intro x y ho hfd hlt
    have := h.prune x y ho (by omega)
    omega
  · intro h1
    obtain ⟨x, y, ho, hfo⟩ := Opt.level (A := A) (B := B) d.toNat (by omega)
    have := h.prune x y ho (by omega)
    omega
  · intro h1 j h2 h3 h4
    exact h.set (by omega) j (by omega) (by omega) (by omega)
  · intro j h2 h3 h4
    omega
  · intro h1
    exact h.ini (by omega)
theorem Done.first (hm : 1 ≤ mD) (hV : ∀ j, -mD ≤ j → j < mD → j ≠ 1 → V j = -1) (h1 : V 1 = 0) : Done A B mD (-1) 0 0 V := by
  refine ⟨by omega, by omega, by omega, ?_, ?_, ?_, by omega, fun _ => h1⟩
  · intro j g1 g2
    by_cases e : j = 1
    · subst e; exact .inr (.inr ⟨rfl, h1, by omega⟩)
    · exact .inl (hV j g1 g2 e)
  · intro x y ho _
    have := ft_lo ho.hx ho.hy
    omega
  · intro x y ho hfd
    omega
end
end Go.Proofs.YthkiaiilpaojnaaDoorUF
