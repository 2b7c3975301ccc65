/- FX: a plain machine beside the model's, and that the model comes to what it comes to. -/
import Derived.Test.YticibdjilmclgaaDoorZFA
import Derived.Defers
import Derived.Recover
import Derived.Below
import Derived.Deep.Slices
import Derived.Deep.Fields
import Derived.ChangeSame
import Derived.OpenVars
import Derived.OpenShut
import Derived.ShutString
import Derived.SizedLaws
import Derived.Handed
namespace Go.Proofs.YticibdjilmclgaaDoorZF
open Go
set_option linter.unusedVariables false
set_option linter.unusedSimpArgs false
def ArgRep (w : World) (A : Nat → Prop) : (k : AK) → k.den → Value → List Nat → Prop
 | .dat k, x, v, own => own = [] ∧ ∃ cs, RepD w A k x cs ∧ (if k.isPair then v = .agg cs.toArray else cs = [v])
 | .ro k e, xs, v, own => own = [] ∧ ∃ ad cap, v = .slice ad xs.length cap ∧ xs.length ≤ cap ∧ (xs ≠ [] → ∃ b off, ad = some ⟨b, off, none⟩ ∧ ¬ A b ∧ RowAt w A k b off xs)
 | .rw k e, xs, v, own => ∃ ad cap, v = .slice ad xs.length cap ∧ xs.length ≤ cap ∧ ((cap = 0 ∧ own = []) ∨ ∃ b off cs t, 0 < cap ∧ own = [b] ∧ ad = some ⟨b, off, none⟩ ∧ RowAt w A k b off xs ∧ CellsAt w b cs t ∧ off + cap * k.size ≤ cs.size)
 | .pro k e, x, v, own => own = [] ∧ ∃ b off, v = .pointer (some ⟨b, off, none⟩) ∧ ¬ A b ∧ RowAt w A k b off [x]
def ArgsRep (w : World) (A : Nat → Prop) : (ks : List AK) → DenA ks → List Value → List Nat → Prop
 | [], _, vs, own => vs = [] ∧ own = []
 | k :: ks, x, vs, own => ∃ v vs' o1 o2, vs = v :: vs' ∧ own = o1 ++ o2 ∧ ArgRep w A k x.1 v o1 ∧ ArgsRep w A ks x.2 vs' o2
def ResRep (P : Program) (w : World) (A : Nat → Prop) : (k : RK) → k.den → Value → List Nat → Prop
 | .dat k, x, v, own => ArgRep w A (.dat k) x v own
 | .rw k e, xs, v, own => TyOk P e k ∧ ArgRep w A (.rw k e) xs v own
 | .ro k e, xs, v, own => TyOk P e k ∧ ArgRep w A (.ro k e) xs v own
 | .nsl, _, v, own => own = [] ∧ v = .slice none 0 0
 | .ptr k e, x, v, own => TyOk P e k ∧ ∃ b off cs t, own = [b] ∧ v = .pointer (some ⟨b, off, none⟩) ∧ RowAt w A k b off [x] ∧ CellsAt w b cs t ∧ off + k.size ≤ cs.size
def RessRep (P : Program) (w : World) (A : Nat → Prop) : (ks : List RK) → DenR ks → List Value → List Nat → Prop
 | [], _, vs, own => vs = [] ∧ own = []
 | k :: ks, x, vs, own => ∃ v vs' o1 o2, vs = v :: vs' ∧ own = o1 ++ o2 ∧ ResRep P w A k x.1 v o1 ∧ RessRep P w A ks x.2 vs' o2
def FL : List Value → Value
 | [v] => v
 | l => .tuple l.toArray
def aH (P : Program) (f : FuncId) : Prop := (P.funcs[f]?).map (fun fn => (fn.body.isNone, fn.name == "runtime.NumGoroutine")) = some (false, false)
structure SK (P : Program) (f : FuncId) (S : bG) : Prop where
 callable : aH P f
 nat : ∀ {β : Type} (d : DenA S.args) (κ : DenR S.rets → Option β) (r : β), S.app d κ = some r → ∃ x, S.app d some = some x ∧ κ x = some r
 calls : ∀ (w : World) (Z : Nat → Prop) (vs : List Value) (own : List Nat) (d : DenA S.args) (x : DenR S.rets), GOk P w (· ∈ own) → (∀ b, Z b → b < w.heap.size) → own.Nodup → (∀ b ∈ own, b < w.heap.size ∧ ¬ Z b) →
  ArgsRep w (fun b => Z b ∨ b ∈ own) S.args d vs own → S.app d some = some x →
  Calls P f vs.toArray w fun e w' => ∃ us own', e = .returned (FL us) ∧ RessRep P w' (fun b => Z b ∨ b ∈ own') S.rets x us own' ∧ own'.Nodup ∧ (∀ b ∈ own', (b ∈ own ∨ w.heap.size ≤ b) ∧ b < w'.heap.size) ∧ Fr w (· ∈ own) w'
section
variable {w w' : World} {A A' : Nat → Prop}
theorem RowAt.mono {k : K} {b off : Nat} {xs : List k.den} (hA : ∀ b, A' b → A b) (h : RowAt w A k b off xs) : RowAt w A' k b off xs := h.stay (fun b hb hn => ⟨fun h => hn (hA b h), rfl⟩) rfl
theorem RepD.mono {k : K} {x : k.den} {cs : List Value} (hA : ∀ b, A' b → A b) (h : RepD w A k x cs) : RepD w A' k x cs := h.stay (fun b hb hn => ⟨fun h => hn (hA b h), rfl⟩)
theorem ArgRep.mono (hA : ∀ b, A' b → A b) : ∀ {k : AK} {x : k.den} {v : Value} {own : List Nat}, ArgRep w A k x v own → ArgRep w A' k x v own
 | .dat k, x, v, own, ⟨h, cs, hc, hv⟩ => ⟨h, cs, hc.mono hA, hv⟩
 | .ro k e, x, v, own, ⟨h, ad, cap, h1, h2, h3⟩ => ⟨h, ad, cap, h1, h2, fun hx => let ⟨b, off, h4, h5, h6⟩ := h3 hx; ⟨b, off, h4, fun h => h5 (hA b h), h6.mono hA⟩⟩
 | .rw k e, x, v, own, ⟨ad, cap, h1, h2, h3⟩ => ⟨ad, cap, h1, h2, h3.imp id fun ⟨b, off, cs, t, h4, h5, h6, h7, h8⟩ => ⟨b, off, cs, t, h4, h5, h6, h7.mono hA, h8⟩⟩
 | .pro k e, x, v, own, ⟨h, b, off, h1, h2, h3⟩ => ⟨h, b, off, h1, fun h => h2 (hA b h), h3.mono hA⟩
theorem ArgsRep.mono (hA : ∀ b, A' b → A b) : ∀ {ks : List AK} {x : DenA ks} {vs : List Value} {own : List Nat}, ArgsRep w A ks x vs own → ArgsRep w A' ks x vs own
 | [], _, _, _, h => h
 | k :: ks, x, vs, own, ⟨v, vs', o1, o2, h1, h2, h3, h4⟩ => ⟨v, vs', o1, o2, h1, h2, h3.mono hA, h4.mono hA⟩
theorem RepD.flat : ∀ {k : K} {x : k.den} {cs : List Value}, k.flat = true → RepD w A k x cs → RepD w' A' k x cs
 | .int _, _, _, _, h => h
 | .bool, _, _, _, h => h
 | .str, _, _, _, h => h
 | .flt _, _, _, _, h => h
 | .err, _, _, _, h => h
 | .pair a b, _, _, hf, h => by
  simp only [K.flat, Bool.and_eq_true] at hf
  obtain ⟨c1, c2, rfl, h1, h2⟩ := h
  exact ⟨c1, c2, rfl, h1.flat hf.1, h2.flat hf.2⟩
 | .sl _ _, _, _, hf, _ => by simp [K.flat] at hf
theorem RowAt.flat {k : K} {b off : Nat} {xs : List k.den} (hf : k.flat = true) (h : RowAt w A k b off xs) : RowAt w A' k b off xs :=
 fun i x hi => let ⟨ds, hd, hc⟩ := h i x hi; ⟨ds, hd.flat hf, hc⟩
end
section
variable {E : Env} {pl : Nat → Pl} {Γ : Ctx} {w w' : World} {a : Act} {s : FState} {β : Type} {r : β} {κ : FState → Option β} {Q : Exit → Act → World → Prop}
abbrev Env.withZ (E : Env) (Z : Nat → Prop) : Env := { E with Z := Z }
theorem RelP.killZ (h : RelP E pl w a s) (o : Nat) : RelP (E.withZ fun b => E.Z b ∨ ∃ obj, s.objs o = some obj ∧ occ (pl o) obj ∧ (pl o).b = b) pl w a (s.kill o) := by
 have hback : ∀ p ob, (s.kill o).objs p = some ob → p ≠ o ∧ s.objs p = some ob := fun p ob hp => by
  rw [gY] at hp
  split at hp
  ·cases hp
  ·exact ⟨by assumption, hp⟩
 have hAv : ∀ b, Av (E.withZ fun b => E.Z b ∨ ∃ obj, s.objs o = some obj ∧ occ (pl o) obj ∧ (pl o).b = b) (s.kill o).objs pl b → Av E s.objs pl b := by
  rintro b ((hz | ⟨obj, h1, h2, h3⟩) | ⟨p, ob, hp, hc, hb⟩)
  ·exact .inl hz
  ·exact .inr ⟨o, obj, h1, h2, h3⟩
  ·exact .inr ⟨p, ob, (hback p ob hp).2, hc, hb⟩
 have hst : Stay w (Av E s.objs pl) w (Av (E.withZ fun b => E.Z b ∨ ∃ obj, s.objs o = some obj ∧ occ (pl o) obj ∧ (pl o).b = b) (s.kill o).objs pl) := fun b hb hA => ⟨fun hA' => hA (hAv b hA'), rfl⟩
 refine ⟨fun t => (h.vals t).kill o (fun k x cs hc => hc.stay hst) (fun p ob hpo hp => ⟨ob, by rw [gY, if_neg hpo]; exact hp, ob.like_refl, rfl⟩), fun p ob hp => ?_, fun p p' ob ob' hpp hp hp' => ?_, fun b hb => ?_, h.frame, h.dfr, h.N, fun b hb => ?_⟩
 ·exact (h.objs p ob (hback p ob hp).2).stay hst (fun _ => rfl)
 ·exact h.sep p p' ob ob' hpp (hback p ob hp).2 (hback p' ob' hp').2
 ·obtain ⟨p, ob, hp, hc, rfl⟩ := hb
  have h1 := h.fresh _ ⟨p, ob, (hback p ob hp).2, hc, rfl⟩
  refine ⟨h1.1, h1.2.1, ?_⟩
  rintro (hz | ⟨obj, h3, h4, h5⟩)
  ·exact h1.2.2 hz
  ·exact h.sep p o ob obj (hback p ob hp).1 (hback p ob hp).2 h3 hc h4 h5.symm
 ·rcases hb with hz | ⟨obj, h3, h4, rfl⟩
  ·exact h.zlt b hz
  ·exact (h.fresh _ ⟨o, obj, h3, h4, rfl⟩).1
theorem RelP.worldZ (h : RelP E pl w a s) {own : Nat → Prop} (hfr : Fr w own w') (hown : ∀ b, own b → E.Z b ∧ (E.own b ∨ E.w0.heap.size ≤ b)) {Z2 : Nat → Prop} (hZ : ∀ b, b < w.heap.size → Z2 b → E.Z b) (hz2 : ∀ b, Z2 b → b < w'.heap.size) :
  RelP (E.withZ Z2) pl w' a s := by
 have hAv : ∀ b, b < w.heap.size → Av (E.withZ Z2) s.objs pl b → Av E s.objs pl b := fun b hb hA => hA.imp (hZ b hb) id
 have hst : Stay w (Av E s.objs pl) w' (Av (E.withZ Z2) s.objs pl) := fun b hb hA => ⟨fun hA' => hA (hAv b hb hA'), hfr.block b hb (fun ho => hA (.inl (hown b ho).1))⟩
 have hkeep : ∀ o ob, s.objs o = some ob → occ (pl o) ob → w'.heap[(pl o).b]? = w.heap[(pl o).b]? := fun o ob ho hc => by
  have h1 := h.fresh _ ⟨o, ob, ho, hc, rfl⟩
  exact hfr.block _ h1.1 (fun hh => h1.2.2 (hown _ hh).1)
 refine ⟨fun t => (h.vals t).move (fun k x cs hc => hc.stay hst) (fun o ob ho => ⟨ob, ho, ob.like_refl, rfl⟩), fun o ob ho => (h.objs o ob ho).stay hst (hkeep o ob ho), h.sep, fun b hb => ?_, ⟨hfr.os.trans h.frame.os, hfr.tape.trans h.frame.tape, hfr.output.trans h.frame.output, Nat.le_trans h.frame.size hfr.size, fun b hb hn => ?_⟩, h.dfr, h.N, hz2⟩
 ·have h1 := h.fresh b hb
  exact ⟨Nat.lt_of_lt_of_le h1.1 hfr.size, h1.2.1, fun hz => h1.2.2 (hZ b h1.1 hz)⟩
 ·have hb' : b < E.w0.heap.size := hb
  refine (hfr.block b (Nat.lt_of_lt_of_le hb h.frame.size) (fun ho => ?_)).trans (h.frame.block b hb hn)
  rcases (hown b ho).2 with h1 | h1
  ·exact hn h1
  ·omega
theorem RelP.add (h : RelP E pl w a s) {d : Nat} (hd : s.objs d = none) (obj : FObj) (p : Pl) (hp : occ p obj → E.Z p.b ∧ (E.own p.b ∨ E.w0.heap.size ≤ p.b)) {Z2 : Nat → Prop} (hZ : ∀ b, Z2 b → E.Z b ∧ (occ p obj → b ≠ p.b))
  (hobj : ∀ A', (∀ b, A' b → Av E s.objs pl b) → ObjAt E.P w A' p obj) : RelP (E.withZ Z2) (upd pl d p) w a (s.setO d (some obj)) := by
 have hne : ∀ o ob, s.objs o = some ob → o ≠ d := fun o ob ho e => by subst e; rw [hd] at ho; cases ho
 have hAv : ∀ b, Av (E.withZ Z2) (s.setO d (some obj)).objs (upd pl d p) b → Av E s.objs pl b := by
  rintro b (hz | ⟨o, ob, ho, hc, hb⟩)
  ·exact .inl (hZ b hz).1
  ·by_cases e : o = d
   ·subst e
    rw [aT] at ho
    cases ho
    rw [aU] at hc hb
    subst hb
    exact .inl (hp hc).1
   ·rw [aZ _ _ _ e] at ho
    rw [bJ _ _ _ e] at hc hb
    exact .inr ⟨o, ob, ho, hc, hb⟩
 have hst : Stay w (Av E s.objs pl) w (Av (E.withZ Z2) (s.setO d (some obj)).objs (upd pl d p)) := fun b hb hA => ⟨fun hA' => hA (hAv b hA'), rfl⟩
 have hO : ∀ o ob, s.objs o = some ob → ∃ ob', (s.setO d (some obj)).objs o = some ob' ∧ ob.like ob' ∧ upd pl d p o = pl o := fun o ob ho =>
  ⟨ob, by rw [aZ _ _ _ (hne o ob ho)]; exact ho, ob.like_refl, bJ _ _ _ (hne o ob ho)⟩
 have hz1 : ∀ o ob, s.objs o = some ob → occ (pl o) ob → occ p obj → (pl o).b ≠ p.b := fun o ob ho hc hcp e => (h.fresh _ ⟨o, ob, ho, hc, rfl⟩).2.2 (e ▸ (hp hcp).1)
 refine ⟨fun t => (h.vals t).move (fun k x cs hc => hc.stay hst) hO, fun o ob ho => ?_, fun o o' ob ob' hoo ho ho' hc hc' => ?_, fun b hb => ?_, h.frame, h.dfr, h.N, fun b hb => h.zlt b (hZ b hb).1⟩
 ·by_cases e : o = d
  ·subst e
   rw [aT] at ho
   cases ho
   rw [aU]
   exact hobj _ hAv
  ·rw [aZ _ _ _ e] at ho
   rw [bJ _ _ _ e]
   exact (h.objs o ob ho).stay hst (fun hc => rfl)
 ·by_cases e : o = d
  ·subst e
   have e' : o' ≠ o := fun e => hoo e.symm
   rw [aT] at ho
   cases ho
   rw [aZ _ _ _ e'] at ho'
   rw [aU] at hc
   rw [bJ _ _ _ e'] at hc'
   rw [aU, bJ _ _ _ e']
   exact (hz1 o' ob' ho' hc' hc).symm
  ·rw [aZ _ _ _ e] at ho
   rw [bJ _ _ _ e] at hc ⊢
   by_cases e' : o' = d
   ·subst e'
    rw [aT] at ho'
    cases ho'
    rw [aU] at hc' ⊢
    exact hz1 o ob ho hc hc'
   ·rw [aZ _ _ _ e'] at ho'
    rw [bJ _ _ _ e'] at hc' ⊢
    exact h.sep o o' ob ob' hoo ho ho' hc hc'
 ·obtain ⟨o, ob, ho, hc, rfl⟩ := hb
  by_cases e : o = d
  ·subst e
   rw [aT] at ho
   cases ho
   rw [aU] at hc ⊢
   have h2 := hp hc
   exact ⟨h.zlt _ h2.1, h2.2, fun hz => (hZ _ hz).2 hc rfl⟩
  ·rw [aZ _ _ _ e] at ho
   rw [bJ _ _ _ e] at hc ⊢
   have h1 := h.fresh _ ⟨o, ob, ho, hc, rfl⟩
   exact ⟨h1.1, h1.2.1, fun hz => h1.2.2 (hZ _ hz).1⟩
theorem RelP.killAllZ : ∀ (l : List Nat) {E : Env} {s : FState}, RelP E pl w a s → l.Nodup → RelP (E.withZ fun b => E.Z b ∨ ∃ o ∈ l, ∃ obj, s.objs o = some obj ∧ occ (pl o) obj ∧ (pl o).b = b) pl w a (bU l s)
 | [], E, s, h, _ => by
  have := h.worldZ (own := fun _ => False) (w' := w) (Z2 := fun b => E.Z b ∨ ∃ o ∈ ([] : List Nat), ∃ obj, s.objs o = some obj ∧ occ (pl o) obj ∧ (pl o).b = b) ⟨rfl, rfl, rfl, Nat.le_refl _, fun _ _ _ => rfl⟩ (fun b h => h.elim) (fun b _ hz => by simpa using hz) (fun b hz => h.zlt b (by simpa using hz))
  exact this
 | p :: l, E, s, h, hn => by
  have h1 := h.killZ p
  have h2 := RelP.killAllZ l h1 (List.nodup_cons.1 hn).2
  have h3 := h2.worldZ (own := fun _ => False) (w' := w) (Z2 := fun b => E.Z b ∨ ∃ o ∈ p :: l, ∃ obj, s.objs o = some obj ∧ occ (pl o) obj ∧ (pl o).b = b) ⟨rfl, rfl, rfl, Nat.le_refl _, fun _ _ _ => rfl⟩ (fun b h => h.elim) (fun b _ hz => by
   rcases hz with hz | ⟨o, ho, obj, g1, g2, g3⟩
   ·exact .inl (.inl hz)
   ·rcases List.mem_cons.1 ho with e | ho
    ·subst e; exact .inl (.inr ⟨obj, g1, g2, g3⟩)
    ·refine .inr ⟨o, ho, obj, ?_, g2, g3⟩
     rw [gY, if_neg (fun (e : o = p) => (List.nodup_cons.1 hn).1 (e ▸ ho))]; exact g1) (fun b hz => by
   rcases hz with hz | ⟨o, ho, obj, g1, g2, g3⟩
   ·exact h.zlt b hz
   ·rw [← g3]; exact (h.fresh _ ⟨o, obj, g1, g2, rfl⟩).1)
  exact h3
theorem ArgRep.obj_rw {k : K} {e : TypeId} {xs : List k.den} {v : Value} {own : List Nat} {A : Nat → Prop} (h : ArgRep w A (.rw k e) xs v own) : ∃ (ad : Option Addr) (p : Pl) (cap : Nat), v = .slice ad xs.length cap ∧ xs.length ≤ cap ∧ p.cap = cap ∧ (0 < cap → ad = some ⟨p.b, p.off, none⟩) ∧
  (0 < cap → own = [p.b] ∧ RowAt w A k p.b p.off xs ∧ ∃ (cs : Array Value) (t : TypeId), CellsAt w p.b cs t ∧ p.off + p.cap * k.size ≤ cs.size) ∧ (¬ 0 < cap → own = [] ∧ xs = []) := by
 obtain ⟨ad, cap, rfl, hle, h⟩ := h
 rcases h with ⟨rfl, rfl⟩ | ⟨b, off, cs, t, h1, h2, h3, h4, h5, h6⟩
 ·exact ⟨ad, ⟨0, 0, 0⟩, 0, rfl, hle, rfl, fun h => absurd h (by omega), fun h => absurd h (by omega), fun _ => ⟨rfl, List.eq_nil_of_length_eq_zero (by omega)⟩⟩
 ·exact ⟨ad, ⟨b, off, cap⟩, cap, rfl, hle, rfl, fun _ => h3, fun _ => ⟨h2, h4, cs, t, h5, h6⟩, fun h => absurd h1 h⟩
theorem rF {Ac : Nat → Prop} {d : Nat} : ∀ (rs : List RK) (j : Nat) (x : DenR rs) (s : FState) (pl : Nat → Pl) (own : List Nat) (vs : List Value) {f : FV → FState → Option β}, cU d j rs x s f = some r →
  RelP (E.withZ fun b => E.Z b ∨ b ∈ own) pl w a s → own.Nodup → (∀ b ∈ own, (E.own b ∨ E.w0.heap.size ≤ b) ∧ ¬ E.Z b) → (rs.all RK.flat = true ∨ ∀ b, Av (E.withZ fun b => E.Z b ∨ b ∈ own) s.objs pl b → Ac b) → RessRep E.P w Ac rs x vs own →
  ∃ fv s2 pl2, f fv s2 = some r ∧ RelP E pl2 w a s2 ∧ VRepL w (Av E s2.objs pl2) s2.objs pl2 fv vs ∧ (∀ o obj, s.objs o = some obj → s2.objs o = some obj ∧ pl2 o = pl o) ∧ (∀ b, Av E s2.objs pl2 b → Av (E.withZ fun b => E.Z b ∨ b ∈ own) s.objs pl b)
 | [], j, x, s, pl, own, vs, f, hk, h, hnd, hown, hA, hr => by
  obtain ⟨rfl, rfl⟩ := hr
  refine ⟨.tnil, s, pl, hk, ?_, rfl, fun o obj ho => ⟨ho, rfl⟩, fun b hb => hb.imp .inl id⟩
  exact h.worldZ (own := fun _ => False) (Z2 := E.Z) ⟨rfl, rfl, rfl, Nat.le_refl _, fun _ _ _ => rfl⟩ (fun b h => h.elim) (fun b _ hz => .inl hz) (fun b hz => h.zlt b (.inl hz))
 | k :: rs, j, x, s, pl, own, vs, f, hk, h, hnd, hown, hA, hr => by
  obtain ⟨v, vs', o1, o2, rfl, rfl, h1, h2⟩ := hr
  have hnd' := List.nodup_append.1 hnd
  have hZ2 : ∀ b, (E.Z b ∨ b ∈ o2) → (E.Z b ∨ b ∈ o1 ++ o2) := fun b hb => hb.imp id (fun h => List.mem_append.2 (.inr h))
  have step : ∀ (s1 : FState) (pl1 : Nat → Pl) (g : FV), (∀ b, Av (E.withZ fun b => E.Z b ∨ b ∈ o2) s1.objs pl1 b → Av (E.withZ fun b => E.Z b ∨ b ∈ o1 ++ o2) s.objs pl b) → RelP (E.withZ fun b => E.Z b ∨ b ∈ o2) pl1 w a s1 → (∀ o obj, s.objs o = some obj → s1.objs o = some obj ∧ pl1 o = pl o) →
    VRep1 w (Av (E.withZ fun b => E.Z b ∨ b ∈ o2) s1.objs pl1) s1.objs pl1 g v → cU d (j + 1) rs x.2 s1 (fun u s => f (.tcons g u) s) = some r →
    ∃ fv s2 pl2, f fv s2 = some r ∧ RelP E pl2 w a s2 ∧ VRepL w (Av E s2.objs pl2) s2.objs pl2 fv (v :: vs') ∧ (∀ o obj, s.objs o = some obj → s2.objs o = some obj ∧ pl2 o = pl o) ∧ (∀ b, Av E s2.objs pl2 b → Av (E.withZ fun b => E.Z b ∨ b ∈ o1 ++ o2) s.objs pl b) := fun s1 pl1 g hAv hrel hO hv hput => by
   obtain ⟨fv, s2, pl2, g1, g2, g3, g4, g5⟩ := rF rs (j + 1) x.2 s1 pl1 o2 vs' hput hrel hnd'.2.1 (fun b hb => hown b (List.mem_append.2 (.inr hb))) (by
    rcases hA with hA | hA
    ·left; simp only [List.all_cons, Bool.and_eq_true] at hA; exact hA.2
    ·right; exact fun b hb => hA b (hAv b hb)) h2
   refine ⟨_, s2, pl2, g1, g2, ⟨v, vs', rfl, ?_, g3⟩, fun o obj ho => ?_, fun b hb => hAv b (g5 b hb)⟩
   ·exact hv.move (fun k x cs hc => hc.mono g5) (fun o obj ho => ⟨obj, (g4 o obj ho).1, obj.like_refl, (g4 o obj ho).2⟩)
   ·obtain ⟨e1, e2⟩ := hO o obj ho
    obtain ⟨e3, e4⟩ := g4 o obj e1
    exact ⟨e3, e4.trans e2⟩
  have keep : ∀ (obj : FObj) (p : Pl), s.objs (d + j * 1000000) = none → ∀ o ob, s.objs o = some ob → (s.setO (d + j * 1000000) (some obj)).objs o = some ob ∧ upd pl (d + j * 1000000) p o = pl o := fun obj p hd o ob ho => by
   have : o ≠ d + j * 1000000 := fun e => by subst e; rw [hd] at ho; cases ho
   exact ⟨by rw [aZ _ _ _ this]; exact ho, bJ _ _ _ this⟩
  have avNew : ∀ (obj : FObj) (p : Pl), s.objs (d + j * 1000000) = none → (occ p obj → o1 = [p.b]) → ∀ b, Av (E.withZ fun b => E.Z b ∨ b ∈ o2) (s.setO (d + j * 1000000) (some obj)).objs (upd pl (d + j * 1000000) p) b → Av (E.withZ fun b => E.Z b ∨ b ∈ o1 ++ o2) s.objs pl b := by
   rintro obj p hd hp b (hz | ⟨o, ob, ho, hc, hb⟩)
   ·exact .inl (hZ2 b hz)
   ·by_cases e : o = d + j * 1000000
    ·subst e
     rw [aT] at ho
     cases ho
     rw [aU] at hc hb
     subst hb
     exact .inl (.inr (by rw [hp hc]; simp))
    ·rw [aZ _ _ _ e] at ho
     rw [bJ _ _ _ e] at hc hb
     exact .inr ⟨o, ob, ho, hc, hb⟩
  have hp1 : ∀ (obj : FObj) (p : Pl), (occ p obj → o1 = [p.b]) → occ p obj → (E.Z p.b ∨ p.b ∈ o1 ++ o2) ∧ (E.own p.b ∨ E.w0.heap.size ≤ p.b) := fun obj p hp hc =>
   ⟨.inr (by rw [hp hc]; simp), (hown p.b (by rw [hp hc]; simp)).1⟩
  have hz1 : ∀ (obj : FObj) (p : Pl), (occ p obj → o1 = [p.b]) → ∀ b, (E.Z b ∨ b ∈ o2) → (E.Z b ∨ b ∈ o1 ++ o2) ∧ (occ p obj → b ≠ p.b) := fun obj p hp b hb => ⟨hZ2 b hb, fun hc e => by
   subst e
   rcases hb with hb | hb
   ·exact (hown p.b (by rw [hp hc]; simp)).2 hb
   ·exact hnd'.2.2 p.b (by rw [hp hc]; simp) p.b hb rfl⟩
  cases k with
  | dat k =>
   obtain ⟨rfl, cs, hc, hv⟩ := h1
   unfold cU at hk
   refine step s pl (.dat k x.1) (fun b hb => hb) h (fun o obj ho => ⟨ho, rfl⟩) ⟨cs, ?_, hv⟩ hk
   rcases hA with hA | hA
   ·simp only [List.all_cons, Bool.and_eq_true, RK.flat] at hA
    exact hc.flat hA.1
   ·exact hc.mono hA
  | nsl =>
   obtain ⟨rfl, rfl⟩ := h1
   unfold cU at hk
   exact step s pl .nsl (fun b hb => hb) h (fun o obj ho => ⟨ho, rfl⟩) rfl hk
  | rw k e =>
   obtain ⟨hTy, h1⟩ := h1
   obtain ⟨ad, p, cap, rfl, hle, hpc, had, hc1, hc2⟩ := h1.obj_rw
   unfold cU at hk
   split at hk
   ·rename_i hd
    have hp : occ p (.row k e true x.1) → o1 = [p.b] := fun hc => (hc1 (by have := hc.2; omega)).1
    refine step _ _ (.sl (d + j * 1000000) none false) (avNew _ p hd hp) (h.add hd _ p (hp1 _ p hp) (hz1 _ p hp) (fun A' hA' => ⟨hTy, by omega, fun _ hcp => (hc1 (by omega)).2.2, fun hh => (by cases hh), ?_⟩)) (keep _ p hd)
     ⟨k, e, true, x.1, aT _ _ _, ad, cap, 0, x.1.length, ⟨rfl, rfl⟩, rfl, hle, fun _ => by rw [aU]; omega, fun hh => by rw [aU, had (by omega)]; simp, fun hn => by cases hn⟩ hk
    by_cases hcp : 0 < cap
    ·rcases hA with hA | hA
     ·simp only [List.all_cons, Bool.and_eq_true, RK.flat] at hA
      exact (hc1 hcp).2.1.flat hA.1
     ·exact (hc1 hcp).2.1.mono (fun b hb => hA b (hA' b hb))
    ·rw [(hc2 hcp).2]; exact RowAt.nil _ _ _ _ _
   ·cases hk
  | ro k e =>
   obtain ⟨hTy, rfl, ad, cap, rfl, hle, hx⟩ := h1
   have hA' : ∀ b, Av (E.withZ fun b => E.Z b ∨ b ∈ [] ++ o2) s.objs pl b → Ac b := hA.resolve_left (by simp [RK.flat])
   unfold cU at hk
   split at hk
   ·rename_i hd
    by_cases hx0 : x.1 = []
    ·have hp : occ ⟨0, 0, x.1.length⟩ (.row k e false x.1) → ([] : List Nat) = [(⟨0, 0, x.1.length⟩ : Pl).b] := fun hc => by cases hc.1
     refine step _ _ (.sl (d + j * 1000000) none false) (avNew _ _ hd hp) (h.add hd _ ⟨0, 0, x.1.length⟩ (hp1 _ _ hp) (hz1 _ _ hp) (fun A' hAA => ⟨hTy, Nat.le_refl _, fun hh => (by cases hh), fun _ hne => absurd hx0 hne, by rw [hx0]; exact RowAt.nil _ _ _ _ _⟩)) (keep _ _ hd)
      ⟨k, e, false, x.1, aT _ _ _, ad, cap, 0, x.1.length, ⟨rfl, rfl⟩, rfl, hle, fun hh => (by cases hh), fun hh => ?_, fun hn => by cases hn⟩ hk
     rcases hh with hh | hh
     ·rw [hx0] at hh; simp at hh
     ·cases hh.1
    ·obtain ⟨b, off, rfl, hb, hrow⟩ := hx hx0
     have hp : occ ⟨b, off, x.1.length⟩ (.row k e false x.1) → ([] : List Nat) = [(⟨b, off, x.1.length⟩ : Pl).b] := fun hc => by cases hc.1
     exact step _ _ (.sl (d + j * 1000000) none false) (avNew _ _ hd hp) (h.add hd _ ⟨b, off, x.1.length⟩ (hp1 _ _ hp) (hz1 _ _ hp) (fun A' hAA => ⟨hTy, Nat.le_refl _, fun hh => (by cases hh), fun _ hne hh => hb (hA' b (hAA b hh)), hrow.mono (fun b hb => hA' b (hAA b hb))⟩)) (keep _ _ hd)
      ⟨k, e, false, x.1, aT _ _ _, _, cap, 0, x.1.length, ⟨rfl, rfl⟩, rfl, hle, fun hh => (by cases hh), fun hh => by rw [aU]; simp, fun hn => by cases hn⟩ hk
   ·cases hk
  | ptr k e =>
   obtain ⟨hTy, b, off, cs, t, rfl, rfl, hrow, hmem, hsz⟩ := h1
   unfold cU at hk
   split at hk
   ·rename_i hd
    have hp : occ ⟨b, off, 1⟩ (.row k e true [x.1]) → [b] = [(⟨b, off, 1⟩ : Pl).b] := fun hc => rfl
    refine step _ _ (.ptr (d + j * 1000000) 0 0) (avNew _ ⟨b, off, 1⟩ hd hp) (h.add hd _ ⟨b, off, 1⟩ (hp1 _ ⟨b, off, 1⟩ hp) (hz1 _ ⟨b, off, 1⟩ hp) (fun A' hA' => ⟨hTy, Nat.le_refl _, fun _ _ => ⟨cs, t, hmem, by simpa using hsz⟩, fun hh => (by cases hh), ?_⟩)) (keep _ ⟨b, off, 1⟩ hd)
     ⟨k, e, true, [x.1], aT _ _ _, Int.le_refl _, by simp, by rw [aU]; simp⟩ hk
    rcases hA with hA | hA
    ·simp only [List.all_cons, Bool.and_eq_true, RK.flat] at hA
     exact hrow.flat hA.1
    ·exact hrow.mono (fun b hb => hA b (hA' b hb))
   ·cases hk
theorem oB : ∀ {l : List Nat}, kF l = true → l.Nodup
 | [], _ => List.nodup_nil
 | x :: l, h => by
  simp only [kF, Bool.and_eq_true] at h
  refine List.nodup_cons.2 ⟨fun hx => ?_, oB h.2⟩
  rw [dF hx] at h
  simp at h
def J7 (O : kB) (pl : Nat → Pl) (ids : List Nat) (b : Nat) : Prop := ∃ o ∈ ids, ∃ obj, O o = some obj ∧ occ (pl o) obj ∧ (pl o).b = b
theorem eP (h : RelP E pl w a s) (ids : List Nat) : ∀ (ks : List AK) (xs : List Operand) {f : DenA ks → Option β}, cA s ks (xs.map (ev s)) f = some r →
  (∀ o ∈ cS ks (xs.map (ev s)), o ∈ ids) → kF (cV ks (xs.map (ev s))) = true →
  ∃ (d : DenA ks) (own : List Nat), f d = some r ∧ ArgsRep w (fun b => Av E s.objs pl b ∧ ¬ J7 s.objs pl ids b) ks d (xs.map a.eval) own ∧
   (∀ b ∈ own, ∃ o ∈ cV ks (xs.map (ev s)), ∃ obj, s.objs o = some obj ∧ occ (pl o) obj ∧ (pl o).b = b) ∧ own.Nodup
 | [], [], f, hk, _, _ => ⟨(), [], hk, ⟨rfl, rfl⟩, fun b hb => by simp at hb, List.nodup_nil⟩
 | [], x :: xs, f, hk, _, _ => by simp [cA] at hk
 | .dat k :: ks, [], f, hk, _, _ => by simp [cA] at hk
 | .ro k e :: ks, [], f, hk, _, _ => by simp [cA] at hk
 | .rw k e :: ks, [], f, hk, _, _ => by simp [cA] at hk
 | .pro k e :: ks, [], f, hk, _, _ => by simp [cA] at hk
 | .dat k :: ks, x :: xs, f, hk, hi, hn => by
  simp only [List.map_cons, cA] at hk
  obtain ⟨y, hy, hk⟩ := eJ hk
  obtain ⟨d, own, h1, h2, h3, h4⟩ := eP h ids ks xs hk (by simpa [cS] using hi) (by simpa [cV] using hn)
  obtain ⟨cs, hcs, hv⟩ := (h.ev x _ hy).dat_inv
  exact ⟨(y, d), own, h1, ⟨_, _, [], own, rfl, rfl, ⟨rfl, cs, hcs.mono (fun b hb => hb.1), hv⟩, h2⟩, by simpa [cV] using h3, h4⟩
 | .ro k e :: ks, x :: xs, f, hk, hi, hn => by
  simp only [List.map_cons] at hk hi hn
  unfold cA at hk
  split at hk
  ·rename_i hx
   obtain ⟨d, own, h1, h2, h3, h4⟩ := eP h ids ks xs hk (by rw [hx] at hi; simpa [cS] using hi) (by simpa [cV] using hn)
   have hve : a.eval x = .slice none 0 0 := by
    rcases h.ev x _ hx with hv | ⟨l, _, hl⟩
    ·exact hv
    ·exact hl.elim
   exact ⟨([], d), own, h1, ⟨_, _, [], own, rfl, rfl, ⟨rfl, none, 0, hve, Nat.le_refl _, fun hne => absurd rfl hne⟩, h2⟩, by simpa [cV] using h3, h4⟩
  ·obtain ⟨o, wn, nn, k', e', rw_, ys, hx, ho, hk⟩ := cI hk
   obtain ⟨he, hk⟩ := bI hk
   obtain ⟨rfl, hk⟩ := bR hk
   obtain ⟨d, own, h1, h2, h3, h4⟩ := eP h ids ks xs hk (fun o' ho' => hi o' (by rw [hx]; simp [cS, ho'])) (by simpa [cV] using hn)
   obtain ⟨k1, e1, rw1, xs1, ho1, ad, cap, off, len, hw, hxe, hl, hc1, hc2, _⟩ := (h.ev x _ hx).sl_inv
   rw [ho] at ho1
   cases ho1
   obtain ⟨hTy, hxl, hmem, hro, hrow⟩ := h.objs o _ ho
   obtain ⟨hrw, hwl⟩ := hrow.winC hw
   refine ⟨(win ys wn, d), own, h1, ⟨_, _, [], own, rfl, rfl, ⟨rfl, ad, cap, by rw [hwl]; exact hxe, by rw [hwl]; exact hl, fun hne => ?_⟩, h2⟩, by simpa [cV] using h3, h4⟩
   have hlen : 0 < len := by have := eM hne; rw [hwl] at this; exact this
   refine ⟨_, _, hc2 (.inl hlen), fun hA => ?_, hrw.mono (fun b hb => hb.1)⟩
   have hys : ys ≠ [] := by
    have := hw.bd.1
    exact lU (by omega)
   cases rw_ with
   | false => exact hro rfl hys hA.1
   | true => exact hA.2 ⟨o, hi o (by rw [hx]; simp [cS]), _, ho, ⟨rfl, by have := eM hys; omega⟩, rfl⟩
 | .rw k e :: ks, x :: xs, f, hk, hi, hn => by
  simp only [List.map_cons] at hk hi hn
  unfold cA at hk
  split at hk
  ·rename_i hx
   obtain ⟨d, own, h1, h2, h3, h4⟩ := eP h ids ks xs hk (by simpa [cS] using hi) (by rw [hx] at hn; simpa [cV] using hn)
   have hve : a.eval x = .slice none 0 0 := by
    rcases h.ev x _ hx with hv | ⟨l, _, hl⟩
    ·exact hv
    ·exact hl.elim
   exact ⟨([], d), own, h1, ⟨_, _, [], own, rfl, rfl, ⟨none, 0, hve, Nat.le_refl _, .inl ⟨rfl, rfl⟩⟩, h2⟩, by simp only [List.map_cons, hx, cV]; exact h3, h4⟩
  ·obtain ⟨o, wn, nn, k', e', rw_, ys, hx, ho, hk⟩ := cI hk
   have hh := bI hk
   clear hk
   obtain ⟨⟨he, hr⟩, hk⟩ := hh
   subst hr
   have hh := bR hk
   clear hk
   obtain ⟨he', hk⟩ := hh
   subst he'
   rw [hx] at hn
   simp only [cV, kF, Bool.and_eq_true] at hn
   obtain ⟨d, own, h1, h2, h3, h4⟩ := eP h ids ks xs hk (by simpa [cS] using hi) hn.2
   obtain ⟨k1, e1, rw1, xs1, ho1, ad, cap, off, len, hw, hxe, hl, hc1, hc2, _⟩ := (h.ev x _ hx).sl_inv
   rw [ho] at ho1
   cases ho1
   obtain ⟨hTy, hxl, hmem, hro, hrow⟩ := h.objs o _ ho
   obtain ⟨hrw, hwl⟩ := hrow.winC hw
   have hpc := hc1 rfl
   by_cases hcap : 0 < cap
   ·have hocc : occ (pl o) (.row k' e' true ys) := ⟨rfl, by omega⟩
    obtain ⟨row, tt, hrm, hsz⟩ := hmem rfl (by omega)
    refine ⟨(win ys wn, d), (pl o).b :: own, h1, ⟨_, _, [(pl o).b], own, rfl, rfl, ⟨ad, cap, by rw [hwl]; exact hxe, by rw [hwl]; exact hl, .inr ⟨(pl o).b, (pl o).off + off * k'.size, row, tt, hcap, rfl, hc2 (.inr ⟨rfl, hcap⟩), hrw.mono (fun b hb => hb.1), hrm, ?_⟩⟩, h2⟩, ?_, ?_⟩
    ·have : off * k'.size + cap * k'.size = (pl o).cap * k'.size := by rw [← Nat.add_mul, hpc]
     omega
    ·intro b hb
     simp only [List.map_cons, hx, cV]
     rcases List.mem_cons.1 hb with rfl | hb
     ·exact ⟨o, by simp, _, ho, hocc, rfl⟩
     ·obtain ⟨o', g1, g2⟩ := h3 b hb
      exact ⟨o', by simp [g1], g2⟩
    ·refine List.nodup_cons.2 ⟨fun hb => ?_, h4⟩
     obtain ⟨o', g1, obj, g2, g3, g4⟩ := h3 _ hb
     by_cases e : o' = o
     ·subst e
      have : jZ o' (cV ks (xs.map (ev s))) = true := dF g1
      rw [this] at hn
      simp at hn
     ·exact h.sep o' o obj _ e g2 ho g3 hocc g4
   ·have hwl0 : len = 0 := by omega
    refine ⟨(win ys wn, d), own, h1, ⟨_, _, [], own, rfl, rfl, ⟨ad, cap, by rw [hwl]; exact hxe, by rw [hwl]; exact hl, .inl ⟨by omega, rfl⟩⟩, h2⟩, fun b hb => ?_, h4⟩
    simp only [List.map_cons, hx, cV]
    obtain ⟨o', g1, g2⟩ := h3 b hb
    exact ⟨o', by simp [g1], g2⟩
 | .pro k e :: ks, x :: xs, f, hk, hi, hn => by
  simp only [List.map_cons] at hk hi hn
  unfold cA at hk
  split at hk
  ·rename_i o i hx
   split at hk
   ·rename_i k' e' rw_ ys ho
    obtain ⟨he, hk⟩ := bI hk
    obtain ⟨rfl, hk⟩ := iN hk
    obtain ⟨d, own, h1, h2, h3, h4⟩ := eP h ids ks xs hk (fun o' ho' => hi o' (by rw [hx]; simp [cS, ho'])) (by simpa [cV] using hn)
    obtain ⟨k1, e1, rw1, xs1, ho1, hi0, hi1, hv⟩ := (h.ev x _ hx).ptr_inv
    rw [ho] at ho1
    cases ho1
    obtain ⟨hTy, hxl, hmem, hro, hrow⟩ := h.objs o _ ho
    have hys : ys ≠ [] := lU (by omega)
    refine ⟨(rdK k' ys i, d), own, h1, ⟨_, _, [], own, rfl, rfl, ⟨rfl, (pl o).b, (pl o).off + i.toNat * k'.size, by simpa using hv, fun hA => ?_, fun j x hj => ?_⟩, h2⟩, by simpa [cV] using h3, h4⟩
    ·cases rw_ with
     | false => exact hro rfl hys hA.1
     | true => exact hA.2 ⟨o, hi o (by rw [hx]; simp [cS]), _, ho, ⟨rfl, by have := eM hys; omega⟩, rfl⟩
    ·cases j with
     | succ j => simp at hj
     | zero =>
      simp at hj
      subst hj
      obtain ⟨ds, hd, hc⟩ := hrow _ _ (EJ hi0 hi1)
      exact ⟨ds, hd.mono (fun b hb => hb.1), fun j hj => by simpa using hc j hj⟩
   ·cases hk
  ·cases hk
theorem aL0 {c : Bool} {x : Option β} (h : (bif c then x else none) = some r) : c = true ∧ x = some r := by
 cases c
 ·cases h
 ·exact ⟨rfl, h⟩
theorem A8 {A : Nat → Prop} {O : kB} {fv : FV} {us : List Value} (h : VRepL w A O pl fv us) : VRep w A O pl (sC fv) (FL us) := by
 cases fv <;> simp only [VRepL] at h <;> try exact h.elim
 case tnil => subst h; exact .inr ⟨[], rfl, rfl⟩
 case tcons x y =>
  obtain ⟨v, l, rfl, h1, h2⟩ := h
  cases y <;> simp only [VRepL] at h2 <;> try exact h2.elim
  case tnil => subst h2; exact .inl h1
  case tcons x2 y2 =>
   obtain ⟨v2, l2, rfl, h3, h4⟩ := h2
   exact .inr ⟨v :: v2 :: l2, rfl, v, _, rfl, h1, v2, l2, rfl, h3, h4⟩
theorem tF (P : Program) (f : FuncId) (hc : aH P f) (args : Array Value) (w : World) : (callFunc f args).run P w = .ok (.enter f args) w := by
 unfold aH at hc
 cases hf : P.funcs[f]? with
 | none => simp [hf] at hc
 | some fn =>
  rw [hf] at hc
  simp only [Option.map_some, Option.some.injEq, Prod.mk.injEq] at hc
  have h1 : ¬ fn.name = "runtime.NumGoroutine" := by simpa using hc.2
  have h2 : ¬ fn.body = none := fun e => by rw [e] at hc; simp at hc
  unfold callFunc
  simp [hf, h1, h2]
theorem q9 (s : FState) (o : Nat) : (s.down o).tmps = s.tmps := by
 unfold FState.down
 split <;> rfl
theorem vF : ∀ (l : List Nat) (s : FState), (downAll l s).tmps = s.tmps
 | [], s => rfl
 | o :: l, s => by rw [downAll, vF l, q9]
theorem MZ (S : bG) (vs : List FV) (s : FState) : (downFor S vs s).tmps = s.tmps := by
 unfold downFor
 cases S.rets.all RK.flat
 ·exact vF _ _
 ·rfl
theorem BF (S : bG) (vs : List FV) (s : FState) (x : Operand) : ev (downFor S vs s) x = ev s x := by
 cases x <;> simp only [ev, MZ]
theorem VRep1.down {A A' : Nat → Prop} {O O' : kB} {o : Nat} {k : K} {e : TypeId} {xs : List k.den} (hA : ∀ b, A' b → A b) (ho : O o = some (.row k e true xs)) (ho' : O' o = some (.row k e false xs)) (hO : ∀ p, p ≠ o → O' p = O p) {f : FV} {v : Value} (h : VRep1 w A O pl f v) : VRep1 w A' O' pl f v := by
 cases f with
 | dat k x => obtain ⟨cs, h1, h2⟩ := h; exact ⟨cs, h1.mono hA, h2⟩
 | sl p wn nn =>
  obtain ⟨k1, e1, rw1, xs1, hp, ad, cap, off, len, h1, h2, h3, h4, h5, h6⟩ := h
  by_cases hpo : p = o
  ·subst hpo
   rw [ho] at hp
   cases hp
   exact ⟨k, e, false, xs, ho', ad, cap, off, len, h1, h2, h3, fun hh => (by cases hh), fun hh => h5 (hh.imp id (fun hh => by cases hh.1)), h6⟩
  ·exact ⟨k1, e1, rw1, xs1, (hO p hpo).trans hp, ad, cap, off, len, h1, h2, h3, h4, h5, h6⟩
 | ptr p i off =>
  obtain ⟨k1, e1, rw1, xs1, hp, h1, h2, h3⟩ := h
  by_cases hpo : p = o
  ·subst hpo
   rw [ho] at hp
   cases hp
   exact ⟨k, e, false, xs, ho', h1, h2, h3⟩
  ·exact ⟨k1, e1, rw1, xs1, (hO p hpo).trans hp, h1, h2, h3⟩
 | it p =>
  obtain ⟨st, q, hp, h1⟩ := h
  have hpo : p ≠ o := fun e => by subst e; rw [ho] at hp; cases hp
  exact ⟨st, q, (hO p hpo).trans hp, h1⟩
 | _ => exact h
theorem VRepL.down {A A' : Nat → Prop} {O O' : kB} {o : Nat} {k : K} {e : TypeId} {xs : List k.den} (hA : ∀ b, A' b → A b) (ho : O o = some (.row k e true xs)) (ho' : O' o = some (.row k e false xs)) (hO : ∀ p, p ≠ o → O' p = O p) : ∀ {f : FV} {l : List Value}, VRepL w A O pl f l → VRepL w A' O' pl f l
 | .tnil, _, h => h
 | .tcons a b, _, ⟨x, l', h1, h2, h3⟩ => ⟨x, l', h1, h2.down hA ho ho' hO, VRepL.down hA ho ho' hO h3⟩
 | .dead, _, h | .dat _ _, _, h | .nsl, _, h | .sl _ _ _, _, h | .ptr _ _ _, _, h | .nilp, _, h | .nilif, _, h | .mp _, _, h | .it _, _, h | .fn _, _, h | .glob _, _, h => h.elim
theorem RelP.down (h : RelP E pl w a s) (o : Nat) : RelP E pl w a (s.down o) := by
 unfold FState.down
 split
 ·rename_i k e xs ho
  have hO : ∀ p, p ≠ o → (s.setO o (some (.row k e false xs))).objs p = s.objs p := fun p hp => aZ _ _ _ hp
  have hOwn : ∀ b, Own (s.setO o (some (.row k e false xs))).objs pl b → Own s.objs pl b ∧ (occ (pl o) (.row k e true xs) → b ≠ (pl o).b) := fun b ⟨p, obj, hp, hc, hb⟩ => by
   by_cases hpo : p = o
   ·subst hpo
    rw [aT] at hp
    cases hp
    cases hc.1
   ·rw [hO p hpo] at hp
    exact ⟨⟨p, obj, hp, hc, hb⟩, fun hoc e => h.sep p o obj _ hpo hp ho hc hoc (hb.trans e)⟩
  have hAv : ∀ b, Av E (s.setO o (some (.row k e false xs))).objs pl b → Av E s.objs pl b := fun b hb => hb.imp id (fun hb => (hOwn b hb).1)
  have hst : Stay w (Av E s.objs pl) w (Av E (s.setO o (some (.row k e false xs))).objs pl) := fun b hb hA => ⟨fun hA' => hA (hAv b hA'), rfl⟩
  refine ⟨fun t => ?_, fun p obj hp => ?_, fun p p' ob ob' hpp hp hp' hc hc' => ?_, fun b hb => h.fresh b (hOwn b hb).1, h.frame, h.dfr, h.N, h.zlt⟩
  ·rcases h.vals t with hv | ⟨l, h1, h2⟩
   ·exact .inl (hv.down hAv ho (aT _ _ _) hO)
   ·exact .inr ⟨l, h1, VRepL.down hAv ho (aT _ _ _) hO h2⟩
  ·by_cases hpo : p = o
   ·subst hpo
    rw [aT] at hp
    cases hp
    obtain ⟨h1, h2, h3, h4, h5⟩ := h.objs p _ ho
    refine ⟨h1, h2, fun hh => (by cases hh), fun _ hne hA => ?_, h5.stay hst rfl⟩
    have hoc : occ (pl p) (.row k e true xs) := ⟨rfl, by have := eM hne; omega⟩
    rcases hA with hz | hb
    ·exact (h.fresh _ ⟨p, _, ho, hoc, rfl⟩).2.2 hz
    ·exact (hOwn _ hb).2 hoc rfl
   ·rw [hO p hpo] at hp
    exact (h.objs p obj hp).stay hst (fun _ => rfl)
  ·have key : ∀ q ob, (s.setO o (some (.row k e false xs))).objs q = some ob → occ (pl q) ob → s.objs q = some ob := fun q ob hq hcq => by
    by_cases hqo : q = o
    ·subst hqo
     rw [aT] at hq
     cases hq
     cases hcq.1
    ·rw [hO q hqo] at hq; exact hq
   exact h.sep p p' ob ob' hpp (key p ob hp hc) (key p' ob' hp' hc') hc hc'
 ·exact h
theorem RelP.downAll : ∀ (l : List Nat) {s : FState}, RelP E pl w a s → RelP E pl w a (Go.Proofs.YticibdjilmclgaaDoorZF.downAll l s)
 | [], s, h => h
 | o :: l, s, h => RelP.downAll l (h.down o)
theorem Rel.downFor {S : bG} {vs : List FV} (h : Rel E w a s) : Rel E w a (Go.Proofs.YticibdjilmclgaaDoorZF.downFor S vs s) := by
 obtain ⟨pl, h⟩ := h
 unfold Go.Proofs.YticibdjilmclgaaDoorZF.downFor
 cases S.rets.all RK.flat
 ·exact ⟨pl, h.downAll _⟩
 ·exact ⟨pl, h⟩
theorem YF (h : Rel E w a s) {d : Option Tmp} (hd : dN E d) {fo : Operand} {f : FuncId} (hfo : ev s fo = .fn f) {S : bG} (hS : SK E.P f S) {args : Array Operand} {ats : Array TypeId} {ty : TypeId} {pos : String} {af : Array Edge} {g : Option (Nat × Bool)}
  (hk : HX S d (args.toList.map (ev s)) s κ = some r) : Oper.wp E.P ⟨d, .call { callee := .value fo, args := args, argTypes := ats }, ty, pos, af, g⟩ a w (Goes E κ r) Q := by
 obtain ⟨pl, h⟩ := h
 unfold HX at hk
 split at hk
 ·cases hk
 rename_i d
 obtain ⟨hc, hk⟩ := aL0 hk
 simp only [Bool.and_eq_true, Bool.or_eq_true, List.all_eq_true] at hc
 obtain ⟨⟨hnd, hdis⟩, hfl⟩ := hc
 obtain ⟨dd, own, happ, hargs, hown, hond⟩ := eP h (cS S.args (args.toList.map (ev s))) S.args args.toList hk (fun o ho => ho) hnd
 obtain ⟨x, hx, hput⟩ := hS.nat _ _ _ happ
 have hdis' : ∀ o ∈ cV S.args (args.toList.map (ev s)), o ∉ cS S.args (args.toList.map (ev s)) := fun o ho hr => by
  have := hdis o ho
  rw [dF hr] at this
  simp at this
 have hfv : a.eval fo = .func (.func f) #[] #[] := by
  rcases h.ev fo _ hfo with hv | ⟨l, _, hl⟩
  ·exact hv
  ·exact hl.elim
 have hrun : (execOp a.eval (⟨d, .call { callee := .value fo, args := args, argTypes := ats }, ty, pos, af, g⟩ : Oper)).run E.P w = .ok (.enter f (args.toList.map a.eval).toArray) w := by
  have e : (args.toList.map a.eval).toArray = args.map a.eval := by
   apply Array.ext'; simp
  rw [e]
  simp [execOp, resolve, hfv, Deferred.ofValue, invoke, tF E.P f hS.callable]
 unfold Oper.wp
 rw [hrun]
 show Calls _ _ _ _ _
 have hownAv : ∀ b ∈ own, Own s.objs pl b := fun b hb => by obtain ⟨o, _, obj, g1, g2, g3⟩ := hown b hb; exact ⟨o, obj, g1, g2, g3⟩
 have hownR : ∀ b ∈ own, ¬ J7 s.objs pl (cS S.args (args.toList.map (ev s))) b := fun b hb ⟨o', ho', obj', g1', g2', g3'⟩ => by
  obtain ⟨o, ho, obj, g1, g2, g3⟩ := hown b hb
  exact h.sep o o' obj obj' (fun e => hdis' o ho (e ▸ ho')) g1 g1' g2 g2' (g3.trans g3'.symm)
 refine (hS.calls w (fun b => Av E s.objs pl b ∧ ¬ J7 s.objs pl (cS S.args (args.toList.map (ev s))) b ∧ b ∉ own) _ own dd x (h.gok fun b hb => hownAv b hb) (fun b hb => ?_) hond (fun b hb => ⟨(h.fresh b (hownAv b hb)).1, fun hh => hh.2.2 hb⟩) (hargs.mono (fun b hb => ?_)) hx).mono ?_
 ·rcases hb.1 with hz | ho
  ·exact h.zlt b hz
  ·exact (h.fresh b ho).1
 ·rcases hb with hb | hb
  ·exact ⟨hb.1, hb.2.1⟩
  ·exact ⟨.inr (hownAv b hb), hownR b hb⟩
 ·rintro e w' ⟨us, own', rfl, hres, hnd', hown', hfr⟩
  show Goes E κ r _ _
  have h1 := h.killAllZ _ (oB hnd)
  have h2 := h1.worldZ (Z2 := fun b => E.Z b ∨ b ∈ own') hfr (fun b hb => by
    obtain ⟨o, ho, obj, g1, g2, g3⟩ := hown b hb
    exact ⟨.inr ⟨o, ho, obj, g1, g2, g3⟩, (h.fresh b (hownAv b hb)).2.1⟩) (fun b hb hz => by
    rcases hz with hz | hz
    ·exact .inl hz
    ·rcases (hown' b hz).1 with ho | ho
     ·obtain ⟨o, ho, obj, g1, g2, g3⟩ := hown b ho
      exact .inr ⟨o, ho, obj, g1, g2, g3⟩
     ·omega) (fun b hz => by
    rcases hz with hz | hz
    ·exact Nat.lt_of_lt_of_le (h.zlt b hz) hfr.size
    ·exact (hown' b hz).2)
  have hz' : ∀ b ∈ own', (E.own b ∨ E.w0.heap.size ≤ b) ∧ ¬ E.Z b := fun b hb => by
   rcases (hown' b hb).1 with ho | ho
   ·exact ⟨(h.fresh b (hownAv b ho)).2.1, (h.fresh b (hownAv b ho)).2.2⟩
   ·exact ⟨.inr (Nat.le_trans h.frame.size ho), fun hz => by have := h.zlt b hz; omega⟩
  obtain ⟨fv, s2, pl2, g1, g2, g3, g4, g5⟩ := rF S.rets 0 x (bU (cV S.args (args.toList.map (ev s))) s) pl own' us hput h2 hnd' hz' (by
   rcases hfl with hfl | hfl
   ·left; simpa [List.all_eq_true] using hfl
   ·right
    have hR : ∀ b, ¬ J7 s.objs pl (cS S.args (args.toList.map (ev s))) b := fun b ⟨o, ho, obj, e1, e2, e3⟩ => by
     have := hfl o ho
     unfold mP at this
     rw [e1] at this
     cases obj with
     | row k e rw xs => simp at this; subst this; cases e2.1
     | siter st pos => simp at this
    intro b hb
    rcases hb with (hz | hz) | ⟨o, obj, e1, e2, e3⟩
    ·exact .inl ⟨.inl hz, hR b, fun ho => (h.fresh b (hownAv b ho)).2.2 hz⟩
    ·exact .inr hz
    ·rw [dM] at e1
     split at e1
     ·cases e1
     ·rename_i hno
      refine .inl ⟨.inr ⟨o, obj, e1, e2, e3⟩, hR b, fun ho => ?_⟩
      obtain ⟨o', ho', obj', e1', e2', e3'⟩ := hown b ho
      exact h.sep o o' obj obj' (fun e => hno (e ▸ ho')) e1 e1' e2 e2' (e3.trans e3'.symm)) hres
  exact Goes.put (d := some d) g2 hd (A8 g3) g1
end
end Go.Proofs.YticibdjilmclgaaDoorZF

namespace Go.Proofs.YticibdjilmclgaaDoorZF
open Go
set_option linter.unusedVariables false
set_option linter.unusedSimpArgs false
structure CtxOk (P : Program) (Γ : Ctx) : Prop where
 tab : TabOk P Γ
 calls : ∀ f S, Γ.calls f = some S → SK P f S
section
variable {E : Env} {pl : Nat → Pl} {Γ : Ctx} {w w' : World} {a : Act} {s : FState} {β : Type} {r : β} {κ : FState → Option β} {Q : Exit → Act → World → Prop}
theorem eD {c : Bool} {x : Option β} (h : (bif c then x else none) = some r) : c = true ∧ x = some r := by
 cases c
 ·cases h
 ·exact ⟨rfl, h⟩
theorem VRepL.tail {A : Nat → Prop} {O : kB} {x y : FV} {l : List Value} (h : VRepL w A O pl (.tcons x y) l) : ∃ v l', l = v :: l' ∧ VRep1 w A O pl x v ∧ VRepL w A O pl y l' := h
theorem lS (h : Rel E w a s) {d : Option Tmp} (hd : dN E d) {x : Operand} {j : Nat} {ty : TypeId} {pos : String} {af : Array Edge} {g : Option (Nat × Bool)} {l : List Value} {v : Value} {fv : FV}
  (hx : a.eval x = .tuple l.toArray) (hv : l[j]? = some v) (hrep : ∀ pl, RelP E pl w a s → True) {pl : Nat → Pl} (h' : RelP E pl w a s) (hr : VRep1 w (Av E s.objs pl) s.objs pl fv v) (hk : κ (s.put d fv) = some r) :
  Oper.wp E.P ⟨d, .extract x j, ty, pos, af, g⟩ a w (Goes E κ r) Q := by
 refine Oper.wp_of_value (v := v) (w' := w) ?_ (Goes.put h' hd (.inl hr) hk)
 simp [execOp, hx, Instr.extract, hv]
theorem ME {A : Nat → Prop} {O : kB} {x y : FV} {v : Value} (h : VRep w A O pl (.tcons x y) v) : ∃ l, v = .tuple l.toArray ∧ VRepL w A O pl (.tcons x y) l := by
 rcases h with h | h
 ·exact h.elim
 ·exact h
set_option maxHeartbeats 1000000 in
theorem HM (hΓ : CtxOk E.P Γ) (h : Rel E w a s) (o : Oper) (hd : dN E o.dst) (hk : opK Γ o s κ = some r) : o.wp E.P a w (Goes E κ r) Q := by
 obtain ⟨d, op, ty, pos, af, g⟩ := o
 simp only at hd
 cases op <;> simp only [opK] at hk
 case move x => exact CM h hd (.inl rfl) hk
 case assign x => exact CM h hd (.inr rfl) hk
 case pick c x y => exact ZB h hd hk
 case binOp op t x y u => exact PN hΓ.tab h hd hk
 case unOp op t x => exact UI h hd hk
 case convert src dst x => exact OS hΓ.tab h hd hk
 case alloc t =>
  obtain ⟨k, ht, hk⟩ := aL hk
  obtain ⟨d', rfl, hn, hk⟩ := cC hk
  exact PH hΓ.tab h (hd _ rfl) ht hn hk
 case box t x =>
  obtain ⟨k, ht, hk⟩ := aL hk
  exact m6 hΓ.tab h hd ht hk
 case build t ps =>
  split at hk
  ·rename_i k1 k2 l ht hl
   exact NW hΓ.tab h hd ht (by rw [hl]; rfl) hk
  ·cases hk
 case buildSlice t n ps =>
  obtain ⟨e, he, hk1⟩ := aL hk
  obtain ⟨k, ht, hk2⟩ := aL hk1
  obtain ⟨hc, hk3⟩ := eD hk2
  clear hk hk1 hk2
  simp only [Bool.and_eq_true] at hc
  have hn := Nat.eq_of_beq_eq_true hc.1
  subst hn
  cases d with
  | none =>
   obtain ⟨pl, h'⟩ := h
   obtain ⟨xs, cells, h1, h2, h3, h4⟩ := nJ h' (frz s (ps.toList.map fun p => ev s p.2)) ps.toList 0 [] ((Array.range (ps.size * k.size)).map (k.zval.cells[· % k.zval.cells.size]!)) [] _ (fun q hq o w nn hx hr => rD (wn := w) (nn := nn) hr (List.mem_map.2 ⟨q, hq, hx⟩)) hk3 rfl rfl (by simp) (fun j hj => by simp at hj)
   obtain ⟨d', hd', _⟩ := cC h4
   cases hd'
  | some d => exact vN hΓ.tab h (hd _ rfl) he ht (Nat.le_of_ble_eq_true hc.2) hk3
 case load t x =>
  split at hk
  ·rename_i p i off hx
   split at hk
   ·rename_i k e rw_ xs ho
    obtain ⟨k', hk', hk⟩ := aL hk
    obtain ⟨y, hy, hk⟩ := aL hk
    exact XM hΓ.tab h hd hx ho hk' hy hk
   ·cases hk
  ·cases hk
 case store t x y =>
  split at hk
  ·rename_i p i off hx
   split at hk
   ·rename_i k e xs ho
    obtain ⟨k', hk', hk⟩ := aL hk
    exact QU hΓ.tab h rfl hx ho hk' hk
   ·cases hk
  ·cases hk
 case nilCheck x =>
  split at hk
  ·rename_i p i off hx
   exact BU h hd hx hk
  ·cases hk
 case makeSlice t x y => exact YC hΓ.tab h hd hk
 case range t x => exact QT hΓ.tab h hd hk
 case next x b =>
  cases b with
  | true => exact ZM h hd hk
  | false => cases hk
 case slice t x lo hi mx =>
  cases mx with
  | none => exact ST hΓ.tab h hd hk
  | some m => cases hk
 case fieldAddr t x j =>
  split at hk
  ·rename_i p i off hx
   obtain ⟨⟨q, ft⟩, hf, hk⟩ := aL hk
   obtain ⟨k', hk', hk⟩ := aL hk
   exact yJ hΓ.tab h hd hx hf hk' hk
  ·cases hk
 case field t x j =>
  split at hk
  ·rename_i k1 k2 y hx
   obtain ⟨⟨q, ft⟩, hf, hk⟩ := aL hk
   obtain ⟨k', hk', hk⟩ := aL hk
   obtain ⟨z, hz, hk⟩ := aL hk
   exact PK hΓ.tab h hd hx hf hk' hz hk
  ·cases hk
 case indexAddr t x ix =>
  obtain ⟨o, wn, nn, k, e, rw_, xs, hx, ho, hk⟩ := cI hk
  obtain ⟨ht, hk⟩ := bI hk
  obtain ⟨ik, i, hi, hk⟩ := dE hk
  obtain ⟨h0, h1, hk⟩ := qB hk
  exact yI hΓ.tab h hd hx ho ht hi h0 h1 hk
 case index t x ix =>
  obtain ⟨z, hx, hk⟩ := pS hk
  obtain ⟨ht, hk⟩ := bI hk
  obtain ⟨ik, i, hi, hk⟩ := dE hk
  obtain ⟨h0, h1, hk⟩ := qB hk
  exact PL hΓ.tab h hd hx ht hi h0 h1 hk
 case extract x j =>
  obtain ⟨pl, h'⟩ := h
  split at hk
  ·rename_i y z hx
   obtain ⟨l, hl, hr⟩ := ME (h'.ev x _ hx)
   obtain ⟨v, l', rfl, h1, h2⟩ := hr.tail
   exact lS ⟨pl, h'⟩ hd hl rfl (fun _ _ => trivial) h' h1 hk
  ·rename_i y0 y z hx
   obtain ⟨l, hl, hr⟩ := ME (h'.ev x _ hx)
   obtain ⟨v, l', rfl, h1, h2⟩ := hr.tail
   obtain ⟨v', l'', rfl, h3, h4⟩ := h2.tail
   exact lS ⟨pl, h'⟩ hd hl rfl (fun _ _ => trivial) h' h3 hk
  ·rename_i y0 y1 y z hx
   obtain ⟨l, hl, hr⟩ := ME (h'.ev x _ hx)
   obtain ⟨v, l', rfl, h1, h2⟩ := hr.tail
   obtain ⟨v', l'', rfl, h3, h4⟩ := h2.tail
   obtain ⟨v'', l3, rfl, h5, h6⟩ := h4.tail
   exact lS ⟨pl, h'⟩ hd hl rfl (fun _ _ => trivial) h' h5 hk
  ·cases hk
 case call c =>
  obtain ⟨callee, args, ats⟩ := c
  obtain ⟨args⟩ := args
  obtain ⟨ats⟩ := ats
  simp only at hk
  split at hk
  ·split at hk
   ·rename_i x t
    split at hk
    ·rename_i z hx
     obtain ⟨ht, hk⟩ := bI hk
     exact LV hΓ.tab h hd hx ht hk
    ·rename_i hx
     obtain ⟨e, he, hk⟩ := aL hk
     obtain ⟨pl, h'⟩ := h
     have hve : a.eval x = .slice none 0 0 := by
      rcases h'.ev x _ hx with hv | ⟨l, _, hl⟩
      ·exact hv
      ·exact hl.elim
     exact xR hΓ.tab ⟨pl, h'⟩ hd he hve hk
    ·obtain ⟨o, wn, nn, k, e, rw_, xs, hx, ho, hk⟩ := cI hk
     obtain ⟨e', he, hk⟩ := aL hk
     obtain ⟨pl, h'⟩ := h
     obtain ⟨k1, e1, rw1, xs1, ho1, ad, cap, off, len, hw, hxe, hl, _⟩ := (h'.ev x _ hx).sl_inv
     rw [ho] at ho1
     cases ho1
     exact xR hΓ.tab ⟨pl, h'⟩ hd he hxe (by rw [← hw.lenInt]; exact hk)
   ·cases hk
  ·split at hk
   ·rename_i x y t u
    exact KX hΓ.tab h hd hk
   ·cases hk
  ·split at hk
   ·exact VC hΓ.tab h hd hk
   ·cases hk
  ·split at hk
   ·exact EG h hd hk
   ·cases hk
  ·split at hk
   ·exact EG h hd hk
   ·cases hk
  ·rename_i fo
   split at hk
   ·rename_i f hf
    obtain ⟨S, hS, hk⟩ := aL hk
    have hm : args.map (ev (downFor S (args.map (ev s)) s)) = args.map (ev s) := List.map_congr_left fun x _ => BF _ _ _ x
    exact YF (s := downFor S (args.map (ev s)) s) h.downFor hd ((BF _ _ _ _).trans hf) (hΓ.calls f S hS) (by rw [← hm] at hk; simpa [hm] using hk)
   ·cases hk
  ·cases hk
 all_goals cases hk
end
end Go.Proofs.YticibdjilmclgaaDoorZF

namespace Go.Proofs.YticibdjilmclgaaDoorZF
open Go
set_option linter.unusedVariables false
set_option linter.unusedSimpArgs false
theorem gT (ol : List (Nat × FObj)) (t : Nat) (obj : FObj) (o : Nat) : aC (ol ++ [(t, obj)]) o = match aC ol o with | some x => some x | none => if o = t then some obj else none := by
 induction ol with
 | nil =>
  simp only [List.nil_append, aC]
  by_cases h : o = t
  ·subst h; simp [Nat.beq_refl]
  ·simp [fN h, h]
 | cons p ol ih =>
  obtain ⟨q, ob⟩ := p
  simp only [List.cons_append, aC]
  by_cases h : o = q
  ·subst h; simp [Nat.beq_refl]
  ·simp [fN h, ih]
theorem xF : ∀ (tl : List (Nat × FV)) (t : Nat), aE tl t = .dead ∨ (t, aE tl t) ∈ tl
 | [], t => .inl rfl
 | (q, v) :: tl, t => by
  simp only [aE]
  by_cases h : t = q
  ·subst h; right; simp [Nat.beq_refl]
  ·rw [fN h]
   rcases xF tl t with h1 | h1
   ·exact .inl h1
   ·exact .inr (List.mem_cons_of_mem _ h1)
theorem jO {α : Type} (a : Nat) (x : α) (l : List (Nat × α)) (n : Nat) : lk ((a, x) :: l) n = if a = n then some x else lk l n := by
 simp only [lk]
 by_cases h : a = n
 ·subst h; simp [Nat.beq_refl]
 ·simp [fN h, h]
section
variable {w : World} {A A' : Nat → Prop} {O O' : kB} {pl pl' : Nat → Pl}
theorem VRep1.plain {f : FV} {v : Value} (h : VRep1 w A O pl f v) : VRep1 w A O' pl' f.plain v := by
 cases f <;> simp only [VRep1] at h <;> simp only [FV.plain, VRep1] <;> exact h
theorem VRepL.plain : ∀ {f : FV} {l : List Value}, VRepL w A O pl f l → VRepL w A O' pl' f.plain l
 | .tnil, _, h => h
 | .tcons a b, _, h => by
  obtain ⟨x, l', rfl, h1, h2⟩ := h
  exact ⟨x, l', rfl, h1.plain, h2.plain⟩
 | .dead, _, h | .dat _ _, _, h | .nsl, _, h | .sl _ _ _, _, h | .ptr _ _ _, _, h | .nilp, _, h | .nilif, _, h | .mp _, _, h | .it _, _, h | .fn _, _, h | .glob _, _, h => h.elim
theorem VRep.plain {f : FV} {v : Value} (h : VRep w A O pl f v) : VRep w A O' pl' f.plain v :=
 h.imp (·.plain) fun ⟨l, hv, hl⟩ => ⟨l, hv, hl.plain⟩
end
def dN7 (P : Program) (O : kB) (pl : Nat → Pl) (g : Nat → Option Nat) (p : Pl) (t : Nat) (obj : FObj) : Prop :=
 (∃ k e rw_, obj = .row k e rw_ [] ∧ p = ⟨0, 0, 0⟩ ∧ TyOk P e k) ∨
 (∃ o k e rw0 xs wn off len rw_, O o = some (.row k e rw0 xs) ∧ winOk xs wn off len ∧ obj = .row k e rw_ (win xs wn) ∧ (rw0 = rw_ ∨ rw_ = false) ∧ p = ⟨(pl o).b, (pl o).off + off * k.size, (pl o).cap - off⟩ ∧ (rw0 = true → g t = some o)) ∨
 ∃ o z pos, O o = some (.siter z pos) ∧ obj = .siter z pos ∧ p = pl o ∧ g t = some o
section
variable {E : Env} {pl : Nat → Pl} {Γ : Ctx} {w w' : World} {a : Act} {s : FState} {β : Type} {r : β} {κ : FState → Option β}
structure NInv (E : Env) (pl : Nat → Pl) (w : World) (a : Act) (s : FState) (rn : List (Nat × Option Nat)) (tl : List (Nat × FV)) (ol : List (Nat × FObj)) (pl' : Nat → Pl) (g : Nat → Option Nat) : Prop where
 vals : ∀ t fv, (t, fv) ∈ tl → VRep w (Av E s.objs pl) (aC ol) pl' fv (a.tmps.getD t undef)
 desc : ∀ t obj, aC ol t = some obj → dN7 E.P s.objs pl g (pl' t) t obj
 gs : ∀ t o, g t = some o → (lk rn o).isSome = true ∧ (aC ol t).isSome = true
 rs : ∀ o n, lk rn o = some (some n) → ∃ k e rw0 rw_ xs, s.objs o = some (.row k e rw0 xs) ∧ aC ol n = some (.row k e rw_ xs) ∧ (rw0 = rw_ ∨ rw_ = false) ∧ pl' n = pl o
 inj : ∀ t t' o, g t = some o → g t' = some o → t = t'
theorem NInv.done (h : RelP E pl w a s) {rn : List (Nat × Option Nat)} {tl : List (Nat × FV)} {ol : List (Nat × FObj)} {pl' : Nat → Pl} {g : Nat → Option Nat} (hi : NInv E pl w a s rn tl ol pl' g) : RelP E pl' w a ⟨aE tl, aC ol⟩ := by
 have hocc : ∀ t obj, aC ol t = some obj → occ (pl' t) obj → ∃ o obj0, g t = some o ∧ s.objs o = some obj0 ∧ occ (pl o) obj0 ∧ (pl' t).b = (pl o).b := fun t obj ho hc => by
  rcases hi.desc t obj ho with ⟨k, e, rw_, rfl, hp, _⟩ | ⟨o, k, e, rw0, xs, wn, off, len, rw_, h1, h2, rfl, h4, hp, h6⟩ | ⟨o, z, pos, h1, rfl, hp, h6⟩
  ·rw [hp] at hc; exact absurd hc.2 (by simp)
  ·rw [hp] at hc
   obtain ⟨rfl, hcap⟩ := hc
   have hr : rw0 = true := by rcases h4 with h4 | h4 <;> simp_all
   subst hr
   exact ⟨o, _, h6 rfl, h1, ⟨rfl, by simp only at hcap; omega⟩, by rw [hp]⟩
  ·exact ⟨o, _, h6, h1, trivial, by rw [hp]⟩
 have hOwn : ∀ b, Own (aC ol) pl' b → Own s.objs pl b := fun b ⟨t, obj, ho, hc, hb⟩ => by
  obtain ⟨o, obj0, _, g2, g3, g4⟩ := hocc t obj ho hc
  exact ⟨o, obj0, g2, g3, g4.symm.trans hb⟩
 have hAv : ∀ b, Av E (aC ol) pl' b → Av E s.objs pl b := fun b hb => hb.imp id (hOwn b)
 refine ⟨fun t => ?_, fun t obj ho => ?_, fun t t' obj obj' hne ho ho' hc hc' => ?_, fun b hb => h.fresh b (hOwn b hb), h.frame, h.dfr, h.N, h.zlt⟩
 ·rcases xF tl t with ht | ht
  ·simp only [ht]; exact VRep.dead _
  ·exact (hi.vals t _ ht).move (fun k x cs hc => hc.mono hAv) (fun o obj ho => ⟨obj, ho, obj.like_refl, rfl⟩)
 ·rcases hi.desc t obj ho with ⟨k, e, rw_, rfl, hp, hT⟩ | ⟨o, k, e, rw0, xs, wn, off, len, rw_, h1, h2, rfl, h4, hp, h6⟩ | ⟨o, z, pos, h1, rfl, hp, h6⟩
  ·rw [hp]
   exact ⟨hT, Nat.le_refl _, fun _ h => absurd h (by simp), fun _ h => absurd rfl h, RowAt.nil _ _ _ _ _⟩
  ·obtain ⟨hT, hl, hm, hro, hrow⟩ := h.objs o _ h1
   obtain ⟨hrw, hwl⟩ := hrow.winC h2
   have hbd := h2.bd.1
   rw [hp]
   refine ⟨hT, by rw [hwl]; simp only; omega, fun hr hc => ?_, fun hr hne hA => ?_, hrw.mono hAv⟩
   ·have hr0 : rw0 = true := by rcases h4 with h4 | h4 <;> simp_all
    simp only at hc
    obtain ⟨cs, tt, g1, g2⟩ := hm hr0 (by omega)
    refine ⟨cs, tt, g1, ?_⟩
    have : off * k.size + ((pl o).cap - off) * k.size = (pl o).cap * k.size := by rw [← Nat.add_mul]; congr 1; omega
    simp only
    omega
   ·have hxs : xs ≠ [] := fun e => by subst e; apply hne; cases wn <;> simp [win, N7]
    cases rw0 with
    | false => exact hro rfl hxs (hAv _ hA)
    | true =>
     have hoc : occ (pl o) (.row k e true xs) := ⟨rfl, by have := eM hxs; omega⟩
     rcases hA with hz | ⟨t', obj', ho', hc', hb'⟩
     ·exact (h.fresh _ ⟨o, _, h1, hoc, rfl⟩).2.2 hz
     ·obtain ⟨o', obj0, g1, g2, g3, g4⟩ := hocc t' obj' ho' hc'
      have hne' : o ≠ o' := fun e => by
       subst e
       have := hi.inj t t' o (h6 rfl) g1
       subst this
       rw [ho] at ho'
       cases ho'
       rw [hr] at hc'
       cases hc'.1
      exact h.sep o o' _ obj0 hne' h1 g2 hoc g3 (hb'.symm.trans g4)
  ·rw [hp]; exact h.objs o _ h1
 ·obtain ⟨o, obj0, g1, g2, g3, g4⟩ := hocc t obj ho hc
  obtain ⟨o', obj0', g1', g2', g3', g4'⟩ := hocc t' obj' ho' hc'
  rw [g4, g4']
  exact h.sep o o' obj0 obj0' (fun e => hne (hi.inj t t' o g1 (e ▸ g1'))) g2 g2' g3 g3'
theorem NInv.addObj {rn rn' : List (Nat × Option Nat)} {tl : List (Nat × FV)} {ol : List (Nat × FObj)} {pl' : Nat → Pl} {g : Nat → Option Nat} (hi : NInv E pl w a s rn tl ol pl' g) {t : Nat} (ht : aC ol t = none) (obj : FObj) (p : Pl) (og : Option Nat) {fv : FV}
  (hfv : VRep w (Av E s.objs pl) (aC (ol ++ [(t, obj)])) (upd pl' t p) fv (a.tmps.getD t undef)) (hD : dN7 E.P s.objs pl (fun x => if x = t then og else g x) p t obj)
  (hog : ∀ o, og = some o → lk rn o = none ∧ (lk rn' o).isSome = true) (hrn : ∀ o, (lk rn o).isSome = true → lk rn' o = lk rn o)
  (hrs : ∀ o n, lk rn' o = some (some n) → lk rn o = some (some n) ∨ (n = t ∧ ∃ k e rw0 rw_ xs, s.objs o = some (.row k e rw0 xs) ∧ obj = .row k e rw_ xs ∧ (rw0 = rw_ ∨ rw_ = false) ∧ p = pl o)) :
  NInv E pl w a s rn' (tl ++ [(t, fv)]) (ol ++ [(t, obj)]) (upd pl' t p) (fun x => if x = t then og else g x) := by
 have hO : ∀ o ob, aC ol o = some ob → aC (ol ++ [(t, obj)]) o = some ob ∧ o ≠ t := fun o ob ho => ⟨by rw [gT, ho], fun e => by subst e; rw [ht] at ho; cases ho⟩
 refine ⟨fun t' fv' hm => ?_, fun t' ob ho => ?_, fun t' o hg => ?_, fun o n hl => ?_, fun t1 t2 o h1 h2 => ?_⟩
 ·rcases List.mem_append.1 hm with hm | hm
  ·exact (hi.vals t' fv' hm).move (fun _ _ _ h => h) (fun o ob ho => ⟨ob, (hO o ob ho).1, ob.like_refl, bJ _ _ _ (hO o ob ho).2⟩)
  ·simp at hm
   obtain ⟨rfl, rfl⟩ := hm
   exact hfv
 ·rw [gT] at ho
  cases h0 : aC ol t' with
  | some x =>
   rw [h0] at ho
   cases ho
   have hne := (hO t' _ h0).2
   rw [bJ _ _ _ hne]
   rcases hi.desc t' _ h0 with h1 | ⟨o, k, e, rw0, xs, wn, off, len, rw_, h1, h2, h3, h4, hp, h6⟩ | ⟨o, z, pos, h1, h2, hp, h6⟩
   ·exact .inl h1
   ·exact .inr (.inl ⟨o, k, e, rw0, xs, wn, off, len, rw_, h1, h2, h3, h4, hp, fun hr => by simp only [if_neg hne]; exact h6 hr⟩)
   ·exact .inr (.inr ⟨o, z, pos, h1, h2, hp, by simp only [if_neg hne]; exact h6⟩)
  | none =>
   rw [h0] at ho
   (try simp only at ho)
   split at ho
   ·rename_i e
    subst e
    cases ho
    rw [aU]
    exact hD
   ·cases ho
 ·(try simp only at hg)
  split at hg
  ·rename_i e
   subst e
   refine ⟨(hog o hg).2, by rw [gT, ht]; simp⟩
  ·obtain ⟨h1, h2⟩ := hi.gs t' o hg
   refine ⟨by rw [hrn o h1]; exact h1, ?_⟩
   obtain ⟨x, hx⟩ := Option.isSome_iff_exists.1 h2
   rw [(hO t' x hx).1]; rfl
 ·rcases hrs o n hl with h1 | ⟨rfl, k, e, rw0, rw_, xs, h1, h2, h3, h4⟩
  ·obtain ⟨k, e, rw0, rw_, xs, g1, g2, g3, g4⟩ := hi.rs o n h1
   exact ⟨k, e, rw0, rw_, xs, g1, (hO n _ g2).1, g3, by rw [bJ _ _ _ (hO n _ g2).2]; exact g4⟩
  ·exact ⟨k, e, rw0, rw_, xs, h1, by rw [gT, ht, h2]; simp, h3, by rw [aU]; exact h4⟩
 ·(try simp only at h1 h2)
  split at h1 <;> split at h2
  ·simp_all
  ·have := (hi.gs t2 o h2).1
   rw [(hog o h1).1] at this
   cases this
  ·have := (hi.gs t1 o h1).1
   rw [(hog o h2).1] at this
   cases this
  ·exact hi.inj t1 t2 o h1 h2
theorem NInv.addTmp {rn : List (Nat × Option Nat)} {tl : List (Nat × FV)} {ol : List (Nat × FObj)} {pl' : Nat → Pl} {g : Nat → Option Nat} (hi : NInv E pl w a s rn tl ol pl' g) {t : Nat} {fv : FV} (hfv : VRep w (Av E s.objs pl) (aC ol) pl' fv (a.tmps.getD t undef)) :
  NInv E pl w a s rn (tl ++ [(t, fv)]) ol pl' g :=
 ⟨fun t' fv' hm => by
  rcases List.mem_append.1 hm with hm | hm
  ·exact hi.vals t' fv' hm
  ·simp at hm; obtain ⟨rfl, rfl⟩ := hm; exact hfv, hi.desc, hi.gs, hi.rs, hi.inj⟩
theorem eO (hT : TabOk E.P Γ) (h : RelP E pl w a s) : ∀ (l : List NE) (rn : List (Nat × Option Nat)) (tl : List (Nat × FV)) (ol : List (Nat × FObj)) (pl' : Nat → Pl) (g : Nat → Option Nat), NInv E pl w a s rn tl ol pl' g → iR Γ s l rn tl ol κ = some r → Goes E κ r a w
 | [], rn, tl, ol, pl', g, hi, hk => ⟨_, ⟨pl', hi.done h⟩, hk⟩
 | .keep t :: l, rn, tl, ol, pl', g, hi, hk => by
  unfold iR at hk
  exact eO hT h l _ _ _ pl' g (hi.addTmp (h.vals t).plain) hk
 | .row t k e rw_ :: l, rn, tl, ol, pl', g, hi, hk => by
  unfold iR at hk
  have hv := h.vals t
  split at hk
  ·rename_i hx
   rw [hx] at hv
   obtain ⟨hke, hk⟩ := bI hk
   split at hk
   ·rename_i ht
    have hve : a.tmps.getD t undef = .slice none 0 0 := by
     rcases hv with hv | ⟨l, _, hl⟩
     ·exact hv
     ·exact hl.elim
    refine eO hT h l _ _ _ _ _ (hi.addObj ht (.row k e rw_ []) ⟨0, 0, 0⟩ none ?_ (.inl ⟨k, e, rw_, rfl, rfl, hT.kt e k hke⟩) (fun o ho => by cases ho) (fun o _ => rfl) (fun o n hl => .inl hl)) hk
    rw [hve]
    exact VRep.mkSl (by rw [gT, ht, if_pos rfl]) (off := 0) (len := 0) ⟨rfl, rfl⟩ rfl (Nat.le_refl _) (fun _ => by rw [aU]) (fun hh => by rcases hh with hh | ⟨_, hh⟩ <;> omega) (fun hn => by cases hn)
   ·cases hk
  ·rename_i o wn nn hx
   rw [hx] at hv
   obtain ⟨k1, e1, rw1, xs1, ho1, ad, cap, off, len, hw, hxe, hl, hc1, hc2, _⟩ := hv.sl_inv
   split at hk
   ·rename_i n hrn
    obtain ⟨k2, e2, rw0, rw2, xs2, g1, g2, g3, g4⟩ := hi.rs o n hrn
    rw [ho1] at g1
    cases g1
    refine eO hT h l _ _ _ _ _ (hi.addTmp ?_) hk
    rw [hxe]
    refine VRep.mkSl g2 hw rfl hl (fun hr => by rw [g4]; exact hc1 (by rcases g3 with g3 | g3 <;> simp_all)) (fun hh => by rw [g4]; exact hc2 (hh.imp id (fun ⟨h1, h2⟩ => ⟨by rcases g3 with g3 | g3 <;> simp_all, h2⟩))) (fun hn => by cases hn)
   ·cases hk
   ·rename_i hrn
    split at hk
    ·rename_i k' e' rw' xs ho ht
     rw [ho1] at ho
     cases ho
     obtain ⟨⟨rfl, hrw⟩, hk⟩ := bI hk
     obtain ⟨rfl, hk⟩ := bR hk
     have hwl : (win xs1 wn).length = len := by
      cases wn with
      | none => obtain ⟨_, rfl⟩ := hw; rfl
      | some fl => obtain ⟨f, l⟩ := fl; obtain ⟨g1, g2, g3, _, rfl⟩ := hw; simp only [win]; rw [nA _ _ _ (by omega) (by omega)]; omega
     have hin := hi.addObj (rn' := bif rw1 then (o, yX t wn) :: rn else rn) ht (.row k1 e1 rw_ (win xs1 wn)) ⟨(pl o).b, (pl o).off + off * k1.size, (pl o).cap - off⟩ (if rw1 = true then some o else none) (fv := .sl t none false)
      (by
       rw [hxe]
       exact VRep.mkSl (by rw [gT, ht, if_pos rfl]) (off := 0) (len := len) ⟨rfl, hwl.symm⟩ rfl hl (fun hr => by
        rw [aU]
        have := hc1 (by rcases hrw with g3 | g3 <;> simp_all)
        simp only
        omega) (fun hh => by rw [aU, hc2 (hh.imp id (fun ⟨h1, h2⟩ => ⟨by rcases hrw with g3 | g3 <;> simp_all, h2⟩))]; simp) (fun hn => by cases hn))
      (.inr (.inl ⟨o, k1, e1, rw1, xs1, wn, off, len, rw_, ho1, hw, rfl, hrw, rfl, fun hr => by simp [hr]⟩))
      (fun o' ho' => by
       split at ho'
       ·rename_i hr
        cases ho'
        exact ⟨hrn, by simp [hr, jO]⟩
       ·cases ho')
      (fun o' ho' => by
       cases rw1 with
       | false => rfl
       | true =>
        simp only [cond_true, jO]
        rw [if_neg (fun e => by subst e; rw [hrn] at ho'; cases ho')])
      (fun o' n hl' => by
       cases rw1 with
       | false => exact .inl hl'
       | true =>
        simp only [cond_true, jO] at hl'
        split at hl'
        ·rename_i e
         subst e
         cases wn with
         | some x => simp [yX] at hl'
         | none =>
          simp [yX] at hl'
          subst hl'
          obtain ⟨rfl, rfl⟩ := hw
          exact .inr ⟨rfl, k1, e1, true, rw_, xs1, ho1, rfl, hrw, by simp⟩
        ·exact .inl hl')
     exact eO hT h l _ _ _ _ _ hin hk
    ·cases hk
  ·cases hk
 | .it t :: l, rn, tl, ol, pl', g, hi, hk => by
  unfold iR at hk
  have hv := h.vals t
  split at hk
  ·rename_i o hx
   rw [hx] at hv
   obtain ⟨z1, pos1, ho1, hve⟩ := hv.it_inv
   split at hk
   ·rename_i z pos hrn ho ht
    have hin := hi.addObj (rn' := (o, none) :: rn) ht (.siter z pos) (pl o) (some o) (fv := .it t)
     (.inl ⟨z, pos, by rw [gT, ht, if_pos rfl], by rw [aU]; exact hve⟩)
     (.inr (.inr ⟨o, z, pos, ho, rfl, rfl, by simp⟩))
     (fun o' ho' => by cases ho'; exact ⟨hrn, by simp [jO]⟩)
     (fun o' ho' => by
      simp only [jO]
      rw [if_neg (fun e => by subst e; rw [hrn] at ho'; cases ho')])
     (fun o' n hl' => by
      simp only [jO] at hl'
      split at hl'
      ·cases hl'
      ·exact .inl hl')
    exact eO hT h l _ _ _ _ _ hin hk
   ·cases hk
  ·cases hk
 | .ptr t k e rw_ :: l, rn, tl, ol, pl', g, hi, hk => by
  unfold iR at hk
  have hv := h.vals t
  split at hk
  ·rename_i o hx
   rw [hx] at hv
   obtain ⟨k1, e1, rw1, xs1, ho1, hi0, hi1, hve⟩ := hv.ptr_inv
   split at hk
   ·rename_i n hrn
    obtain ⟨k2, e2, rw0, rw2, xs2, g1, g2, g3, g4⟩ := hi.rs o n hrn
    rw [ho1] at g1
    cases g1
    refine eO hT h l _ _ _ _ _ (hi.addTmp ?_) hk
    exact VRep.mkPtr g2 hi0 hi1 (by rw [g4]; exact hve)
   ·cases hk
   ·rename_i hrn
    split at hk
    ·rename_i k' e' rw' xs ho ht
     rw [ho1] at ho
     cases ho
     obtain ⟨⟨rfl, hrw⟩, hk⟩ := bI hk
     obtain ⟨rfl, hk⟩ := bR hk
     have hin := hi.addObj (rn' := bif rw1 then (o, some t) :: rn else rn) ht (.row k1 e1 rw_ xs1) (pl o) (if rw1 = true then some o else none) (fv := .ptr t 0 0)
      (VRep.mkPtr (by rw [gT, ht, if_pos rfl]) hi0 hi1 (by rw [aU]; exact hve))
      (.inr (.inl ⟨o, k1, e1, rw1, xs1, none, 0, xs1.length, rw_, ho1, ⟨rfl, rfl⟩, rfl, hrw, by simp, fun hr => by simp [hr]⟩))
      (fun o' ho' => by
       split at ho'
       ·rename_i hr
        cases ho'
        exact ⟨hrn, by simp [hr, jO]⟩
       ·cases ho')
      (fun o' ho' => by
       cases rw1 with
       | false => rfl
       | true =>
        simp only [cond_true, jO]
        rw [if_neg (fun e => by subst e; rw [hrn] at ho'; cases ho')])
      (fun o' n hl' => by
       cases rw1 with
       | false => exact .inl hl'
       | true =>
        simp only [cond_true, jO] at hl'
        split at hl'
        ·rename_i e
         subst e
         cases hl'
         exact .inr ⟨rfl, k1, e1, true, rw_, xs1, ho1, rfl, hrw, rfl⟩
        ·exact .inl hl')
     exact eO hT h l _ _ _ _ _ hin hk
    ·cases hk
  ·cases hk
theorem SQ (hT : TabOk E.P Γ) {l : List NE} (h : Goes E (cK2 Γ l · κ) r a w) : Goes E κ r a w := by
 obtain ⟨s, ⟨pl, h⟩, hk⟩ := h
 exact eO hT h l [] [] [] pl (fun _ => none) ⟨fun t fv hm => (by simp at hm), fun t obj ho => (by simp [aC] at ho), fun t o hg => (by cases hg), fun o n hl => (by simp [lk] at hl), fun t t' o h1 => (by cases h1)⟩ hk
end
end Go.Proofs.YticibdjilmclgaaDoorZF

namespace Go.Proofs.YticibdjilmclgaaDoorZF
open Go
set_option linter.unusedVariables false
set_option linter.unusedSimpArgs false
def fK : List (Nat × FObj) → FState → FState
 | [], s => s
 | (k, o) :: l, s => fK l (s.setO k (some o))
structure Eff where
 ids : List Nat
 l : List (Nat × FObj)
 v : FV
def Eff.app (e : Eff) (s : FState) (d : Option Tmp) : FState := (fK e.l (bU e.ids s)).put d e.v
def eR (s : FState) (o : Oper) : List Nat := (o.op.operands.toList.map (ev s)).flatMap FV.refs
def named (d : Option Tmp) (k : Nat) : Prop := ∃ d' j, d = some d' ∧ k = d' + j * 1000000
structure oS (o : Oper) (s s2 : FState) : Prop where
 ops : ∀ x ∈ o.op.operands, ev s2 x = ev s x
 objs : ∀ k ∈ eR s o, s2.objs k = s.objs k
 new : ∀ k, named o.dst k → s.objs k = none → s2.objs k = none
theorem bF {s : FState} {o : Oper} {x : Operand} {k : Nat} (hx : x ∈ o.op.operands) (hk : k ∈ (ev s x).refs) : k ∈ eR s o :=
 List.mem_flatMap.2 ⟨ev s x, List.mem_map.2 ⟨x, by simpa using hx, rfl⟩, hk⟩
structure Loc (Γ : Ctx) (o : Oper) (s : FState) (e : Eff) : Prop where
 ids : ∀ k ∈ e.ids, k ∈ eR s o
 l : ∀ p ∈ e.l, p.1 ∈ eR s o ∨ (s.objs p.1 = none ∧ named o.dst p.1)
 quiet : gQ Γ s o = false → e.ids = [] ∧ ∀ p ∈ e.l, s.objs p.1 = none ∧ named o.dst p.1
 v : ∀ k ∈ e.v.refs, (k ∈ eR s o ∧ k ∉ e.ids) ∨ k ∈ e.l.map (·.1)
 same : ∀ s2, oS o s s2 → ∀ {γ : Type} (κ2 : FState → Option γ), opK Γ o s2 κ2 = κ2 (e.app s2 o.dst)
section
variable {Γ : Ctx} {s : FState} {β : Type} {r : β} {κ : FState → Option β}
theorem Loc.val {d : Option Tmp} {op : Op} {ty : TypeId} {pos : String} {af : Array Edge} {g : Option (Nat × Bool)} {v : FV} (hv : ∀ k ∈ v.refs, k ∈ eR s ⟨d, op, ty, pos, af, g⟩)
  (h : ∀ s2, oS ⟨d, op, ty, pos, af, g⟩ s s2 → ∀ {γ : Type} (κ2 : FState → Option γ), opK Γ ⟨d, op, ty, pos, af, g⟩ s2 κ2 = κ2 (s2.put d v)) : Loc Γ ⟨d, op, ty, pos, af, g⟩ s ⟨[], [], v⟩ :=
 ⟨fun k hk => by simp at hk, fun p hp => by simp at hp, fun _ => ⟨rfl, fun p hp => by simp at hp⟩, fun k hk => .inl ⟨hv k hk, by simp⟩, fun s2 hA γ κ2 => h s2 hA κ2⟩
theorem Loc.newRow {d : Nat} {op : Op} {ty : TypeId} {pos : String} {af : Array Edge} {g : Option (Nat × Bool)} {obj : FObj} {v : FV} (hd : s.objs d = none) (hv : ∀ k ∈ v.refs, k = d)
  (h : ∀ s2, oS ⟨some d, op, ty, pos, af, g⟩ s s2 → s2.objs d = none → ∀ {γ : Type} (κ2 : FState → Option γ), opK Γ ⟨some d, op, ty, pos, af, g⟩ s2 κ2 = κ2 ((s2.setO d (some obj)).set d v)) : Loc Γ ⟨some d, op, ty, pos, af, g⟩ s ⟨[], [(d, obj)], v⟩ := by
 have hn : named (some d) d := ⟨d, 0, rfl, by omega⟩
 refine ⟨fun k hk => by simp at hk, fun p hp => ?_, fun _ => ⟨rfl, fun p hp => ?_⟩, fun k hk => .inr (by simp [hv k hk]), fun s2 hA γ κ2 => h s2 hA (hA.new d hn hd) κ2⟩
 ·simp at hp; subst hp; exact .inr ⟨hd, hn⟩
 ·simp at hp; subst hp; exact ⟨hd, hn⟩
theorem Loc.byVal {d : Option Tmp} {op : Op} {ty : TypeId} {pos : String} {af : Array Edge} {g : Option (Nat × Bool)} {v : FV} (hk : κ (s.put d v) = some r) (hv : ∀ k ∈ v.refs, k ∈ eR s ⟨d, op, ty, pos, af, g⟩)
  (h : ∀ s2, oS ⟨d, op, ty, pos, af, g⟩ s s2 → ∀ {γ : Type} (κ2 : FState → Option γ), opK Γ ⟨d, op, ty, pos, af, g⟩ s2 κ2 = κ2 (s2.put d v)) : ∃ e, κ (Eff.app e s d) = some r ∧ Loc Γ ⟨d, op, ty, pos, af, g⟩ s e := ⟨⟨[], [], v⟩, hk, Loc.val hv h⟩
theorem Loc.byRow {d : Nat} {op : Op} {ty : TypeId} {pos : String} {af : Array Edge} {g : Option (Nat × Bool)} {obj : FObj} {v : FV} (hk : κ ((s.setO d (some obj)).set d v) = some r) (hd : s.objs d = none) (hv : ∀ k ∈ v.refs, k = d)
  (h : ∀ s2, oS ⟨some d, op, ty, pos, af, g⟩ s s2 → s2.objs d = none → ∀ {γ : Type} (κ2 : FState → Option γ), opK Γ ⟨some d, op, ty, pos, af, g⟩ s2 κ2 = κ2 ((s2.setO d (some obj)).set d v)) : ∃ e, κ (Eff.app e s (some d)) = some r ∧ Loc Γ ⟨some d, op, ty, pos, af, g⟩ s e :=
 ⟨⟨[], [(d, obj)], v⟩, hk, Loc.newRow hd hv h⟩
theorem bB1 {op : BinOp} {t : TypeId} {x y : FV} {f : FV → Option β} (h : lV Γ op t x y f = some r) : ∃ k v, f (.dat k v) = some r ∧ ∀ {γ : Type} (f2 : FV → Option γ), lV Γ op t x y f2 = f2 (.dat k v) := by
 unfold lV at h
 split at h
 ·cases hsh : wC op with
  | true =>
   rw [hsh, cond_true] at h
   unfold tJ at h
   split at h
   ·cases h
   ·rename_i hb
    cases op <;> simp only at h <;> first
     | exact ⟨_, _, h, fun f2 => by simp [lV, wC, tJ, hb]⟩
     | cases h
  | false =>
  rw [hsh, cond_false] at h
  obtain ⟨rfl, h⟩ := bI h
  cases op <;> simp only [FW] at h <;> first
   | exact ⟨_, _, h, fun f2 => by simp [lV, FW, wC]⟩
   | (split at h <;> first | cases h | exact ⟨_, _, h, fun f2 => by simp [lV, FW, wC, *]⟩)
   | cases h
 ·obtain ⟨rfl, h⟩ := bI h
  cases op <;> simp only [HV] at h <;> first
   | exact ⟨_, _, h, fun f2 => by simp [lV, HV]⟩
   | (obtain ⟨z, hz, h⟩ := mU h; exact ⟨_, _, h, fun f2 => by simp [lV, HV, onS, hz]⟩)
   | cases h
 ·cases op <;> simp only [GX] at h <;> first
   | exact ⟨_, _, h, fun f2 => by simp [lV, GX]⟩
   | (obtain ⟨hn, h⟩ := jW h; exact ⟨_, _, h, fun f2 => by simp [lV, GX, cR, hn]⟩)
   | cases h
 ·have hh := iN h
  clear h
  obtain ⟨hkk, h⟩ := hh
  subst hkk
  obtain ⟨⟨ht, he⟩, h⟩ := bI h
  split at h
  ·exact ⟨_, _, h, fun f2 => by simp [lV, rO, ht, he]⟩
  ·exact ⟨_, _, h, fun f2 => by simp [lV, rO, ht, he]⟩
  ·cases h
 ·split at h
  ·rename_i ht
   exact ⟨_, _, h, fun f2 => by simp [lV, ht]⟩
  ·rename_i ht
   exact ⟨_, _, h, fun f2 => by simp [lV, ht]⟩
  ·cases h
 ·split at h
  ·rename_i ht
   exact ⟨_, _, h, fun f2 => by simp [lV, ht]⟩
  ·rename_i ht
   exact ⟨_, _, h, fun f2 => by simp [lV, ht]⟩
  ·cases h
 ·split at h
  ·rename_i ht
   exact ⟨_, _, h, fun f2 => by simp [lV, ht]⟩
  ·rename_i ht
   exact ⟨_, _, h, fun f2 => by simp [lV, ht]⟩
  ·cases h
 ·cases h
theorem cA8 {op : UnOp} {x : FV} {f : FV → Option β} (h : unK op x f = some r) : ∃ k v, f (.dat k v) = some r ∧ ∀ {γ : Type} (f2 : FV → Option γ), unK op x f2 = f2 (.dat k v) := by
 unfold unK at h
 split at h
 ·exact ⟨_, _, h, fun f2 => rfl⟩
 ·exact ⟨_, _, h, fun f2 => rfl⟩
 ·cases h
theorem GS {src dst : TypeId} {x : FV} {f : FV → Option β} (h : nV Γ src dst x f = some r) : ∃ k v, f (.dat k v) = some r ∧ ∀ {γ : Type} (f2 : FV → Option γ), nV Γ src dst x f2 = f2 (.dat k v) := by
 unfold nV at h
 split at h
 ·rename_i h1 h2
  exact ⟨_, _, h, fun f2 => by simp [nV, h1, h2]⟩
 ·rename_i h1 h2
  exact ⟨_, _, h, fun f2 => by simp [nV, h1, h2]⟩
 ·rename_i h1 h2
  exact ⟨_, _, h, fun f2 => by simp [nV, h1, h2]⟩
 ·rename_i h1 h2
  obtain ⟨n, hn, h⟩ := mU h
  exact ⟨_, _, h, fun f2 => by simp [nV, h1, h2, onS, hn]⟩
 ·rename_i h1 h2
  exact ⟨_, _, h, fun f2 => by simp [nV, h1, h2]⟩
 ·cases h
theorem TB {b : Builtin} {x y : FV} {f : FV → Option β} (h : JD b x y f = some r) : ∃ k v, f (.dat k v) = some r ∧ ∀ {γ : Type} (f2 : FV → Option γ), JD b x y f2 = f2 (.dat k v) := by
 unfold JD at h
 split at h
 ·obtain ⟨rfl, h⟩ := bI h
  exact ⟨_, _, h, fun f2 => by simp [JD]⟩
 ·obtain ⟨rfl, h⟩ := bI h
  exact ⟨_, _, h, fun f2 => by simp [JD]⟩
 ·cases h
theorem fT {k : K} {x : k.den} {γ : Type} (f2 : k.den → Option γ) : vD (.dat k x) k f2 = f2 x := by simp [vD, rO]
theorem aH7 {s s2 : FState} {o : Nat} (h : s2.objs o = s.objs o) : mP s2 o = mP s o := by unfold mP; rw [h]
theorem zF {s s2 : FState} : ∀ {vs : List FV}, (∀ v ∈ vs, ∀ o ∈ v.refs, s2.objs o = s.objs o) → frz s2 vs = frz s vs
 | [], _ => rfl
 | v :: vs, h => by
  have ih := zF (s := s) (s2 := s2) (vs := vs) (fun v hv => h v (by simp [hv]))
  cases v with
  | sl o w nn => simp only [frz, aH7 (h (.sl o w nn) (List.mem_cons_self ..) o (by simp [FV.refs])), ih]
  | _ => simpa [frz] using ih
theorem mS {s : FState} {o : Nat} : ∀ {vs : List FV}, o ∈ frz s vs → ∃ v ∈ vs, o ∈ v.refs
 | v :: vs, h => by
  cases v with
  | sl o' w nn =>
   simp only [frz] at h
   cases hr : mP s o' with
   | true =>
    rw [hr] at h
    obtain ⟨v, h1, h2⟩ := mS (vs := vs) (by simpa using h)
    exact ⟨v, by simp [h1], h2⟩
   | false =>
    rw [hr] at h
    simp only [cond_false, List.mem_cons] at h
    rcases h with rfl | h
    ·exact ⟨.sl o w nn, List.mem_cons_self .., by simp [FV.refs]⟩
    ·obtain ⟨v, h1, h2⟩ := mS h
     exact ⟨v, by simp [h1], h2⟩
  | _ =>
   obtain ⟨v, h1, h2⟩ := mS (vs := vs) (by simpa [frz] using h)
   exact ⟨v, by simp [h1], h2⟩
theorem KO {s : FState} : ∀ {vs : List FV}, vs.any FV.isSlB = false → frz s vs = []
 | [], _ => rfl
 | v :: vs, h => by
  simp only [List.any_cons, Bool.or_eq_false_iff] at h
  cases v with
  | sl o w nn => simp [FV.isSlB] at h
  | _ => simpa [frz] using KO h.2
theorem mZ {s : FState} {v : FV} {k : K} {f : k.den → Option β} (h : iT s v k f = some r) : ∃ y, f y = some r ∧ ∀ s2 : FState, (∀ o ∈ v.refs, s2.objs o = s.objs o) → ∀ {γ : Type} (f2 : k.den → Option γ), iT s2 v k f2 = f2 y := by
 cases k with
 | sl e k' =>
  simp only [iT] at h
  split at h
  ·exact ⟨_, h, fun s2 _ γ f2 => rfl⟩
  ·rename_i o0 w0 nn0
   obtain ⟨o, wn, nn, k1, e1, rw_, xs, hx', ho, h⟩ := cI h
   cases hx'
   obtain ⟨he, h⟩ := bI h
   have hh := bR h
   clear h
   obtain ⟨he', h⟩ := hh
   subst he'
   refine ⟨_, h, fun s2 hs γ f2 => ?_⟩
   have hso : s2.objs o0 = _ := (hs o0 (by simp [FV.refs])).trans ho
   simp only [iT, iM, hso, he, fB, if_true, dite_true]
  ·rename_i h1 h2
   obtain ⟨y, rfl, hh⟩ := eJ h
   exact ⟨y, hh, fun s2 _ γ f2 => by simp only [iT]; exact fT _⟩
 | int k => obtain ⟨y, rfl, hh⟩ := eJ h; exact ⟨y, hh, fun s2 _ γ f2 => fT (k := .int k) _⟩
 | bool => obtain ⟨y, rfl, hh⟩ := eJ h; exact ⟨y, hh, fun s2 _ γ f2 => fT (k := .bool) _⟩
 | str => obtain ⟨y, rfl, hh⟩ := eJ h; exact ⟨y, hh, fun s2 _ γ f2 => fT (k := .str) _⟩
 | flt k => obtain ⟨y, rfl, hh⟩ := eJ h; exact ⟨y, hh, fun s2 _ γ f2 => fT (k := .flt k) _⟩
 | err => obtain ⟨y, rfl, hh⟩ := eJ h; exact ⟨y, hh, fun s2 _ γ f2 => fT (k := .err) _⟩
 | pair k1 k2 => obtain ⟨y, rfl, hh⟩ := eJ h; exact ⟨y, hh, fun s2 _ γ f2 => fT (k := .pair k1 k2) _⟩
theorem PD {d : Option Tmp} {k : K} {y : k.den} (h : putD Γ d s k y κ = some r) :
  (∃ v : FV, v.refs = [] ∧ κ (s.put d v) = some r ∧ ∀ (s2 : FState) {γ : Type} (κ2 : FState → Option γ), putD Γ d s2 k y κ2 = κ2 (s2.put d v)) ∨
  ∃ (d' : Nat) (obj : FObj) (v : FV), d = some d' ∧ s.objs d' = none ∧ (∀ k ∈ v.refs, k = d') ∧ κ ((s.setO d' (some obj)).set d' v) = some r ∧ ∀ s2 : FState, s2.objs d' = none → ∀ {γ : Type} (κ2 : FState → Option γ), putD Γ d s2 k y κ2 = κ2 ((s2.setO d' (some obj)).set d' v) := by
 cases k with
 | sl e k' =>
  unfold putD at h
  obtain ⟨hke, h⟩ := bI h
  obtain ⟨d', rfl, hn, h⟩ := cC h
  exact .inr ⟨d', _, _, rfl, hn, fun k hk => by simpa [FV.refs] using hk, h, fun s2 h2 γ κ2 => by simp only [putD, hke, if_true, Go.Proofs.YticibdjilmclgaaDoorZF.newRow, h2]⟩
 | int k => exact .inl ⟨.dat (.int k) y, rfl, h, fun _ _ _ => rfl⟩
 | bool => exact .inl ⟨.dat .bool y, rfl, h, fun _ _ _ => rfl⟩
 | str => exact .inl ⟨.dat .str y, rfl, h, fun _ _ _ => rfl⟩
 | flt k => exact .inl ⟨.dat (.flt k) y, rfl, h, fun _ _ _ => rfl⟩
 | err => exact .inl ⟨.dat .err y, rfl, h, fun _ _ _ => rfl⟩
 | pair k1 k2 => exact .inl ⟨.dat (.pair k1 k2) y, rfl, h, fun _ _ _ => rfl⟩
theorem Loc.byFrz {d : Nat} {op : Op} {ty : TypeId} {pos : String} {af : Array Edge} {g : Option (Nat × Bool)} {obj : FObj} {v : FV} {vs : List FV} (hk : κ (((bU (frz s vs) s).setO d (some obj)).set d v) = some r) (hd : (bU (frz s vs) s).objs d = none) (hv : ∀ k ∈ v.refs, k = d)
  (hvs : ∀ u ∈ vs, ∀ o ∈ u.refs, o ∈ eR s ⟨some d, op, ty, pos, af, g⟩) (ht : gQ Γ s ⟨some d, op, ty, pos, af, g⟩ = vs.any FV.isSlB)
  (h : ∀ s2, oS ⟨some d, op, ty, pos, af, g⟩ s s2 → frz s2 vs = frz s vs → (bU (frz s vs) s2).objs d = none → ∀ {γ : Type} (κ2 : FState → Option γ), opK Γ ⟨some d, op, ty, pos, af, g⟩ s2 κ2 = κ2 (((bU (frz s vs) s2).setO d (some obj)).set d v)) : ∃ e, κ (Eff.app e s (some d)) = some r ∧ Loc Γ ⟨some d, op, ty, pos, af, g⟩ s e := by
 have hids : ∀ k ∈ frz s vs, k ∈ eR s ⟨some d, op, ty, pos, af, g⟩ := fun k hk => by
  obtain ⟨u, h1, h2⟩ := mS hk
  exact hvs u h1 k h2
 refine ⟨⟨frz s vs, [(d, obj)], v⟩, hk, hids, fun p hp => ?_, fun hq => ?_, fun k hk => .inr (by simp [hv k hk]), fun s2 hA γ κ2 => ?_⟩
 ·simp at hp
  subst hp
  rw [dM] at hd
  split at hd
  ·rename_i hm; exact .inl (hids _ hm)
  ·exact .inr ⟨hd, d, 0, rfl, by simp⟩
 ·have he : frz s vs = [] := KO (ht ▸ hq)
  refine ⟨he, fun p hp => ?_⟩
  simp at hp
  subst hp
  rw [he] at hd
  exact ⟨hd, d, 0, rfl, by simp⟩
 ·refine h s2 hA (zF fun u hu o ho => hA.objs o (hvs u hu o ho)) ?_ κ2
  rw [dM] at hd ⊢
  split
  ·rfl
  ·rename_i hm
   rw [if_neg hm] at hd
   exact hA.new d ⟨d, 0, rfl, by simp⟩ hd
theorem BK {t : TypeId} {k : K} : ∀ (ps : List (Nat × Operand)) (x : k.den) {f : k.den → Option β}, nS Γ s t k ps x f = some r →
  ∃ z, f z = some r ∧ ∀ s2 : FState, (∀ p ∈ ps, ev s2 p.2 = ev s p.2) → (∀ p ∈ ps, ∀ o ∈ (ev s p.2).refs, s2.objs o = s.objs o) → ∀ {γ : Type} (f2 : k.den → Option γ), nS Γ s2 t k ps x f2 = f2 z
 | [], x, f, h => ⟨x, h, fun _ _ _ γ f2 => rfl⟩
 | (j, v) :: ps, x, f, h => by
  unfold nS at h
  obtain ⟨⟨q, ft⟩, hf, h⟩ := aL h
  obtain ⟨k', hk', h⟩ := aL h
  obtain ⟨y, h, hloc⟩ := mZ h
  obtain ⟨z, hz, h⟩ := aL h
  obtain ⟨z', h1, h2⟩ := BK ps z h
  refine ⟨z', h1, fun s2 hs ho γ f2 => ?_⟩
  unfold nS
  rw [hf]
  simp only [cD]
  rw [hk']
  simp only
  rw [hs (j, v) (by simp), hloc s2 (ho (j, v) (by simp)), hz]
  exact h2 s2 (fun p hp => hs p (by simp [hp])) (fun p hp => ho p (by simp [hp])) f2
theorem BJ {k : K} : ∀ (ps : List (Nat × Operand)) (n : Nat) (acc : List k.den) {f : List k.den → Option β}, nC s k n ps acc f = some r →
  ∃ z, f z = some r ∧ ∀ s2 : FState, (∀ p ∈ ps, ev s2 p.2 = ev s p.2) → (∀ p ∈ ps, ∀ o ∈ (ev s p.2).refs, s2.objs o = s.objs o) → ∀ {γ : Type} (f2 : List k.den → Option γ), nC s2 k n ps acc f2 = f2 z
 | [], n, acc, f, h => ⟨acc, h, fun _ _ _ γ f2 => rfl⟩
 | (j, v) :: ps, n, acc, f, h => by
  unfold nC at h
  obtain ⟨hj, h⟩ := eD h
  obtain ⟨y, h, hloc⟩ := mZ h
  obtain ⟨z', h1, h2⟩ := BJ ps (n + 1) (acc ++ [y]) h
  refine ⟨z', h1, fun s2 hs ho γ f2 => ?_⟩
  unfold nC
  rw [hj]
  simp only [cond_true]
  rw [hs (j, v) (by simp), hloc s2 (ho (j, v) (by simp))]
  exact h2 s2 (fun p hp => hs p (by simp [hp])) (fun p hp => ho p (by simp [hp])) f2
theorem aD5 {u e : TypeId} {k : K} {y : FV} {f : List k.den → Option β} (h : JR Γ s u e k y f = some r) : ∃ ys, f ys = some r ∧ ∀ s2 : FState, (∀ o ∈ y.refs, s2.objs o = s.objs o) → ∀ {γ : Type} (f2 : List k.den → Option γ), JR Γ s2 u e k y f2 = f2 ys := by
 unfold JR at h
 split at h
 ·obtain ⟨hu, h⟩ := bI h
  exact ⟨_, h, fun s2 _ γ f2 => by simp [JR, hu]⟩
 ·obtain ⟨hu, h⟩ := bI h
  obtain ⟨rfl, h⟩ := bR h
  exact ⟨_, h, fun s2 _ γ f2 => by simp [JR, hu, fB]⟩
 ·obtain ⟨o, wn, nn, k', e', rw_, xs, rfl, ho, h⟩ := cI h
  obtain ⟨hu, h⟩ := bI h
  obtain ⟨rfl, h⟩ := bR h
  refine ⟨_, h, fun s2 hs γ f2 => ?_⟩
  have : s2.objs o = _ := (hs o (by simp [FV.refs])).trans ho
  simp [JR, iM, this, hu, fB]
theorem fR : ∀ (ks : List AK) (vs : List FV) {f : DenA ks → Option β}, cA s ks vs f = some r → ∃ d, f d = some r ∧ ∀ s2 : FState, (∀ v ∈ vs, ∀ o ∈ v.refs, s2.objs o = s.objs o) → ∀ {γ : Type} (f2 : DenA ks → Option γ), cA s2 ks vs f2 = f2 d
 | [], [], f, h => ⟨(), h, fun _ _ γ f2 => by simp [cA]⟩
 | [], x :: xs, f, h => by simp [cA] at h
 | .dat k :: ks, [], f, h => by simp [cA] at h
 | .ro k e :: ks, [], f, h => by simp [cA] at h
 | .rw k e :: ks, [], f, h => by simp [cA] at h
 | .pro k e :: ks, [], f, h => by simp [cA] at h
 | .dat k :: ks, v :: vs, f, h => by
  unfold cA at h
  have hh := eJ h
  clear h
  obtain ⟨x, rfl, h⟩ := hh
  obtain ⟨d, h1, h2⟩ := fR ks vs h
  refine ⟨(x, d), h1, fun s2 hs γ f2 => ?_⟩
  unfold cA
  rw [fT]
  exact h2 s2 (fun v hv => hs v (by simp [hv])) _
 | .ro k e :: ks, v :: vs, f, h => by
  unfold cA at h
  split at h
  ·obtain ⟨d, h1, h2⟩ := fR ks vs h
   refine ⟨([], d), h1, fun s2 hs γ f2 => ?_⟩
   unfold cA
   exact h2 s2 (fun v hv => hs v (by simp [hv])) _
  ·obtain ⟨o, wn, nn, k', e', rw_, xs, rfl, ho, h⟩ := cI h
   obtain ⟨he, h⟩ := bI h
   obtain ⟨rfl, h⟩ := bR h
   obtain ⟨d, h1, h2⟩ := fR ks vs h
   refine ⟨_, h1, fun s2 hs γ f2 => ?_⟩
   have hso : s2.objs o = _ := (hs (.sl o wn nn) (by simp) o (by simp [FV.refs])).trans ho
   unfold cA
   simp only [iM, hso, if_pos he, fB, dite_true]
   exact h2 s2 (fun v hv => hs v (by simp [hv])) _
 | .rw k e :: ks, v :: vs, f, h => by
  unfold cA at h
  split at h
  ·obtain ⟨d, h1, h2⟩ := fR ks vs h
   refine ⟨([], d), h1, fun s2 hs γ f2 => ?_⟩
   unfold cA
   exact h2 s2 (fun v hv => hs v (by simp [hv])) _
  ·obtain ⟨o, wn, nn, k', e', rw_, xs, rfl, ho, h⟩ := cI h
   obtain ⟨he, h⟩ := bI h
   obtain ⟨rfl, h⟩ := bR h
   obtain ⟨d, h1, h2⟩ := fR ks vs h
   refine ⟨_, h1, fun s2 hs γ f2 => ?_⟩
   have hso : s2.objs o = _ := (hs (.sl o wn nn) (by simp) o (by simp [FV.refs])).trans ho
   unfold cA
   simp only [iM, hso, if_pos he, fB, dite_true]
   exact h2 s2 (fun v hv => hs v (by simp [hv])) _
 | .pro k e :: ks, v :: vs, f, h => by
  unfold cA at h
  split at h
  ·rename_i o i
   split at h
   ·rename_i k' e' rw_ xs ho
    obtain ⟨he, h⟩ := bI h
    obtain ⟨rfl, h⟩ := iN h
    obtain ⟨d, h1, h2⟩ := fR ks vs h
    refine ⟨_, h1, fun s2 hs γ f2 => ?_⟩
    have hso : s2.objs o = _ := (hs (.ptr o i 0) (by simp) o (by simp [FV.refs])).trans ho
    unfold cA
    simp only [hso, if_pos he, rO, dite_true]
    exact h2 s2 (fun v hv => hs v (by simp [hv])) _
   ·cases h
  ·cases h
theorem TQ : ∀ (l : List (Nat × FObj)) (s : FState) (k : Nat), k ∉ l.map (·.1) → (fK l s).objs k = s.objs k
 | [], s, k, _ => rfl
 | (q, o) :: l, s, k, h => by
  simp only [List.map_cons, List.mem_cons, not_or] at h
  rw [fK, TQ l _ k h.2, aZ _ _ _ h.1]
theorem hK {d : Nat} : ∀ (rs : List RK) (j : Nat) (x : DenR rs) (s : FState) {f : FV → FState → Option β}, cU d j rs x s f = some r →
  ∃ l v, f v (fK l s) = some r ∧ (∀ p ∈ l, s.objs p.1 = none ∧ ∃ i, p.1 = d + i * 1000000) ∧ (∀ k ∈ v.refs, k ∈ l.map (·.1)) ∧ ∀ s2 : FState, (∀ i, s.objs (d + i * 1000000) = none → s2.objs (d + i * 1000000) = none) → ∀ {γ : Type} (f2 : FV → FState → Option γ), cU d j rs x s2 f2 = f2 v (fK l s2)
 | [], j, x, s, f, h => ⟨[], .tnil, h, fun p hp => by simp at hp, fun k hk => by simp [FV.refs] at hk, fun s2 _ γ f2 => rfl⟩
 | .dat k :: rs, j, x, s, f, h => by
  unfold cU at h
  obtain ⟨l, v, h1, h2, h3, h4⟩ := hK rs (j + 1) x.2 s h
  refine ⟨l, .tcons (.dat k x.1) v, h1, h2, fun k hk => h3 k (by simpa [FV.refs] using hk), fun s2 hs γ f2 => ?_⟩
  unfold cU
  exact h4 s2 hs _
 | .nsl :: rs, j, x, s, f, h => by
  unfold cU at h
  obtain ⟨l, v, h1, h2, h3, h4⟩ := hK rs (j + 1) x.2 s h
  refine ⟨l, .tcons .nsl v, h1, h2, fun k hk => h3 k (by simpa [FV.refs] using hk), fun s2 hs γ f2 => ?_⟩
  unfold cU
  exact h4 s2 hs _
 | .rw k e :: rs, j, x, s, f, h => by
  unfold cU at h
  split at h
  ·rename_i hn
   obtain ⟨l, v, h1, h2, h3, h4⟩ := hK rs (j + 1) x.2 _ h
   refine ⟨(d + j * 1000000, .row k e true x.1) :: l, .tcons (.sl (d + j * 1000000) none false) v, h1, fun p hp => ?_, fun q hq => ?_, fun s2 hs γ f2 => ?_⟩
   ·rcases List.mem_cons.1 hp with rfl | hp
    ·exact ⟨hn, j, rfl⟩
    ·obtain ⟨g1, i, g2⟩ := h2 p hp
     refine ⟨?_, i, g2⟩
     by_cases e' : p.1 = d + j * 1000000
     ·rw [e']; exact hn
     ·rwa [aZ _ _ _ e'] at g1
   ·simp only [FV.refs, List.singleton_append, List.mem_cons] at hq
    rcases hq with rfl | hq
    ·simp
    ·have := h3 q hq; simp at this ⊢; exact .inr this
   ·unfold cU
    rw [hs j hn]
    exact h4 _ (fun i hi => by
     by_cases e' : d + i * 1000000 = d + j * 1000000
     ·rw [e', aT] at hi; cases hi
     ·rw [aZ _ _ _ e'] at hi ⊢; exact hs i hi) _
  ·cases h
 | .ro k e :: rs, j, x, s, f, h => by
  unfold cU at h
  split at h
  ·rename_i hn
   obtain ⟨l, v, h1, h2, h3, h4⟩ := hK rs (j + 1) x.2 _ h
   refine ⟨(d + j * 1000000, .row k e false x.1) :: l, .tcons (.sl (d + j * 1000000) none false) v, h1, fun p hp => ?_, fun q hq => ?_, fun s2 hs γ f2 => ?_⟩
   ·rcases List.mem_cons.1 hp with rfl | hp
    ·exact ⟨hn, j, rfl⟩
    ·obtain ⟨g1, i, g2⟩ := h2 p hp
     refine ⟨?_, i, g2⟩
     by_cases e' : p.1 = d + j * 1000000
     ·rw [e']; exact hn
     ·rwa [aZ _ _ _ e'] at g1
   ·simp only [FV.refs, List.singleton_append, List.mem_cons] at hq
    rcases hq with rfl | hq
    ·simp
    ·have := h3 q hq; simp at this ⊢; exact .inr this
   ·unfold cU
    rw [hs j hn]
    exact h4 _ (fun i hi => by
     by_cases e' : d + i * 1000000 = d + j * 1000000
     ·rw [e', aT] at hi; cases hi
     ·rw [aZ _ _ _ e'] at hi ⊢; exact hs i hi) _
  ·cases h
 | .ptr k e :: rs, j, x, s, f, h => by
  unfold cU at h
  split at h
  ·rename_i hn
   obtain ⟨l, v, h1, h2, h3, h4⟩ := hK rs (j + 1) x.2 _ h
   refine ⟨(d + j * 1000000, .row k e true [x.1]) :: l, .tcons (.ptr (d + j * 1000000) 0 0) v, h1, fun p hp => ?_, fun q hq => ?_, fun s2 hs γ f2 => ?_⟩
   ·rcases List.mem_cons.1 hp with rfl | hp
    ·exact ⟨hn, j, rfl⟩
    ·obtain ⟨g1, i, g2⟩ := h2 p hp
     refine ⟨?_, i, g2⟩
     by_cases e' : p.1 = d + j * 1000000
     ·rw [e']; exact hn
     ·rwa [aZ _ _ _ e'] at g1
   ·simp only [FV.refs, List.singleton_append, List.mem_cons] at hq
    rcases hq with rfl | hq
    ·simp
    ·have := h3 q hq; simp at this ⊢; exact .inr this
   ·unfold cU
    rw [hs j hn]
    exact h4 _ (fun i hi => by
     by_cases e' : d + i * 1000000 = d + j * 1000000
     ·rw [e', aT] at hi; cases hi
     ·rw [aZ _ _ _ e'] at hi ⊢; exact hs i hi) _
  ·cases h
theorem iP : ∀ (ks : List AK) (vs : List FV), ∀ o ∈ cV ks vs, ∃ v ∈ vs, o ∈ v.refs
 | [], _, o, h => by cases ‹List FV› <;> simp [cV] at h
 | .rw k e :: ks, [], o, h => by simp [cV] at h
 | .dat k :: ks, [], o, h => by simp [cV] at h
 | .ro k e :: ks, [], o, h => by simp [cV] at h
 | .pro k e :: ks, [], o, h => by simp [cV] at h
 | .dat k :: ks, v :: vs, o, h => by
  obtain ⟨v', h1, h2⟩ := iP ks vs o (by simpa [cV] using h)
  exact ⟨v', by simp [h1], h2⟩
 | .ro k e :: ks, v :: vs, o, h => by
  obtain ⟨v', h1, h2⟩ := iP ks vs o (by simpa [cV] using h)
  exact ⟨v', by simp [h1], h2⟩
 | .pro k e :: ks, v :: vs, o, h => by
  obtain ⟨v', h1, h2⟩ := iP ks vs o (by simpa [cV] using h)
  exact ⟨v', by simp [h1], h2⟩
 | .rw k e :: ks, v :: vs, o, h => by
  cases v with
  | sl p wn nn =>
   simp only [cV, List.mem_cons] at h
   rcases h with rfl | h
   ·exact ⟨.sl o wn nn, by simp, by simp [FV.refs]⟩
   ·obtain ⟨v', h1, h2⟩ := iP ks vs o h
    exact ⟨v', by simp [h1], h2⟩
  | _ =>
   obtain ⟨v', h1, h2⟩ := iP ks vs o (by simpa [cV] using h)
   exact ⟨v', by simp [h1], h2⟩
theorem fQ : ∀ (ks : List AK) (vs : List FV), ∀ o ∈ cS ks vs, ∃ v ∈ vs, o ∈ v.refs
 | [], vs, o, h => by cases vs <;> simp [cS] at h
 | .rw k e :: ks, [], o, h => by simp [cS] at h
 | .dat k :: ks, [], o, h => by simp [cS] at h
 | .ro k e :: ks, [], o, h => by simp [cS] at h
 | .pro k e :: ks, [], o, h => by simp [cS] at h
 | .dat k :: ks, v :: vs, o, h => by
  obtain ⟨v', h1, h2⟩ := fQ ks vs o (by simpa [cS] using h)
  exact ⟨v', by simp [h1], h2⟩
 | .rw k e :: ks, v :: vs, o, h => by
  obtain ⟨v', h1, h2⟩ := fQ ks vs o (by simpa [cS] using h)
  exact ⟨v', by simp [h1], h2⟩
 | .ro k e :: ks, v :: vs, o, h => by
  cases v with
  | sl p wn nn =>
   simp only [cS, List.mem_cons] at h
   rcases h with rfl | h
   ·exact ⟨.sl o wn nn, by simp, by simp [FV.refs]⟩
   ·obtain ⟨v', h1, h2⟩ := fQ ks vs o h
    exact ⟨v', by simp [h1], h2⟩
  | _ =>
   obtain ⟨v', h1, h2⟩ := fQ ks vs o (by simpa [cS] using h)
   exact ⟨v', by simp [h1], h2⟩
 | .pro k e :: ks, v :: vs, o, h => by
  cases v with
  | ptr p i off =>
   simp only [cS, List.mem_cons] at h
   rcases h with rfl | h
   ·exact ⟨.ptr o i off, by simp, by simp [FV.refs]⟩
   ·obtain ⟨v', h1, h2⟩ := fQ ks vs o h
    exact ⟨v', by simp [h1], h2⟩
  | _ =>
   obtain ⟨v', h1, h2⟩ := fQ ks vs o (by simpa [cS] using h)
   exact ⟨v', by simp [h1], h2⟩
theorem PT (v : FV) : ∀ k ∈ (sC v).refs, k ∈ v.refs := by
 intro k hk
 cases v with
 | tcons a b => cases b <;> simp_all [sC, FV.refs]
 | _ => exact hk
theorem GY {lo hi : Option FV} {n : Int} {f : Int → Int → Option β} (h : rT lo hi n f = some r) : ∃ A B, f A B = some r ∧ ∀ {γ : Type} (f2 : Int → Int → Option γ), rT lo hi n f2 = f2 A B := by
 unfold rT at h
 split at h
 ·exact ⟨_, _, h, fun f2 => rfl⟩
 ·obtain ⟨k, m, rfl, h⟩ := dE h
  obtain ⟨h1, h2, h3, h⟩ := lC h
  exact ⟨_, _, h, fun f2 => by simp [rT, jN, bnd, h1, h2, h3]⟩
 ·obtain ⟨k, m, rfl, h⟩ := dE h
  obtain ⟨h1, h2, h3, h⟩ := lC h
  exact ⟨_, _, h, fun f2 => by simp [rT, jN, bnd, h1, h2, h3]⟩
 ·have hh := dE h
  clear h
  obtain ⟨k, m, rfl, h⟩ := hh
  have hh := dE h
  clear h
  obtain ⟨k', m', rfl, h⟩ := hh
  obtain ⟨h1, h2, h3, h⟩ := lC h
  exact ⟨_, _, h, fun f2 => by simp [rT, jN, bnd, h1, h2, h3]⟩
theorem UL (t : Bool) (x y : FV) : ∀ k ∈ (HN t x y).refs, k ∈ x.refs ∨ k ∈ y.refs := by
 intro k hk
 unfold HN at hk
 split at hk
 ·split at hk <;> simp [FV.refs] at hk
 ·cases t
  ·exact .inr (by simpa using hk)
  ·exact .inl (by simpa using hk)
def nZ : List Nat → FState → List (Nat × FObj)
 | [], _ => []
 | o :: l, s => match s.objs o with
  | some (.row k e true xs) => (o, .row k e false xs) :: nZ l (s.setO o (some (.row k e false xs)))
  | _ => nZ l s
def kE (S : bG) (vs : List FV) (s : FState) : List (Nat × FObj) := bif S.rets.all RK.flat then [] else nZ (cS S.args vs) s
theorem sH : ∀ (l : List Nat) (s : FState), downAll l s = fK (nZ l s) s
 | [], s => rfl
 | o :: l, s => by
  unfold downAll FState.down
  split
  ·rename_i k e xs ho
   rw [sH l]
   simp only [nZ, ho]
   rfl
  ·rename_i hno
   rw [sH l]
   simp only [nZ]
theorem sQ (S : bG) (vs : List FV) (s : FState) : downFor S vs s = fK (kE S vs s) s := by
 unfold downFor kE
 cases S.rets.all RK.flat
 ·exact sH _ _
 ·rfl
theorem oW : ∀ (l : List Nat) (s : FState), ∀ p ∈ nZ l s, p.1 ∈ l
 | [], s, p, hp => by simp [nZ] at hp
 | o :: l, s, p, hp => by
  unfold nZ at hp
  split at hp
  ·rcases List.mem_cons.1 hp with rfl | hp
   ·simp
   ·exact List.mem_cons_of_mem _ (oW l _ p hp)
  ·exact List.mem_cons_of_mem _ (oW l _ p hp)
theorem uG {S : bG} {vs : List FV} {s : FState} : ∀ p ∈ kE S vs s, p.1 ∈ cS S.args vs := fun p hp => by
 unfold kE at hp
 cases hf : S.rets.all RK.flat
 ·rw [hf] at hp; exact oW _ _ p hp
 ·rw [hf] at hp; simp at hp
theorem sG : ∀ (l : List Nat) {s s2 : FState}, (∀ o ∈ l, s2.objs o = s.objs o) → nZ l s2 = nZ l s
 | [], s, s2, h => rfl
 | o :: l, s, s2, h => by
  unfold nZ
  rw [h o (by simp)]
  split
  ·rename_i k e xs ho
   rw [sG l (s := s.setO o (some (.row k e false xs))) (s2 := s2.setO o (some (.row k e false xs))) (fun p hp => by
    by_cases e : p = o
    ·subst e; rw [aT, aT]
    ·rw [aZ _ _ _ e, aZ _ _ _ e]; exact h p (by simp [hp]))]
  ·exact sG l (fun p hp => h p (by simp [hp]))
theorem xU {S : bG} {vs : List FV} {s s2 : FState} (h : ∀ o ∈ cS S.args vs, s2.objs o = s.objs o) : kE S vs s2 = kE S vs s := by
 unfold kE
 rw [sG _ h]
theorem GQ : ∀ (l m : List (Nat × FObj)) (s : FState), fK (l ++ m) s = fK m (fK l s)
 | [], m, s => rfl
 | (k, o) :: l, m, s => by rw [List.cons_append, fK, fK, GQ l]
theorem BL : ∀ (l : List (Nat × FObj)) {s s2 : FState} {o : Nat}, s2.objs o = s.objs o → (fK l s2).objs o = (fK l s).objs o
 | [], s, s2, o, h => h
 | (k, x) :: l, s, s2, o, h => by
  refine BL l ?_
  by_cases e : o = k
  ·subst e; rw [aT, aT]
  ·rw [aZ _ _ _ e, aZ _ _ _ e]; exact h
theorem X7 {s : FState} {o p : Nat} {x : Option FObj} (h : p ≠ o) : (s.setO p x).kill o = (s.kill o).setO p x := by
 unfold FState.kill FState.setO
 congr 1
 funext q
 by_cases e1 : q = o
 ·subst e1; simp [Nat.beq_refl, fN (fun e => h e.symm)]
 ·simp [fN e1]
theorem EI {o : Nat} : ∀ {l : List (Nat × FObj)} {s : FState}, (∀ p ∈ l, p.1 ≠ o) → (fK l s).kill o = fK l (s.kill o)
 | [], s, h => rfl
 | (k, x) :: l, s, h => by
  rw [fK, EI (fun p hp => h p (by simp [hp])), X7 (h (k, x) (by simp))]
  rfl
theorem FT {ids : List Nat} {l : List (Nat × FObj)} {s : FState} (h : ∀ p ∈ l, p.1 ∉ ids) : bU ids (fK l s) = fK l (bU ids s) := by
 induction ids generalizing s with
 | nil => rfl
 | cons o ids ih => rw [bU, EI (fun p hp e => h p hp (by simp [e])), ih (fun p hp hm => h p hp (by simp [hm]))]; rfl
theorem j7 {s : FState} {o k : Nat} : (s.down o).objs k = none ↔ s.objs k = none := by
 unfold FState.down
 split
 ·rename_i k' e xs ho
  by_cases h : k = o
  ·subst h; rw [aT, ho]; simp
  ·rw [aZ _ _ _ h]
 ·rfl
theorem tO : ∀ {l : List Nat} {s : FState} {k : Nat}, (downAll l s).objs k = none ↔ s.objs k = none
 | [], s, k => Iff.rfl
 | o :: l, s, k => by rw [downAll, tO (l := l), j7]
theorem ML {S : bG} {vs : List FV} {s : FState} {k : Nat} : (downFor S vs s).objs k = none ↔ s.objs k = none := by
 unfold downFor
 cases S.rets.all RK.flat
 ·exact tO
 ·exact Iff.rfl
structure pJ (Γ : Ctx) : Prop where
 nat : ∀ f S, Γ.calls f = some S → ∀ {β : Type} (d : DenA S.args) (κ : DenR S.rets → Option β) (r : β), S.app d κ = some r → ∃ x, S.app d some = some x ∧ κ x = some r
 app : ∀ f S, Γ.calls f = some S → ∀ (d : DenA S.args) (x : DenR S.rets), S.app d some = some x → ∀ {γ : Type} (κ : DenR S.rets → Option γ), S.app d κ = κ x
set_option maxHeartbeats 1000000 in
theorem S6 (hN : pJ Γ) (o : Oper) (h : opK Γ o s κ = some r) : ∃ e, κ (Eff.app e s o.dst) = some r ∧ Loc Γ o s e := by
 obtain ⟨d, op, ty, pos, af, g⟩ := o
 cases op <;> simp only [opK] at h
 case move x =>
  refine Loc.byVal (v := ev s x) h (fun k hk => bF (x := x) (by simp [Op.operands]) hk) fun s2 hA γ κ2 => ?_
  simp only [opK]; rw [hA.ops x (by simp [Op.operands])]
 case assign x =>
  refine Loc.byVal (v := ev s x) h (fun k hk => bF (x := x) (by simp [Op.operands]) hk) fun s2 hA γ κ2 => ?_
  simp only [opK]; rw [hA.ops x (by simp [Op.operands])]
 case pick c x y =>
  obtain ⟨b, hb, h⟩ := sO h
  refine Loc.byVal (v := HN b (ev s x) (ev s y)) h (fun k hk => ?_) fun s2 hA γ κ2 => ?_
  ·rcases UL _ _ _ k hk with hk | hk
   ·exact bF (x := x) (by simp [Op.operands]) hk
   ·exact bF (x := y) (by simp [Op.operands]) hk
  ·simp only [opK]
   rw [hA.ops c (by simp [Op.operands]), hA.ops x (by simp [Op.operands]), hA.ops y (by simp [Op.operands]), hb]
   rfl
 case binOp op t x y u =>
  obtain ⟨k, v, h, h2⟩ := bB1 h
  refine Loc.byVal (v := .dat k v) h (fun k hk => by simp [FV.refs] at hk) fun s2 hA γ κ2 => ?_
  simp only [opK]
  rw [hA.ops x (by simp [Op.operands]), hA.ops y (by simp [Op.operands]), h2]
 case unOp op t x =>
  obtain ⟨k, v, h, h2⟩ := cA8 h
  refine Loc.byVal (v := .dat k v) h (fun k hk => by simp [FV.refs] at hk) fun s2 hA γ κ2 => ?_
  simp only [opK]
  rw [hA.ops x (by simp [Op.operands]), h2]
 case convert src dst x =>
  have hop : x ∈ (⟨d, .convert src dst x, ty, pos, af, g⟩ : Oper).op.operands := by simp [Op.operands]
  unfold nX at h
  split at h
  ·rename_i z hx
   split at h
   ·rename_i e he
    split at h
    ·rename_i hs ht
     obtain ⟨hz, h⟩ := eD h
     obtain ⟨d', rfl, hn, h⟩ := cC h
     refine Loc.byRow h hn (fun k hk => by simpa [FV.refs] using hk) fun s2 hA hn2 γ κ2 => ?_
     simp only [opK]
     rw [hA.ops x hop, hx]
     simp only [nX, he, hs, ht, hz, cond_true, Go.Proofs.YticibdjilmclgaaDoorZF.newRow, hn2]
    ·rename_i hs ht
     obtain ⟨d', rfl, hn, h⟩ := cC h
     refine Loc.byRow h hn (fun k hk => by simpa [FV.refs] using hk) fun s2 hA hn2 γ κ2 => ?_
     simp only [opK]
     rw [hA.ops x hop, hx]
     simp only [nX, he, hs, ht, Go.Proofs.YticibdjilmclgaaDoorZF.newRow, hn2]
    ·cases h
   ·rename_i he
    obtain ⟨k, v, h, h2⟩ := GS h
    refine Loc.byVal (v := .dat k v) h (fun k hk => by simp [FV.refs] at hk) fun s2 hA γ κ2 => ?_
    simp only [opK]
    rw [hA.ops x hop, hx]
    rw [hx] at h2
    simp only [nX, he]
    rw [h2]
  ·rename_i hx
   split at h
   ·rename_i e he hs
    split at h
    ·rename_i ht
     refine Loc.byVal (v := .dat .str ⟨#[]⟩) h (fun k hk => by simp [FV.refs] at hk) fun s2 hA γ κ2 => ?_
     simp only [opK]
     rw [hA.ops x hop, hx]
     simp only [nX, he, hs, ht]
    ·rename_i ht
     refine Loc.byVal (v := .dat .str ⟨#[]⟩) h (fun k hk => by simp [FV.refs] at hk) fun s2 hA γ κ2 => ?_
     simp only [opK]
     rw [hA.ops x hop, hx]
     simp only [nX, he, hs, ht]
    ·cases h
   ·cases h
  ·rename_i o0 w0 nn0 hx
   obtain ⟨o, wn, nn, k', e', rw_, xs, hx', ho, h⟩ := cI h
   cases hx'
   have hor : o0 ∈ eR s ⟨d, .convert src dst x, ty, pos, af, g⟩ := bF (x := x) hop (by rw [hx]; simp [FV.refs])
   split at h
   ·rename_i e e2 k2 he hs
    have hh := bI h
    clear h
    obtain ⟨hc, h⟩ := hh
    obtain ⟨h0, hpos, h⟩ := qB h
    refine Loc.byVal (v := .sl o0 w0 true) h (fun k hk => by simp [FV.refs] at hk; subst hk; exact hor) fun s2 hA γ κ2 => ?_
    have hso : s2.objs o0 = _ := (hA.objs o0 hor).trans ho
    simp only [opK]
    rw [hA.ops x hop, hx]
    simp only [nX, iM, hso, he, hs]
    rw [if_pos hc]
    simp only [idx, h0, hpos, if_true]
   ·rename_i e he hs
    split at h
    ·rename_i ht
     have hh := bR h
     clear h
     obtain ⟨hk', h⟩ := hh
     subst hk'
     refine Loc.byVal (v := .dat .str (strOfNums (win xs w0))) h (fun k hk => by simp [FV.refs] at hk) fun s2 hA γ κ2 => ?_
     have hso : s2.objs o0 = _ := (hA.objs o0 hor).trans ho
     simp only [opK]
     rw [hA.ops x hop, hx]
     simp only [nX, iM, hso, he, hs, ht, fB, dite_true]
    ·rename_i ht
     have hh := bR h
     clear h
     obtain ⟨hk', h⟩ := hh
     subst hk'
     refine Loc.byVal (v := .dat .str (runesBytes (win xs w0))) h (fun k hk => by simp [FV.refs] at hk) fun s2 hA γ κ2 => ?_
     have hso : s2.objs o0 = _ := (hA.objs o0 hor).trans ho
     simp only [opK]
     rw [hA.ops x hop, hx]
     simp only [nX, iM, hso, he, hs, ht, fB, dite_true]
    ·cases h
   ·cases h
  ·rename_i hx1 hx2 hx3
   obtain ⟨k, v, h, h2⟩ := GS h
   refine Loc.byVal (v := .dat k v) h (fun k hk => by simp [FV.refs] at hk) fun s2 hA γ κ2 => ?_
   simp only [opK]
   rw [hA.ops x hop]
   cases hx : ev s x with
   | dat k0 x0 =>
    rw [hx] at h2
    cases k0 with
    | str => exact absurd hx (hx1 x0)
    | _ => exact h2 (fun v => κ2 (s2.put d v))
   | nsl => exact absurd hx hx2
   | sl o w nn => exact absurd hx (hx3 o w nn)
   | _ => rw [hx] at h2; exact h2 (fun v => κ2 (s2.put d v))
 case alloc t =>
  obtain ⟨k, ht, h⟩ := aL h
  obtain ⟨d', rfl, hn, h⟩ := cC h
  refine Loc.byRow h hn (fun k hk => by simpa [FV.refs] using hk) fun s2 hA hn2 γ κ2 => ?_
  simp only [opK, ht, cD, Go.Proofs.YticibdjilmclgaaDoorZF.newRow, hn2]
 case box t x =>
  obtain ⟨k, ht, h⟩ := aL h
  obtain ⟨y, h, hloc⟩ := mZ h
  obtain ⟨d', rfl, hn, h⟩ := cC h
  have hop : x ∈ (⟨some d', .box t x, ty, pos, af, g⟩ : Oper).op.operands := by simp [Op.operands]
  refine Loc.byFrz h hn (fun k hk => by simpa [FV.refs] using hk) (fun u hu o ho => by rw [List.mem_singleton.1 hu] at ho; exact bF hop ho) (by simp [gQ]) fun s2 hA hf hn2 γ κ2 => ?_
  simp only [opK, ht, cD]
  rw [hA.ops x hop, hloc s2 (fun o ho => hA.objs o (bF hop ho)), hf]
  simp only [Go.Proofs.YticibdjilmclgaaDoorZF.newRow, hn2]
 case build t ps =>
  split at h
  ·rename_i k1 k2 l ht hl
   obtain ⟨z, h, h2⟩ := BK ps.toList _ h
   have hop : ∀ p ∈ ps.toList, p.2 ∈ (⟨d, .build t ps, ty, pos, af, g⟩ : Oper).op.operands := fun p hp => by simp [Op.operands]; exact ⟨p.1, by simpa using hp⟩
   have hids : ∀ k ∈ frz s (ps.toList.map fun p => ev s p.2), k ∈ eR s ⟨d, .build t ps, ty, pos, af, g⟩ := fun k hk => by
    obtain ⟨u, h1, h3⟩ := mS hk
    obtain ⟨p, hp, rfl⟩ := List.mem_map.1 h1
    exact bF (hop p hp) h3
   refine ⟨⟨frz s (ps.toList.map fun (p : Nat × Operand) => ev s p.2), [], .dat (.pair k1 k2) z⟩, h, hids, fun p hp => by simp at hp, fun hq => ⟨KO (by simpa [gQ] using hq), fun p hp => by simp at hp⟩, fun k hk => by simp [FV.refs] at hk, fun s2 hA γ κ2 => ?_⟩
   simp only [opK, ht, hl]
   have hm : (ps.toList.map fun p => ev s2 p.2) = ps.toList.map fun p => ev s p.2 := List.map_congr_left fun p hp => hA.ops p.2 (hop p hp)
   rw [h2 s2 (fun p hp => hA.ops p.2 (hop p hp)) (fun p hp o ho => hA.objs o (bF (hop p hp) ho)), hm, zF (s := s) (s2 := s2) (fun u hu o ho => by
    obtain ⟨p, hp, rfl⟩ := List.mem_map.1 hu
    exact hA.objs o (bF (hop p hp) ho))]
   rfl
  ·cases h
 case buildSlice t n ps =>
  obtain ⟨e, he, h⟩ := aL h
  obtain ⟨k, ht, h⟩ := aL h
  obtain ⟨hc, h⟩ := eD h
  obtain ⟨z, h, h2⟩ := BJ ps.toList 0 [] h
  obtain ⟨d', rfl, hn, h⟩ := cC h
  have hop : ∀ p ∈ ps.toList, p.2 ∈ (⟨some d', .buildSlice t n ps, ty, pos, af, g⟩ : Oper).op.operands := fun p hp => by simp [Op.operands]; exact ⟨p.1, by simpa using hp⟩
  refine Loc.byFrz h hn (fun k hk => by simpa [FV.refs] using hk) (fun u hu o ho => by
   obtain ⟨p, hp, rfl⟩ := List.mem_map.1 hu
   exact bF (hop p hp) ho) (by simp [gQ]) fun s2 hA hf hn2 γ κ2 => ?_
  simp only [opK, he, ht, cD, hc, cond_true]
  have hm : (ps.toList.map fun p => ev s2 p.2) = ps.toList.map fun p => ev s p.2 := List.map_congr_left fun p hp => hA.ops p.2 (hop p hp)
  rw [h2 s2 (fun p hp => hA.ops p.2 (hop p hp)) (fun p hp o ho => hA.objs o (bF (hop p hp) ho)), hm, hf]
  simp only [Go.Proofs.YticibdjilmclgaaDoorZF.newRow, hn2]
 case load t x =>
  split at h
  ·rename_i p i off hx
   split at h
   ·rename_i k e rw_ xs ho
    obtain ⟨k', hk', h⟩ := aL h
    obtain ⟨y, hy, h⟩ := aL h
    have hop : x ∈ (⟨d, .load t x, ty, pos, af, g⟩ : Oper).op.operands := by simp [Op.operands]
    have hst : ∀ s2, oS ⟨d, .load t x, ty, pos, af, g⟩ s s2 → ∀ {γ : Type} (κ2 : FState → Option γ), opK Γ ⟨d, .load t x, ty, pos, af, g⟩ s2 κ2 = putD Γ d s2 k' y κ2 := fun s2 hA γ κ2 => by
     have hso : s2.objs p = _ := (hA.objs p (bF (x := x) hop (by rw [hx]; simp [FV.refs]))).trans ho
     simp only [opK]
     rw [hA.ops x hop, hx]
     simp only [hso, hk', cD, hy]
    rcases PD h with ⟨v, hv, h1, h2⟩ | ⟨d', obj, v, rfl, hn, hv, h1, h2⟩
    ·exact Loc.byVal h1 (fun k hk => by rw [hv] at hk; simp at hk) fun s2 hA γ κ2 => (hst s2 hA κ2).trans (h2 s2 κ2)
    ·exact Loc.byRow h1 hn hv fun s2 hA hn2 γ κ2 => (hst s2 hA κ2).trans (h2 s2 hn2 κ2)
   ·cases h
  ·cases h
 case store t x y =>
  split at h
  ·rename_i p i off hx
   split at h
   ·rename_i k e xs ho
    obtain ⟨k', hk', h⟩ := aL h
    obtain ⟨u, h, hloc⟩ := mZ h
    obtain ⟨z, hz, h0⟩ := aL h
    clear h
    have hopx : x ∈ (⟨none, .store t x y, ty, pos, af, g⟩ : Oper).op.operands := by simp [Op.operands]
    have hopy : y ∈ (⟨none, .store t x y, ty, pos, af, g⟩ : Oper).op.operands := by simp [Op.operands]
    have hpn : jZ p (frz s [ev s y]) = false ∧ κ ((bU (frz s [ev s y]) s).setO p (some (.row k e true (xs.set i.toNat z)))) = some r := by
     cases hm : jZ p (frz s [ev s y]) with
     | true => rw [hm] at h0; cases h0
     | false => rw [hm] at h0; exact ⟨rfl, h0⟩
    obtain ⟨hpn, h⟩ := hpn
    have hp : p ∈ eR s ⟨none, .store t x y, ty, pos, af, g⟩ := bF (x := x) hopx (by rw [hx]; simp [FV.refs])
    have hids : ∀ k ∈ frz s [ev s y], k ∈ eR s ⟨none, .store t x y, ty, pos, af, g⟩ := fun k hk => by
     obtain ⟨v, h1, h2⟩ := mS hk
     rw [List.mem_singleton.1 h1] at h2
     exact bF hopy h2
    refine ⟨⟨frz s [ev s y], [(p, .row k e true (xs.set i.toNat z))], .dead⟩, h, hids, fun q hq => ?_, fun ht => by simp [gQ] at ht, fun k hk => by simp [FV.refs] at hk, fun s2 hA γ κ2 => ?_⟩
    ·simp at hq; subst hq; exact .inl hp
    ·have hso : s2.objs p = _ := (hA.objs p hp).trans ho
     simp only [opK]
     rw [hA.ops x hopx, hA.ops y hopy, hx]
     simp only [hso, hk', cD]
     rw [hloc s2 (fun o ho => hA.objs o (bF hopy ho)), zF (s := s) (s2 := s2) (fun v hv o ho => by rw [List.mem_singleton.1 hv] at ho; exact hA.objs o (bF hopy ho))]
     simp only [hz, hpn, cond_false]
     rfl
   ·cases h
  ·cases h
 case nilCheck x =>
  split at h
  ·rename_i p i off hx
   refine Loc.byVal (v := .ptr p i off) h (fun k hk => bF (x := x) (by simp [Op.operands]) (by rw [hx]; exact hk)) fun s2 hA γ κ2 => ?_
   simp only [opK]
   rw [hA.ops x (by simp [Op.operands]), hx]
  ·cases h
 case makeSlice t x y =>
  unfold RW at h
  obtain ⟨e, hse, h⟩ := aL h
  obtain ⟨k, hke, h⟩ := aL h
  obtain ⟨k1, l, hx, h⟩ := dE h
  obtain ⟨k2, c, hy, h⟩ := dE h
  obtain ⟨h1, h2, h3, h⟩ := lC h
  obtain ⟨hr, h⟩ := IB h
  obtain ⟨d', rfl, hn, h⟩ := cC h
  refine Loc.byRow h hn (fun k hk => by simpa [FV.refs] using hk) fun s2 hA hn2 γ κ2 => ?_
  simp only [opK]
  rw [hA.ops x (by simp [Op.operands]), hA.ops y (by simp [Op.operands]), hx, hy]
  simp only [RW, hse, hke, cD, jN, bnd, h1, h2, h3, yD, hr, if_true, Go.Proofs.YticibdjilmclgaaDoorZF.newRow, hn2]
 case range t x =>
  unfold CS at h
  obtain ⟨z, hx, h⟩ := pS h
  obtain ⟨ht, h⟩ := bI h
  obtain ⟨d', rfl, hn, h⟩ := cC h
  refine Loc.byRow h hn (fun k hk => by simpa [FV.refs] using hk) fun s2 hA hn2 γ κ2 => ?_
  simp only [opK]
  rw [hA.ops x (by simp [Op.operands]), hx]
  simp only [CS, GA, ht, if_true, Go.Proofs.YticibdjilmclgaaDoorZF.newRow, hn2]
 case next x b =>
  cases b with
  | false => cases h
  | true =>
   simp only at h
   unfold HB at h
   split at h
   ·rename_i p hx
    split at h
    ·rename_i z q ho
     have hp : p ∈ eR s ⟨d, .next x true, ty, pos, af, g⟩ := bF (x := x) (by simp [Op.operands]) (by rw [hx]; simp [FV.refs])
     cases hb : Nat.blt q z.size with
     | true =>
      rw [hb, cond_true] at h
      refine ⟨⟨[], [(p, .siter z (q + (Utf8.decode z q).2))], _⟩, h, fun k hk => by simp at hk, fun q' hq => ?_, fun ht => by simp [gQ] at ht, fun k hk => by simp [FV.refs] at hk, fun s2 hA γ κ2 => ?_⟩
      ·simp at hq; subst hq; exact .inl hp
      ·have hso : s2.objs p = _ := (hA.objs p hp).trans ho
       simp only [opK]
       rw [hA.ops x (by simp [Op.operands]), hx]
       simp only [HB, hso, hb, cond_true]
       rfl
     | false =>
      rw [hb, cond_false] at h
      refine ⟨⟨[], [], _⟩, h, fun k hk => by simp at hk, fun q' hq => by simp at hq, fun ht => by simp [gQ] at ht, fun k hk => by simp [FV.refs] at hk, fun s2 hA γ κ2 => ?_⟩
      have hso : s2.objs p = _ := (hA.objs p hp).trans ho
      simp only [opK]
      rw [hA.ops x (by simp [Op.operands]), hx]
      simp only [HB, hso, hb, cond_false]
      rfl
    ·cases h
   ·cases h
 case slice t x lo hi mx =>
  cases mx with
  | some m => cases h
  | none =>
   have hlo : ∀ s2, oS ⟨d, .slice t x lo hi none, ty, pos, af, g⟩ s s2 → lo.map (ev s2) = lo.map (ev s) := fun s2 hA => by
    cases lo with
    | none => rfl
    | some lo => simp only [Option.map]; rw [hA.ops lo (by simp [Op.operands])]
   have hhi : ∀ s2, oS ⟨d, .slice t x lo hi none, ty, pos, af, g⟩ s s2 → hi.map (ev s2) = hi.map (ev s) := fun s2 hA => by
    cases hi with
    | none => rfl
    | some hi => simp only [Option.map]; rw [hA.ops hi (by simp [Op.operands])]
   simp only at h
   unfold sK at h
   split at h
   ·rename_i z hx
    obtain ⟨ht, h⟩ := bI h
    obtain ⟨A, B, h, h2⟩ := GY h
    refine Loc.byVal (v := .dat .str (bD z A B)) h (fun k hk => by simp [FV.refs] at hk) fun s2 hA γ κ2 => ?_
    simp only [opK]
    rw [hlo s2 hA, hhi s2 hA, hA.ops x (by simp [Op.operands]), hx]
    simp only [sK, ht, if_true]
    rw [h2]
   ·obtain ⟨o, wn, nn, k, e, rw_, xs, hx, ho, h⟩ := cI h
    obtain ⟨ht, h⟩ := bI h
    obtain ⟨A, B, h, h2⟩ := GY h
    have hor : o ∈ eR s ⟨d, .slice t x lo hi none, ty, pos, af, g⟩ := bF (x := x) (by simp [Op.operands]) (by rw [hx]; simp [FV.refs])
    cases rw_ with
    | true =>
     simp only [cond_true] at h
     refine Loc.byVal (v := .sl o (some (cJ wn A, B - A)) false) h (fun k hk => by simp [FV.refs] at hk; subst hk; exact hor) fun s2 hA γ κ2 => ?_
     have hso : s2.objs o = _ := (hA.objs o hor).trans ho
     simp only [opK]
     rw [hlo s2 hA, hhi s2 hA, hA.ops x (by simp [Op.operands]), hx]
     simp only [sK, iM, hso, ht, if_true]
     rw [h2]
     rfl
    | false =>
     simp only [cond_false] at h
     obtain ⟨d', rfl, hn, h⟩ := cC h
     refine Loc.byRow h hn (fun k hk => by simpa [FV.refs] using hk) fun s2 hA hn2 γ κ2 => ?_
     have hso : s2.objs o = _ := (hA.objs o hor).trans ho
     simp only [opK]
     rw [hlo s2 hA, hhi s2 hA, hA.ops x (by simp [Op.operands]), hx]
     simp only [sK, iM, hso, ht, if_true]
     rw [h2]
     simp only [cond_false, Go.Proofs.YticibdjilmclgaaDoorZF.newRow, hn2]
 case fieldAddr t x j =>
  split at h
  ·rename_i p i off hx
   obtain ⟨⟨q, ft⟩, hf, h⟩ := aL h
   obtain ⟨k', hk', h⟩ := aL h
   refine Loc.byVal (v := .ptr p i (off + q)) h (fun k hk => bF (x := x) (by simp [Op.operands]) (by rw [hx]; exact hk)) fun s2 hA γ κ2 => ?_
   simp only [opK]
   rw [hA.ops x (by simp [Op.operands]), hx]
   simp only [hf, cD, hk']
  ·cases h
 case field t x j =>
  split at h
  ·rename_i k1 k2 y hx
   obtain ⟨⟨q, ft⟩, hf, h⟩ := aL h
   obtain ⟨k', hk', h⟩ := aL h
   obtain ⟨z, hz, h⟩ := aL h
   have hst : ∀ s2, oS ⟨d, .field t x j, ty, pos, af, g⟩ s s2 → ∀ {γ : Type} (κ2 : FState → Option γ), opK Γ ⟨d, .field t x j, ty, pos, af, g⟩ s2 κ2 = putD Γ d s2 k' z κ2 := fun s2 hA γ κ2 => by
    simp only [opK]
    rw [hA.ops x (by simp [Op.operands]), hx]
    simp only [hf, cD, hk', hz]
   rcases PD h with ⟨v, hv, h1, h2⟩ | ⟨d', obj, v, rfl, hn, hv, h1, h2⟩
   ·exact Loc.byVal h1 (fun k hk => by rw [hv] at hk; simp at hk) fun s2 hA γ κ2 => (hst s2 hA κ2).trans (h2 s2 κ2)
   ·exact Loc.byRow h1 hn hv fun s2 hA hn2 γ κ2 => (hst s2 hA κ2).trans (h2 s2 hn2 κ2)
  ·cases h
 case indexAddr t x ix =>
  obtain ⟨o, wn, nn, k, e, rw_, xs, hx, ho, h⟩ := cI h
  obtain ⟨ht, h⟩ := bI h
  obtain ⟨ik, i, hi, h⟩ := dE h
  obtain ⟨h0, h1, h⟩ := qB h
  have hor : o ∈ eR s ⟨d, .indexAddr t x ix, ty, pos, af, g⟩ := bF (x := x) (by simp [Op.operands]) (by rw [hx]; simp [FV.refs])
  refine Loc.byVal (v := .ptr o (cJ wn i) 0) h (fun k hk => by simp [FV.refs] at hk; subst hk; exact hor) fun s2 hA γ κ2 => ?_
  have hso : s2.objs o = _ := (hA.objs o hor).trans ho
  simp only [opK]
  rw [hA.ops x (by simp [Op.operands]), hA.ops ix (by simp [Op.operands]), hx, hi]
  simp only [iM, hso, ht, if_true, jN, idx, h0, h1]
 case index t x ix =>
  obtain ⟨z, hx, h⟩ := pS h
  obtain ⟨ht, h⟩ := bI h
  obtain ⟨ik, i, hi, h⟩ := dE h
  obtain ⟨h0, h1, h⟩ := qB h
  refine Loc.byVal (v := .dat (.int .u8) (BC z i)) h (fun k hk => by simp [FV.refs] at hk) fun s2 hA γ κ2 => ?_
  simp only [opK]
  rw [hA.ops x (by simp [Op.operands]), hA.ops ix (by simp [Op.operands]), hx, hi]
  simp only [GA, ht, if_true, jN, idx, h0, h1]
 case extract x j =>
  have key : ∀ (f : FV), (∀ k ∈ f.refs, k ∈ (ev s x).refs) → κ (s.put d f) = some r → (∀ s2, oS ⟨d, .extract x j, ty, pos, af, g⟩ s s2 → ∀ {γ : Type} (κ2 : FState → Option γ), opK Γ ⟨d, .extract x j, ty, pos, af, g⟩ s2 κ2 = κ2 (s2.put d f)) →
    ∃ e, κ (Eff.app e s d) = some r ∧ Loc Γ ⟨d, .extract x j, ty, pos, af, g⟩ s e := fun f hf hk hs =>
   Loc.byVal (v := f) hk (fun k hk => bF (x := x) (by simp [Op.operands]) (hf k hk)) hs
  split at h
  ·rename_i y z hx
   refine key y (fun k hk => by rw [hx]; simp [FV.refs, hk]) h (fun s2 hA γ κ2 => ?_)
   simp only [opK]
   rw [hA.ops x (by simp [Op.operands]), hx]
   rfl
  ·rename_i y0 y z hx
   refine key y (fun k hk => by rw [hx]; simp [FV.refs, hk]) h (fun s2 hA γ κ2 => ?_)
   simp only [opK]
   rw [hA.ops x (by simp [Op.operands]), hx]
   rfl
  ·rename_i y0 y1 y z hx
   refine key y (fun k hk => by rw [hx]; simp [FV.refs, hk]) h (fun s2 hA γ κ2 => ?_)
   simp only [opK]
   rw [hA.ops x (by simp [Op.operands]), hx]
   rfl
  ·cases h
 case call c =>
  obtain ⟨callee, args, ats⟩ := c
  obtain ⟨args⟩ := args
  obtain ⟨ats⟩ := ats
  simp only at h
  split at h
  ·split at h
   ·rename_i x t
    have hop : x ∈ (⟨d, .call { callee := .builtin .len, args := #[x], argTypes := #[t] }, ty, pos, af, g⟩ : Oper).op.operands := by simp [Op.operands, Call.operands]
    split at h
    ·rename_i z hx
     obtain ⟨ht, h⟩ := bI h
     refine Loc.byVal (v := .dat (.int .i64) (z.size : Int)) h (fun k hk => by simp [FV.refs] at hk) fun s2 hA γ κ2 => ?_
     simp only [opK]
     rw [hA.ops x hop, hx]
     simp only [ht, if_true]
    ·rename_i hx
     obtain ⟨e, he, h⟩ := aL h
     refine Loc.byVal (v := .dat (.int .i64) (0 : Int)) h (fun k hk => by simp [FV.refs] at hk) fun s2 hA γ κ2 => ?_
     simp only [opK]
     rw [hA.ops x hop, hx]
     simp only [he, cD]
    ·obtain ⟨o, wn, nn, k, e, rw_, xs, hx, ho, h⟩ := cI h
     obtain ⟨e', he, h⟩ := aL h
     refine Loc.byVal (v := .dat (.int .i64) (cZ xs wn)) h (fun k hk => by simp [FV.refs] at hk) fun s2 hA γ κ2 => ?_
     have hso : s2.objs o = _ := (hA.objs o (bF (x := x) hop (by rw [hx]; simp [FV.refs]))).trans ho
     simp only [opK]
     rw [hA.ops x hop, hx]
     simp only [iM, hso, he, cD]
   ·cases h
  ·split at h
   ·rename_i x y t u
    have hopx : x ∈ (⟨d, .call { callee := .builtin .append, args := #[x, y], argTypes := #[t, u] }, ty, pos, af, g⟩ : Oper).op.operands := by simp [Op.operands, Call.operands]
    have hopy : y ∈ (⟨d, .call { callee := .builtin .append, args := #[x, y], argTypes := #[t, u] }, ty, pos, af, g⟩ : Oper).op.operands := by simp [Op.operands, Call.operands]
    unfold rE at h
    obtain ⟨e, hse, h⟩ := aL h
    obtain ⟨k, hke, h⟩ := aL h
    obtain ⟨ys, h, hsrc⟩ := aD5 h
    split at h
    ·rename_i hx
     obtain ⟨hroom, h⟩ := jW h
     obtain ⟨d', rfl, hn, h⟩ := cC h
     refine Loc.byRow h hn (fun k hk => by simpa [FV.refs] using hk) fun s2 hA hn2 γ κ2 => ?_
     simp only [opK]
     rw [hA.ops x hopx, hA.ops y hopy]
     simp only [rE, hse, hke, cD]
     rw [hsrc s2 (fun o ho => hA.objs o (bF hopy ho)), hx]
     simp only [cR, hroom, if_true, Go.Proofs.YticibdjilmclgaaDoorZF.newRow, hn2]
    ·obtain ⟨o, wn, nn, k', e', rw_, xs, hx, ho, h⟩ := cI h
     have hh := bI h
     clear h
     obtain ⟨⟨hr, he⟩, h⟩ := hh
     have hh := bR h
     clear h
     obtain ⟨hk, h⟩ := hh
     subst hr
     subst he
     subst hk
     simp only at h
     obtain ⟨hroom, h⟩ := jW h
     have hor : o ∈ eR s ⟨d, .call { callee := .builtin .append, args := #[x, y], argTypes := #[t, u] }, ty, pos, af, g⟩ := bF (x := x) hopx (by rw [hx]; simp [FV.refs])
     refine ⟨⟨[o], [(o, .row k' e' true (win xs wn ++ ys))], .sl o none false⟩, h, fun k hk => ?_, fun q hq => ?_, fun ht => by simp [gQ] at ht, fun k hk => ?_, fun s2 hA γ κ2 => ?_⟩
     ·simp at hk; subst hk; exact hor
     ·simp at hq; subst hq; exact .inl hor
     ·simp [FV.refs] at hk; subst hk; exact .inr (by simp)
     ·have hso : s2.objs o = _ := (hA.objs o hor).trans ho
      simp only [opK]
      rw [hA.ops x hopx, hA.ops y hopy]
      simp only [rE, hse, hke, cD]
      rw [hsrc s2 (fun o ho => hA.objs o (bF hopy ho)), hx]
      simp only [iM, hso, fB, cR, hroom, if_true, and_self, dite_true]
      rfl
   ·cases h
  ·split at h
   ·rename_i x y t u
    have hopx : x ∈ (⟨d, .call { callee := .builtin .copy, args := #[x, y], argTypes := #[t, u] }, ty, pos, af, g⟩ : Oper).op.operands := by simp [Op.operands, Call.operands]
    have hopy : y ∈ (⟨d, .call { callee := .builtin .copy, args := #[x, y], argTypes := #[t, u] }, ty, pos, af, g⟩ : Oper).op.operands := by simp [Op.operands, Call.operands]
    unfold PF at h
    obtain ⟨e, hse, h⟩ := aL h
    obtain ⟨k, hke, h⟩ := aL h
    obtain ⟨o, wn, nn, k1, e1, rw1, xs, hx, ho, h⟩ := cI h
    have hh := bI h
    clear h
    obtain ⟨⟨hrw, he1⟩, h⟩ := hh
    subst hrw
    subst he1
    have hh := bR h
    clear h
    obtain ⟨hk1, h⟩ := hh
    subst hk1
    obtain ⟨o2, wn2, nn2, k2, e2, rw2, ys, hy, ho2, h⟩ := cI h
    have hh := bR h
    clear h
    obtain ⟨hk2, h⟩ := hh
    subst hk2
    simp only at h
    have hp : o ∈ eR s ⟨d, .call { callee := .builtin .copy, args := #[x, y], argTypes := #[t, u] }, ty, pos, af, g⟩ := bF (x := x) hopx (by rw [hx]; simp [FV.refs])
    have hp2 : o2 ∈ eR s ⟨d, .call { callee := .builtin .copy, args := #[x, y], argTypes := #[t, u] }, ty, pos, af, g⟩ := bF (x := y) hopy (by rw [hy]; simp [FV.refs])
    refine ⟨⟨[], [(o, .row k2 e1 true (aV xs (cJ wn 0) (cZ xs wn) (win ys wn2)))], _⟩, h, fun k hk => by simp at hk, fun q' hq => ?_, fun ht => by simp [gQ] at ht, fun k hk => by simp [FV.refs] at hk, fun s2 hA γ κ2 => ?_⟩
    ·simp at hq; subst hq; exact .inl hp
    ·have hso : s2.objs o = _ := (hA.objs o hp).trans ho
     have hso2 : s2.objs o2 = _ := (hA.objs o2 hp2).trans ho2
     simp only [opK]
     rw [hA.ops x hopx, hA.ops y hopy, hx, hy]
     simp only [PF, hse, hke, cD, iM, hso, hso2, fB, if_true, and_self, dite_true]
     rfl
   ·cases h
  ·split at h
   ·rename_i x y
    obtain ⟨k, v, h, h2⟩ := TB h
    refine Loc.byVal (v := .dat k v) h (fun k hk => by simp [FV.refs] at hk) fun s2 hA γ κ2 => ?_
    simp only [opK]
    rw [hA.ops x (by simp [Op.operands, Call.operands]), hA.ops y (by simp [Op.operands, Call.operands]), h2]
   ·cases h
  ·split at h
   ·rename_i x y
    obtain ⟨k, v, h, h2⟩ := TB h
    refine Loc.byVal (v := .dat k v) h (fun k hk => by simp [FV.refs] at hk) fun s2 hA γ κ2 => ?_
    simp only [opK]
    rw [hA.ops x (by simp [Op.operands, Call.operands]), hA.ops y (by simp [Op.operands, Call.operands]), h2]
   ·cases h
  ·rename_i fo
   split at h
   ·rename_i f hf
    obtain ⟨S, hS, h⟩ := aL h
    have hopf : fo ∈ (⟨d, .call { callee := .value fo, args := ⟨args⟩, argTypes := ⟨ats⟩ }, ty, pos, af, g⟩ : Oper).op.operands := by simp [Op.operands, Call.operands]
    have hopa : ∀ x ∈ args, x ∈ (⟨d, .call { callee := .value fo, args := ⟨args⟩, argTypes := ⟨ats⟩ }, ty, pos, af, g⟩ : Oper).op.operands := fun x hx => by simp [Op.operands, Call.operands, hx]
    rcases d with _ | d
    ·simp [HX] at h
    unfold HX at h
    simp only at h
    obtain ⟨hc, h⟩ := eD h
    obtain ⟨dd, h, hargs⟩ := fR _ _ h
    obtain ⟨x, hx, hput⟩ := hN.nat f S hS _ _ _ h
    obtain ⟨l, v, h, hl, hv, hsame⟩ := hK _ _ _ _ hput
    have hids : ∀ k ∈ cV S.args (args.map (ev s)), k ∈ eR s ⟨some d, .call { callee := .value fo, args := ⟨args⟩, argTypes := ⟨ats⟩ }, ty, pos, af, g⟩ := fun k hk => by
     obtain ⟨v', hv', hk'⟩ := iP _ _ k hk
     obtain ⟨x', hx', rfl⟩ := List.mem_map.1 hv'
     exact bF (hopa x' hx') hk'
    have hrids : ∀ k ∈ cS S.args (args.map (ev s)), k ∈ eR s ⟨some d, .call { callee := .value fo, args := ⟨args⟩, argTypes := ⟨ats⟩ }, ty, pos, af, g⟩ := fun k hk => by
     obtain ⟨v', hv', hk'⟩ := fQ _ _ k hk
     obtain ⟨x', hx', rfl⟩ := List.mem_map.1 hv'
     exact bF (hopa x' hx') hk'
    have hdj : ∀ o ∈ cV S.args (args.map (ev s)), o ∉ cS S.args (args.map (ev s)) := fun o ho hr => by
     simp only [Bool.and_eq_true, List.all_eq_true] at hc
     have := hc.1.2 o ho
     rw [dF hr] at this
     simp at this
    have happ : ∀ s2 : FState, (∀ o ∈ cS S.args (args.map (ev s)), s2.objs o = s.objs o) → Eff.app ⟨cV S.args (args.map (ev s)), l, sC v⟩ (downFor S (args.map (ev s)) s2) (some d) = Eff.app ⟨cV S.args (args.map (ev s)), kE S (args.map (ev s)) s ++ l, sC v⟩ s2 (some d) := fun s2 ho => by
     unfold Eff.app
     simp only
     rw [GQ, sQ, xU ho, FT (fun p hp hm => hdj _ hm (uG p hp))]
    have hnone : ∀ (s2 : FState) k, (downFor S (args.map (ev s)) s2).objs k = none ↔ s2.objs k = none := fun s2 k => ML
    refine ⟨⟨cV S.args (args.map (ev s)), kE S (args.map (ev s)) s ++ l, sC v⟩, by rw [← happ s (fun _ _ => rfl)]; exact h, hids, fun p hp => ?_, fun ht => ?_, fun k hk => .inr (by rw [List.map_append]; exact List.mem_append_right _ (hv k (PT v k hk))), fun s2 hA γ κ2 => ?_⟩
    ·rcases List.mem_append.1 hp with hp | hp
     ·exact .inl (hrids _ (uG p hp))
     ·obtain ⟨h1, i, h2⟩ := hl p hp
      rw [dM] at h1
      split at h1
      ·rename_i hm; exact .inl (hids _ hm)
      ·exact .inr ⟨(hnone s _).1 h1, d, i, rfl, h2⟩
    ·simp only [gQ, hf, hS, Bool.not_eq_false', Bool.and_eq_true, Bool.or_eq_true] at ht
     have he : cV S.args (args.map (ev s)) = [] := by simpa using ht.1
     have hD : kE S (args.map (ev s)) s = [] := by
      unfold kE
      rcases ht.2 with h1 | h1
      ·rw [h1]; rfl
      ·rw [show cS S.args (args.map (ev s)) = [] by simpa using h1]; cases S.rets.all RK.flat <;> rfl
     refine ⟨he, fun p hp => ?_⟩
     rw [hD, List.nil_append] at hp
     obtain ⟨h1, i, h2⟩ := hl p hp
     rw [he] at h1
     exact ⟨(hnone s _).1 h1, d, i, rfl, h2⟩
    ·have hm : args.map (ev s2) = args.map (ev s) := List.map_congr_left fun x hx => hA.ops x (hopa x hx)
     have hobj0 : ∀ v ∈ args.map (ev s), ∀ o ∈ v.refs, s2.objs o = s.objs o := fun v hv o ho => by
      obtain ⟨x', hx', rfl⟩ := List.mem_map.1 hv
      exact hA.objs o (bF (hopa x' hx') ho)
     have hro0 : ∀ o ∈ cS S.args (args.map (ev s)), s2.objs o = s.objs o := fun o ho => hA.objs o (hrids o ho)
     have hobj : ∀ v ∈ args.map (ev s), ∀ o ∈ v.refs, (downFor S (args.map (ev s)) s2).objs o = (downFor S (args.map (ev s)) s).objs o := fun v hv o ho => by
      rw [sQ, sQ, xU hro0]
      exact BL _ (hobj0 v hv o ho)
     have hro : (cS S.args (args.map (ev s))).all (mP (downFor S (args.map (ev s)) s2)) = (cS S.args (args.map (ev s))).all (mP (downFor S (args.map (ev s)) s)) := by
      have : ∀ o ∈ cS S.args (args.map (ev s)), mP (downFor S (args.map (ev s)) s2) o = mP (downFor S (args.map (ev s)) s) o := fun o ho => by
       obtain ⟨v', hv', hk'⟩ := fQ _ _ o ho
       unfold mP
       rw [hobj v' hv' o hk']
      rw [Bool.eq_iff_iff, List.all_eq_true, List.all_eq_true]
      exact ⟨fun h o ho => (this o ho) ▸ h o ho, fun h o ho => (this o ho).symm ▸ h o ho⟩
     rw [← happ s2 hro0]
     simp only [opK]
     rw [hA.ops fo hopf, hf]
     simp only [cD, hS, HX, hm]
     rw [hro, hc]
     simp only [cond_true]
     rw [hargs _ hobj, hN.app f S hS dd x hx, hsame (bU (cV S.args (args.map (ev s))) (downFor S (args.map (ev s)) s2)) (fun i hi => ?_)]
     ·rfl
     ·rw [dM] at hi ⊢
      split at hi
      ·rename_i hm'; rw [if_pos hm']
      ·rename_i hm'; rw [if_neg hm']; exact (hnone s2 _).2 (hA.new _ ⟨d, i, rfl, rfl⟩ ((hnone s _).1 hi))
   ·cases h
  ·cases h
 all_goals cases h
end
end Go.Proofs.YticibdjilmclgaaDoorZF

namespace Go.Proofs.YticibdjilmclgaaDoorZF
open Go
set_option linter.unusedVariables false
set_option linter.unusedSimpArgs false
theorem BV {s : FState} {d : Nat} {v : FV} (h : s.tmps d = v) : s.set d v = s := by
 unfold FState.set
 have : (fun t => bif Nat.beq t d then v else s.tmps t) = s.tmps := by
  funext t
  by_cases e : t = d
  ·subst e; simp [Nat.beq_refl, h]
  ·simp [fN e]
 rw [this]
def nI (all : List Oper) (o : Oper) : Option Tmp := match o.guard with | some (j, _) => (all[j]?).bind (·.dst) | none => none
def bN1 : iC := ⟨false, [], true⟩
def CD (Γ : Ctx) (s : FState) (o : Oper) (wd : Bool) : iC := bif wd then kH Γ s o else bN1
structure GLoc (Γ : Ctx) (all : List Oper) (o : Oper) (s : FState) (wd : Bool) (e : Eff) (inf : iC) : Prop where
 hinf : inf = CD Γ s o wd
 gt : ∀ d, nI all o = some d → (∃ b, s.tmps d = .dat .bool b) ∨ s.tmps d = .tnil
 ids : ∀ k ∈ e.ids, k ∈ inf.refs
 l : ∀ p ∈ e.l, p.1 ∈ inf.refs ∨ (s.objs p.1 = none ∧ named o.dst p.1)
 quiet : inf.touch = false → e.ids = [] ∧ ∀ p ∈ e.l, s.objs p.1 = none ∧ named o.dst p.1
 v : ∀ k ∈ e.v.refs, (k ∈ inf.refs ∧ k ∉ e.ids) ∨ k ∈ e.l.map (·.1)
 same : ∀ s2 : FState, (∀ d, nI all o = some d → s2.tmps d = s.tmps d) → (wd = true → ∀ x ∈ o.op.operands, ev s2 x = ev s x) → (∀ k ∈ inf.refs, s2.objs k = s.objs k) → (∀ k, named o.dst k → s.objs k = none → s2.objs k = none) →
  ∀ {γ : Type} (κ2 : Bool → FState → FState → Option γ), gK Γ all o s2 κ2 = κ2 wd s2 (e.app s2 o.dst)
section
variable {Γ : Ctx} {all : List Oper} {s : FState} {β : Type} {r : β}
theorem yC {o : Oper} {s s2 : FState} (h : ∀ x ∈ o.op.operands, ev s2 x = ev s x) : kH Γ s2 o = kH Γ s o := by
 have hm : o.op.operands.toList.map (ev s2) = o.op.operands.toList.map (ev s) := List.map_congr_left fun x hx => h x (by simpa using hx)
 have ht : gQ Γ s2 o = gQ Γ s o := by
  unfold gQ
  obtain ⟨d, op, ty, pos, af, g⟩ := o
  cases op with
  | call c =>
   obtain ⟨callee, args, ats⟩ := c
   cases callee with
   | value f =>
    have hf : ev s2 f = ev s f := h f (by simp [Op.operands, Call.operands])
    have ha : args.toList.map (ev s2) = args.toList.map (ev s) := List.map_congr_left fun x hx => h x (by simp [Op.operands, Call.operands]; exact .inr (by simpa using hx))
    simp only [hf, ha]
   | builtin b => cases b <;> rfl
   | invoke x m => rfl
  | box t x =>
   have hx : ev s2 x = ev s x := h x (by simp [Op.operands])
   simp only [hx]
  | build t ps =>
   have : (ps.toList.map fun p => ev s2 p.2) = ps.toList.map fun p => ev s p.2 := List.map_congr_left fun p hp => h p.2 (by simp [Op.operands]; exact ⟨p.1, by simpa using hp⟩)
   simp only [this]
  | buildSlice t n ps =>
   have : (ps.toList.map fun p => ev s2 p.2) = ps.toList.map fun p => ev s p.2 := List.map_congr_left fun p hp => h p.2 (by simp [Op.operands]; exact ⟨p.1, by simpa using hp⟩)
   simp only [this]
  | _ => rfl
 simp only [kH, hm, ht]
theorem dE6 (hN : pJ Γ) (o : Oper) {κ : Bool → FState → FState → Option β} (h : gK Γ all o s κ = some r) : ∃ wd e inf, κ wd s (e.app s o.dst) = some r ∧ GLoc Γ all o s wd e inf := by
 unfold gK at h
 split at h
 ·rename_i hg
  obtain ⟨e, h, hL⟩ := S6 hN o h
  refine ⟨true, e, _, h, rfl, fun d hd => by simp [nI, hg] at hd, hL.ids, hL.l, hL.quiet, hL.v, fun s2 _ h2 h3 h4 γ κ2 => ?_⟩
  unfold gK
  rw [hg]
  exact hL.same s2 ⟨h2 rfl, h3, h4⟩ _
 ·rename_i j want hg
  split at h
  ·cases h
  ·rename_i d hd
   have hgt : nI all o = some d := by simp [nI, hg, hd]
   split at h
   ·rename_i b hb
    rw [show (cond b _ _ : Option β) = (fun s => bif b == want then opK Γ o s fun s' => κ true s s' else κ false s (s.put o.dst .tnil)) (s.set d (.dat .bool b)) by cases b <;> rfl] at h
    rw [BV hb] at h
    simp only at h
    have key : ∀ s2 : FState, s2.tmps d = s.tmps d → ∀ {γ : Type} (κ2 : Bool → FState → FState → Option γ), gK Γ all o s2 κ2 = bif b == want then opK Γ o s2 fun s' => κ2 true s2 s' else κ2 false s2 (s2.put o.dst .tnil) := fun s2 h1 γ κ2 => by
     unfold gK
     rw [hg]
     simp only [hd]
     rw [h1, hb]
     simp only
     rw [show (cond b _ _ : Option γ) = (fun s => bif b == want then opK Γ o s fun s' => κ2 true s s' else κ2 false s (s.put o.dst .tnil)) (s2.set d (.dat .bool b)) by cases b <;> rfl]
     rw [BV (h1.trans hb)]
    cases hw : (b == want) with
    | true =>
     rw [hw] at h
     simp only [cond_true] at h
     obtain ⟨e, h, hL⟩ := S6 hN o h
     refine ⟨true, e, _, h, rfl, fun d' hd' => .inl ⟨b, by rw [hgt] at hd'; cases hd'; exact hb⟩, hL.ids, hL.l, hL.quiet, hL.v, fun s2 h1 h2 h3 h4 γ κ2 => ?_⟩
     rw [key s2 (h1 d hgt), hw]
     exact hL.same s2 ⟨h2 rfl, h3, h4⟩ _
    | false =>
     rw [hw] at h
     simp only [cond_false] at h
     refine ⟨false, ⟨[], [], .tnil⟩, _, h, rfl, fun d' hd' => .inl ⟨b, by rw [hgt] at hd'; cases hd'; exact hb⟩, fun k hk => by simp at hk, fun p hp => by simp at hp, fun _ => ⟨rfl, fun p hp => by simp at hp⟩, fun k hk => by simp [FV.refs] at hk, fun s2 h1 h2 h3 h4 γ κ2 => ?_⟩
     rw [key s2 (h1 d hgt), hw]
     rfl
   ·rename_i hb
    refine ⟨false, ⟨[], [], .tnil⟩, _, h, rfl, fun d' hd' => .inr (by rw [hgt] at hd'; cases hd'; exact hb), fun k hk => by simp at hk, fun p hp => by simp at hp, fun _ => ⟨rfl, fun p hp => by simp at hp⟩, fun k hk => by simp [FV.refs] at hk, fun s2 h1 h2 h3 h4 γ κ2 => ?_⟩
    unfold gK
    rw [hg]
    simp only [hd]
    rw [h1 d hgt, hb]
    rfl
   ·cases h
def FV.killL : List Nat → FV → FV
 | [], f => f
 | o :: l, f => FV.killL l (f.kill o)
theorem nD : ∀ (l : List Nat) (s : FState) (t : Nat), (bU l s).tmps t = FV.killL l (s.tmps t)
 | [], s, t => rfl
 | o :: l, s, t => by rw [bU, nD l]; rfl
theorem sD {o : Nat} : ∀ {f : FV}, o ∉ f.refs → f.kill o = f
 | .sl p w nn, h => by simp [FV.refs] at h; simp [FV.kill, fN (fun e => h e.symm)]
 | .ptr p i off, h => by simp [FV.refs] at h; simp [FV.kill, fN (fun e => h e.symm)]
 | .mp p, h => by simp [FV.refs] at h; simp [FV.kill, fN (fun e => h e.symm)]
 | .it p, h => by simp [FV.refs] at h; simp [FV.kill, fN (fun e => h e.symm)]
 | .tcons a b, h => by
  simp only [FV.refs, List.mem_append, not_or] at h
  simp [FV.kill, sD h.1, sD h.2]
 | .dead, _ | .dat _ _, _ | .nsl, _ | .nilp, _ | .nilif, _ | .tnil, _ | .fn _, _ | .glob _, _ => rfl
theorem gX : ∀ {l : List Nat} {f : FV}, (∀ o ∈ l, o ∉ f.refs) → FV.killL l f = f
 | [], f, _ => rfl
 | o :: l, f, h => by rw [FV.killL, sD (h o (by simp)), gX (fun o ho => h o (by simp [ho]))]
theorem rC {o : Nat} : ∀ {f : FV}, (f.kill o).live = true → f.kill o = f
 | .sl p w nn, h => by
  by_cases e : p = o
  ·subst e; simp [FV.kill, Nat.beq_refl, FV.live] at h
  ·simp [FV.kill, fN e]
 | .ptr p i off, h => by
  by_cases e : p = o
  ·subst e; simp [FV.kill, Nat.beq_refl, FV.live] at h
  ·simp [FV.kill, fN e]
 | .mp p, h => by
  by_cases e : p = o
  ·subst e; simp [FV.kill, Nat.beq_refl, FV.live] at h
  ·simp [FV.kill, fN e]
 | .it p, h => by
  by_cases e : p = o
  ·subst e; simp [FV.kill, Nat.beq_refl, FV.live] at h
  ·simp [FV.kill, fN e]
 | .tcons a b, h => by
  simp only [FV.kill, FV.live, Bool.and_eq_true] at h
  simp [FV.kill, rC h.1, rC h.2]
 | .dead, _ | .dat _ _, _ | .nsl, _ | .nilp, _ | .nilif, _ | .tnil, _ | .fn _, _ | .glob _, _ => rfl
theorem LQ {o : Nat} : ∀ {f : FV}, (f.kill o).live = true → f.live = true := fun {f} h => by rw [← rC h]; exact h
theorem rH : ∀ {l : List Nat} {f : FV}, (FV.killL l f).live = true → f.live = true
 | [], f, h => h
 | o :: l, f, h => LQ (rH (l := l) h)
theorem DR : ∀ {l : List Nat} {f : FV}, (FV.killL l f).live = true → FV.killL l f = f
 | [], f, _ => rfl
 | o :: l, f, h => by
  rw [FV.killL] at h ⊢
  rw [DR h]
  exact rC (rH h)
theorem wD (o p : Nat) : ∀ f : FV, (f.kill o).kill p = (f.kill p).kill o
 | .sl q w nn => by cases h1 : Nat.beq q o <;> cases h2 : Nat.beq q p <;> simp [FV.kill, h1, h2]
 | .ptr q i off => by cases h1 : Nat.beq q o <;> cases h2 : Nat.beq q p <;> simp [FV.kill, h1, h2]
 | .mp q => by cases h1 : Nat.beq q o <;> cases h2 : Nat.beq q p <;> simp [FV.kill, h1, h2]
 | .it q => by cases h1 : Nat.beq q o <;> cases h2 : Nat.beq q p <;> simp [FV.kill, h1, h2]
 | .tcons a b => by simp [FV.kill, wD o p a, wD o p b]
 | .dead | .dat _ _ | .nsl | .nilp | .nilif | .tnil | .fn _ | .glob _ => rfl
theorem EC (o : Nat) : ∀ (l : List Nat) (f : FV), FV.killL l (f.kill o) = (FV.killL l f).kill o
 | [], f => rfl
 | p :: l, f => by rw [FV.killL, FV.killL, wD, EC o l]
theorem DF : ∀ (l m : List Nat) (f : FV), FV.killL l (FV.killL m f) = FV.killL m (FV.killL l f)
 | [], m, f => rfl
 | o :: l, m, f => by rw [FV.killL, FV.killL, ← EC o m f, DF l m]
theorem bQ5 {o : Nat} {f : FV} {k : K} {x : k.den} (h : f.kill o = .dat k x) : f = .dat k x := by
 cases f <;> simp only [FV.kill] at h <;> first
  | exact h
  | (rename_i q _ _; by_cases e : q = o <;> simp [e, Nat.beq_refl, fN] at h; done)
  | (rename_i q; by_cases e : q = o <;> simp [e, Nat.beq_refl, fN] at h; done)
  | (exfalso; simp at h; done)
theorem HS : ∀ {l : List Nat} {f : FV} {k : K} {x : k.den}, FV.killL l f = .dat k x → f = .dat k x
 | [], f, k, x, h => h
 | o :: l, f, k, x, h => bQ5 (HS (l := l) h)
theorem Z8 {o : Nat} {f : FV} (h : f.kill o = .tnil) : f = .tnil := by
 cases f <;> simp only [FV.kill] at h <;> first
  | exact h
  | (rename_i q _ _; by_cases e : q = o <;> simp [e, Nat.beq_refl, fN] at h; done)
  | (rename_i q; by_cases e : q = o <;> simp [e, Nat.beq_refl, fN] at h; done)
  | (exfalso; simp at h; done)
  | rfl
theorem DJ : ∀ {l : List Nat} {f : FV}, FV.killL l f = .tnil → f = .tnil
 | [], f, h => h
 | o :: l, f, h => Z8 (DJ (l := l) h)
theorem mG {o k : Nat} : ∀ {f : FV}, k ∈ (f.kill o).refs → k ∈ f.refs ∧ k ≠ o
 | .sl p w nn, h => by
  by_cases e : p = o
  ·subst e; simp [FV.kill, Nat.beq_refl, FV.refs] at h
  ·simp [FV.kill, fN e, FV.refs] at h ⊢; exact ⟨h, h ▸ e⟩
 | .ptr p i off, h => by
  by_cases e : p = o
  ·subst e; simp [FV.kill, Nat.beq_refl, FV.refs] at h
  ·simp [FV.kill, fN e, FV.refs] at h ⊢; exact ⟨h, h ▸ e⟩
 | .mp p, h => by
  by_cases e : p = o
  ·subst e; simp [FV.kill, Nat.beq_refl, FV.refs] at h
  ·simp [FV.kill, fN e, FV.refs] at h ⊢; exact ⟨h, h ▸ e⟩
 | .it p, h => by
  by_cases e : p = o
  ·subst e; simp [FV.kill, Nat.beq_refl, FV.refs] at h
  ·simp [FV.kill, fN e, FV.refs] at h ⊢; exact ⟨h, h ▸ e⟩
 | .tcons a b, h => by
  simp only [FV.kill, FV.refs, List.mem_append] at h ⊢
  rcases h with h | h
  ·exact ⟨.inl (mG h).1, (mG h).2⟩
  ·exact ⟨.inr (mG h).1, (mG h).2⟩
 | .dead, h | .dat _ _, h | .nsl, h | .nilp, h | .nilif, h | .tnil, h | .fn _, h | .glob _, h => by simp [FV.kill, FV.refs] at h
theorem BP {k : Nat} : ∀ {l : List Nat} {f : FV}, k ∈ (FV.killL l f).refs → k ∈ f.refs ∧ k ∉ l
 | [], f, h => ⟨h, by simp⟩
 | o :: l, f, h => by
  obtain ⟨h1, h2⟩ := BP (l := l) h
  obtain ⟨h3, h4⟩ := mG h1
  exact ⟨h3, by simp [h4, h2]⟩
def iH : List (Nat × FObj) → Nat → Option FObj
 | [], _ => none
 | (q, o) :: l, k => match iH l k with | some x => some x | none => if k = q then some o else none
theorem QA : ∀ (l : List (Nat × FObj)) (s : FState) (k : Nat), (fK l s).objs k = match iH l k with | some x => some x | none => s.objs k
 | [], s, k => rfl
 | (q, o) :: l, s, k => by
  rw [fK, QA l, iH]
  cases iH l k with
  | some x => rfl
  | none =>
   by_cases e : k = q
   ·subst e; simp [aT]
   ·simp [aZ _ _ _ e, e]
theorem hQ {l : List (Nat × FObj)} {k : Nat} (h : k ∉ l.map (·.1)) : iH l k = none := by
 induction l with
 | nil => rfl
 | cons p l ih =>
  obtain ⟨q, o⟩ := p
  simp only [List.map_cons, List.mem_cons, not_or] at h
  simp [iH, ih h.2, h.1]
theorem oF {l : List (Nat × FObj)} {k : Nat} (h : k ∈ l.map (·.1)) : (iH l k).isSome = true := by
 induction l with
 | nil => simp at h
 | cons p l ih =>
  obtain ⟨q, o⟩ := p
  simp only [List.map_cons, List.mem_cons] at h
  simp only [iH]
  cases hl : iH l k with
  | some x => rfl
  | none =>
   rcases h with rfl | h
   ·simp
   ·have := ih h; rw [hl] at this; cases this
theorem sL : ∀ (l : List (Nat × FObj)) (s : FState), (fK l s).tmps = s.tmps
 | [], s => rfl
 | (q, o) :: l, s => by rw [fK, sL l]; rfl
theorem gG (e : Eff) (s : FState) (d : Option Tmp) (t : Nat) : (e.app s d).tmps t = if d = some t then e.v else FV.killL e.ids (s.tmps t) := by
 cases d with
 | none => simp [Eff.app, FState.put, sL, nD]
 | some d =>
  simp only [Eff.app, FState.put, FState.set, sL, nD]
  by_cases h : t = d
  ·subst h; simp [Nat.beq_refl]
  ·rw [fN h, if_neg (fun e => h (by cases e; rfl))]; rfl
theorem iD (e : Eff) (s : FState) (d : Option Tmp) (k : Nat) : (e.app s d).objs k = match iH e.l k with | some x => some x | none => if k ∈ e.ids then none else s.objs k := by
 have : (e.app s d).objs = (fK e.l (bU e.ids s)).objs := by cases d <;> rfl
 rw [this, QA]
 cases iH e.l k <;> simp [dM]
def WF (s : FState) : Prop := ∀ t, ∀ k ∈ (s.tmps t).refs, (s.objs k).isSome = true
theorem MM (v : Value) : (JG v).refs = [] := by
 cases v with
 | slice a l c =>
  cases a with
  | some a => rfl
  | none => cases l <;> cases c <;> rfl
 | pointer a => cases a <;> rfl
 | tuple l =>
  obtain ⟨l⟩ := l
  cases l <;> rfl
 | _ => rfl
theorem WF.ev {s : FState} (h : WF s) (x : Operand) : ∀ k ∈ (ev s x).refs, (s.objs k).isSome = true := by
 cases x with
 | tmp t => exact h t
 | const v => intro k hk; simp [Go.Proofs.YticibdjilmclgaaDoorZF.ev, MM] at hk
 | global g => intro k hk; simp [Go.Proofs.YticibdjilmclgaaDoorZF.ev, FV.refs] at hk
 | func f => intro k hk; simp [Go.Proofs.YticibdjilmclgaaDoorZF.ev, FV.refs] at hk
theorem WF.info {s : FState} (h : WF s) (o : Oper) (wd : Bool) : ∀ k ∈ (CD Γ s o wd).refs, (s.objs k).isSome = true := by
 intro k hk
 cases wd with
 | false => simp [CD, bN1] at hk
 | true =>
  simp only [CD, cond_true, kH, List.mem_flatMap, List.mem_map] at hk
  obtain ⟨_, ⟨x, _, rfl⟩, hk⟩ := hk
  exact h.ev x k hk
theorem GLoc.wf {o : Oper} {wd : Bool} {e : Eff} {inf : iC} (h : GLoc Γ all o s wd e inf) (hw : WF s) : WF (e.app s o.dst) := by
 have hin : ∀ k ∈ inf.refs, (s.objs k).isSome = true := by rw [h.hinf]; exact hw.info o wd
 intro t k hk
 rw [gG] at hk
 have key : (k ∉ e.ids ∧ (s.objs k).isSome = true) ∨ k ∈ e.l.map (·.1) := by
  split at hk
  ·rcases h.v k hk with ⟨h1, h2⟩ | h1
   ·exact .inl ⟨h2, hin k h1⟩
   ·exact .inr h1
  ·obtain ⟨h1, h2⟩ := BP hk
   exact .inl ⟨h2, hw t k h1⟩
 rw [iD]
 rcases key with ⟨h1, h2⟩ | h1
 ·cases iH e.l k <;> simp [h1, h2]
 ·have := oF h1
  cases hl : iH e.l k with
  | some x => rfl
  | none => rw [hl] at this; cases this
theorem DN {ops : Array Oper} {o : Oper} {t : Tmp} (h : Operand.tmp t ∈ o.op.operands) : t ∈ o.looksAt ops := by
 unfold Oper.looksAt
 refine List.mem_append.2 (.inl (List.mem_filterMap.2 ⟨.tmp t, by simpa using h, rfl⟩))
theorem rR {o : Oper} {t : Tmp} (h : nI all o = some t) : t ∈ o.looksAt all.toArray := by
 unfold Oper.looksAt
 refine List.mem_append.2 (.inr ?_)
 unfold nI at h
 split at h
 ·rename_i j want hg
  rw [hg]
  simp [h]
 ·cases h
theorem UE {l m : List Nat} (h : bP4 l m = true) : ∀ k, k ∈ l → k ∉ m := fun k hk hm => by
 unfold bP4 at h
 have := List.all_eq_true.1 h k hk
 rw [dF hm] at this
 simp at this
theorem TJ {d : Option Tmp} {l : List Nat} (h : ID d l = true) (hd : ∀ x, d = some x → x < 1000000) {k : Nat} (hk : named d k) : k ∉ l := fun hm => by
 obtain ⟨d', j, rfl, rfl⟩ := hk
 unfold ID at h
 have h1 := List.all_eq_true.1 h _ hm
 have h2 : (d' : Nat) < 1000000 := hd d' rfl
 have : (d' + j * 1000000) % 1000000 = d' := by rw [Nat.add_mul_mod_self_right]; exact Nat.mod_eq_of_lt h2
 rw [this, Nat.beq_refl] at h1
 simp at h1
theorem RS {d d' : Option Tmp} (h : ∀ x, d = some x → d' ≠ some x) (hd : ∀ x, d = some x → x < 1000000) (hd' : ∀ x, d' = some x → x < 1000000) {k : Nat} (hk : named d k) : ¬ named d' k := by
 rintro ⟨b, j, rfl, e⟩
 obtain ⟨a, i, rfl, rfl⟩ := hk
 have h1 : (a : Nat) < 1000000 := hd a rfl
 have h2 : (b : Nat) < 1000000 := hd' b rfl
 have e1 : (a + i * 1000000) % 1000000 = a := by rw [Nat.add_mul_mod_self_right]; exact Nat.mod_eq_of_lt h1
 have e2 : (b + j * 1000000) % 1000000 = b := by rw [Nat.add_mul_mod_self_right]; exact Nat.mod_eq_of_lt h2
 have : a = b := by rw [← e1, ← e2, e]
 subst this
 exact h a rfl rfl
structure dP2 (oi oj : Oper) (all : List Oper) (x y : iC) : Prop where
 a1 : ∀ d, oi.dst = some d → d ∉ oj.looksAt all.toArray
 a2 : ∀ d, oi.dst = some d → oj.dst ≠ some d
 a3 : ∀ d, oj.dst = some d → d ∉ oi.looksAt all.toArray
 d1 : ∀ d, oi.dst = some d → d < 1000000
 d2 : ∀ d, oj.dst = some d → d < 1000000
 n1 : ID oi.dst y.refs = true
 n2 : ID oj.dst x.refs = true
 p : (x.touch = false ∧ y.touch = false) ∨ ((∀ k, k ∈ x.refs → k ∉ y.refs) ∧ x.live = true ∧ y.live = true)
theorem VT {e : Eff} {d : Option Tmp} {x : Operand} (hx : ∀ t, x = .tmp t → d ≠ some t) : ev (e.app s d) x = match x with | .tmp t => FV.killL e.ids (s.tmps t) | x => ev s x := by
 cases x with
 | tmp t => simp only [Go.Proofs.YticibdjilmclgaaDoorZF.ev]; rw [gG, if_neg (hx t rfl)]
 | _ => rfl
theorem LT {o : Oper} {x : Operand} (hx : x ∈ o.op.operands) (h : (kH Γ s o).live = true) : (ev s x).live = true := by
 simp only [kH, List.all_eq_true, List.mem_map] at h
 exact h _ ⟨x, by simpa using hx, rfl⟩
theorem NM {o : Oper} {x : Operand} (hx : x ∈ o.op.operands) {k : Nat} (hk : k ∈ (ev s x).refs) : k ∈ (kH Γ s o).refs := by
 simp only [kH, List.mem_flatMap, List.mem_map]
 exact ⟨ev s x, ⟨x, by simpa using hx, rfl⟩, hk⟩
theorem dR7 {oj oi : Oper} {wj wi : Bool} {ej ei : Eff} {x y : iC} (hw : WF s) (hj : GLoc Γ all oj s wj ej x) (hi : GLoc Γ all oi (ej.app s oj.dst) wi ei y) (hf : dP2 oj oi all x y) :
  GLoc Γ all oi s wi ei y ∧ GLoc Γ all oj (ei.app s oi.dst) wj ej x ∧ ej.app (ei.app s oi.dst) oj.dst = ei.app (ej.app s oj.dst) oi.dst := by
 have hxl : ∀ k ∈ x.refs, (s.objs k).isSome = true := by rw [hj.hinf]; exact hw.info oj wj
 have hiops : wi = true → ∀ z ∈ oi.op.operands, ev s z = ev (ej.app s oj.dst) z := fun hwi z hz => by
  have hne : ∀ t, z = .tmp t → oj.dst ≠ some t := fun t e hd => hf.a1 t hd (DN (e ▸ hz))
  rw [VT hne]
  cases z with
  | tmp t =>
   simp only [Go.Proofs.YticibdjilmclgaaDoorZF.ev]
   rcases hf.p with ⟨h1, _⟩ | ⟨_, _, h3⟩
   ·rw [(hj.quiet h1).1]; rfl
   ·rw [hi.hinf, CD, hwi] at h3
    have h4 := LT hz h3
    rw [VT hne] at h4
    exact (DR h4).symm
  | _ => rfl
 have higt : ∀ d, nI all oi = some d → s.tmps d = (ej.app s oj.dst).tmps d := fun d hd => by
  have hne : oj.dst ≠ some d := fun e => hf.a1 d e (rR hd)
  rcases hi.gt d hd with ⟨b, hb⟩ | hb
  ·rw [gG, if_neg hne] at hb ⊢
   rw [hb]; exact HS hb
  ·rw [gG, if_neg hne] at hb ⊢
   rw [hb]; exact DJ hb
 have hyi : y = CD Γ s oi wi := by
  rw [hi.hinf]
  cases wi with
  | false => rfl
  | true => exact (yC (hiops rfl)).symm
 have hyl : ∀ k ∈ y.refs, (s.objs k).isSome = true := by rw [hyi]; exact hw.info oi wi
 have hjk : ∀ k ∈ y.refs, k ∉ ej.ids ∧ k ∉ ej.l.map (·.1) := fun k hk => by
  refine ⟨fun h1 => ?_, fun h1 => ?_⟩
  ·rcases hf.p with ⟨h2, _⟩ | ⟨h2, _, _⟩
   ·rw [(hj.quiet h2).1] at h1; simp at h1
   ·exact h2 k (hj.ids k h1) hk
  ·obtain ⟨p, hp, rfl⟩ := List.mem_map.1 h1
   have hl := hyl _ hk
   rcases hf.p with ⟨h2, _⟩ | ⟨h2, _, _⟩
   ·rw [((hj.quiet h2).2 p hp).1] at hl; cases hl
   ·rcases hj.l p hp with h3 | ⟨h3, _⟩
    ·exact h2 _ h3 hk
    ·rw [h3] at hl; cases hl
 have hiobjs : ∀ k ∈ y.refs, s.objs k = (ej.app s oj.dst).objs k := fun k hk => by
  rw [iD, hQ (hjk k hk).2]; simp [(hjk k hk).1]
 have hinew : ∀ k, named oi.dst k → (ej.app s oj.dst).objs k = none → s.objs k = none := fun k hn hk => by
  rw [iD] at hk
  cases hl : iH ej.l k with
  | some z => rw [hl] at hk; cases hk
  | none =>
   rw [hl] at hk
   simp only at hk
   split at hk
   ·rename_i hm; exact absurd (hj.ids k hm) (TJ hf.n2 hf.d2 hn)
   ·exact hk
 have hi' : GLoc Γ all oi s wi ei y := by
  refine ⟨hyi, fun d hd => by rw [higt d hd]; exact hi.gt d hd, hi.ids, fun p hp => (hi.l p hp).imp id (fun ⟨h1, h2⟩ => ⟨hinew _ h2 h1, h2⟩), fun hq => ⟨(hi.quiet hq).1, fun p hp => ⟨hinew _ ((hi.quiet hq).2 p hp).2 ((hi.quiet hq).2 p hp).1, ((hi.quiet hq).2 p hp).2⟩⟩, hi.v, fun s2 h1 h2 h3 h4 γ κ2 => ?_⟩
  exact hi.same s2 (fun d hd => (h1 d hd).trans (higt d hd)) (fun hwi z hz => (h2 hwi z hz).trans (hiops hwi z hz)) (fun k hk => (h3 k hk).trans (hiobjs k hk)) (fun k hn hk => h4 k hn (hinew k hn hk)) κ2
 have hik : ∀ k ∈ x.refs, k ∉ ei.ids ∧ k ∉ ei.l.map (·.1) := fun k hk => by
  refine ⟨fun h1 => ?_, fun h1 => ?_⟩
  ·rcases hf.p with ⟨_, h2⟩ | ⟨h2, _, _⟩
   ·rw [(hi.quiet h2).1] at h1; simp at h1
   ·exact h2 k hk (hi.ids k h1)
  ·obtain ⟨p, hp, rfl⟩ := List.mem_map.1 h1
   have hl := hxl _ hk
   rcases hf.p with ⟨_, h2⟩ | ⟨h2, _, _⟩
   ·rw [((hi'.quiet h2).2 p hp).1] at hl; cases hl
   ·rcases hi'.l p hp with h3 | ⟨h3, _⟩
    ·exact h2 _ hk h3
    ·rw [h3] at hl; cases hl
 have hjops : wj = true → ∀ z ∈ oj.op.operands, ev (ei.app s oi.dst) z = ev s z := fun hwj z hz => by
  have hne : ∀ t, z = .tmp t → oi.dst ≠ some t := fun t e hd => hf.a3 t hd (DN (e ▸ hz))
  rw [VT hne]
  cases z with
  | tmp t =>
   simp only [Go.Proofs.YticibdjilmclgaaDoorZF.ev]
   refine gX fun o ho hr => ?_
   have : o ∈ x.refs := by rw [hj.hinf, CD, hwj]; exact NM hz hr
   exact (hik o this).1 ho
  | _ => rfl
 have hjgt : ∀ d, nI all oj = some d → (ei.app s oi.dst).tmps d = s.tmps d := fun d hd => by
  have hne : oi.dst ≠ some d := fun e => hf.a3 d e (rR hd)
  rcases hj.gt d hd with ⟨b, hb⟩ | hb
  ·rw [gG, if_neg hne, hb]
   exact gX (fun o _ => by simp [FV.refs])
  ·rw [gG, if_neg hne, hb]
   exact gX (fun o _ => by simp [FV.refs])
 have hjobjs : ∀ k ∈ x.refs, (ei.app s oi.dst).objs k = s.objs k := fun k hk => by
  rw [iD, hQ (hik k hk).2]; simp [(hik k hk).1]
 have hlnone : ∀ (k : Nat), s.objs k = none → k ∉ ei.ids ∧ k ∉ ej.ids := fun k hk =>
  ⟨fun h => (by have := hyl k (hi.ids k h); rw [hk] at this; cases this), fun h => (by have := hxl k (hj.ids k h); rw [hk] at this; cases this)⟩
 have hjnew : ∀ k, named oj.dst k → s.objs k = none → (ei.app s oi.dst).objs k = none := fun k hn hk => by
  have hnl : k ∉ ei.l.map (·.1) := fun h1 => by
   obtain ⟨p, hp, rfl⟩ := List.mem_map.1 h1
   rcases hi'.l p hp with h3 | ⟨_, h3⟩
   ·have := hyl _ h3; rw [hk] at this; cases this
   ·exact RS hf.a2 hf.d1 hf.d2 hn h3
  rw [iD, hQ hnl]
  simp [(hlnone k hk).1, hk]
 have hj' : GLoc Γ all oj (ei.app s oi.dst) wj ej x := by
  refine ⟨?_, fun d hd => by rw [hjgt d hd]; exact hj.gt d hd, hj.ids, fun p hp => (hj.l p hp).imp id (fun ⟨h1, h2⟩ => ⟨hjnew _ h2 h1, h2⟩), fun hq => ⟨(hj.quiet hq).1, fun p hp => ⟨hjnew _ ((hj.quiet hq).2 p hp).2 ((hj.quiet hq).2 p hp).1, ((hj.quiet hq).2 p hp).2⟩⟩, hj.v, fun s2 h1 h2 h3 h4 γ κ2 => ?_⟩
  ·rw [hj.hinf]
   cases wj with
   | false => rfl
   | true => exact (yC (hjops rfl)).symm
  ·exact hj.same s2 (fun d hd => (h1 d hd).trans (hjgt d hd)) (fun hwj z hz => (h2 hwj z hz).trans (hjops hwj z hz)) (fun k hk => (h3 k hk).trans (hjobjs k hk)) (fun k hn hk => h4 k hn (hjnew k hn hk)) κ2
 refine ⟨hi', hj', ?_⟩
 have hkey : ∀ k, k ∈ ej.l.map (·.1) → k ∉ ei.l.map (·.1) ∧ k ∉ ei.ids := fun k hk => by
  obtain ⟨p, hp, rfl⟩ := List.mem_map.1 hk
  rcases hj.l p hp with h1 | ⟨h1, h2⟩
  ·exact ⟨(hik _ h1).2, (hik _ h1).1⟩
  ·refine ⟨fun h3 => ?_, (hlnone _ h1).1⟩
   obtain ⟨q, hq, e⟩ := List.mem_map.1 h3
   rcases hi'.l q hq with h4 | ⟨_, h4⟩
   ·have := hyl _ h4; rw [e, h1] at this; cases this
   ·rw [e] at h4; exact RS hf.a2 hf.d1 hf.d2 h2 h4
 have hkey' : ∀ k, k ∈ ei.l.map (·.1) → k ∉ ej.ids := fun k hk h2 => (hik k (hj.ids k h2)).2 hk
 have hvj : ∀ o ∈ ei.ids, o ∉ ej.v.refs := fun o ho hr => by
  rcases hj.v o hr with ⟨h1, _⟩ | h1
  ·exact (hik o h1).1 ho
  ·exact (hkey o h1).2 ho
 have hvi : ∀ o ∈ ej.ids, o ∉ ei.v.refs := fun o ho hr => by
  rcases hi.v o hr with ⟨h1, _⟩ | h1
  ·exact (hjk o h1).1 ho
  ·exact hkey' o h1 ho
 have ht : (ej.app (ei.app s oi.dst) oj.dst).tmps = (ei.app (ej.app s oj.dst) oi.dst).tmps := by
  funext t
  rw [gG, gG, gG, gG]
  by_cases h1 : oj.dst = some t
  ·rw [if_pos h1, if_neg (hf.a2 t h1), if_pos h1]
   exact (gX hvj).symm
  ·rw [if_neg h1]
   by_cases h2 : oi.dst = some t
   ·rw [if_pos h2, if_pos h2]; exact gX hvi
   ·rw [if_neg h2, if_neg h2, if_neg h1]; exact DF _ _ _
 have ho : (ej.app (ei.app s oi.dst) oj.dst).objs = (ei.app (ej.app s oj.dst) oi.dst).objs := by
  funext k
  rw [iD, iD, iD, iD]
  by_cases h1 : k ∈ ej.l.map (·.1)
  ·rw [hQ (hkey k h1).1]
   obtain ⟨z, hz⟩ := Option.isSome_iff_exists.1 (oF h1)
   rw [hz]
   simp [(hkey k h1).2]
  ·rw [hQ h1]
   by_cases h2 : k ∈ ei.l.map (·.1)
   ·obtain ⟨z, hz⟩ := Option.isSome_iff_exists.1 (oF h2)
    rw [hz]
    simp [hkey' k h2]
   ·rw [hQ h2]
    by_cases h3 : k ∈ ei.ids <;> by_cases h4 : k ∈ ej.ids <;> simp [h3, h4]
 cases hA : ej.app (ei.app s oi.dst) oj.dst
 cases hB : ei.app (ej.app s oj.dst) oi.dst
 rw [hA, hB] at ht ho
 simp only at ht ho
 rw [ht, ho]
inductive RunL (Γ : Ctx) (all : List Oper) : List (Nat × iC) → FState → FState → Prop
 | nil (s : FState) : RunL Γ all [] s s
 | cons {i : Nat} {o : Oper} {inf : iC} {wd : Bool} {e : Eff} {L : List (Nat × iC)} {s s' : FState} (ho : all[i]? = some o) (hg : GLoc Γ all o s wd e inf) (hr : RunL Γ all L (e.app s o.dst) s') : RunL Γ all ((i, inf) :: L) s s'
def XN (all : List Oper) (p q : Nat × iC) : Prop := ∀ a b, all[p.1]? = some a → all[q.1]? = some b → dP2 a b all p.2 q.2
theorem RunL.move {i : Nat} {inf : iC} {R : List (Nat × iC)} : ∀ {J : List (Nat × iC)} {s s' : FState}, WF s → RunL Γ all (J ++ (i, inf) :: R) s s' → (∀ p ∈ J, XN all p (i, inf)) → RunL Γ all ((i, inf) :: (J ++ R)) s s'
 | [], s, s', _, h, _ => h
 | (j, infj) :: J, s, s', hw, h, hf => by
  cases h with
  | cons ho hg hr =>
   have h2 := RunL.move (hg.wf hw) hr (fun p hp => hf p (by simp [hp]))
   cases h2 with
   | cons ho2 hg2 hr2 =>
    obtain ⟨g1, g2, g3⟩ := dR7 hw hg hg2 (hf (j, infj) (by simp) _ _ ho ho2)
    refine .cons ho2 g1 (.cons ho g2 ?_)
    rw [g3]; exact hr2
end
end Go.Proofs.YticibdjilmclgaaDoorZF

namespace Go.Proofs.YticibdjilmclgaaDoorZF
open Go
set_option linter.unusedVariables false
set_option linter.unusedSimpArgs false
theorem CtxOk.natOk {P : Program} {Γ : Ctx} (h : CtxOk P Γ) (happ : ∀ f S, Γ.calls f = some S → ∀ (d : DenA S.args) (x : DenR S.rets), S.app d some = some x → ∀ {γ : Type} (κ : DenR S.rets → Option γ), S.app d κ = κ x) : pJ Γ :=
 ⟨fun f S hS => (h.calls f S hS).nat, happ⟩
section
variable {E : Env} {pl : Nat → Pl} {Γ : Ctx} {w w' : World} {a : Act} {s : FState} {β : Type} {r : β} {κ : FState → Option β} {Q : Exit → Act → World → Prop}
theorem RelP.wf (h : RelP E pl w a s) : WF s := by
 intro t k hk
 have key1 : ∀ {f : FV} {v : Value}, VRep1 w (Av E s.objs pl) s.objs pl f v → k ∈ f.refs → (s.objs k).isSome = true := fun {f v} hv hk => by
  cases f <;> simp only [FV.refs, List.mem_singleton, List.not_mem_nil] at hk <;> simp only [VRep1] at hv
  case sl => subst hk; obtain ⟨_, _, _, _, ho, _⟩ := hv; rw [ho]; rfl
  case ptr => subst hk; obtain ⟨_, _, _, _, ho, _⟩ := hv; rw [ho]; rfl
  case it => subst hk; obtain ⟨_, _, ho, _⟩ := hv; rw [ho]; rfl
 have keyL : ∀ {f : FV} {l : List Value}, VRepL w (Av E s.objs pl) s.objs pl f l → k ∈ f.refs → (s.objs k).isSome = true := by
  intro f
  induction f with
  | tcons a b _ ih =>
   intro l hl hk
   obtain ⟨x, l', rfl, h1, h2⟩ := hl
   simp only [FV.refs, List.mem_append] at hk
   rcases hk with hk | hk
   ·exact key1 h1 hk
   ·exact ih h2 hk
  | _ => intro l hl hk; first | exact hl.elim | simp [FV.refs] at hk
 rcases h.vals t with hv | ⟨l, _, hl⟩
 ·exact key1 hv hk
 ·exact keyL hl hk
theorem RunL.inv {all : List Oper} {i : Nat} {inf : iC} {L : List (Nat × iC)} {s' : FState} (h : RunL Γ all ((i, inf) :: L) s s') : ∃ o wd e, all[i]? = some o ∧ GLoc Γ all o s wd e inf ∧ RunL Γ all L (e.app s o.dst) s' := by
 cases h with
 | cons ho hg hr => exact ⟨_, _, _, ho, hg, hr⟩
def RQ (N : Nat) (os : List Oper) : Bool := os.all fun o => match o.dst with | some d => Nat.blt d N | none => true
theorem PQ {os : List Oper} (h : RQ E.N os = true) {o : Oper} (ho : o ∈ os) : dN E o.dst := fun x hx => by
 have := List.all_eq_true.1 h o ho
 rw [hx] at this
 exact Nat.le_of_ble_eq_true this
theorem WS {ops : Array Oper} {j d : Nat} {b : Bool} (hd : (ops[j]?).bind (·.dst) = some d) (hb : a.tmps.getD d undef = .bool b) : yielded ops a.tmps j = some b := by
 unfold yielded
 rw [hd]
 simp only [Option.bind_some]
 rw [Array.getD_eq_getD_getElem?] at hb
 cases h : a.tmps[d]? with
 | none => rw [h] at hb; simp [undef] at hb
 | some v => rw [h] at hb; simp at hb; subst hb; rfl
theorem VRep.undef {w : World} {A : Nat → Prop} {O : kB} (pl : Nat → Pl) : VRep w A O pl .tnil undef := .inr ⟨[], rfl, rfl⟩
theorem SL (hΓ : CtxOk E.P Γ) {ops : Array Oper} (h : Rel E w a s) {i : Nat} {o : Oper} (ho : ops[i]? = some o) (hd : dN E o.dst) (hk : gK Γ ops.toList o s (fun _ _ s => κ s) = some r) : wpOp E.P ops Q i (Goes E κ r) a w := by
 unfold wpOp
 rw [ho]
 simp only
 unfold gK at hk
 split at hk
 ·rename_i hg
  have : Region.wanted o (yielded ops a.tmps) = true := by unfold Region.wanted; rw [hg]
  rw [this]
  exact .inl (HM hΓ h o hd hk)
 ·rename_i j want hg
  split at hk
  ·cases hk
  ·rename_i d hdd
   split at hk
   ·rename_i b hb
    rw [show (cond b _ _ : Option β) = (fun s => bif b == want then opK Γ o s κ else κ (s.put o.dst .tnil)) (s.set d (.dat .bool b)) by cases b <;> rfl] at hk
    rw [BV hb] at hk
    simp only at hk
    obtain ⟨pl, h'⟩ := h
    have hv := (h'.vals d)
    rw [hb] at hv
    have hy := WS (ops := ops) (j := j) (by simpa using hdd) hv.bool_inv
    have : Region.wanted o (yielded ops a.tmps) = (b == want) := by
     unfold Region.wanted
     rw [hg]
     simp only [hy]
     cases b <;> cases want <;> rfl
    rw [this]
    cases hw : (b == want) with
    | true =>
     rw [hw] at hk
     simp only [cond_true] at hk
     exact .inl (HM hΓ ⟨pl, h'⟩ o hd hk)
    | false =>
     rw [hw] at hk
     simp only [cond_false] at hk
     exact ⟨_, ⟨pl, h'.put hd (VRep.undef _)⟩, hk⟩
   ·rename_i hb
    obtain ⟨pl, h'⟩ := h
    have hv := (h'.vals d)
    rw [hb] at hv
    have hu : a.tmps.getD d undef = undef := by
     rcases hv with hv | ⟨l, h1, h2⟩
     ·exact hv.elim
     ·rw [h1]
      obtain rfl : l = [] := h2
      rfl
    have hy : yielded ops a.tmps j = none := by
     unfold yielded
     rw [show (ops[j]?).bind (·.dst) = some d by simpa using hdd]
     simp only [Option.bind_some]
     rw [Array.getD_eq_getD_getElem?] at hu
     cases h : a.tmps[d]? with
     | none => rfl
     | some v => rw [h] at hu; simp at hu; subst hu; rfl
    have : Region.wanted o (yielded ops a.tmps) = false := by
     unfold Region.wanted
     rw [hg]
     simp only [hy]
     cases want <;> rfl
    rw [this]
    exact ⟨_, ⟨pl, h'.put hd (VRep.undef _)⟩, hk⟩
   ·cases hk
theorem DY (hΓ : CtxOk E.P Γ) (hN : pJ Γ) {ops : Array Oper} (hd : RQ E.N ops.toList = true) : ∀ (os : List Oper) (i : Nat) (s : FState) (a : Act) (w : World), ops.toList.drop i = os → Rel E w a s → cJ9 Γ ops.toList os s κ = some r →
  wpOps E.P ops (fun e a w => match e with | .normal => Goes E κ r a w | _ => False) (List.range' i os.length) a w
 | [], i, s, a, w, hdr, h, hk => by
  show Goes E κ r a w
  exact ⟨s, h, hk⟩
 | o :: os, i, s, a, w, hdr, h, hk => by
  have hoi : ops[i]? = some o := by
   have : (ops.toList.drop i)[0]? = some o := by rw [hdr]; rfl
   rw [List.getElem?_drop] at this
   simpa using this
  have hmem : o ∈ ops.toList := List.mem_of_mem_drop (i := i) (by rw [hdr]; simp)
  have hdr' : ops.toList.drop (i + 1) = os := by
   have := congrArg (List.drop 1) hdr
   simpa [List.drop_drop] using this
  rw [List.length_cons, List.range'_succ, wpOps_cons]
  unfold cJ9 at hk
  exact wpOp_mono (fun a' w' ⟨s', hs', hk'⟩ => DY hΓ hN hd os (i + 1) s' a' w' hdr' hs' hk') (SL hΓ h hoi (PQ hd hmem) hk)
theorem gU : ∀ (os : List Oper) (n : Nat), oE n os = true → ∀ i o, os[i]? = some o → (∀ e ∈ o.after, Region.binds .any e = true → e.on < n + i) ∧ (∀ d, o.dst = some d → d < 1000000)
 | [], n, _, i, o, h => by simp at h
 | o' :: os, n, h, i, o, ho => by
  simp only [oE, Bool.and_eq_true] at h
  cases i with
  | zero =>
   simp at ho
   subst ho
   refine ⟨fun e he hb => ?_, fun d hd => ?_⟩
   ·have := List.all_eq_true.1 h.1.1 e (by simpa using he)
    rw [hb] at this
    have := Nat.le_of_ble_eq_true (by simpa using this : Nat.blt e.on n = true)
    omega
   ·have := h.1.2
    rw [hd] at this
    exact Nat.le_of_ble_eq_true this
  | succ i =>
   obtain ⟨h1, h2⟩ := gU os (n + 1) h.2 i o (by simpa using ho)
   exact ⟨fun e he hb => by have := h1 e he hb; omega, h2⟩
theorem HO (all : List Oper) (an : List (List Nat)) : ∀ (os : List Oper) (n : Nat), ZK all an n os = true → ∀ i o, os[i]? = some o → ∀ x ∈ an[n + i]?.getD [], ∃ e ∈ o.after, Region.binds .any e = true ∧ (x = e.on ∨ x ∈ an[e.on]?.getD [])
 | [], n, _, i, o, h => by simp at h
 | o' :: os, n, h, i, o, ho => by
  simp only [ZK, Bool.and_eq_true] at h
  cases i with
  | zero =>
   simp at ho
   subst ho
   intro x hx
   have := List.all_eq_true.1 h.1 x (by simpa using hx)
   obtain ⟨e, he, h2⟩ := List.any_eq_true.1 this
   simp only [Bool.and_eq_true, Bool.or_eq_true] at h2
   exact ⟨e, by simpa using he, h2.1, h2.2.imp Nat.eq_of_beq_eq_true jD⟩
  | succ i =>
   intro x hx
   exact HO all an os (n + 1) h.2 i o (by simpa using ho) x (by rw [show n + 1 + i = n + (i + 1) by omega]; exact hx)
def dK0 (all : List Oper) (p q : Nat × iC) : Prop := jZ p.1 ((FE all)[q.1]?.getD []) = true ∨ (Q1 p.2 q.2 && II all p.1 q.1 p.2 q.2) = true
theorem xP (all : List Oper) : ∀ l : List (Nat × iC), ES all (FE all) l = true → l.Pairwise (fun q p => dK0 all p q)
 | [], _ => List.Pairwise.nil
 | (i, x) :: l, h => by
  simp only [ES, Bool.and_eq_true] at h
  refine List.Pairwise.cons (fun p hp => ?_) (xP all l h.2)
  have := List.all_eq_true.1 h.1 p hp
  simp only [Bool.or_eq_true] at this
  exact this
theorem SR (hN : pJ Γ) {all : List Oper} : ∀ (os : List Oper) (i : Nat) (s : FState) (log : List (Nat × iC)), all.drop i = os → X9 Γ all i os s log κ = some r →
  ∃ L s', RunL Γ all L s s' ∧ κ s' = some r ∧ ES all (FE all) (L.reverse ++ log) = true ∧ ZK all (FE all) 0 all = true ∧ L.map (·.1) = List.range' i os.length
 | [], i, s, log, hdr, hk => by
  unfold X9 at hk
  obtain ⟨hc, hk⟩ := eD hk
  simp only [Bool.and_eq_true] at hc
  exact ⟨[], s, .nil s, hk, by simpa using hc.2, hc.1, rfl⟩
 | o :: os, i, s, log, hdr, hk => by
  unfold X9 at hk
  obtain ⟨wd, e, inf, hk, hg⟩ := dE6 hN o hk
  have hoi : all[i]? = some o := by
   have : (all.drop i)[0]? = some o := by rw [hdr]; rfl
   rw [List.getElem?_drop] at this
   simpa using this
  have hdr' : all.drop (i + 1) = os := by
   have := congrArg (List.drop 1) hdr
   simpa [List.drop_drop] using this
  obtain ⟨L, s', h1, h2, h3, h4, h5⟩ := SR hN os (i + 1) _ _ hdr' hk
  refine ⟨(i, inf) :: L, s', .cons hoi hg h1, h2, ?_, h4, by simp [h5, List.range'_succ]⟩
  have e1 : (bif wd then kH Γ s o else (⟨false, [], true⟩ : iC)) = inf := hg.hinf.symm
  rw [e1] at h3
  simpa [List.append_assoc] using h3
def dN3 (listed : Array Bool) (i : Nat) : Bool := listed.getD i true
theorem cD7 {all : List Oper} (hE : oE 0 all = true) {p q : Nat × iC} (h : (Q1 p.2 q.2 && II all p.1 q.1 p.2 q.2) = true) : XN all p q := by
 intro a b ha hb
 simp only [Bool.and_eq_true] at h
 obtain ⟨h1, h2⟩ := h
 unfold II at h2
 rw [ha, hb] at h2
 simp only [Bool.and_eq_true] at h2
 obtain ⟨g1, g2, g3⟩ := Oper.apart_spec h2.1.1
 refine ⟨g1, g2, g3, (gU all 0 hE _ _ ha).2, (gU all 0 hE _ _ hb).2, h2.1.2, h2.2, ?_⟩
 unfold Q1 at h1
 simp only [Bool.or_eq_true, Bool.and_eq_true, Bool.not_eq_true'] at h1
 rcases h1 with h1 | h1
 ·exact .inl h1
 ·exact .inr ⟨UE h1.1.1, h1.1.2, h1.2⟩
theorem mem_ready {ops : Array Oper} {listed : Array Bool} {i : Nat} : i ∈ Region.ready .any ops listed ↔ i < ops.size ∧ listed.getD i true = false ∧ ∀ o, ops[i]? = some o → ∀ e ∈ o.after, Region.binds .any e = true → listed.getD e.on false = true := by
 unfold Region.ready
 rw [List.mem_filter, List.mem_range]
 refine and_congr_right fun hi => ?_
 rw [Array.getElem?_eq_getElem hi]
 simp only [Option.map_some, Option.getD_some, Bool.and_eq_true, Bool.not_eq_true', Option.some.injEq]
 refine and_congr_right fun _ => ?_
 constructor
 ·rintro h o rfl e he hb
  have := (Array.all_eq_true_iff_forall_mem.1 h) e he
  rw [hb] at this
  simpa using this
 ·intro h
  refine Array.all_eq_true_iff_forall_mem.2 fun e he => ?_
  have := h _ rfl e he
  cases hb : Region.binds .any e with
  | false => rfl
  | true => simpa [hb] using this hb
structure dQ7 (all : List Oper) (listed : Array Bool) (L : List (Nat × iC)) : Prop where
 size : listed.size = all.length
 mem : ∀ i, i < all.length → (listed.getD i true = false ↔ i ∈ L.map (·.1))
 lt : ∀ p ∈ L, p.1 < all.length
 ord : L.Pairwise fun p q => p.1 < q.1 ∧ dK0 all p q
 closed : ∀ i, i < all.length → listed.getD i true = true → ∀ o, all[i]? = some o → ∀ e ∈ o.after, Region.binds .any e = true → listed.getD e.on true = true
theorem nU {listed : Array Bool} {i : Nat} (h : i < listed.size) : listed.getD i true = listed.getD i false := by
 simp [h]
theorem YT {all : List Oper} {listed : Array Bool} (hE : oE 0 all = true) (hA : ZK all (FE all) 0 all = true) (hc : ∀ i, i < all.length → listed.getD i true = true → ∀ o, all[i]? = some o → ∀ e ∈ o.after, Region.binds .any e = true → listed.getD e.on true = true) :
  ∀ (i : Nat), i < all.length → (∀ o, all[i]? = some o → ∀ e ∈ o.after, Region.binds .any e = true → listed.getD e.on true = true) → ∀ x ∈ (FE all)[i]?.getD [], listed.getD x true = true := by
 intro i
 induction i using Nat.strongRecOn with
 | _ i ih =>
  intro hi hdep x hx
  obtain ⟨o, ho⟩ : ∃ o, all[i]? = some o := ⟨all[i], List.getElem?_eq_getElem hi⟩
  obtain ⟨e, he, hb, hx⟩ := HO all (FE all) all 0 hA i o ho x (by simpa using hx)
  have hlt := (gU all 0 hE i o ho).1 e he hb
  have hl := hdep o ho e he hb
  rcases hx with rfl | hx
  ·exact hl
  ·exact ih e.on (by omega) (by omega) (fun o' ho' e' he' hb' => hc e.on (by omega) hl o' ho' e' he' hb') x hx
theorem bX6 (hΓ : CtxOk E.P Γ) (hN : pJ Γ) {ops : Array Oper} (hd : RQ E.N ops.toList = true) (hE : oE 0 ops.toList = true) (hA : ZK ops.toList (FE ops.toList) 0 ops.toList = true) {sf : FState} (hf : κ sf = some r) :
  ∀ (fuel : Nat) (listed : Array Bool) (L : List (Nat × iC)) (s : FState) (a : Act) (w : World), Rel E w a s → RunL Γ ops.toList L s sf → dQ7 ops.toList listed L → L.length ≤ fuel →
  wpAny E.P .any ops (fun e a w => match e with | .normal => Goes E κ r a w | _ => False) fuel listed a w := by
 intro fuel
 have hfirst : ∀ (listed : Array Bool) (p : Nat × iC) (L : List (Nat × iC)), dQ7 ops.toList listed (p :: L) → p.1 ∈ Region.ready .any ops listed := fun listed p L hl => by
  have hp := hl.lt p (by simp)
  refine mem_ready.2 ⟨by simpa using hp, (hl.mem p.1 hp).2 (by simp), fun o ho e he hb => ?_⟩
  have hlt := (gU ops.toList 0 hE p.1 o (by simpa using ho)).1 e he hb
  have hel : e.on < ops.toList.length := by omega
  rw [← nU (by rw [hl.size]; exact hel)]
  cases h : listed.getD e.on true with
  | true => rfl
  | false =>
   have hm := (hl.mem e.on hel).1 h
   obtain ⟨q, hq, e'⟩ := List.mem_map.1 hm
   rcases List.mem_cons.1 hq with rfl | hq
   ·omega
   ·have := (List.pairwise_cons.1 hl.ord).1 q hq; omega
 induction fuel with
 | zero =>
  intro listed L s a w hR hL hl hlen
  have : L = [] := List.eq_nil_of_length_eq_zero (by omega)
  subst this
  cases hL
  refine ⟨?_, _, hR, hf⟩
  refine List.eq_nil_iff_forall_not_mem.2 fun i hi => ?_
  obtain ⟨h1, h2, _⟩ := mem_ready.1 hi
  have := (hl.mem i (by simpa using h1)).1 h2
  simp at this
 | succ fuel ih =>
  intro listed L s a w hR hL hl hlen
  refine ⟨fun h0 => ?_, fun i hi => ?_⟩
  ·cases L with
   | nil => cases hL; exact ⟨_, hR, hf⟩
   | cons p L => have := hfirst listed p L hl; rw [h0] at this; cases this
  ·obtain ⟨h1, h2, h3⟩ := mem_ready.1 hi
   have hi' : i < ops.toList.length := by simpa using h1
   have hm := (hl.mem i hi').1 h2
   obtain ⟨⟨i', inf⟩, hq, rfl⟩ := List.mem_map.1 hm
   obtain ⟨J, R, rfl⟩ := List.append_of_mem hq
   simp only at h1 h2 h3 hi'
   have hdep : ∀ o, ops.toList[i']? = some o → ∀ e ∈ o.after, Region.binds .any e = true → listed.getD e.on true = true := fun o ho e he hb => by
    have hlt := (gU ops.toList 0 hE i' o ho).1 e he hb
    rw [nU (by rw [hl.size]; omega)]
    exact h3 o (by simpa using ho) e he hb
   have hanc := YT hE hA hl.closed i' hi' hdep
   have hord := List.pairwise_append.1 hl.ord
   have hfree : ∀ p ∈ J, XN ops.toList p (i', inf) := fun p hp => by
    have hc := (hord.2.2 p hp (i', inf) (by simp)).2
    rcases hc with hc | hc
    ·have := hanc p.1 (jD hc)
     have h4 := (hl.mem p.1 (hl.lt p (by simp [hp]))).2 (by simp; exact .inl ⟨p.2, hp⟩)
     rw [this] at h4; cases h4
    ·exact cD7 hE hc
   obtain ⟨pl, hR'⟩ := hR
   have hmv := hL.move hR'.wf hfree
   obtain ⟨o, wd, e, ho, hg, hr⟩ := hmv.inv
   ·have hoi : ops[i']? = some o := by simpa using ho
    have hstep := hg.same s (fun _ _ => rfl) (fun _ _ _ => rfl) (fun _ _ => rfl) (fun _ _ h => h) (fun _ _ s' => some s')
    have hdo : dN E o.dst := PQ hd (List.mem_of_getElem? ho)
    have hgo := SL (κ := some) (r := e.app s o.dst) (Q := fun e a w => match e with | .normal => Goes E κ r a w | _ => False) hΓ ⟨pl, hR'⟩ hoi hdo hstep
    refine wpOp_mono (fun a' w' ⟨s', hs', hk'⟩ => ?_) hgo
    cases hk'
    have hord2 := (List.pairwise_cons.1 hord.2.1)
    refine ih (listed.setIfInBounds i' true) (J ++ R) _ a' w' hs' hr ?_ (by simp at hlen ⊢; omega)
    have hset : ∀ j, (listed.setIfInBounds i' true).getD j true = (if j = i' then true else listed.getD j true) := fun j => by
     simp only [Array.getD_eq_getD_getElem?, Array.getElem?_setIfInBounds]
     by_cases e : i' = j
     ·subst e; simp; split <;> rfl
     ·rw [if_neg e, if_neg (fun h => e h.symm)]
    refine ⟨by simpa using hl.size, fun j hj => ?_, fun p hp => hl.lt p (by simp at hp ⊢; rcases hp with h | h <;> simp [h]), ?_, fun j hj hjl o' ho' e' he' hb' => ?_⟩
    ·rw [hset]
     by_cases e : j = i'
     ·subst e
      simp only [if_true]
      refine ⟨fun h => (by cases h), fun h => ?_⟩
      obtain ⟨q, hq, e⟩ := List.mem_map.1 h
      rcases List.mem_append.1 hq with hq | hq
      ·have := (hord.2.2 q hq (j, inf) (by simp)).1; simp only at this; omega
      ·have := (hord2.1 q hq).1; simp only at this; omega
     ·rw [if_neg e, hl.mem j hj]
      simp only [List.map_append, List.map_cons, List.mem_append, List.mem_cons]
      constructor
      ·rintro (h | h | h)
       ·exact .inl h
       ·exact absurd h e
       ·exact .inr h
      ·rintro (h | h)
       ·exact .inl h
       ·exact .inr (.inr h)
    ·exact List.pairwise_append.2 ⟨hord.1, hord2.2, fun p hp q hq => hord.2.2 p hp q (by simp [hq])⟩
    ·rw [hset] at hjl ⊢
     by_cases e1 : e'.on = i'
     ·rw [if_pos e1]
     ·rw [if_neg e1]
      by_cases e2 : j = i'
      ·subst e2
       exact hdep o' ho' e' he' hb'
      ·rw [if_neg e2] at hjl
       exact hl.closed j hj hjl o' ho' e' he' hb'
theorem ZH (hΓ : CtxOk E.P Γ) (hN : pJ Γ) (hm : E.P.follows .mixedOrders = true) {ops : Array Oper} (hd : RQ E.N ops.toList = true) (hE : oE 0 ops.toList = true) (h : Rel E w a s) {id : Nat} (hk : X9 Γ ops.toList 0 ops.toList s [] κ = some r) :
  (Code.region id ops true).wp E.P (fun e a w => match e with | .normal => Goes E κ r a w | _ => False) a w := by
 obtain ⟨L, s', h1, h2, h3, h4, h5⟩ := SR hN ops.toList 0 s [] rfl hk
 obtain ⟨pl, h⟩ := h
 have hw' : RelP E pl { w with drawn := w.drawn + 1 } a s := h.world rfl rfl rfl rfl
 refine wp_region_any hm (bX6 hΓ hN hd hE h4 h2 ops.size _ L s a _ ⟨pl, hw'⟩ h1 ?_ (by have := congrArg List.length h5; simp at this; omega))
 have hp := xP _ _ h3
 rw [List.append_nil, List.pairwise_reverse] at hp
 have hsort : L.Pairwise fun p q => p.1 < q.1 := by
  have : (L.map (·.1)).Pairwise (· < ·) := by rw [h5]; exact List.pairwise_lt_range'
  exact List.pairwise_map.1 this
 refine ⟨by simp, fun i hi => ?_, fun p hp => ?_, hsort.imp₂ (fun p q h1 h2 => ⟨h1, h2⟩) hp, fun i hi hl => ?_⟩
 ·rw [h5]
  simp only [List.mem_range'_1]
  simp at hi
  simp [hi]
 ·have : p.1 ∈ L.map (·.1) := List.mem_map.2 ⟨p, hp, rfl⟩
  rw [h5] at this
  simpa using this
 ·simp at hi
  simp [hi] at hl
def kK (N : Nat) : Code → Bool
 | .region _ ops _ => RQ N ops.toList
 | .seq a b => kK N a && kK N b
 | .cond _ a b => kK N a && kK N b
 | .block _ a => kK N a
 | .loop a => kK N a
 | _ => true
def yB (E : Env) (cx : Cx β) (r : β) : Exit → Act → World → Prop
 | .normal => Goes E cx.nrm r
 | .ret => Goes E cx.ret r
 | .exit id => Goes E (cx.ex id) r
 | _ => fun _ _ => False
theorem cT (hT : TabOk E.P Γ) {l : Option (List NE)} (h : Goes E (gL Γ l κ) r a w) : Goes E κ r a w := by
 cases l with
 | none => exact h
 | some l => exact SQ hT h
theorem fV (hT : TabOk E.P Γ) {sk : Sk} {cx : Cx β} {e : Exit} (h : yB E (sk.wrap Γ cx) r e a w) : yB E cx r e a w := by
 cases sk with
 | fin i n x l b =>
  cases e with
  | normal => exact cT hT h
  | ret => exact cT hT h
  | exit id => exact cT hT h
  | _ => exact h
 | _ => exact h
def cA2 (P : Program) (c : Code) (Q : Exit → Act → World → Prop) (a : Act) (w : World) : Prop :=
 ∀ (b : Frame) (k : List Item) (cs : List Frame), ∃ e a' w', Q e a' w' ∧ Arrives P (lone (b.at a (.code c :: .inLoop c :: k)) cs w) b k cs e a' w'
theorem Y1 {P : Program} {c : Code} (h : c.wp P (Exit.then (cA2 P c Q) Q) a w) : cA2 P c Q a w := by
 intro b k cs
 obtain ⟨e, a₁, w₁, hq, harr⟩ := h b (.inLoop c :: k) cs
 cases e with
 | normal =>
  obtain ⟨e₂, a₂, w₂, hq₂, harr₂⟩ := hq b k cs
  exact ⟨e₂, a₂, w₂, hq₂, .of_steps (Steps.trans harr (.one step_inLoop)) harr₂⟩
 | exit id => exact ⟨_, a₁, w₁, hq, .pass (x := .inLoop c) rfl (fun _ _ => .inl (by simp)) harr⟩
 | goto l => exact ⟨_, a₁, w₁, hq, .pass (x := .inLoop c) rfl (fun _ _ => .inl (by simp)) harr⟩
 | ret => exact ⟨_, a₁, w₁, hq, .pass (x := .inLoop c) rfl (fun _ _ => .inl (by simp)) harr⟩
 | panic ch => exact ⟨_, a₁, w₁, hq, .pass (x := .inLoop c) rfl (fun _ _ => .inl (by simp)) harr⟩
 | outgrown => exact ⟨_, a₁, w₁, hq, .pass (x := .inLoop c) rfl (fun _ _ => .inl (by simp)) harr⟩
theorem XC {P : Program} {c : Code} (h : cA2 P c Q a w) : (Code.loop c).wp P Q a w := by
 intro b k cs
 obtain ⟨e, a', w', hq, harr⟩ := h b k cs
 exact ⟨e, a', w', hq, .of_steps (.one step_loop) harr⟩
theorem CN (hΓ : CtxOk E.P Γ) (hN : pJ Γ) (hm : E.P.follows .mixedOrders = true) (n : Nat) : ∀ (c : Code) (sk : Sk) (s : FState) (cx : Cx β) (a : Act) (w : World), kK E.N c = true → Rel E w a s → FX Γ n c sk s cx = some r → c.wp E.P (yB E cx r) a w := by
 intro c
 induction c with
 | skip =>
  intro sk s cx a w hB h hk
  unfold FX at hk
  obtain ⟨s, h, hk⟩ := cT hΓ.tab (l := sk.ini) ⟨s, h, hk⟩
  exact wp_skip (fV hΓ.tab (sk := sk) ⟨s, h, hk⟩)
 | ret =>
  intro sk s cx a w hB h hk
  unfold FX at hk
  obtain ⟨s, h, hk⟩ := cT hΓ.tab (l := sk.ini) ⟨s, h, hk⟩
  exact wp_ret (fV hΓ.tab (sk := sk) (e := .ret) ⟨s, h, hk⟩)
 | exit id =>
  intro sk s cx a w hB h hk
  unfold FX at hk
  obtain ⟨s, h, hk⟩ := cT hΓ.tab (l := sk.ini) ⟨s, h, hk⟩
  exact wp_exit (fV hΓ.tab (sk := sk) (e := .exit id) ⟨s, h, hk⟩)
 | region id ops draw =>
  intro sk s cx a w hB h hk
  unfold FX at hk
  obtain ⟨s, h, hk⟩ := cT hΓ.tab (l := sk.ini) ⟨s, h, hk⟩
  refine wp_mono (Q := fun e a w => match e with | .normal => Goes E (sk.wrap Γ cx).nrm r a w | _ => False) ?_ (fun e a w hq => ?_)
  ·cases draw with
   | true =>
    simp only [cond_true] at hk
    obtain ⟨hE, hk⟩ := eD hk
    exact ZH hΓ hN hm hB hE h hk
   | false =>
    simp only [cond_false] at hk
    refine wp_region ?_
    have := DY hΓ hN hB ops.toList 0 s a w rfl h hk
    rw [List.range_eq_range']
    simpa using this
  ·cases e with
   | normal => exact fV hΓ.tab (sk := sk) (e := .normal) hq
   | _ => exact hq.elim
 | seq x y ihx ihy =>
  intro sk s cx a w hB h hk
  simp only [kK, Bool.and_eq_true] at hB
  unfold FX at hk
  obtain ⟨s, h, hk⟩ := cT hΓ.tab (l := sk.ini) ⟨s, h, hk⟩
  refine wp_mono (Q := yB E (sk.wrap Γ cx) r) ?_ (fun e a w hq => fV hΓ.tab hq)
  refine wp_seq (wp_mono (ihx _ s _ a w hB.1 h hk) (fun e a w hq => ?_))
  cases e with
  | normal =>
   obtain ⟨s', hs', hk'⟩ := hq
   exact ihy _ s' _ a w hB.2 hs' hk'
  | _ => exact hq
 | cond o x y ihx ihy =>
  intro sk s cx a w hB h hk
  simp only [kK, Bool.and_eq_true] at hB
  unfold FX at hk
  obtain ⟨s, h, hk⟩ := cT hΓ.tab (l := sk.ini) ⟨s, h, hk⟩
  obtain ⟨b, hb, hk⟩ := sO hk
  obtain ⟨pl, h'⟩ := h
  have he := (h'.ev o _ hb).bool_inv
  refine wp_mono (Q := yB E (sk.wrap Γ cx) r) ?_ (fun e a w hq => fV hΓ.tab hq)
  refine wp_cond he ?_
  cases b with
  | true => exact ihx _ s _ a w hB.1 ⟨pl, h'⟩ hk
  | false => exact ihy _ s _ a w hB.2 ⟨pl, h'⟩ hk
 | block id x ihx =>
  intro sk s cx a w hB h hk
  unfold FX at hk
  obtain ⟨s, h, hk⟩ := cT hΓ.tab (l := sk.ini) ⟨s, h, hk⟩
  refine wp_mono (Q := yB E (sk.wrap Γ cx) r) ?_ (fun e a w hq => fV hΓ.tab hq)
  refine wp_block (wp_mono (ihx _ s _ a w hB h hk) (fun e a w hq => ?_))
  cases e with
  | exit j =>
   obtain ⟨s', hs', hk'⟩ := hq
   simp only [Exit.inBlock]
   by_cases hj : j = id
   ·subst hj
    rw [if_pos rfl]
    simp only [Nat.beq_refl, cond_true] at hk'
    exact ⟨s', hs', hk'⟩
   ·rw [if_neg hj]
    simp only [fN hj, cond_false] at hk'
    exact ⟨s', hs', hk'⟩
  | _ => exact hq
 | loop x ihx =>
  intro sk s cx a w hB h hk
  unfold FX at hk
  obtain ⟨s, h, hk⟩ := cT hΓ.tab (l := sk.ini) ⟨s, h, hk⟩
  refine wp_mono (Q := yB E (sk.wrap Γ cx) r) ?_ (fun e a w hq => fV hΓ.tab hq)
  refine XC ?_
  have key : ∀ (m : Nat) (s : FState) (a : Act) (w : World), Rel E w a s → bH (fun again s => FX Γ n x sk.body.l s { sk.wrap Γ cx with nrm := again }) m s = some r → cA2 E.P x (yB E (sk.wrap Γ cx) r) a w := by
   intro m
   induction m with
   | zero => intro s a w h hk; simp [bH] at hk
   | succ m ih =>
    intro s a w h hk
    simp only [bH] at hk
    refine Y1 (wp_mono (ihx _ s _ a w hB h hk) (fun e a w hq => ?_))
    cases e with
    | normal =>
     obtain ⟨s', hs', hk'⟩ := hq
     exact ih s' a w hs' hk'
    | _ => exact hq
  exact key n s a w h hk
 | _ =>
  intro sk s cx a w hB h hk
  simp [FX] at hk
end
end Go.Proofs.YticibdjilmclgaaDoorZF

namespace Go.Proofs.YticibdjilmclgaaDoorZF
open Go
set_option linter.unusedVariables false
set_option linter.unusedSimpArgs false
def nW : Nat → (ks : List AK) → DenA ks → List (Nat × FV)
 | _, [], _ => []
 | j, .dat k :: ks, x => (j, .dat k x.1) :: nW (j + 1) ks x.2
 | j, .ro k e :: ks, x => (j, .sl j none false) :: nW (j + 1) ks x.2
 | j, .rw k e :: ks, x => (j, .sl j none false) :: nW (j + 1) ks x.2
 | j, .pro k e :: ks, x => (j, .ptr j 0 0) :: nW (j + 1) ks x.2
def rQ : Nat → (ks : List AK) → DenA ks → List (Nat × FObj)
 | _, [], _ => []
 | j, .dat k :: ks, x => rQ (j + 1) ks x.2
 | j, .ro k e :: ks, x => (j, .row k e false x.1) :: rQ (j + 1) ks x.2
 | j, .rw k e :: ks, x => (j, .row k e true x.1) :: rQ (j + 1) ks x.2
 | j, .pro k e :: ks, x => (j, .row k e false [x.1]) :: rQ (j + 1) ks x.2
def CK (ks : List AK) (d : DenA ks) : FState := ⟨aE (nW 0 ks d), aC (rQ 0 ks d)⟩
def iF (Γ : Ctx) : List AK → Bool
 | [] => true
 | .dat _ :: ks => iF Γ ks
 | .ro k e :: ks => (match lk Γ.kt e with | some k' => decide (k' = k) | none => false) && iF Γ ks
 | .rw k e :: ks => (match lk Γ.kt e with | some k' => decide (k' = k) | none => false) && iF Γ ks
 | .pro k e :: ks => (match lk Γ.kt e with | some k' => decide (k' = k) | none => false) && iF Γ ks
def gD (Γ : Ctx) : List RK → Bool
 | [] => true
 | .dat _ :: ks => gD Γ ks
 | .nsl :: ks => gD Γ ks
 | .ro k e :: ks => (match lk Γ.kt e with | some k' => decide (k' = k) | none => false) && gD Γ ks
 | .rw k e :: ks => (match lk Γ.kt e with | some k' => decide (k' = k) | none => false) && gD Γ ks
 | .ptr k e :: ks => (match lk Γ.kt e with | some k' => decide (k' = k) | none => false) && gD Γ ks
theorem HZ {Γ : Ctx} {e : Nat} {k : K} (h : (match lk Γ.kt e with | some k' => decide (k' = k) | none => false) = true) : lk Γ.kt e = some k := by
 cases hl : lk Γ.kt e with
 | none => rw [hl] at h; cases h
 | some k' => rw [hl] at h; simp at h; rw [h]
section
variable {β : Type}
def iL (s : FState) : (rs : List RK) → List FV → (DenR rs → Option β) → Option β
 | [], [], κ => κ ()
 | .dat k :: rs, t :: ts, κ => vD t k fun x => iL s rs ts fun xs => κ (x, xs)
 | .nsl :: rs, t :: ts, κ => (match t with | .nsl => iL s rs ts fun xs => κ ((), xs) | _ => none)
 | .rw k e :: rs, t :: ts, κ =>
  (match t with
  | .nsl => iL s rs ts fun xs => κ ([], xs)
  | v => iM s v fun _ k' e' rw xs w => if e' = e ∧ rw = true then fB k' k xs fun xs => iL s rs ts fun r => κ (win xs w, r) else none)
 | .ro k e :: rs, t :: ts, κ =>
  (match t with
  | .nsl => iL s rs ts fun xs => κ ([], xs)
  | .dat (.sl e1 k1) xs => if e1 = e then fB k1 k xs fun xs => iL s rs ts fun r => κ (xs, r) else none
  | v => iM s v fun _ k' e' _ xs w => if e' = e then fB k' k xs fun xs => iL s rs ts fun r => κ (win xs w, r) else none)
 | .ptr k e :: rs, t :: ts, κ =>
  (match t with
  | .ptr o 0 0 => match s.objs o with | some (.row k' e' true [x]) => if e' = e then rO k' k x fun x => iL s rs ts fun r => κ (x, r) else none | _ => none
  | _ => none)
 | _, _, _ => none
def dQ : List FV → List Nat
 | [] => []
 | t :: ts => match t with | .sl o _ _ => o :: dQ ts | .ptr o _ _ => o :: dQ ts | _ => dQ ts
def rvF (Γ : Ctx) (s : FState) (r : Nat × Option TypeId) : FV :=
 match r.2 with
 | none => s.tmps r.1
 | some ty => match s.tmps r.1 with
  | .ptr o 0 0 => (match s.objs o with | some (.row k _ _ [x]) => if lk Γ.kt ty = some k then .dat k x else .dead | _ => .dead)
  | _ => .dead
def rvV (r : Nat × Option TypeId) : ResultVar := match r.2 with | none => .tmp r.1 | some ty => .cell r.1 ty
def fin (Γ : Ctx) (rs : List RK) (ts : List (Nat × Option TypeId)) (s : FState) : Option (DenR rs) := bif kF (dQ (ts.map (rvF Γ s))) then iL s rs (ts.map (rvF Γ s)) some else none
def cB (Γ : Ctx) (rs : List RK) (ts : List (Nat × Option TypeId)) : Cx (DenR rs) := ⟨fin Γ rs ts, fin Γ rs ts, fun _ _ => none⟩
def A1 (w : World) (A : Nat → Prop) (O : kB) (pl : Nat → Pl) : List FV → List Value → Prop
 | [], [] => True
 | f :: fs, v :: vs => VRep w A O pl f v ∧ A1 w A O pl fs vs
 | _, _ => False
end
structure InitI (P : Program) (w : World) (A : Nat → Prop) (own : List Nat) (j : Nat) (tl : List (Nat × FV)) (ol : List (Nat × FObj)) (vs : List Value) (pl : Nat → Pl) : Prop where
 vals : ∀ t fv, (t, fv) ∈ tl → j ≤ t ∧ ∃ v, vs[t - j]? = some v ∧ VRep w A (aC ol) pl fv v
 objs : ∀ o obj, aC ol o = some obj → j ≤ o ∧ ObjAt P w A (pl o) obj ∧ (occ (pl o) obj → (pl o).b ∈ own)
 sep : ∀ o o' obj obj', o ≠ o' → aC ol o = some obj → aC ol o' = some obj' → occ (pl o) obj → occ (pl o') obj' → (pl o).b ≠ (pl o').b
theorem gP (t : Nat) (obj : FObj) (ol : List (Nat × FObj)) (o : Nat) : aC ((t, obj) :: ol) o = if o = t then some obj else aC ol o := by
 simp only [aC]
 by_cases h : o = t
 ·subst h; simp [Nat.beq_refl]
 ·simp [fN h, h]
section
variable {P : Program} {Γ : Ctx} {w : World} {A : Nat → Prop}
theorem InitI.consV {own : List Nat} {j : Nat} {tl : List (Nat × FV)} {ol : List (Nat × FObj)} {vs : List Value} {pl : Nat → Pl} (h : InitI P w A own (j + 1) tl ol vs pl) {fv : FV} {v : Value} (hv : VRep w A (aC ol) pl fv v) :
  InitI P w A own j ((j, fv) :: tl) ol (v :: vs) pl := by
 refine ⟨fun t f hm => ?_, fun o obj ho => ⟨by have := (h.objs o obj ho).1; omega, (h.objs o obj ho).2⟩, h.sep⟩
 rcases List.mem_cons.1 hm with e | hm
 ·cases e; exact ⟨Nat.le_refl _, v, by simp, hv⟩
 ·obtain ⟨h1, v', h2, h3⟩ := h.vals t f hm
  refine ⟨by omega, v', ?_, h3⟩
  rw [show t - j = (t - (j + 1)) + 1 by omega]; simpa using h2
theorem InitI.consO {o1 o2 : List Nat} {j : Nat} {tl : List (Nat × FV)} {ol : List (Nat × FObj)} {vs : List Value} {pl : Nat → Pl} (h : InitI P w A o2 (j + 1) tl ol vs pl) {fv : FV} {v : Value} (obj : FObj) (p : Pl) (hnd : (o1 ++ o2).Nodup)
  (hv : VRep w A (aC ((j, obj) :: ol)) (upd pl j p) fv v) (hobj : ObjAt P w A p obj) (hocc : occ p obj → p.b ∈ o1) : InitI P w A (o1 ++ o2) j ((j, fv) :: tl) ((j, obj) :: ol) (v :: vs) (upd pl j p) := by
 have hO : ∀ o ob, aC ol o = some ob → aC ((j, obj) :: ol) o = some ob ∧ upd pl j p o = pl o := fun o ob ho => by
  have hne : o ≠ j := by have := (h.objs o ob ho).1; omega
  exact ⟨by rw [gP, if_neg hne]; exact ho, bJ _ _ _ hne⟩
 refine ⟨fun t f hm => ?_, fun o ob ho => ?_, fun o o' ob ob' hne ho ho' hc hc' => ?_⟩
 ·rcases List.mem_cons.1 hm with e | hm
  ·cases e; exact ⟨Nat.le_refl _, v, by simp, hv⟩
  ·obtain ⟨h1, v', h2, h3⟩ := h.vals t f hm
   refine ⟨by omega, v', ?_, h3.move (fun _ _ _ h => h) (fun o ob ho => ⟨ob, (hO o ob ho).1, ob.like_refl, (hO o ob ho).2⟩)⟩
   rw [show t - j = (t - (j + 1)) + 1 by omega]; simpa using h2
 ·rw [gP] at ho
  split at ho
  ·rename_i e
   subst e
   cases ho
   rw [aU]
   exact ⟨Nat.le_refl _, hobj, fun hc => List.mem_append.2 (.inl (hocc hc))⟩
  ·rename_i hne
   rw [bJ _ _ _ hne]
   obtain ⟨h1, h2, h3⟩ := h.objs o ob ho
   exact ⟨by omega, h2, fun hc => List.mem_append.2 (.inr (h3 hc))⟩
 ·have hd := (List.nodup_append.1 hnd).2.2
  rw [gP] at ho ho'
  split at ho <;> split at ho'
  ·simp_all
  ·rename_i e e'
   subst e
   cases ho
   rw [aU] at hc ⊢
   rw [bJ _ _ _ e'] at hc' ⊢
   exact hd _ (hocc hc) _ ((h.objs o' ob' ho').2.2 hc')
  ·rename_i e e'
   subst e'
   cases ho'
   rw [aU] at hc' ⊢
   rw [bJ _ _ _ e] at hc ⊢
   exact (hd _ (hocc hc') _ ((h.objs o ob ho).2.2 hc)).symm
  ·rename_i e e'
   rw [bJ _ _ _ e] at hc ⊢
   rw [bJ _ _ _ e'] at hc' ⊢
   exact h.sep o o' ob ob' hne ho ho' hc hc'
theorem InitI.own {o1 o2 : List Nat} {j : Nat} {tl : List (Nat × FV)} {ol : List (Nat × FObj)} {vs : List Value} {pl : Nat → Pl} (h : InitI P w A o2 j tl ol vs pl) (hs : ∀ b ∈ o2, b ∈ o1) : InitI P w A o1 j tl ol vs pl :=
 ⟨h.vals, fun o obj ho => ⟨(h.objs o obj ho).1, (h.objs o obj ho).2.1, fun hc => hs _ ((h.objs o obj ho).2.2 hc)⟩, h.sep⟩
theorem vK (hT : TabOk P Γ) : ∀ (ks : List AK) (j : Nat) (d : DenA ks) (vs : List Value) (own : List Nat), iF Γ ks = true → own.Nodup → ArgsRep w A ks d vs own → ∃ pl, InitI P w A own j (nW j ks d) (rQ j ks d) vs pl
 | [], j, d, vs, own, _, _, h => by
  obtain ⟨rfl, rfl⟩ := h
  exact ⟨fun _ => ⟨0, 0, 0⟩, fun t fv hm => by simp [nW] at hm, fun o obj ho => by simp [rQ, aC] at ho, fun o o' obj obj' _ ho => by simp [rQ, aC] at ho⟩
 | .dat k :: ks, j, d, vs, own, hk, hnd, h => by
  obtain ⟨v, vs', o1, o2, rfl, rfl, h1, h2⟩ := h
  obtain ⟨rfl, cs, hc, hv⟩ := h1
  obtain ⟨pl, hi⟩ := vK hT ks (j + 1) d.2 vs' o2 (by simpa [iF] using hk) (List.nodup_append.1 hnd).2.1 h2
  exact ⟨pl, hi.consV (.inl ⟨cs, hc, hv⟩)⟩
 | .ro k e :: ks, j, d, vs, own, hk, hnd, h => by
  obtain ⟨v, vs', o1, o2, rfl, rfl, h1, h2⟩ := h
  simp only [iF, Bool.and_eq_true] at hk
  have hTy := hT.kt e k (HZ hk.1)
  obtain ⟨rfl, ad, cap, rfl, hle, hx⟩ := h1
  obtain ⟨pl, hi⟩ := vK hT ks (j + 1) d.2 vs' o2 hk.2 (List.nodup_append.1 hnd).2.1 h2
  by_cases hx0 : d.1 = []
  ·refine ⟨_, hi.consO (o1 := []) (.row k e false d.1) ⟨0, 0, d.1.length⟩ hnd (VRep.mkSl (by rw [gP, if_pos rfl]) (off := 0) (len := d.1.length) ⟨rfl, rfl⟩ rfl hle (fun hh => by cases hh) (fun hh => ?_) (fun hn => by cases hn)) ⟨hTy, Nat.le_refl _, fun hh => (by cases hh), fun _ hne => absurd hx0 hne, by rw [hx0]; exact RowAt.nil _ _ _ _ _⟩ (fun hc => by cases hc.1)⟩
   rcases hh with hh | hh
   ·rw [hx0] at hh; simp at hh
   ·cases hh.1
  ·obtain ⟨b, off, rfl, hb, hrow⟩ := hx hx0
   exact ⟨_, hi.consO (o1 := []) (.row k e false d.1) ⟨b, off, d.1.length⟩ hnd (VRep.mkSl (by rw [gP, if_pos rfl]) (off := 0) (len := d.1.length) ⟨rfl, rfl⟩ rfl hle (fun hh => by cases hh) (fun hh => by rw [aU]; simp) (fun hn => by cases hn)) ⟨hTy, Nat.le_refl _, fun hh => (by cases hh), fun _ _ => hb, hrow⟩ (fun hc => by cases hc.1)⟩
 | .rw k e :: ks, j, d, vs, own, hk, hnd, h => by
  obtain ⟨v, vs', o1, o2, rfl, rfl, h1, h2⟩ := h
  simp only [iF, Bool.and_eq_true] at hk
  have hTy := hT.kt e k (HZ hk.1)
  obtain ⟨ad, p, cap, rfl, hle, hpc, had, hc1, hc2⟩ := h1.obj_rw
  obtain ⟨pl, hi⟩ := vK hT ks (j + 1) d.2 vs' o2 hk.2 (List.nodup_append.1 hnd).2.1 h2
  refine ⟨_, hi.consO (o1 := o1) (.row k e true d.1) p hnd (VRep.mkSl (by rw [gP, if_pos rfl]) (off := 0) (len := d.1.length) ⟨rfl, rfl⟩ rfl hle (fun _ => by rw [aU]; omega) (fun hh => by rw [aU, had (by omega)]; simp) (fun hn => by cases hn)) ⟨hTy, by omega, fun _ hcp => (hc1 (by omega)).2.2, fun hh => (by cases hh), ?_⟩ (fun hc => by rw [(hc1 (by have := hc.2; omega)).1]; simp)⟩
  by_cases hcp : 0 < cap
  ·exact (hc1 hcp).2.1
  ·rw [(hc2 hcp).2]; exact RowAt.nil _ _ _ _ _
 | .pro k e :: ks, j, d, vs, own, hk, hnd, h => by
  obtain ⟨v, vs', o1, o2, rfl, rfl, h1, h2⟩ := h
  simp only [iF, Bool.and_eq_true] at hk
  have hTy := hT.kt e k (HZ hk.1)
  obtain ⟨rfl, b, off, rfl, hb, hrow⟩ := h1
  obtain ⟨pl, hi⟩ := vK hT ks (j + 1) d.2 vs' o2 hk.2 (List.nodup_append.1 hnd).2.1 h2
  exact ⟨_, hi.consO (o1 := []) (.row k e false [d.1]) ⟨b, off, 1⟩ hnd (VRep.mkPtr (by rw [gP, if_pos rfl]) (Int.le_refl _) (by simp) (by rw [aU]; simp)) ⟨hTy, Nat.le_refl _, fun hh => (by cases hh), fun _ _ => hb, hrow⟩ (fun hc => by cases hc.1)⟩
theorem SA : ∀ (ks : List AK) (j : Nat) (d : DenA ks) (t : Nat) (fv : FV), (t, fv) ∈ nW j ks d → t < j + ks.length
 | [], j, d, t, fv, h => by simp [nW] at h
 | k :: ks, j, d, t, fv, h => by
  have key : ∀ g : FV, (t, fv) ∈ (j, g) :: nW (j + 1) ks d.2 → t < j + (k :: ks).length := fun g h => by
   rcases List.mem_cons.1 h with h | h
   ·have : t = j := (Prod.mk.inj h).1
    simp only [List.length_cons]; omega
   ·have := SA ks (j + 1) d.2 t fv h
    simp only [List.length_cons]; omega
  cases k <;> exact key _ h
end
section
variable {E : Env} {pl : Nat → Pl} {Γ : Ctx} {w w' : World} {a : Act} {s : FState} {β : Type} {r : β}
theorem fF (hT : TabOk E.P Γ) (h : RelP E pl w a s) : ∀ (rs : List RK) (ts : List FV) (vs : List Value) {f : DenR rs → Option β}, A1 w (Av E s.objs pl) s.objs pl ts vs → iL s rs ts f = some r → gD Γ rs = true → kF (dQ ts) = true →
  ∃ (x : DenR rs) (own : List Nat), f x = some r ∧ own.Nodup ∧ (∀ b ∈ own, ∃ o ∈ dQ ts, ∃ obj, s.objs o = some obj ∧ occ (pl o) obj ∧ (pl o).b = b) ∧
   ∀ A : Nat → Prop, (∀ b, A b → Av E s.objs pl b) → (∀ o ∈ dQ ts, ∀ b, A b → b = (pl o).b → b ∈ own ∨ ¬ ∃ obj, s.objs o = some obj ∧ occ (pl o) obj) → RessRep E.P w A rs x vs own
 | [], [], [], f, _, hk, _, _ => ⟨(), [], hk, List.nodup_nil, fun b hb => by simp at hb, fun A hA _ => ⟨rfl, rfl⟩⟩
 | [], t :: ts, _, f, _, hk, _, _ => by simp [iL] at hk
 | [], [], v :: vs, f, hv, hk, _, _ => hv.elim
 | .dat k :: rs, [], _, f, _, hk, _, _ => by simp [iL] at hk
 | .nsl :: rs, [], _, f, _, hk, _, _ => by simp [iL] at hk
 | .rw k e :: rs, [], _, f, _, hk, _, _ => by simp [iL] at hk
 | .ro k e :: rs, [], _, f, _, hk, _, _ => by simp [iL] at hk
 | .ptr k e :: rs, [], _, f, _, hk, _, _ => by simp [iL] at hk
 | .dat k :: rs, t :: ts, [], f, hv, _, _, _ => hv.elim
 | .dat k :: rs, t :: ts, v0 :: vs, f, hvs, hk, hr, hn => by
  obtain ⟨hv, hvs⟩ := hvs
  unfold iL at hk
  obtain ⟨x, hx, hk⟩ := eJ hk
  have hids : dQ (t :: ts) = dQ ts := by simp [dQ, hx]
  rw [hids] at hn ⊢
  obtain ⟨xs, own, h1, h2, h3, h4⟩ := fF hT h rs ts vs hvs hk (by simpa [gD] using hr) hn
  rw [hx] at hv
  obtain ⟨cs, hc, hvv⟩ := hv.dat_inv
  exact ⟨(x, xs), own, h1, h2, h3, fun A hA hB => ⟨_, _, [], own, rfl, rfl, ⟨rfl, cs, hc.mono hA, hvv⟩, h4 A hA hB⟩⟩
 | .nsl :: rs, t :: ts, [], f, hv, _, _, _ => hv.elim
 | .nsl :: rs, t :: ts, v0 :: vs, f, hvs, hk, hr, hn => by
  obtain ⟨hv, hvs⟩ := hvs
  unfold iL at hk
  split at hk
  ·have hids : dQ (FV.nsl :: ts) = dQ ts := rfl
   rw [hids] at hn ⊢
   obtain ⟨xs, own, h1, h2, h3, h4⟩ := fF hT h rs ts vs hvs hk (by simpa [gD] using hr) hn
   have hve : v0 = .slice none 0 0 := by
    rcases hv with hv | ⟨l, _, hl⟩
    ·exact hv
    ·exact hl.elim
   exact ⟨((), xs), own, h1, h2, h3, fun A hA hB => ⟨_, _, [], own, rfl, rfl, ⟨rfl, hve⟩, h4 A hA hB⟩⟩
  ·cases hk
 | .rw k e :: rs, t :: ts, [], f, hv, _, _, _ => hv.elim
 | .rw k e :: rs, t :: ts, v0 :: vs, f, hvs, hk, hr, hn => by
  obtain ⟨hv, hvs⟩ := hvs
  simp only [gD, Bool.and_eq_true] at hr
  have hTy := hT.kt e k (HZ hr.1)
  unfold iL at hk
  split at hk
  ·have hids : dQ (FV.nsl :: ts) = dQ ts := rfl
   rw [hids] at hn ⊢
   obtain ⟨xs, own, h1, h2, h3, h4⟩ := fF hT h rs ts vs hvs hk hr.2 hn
   have hve : v0 = .slice none 0 0 := by
    rcases hv with hv | ⟨l, _, hl⟩
    ·exact hv
    ·exact hl.elim
   exact ⟨([], xs), own, h1, h2, h3, fun A hA hB => ⟨_, _, [], own, rfl, rfl, ⟨hTy, none, 0, hve, Nat.le_refl _, .inl ⟨rfl, rfl⟩⟩, h4 A hA hB⟩⟩
  ·obtain ⟨o, wn, nn, k', e', rw_, ys, hx, ho, hk⟩ := cI hk
   have hh := bI hk
   clear hk
   obtain ⟨⟨he, hrw⟩, hk⟩ := hh
   subst hrw
   have hh := bR hk
   clear hk
   obtain ⟨he', hk⟩ := hh
   subst he'
   have hids : dQ (t :: ts) = o :: dQ ts := by simp [dQ, hx]
   rw [hids] at hn ⊢
   simp only [kF, Bool.and_eq_true] at hn
   obtain ⟨xs, own, h1, h2, h3, h4⟩ := fF hT h rs ts vs hvs hk hr.2 hn.2
   rw [hx] at hv
   obtain ⟨k1, e1, rw1, xs1, ho1, ad, cap, off, len, hw, hxe, hl, hc1, hc2, _⟩ := hv.sl_inv
   rw [ho] at ho1
   cases ho1
   obtain ⟨_, hxl, hmem, hro, hrow⟩ := h.objs o _ ho
   obtain ⟨hrw', hwl⟩ := hrow.winC hw
   have hpc := hc1 rfl
   by_cases hcap : 0 < cap
   ·have hocc : occ (pl o) (.row k' e' true ys) := ⟨rfl, by omega⟩
    obtain ⟨row, tt, hrm, hsz⟩ := hmem rfl (by omega)
    have hnot : (pl o).b ∉ own := fun hb => by
     obtain ⟨o', g1, obj, g2, g3, g4⟩ := h3 _ hb
     by_cases e : o' = o
     ·subst e
      rw [dF g1] at hn
      simp at hn
     ·exact h.sep o' o obj _ e g2 ho g3 hocc g4
    refine ⟨(win ys wn, xs), (pl o).b :: own, h1, List.nodup_cons.2 ⟨hnot, h2⟩, fun b hb => ?_, fun A hA hB => ⟨_, _, [(pl o).b], own, rfl, rfl, ⟨hTy, ad, cap, by rw [hwl]; exact hxe, by rw [hwl]; exact hl, .inr ⟨(pl o).b, (pl o).off + off * k'.size, row, tt, hcap, rfl, hc2 (.inr ⟨rfl, hcap⟩), hrw'.mono hA, hrm, ?_⟩⟩, h4 A hA (fun o' ho' b hb e => ?_)⟩⟩
    ·rcases List.mem_cons.1 hb with rfl | hb
     ·exact ⟨o, by simp, _, ho, hocc, rfl⟩
     ·obtain ⟨o', g1, g2⟩ := h3 b hb
      exact ⟨o', by simp [g1], g2⟩
    ·have : off * k'.size + cap * k'.size = (pl o).cap * k'.size := by rw [← Nat.add_mul, hpc]
     omega
    ·rcases hB o' (by simp [ho']) b hb e with h5 | h5
     ·rcases List.mem_cons.1 h5 with h5 | h5
      ·right
       rintro ⟨obj, g2, g3⟩
       have hne : o' ≠ o := fun e => by subst e; rw [dF ho'] at hn; simp at hn
       exact h.sep o' o obj _ hne g2 ho g3 hocc (e.symm.trans h5)
      ·exact .inl h5
     ·exact .inr h5
   ·refine ⟨(win ys wn, xs), own, h1, h2, fun b hb => ?_, fun A hA hB => ⟨_, _, [], own, rfl, rfl, ⟨hTy, ad, cap, by rw [hwl]; exact hxe, by rw [hwl]; exact hl, .inl ⟨by omega, rfl⟩⟩, h4 A hA (fun o' ho' b hb e => hB o' (by simp [ho']) b hb e)⟩⟩
    obtain ⟨o', g1, g2⟩ := h3 b hb
    exact ⟨o', by simp [g1], g2⟩
 | .ro k e :: rs, t :: ts, [], f, hv, _, _, _ => hv.elim
 | .ro k e :: rs, t :: ts, v0 :: vs, f, hvs, hk, hr, hn => by
  obtain ⟨hv, hvs⟩ := hvs
  simp only [gD, Bool.and_eq_true] at hr
  have hTy := hT.kt e k (HZ hr.1)
  unfold iL at hk
  split at hk
  ·have hids : dQ (FV.nsl :: ts) = dQ ts := rfl
   rw [hids] at hn ⊢
   obtain ⟨xs, own, h1, h2, h3, h4⟩ := fF hT h rs ts vs hvs hk hr.2 hn
   have hve : v0 = .slice none 0 0 := by
    rcases hv with hv | ⟨l, _, hl⟩
    ·exact hv
    ·exact hl.elim
   exact ⟨([], xs), own, h1, h2, h3, fun A hA hB => ⟨_, _, [], own, rfl, rfl, ⟨hTy, rfl, none, 0, hve, Nat.le_refl _, fun hne => absurd rfl hne⟩, h4 A hA hB⟩⟩
  ·rename_i e1 k1 zs
   obtain ⟨he, hk⟩ := bI hk
   have hh := bR hk
   clear hk
   obtain ⟨he', hk⟩ := hh
   subst he'
   subst he
   have hids : dQ (FV.dat (.sl e1 k1) zs :: ts) = dQ ts := rfl
   rw [hids] at hn ⊢
   obtain ⟨xs, own, h1, h2, h3, h4⟩ := fF hT h rs ts vs hvs hk hr.2 hn
   obtain ⟨cs, hc, hvv⟩ := hv.dat_inv
   obtain ⟨ad, cap, hcs, hle, hrow⟩ := hc
   simp only [K.isPair, Bool.false_eq_true, if_false] at hvv
   rw [hvv] at hcs
   have hve : v0 = .slice ad zs.length cap := by simpa using hcs
   refine ⟨(zs, xs), own, h1, h2, h3, fun A hA hB => ⟨_, _, [], own, rfl, rfl, ⟨hTy, rfl, ad, cap, hve, hle, fun hne => ?_⟩, h4 A hA hB⟩⟩
   obtain ⟨b, off, hab, hb, hr'⟩ := hrow.resolve_left hne
   refine ⟨b, off, hab, fun hAb => hb (hA b hAb), fun i z hz => ?_⟩
   obtain ⟨ds, g1, g2⟩ := hr' i z hz
   exact ⟨ds, g1.mono hA, g2⟩
  ·obtain ⟨o, wn, nn, k', e', rw_, ys, hx, ho, hk⟩ := cI hk
   obtain ⟨he, hk⟩ := bI hk
   have hh := bR hk
   clear hk
   obtain ⟨he', hk⟩ := hh
   subst he'
   have hids : dQ (t :: ts) = o :: dQ ts := by simp [dQ, hx]
   rw [hids] at hn ⊢
   simp only [kF, Bool.and_eq_true] at hn
   obtain ⟨xs, own, h1, h2, h3, h4⟩ := fF hT h rs ts vs hvs hk hr.2 hn.2
   rw [hx] at hv
   obtain ⟨k1, e1, rw1, xs1, ho1, ad, cap, off, len, hw, hxe, hl, hc1, hc2, _⟩ := hv.sl_inv
   rw [ho] at ho1
   cases ho1
   obtain ⟨_, hxl, hmem, hro, hrow⟩ := h.objs o _ ho
   obtain ⟨hrw', hwl⟩ := hrow.winC hw
   refine ⟨(win ys wn, xs), own, h1, h2, fun b hb => ?_, fun A hA hB => ⟨_, _, [], own, rfl, rfl, ⟨hTy, rfl, ad, cap, by rw [hwl]; exact hxe, by rw [hwl]; exact hl, fun hne => ?_⟩, h4 A hA (fun o' ho' b hb e => hB o' (by simp [ho']) b hb e)⟩⟩
   ·obtain ⟨o', g1, g2⟩ := h3 b hb
    exact ⟨o', by simp [g1], g2⟩
   ·have hlen : 0 < len := by have := eM hne; rw [hwl] at this; exact this
    have hys : ys ≠ [] := by
     have := hw.bd.1
     exact lU (by omega)
    refine ⟨_, _, hc2 (.inl hlen), fun hAb => ?_, hrw'.mono hA⟩
    cases rw_ with
    | false => exact hro rfl hys (hA _ hAb)
    | true =>
     have hocc : occ (pl o) (.row k' e' true ys) := ⟨rfl, by have := eM hys; omega⟩
     rcases hB o (by simp) _ hAb rfl with h5 | h5
     ·obtain ⟨o', g1, obj, g2, g3, g4⟩ := h3 _ h5
      by_cases e : o' = o
      ·subst e
       rw [dF g1] at hn
       simp at hn
      ·exact h.sep o' o obj _ e g2 ho g3 hocc g4
     ·exact h5 ⟨_, ho, hocc⟩
 | .ptr k e :: rs, t :: ts, [], f, hv, _, _, _ => hv.elim
 | .ptr k e :: rs, t :: ts, v0 :: vs, f, hvs, hk, hr, hn => by
  obtain ⟨hv, hvs⟩ := hvs
  simp only [gD, Bool.and_eq_true] at hr
  have hTy := hT.kt e k (HZ hr.1)
  unfold iL at hk
  split at hk
  ·rename_i o
   split at hk
   ·rename_i k' e' x ho
    obtain ⟨he, hk⟩ := bI hk
    have hh := iN hk
    clear hk
    obtain ⟨he', hk⟩ := hh
    subst he'
    have hids : dQ (FV.ptr o 0 0 :: ts) = o :: dQ ts := rfl
    rw [hids] at hn ⊢
    simp only [kF, Bool.and_eq_true] at hn
    obtain ⟨xs, own, h1, h2, h3, h4⟩ := fF hT h rs ts vs hvs hk hr.2 hn.2
    obtain ⟨k1, e1, rw1, xs1, ho1, hi0, hi1, hve⟩ := hv.ptr_inv
    rw [ho] at ho1
    cases ho1
    obtain ⟨_, hxl, hmem, hro, hrow⟩ := h.objs o _ ho
    have hocc : occ (pl o) (.row k' e' true [x]) := ⟨rfl, by simp at hxl; omega⟩
    obtain ⟨row, tt, hrm, hsz⟩ := hmem rfl hocc.2
    have hnot : (pl o).b ∉ own := fun hb => by
     obtain ⟨o', g1, obj, g2, g3, g4⟩ := h3 _ hb
     by_cases e : o' = o
     ·subst e
      rw [dF g1] at hn
      simp at hn
     ·exact h.sep o' o obj _ e g2 ho g3 hocc g4
    refine ⟨(x, xs), (pl o).b :: own, h1, List.nodup_cons.2 ⟨hnot, h2⟩, fun b hb => ?_, fun A hA hB => ⟨_, _, [(pl o).b], own, rfl, rfl, ⟨hTy, (pl o).b, (pl o).off, row, tt, rfl, by simpa using hve, hrow.mono hA, hrm, ?_⟩, h4 A hA (fun o' ho' b hb e => ?_)⟩⟩
    ·rcases List.mem_cons.1 hb with rfl | hb
     ·exact ⟨o, by simp, _, ho, hocc, rfl⟩
     ·obtain ⟨o', g1, g2⟩ := h3 b hb
      exact ⟨o', by simp [g1], g2⟩
    ·have := Nat.mul_le_mul_right k'.size (show 1 ≤ (pl o).cap from hocc.2)
     omega
    ·rcases hB o' (by simp [ho']) b hb e with h5 | h5
     ·rcases List.mem_cons.1 h5 with h5 | h5
      ·right
       rintro ⟨obj, g2, g3⟩
       have hne : o' ≠ o := fun e => by subst e; rw [dF ho'] at hn; simp at hn
       exact h.sep o' o obj _ hne g2 ho g3 hocc (e.symm.trans h5)
      ·exact .inl h5
     ·exact .inr h5
   ·cases hk
  ·cases hk
end
def P9 (P : Program) (tmps : Array Value) (w : World) : List (Nat × Option TypeId) → List Value → Prop
 | [], [] => True
 | r :: rs, v :: vs => (match r.2 with
  | none => v = tmps.getD r.1 undef
  | some ty => ∃ ad, tmps.getD r.1 undef = .pointer (some ad) ∧ (loadVar ty ad).run P w = .ok v w) ∧ P9 P tmps w rs vs
 | _, _ => False
theorem YR (P : Program) {fn : Func} {ts : List (Nat × Option TypeId)} (h : fn.results = (ts.map rvV).toArray) (tmps : Array Value) (w : World) {vs : List Value} (hv : P9 P tmps w ts vs) : (results fn tmps).run P w = .ok (FL vs) w := by
 have key : ∀ (f : ResultVar → Sem Value) (ts : List (Nat × Option TypeId)) (vs : List Value), (∀ u, f (.tmp u) = pure (tmps.getD u undef)) → (∀ a t, f (.cell a t) = (do loadVar t (← asAddr (tmps.getD a undef)))) → P9 P tmps w ts vs → ((ts.map rvV).mapM f).run P w = .ok vs w := by
  intro f ts
  induction ts with
  | nil => intro vs hf hc hv; cases vs with | nil => simp | cons v vs => exact hv.elim
  | cons r ts ih =>
   intro vs hf hc hv
   cases vs with
   | nil => exact hv.elim
   | cons v vs =>
    obtain ⟨h1, h2⟩ := hv
    obtain ⟨u, o⟩ := r
    cases o with
    | none =>
     simp only at h1
     subst h1
     rw [List.map_cons, List.mapM_cons, Sem.run_bind]
     simp only [rvV, hf, Sem.run_pure, Result.andThen_ok, Sem.run_bind, ih _ hf hc h2]
    | some ty =>
     obtain ⟨ad, g1, g2⟩ := h1
     have hone : (f (rvV (u, some ty))).run P w = .ok v w := by
      simp only at g1
      simp only [rvV, hc, g1, asAddr]
      simp [g2]
     rw [List.map_cons, List.mapM_cons, Sem.run_bind, hone]
     simp only [Result.andThen_ok, Sem.run_bind, ih _ hf hc h2, Sem.run_pure]
 unfold results
 rw [h, List.mapM_toArray]
 simp only [Sem.run_bind, Sem.run_map]
 rw [key _ ts vs (fun u => rfl) (fun a t => rfl) hv]
 cases vs with
 | nil => simp [FL]
 | cons t ts =>
  cases ts with
  | nil => simp [FL]
  | cons t' ts => simp [FL]
section
variable {E : Env} {pl : Nat → Pl} {Γ : Ctx} {w : World} {a : Act} {s : FState}
theorem aZ2 (hT : TabOk E.P Γ) (h : RelP E pl w a s) : ∀ (ts : List (Nat × Option TypeId)), (∀ r ∈ ts, ∀ ty, r.2 = some ty → rvF Γ s r ≠ .dead) → ∃ vs, P9 E.P a.tmps w ts vs ∧ A1 w (Av E s.objs pl) s.objs pl (ts.map (rvF Γ s)) vs
 | [], _ => ⟨[], trivial, trivial⟩
 | (t, o) :: ts, hd => by
  obtain ⟨vs, h1, h2⟩ := aZ2 hT h ts (fun r hr => hd r (by simp [hr]))
  cases o with
  | none => exact ⟨a.tmps.getD t undef :: vs, ⟨rfl, h1⟩, h.vals t, h2⟩
  | some ty =>
   have hdd := hd (t, some ty) (by simp) ty rfl
   unfold rvF at hdd
   simp only at hdd
   split at hdd
   ·rename_i o hx
    split at hdd
    ·rename_i k e rw_ x ho
     split at hdd
     ·rename_i hk
      have hv := h.vals t
      rw [hx] at hv
      obtain ⟨k1, e1, rw1, xs1, ho1, hi0, hi1, hve⟩ := hv.ptr_inv
      rw [ho] at ho1
      cases ho1
      obtain ⟨_, _, _, _, hrow⟩ := h.objs o _ ho
      obtain ⟨ds, hds, hcell⟩ := hrow 0 x rfl
      have hlen := hds.len
      obtain ⟨v, hvv⟩ : ∃ v, if k.isPair then v = Value.agg ds.toArray else ds = [v] := by
       by_cases hp : k.isPair = true
       ·exact ⟨_, by rw [if_pos hp]⟩
       ·have h1 : k.size = 1 := by cases k <;> first | rfl | simp [K.isPair] at hp
        rw [h1] at hlen
        obtain ⟨v, hv⟩ := List.length_eq_one_iff.1 hlen
        exact ⟨v, by rw [if_neg hp]; exact hv⟩
      have hrange : w.rangeAt (pl o).b (pl o).off ds := fun j u hu => by
       have hj := (List.getElem?_eq_some_iff.1 hu).1
       have := hcell j (by omega)
       rw [← hu, ← this]
       congr 2
       omega
      have hload := pG (hT.kt ty k hk) hrange hlen hvv
      refine ⟨v :: vs, ⟨⟨⟨(pl o).b, (pl o).off, none⟩, by rw [hve]; simp, hload⟩, h1⟩, ?_, h2⟩
      simp only [rvF, hx, ho, hk, if_true]
      exact .ofCells hds hvv
     ·exact absurd rfl hdd
    ·exact absurd rfl hdd
   ·exact absurd rfl hdd
end
theorem gA {s : FState} {β : Type} {r : β} : ∀ (rs : List RK) (ts : List FV) {f : DenR rs → Option β}, iL s rs ts f = some r → ∀ t ∈ ts, t ≠ .dead
 | [], [], f, _, t, ht => by simp at ht
 | [], t0 :: ts, f, hk, t, ht => by simp [iL] at hk
 | .dat k :: rs, [], f, hk, t, ht => by simp at ht
 | .nsl :: rs, [], f, hk, t, ht => by simp at ht
 | .rw k e :: rs, [], f, hk, t, ht => by simp at ht
 | .ro k e :: rs, [], f, hk, t, ht => by simp at ht
 | .ptr k e :: rs, [], f, hk, t, ht => by simp at ht
 | .dat k :: rs, t0 :: ts, f, hk, t, ht => by
  unfold iL at hk
  obtain ⟨x, rfl, hh⟩ := eJ hk
  rcases List.mem_cons.1 ht with rfl | ht
  ·simp
  ·exact gA rs ts hh t ht
 | .nsl :: rs, t0 :: ts, f, hk, t, ht => by
  unfold iL at hk
  split at hk
  ·rcases List.mem_cons.1 ht with rfl | ht
   ·simp
   ·exact gA rs ts hk t ht
  ·cases hk
 | .rw k e :: rs, t0 :: ts, f, hk, t, ht => by
  unfold iL at hk
  split at hk
  ·rcases List.mem_cons.1 ht with rfl | ht
   ·simp
   ·exact gA rs ts hk t ht
  ·obtain ⟨o, wn, nn, k', e', rw_, ys, rfl, ho, h1⟩ := cI hk
   obtain ⟨he, h2⟩ := bI h1
   obtain ⟨he', h3⟩ := bR h2
   clear hk
   have hk := h3
   rcases List.mem_cons.1 ht with rfl | ht
   ·simp
   ·exact gA rs ts hk t ht
 | .ro k e :: rs, t0 :: ts, f, hk, t, ht => by
  unfold iL at hk
  split at hk
  ·rcases List.mem_cons.1 ht with rfl | ht
   ·simp
   ·exact gA rs ts hk t ht
  ·obtain ⟨he, hk⟩ := bI hk
   obtain ⟨he', hk⟩ := bR hk
   rcases List.mem_cons.1 ht with rfl | ht
   ·simp
   ·exact gA rs ts hk t ht
  ·obtain ⟨o, wn, nn, k', e', rw_, ys, rfl, ho, h1⟩ := cI hk
   obtain ⟨he, h2⟩ := bI h1
   obtain ⟨he', h3⟩ := bR h2
   clear hk
   have hk := h3
   rcases List.mem_cons.1 ht with rfl | ht
   ·simp
   ·exact gA rs ts hk t ht
 | .ptr k e :: rs, t0 :: ts, f, hk, t, ht => by
  unfold iL at hk
  split at hk
  ·split at hk
   ·obtain ⟨he, hk⟩ := bI hk
    obtain ⟨he', hk⟩ := iN hk
    rcases List.mem_cons.1 ht with rfl | ht
    ·simp
    ·exact gA rs ts hk t ht
   ·cases hk
  ·cases hk
theorem aF6 : ∀ (ks : List AK) (d : DenA ks) (vs : List Value) (own : List Nat) {w : World} (A : Nat → Prop), ArgsRep w A ks d vs own → vs.length = ks.length := by
 intro ks
 induction ks with
 | nil => intro d vs own w A h; rw [h.1]; rfl
 | cons k ks ih => intro d vs own w A h; obtain ⟨v, vs', o1, o2, rfl, _, _, h4⟩ := h; simp [ih _ _ _ _ h4]
theorem TA {P : Program} {Γ : Ctx} {args : List AK} {N : Nat} (hT : TabOk P Γ) (hnt : args.length ≤ N) (ha : iF Γ args = true) {w : World} {Z : Nat → Prop} {vs : List Value} {own : List Nat} {d : DenA args} (hGk : GOk P w (· ∈ own)) (hZ : ∀ b, Z b → b < w.heap.size) (hnd : own.Nodup) (hown : ∀ b ∈ own, b < w.heap.size ∧ ¬ Z b)
  (hargs : ArgsRep w (fun b => Z b ∨ b ∈ own) args d vs own) : Rel ⟨P, w, (· ∈ own), Z, N, [], hGk⟩ w { tmps := vs.toArray ++ Array.replicate (N - vs.toArray.size) undef, defers := [] } (CK args d) := by
 have hvl := aF6 _ _ _ _ _ hargs
 obtain ⟨pl, hi⟩ := vK hT args 0 d vs own ha hnd hargs
 let E : Env := ⟨P, w, (· ∈ own), Z, N, [], hGk⟩
 have hOwn : ∀ b, Own (aC (rQ 0 args d)) pl b → b ∈ own := fun b ⟨o, obj, ho, hc, hb⟩ => hb ▸ (hi.objs o obj ho).2.2 hc
 have hAv : ∀ b, Av E (aC (rQ 0 args d)) pl b → Z b ∨ b ∈ own := fun b hb => hb.imp id (hOwn b)
 have hst : ∀ (A' : Nat → Prop), (∀ b, A' b → Z b ∨ b ∈ own) → Stay w (fun b => Z b ∨ b ∈ own) w A' := fun A' hA b _ hn => ⟨fun h => hn (hA b h), rfl⟩
 refine ⟨pl, fun t => ?_, fun o obj ho => ((hi.objs o obj ho).2.1).stay (hst _ hAv) (fun _ => rfl), hi.sep, fun b hb => ⟨(hown b (hOwn b hb)).1, .inl (hOwn b hb), (hown b (hOwn b hb)).2⟩, ⟨rfl, rfl, rfl, Nat.le_refl _, fun _ _ _ => rfl⟩, rfl, ?_, hZ⟩
 ·rcases xF (nW 0 args d) t with h | h
  ·show VRep _ _ _ _ (aE (nW 0 args d) t) _
   rw [h]; exact VRep.dead _
  ·obtain ⟨_, v, h2, h3⟩ := hi.vals t _ h
   have hlt := SA _ _ _ _ _ h
   have : (vs.toArray ++ Array.replicate (N - vs.toArray.size) undef).getD t undef = v := by
    rw [Array.getD_eq_getD_getElem?, Array.getElem?_append_left (by simp; omega)]
    simp at h2 ⊢
    rw [h2]; rfl
   rw [this]
   exact h3.move (fun k x cs hc => hc.stay (hst _ hAv)) (fun o obj ho => ⟨obj, ho, obj.like_refl, rfl⟩)
 ·show (vs.toArray ++ Array.replicate (N - vs.toArray.size) undef).size = N
  simp; omega
theorem TT {E : Env} {Γ : Ctx} {fn : Func} {rets : List RK} {ts : List (Nat × Option TypeId)} {own : List Nat} (hT : TabOk E.P Γ) (hr : gD Γ rets = true) (hres : fn.results = (ts.map rvV).toArray) (hown : E.own = (· ∈ own)) {x : DenR rets} {a' : Act} {w' : World} (hg : Goes E (fin Γ rets ts) x a' w') :
  a'.defers = E.dfs ∧ ∃ v, (results fn a'.tmps).run E.P w' = .ok v w' ∧ (∃ us own', Ending.returned v = .returned (FL us) ∧ RessRep E.P w' (fun b => E.Z b ∨ b ∈ own') rets x us own' ∧ own'.Nodup ∧ (∀ b ∈ own', (b ∈ own ∨ E.w0.heap.size ≤ b) ∧ b < w'.heap.size) ∧ Fr E.w0 (· ∈ own) w') := by
 obtain ⟨s', ⟨pl', h'⟩, hk⟩ := hg
 unfold fin at hk
 obtain ⟨hnd', hk⟩ := eD hk
 obtain ⟨vs', hres', hall⟩ := aZ2 (E := E) hT h' ts (fun q hq ty _ => gA _ _ hk _ (List.mem_map.2 ⟨q, hq, rfl⟩))
 obtain ⟨y, own', h1, h2, h3, h4⟩ := fF (E := E) hT h' rets _ _ hall hk hr hnd'
 cases h1
 have hOwn' : ∀ b ∈ own', Own s'.objs pl' b := fun b hb => by obtain ⟨o, _, obj, g1, g2, g3⟩ := h3 b hb; exact ⟨o, obj, g1, g2, g3⟩
 have hfr := h'.frame
 rw [hown] at hfr
 refine ⟨h'.dfr, _, YR E.P hres a'.tmps w' hres', _, own', rfl, h4 _ (fun b hb => hb.imp id (hOwn' b)) (fun o ho b hb e => ?_), h2, fun b hb => ⟨?_, (h'.fresh b (hOwn' b hb)).1⟩, hfr⟩
 ·rcases hb with hb | hb
  ·right
   rintro ⟨obj, g1, g2⟩
   exact (h'.fresh _ ⟨o, obj, g1, g2, rfl⟩).2.2 (e ▸ hb)
  ·exact .inl hb
 ·have := (h'.fresh b (hOwn' b hb)).2.1
  rw [hown] at this
  exact this
theorem RI {P : Program} {f : FuncId} {fn : Func} {c : Code} {S : bG} {Γ : Ctx} {n : Nat} {sk : Sk} {ts : List (Nat × Option TypeId)} (hf : P.funcs[f]? = some fn) (hb : fn.body = some c) (hcall : aH P f) (hΓ : CtxOk P Γ) (hN : pJ Γ) (hm : P.follows .mixedOrders = true)
  (hnat : ∀ {β : Type} (d : DenA S.args) (κ : DenR S.rets → Option β) (r : β), S.app d κ = some r → ∃ x, S.app d some = some x ∧ κ x = some r)
  (hres : fn.results = (ts.map rvV).toArray) (hB : kK fn.ntmps c = true) (hnt : S.args.length ≤ fn.ntmps) (ha : iF Γ S.args = true) (hr : gD Γ S.rets = true)
  (hX : ∀ (d : DenA S.args) (x : DenR S.rets), S.app d some = some x → FX Γ n c sk (CK S.args d) (cB Γ S.rets ts) = some x) : SK P f S := by
 refine ⟨hcall, hnat, fun w Z vs own d x hGk hZ hnd hown hargs hx => ?_⟩
 have hwp := CN (E := ⟨P, w, (· ∈ own), Z, fn.ntmps, [], hGk⟩) hΓ hN hm n c sk (CK S.args d) (cB Γ S.rets ts) _ w hB (TA hΓ.tab hnt ha hGk hZ hnd hown hargs) (hX d x hx)
 refine calls_of_wp hf hb (wp_mono hwp ?_)
 intro e a' w' hq
 cases e with
 | normal => exact TT (own := own) hΓ.tab hr hres rfl hq
 | ret => exact TT (own := own) hΓ.tab hr hres rfl hq
 | exit id => obtain ⟨s', _, hk⟩ := hq; cases hk
 | _ => exact hq.elim
theorem H4 {P : Program} {ops : Array Oper} {Q : Exit → Act → World → Prop} {i : Nat} {K : Act → World → Prop} {a : Act} {w : World} {o : Oper} (ho : ops[i]? = some o) (hg : o.guard = none) (h : o.wp P a w K Q) : wpOp P ops Q i K a w := by
 unfold wpOp
 rw [ho]
 have : Region.wanted o (yielded ops a.tmps) = true := by unfold Region.wanted; rw [hg]
 simp only [this, if_true]
 exact .inl h
def cC5 (P : Program) (g : FuncId) (n : Nat) : Prop := ∀ (vs : Array Value) (w : World), vs.size = n → CallsD P g vs .returning w fun e u' w' => e = .returned (.tuple #[]) ∧ u' = .returning ∧ w' = w
theorem FK {P : Program} {f g : FuncId} {fn : Func} {c0 c1 : Code} {S : bG} {Γ : Ctx} {n : Nat} {sk0 sk1 : Sk} {ts : List (Nat × Option TypeId)} {id : Nat} {tm : Tmp} {caps : Array Operand} {ty1 ty2 : TypeId} {pos1 pos2 : String} {af1 af2 : Array Edge}
  (hf : P.funcs[f]? = some fn) (hb : fn.body = some (.seq c0 (.seq (.region id #[⟨some tm, .makeFunc (.func g) #[] caps, ty1, pos1, af1, none⟩, ⟨none, .defer { callee := .value (.tmp tm), args := #[], argTypes := #[] }, ty2, pos2, af2, none⟩] false) c1)))
  (hcall : aH P f) (hΓ : CtxOk P Γ) (hN : pJ Γ) (hm : P.follows .mixedOrders = true) (hg : aH P g) (hidle : cC5 P g caps.size)
  (hnat : ∀ {β : Type} (d : DenA S.args) (κ : DenR S.rets → Option β) (r : β), S.app d κ = some r → ∃ x, S.app d some = some x ∧ κ x = some r)
  (hres : fn.results = (ts.map rvV).toArray) (hB0 : kK fn.ntmps c0 = true) (hB1 : kK fn.ntmps c1 = true) (htm : tm < fn.ntmps) (hnt : S.args.length ≤ fn.ntmps) (ha : iF Γ S.args = true) (hr : gD Γ S.rets = true)
  (hX : ∀ (d : DenA S.args) (x : DenR S.rets), S.app d some = some x → FX Γ n c0 sk0 (CK S.args d) ⟨fun s => FX Γ n c1 sk1 (s.set tm .dead) (cB Γ S.rets ts), fun _ => none, fun _ _ => none⟩ = some x) : SK P f S := by
 refine ⟨hcall, hnat, fun w Z vs own d x hGk hZ hnd hown hargs hx => ?_⟩
 have hwp := CN (E := ⟨P, w, (· ∈ own), Z, fn.ntmps, [], hGk⟩) hΓ hN hm n c0 sk0 (CK S.args d) _ _ w hB0 (TA hΓ.tab hnt ha hGk hZ hnd hown hargs) (hX d x hx)
 refine calls_of_wp_defers hf hb (wp_seq (wp_mono hwp ?_))
 intro e a w1 hq
 cases e with
 | normal =>
  obtain ⟨s, ⟨pl, h⟩, hk⟩ := hq
  refine wp_seq (wp_region ?_)
  have hput := h.put (d := some tm) (fun t ht => by cases ht; exact htm) (f := .dead) (v := .func (.func g) #[] (caps.map a.eval)) (VRep.dead _)
  have hget : (a.put (some tm) (.func (.func g) #[] (caps.map a.eval))).tmps.getD tm undef = .func (.func g) #[] (caps.map a.eval) := by
   have := RU a tm (.func (.func g) #[] (caps.map a.eval)) (by rw [h.N]; exact htm) tm
   rw [this, if_pos rfl]
  have hrel : RelP ⟨P, w, (· ∈ own), Z, fn.ntmps, [{ target := .fn (.func g) (caps.map a.eval), args := #[] }], hGk⟩ pl w1 { (a.put (some tm) (.func (.func g) #[] (caps.map a.eval))) with defers := [{ target := .fn (.func g) (caps.map a.eval), args := #[] }] } (s.put (some tm) .dead) :=
   ⟨hput.vals, hput.objs, hput.sep, hput.fresh, hput.frame, rfl, hput.N, hput.zlt⟩
  have hwp1 := CN (E := ⟨P, w, (· ∈ own), Z, fn.ntmps, [{ target := .fn (.func g) (caps.map a.eval), args := #[] }], hGk⟩) hΓ hN hm n c1 sk1 _ _ _ w1 hB1 ⟨pl, hrel⟩ hk
  have hfin := wp_mono (Q' := bodyPostD P fn fun e w' => ∃ us own', e = .returned (FL us) ∧ RessRep P w' (fun b => Z b ∨ b ∈ own') S.rets x us own' ∧ own'.Nodup ∧ (∀ b ∈ own', (b ∈ own ∨ w.heap.size ≤ b) ∧ b < w'.heap.size) ∧ Fr w (· ∈ own) w') hwp1 (by
   have hend : ∀ a' w', Goes ⟨P, w, (· ∈ own), Z, fn.ntmps, [{ target := .fn (.func g) (caps.map a.eval), args := #[] }], hGk⟩ (fin Γ S.rets ts) x a' w' → Leaves P fn a'.tmps (fun e w' => ∃ us own', e = .returned (FL us) ∧ RessRep P w' (fun b => Z b ∨ b ∈ own') S.rets x us own' ∧ own'.Nodup ∧ (∀ b ∈ own', (b ∈ own ∨ w.heap.size ≤ b) ∧ b < w'.heap.size) ∧ Fr w (· ∈ own) w') a'.defers .returning w' := fun a' w' hq => by
    obtain ⟨hdf, v, hv, hR⟩ := TT (own := own) hΓ.tab hr hres rfl hq
    rw [hdf]
    refine leaves_cons (f := g) (args := caps.map a.eval) (by simp) (by simp [invoke, tF P g hg]) ((hidle _ _ (by simp)).mono ?_)
    rintro e u w2 ⟨rfl, rfl, rfl⟩
    exact ⟨v, hv, hR⟩
   intro e a' w' hq
   cases e with
   | normal => exact hend a' w' hq
   | ret => exact hend a' w' hq
   | exit id => obtain ⟨s', _, hk⟩ := hq; cases hk
   | _ => exact hq.elim)
  have had : a.defers = [] := h.dfr
  have hpd : (a.put (some tm) (.func (.func g) #[] (caps.map a.eval))).defers = [] := by rw [cJ7]; exact had
  have h1 : (execOp a.eval (⟨some tm, .makeFunc (.func g) #[] caps, ty1, pos1, af1, none⟩ : Oper)).run P w1 = .ok (.value (.func (.func g) #[] (caps.map a.eval))) w1 := by simp [execOp, Instr.makeFunc]
  have h2 : (execOp (a.put (some tm) (.func (.func g) #[] (caps.map a.eval))).eval (⟨none, .defer { callee := .value (.tmp tm), args := #[], argTypes := #[] }, ty2, pos2, af2, none⟩ : Oper)).run P w1 = .ok (.defer { target := .fn (.func g) (caps.map a.eval), args := #[] }) w1 := by
   have he : (a.put (some tm) (.func (.func g) #[] (caps.map a.eval))).eval (.tmp tm) = .func (.func g) #[] (caps.map a.eval) := hget
   simp [execOp, resolve, he, Deferred.ofValue]
  show wpOps P _ _ [0, 1] a w1
  rw [wpOps_cons]
  refine H4 (o := ⟨some tm, .makeFunc (.func g) #[] caps, ty1, pos1, af1, none⟩) rfl rfl ?_
  unfold Oper.wp
  rw [h1, Oper.upon_value, wpOps_cons]
  refine H4 (o := ⟨none, .defer { callee := .value (.tmp tm), args := #[], argTypes := #[] }, ty2, pos2, af2, none⟩) rfl rfl ?_
  unfold Oper.wp
  rw [h2, Oper.upon_defer]
  simp only [wpOps, Exit.then, hpd]
  exact hfin
 | ret => obtain ⟨s, _, hk⟩ := hq; cases hk
 | exit id => obtain ⟨s, _, hk⟩ := hq; cases hk
 | _ => exact hq.elim
end Go.Proofs.YticibdjilmclgaaDoorZF

namespace Go.Proofs.YticibdjilmclgaaDoorZF
open Go
set_option linter.unusedVariables false
def nR : Code → Operand
 | .cond c _ _ => c
 | _ => .tmp 0
def nav : Code → List Nat → Code
 | c, [] => c
 | .seq a b, i :: l => bif Nat.beq i 0 then nav a l else nav b l
 | .cond _ a b, i :: l => bif Nat.beq i 0 then nav a l else nav b l
 | .block _ a, _ :: l => nav a l
 | .loop a, _ :: l => nav a l
 | c, _ => c
def fb (f : Func) : Code := f.body.getD .skip
def rd {α : Type} (xs : List α) (i : Int) (d : α) : α := xs.getD i.toNat d
def w64 (n : Int) : Int := IntKind.i64.wrap n
def nz {β : Type} (b : Int) (κ : Option β) : Option β := if b = 0 then none else κ
def dS3 {β : Type} (b : Int) (κ : Option β) : Option β := if b < 0 then none else κ
def nT {β : Type} (z : ByteArray) (κ : Option β) : Option β := bif Nat.ble z.size 70368744177664 then κ else none
def aI (args : List AK) (rets : List RK) (f : DenA args → Option (DenR rets)) : bG := { args := args, rets := rets, app := fun d κ => (f d).bind κ }
theorem nH {args : List AK} {rets : List RK} (f : DenA args → Option (DenR rets)) {β : Type} (d : DenA args) (κ : DenR rets → Option β) (r : β) (h : (aI args rets f).app d κ = some r) : ∃ x, (aI args rets f).app d some = some x ∧ κ x = some r := by
 have h' : (f d).bind κ = some r := h
 show ∃ x, (f d).bind some = some x ∧ κ x = some r
 cases hf : f d with
 | none => rw [hf] at h'; cases h'
 | some x => rw [hf] at h'; exact ⟨x, rfl, h'⟩
theorem nQ {args : List AK} {rets : List RK} (f : DenA args → Option (DenR rets)) (d : DenA args) (x : DenR rets) (h : (aI args rets f).app d some = some x) {γ : Type} (κ : DenR rets → Option γ) : (aI args rets f).app d κ = κ x := by
 have h' : (f d).bind some = some x := h
 show (f d).bind κ = κ x
 cases hf : f d with
 | none => rw [hf] at h'; cases h'
 | some y => rw [hf] at h'; cases h'; rfl
structure Fit (P : Program) (f : FuncId) (S : bG) : Prop where
 holds : SK P f S
 app : ∀ (d : DenA S.args) (x : DenR S.rets), S.app d some = some x → ∀ {γ : Type} (κ : DenR S.rets → Option γ), S.app d κ = κ x
def lkS : List (Nat × bG) → Nat → Option bG
 | [], _ => none
 | (a, x) :: l, n => bif Nat.beq a n then some x else lkS l n
def FitAll (P : Program) : List (Nat × bG) → Prop
 | [] => True
 | p :: l => Fit P p.1 p.2 ∧ FitAll P l
theorem FitAll.get {P : Program} : ∀ {l : List (Nat × bG)}, FitAll P l → ∀ f S, lkS l f = some S → Fit P f S
 | [], _, f, S, h => by cases h
 | (a, x) :: l, hl, f, S, h => by
  unfold lkS at h
  by_cases e : a = f
  ·subst e
   rw [Nat.beq_refl, cond_true] at h
   cases h
   exact hl.1
  ·rw [fN e, cond_false] at h
   exact hl.2.get f S h
theorem bZ8 {P : Program} {Γ : Ctx} (hT : TabOk P Γ) (c : Nat → Option bG) : TabOk P { Γ with calls := c } := ⟨hT.kt, hT.se, hT.fos, hT.eqs⟩
theorem cY0 {P : Program} {Γ : Ctx} {l : List (Nat × bG)} (hT : TabOk P Γ) (hl : FitAll P l) : CtxOk P { Γ with calls := lkS l } :=
 ⟨bZ8 hT _, fun f S h => (hl.get f S h).holds⟩
theorem natOk {P : Program} {Γ : Ctx} {l : List (Nat × bG)} (hl : FitAll P l) : pJ { Γ with calls := lkS l } :=
 ⟨fun f S h _ => (hl.get f S h).holds.nat, fun f S h => (hl.get f S h).app⟩
def CB (P : Program) (t : TypeId) (k : K) : Bool :=
 match P.underlying t, k with
 | some (.int k'), .int k => decide (k' = k)
 | some .bool, .bool => true
 | some .string, .str => true
 | some (.float k'), .flt k => decide (k' = k)
 | some (.interface _), .err => true
 | some (.struct _), .pair _ _ => true
 | some (.slice e'), .sl e _ => Nat.beq e' e
 | _, _ => false
theorem bC {P : Program} {t : TypeId} {k : K} (h : CB P t k = true) : cC2 P t k := by
 unfold CB at h
 split at h
 ·rename_i hu; simp at h; subst h; exact hu
 ·rename_i hu; exact hu
 ·rename_i hu; exact hu
 ·rename_i hu; simp at h; subst h; exact hu
 ·rename_i hu; exact ⟨_, hu⟩
 ·rename_i hu; exact ⟨_, hu⟩
 ·rename_i hu; have := Nat.eq_of_beq_eq_true h; subst this; exact hu
 ·cases h
def ktOk (P : Program) : List (Nat × K) → Prop
 | [] => True
 | p :: l => TyOk P p.1 p.2 ∧ ktOk P l
def seOk (P : Program) : List (Nat × Nat) → Prop
 | [] => True
 | p :: l => P.underlying p.1 = some (.slice p.2) ∧ seOk P l
def foOk (P : Program) : List (Nat × List (Nat × Nat)) → Prop
 | [] => True
 | p :: l => FoOk P p.1 p.2 ∧ foOk P l
theorem KC {α : Type} : ∀ {l : List (Nat × α)} {n : Nat} {x : α}, lk l n = some x → (n, x) ∈ l
 | [], n, x, h => by cases h
 | (a, y) :: l, n, x, h => by
  unfold lk at h
  by_cases e : a = n
  ·subst e; rw [Nat.beq_refl, cond_true] at h; cases h; simp
  ·rw [fN e, cond_false] at h; exact List.mem_cons_of_mem _ (KC h)
theorem ktOk.get {P : Program} : ∀ {l : List (Nat × K)}, ktOk P l → ∀ p ∈ l, TyOk P p.1 p.2
 | [], _, p, h => by cases h
 | q :: l, hl, p, h => by rcases List.mem_cons.1 h with rfl | h; exact hl.1; exact hl.2.get p h
theorem seOk.get {P : Program} : ∀ {l : List (Nat × Nat)}, seOk P l → ∀ p ∈ l, P.underlying p.1 = some (.slice p.2)
 | [], _, p, h => by cases h
 | q :: l, hl, p, h => by rcases List.mem_cons.1 h with rfl | h; exact hl.1; exact hl.2.get p h
theorem foOk.get {P : Program} : ∀ {l : List (Nat × List (Nat × Nat))}, foOk P l → ∀ p ∈ l, FoOk P p.1 p.2
 | [], _, p, h => by cases h
 | q :: l, hl, p, h => by rcases List.mem_cons.1 h with rfl | h; exact hl.1; exact hl.2.get p h
theorem cI3 {x : Nat} : ∀ {l : List Nat}, jZ x l = true → x ∈ l := jD
theorem dQ5 {P : Program} {kt : List (Nat × K)} {se : List (Nat × Nat)} {fo : List (Nat × List (Nat × Nat))} {eq : List Nat} (h1 : ktOk P kt) (h2 : seOk P se) (h3 : foOk P fo) (h4 : eq.all (MX P kt) = true) : TabOk P ⟨kt, se, fo, eq, fun _ => none⟩ :=
 ⟨fun t k h => h1.get _ (KC h), fun t e h => h2.get _ (KC h), fun t l h => h3.get _ (KC h), fun t h => List.all_eq_true.1 h4 t (jD h)⟩
theorem bV {P : Program} {f : FuncId} {fn : Func} {c : Code} {args : List AK} {rets : List RK} {g : DenA args → Option (DenR rets)} {Γ : Ctx} {l : List (Nat × bG)} {n : Nat} {sk : Sk} {ts : List (Nat × Option TypeId)}
  (hf : P.funcs[f]? = some fn) (hb : fn.body = some c) (hcall : aH P f) (hT : TabOk P Γ) (hl : FitAll P l) (hm : P.follows .mixedOrders = true)
  (hres : fn.results = (ts.map rvV).toArray) (hB : kK fn.ntmps c = true) (hnt : args.length ≤ fn.ntmps) (ha : iF { Γ with calls := lkS l } args = true) (hr : gD { Γ with calls := lkS l } rets = true)
  (hX : ∀ (d : DenA args), FX { Γ with calls := lkS l } n c sk (CK args d) (cB { Γ with calls := lkS l } rets ts) = g d) : Fit P f (aI args rets g) := by
 refine ⟨RI (Γ := { Γ with calls := lkS l }) (n := n) (sk := sk) hf hb hcall (cY0 hT hl) (natOk hl) hm (nH g) hres hB hnt ha hr (fun d x hx => ?_), nQ g⟩
 have hx' : Option.bind (g d) some = some x := hx
 refine (hX d).trans ?_
 cases hg : g d with
 | none => rw [hg] at hx'; cases hx'
 | some y => rw [hg] at hx'; exact hx'
theorem kJ {P : Program} {f : FuncId} {args : List AK} {rets : List RK} (hcall : aH P f) : Fit P f (aI args rets fun _ => none) :=
 ⟨⟨hcall, nH _, fun w Z vs own d x _ _ _ _ _ hx => by cases (show (none : Option (DenR rets)).bind some = some x from hx)⟩, nQ _⟩
def UR : Code → Option (Code × Tmp × FuncId × Nat × Code)
 | .seq c0 (.seq (.region _ ⟨[o1, o2]⟩ false) c1) => (match o1.dst, o1.op, o1.guard, o2.dst, o2.op, o2.guard with
  | some tm, .makeFunc (.func g) ⟨[]⟩ caps, none, none, .defer ⟨.value (.tmp tm'), ⟨[]⟩, ⟨[]⟩⟩, none => bif Nat.beq tm' tm then some (c0, tm, g, caps.size, c1) else none
  | _, _, _, _, _, _ => none)
 | _ => none
theorem XR {c c0 c1 : Code} {tm : Tmp} {g : FuncId} {k : Nat} (h : UR c = some (c0, tm, g, k, c1)) :
  ∃ id caps ty1 ty2 pos1 pos2 af1 af2, caps.size = k ∧ c = .seq c0 (.seq (.region id #[⟨some tm, .makeFunc (.func g) #[] caps, ty1, pos1, af1, none⟩, ⟨none, .defer { callee := .value (.tmp tm), args := #[], argTypes := #[] }, ty2, pos2, af2, none⟩] false) c1) := by
 unfold UR at h
 split at h
 ·rename_i c0' id o1 o2 c1'
  obtain ⟨d1, op1, ty1, pos1, af1, g1⟩ := o1
  obtain ⟨d2, op2, ty2, pos2, af2, g2⟩ := o2
  simp only at h
  split at h
  ·rename_i tm1 g' caps tm'
   cases hb : Nat.beq tm' tm1 with
   | false => rw [hb] at h; cases h
   | true =>
    rw [hb] at h
    have := Nat.eq_of_beq_eq_true hb
    subst this
    cases h
    exact ⟨id, caps, ty1, ty2, pos1, pos2, af1, af2, rfl, rfl⟩
  ·cases h
 ·cases h
theorem xS {P : Program} {f g : FuncId} {fn : Func} {c c0 c1 : Code} {args : List AK} {rets : List RK} {h : DenA args → Option (DenR rets)} {Γ : Ctx} {l : List (Nat × bG)} {n k : Nat} {sk0 sk1 : Sk} {ts : List (Nat × Option TypeId)} {tm : Tmp}
  (hf : P.funcs[f]? = some fn) (hb : fn.body = some c) (hw : UR c = some (c0, tm, g, k, c1)) (hcall : aH P f) (hT : TabOk P Γ) (hl : FitAll P l) (hm : P.follows .mixedOrders = true) (hg : aH P g) (hidle : cC5 P g k)
  (hres : fn.results = (ts.map rvV).toArray) (hB0 : kK fn.ntmps c0 = true) (hB1 : kK fn.ntmps c1 = true) (htm : tm < fn.ntmps) (hnt : args.length ≤ fn.ntmps) (ha : iF { Γ with calls := lkS l } args = true) (hr : gD { Γ with calls := lkS l } rets = true)
  (hX : ∀ (d : DenA args), FX { Γ with calls := lkS l } n c0 sk0 (CK args d) ⟨fun s => FX { Γ with calls := lkS l } n c1 sk1 (s.set tm .dead) (cB { Γ with calls := lkS l } rets ts), fun _ => none, fun _ _ => none⟩ = h d) : Fit P f (aI args rets h) := by
 obtain ⟨id, caps, ty1, ty2, pos1, pos2, af1, af2, rfl, rfl⟩ := XR hw
 refine ⟨FK (Γ := { Γ with calls := lkS l }) (n := n) (sk0 := sk0) (sk1 := sk1) hf hb hcall (cY0 hT hl) (natOk hl) hm hg hidle (nH h) hres hB0 hB1 htm hnt ha hr (fun d x hx => ?_), nQ h⟩
 have hx' : Option.bind (h d) some = some x := hx
 refine (hX d).trans ?_
 cases hg' : h d with
 | none => rw [hg'] at hx'; cases hx'
 | some y => rw [hg'] at hx'; exact hx'
theorem dS6 {vs : Array Value} (h : vs.size = 1) : ∃ a, vs = #[a] := by
 obtain ⟨l⟩ := vs
 match l, h with
 | [a], _ => exact ⟨a, rfl⟩
theorem dQ2 {vs : Array Value} (h : vs.size = 2) : ∃ a b, vs = #[a, b] := by
 obtain ⟨l⟩ := vs
 match l, h with
 | [a, b], _ => exact ⟨a, b, rfl⟩
theorem dS5 {vs : Array Value} (h : vs.size = 3) : ∃ a b c, vs = #[a, b, c] := by
 obtain ⟨l⟩ := vs
 match l, h with
 | [a, b, c], _ => exact ⟨a, b, c, rfl⟩
def WL : List AK → Bool
 | [] => true
 | .dat _ :: l => WL l
 | _ => false
theorem yA {w : World} {A : Nat → Prop} : ∀ {ks : List AK} {d : DenA ks} {vs : List Value} {own : List Nat}, WL ks = true → ArgsRep w A ks d vs own → own = []
 | [], _, _, _, _, h => h.2
 | .dat k :: ks, d, vs, own, hk, h => by
  obtain ⟨v, vs', o1, o2, rfl, rfl, h1, h2⟩ := h
  rw [h1.1, yA (ks := ks) hk h2]; rfl
 | .ro _ _ :: _, _, _, _, hk, _ => by cases hk
 | .rw _ _ :: _, _, _, _, hk, _ => by cases hk
 | .pro _ _ :: _, _, _, _, hk, _ => by cases hk
theorem ResRep.mono' {P : Program} {w : World} {A A' : Nat → Prop} (hA : ∀ b, A' b → A b) : ∀ {k : RK} {x : k.den} {v : Value} {own : List Nat}, ResRep P w A k x v own → ResRep P w A' k x v own
 | .dat k, x, v, own, h => (ArgRep.mono (k := .dat k) hA (show ArgRep w A (.dat k) x v own from h) : ArgRep w A' (.dat k) x v own)
 | .rw k e, x, v, own, h => ⟨h.1, ArgRep.mono (k := .rw k e) hA h.2⟩
 | .nsl, x, v, own, h => h
 | .ro k e, x, v, own, h => ⟨h.1, ArgRep.mono (k := .ro k e) hA h.2⟩
 | .ptr _ _, _, _, _, ⟨h, b, off, cs, t, h1, h2, h3, h4⟩ => ⟨h, b, off, cs, t, h1, h2, h3.mono hA, h4⟩
theorem RessRep.mono' {P : Program} {w : World} {A A' : Nat → Prop} (hA : ∀ b, A' b → A b) : ∀ {ks : List RK} {x : DenR ks} {vs : List Value} {own : List Nat}, RessRep P w A ks x vs own → RessRep P w A' ks x vs own
 | [], _, _, _, h => h
 | k :: ks, _, _, _, ⟨v, vs', o1, o2, h1, h2, h3, h4⟩ => ⟨v, vs', o1, o2, h1, h2, h3.mono' hA, h4.mono' hA⟩
theorem tL {P : Program} {f : FuncId} {args : List AK} {rets : List RK} {g : DenA args → Option (DenR rets)} (hcall : aH P f) (ha : WL args = true)
  (h : ∀ (d : DenA args) (x : DenR rets) (w : World) (vs : List Value), GW P w → ArgsRep w (fun _ => False) args d vs [] → g d = some x →
   Calls P f vs.toArray w fun e w' => ∃ us, e = .returned (FL us) ∧ RessRep P w' (fun _ => True) rets x us [] ∧ Go.RowKit.Below w.heap.size w w') : Fit P f (aI args rets g) := by
 refine ⟨⟨hcall, nH g, fun w Z vs own d x hG hZ hnd hown hargs hx => ?_⟩, nQ g⟩
 obtain rfl := yA ha hargs
 have hx' : g d = some x := by
  have hx : Option.bind (g d) some = some x := hx
  cases hg : g d with
  | none => rw [hg] at hx; cases hx
  | some y => rw [hg] at hx; exact hx
 refine (h d x w vs hG.tab (hargs.mono fun b hb => hb.elim) hx').mono fun e w' ⟨us, he, hr, hb⟩ => ?_
 exact ⟨us, [], he, hr.mono' (fun _ _ => trivial), List.nodup_nil, fun b hb => (by cases hb), hb.os, hb.tape, hb.output, hb.size, fun b hb' _ => hb.block b hb'⟩
end Go.Proofs.YticibdjilmclgaaDoorZF

namespace Go.Proofs.YticibdjilmclgaaDoorZF
open Go Go.RowKit Go.ChangeShapes Go.WideShapes Go.Deep
set_option linter.unusedVariables false
set_option linter.unusedSimpArgs false
def tV : (k : K) → k.den → Prop
 | .int k, n => (Lit.int k n).wf = true
 | .bool, _ => True
 | .str, s => ByteArray.size s ≤ maxLen
 | .flt f, b => (Lit.float f b).wf = true
 | .err, _ => True
 | .pair a b, x => tV a x.1 ∧ tV b x.2
 | .sl _ k, xs => List.length xs ≤ maxLen ∧ ∀ y ∈ xs, tV k y
def mJ (P : Program) : K → (TypeId → Bool) × (List Field → Bool)
 | .int k => let T := fun t => CB P t (.int k); (T, fun | [f] => T f.type | _ => false)
 | .bool => let T := fun t => CB P t .bool; (T, fun | [f] => T f.type | _ => false)
 | .str => let T := fun t => CB P t .str; (T, fun | [f] => T f.type | _ => false)
 | .flt .f64 => let T := fun t => CB P t (.flt .f64); (T, fun | [f] => T f.type | _ => false)
 | .sl e k => let T := fun t => CB P t (.sl e k) && Nat.beq (P.cellsOf e) k.size && (mJ P k).1 e; (T, fun | [f] => T f.type | _ => false)
 | .pair a b =>
  let S : List Field → Bool := fun | f :: f' :: fs => (mJ P a).1 f.type && Nat.beq a.size 1 && (mJ P b).2 (f' :: fs) | _ => false
  (fun t => match P.underlying t with | some (.struct fs) => oneCellFields P fs && S fs.toList | _ => false, S)
 | _ => (fun _ => false, fun _ => false)
section
variable {H : Type} {enc : TypeId × Value → H} {P : Program} {w : World} {base : Nat} {spare : Nat → Bool} {held : Bool}
def mO (enc : TypeId × Value → H) (P : Program) (w : World) (base : Nat) (spare : Nat → Bool) (held : Bool) (k : K) (t : TypeId) : Prop :=
 ∀ (n : Nat) (cs : List Value) (x : DataW H × List MemPlace), cs.length = k.size → DataW.trod enc P w base spare held n t cs = some x → ∃ y : k.den, RepD w (fun _ => False) k y cs ∧ tV k y
theorem Z9 {k : IntKind} {e : TypeId} (he : P.underlying e = some (.int k)) : mO enc P w base spare held (.int k) e := by
 intro n cs x hl h
 obtain ⟨m, rfl, _, hw⟩ := DataW.trod_int he h
 exact ⟨m, rfl, hw⟩
theorem IY {e : TypeId} (he : P.underlying e = some .string) : mO enc P w base spare held .str e := by
 intro n cs x hl h
 obtain ⟨s, rfl, _, hw⟩ := DataW.trod_string he h
 exact ⟨s, rfl, hw⟩
theorem UD {e : TypeId} (he : P.underlying e = some .bool) : mO enc P w base spare held .bool e := by
 intro n cs x hl h
 have hb : ∃ b, cs = [Value.bool b] := by
  cases n with
  | zero => simp [DataW.trod] at h
  | succ n =>
   unfold DataW.trod at h
   rw [he] at h
   split at h
   all_goals first | exact ⟨_, rfl⟩ | simp_all
 obtain ⟨b, rfl⟩ := hb
 exact ⟨b, rfl, trivial⟩
theorem T8 {e : TypeId} (he : P.underlying e = some (.float .f64)) : mO enc P w base spare held (.flt .f64) e := by
 intro n cs x hl h
 cases n with
 | zero => simp [DataW.trod] at h
 | succ n =>
  unfold DataW.trod at h
  rw [he] at h
  split at h <;> simp_all
  rename_i k1 k2 b hk
  subst hk
  exact ⟨b, rfl, h.1.2⟩
theorem aL7 {k : K} {t e : TypeId} (ht : P.underlying t = some (.slice e)) (hC : P.cellsOf e = k.size) (hel : mO enc P w base spare held k e) : mO enc P w base spare held (.sl e k) t := by
 intro n0 cs x hl0 h
 clear hl0
 rcases open_slice ht h with ⟨rfl, _⟩ | ⟨a, len, cap, m, n, D, Pl, rfl, hb, hl, hm, hmm, hx, hi⟩
 ·exact ⟨[], ⟨none, 0, rfl, Nat.le_refl _, .inl rfl⟩, Nat.zero_le _, by simp⟩
 ·have hlm : len ≤ m := by rw [hmm]; split <;> omega
  have hall : ∀ i, i < len → ∃ y : k.den, tV k y ∧ ∃ c : List Value, RepD w (fun _ => False) k y c ∧ ∀ j, j < k.size → w.cell? (a.add (i * k.size + j)) = c[j]? := by
   intro i hil
   obtain ⟨cs', hc, ht'⟩ := hi i (by omega)
   obtain ⟨_, hcl, hat⟩ := World.cells?_some hc
   rw [hC] at hcl hat
   obtain ⟨y, hy, hg⟩ := hel n cs' _ hcl ht'
   refine ⟨y, hg, cs', hy, fun j hj => ?_⟩
   rw [← Go.Deep.add_add]
   exact hat j hj
  have : ∃ xs : List k.den, xs.length = len ∧ ∀ i (hi : i < xs.length), tV k xs[i] ∧ ∃ c : List Value, RepD w (fun _ => False) k xs[i] c ∧ ∀ j, j < k.size → w.cell? (a.add (i * k.size + j)) = c[j]? := by
   clear hlm hmm hx hi hl h
   induction len with
   | zero => exact ⟨[], rfl, fun i hi => absurd hi (Nat.not_lt_zero _)⟩
   | succ len ih =>
    obtain ⟨xs, hxl, hxs⟩ := ih (fun i hil => hall i (by omega))
    obtain ⟨y, hy⟩ := hall len (by omega)
    refine ⟨xs ++ [y], by simp [hxl], fun i hil => ?_⟩
    by_cases e : i < xs.length
    ·rw [List.getElem_append_left e]; exact hxs i e
    ·obtain rfl : i = xs.length := by simp at hil; omega
     rw [List.getElem_append_right (Nat.le_refl _)]
     simpa [hxl] using hy
  obtain ⟨xs, hxl, hxs⟩ := this
  refine ⟨xs, ⟨some a, cap, by rw [hxl], by omega, ?_⟩, by omega, fun y hy => ?_⟩
  ·by_cases h0 : xs = []
   ·exact .inl h0
   ·right
    have hpos : 0 < xs.length := List.length_pos_iff.2 h0
    have hsp : a.spot = none := by
     obtain ⟨_, c, hc, hcell⟩ := hxs 0 hpos
     have h1 := hcell 0 k.size_pos
     have hcl := hc.len
     have hks := k.size_pos
     rw [List.getElem?_eq_getElem (by omega)] at h1
     unfold World.cell? at h1
     split at h1
     ·split at h1
      ·cases h1
      ·rename_i hs
       rw [Nat.zero_mul, Addr.add_zero'] at hs
       cases hsp : a.spot with
       | none => rfl
       | some z => rw [hsp] at hs; simp at hs
     ·cases h1
    obtain ⟨b, off, sp⟩ := a
    simp only at hsp
    subst hsp
    refine ⟨b, off, rfl, fun h => h, fun i z hz => ?_⟩
    obtain ⟨hil, rfl⟩ := List.getElem?_eq_some_iff.1 hz
    obtain ⟨_, c, hc, hcell⟩ := hxs i hil
    refine ⟨c, hc, fun j hj => ?_⟩
    have := hcell j hj
    rw [Addr.add_mid] at this
    rw [← this]
    congr 2
    omega
  ·obtain ⟨i, hil, rfl⟩ := List.getElem_of_mem hy
   exact (hxs i hil).1
theorem bL0 {fs : Array Field} {t : TypeId} (ht : P.underlying t = some (.struct fs)) (hone : oneCellFields P fs = true) {n : Nat} {cs : List Value} {x : DataW H × List MemPlace} (h : DataW.trod enc P w base spare held n t cs = some x)
  (i : Nat) (f : Field) (hf : fs[i]? = some f) (v : Value) (hv : cs[i]? = some v) : ∃ (m : Nat) (y : DataW H × List MemPlace), DataW.trod enc P w base spare held m f.type [v] = some y := by
 obtain ⟨xs, m, _, _, hlen, hxl, hg⟩ := DataW.trod_struct ht h
 obtain ⟨o, k⟩ := hone_of hone i f hf
 have h1 := hg i f hf
 rw [o, k] at h1
 obtain ⟨hil, rfl⟩ := List.getElem?_eq_some_iff.1 hv
 rw [List.drop_eq_getElem_cons hil] at h1
 have hx : i < xs.length := by rw [hxl]; exact (Array.getElem?_eq_some_iff.1 hf).1
 rw [List.getElem?_eq_getElem hx] at h1
 exact ⟨m, _, h1⟩
def sV (enc : TypeId × Value → H) (P : Program) (w : World) (base : Nat) (spare : Nat → Bool) (held : Bool) (k : K) (fs : List Field) : Prop :=
 ∀ cs : List Value, cs.length = k.size → (∀ (i : Nat) (f : Field) (v : Value), fs[i]? = some f → cs[i]? = some v → ∃ (m : Nat) (y : DataW H × List MemPlace), DataW.trod enc P w base spare held m (Field.type f) [v] = some y) → ∃ y : k.den, RepD w (fun _ => False) k y cs ∧ tV k y
theorem kL {k : K} (hk : k.size = 1) {f : Field} (h : mO enc P w base spare held k f.type) : sV enc P w base spare held k [f] := by
 intro cs hl hf
 rw [hk] at hl
 obtain ⟨v, rfl⟩ := List.length_eq_one_iff.1 hl
 obtain ⟨m, y, hy⟩ := hf 0 f v rfl rfl
 exact h m [v] y (by rw [hk]; rfl) hy
theorem fY : ∀ k : K, (∀ t, (mJ P k).1 t = true → mO enc P w base spare held k t) ∧ (∀ fs, (mJ P k).2 fs = true → sV enc P w base spare held k fs)
 | .int k => by
  have T : ∀ t, (mJ P (.int k)).1 t = true → mO enc P w base spare held (.int k) t := fun t h => Z9 (bC (k := .int k) h)
  refine ⟨T, fun fs h => ?_⟩
  match fs, h with
  | [f], h => exact kL rfl (T _ h)
 | .bool => by
  have T : ∀ t, (mJ P .bool).1 t = true → mO enc P w base spare held .bool t := fun t h => UD (bC (k := .bool) h)
  refine ⟨T, fun fs h => ?_⟩
  match fs, h with
  | [f], h => exact kL rfl (T _ h)
 | .str => by
  have T : ∀ t, (mJ P .str).1 t = true → mO enc P w base spare held .str t := fun t h => IY (bC (k := .str) h)
  refine ⟨T, fun fs h => ?_⟩
  match fs, h with
  | [f], h => exact kL rfl (T _ h)
 | .flt .f64 => by
  have T : ∀ t, (mJ P (.flt .f64)).1 t = true → mO enc P w base spare held (.flt .f64) t := fun t h => T8 (bC (k := .flt .f64) h)
  refine ⟨T, fun fs h => ?_⟩
  match fs, h with
  | [f], h => exact kL rfl (T _ h)
 | .flt .f32 => ⟨fun t h => (by cases h), fun fs h => (by cases h)⟩
 | .err => ⟨fun t h => (by cases h), fun fs h => (by cases h)⟩
 | .sl e k => by
  have T : ∀ t, (mJ P (.sl e k)).1 t = true → mO enc P w base spare held (.sl e k) t := fun t h => by
   simp only [mJ, Bool.and_eq_true] at h
   exact aL7 (bC (k := .sl e k) h.1.1) (Nat.eq_of_beq_eq_true h.1.2) ((fY k).1 e h.2)
  refine ⟨T, fun fs h => ?_⟩
  match fs, h with
  | [f], h => exact kL rfl (T _ h)
 | .pair a b => by
  have S : ∀ fs, (mJ P (.pair a b)).2 fs = true → sV enc P w base spare held (.pair a b) fs := fun fs h => by
   match fs, h with
   | f :: f' :: fs, h =>
    simp only [mJ, Bool.and_eq_true] at h
    obtain ⟨⟨h1, h2⟩, h3⟩ := h
    have h2 := Nat.eq_of_beq_eq_true h2
    intro cs hl hf
    simp only [K.size, h2] at hl
    cases cs with
    | nil => simp at hl; omega
    | cons v cs =>
     obtain ⟨m, y, hy⟩ := hf 0 f v rfl rfl
     obtain ⟨y1, g1, g2⟩ := (fY a).1 f.type h1 m [v] y (by rw [h2]; rfl) hy
     obtain ⟨y2, g3, g4⟩ := (fY b).2 (f' :: fs) h3 cs (by simp at hl; omega) (fun i f0 v0 hf0 hv0 => hf (i + 1) f0 v0 (by simpa using hf0) (by simpa using hv0))
     exact ⟨(y1, y2), ⟨[v], cs, rfl, g1, g3⟩, g2, g4⟩
  refine ⟨fun t h => ?_, S⟩
  simp only [mJ] at h
  split at h
  ·rename_i fs hu
   simp only [Bool.and_eq_true] at h
   intro n cs x hl hx
   exact S fs.toList h.2 cs hl (fun i f v hf hv => bL0 hu h.1 hx i f (by simpa using hf) v hv)
  ·cases h
end
end Go.Proofs.YticibdjilmclgaaDoorZF

namespace Go.Proofs.YticibdjilmclgaaDoorZF
open Go Go.RowKit Go.ChangeShapes Go.WideShapes Go.Deep
set_option linter.unusedVariables false
set_option linter.unusedSimpArgs false
def wU (P : Program) : AK → TypeId → Bool
 | .dat (.sl _ _), _ => false
 | .dat k, t => (mJ P k).1 t && Nat.beq (P.cellsOf t) k.size
 | .ro k e, t => (mJ P (.sl e k)).1 t
 | _, _ => false
def yG (P : Program) : List AK → List TypeId → Bool
 | [], [] => true
 | k :: ks, t :: ts => wU P k t && P.readableRec t && Nat.blt t P.types.size && yG P ks ts
 | _, _ => false
def bU3 : (k : AK) → k.den → Prop
 | .dat k, x => tV k x
 | .ro k e, x => tV (.sl e k) x
 | .rw k e, x => True
 | .pro k e, x => True
def F9 : (ks : List AK) → DenA ks → Prop
 | [], _ => True
 | k :: ks, d => bU3 k d.1 ∧ F9 ks d.2
section
variable {H : Type} {enc : TypeId × Value → H} {P : Program} {w : World} {base b0 : Nat} {spare : Nat → Bool} {held : Bool} {r : Reach}
theorem MY {t : TypeId} {k : FloatKind} {v : Value} (ht : P.underlying t = some (.float k)) (h : Value.okWide P w r b0 t v) : ∃ n, v = .float k n := by
 simp only [Value.okWide, ht, Cell.okWide] at h
 cases v <;> simp_all [Cell.ok]
theorem j5 {k : AK} {t : TypeId} {v : Value} {d : DataW H} {p : List MemPlace} (h : wU P k t = true) (hv : Value.okWide P w r b0 t v) (ht : DataW.Trod enc P w base spare held t v d p) :
  ∃ x : k.den, ArgRep w (fun _ => False) k x v [] ∧ bU3 k x := by
 obtain ⟨n, ht⟩ := ht
 match k, h with
 | .dat (.int ik), h =>
  simp only [wU, Bool.and_eq_true] at h
  obtain ⟨m, rfl⟩ := okWide_int (bC (k := .int ik) h.1) hv
  obtain ⟨y, h1, h2⟩ := (fY (.int ik)).1 t h.1 n _ _ rfl ht
  exact ⟨y, ⟨rfl, _, h1, rfl⟩, h2⟩
 | .dat .bool, h =>
  simp only [wU, Bool.and_eq_true] at h
  obtain ⟨m, rfl⟩ := okWide_bool (bC (k := .bool) h.1) hv
  obtain ⟨y, h1, h2⟩ := (fY .bool).1 t h.1 n _ _ rfl ht
  exact ⟨y, ⟨rfl, _, h1, rfl⟩, h2⟩
 | .dat .str, h =>
  simp only [wU, Bool.and_eq_true] at h
  obtain ⟨m, rfl⟩ := okWide_string (bC (k := .str) h.1) hv
  obtain ⟨y, h1, h2⟩ := (fY .str).1 t h.1 n _ _ rfl ht
  exact ⟨y, ⟨rfl, _, h1, rfl⟩, h2⟩
 | .dat (.flt .f64), h =>
  simp only [wU, Bool.and_eq_true] at h
  obtain ⟨m, rfl⟩ := MY (bC (k := .flt .f64) h.1) hv
  obtain ⟨y, h1, h2⟩ := (fY (.flt .f64)).1 t h.1 n _ _ rfl ht
  exact ⟨y, ⟨rfl, _, h1, rfl⟩, h2⟩
 | .dat (.flt .f32), h => simp [wU, mJ] at h
 | .dat .err, h => simp [wU, mJ] at h
 | .dat (.pair a b), h =>
  simp only [wU, Bool.and_eq_true] at h
  have hs : ∃ fs, P.underlying t = some (.struct fs) := by
   have h1 := h.1
   simp only [mJ] at h1
   split at h1
   ·rename_i fs hu; exact ⟨fs, hu⟩
   ·cases h1
  obtain ⟨fs, hu⟩ := hs
  obtain ⟨cs, rfl, hcs⟩ := okWide_struct hu hv
  have hl : (Value.cells (.agg cs)).toList.length = (K.pair a b).size := by
   show cs.toList.length = _
   rw [← Nat.eq_of_beq_eq_true h.2, ← hcs]; simp
  obtain ⟨y, h1, h2⟩ := (fY (.pair a b)).1 t h.1 n _ _ hl ht
  exact ⟨y, ⟨rfl, _, h1, by simp [K.isPair, Value.cells]⟩, h2⟩
 | .dat (.sl _ _), h => simp [wU] at h
 | .ro k e, h =>
  simp only [wU] at h
  have hk := h
  simp only [mJ, Bool.and_eq_true] at hk
  obtain ⟨a, len, cap, rfl⟩ := okWide_slice (bC (k := .sl e k) hk.1.1) hv
  obtain ⟨y, h1, h2⟩ := (fY (.sl e k)).1 t h n _ _ rfl ht
  obtain ⟨ad, cap', he, hle, hx⟩ := h1
  have he : (Value.slice a len cap) = .slice ad (List.length y) cap' := by simpa [Value.cells] using he
  exact ⟨y, ⟨rfl, ad, cap', he, hle, fun hne => hx.resolve_left hne⟩, h2⟩
 | .rw k e, h => simp [wU] at h
 | .pro k e, h => simp [wU] at h
theorem HW : ∀ {ks : List AK} {ts : List TypeId} {vs : List Value} {ds : List (DataW H)} {p : List MemPlace}, yG P ks ts = true → (∀ (j : Nat) t v, ts[j]? = some t → vs[j]? = some v → Value.okWide P w r b0 t v) → DataW.TrodAll enc P w base spare held ts vs ds p →
  ∃ d : DenA ks, ArgsRep w (fun _ => False) ks d vs [] ∧ F9 ks d
 | [], [], vs, ds, p, _, _, ht => by
  obtain ⟨rfl, rfl, rfl⟩ := trodAll_nil ht
  exact ⟨(), ⟨rfl, rfl⟩, trivial⟩
 | k :: ks, t :: ts, vs, ds, p, h, hv, ht => by
  obtain ⟨v, vs', d, ds', p, q, rfl, rfl, rfl, h1, h2⟩ := trodAll_cons ht
  simp only [yG, Bool.and_eq_true] at h
  obtain ⟨x, g1, g2⟩ := j5 h.1.1.1 (hv 0 t v rfl rfl) h1
  obtain ⟨xs, g3, g4⟩ := HW h.2 (fun j t v ht hv' => hv (j + 1) t v (by simpa using ht) (by simpa using hv')) h2
  exact ⟨(x, xs), ⟨v, vs', [], [], rfl, rfl, g1, g3⟩, g2, g4⟩
 | [], _ :: _, _, _, _, h, _, _ => by cases h
 | _ :: _, [], _, _, _, h, _, _ => by cases h
theorem HY {W W' : World} (hl : laidOutB P = true) (hb : Below W.heap.size W W') : ∀ {ks : List AK} {ts : List TypeId} {vs : List Value} {ds : List (DataW H)} {p : List MemPlace}, yG P ks ts = true →
  DataW.TrodAll enc P W 0 (fun _ => true) true ts vs ds p → (∀ x ∈ p, x.block < W.heap.size) → DataW.TrodAll enc P W' 0 (fun b => decide (b < W.heap.size)) true ts vs ds p
 | [], [], vs, ds, p, _, ht, _ => by
  obtain ⟨rfl, rfl, rfl⟩ := trodAll_nil ht
  exact rfl
 | k :: ks, t :: ts, vs, ds, p, h, ht, hlt => by
  obtain ⟨v, vs', d, ds', p, q, rfl, rfl, rfl, h1, h2⟩ := trodAll_cons ht
  simp only [yG, Bool.and_eq_true] at h
  exact trodAll_cons_mk (Below.trod hl h.1.1.2 (Nat.le_of_ble_eq_true h.1.2) h1 hb (fun x hx => hlt x (by simp [hx]))) (HY hl hb h.2 h2 (fun x hx => hlt x (by simp [hx])))
 | [], _ :: _, _, _, _, h, _, _ => by cases h
 | _ :: _, [], _, _, _, h, _, _ => by cases h
theorem s8 {f : FuncId} {fn : Func} {s : ChangeSpec} {ks : List AK} {tb : TypeId} {g : Nat → DenA ks → Option (DenR [RK.dat .bool])}
  (hf : ∀ n, Fit P f (aI ks [.dat .bool] (g n))) (hl : laidOutB P = true) (hts : yG P ks fn.params.toList = true) (hrt : fn.resultTypes = #[tb]) (htb : P.underlying tb = some .bool) (hvr : varsRowed P s.vars = true)
  (hs : ∀ (ds gs : List (DataW H)), ds.length = ks.length → gs.length = s.vars.length → s.fn H (ds ++ gs) = ⟨[.lit (.bool true)], ds, gs⟩)
  (hpure : ∀ d : DenA ks, F9 ks d → ∃ n, g n d = some (true, ()))
  {W : World} {base : Nat} {args : Array Value} {ds gs : List (DataW H)} {before : List MemPlace}
  (hval : ∀ (j : Nat) t v, fn.params[j]? = some t → args[j]? = some v → Value.okWide P W .any base t v)
  (hW : DataW.Whole enc P fn.params.toList s.vars false W args.toList ds gs before) (hGW : NG ≤ W.heap.size ∧ G0 P W) :
  Calls P f args W fun e W' => ∃ v, e = .returned v ∧ s.post enc P fn false true false false W args v W' := by
 have hW' := hW
 have hlt : ∀ p ∈ before, p.block < W.heap.size := fun p hp => hW'.lt p hp
 obtain ⟨p, q, hA, hV, rfl, hfz, hnd⟩ := hW
 obtain ⟨d, hd, hg⟩ := HW hts (fun j t v ht hv => hval j t v (by simpa using ht) (by simpa using hv)) hA
 obtain ⟨n, hn⟩ := hpure d hg
 have hc := (hf n).holds.calls W (fun _ => False) args.toList [] d (true, ()) ⟨hGW.1, fun b hb => (by cases hb), W, hGW.2, fun _ _ => rfl⟩ (fun b hb => hb.elim) List.nodup_nil (fun b hb => by cases hb) (by
  show ArgsRep W (fun b => False ∨ b ∈ []) ks d args.toList []
  exact hd.mono (fun b hb => by rcases hb with hb | hb; exact hb; cases hb)) (by
  show (g n d).bind some = some (true, ())
  rw [hn]; rfl)
 have ea : args.toList.toArray = args := by simp
 rw [ea] at hc
 refine hc.mono fun e W' ⟨us, own', he, hr, _, _, hF⟩ => ?_
 have hus : us = [.bool true] := by
  obtain ⟨v, vs', o1, o2, rfl, rfl, ⟨_, cs, h1, h2⟩, h3, h4⟩ := hr
  subst h3
  have h1 : cs = [Value.bool true] := h1
  subst h1
  simp [K.isPair] at h2
  rw [← h2]
 subst hus
 have hb : Below W.heap.size W W' := ⟨hF.os, hF.tape, hF.output, hF.size, fun k hk => hF.block k hk (fun h => by cases h)⟩
 have hlen : ds.length = ks.length ∧ gs.length = s.vars.length := by
  constructor
  ·have h1 : ∀ {ts : List TypeId} {vs : List Value} {ds : List (DataW H)} {p : List MemPlace}, DataW.TrodAll enc P W 0 (fun _ => true) true ts vs ds p → ds.length = ts.length := by
    intro ts
    induction ts with
    | nil => intro vs ds p h; obtain ⟨_, rfl, _⟩ := trodAll_nil h; rfl
    | cons t ts ih => intro vs ds p h; obtain ⟨v, vs', d, ds', p, q, _, rfl, _, _, h2⟩ := trodAll_cons h; simp [ih h2]
   have h2 : ∀ {ks : List AK} {ts : List TypeId}, yG P ks ts = true → ks.length = ts.length := by
    intro ks
    induction ks with
    | nil => intro ts h; cases ts with | nil => rfl | cons => cases h
    | cons k ks ih => intro ts h; cases ts with | nil => cases h | cons t ts => simp only [yG, Bool.and_eq_true] at h; simp [ih h.2]
   rw [h1 hA, h2 hts]
  ·have h1 : ∀ {ns : List String} {gs : List (DataW H)} {q : List MemPlace}, DataW.TrodVars enc P W (fun _ => true) ns gs q → gs.length = ns.length := by
    intro ns
    induction ns with
    | nil => intro gs q h; cases gs with | nil => rfl | cons => exact h.elim
    | cons n ns ih => intro gs q h; cases gs with | nil => exact h.elim | cons d gs => obtain ⟨_, _, _, _, _, _, _, _, _, _, h2, _⟩ := h; simp [ih h2]
   exact h1 hV
 refine ⟨.bool true, by rw [he]; rfl, ds, gs, p ++ q, [], p, q, hW', ?_, ?_, ?_, hb.frame _, fun h => by cases h⟩
 ·rw [hs ds gs hlen.1 hlen.2, hrt]
  exact trodAll_mk1 (shut_bool htb _)
 ·rw [hs ds gs hlen.1 hlen.2]
  exact HY hl hb hts hA (fun x hx => hlt x (by simp [hx]))
 ·rw [hs ds gs hlen.1 hlen.2]
  exact Below.trodVars hl hb hvr hV
end
end Go.Proofs.YticibdjilmclgaaDoorZF
