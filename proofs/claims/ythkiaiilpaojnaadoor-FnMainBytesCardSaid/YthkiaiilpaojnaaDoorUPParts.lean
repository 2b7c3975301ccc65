/- Parts of differences: what the laws' helpers make of them. -/
import Derived.Test.YthkiaiilpaojnaaDoorUPB
import Derived.Test.YthkiaiilpaojnaaDoorUPLoop
import Derived.Test.YthkiaiilpaojnaaDoorUPUtf
import Derived.Test.YthkiaiilpaojnaaDoorUPEnc
import Derived.Test.YthkiaiilpaojnaaDoorUGA0
import Derived.Test.YthkiaiilpaojnaaDoorUGA4
import Derived.Test.YthkiaiilpaojnaaDoorUFB
namespace Go.Proofs.YthkiaiilpaojnaaDoorUF
open Go
set_option linter.unusedVariables false
set_option linter.unusedSimpArgs false
@[reducible] def Prt := Int × ByteArray
@[reducible] def Rp := Int × List Int
/-- A part, its text written. -/
def emb (d : Rp) : Prt := (d.1, enc d.2)
/-- A part of one of the three kinds, of characters. -/
def OkR (d : Rp) : Prop := (d.1 = -1 ∨ d.1 = 0 ∨ d.1 = 1) ∧ Valids d.2
theorem clean_ok (n : Nat) (a : ByteArray) (m : Nat) (h : a.size ≤ 70368744177664) : g32 n a (m : Int) = some (enc ((runesOf a).take m), ()) := by
  have hl := runesOf_length a
  dsimp only [g32, g32_1, g15, g15_1]
  rw [room46_ok h, Option.bind_some]
  have e : minI ((runesOf a).length : Int) (m : Int) = ((min (runesOf a).length m : Nat) : Int) := by unfold minI; split <;> omega
  dsimp only
  rw [e, bnd_ok (by omega) (by omega) (by omega), cut_from]
  congr 3
  rw [show (0 + (((min (runesOf a).length m : Nat) : Int) - 0)).toNat = min (runesOf a).length m by omega, Nat.min_comm, List.take_eq_take_iff]
  omega
theorem runesOk (n : Nat) (a : ByteArray) (h : a.size ≤ 70368744177664) : g15 n a = some (runesOf a, ()) := by
  dsimp only [g15, g15_1]; rw [room46_ok h]
theorem runesOk_enc (n : Nat) (x : List Int) (hx : Valids x) (h : (enc x).size ≤ 70368744177664) : g15 n (enc x) = some (x, ()) := by
  rw [runesOk n _ h, runes_enc hx]
theorem list_ok (n : Nat) (hn : Big ≤ n) (xs : List Rp) (hl : xs.length ≤ 1000000) (ho : ∀ y ∈ xs, OkR y) : g45 n (xs.map emb) = some (xs.map emb, ()) := by
  have hB : (4611686018427387904 : Nat) ≤ n := hn
  dsimp only [g45, g45_6, g45_1, g45_4, g45_3, g45_5]
  have e := range_fold (xs.map emb) (fun m s i => g45_3L n (fun x4 => some (x4, ())) m s (xs.map emb) ((xs.map emb).length : Int) (i : Int)) (fun s => some (s, ())) (fun s x => s ++ [x]) (fun i s => s.length = i)
    (fun m s i hi hs => by
      have hi' : i < xs.length := by simpa using hi
      refine ⟨?_, by simp [hs]⟩
      have hlm : (xs.map emb).length = xs.length := List.length_map _
      have hop := (ho xs[i] (by simp)).1
      have hg : (xs.map emb)[i] = emb xs[i] := List.getElem_map _
      rw [g45_3L.eq_2, g45_2, bdT (by omega), idx_ok (by omega) (by omega)]
      simp only [rd_at hi, rd_zero rfl]
      have hw : w64 (emb xs[i]).1 = (emb xs[i]).1 := w64_id (by show _ ≤ xs[i].1; omega) (by show xs[i].1 < _; omega)
      rw [hg, hw, roomy_ok (by simp only [List.length_cons, List.length_nil]; omega), w64_id (by omega) (by omega)]
      rfl)
    (fun m s hs => by rw [g45_3L.eq_2, g45_2, bdF (by omega)]) n [] (by simp; omega) rfl
  refine Eq.trans e ?_
  have hf : ∀ (l : List Prt) (s : List Prt), l.foldl (fun s x => s ++ [x]) s = s ++ l := by
    intro l
    induction l with
    | nil => intro s; simp
    | cons x l ih => intro s; rw [List.foldl_cons, ih]; simp
  rw [hf]; rfl
end Go.Proofs.YthkiaiilpaojnaaDoorUF
