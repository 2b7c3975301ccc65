/- Parts that are handed over. -/
import Derived.Test.YticibdjilmclgaaDoorUPB
import Derived.Test.YticibdjilmclgaaDoorUPLoop
import Derived.Test.YticibdjilmclgaaDoorUPUtf
import Derived.Test.YticibdjilmclgaaDoorUPEnc
import Derived.Test.YticibdjilmclgaaDoorUPParts
import Derived.Test.YticibdjilmclgaaDoorUGA5
import Derived.Test.YticibdjilmclgaaDoorUFB
namespace Go.Proofs.YticibdjilmclgaaDoorUF
open Go
set_option linter.unusedVariables false
set_option linter.unusedSimpArgs false
theorem operation_ok (n : Nat) (v : Int) (h : v = -1 ∨ v = 0 ∨ v = 1) : g64 n v = some (v, ()) := by
  rcases h with rfl | rfl | rfl <;> rfl
theorem made_ok (n : Nat) (hn : Big ≤ n) (xs : List Rp) (hl : xs.length ≤ 1000000) (ho : ∀ y ∈ xs, OkR y) : g46 n (xs.map emb) = some (xs.map emb, ()) := by
  have hB : (4611686018427387904 : Nat) ≤ n := hn
  dsimp only [g46, g46_6, g46_1, g46_4, g46_3, g46_5]
  have e := range_fold (xs.map emb) (fun m s i => g46_3L n (fun x4 => some (x4, ())) m s (xs.map emb) ((xs.map emb).length : Int) (i : Int)) (fun s => some (s, ())) (fun s x => s ++ [x]) (fun i s => s.length = i)
    (fun m s i hi hs => by
      have hi' : i < xs.length := by simpa using hi
      refine ⟨?_, by simp [hs]⟩
      have hlm : (xs.map emb).length = xs.length := List.length_map _
      have hop := (ho xs[i] (by simp)).1
      have hg : (xs.map emb)[i] = emb xs[i] := List.getElem_map _
      rw [g46_3L.eq_2, g46_2, bdT (by omega), idx_ok (by omega) (by omega)]
      simp only [rd_at hi, rd_zero rfl]
      rw [hg, operation_ok n (emb xs[i]).1 hop, Option.bind_some, roomy_ok (by simp only [List.length_cons, List.length_nil]; omega), w64_id (by omega) (by omega)]
      rfl)
    (fun m s hs => by rw [g46_3L.eq_2, g46_2, bdF (by omega)]) n [] (by simp; omega) rfl
  refine Eq.trans e ?_
  have hf : ∀ (l : List Prt) (s : List Prt), l.foldl (fun s x => s ++ [x]) s = s ++ l := by
    intro l
    induction l with
    | nil => intro s; simp
    | cons x l ih => intro s; rw [List.foldl_cons, ih]; simp
  rw [hf]; rfl
end Go.Proofs.YticibdjilmclgaaDoorUF
