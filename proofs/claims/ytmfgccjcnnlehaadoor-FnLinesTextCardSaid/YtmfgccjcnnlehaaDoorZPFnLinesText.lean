/- Plain statements about the printed functions. -/
import Derived.Test.YtmfgccjcnnlehaaDoorZPQ0
import Derived.Test.YtmfgccjcnnlehaaDoorZGA0
import Derived.Test.YtmfgccjcnnlehaaDoorZFB
namespace Go.Proofs.YtmfgccjcnnlehaaDoorZF
open Go
set_option linter.unusedVariables false
set_option linter.unusedSimpArgs false
theorem linesText_law (n : Nat) (hn : Big ≤ n) (x y : ByteArray) : g3 n x y = some (true, ()) := by
 dsimp only [g3, g3_1]
 by_cases h1 : (x.size : Int) > 2147483647
 ·rw [bdT h1]
 by_cases h2 : (y.size : Int) > 2147483647
 ·rw [bdF h1, bdT h2]
 rw [bdF h1, bdF h2, show (200 : Int) = ((200 : Nat) : Int) from rfl, clean_ok n x 200 (by omega), Option.bind_some, clean_ok n y 200 (by omega), Option.bind_some]
 have va : Valids ((runesOf x).take 200) := (runesOf_valid x).take _
 have vb : Valids ((runesOf y).take 200) := (runesOf_valid y).take _
 have la : ((runesOf x).take 200).length ≤ 200 := by rw [List.length_take]; omega
 have lb : ((runesOf y).take 200).length ≤ 200 := by rw [List.length_take]; omega
 have sa := enc_size_le ((runesOf x).take 200)
 have sb := enc_size_le ((runesOf y).take 200)
 generalize (runesOf x).take 200 = ra at *
 generalize (runesOf y).take 200 = rb at *
 simp only
 have hNew : g44 n = some (((1000000000, (4, (1000, (4602678819172646912, (4, (32, 4602678819172646912)))))) : Int × (Int × (Int × (Nat × (Int × (Int × Nat)))))), ()) := rfl
 obtain ⟨arr, h, ja, jb, e, H, P1, P2, l⟩ := linesStr_ok n hn ((1000000000, (4, (1000, (4602678819172646912, (4, (32, 4602678819172646912)))))) : Int × (Int × (Int × (Nat × (Int × (Int × Nat)))))) (enc ra) (enc rb) (by omega) (by omega)
 have hlr : g15 n (enc ra) (enc rb) = some (enc (chs ja), (enc (chs jb), (arr, ()))) := by
  dsimp only [g15, g15_1, g45, g45_1]
  rw [bind_some' hNew]
  simp only
  rw [e]
  rfl
 have hla := linesAt_length (enc ra) (enc ra).size 0 rfl
 have hlb := linesAt_length (enc rb) (enc rb).size 0 rfl
 have q1 := P1.length
 have q2 := P2.length
 have ca : cat (lns arr ja) = enc ra := by rw [P1.lns, cat_lines]
 have cb : cat (lns arr jb) = enc rb := by rw [P2.lns, cat_lines]
 have wa : Valids (chs ja) := chs_valid fun j hj => by have := P1.lt j hj; omega
 have wb : Valids (chs jb) := chs_valid fun j hj => by have := P2.lt j hj; omega
 have hm : g57 n [(-1, enc (chs ja)), (1, enc (chs jb))] = some ([(-1, enc (chs ja)), (1, enc (chs jb))], ()) := made_ok n hn [(-1, chs ja), (1, chs jb)] (by simp) (fun d hd => by
  simp at hd
  rcases hd with rfl | rfl
  ·exact ⟨.inl rfl, wa⟩
  ·exact ⟨.inr (.inr rfl), wb⟩)
 have hctl : g76 n ((1000000000, (4, (1000, (4602678819172646912, (4, (32, 4602678819172646912)))))) : Int × (Int × (Int × (Nat × (Int × (Int × Nat)))))) [(-1, enc (chs ja)), (1, enc (chs jb))] arr = some ([(-1, enc ra), (1, enc rb)], ()) := by
  have := ctl_ok hn ((1000000000, (4, (1000, (4602678819172646912, (4, (32, 4602678819172646912)))))) : Int × (Int × (Int × (Nat × (Int × (Int × Nat)))))) arr (by omega) [(-1, ja), (1, jb)] (by simp) (fun d hd => by
   simp at hd
   rcases hd with rfl | rfl
   ·exact ⟨by show ja.length ≤ _; omega, P1.lt, by show (cat (lns arr ja)).size ≤ _; rw [ca]; omega⟩
   ·exact ⟨by show jb.length ≤ _; omega, P2.lt, by show (cat (lns arr jb)).size ≤ _; rw [cb]; omega⟩)
  simp only [List.map_cons, List.map_nil, ca, cb] at this
  exact this
 have hli : g71 n [(-1, enc ra), (1, enc rb)] = some ([(-1, enc ra), (1, enc rb)], ()) := list_ok n hn [(-1, ra), (1, rb)] (by simp) (fun d hd => by
  simp at hd
  rcases hd with rfl | rfl
  ·exact ⟨.inl rfl, va⟩
  ·exact ⟨.inr (.inr rfl), vb⟩)
 have hdf : g16 n [(-1, enc (chs ja)), (1, enc (chs jb))] arr = some ([(-1, enc ra), (1, enc rb)], ()) := by
  dsimp only [g16, g16_1, g46, g46_1, g46_2]
  rw [bind_some' hNew, bind_some' hm]
  simp only
  rw [bind_some' hctl]
  simp only
  rw [bind_some' hli]
  rfl
 rw [bind_some' hlr]
 simp only
 rw [bind_some' hdf]
 refine (biT (by rfl)).trans ?_
 rw [idx_ok (by show (0 : Int) ≤ 0; omega) (by show (0 : Int) < 2; omega)]
 have s1 : strEq (enc ra) (enc ra) = true := by rw [strEq_eq, decide_eq_true rfl]
 have s2 : strEq (enc rb) (enc rb) = true := by rw [strEq_eq, decide_eq_true rfl]
 refine (biT (by show (((-1 : Int) == (-1 : Int)) && strEq (enc ra) (enc ra)) = true; rw [s1]; rfl)).trans ?_
 rw [idx_ok (by show (0 : Int) ≤ 1; omega) (by show (1 : Int) < 2; omega)]
 show some ((((1 : Int) == (1 : Int)) && strEq (enc rb) (enc rb)), ()) = _
 rw [s2]; rfl
theorem FnLinesText_pure : ∀ d, GoodA g3_A d → ∃ n, g3_f n d = some (true, ()) := fun d _ => ⟨Big, linesText_law Big (Nat.le_refl _) d.1 d.2.1⟩
end Go.Proofs.YtmfgccjcnnlehaaDoorZF
