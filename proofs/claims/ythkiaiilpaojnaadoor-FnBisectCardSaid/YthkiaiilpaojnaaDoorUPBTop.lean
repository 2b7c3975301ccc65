/- Bisecting two texts. -/
import Derived.Test.YthkiaiilpaojnaaDoorUPB
import Derived.Test.YthkiaiilpaojnaaDoorUPLoop
import Derived.Test.YthkiaiilpaojnaaDoorUPUtf
import Derived.Test.YthkiaiilpaojnaaDoorUPEnc
import Derived.Test.YthkiaiilpaojnaaDoorUPParts
import Derived.Test.YthkiaiilpaojnaaDoorUPTexts
import Derived.Test.YthkiaiilpaojnaaDoorUPCmp
import Derived.Test.YthkiaiilpaojnaaDoorUPMerge
import Derived.Test.YthkiaiilpaojnaaDoorUPMerge2
import Derived.Test.YthkiaiilpaojnaaDoorUPMergeT
import Derived.Test.YthkiaiilpaojnaaDoorUPDist
import Derived.Test.YthkiaiilpaojnaaDoorUPGrid
import Derived.Test.YthkiaiilpaojnaaDoorUPBis3
import Derived.Test.YthkiaiilpaojnaaDoorUPRIx
import Derived.Test.YthkiaiilpaojnaaDoorUPMain
import Derived.Test.YthkiaiilpaojnaaDoorUPMain2
import Derived.Test.YthkiaiilpaojnaaDoorUPDMain
import Derived.Test.YthkiaiilpaojnaaDoorUGA3
import Derived.Test.YthkiaiilpaojnaaDoorUGA4
import Derived.Test.YthkiaiilpaojnaaDoorUFB
namespace Go.Proofs.YthkiaiilpaojnaaDoorUF
open Go
set_option linter.unusedVariables false
set_option linter.unusedSimpArgs false
theorem bis_top (n : Nat) (hn : Big ≤ n) (p0) (hp : p0.1 ≤ (0 : Int)) (m : Nat) (a b : List Int) (h3 : 3 ≤ a.length + b.length) (hN : a.length + b.length ≤ 50000) (hm : 400010 ≤ m) (ha : Valids a) (hb : Valids b) (ha0 : a ≠ []) (hb0 : b ≠ []) :
    ∃ l, (g110_rec n m).2.1 (p0, (a, (b, ()))) = @some (DenR g114_R) (M l, ()) ∧ LD a b l := by
  obtain ⟨m, rfl⟩ : ∃ m', m = m' + 2 := ⟨m - 2, by omega⟩
  rcases bisect_ok (p0 := p0) (n := n) (hn := hn) (A := a) (B := b) (h3 := h3) (hN := by omega) (hM := by omega) (kr := fun x6 => @some (DenR g114_R) (x6, ())) .. with h | ⟨h, hd⟩
  · obtain ⟨x, y, ho, h1, h2, h3⟩ := h
    have hx := ho.hx
    have hy := ho.hy
    have hs := ho.sum
    obtain ⟨u, u1, u2, _⟩ := main_rec n hn p0 hp (a.length + b.length) m (a.take x) (b.take y) (by rw [List.length_take, List.length_take]; omega) (by omega) (by omega) (ha.take _) (hb.take _)
    obtain ⟨v, v1, v2, _⟩ := main_rec n hn p0 hp (a.length + b.length) m (a.drop x) (b.drop y) (by rw [List.length_drop, List.length_drop]; omega) (by omega) (by omega) (ha.drop _) (hb.drop _)
    have ul := u2.len
    have vl := v2.len
    rw [List.length_take, List.length_take] at ul
    rw [List.length_drop, List.length_drop] at vl
    have hsp := split_ok (n := n) (p0 := p0) (hx := hx) (hy := hy) (h1 := u1) (h2 := v1) (hl := by omega) (g110_rec n m).1 (g110_rec n m).2.1 (g110_rec n m).2.2.1 (g110_rec n m).2.2.2
    have key : LD a b (u ++ v) := by
      refine LD.of (u2.ok.append v2.ok) ?_ ?_ ?_ ?_ (u2.full.append v2.full)
      · rw [srcR_append, u2.src, v2.src, List.take_append_drop]
      · rw [tgtR_append, u2.tgt, v2.tgt, List.take_append_drop]
      · rw [edR_append, u2.ed, v2.ed]
        rw [ft_grid hx hy, dst_rev] at hs
        unfold gt at hs
        omega
      · rw [List.length_append]
        omega
    refine ⟨u ++ v, ?_, key⟩
    refine Eq.trans h3 ?_
    refine bind_some' hsp
  · refine ⟨[(-1, a), (1, b)], h, LD.of (fun d hd' => ?_) ?_ ?_ ?_ ?_ (full2 ha0 hb0)⟩
    · simp only [List.mem_cons, List.not_mem_nil, or_false] at hd'
      rcases hd' with rfl | rfl
      · exact ⟨.inl rfl, ha⟩
      · exact ⟨.inr (.inr rfl), hb⟩
    · show a ++ [] = a; simp
    · show b ++ [] = b; simp
    · show a.length + (b.length + 0) ≤ _; omega
    · simp; omega
theorem dfBisect_ok (n : Nat) (hn : Big ≤ n) (a b : List Int) (ha : Valids a) (hb : Valids b) (ha0 : a ≠ []) (hb0 : b ≠ []) (h3 : 3 ≤ a.length + b.length) (hl : a.length + b.length ≤ 50000) : ∃ l, g36 n (enc a) (enc b) = some (M l, ()) ∧ LD a b l := by
  dsimp only [g36, g36_1, g64, g64_1, g64_2]
  obtain ⟨p, hp, hp0⟩ := dmp_ex n ((0 : Int), ((0 : Int), ((0 : Nat), ((0 : Nat), ((0 : Int), (0 : Int))))))
  rw [bind_some' hp]
  have e1 := enc_size_le a
  have e2 := enc_size_le b
  obtain ⟨l, h1, h2⟩ := bis_top n hn p (Int.le_of_eq hp0) n a b h3 hl (by unfold Big at hn; omega) ha hb ha0 hb0
  refine ⟨l, ?_, h2⟩
  dsimp only [g93, g93_1]
  rw [room46_ok (by omega), room46_ok (by omega), runes_enc ha, runes_enc hb]
  have h4 : g114 n p a b = some (M l, ()) := h1
  have hll := h2.len
  have hls : g45 n (M l) = some (M l, ()) := list_ok n hn l (by omega) h2.ok
  rw [bind_some' h4]
  simp only [Option.bind_some]
  rw [bind_some' hls]
  rfl
end Go.Proofs.YthkiaiilpaojnaaDoorUF
