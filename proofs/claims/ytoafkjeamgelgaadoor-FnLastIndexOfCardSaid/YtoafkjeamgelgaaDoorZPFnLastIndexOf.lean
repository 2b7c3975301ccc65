/- Plain statements about the printed functions. -/
import Derived.Test.YtoafkjeamgelgaaDoorZPQ0
import Derived.Test.YtoafkjeamgelgaaDoorZGA0
import Derived.Test.YtoafkjeamgelgaaDoorZFB
import Derived.Lib.TrimAscii
namespace Go.Proofs.YtoafkjeamgelgaaDoorZF
open Go
set_option linter.unusedVariables false
set_option linter.unusedSimpArgs false
def lastF (z p : ByteArray) : Nat → Int
 | 0 => -1
 | k + 1 => if cutS z (k : Int) ((k : Int) + p.size) = p then (k : Int) else lastF z p k
theorem wu32 (x : Int) : IntKind.u32.wrap x = x % 4294967296 := by
 unfold IntKind.wrap; simp [IntKind.bits, IntKind.signed]
theorem cut_iff {z p : ByteArray} {k : Nat} (h : k + p.size ≤ z.size) : cutS z (k : Int) ((k : Int) + p.size) = p ↔ ∀ j : Nat, j < p.size → byteAt z ((k + j : Nat) : Int) = byteAt p (j : Int) := by
 have hs := size_cutS (z := z) (a := (k : Int)) (b := (k : Int) + p.size) (by omega) (by omega) (by omega)
 have hb : ∀ j : Nat, j < p.size → byteAt (cutS z (k : Int) ((k : Int) + p.size)) (j : Int) = byteAt z ((k + j : Nat) : Int) := fun j hj => by
  rw [byteAt_cutS (by omega) (by omega) (by omega) (by omega)]; congr 1
 constructor
 ·intro e j hj
  rw [← hb j hj, e]
 ·intro e
  refine bytesOf_inj (List.ext_getElem (by rw [bytesOf_length, bytesOf_length]; omega) fun j h1 h2 => ?_)
  have l1 := bytesOf_length (cutS z (k : Int) ((k : Int) + p.size))
  have l2 := bytesOf_length p
  have a1 := byteAt_rd (z := cutS z (k : Int) ((k : Int) + p.size)) (i := (j : Int)) (by omega) (by omega)
  have a2 := byteAt_rd (z := p) (i := (j : Int)) (by omega) (by omega)
  rw [rd_at h1] at a1
  rw [rd_at h2] at a2
  rw [← a1, ← a2, hb j (by omega), e j (by omega)]
def hw (z : ByteArray) : Nat → Nat → Int
 | _, 0 => 0
 | i, k + 1 => hw z (i + 1) k * 16777619 + byteAt z (i : Int)
theorem hw_snoc (z : ByteArray) : ∀ (k i : Nat), hw z i (k + 1) = hw z i k + (16777619 : Int) ^ k * byteAt z ((i + k : Nat) : Int)
 | 0, i => by simp [hw]
 | k + 1, i => by
  rw [show hw z i (k + 1 + 1) = hw z (i + 1) (k + 1) * 16777619 + byteAt z (i : Int) from rfl, hw_snoc z k (i + 1), show hw z i (k + 1) = hw z (i + 1) k * 16777619 + byteAt z (i : Int) from rfl, Int.add_mul, Int.pow_succ, show i + 1 + k = i + (k + 1) by omega]
  have : (16777619 : Int) ^ k * byteAt z ((i + (k + 1) : Nat) : Int) * 16777619 = (16777619 : Int) ^ k * 16777619 * byteAt z ((i + (k + 1) : Nat) : Int) := by rw [Int.mul_assoc, Int.mul_comm (byteAt _ _), ← Int.mul_assoc]
  omega
theorem hw_roll (z : ByteArray) (n i : Nat) : hw z i n = hw z (i + 1) n * 16777619 + byteAt z (i : Int) - (16777619 : Int) ^ n * byteAt z ((i + n : Nat) : Int) := by
 have h1 := hw_snoc z n i
 have h2 : hw z i (n + 1) = hw z (i + 1) n * 16777619 + byteAt z (i : Int) := rfl
 omega
theorem hw_congr {z p : ByteArray} : ∀ (k i j : Nat), (∀ t : Nat, t < k → byteAt z ((i + t : Nat) : Int) = byteAt p ((j + t : Nat) : Int)) → hw z i k = hw p j k
 | 0, _, _, _ => rfl
 | k + 1, i, j, h => by
  unfold hw
  have h0 := h 0 (by omega)
  rw [Nat.add_zero, Nat.add_zero] at h0
  rw [h0, hw_congr k (i + 1) (j + 1) fun t ht => by have := h (t + 1) (by omega); rw [show i + 1 + t = i + (t + 1) by omega, show j + 1 + t = j + (t + 1) by omega]; exact this]
theorem step_mod (h b : Int) : IntKind.u32.wrap (IntKind.u32.wrap (h % 4294967296 * 16777619) + IntKind.u32.wrap b) = (h * 16777619 + b) % 4294967296 := by
 rw [wu32, wu32, wu32]; omega
theorem mul_mod (q c : Int) : (q % 4294967296 * (c % 4294967296)) % 4294967296 = (q * c) % 4294967296 := (Int.mul_emod q c _).symm
theorem roll_mod (h b q c : Int) : IntKind.u32.wrap (IntKind.u32.wrap (IntKind.u32.wrap (h % 4294967296 * 16777619) + IntKind.u32.wrap b) - IntKind.u32.wrap (q % 4294967296 * IntKind.u32.wrap c)) = (h * 16777619 + b - q * c) % 4294967296 := by
 rw [step_mod, wu32, wu32, wu32, mul_mod]
 generalize q * c = r
 omega
theorem pw0 {β : Type} (n m : Nat) (kx : Int → Int → Option β) (h : Int) : g83_7L n kx (m + 7) h 1 16777619 0 = kx h 1 := rfl
theorem pw1 {β : Type} (n m : Nat) (kx : Int → Int → Option β) (h : Int) : g83_7L n kx (m + 7) h 1 16777619 1 = kx h 16777619 := rfl
theorem pw2 {β : Type} (n m : Nat) (kx : Int → Int → Option β) (h : Int) : g83_7L n kx (m + 7) h 1 16777619 2 = kx h 637696617 := rfl
theorem pw3 {β : Type} (n m : Nat) (kx : Int → Int → Option β) (h : Int) : g83_7L n kx (m + 7) h 1 16777619 3 = kx h 1055306571 := rfl
theorem pw4 {β : Type} (n m : Nat) (kx : Int → Int → Option β) (h : Int) : g83_7L n kx (m + 7) h 1 16777619 4 = kx h 1345077009 := rfl
theorem pw5 {β : Type} (n m : Nat) (kx : Int → Int → Option β) (h : Int) : g83_7L n kx (m + 7) h 1 16777619 5 = kx h 1185368003 := rfl
theorem pw6 {β : Type} (n m : Nat) (kx : Int → Int → Option β) (h : Int) : g83_7L n kx (m + 7) h 1 16777619 6 = kx h 4233492473 := rfl
theorem pw7 {β : Type} (n m : Nat) (kx : Int → Int → Option β) (h : Int) : g83_7L n kx (m + 7) h 1 16777619 7 = kx h 878009595 := rfl
theorem pw8 {β : Type} (n m : Nat) (kx : Int → Int → Option β) (h : Int) : g83_7L n kx (m + 7) h 1 16777619 8 = kx h 1566662433 := rfl
theorem pw9 {β : Type} (n m : Nat) (kx : Int → Int → Option β) (h : Int) : g83_7L n kx (m + 7) h 1 16777619 9 = kx h 558416115 := rfl
theorem pw10 {β : Type} (n m : Nat) (kx : Int → Int → Option β) (h : Int) : g83_7L n kx (m + 7) h 1 16777619 10 = kx h 1485291145 := rfl
theorem pw11 {β : Type} (n m : Nat) (kx : Int → Int → Option β) (h : Int) : g83_7L n kx (m + 7) h 1 16777619 11 = kx h 3870355883 := rfl
theorem pw12 {β : Type} (n m : Nat) (kx : Int → Int → Option β) (h : Int) : g83_7L n kx (m + 7) h 1 16777619 12 = kx h 3549196337 := rfl
theorem pw13 {β : Type} (n m : Nat) (kx : Int → Int → Option β) (h : Int) : g83_7L n kx (m + 7) h 1 16777619 13 = kx h 924097827 := rfl
theorem pw14 {β : Type} (n m : Nat) (kx : Int → Int → Option β) (h : Int) : g83_7L n kx (m + 7) h 1 16777619 14 = kx h 3631439385 := rfl
theorem pw15 {β : Type} (n m : Nat) (kx : Int → Int → Option β) (h : Int) : g83_7L n kx (m + 7) h 1 16777619 15 = kx h 3600621915 := rfl
theorem pw16 {β : Type} (n m : Nat) (kx : Int → Int → Option β) (h : Int) : g83_7L n kx (m + 7) h 1 16777619 16 = kx h 878412353 := rfl
theorem pw17 {β : Type} (n m : Nat) (kx : Int → Int → Option β) (h : Int) : g83_7L n kx (m + 7) h 1 16777619 17 = kx h 2903379027 := rfl
theorem pw18 {β : Type} (n m : Nat) (kx : Int → Int → Option β) (h : Int) : g83_7L n kx (m + 7) h 1 16777619 18 = kx h 3223152297 := rfl
theorem pw19 {β : Type} (n m : Nat) (kx : Int → Int → Option β) (h : Int) : g83_7L n kx (m + 7) h 1 16777619 19 = kx h 390634507 := rfl
theorem pw20 {β : Type} (n m : Nat) (kx : Int → Int → Option β) (h : Int) : g83_7L n kx (m + 7) h 1 16777619 20 = kx h 2991433041 := rfl
theorem pw21 {β : Type} (n m : Nat) (kx : Int → Int → Option β) (h : Int) : g83_7L n kx (m + 7) h 1 16777619 21 = kx h 20659843 := rfl
theorem pw22 {β : Type} (n m : Nat) (kx : Int → Int → Option β) (h : Int) : g83_7L n kx (m + 7) h 1 16777619 22 = kx h 1933797433 := rfl
theorem pw23 {β : Type} (n m : Nat) (kx : Int → Int → Option β) (h : Int) : g83_7L n kx (m + 7) h 1 16777619 23 = kx h 2887586235 := rfl
theorem pw24 {β : Type} (n m : Nat) (kx : Int → Int → Option β) (h : Int) : g83_7L n kx (m + 7) h 1 16777619 24 = kx h 2898454881 := rfl
theorem pw25 {β : Type} (n m : Nat) (kx : Int → Int → Option β) (h : Int) : g83_7L n kx (m + 7) h 1 16777619 25 = kx h 1473602483 := rfl
theorem pw26 {β : Type} (n m : Nat) (kx : Int → Int → Option β) (h : Int) : g83_7L n kx (m + 7) h 1 16777619 26 = kx h 4159435465 := rfl
theorem pw27 {β : Type} (n m : Nat) (kx : Int → Int → Option β) (h : Int) : g83_7L n kx (m + 7) h 1 16777619 27 = kx h 292500075 := rfl
theorem pw28 {β : Type} (n m : Nat) (kx : Int → Int → Option β) (h : Int) : g83_7L n kx (m + 7) h 1 16777619 28 = kx h 3708575345 := rfl
theorem pw29 {β : Type} (n m : Nat) (kx : Int → Int → Option β) (h : Int) : g83_7L n kx (m + 7) h 1 16777619 29 = kx h 1803070435 := rfl
theorem pw30 {β : Type} (n m : Nat) (kx : Int → Int → Option β) (h : Int) : g83_7L n kx (m + 7) h 1 16777619 30 = kx h 301373017 := rfl
theorem pw31 {β : Type} (n m : Nat) (kx : Int → Int → Option β) (h : Int) : g83_7L n kx (m + 7) h 1 16777619 31 = kx h 2687413787 := rfl
theorem pw32 {β : Type} (n m : Nat) (kx : Int → Int → Option β) (h : Int) : g83_7L n kx (m + 7) h 1 16777619 32 = kx h 1148982401 := rfl
theorem pw33 {β : Type} (n m : Nat) (kx : Int → Int → Option β) (h : Int) : g83_7L n kx (m + 7) h 1 16777619 33 = kx h 1347700499 := rfl
theorem pw34 {β : Type} (n m : Nat) (kx : Int → Int → Option β) (h : Int) : g83_7L n kx (m + 7) h 1 16777619 34 = kx h 2276188905 := rfl
theorem pw35 {β : Type} (n m : Nat) (kx : Int → Int → Option β) (h : Int) : g83_7L n kx (m + 7) h 1 16777619 35 = kx h 2090218699 := rfl
theorem pw36 {β : Type} (n m : Nat) (kx : Int → Int → Option β) (h : Int) : g83_7L n kx (m + 7) h 1 16777619 36 = kx h 3950320529 := rfl
theorem pw37 {β : Type} (n m : Nat) (kx : Int → Int → Option β) (h : Int) : g83_7L n kx (m + 7) h 1 16777619 37 = kx h 979002691 := rfl
theorem pw38 {β : Type} (n m : Nat) (kx : Int → Int → Option β) (h : Int) : g83_7L n kx (m + 7) h 1 16777619 38 = kx h 525166713 := rfl
theorem pw39 {β : Type} (n m : Nat) (kx : Int → Int → Option β) (h : Int) : g83_7L n kx (m + 7) h 1 16777619 39 = kx h 3218830971 := rfl
theorem pw40 {β : Type} (n m : Nat) (kx : Int → Int → Option β) (h : Int) : g83_7L n kx (m + 7) h 1 16777619 40 = kx h 2172355489 := rfl
theorem pw41 {β : Type} (n m : Nat) (kx : Int → Int → Option β) (h : Int) : g83_7L n kx (m + 7) h 1 16777619 41 = kx h 1987065459 := rfl
theorem pw42 {β : Type} (n m : Nat) (kx : Int → Int → Option β) (h : Int) : g83_7L n kx (m + 7) h 1 16777619 42 = kx h 3852842761 := rfl
theorem pw43 {β : Type} (n m : Nat) (kx : Int → Int → Option β) (h : Int) : g83_7L n kx (m + 7) h 1 16777619 43 = kx h 2363433771 := rfl
theorem pw44 {β : Type} (n m : Nat) (kx : Int → Int → Option β) (h : Int) : g83_7L n kx (m + 7) h 1 16777619 44 = kx h 3997457585 := rfl
theorem pw45 {β : Type} (n m : Nat) (kx : Int → Int → Option β) (h : Int) : g83_7L n kx (m + 7) h 1 16777619 45 = kx h 3332237987 := rfl
theorem pw46 {β : Type} (n m : Nat) (kx : Int → Int → Option β) (h : Int) : g83_7L n kx (m + 7) h 1 16777619 46 = kx h 1301831321 := rfl
theorem pw47 {β : Type} (n m : Nat) (kx : Int → Int → Option β) (h : Int) : g83_7L n kx (m + 7) h 1 16777619 47 = kx h 3218926299 := rfl
theorem pw48 {β : Type} (n m : Nat) (kx : Int → Int → Option β) (h : Int) : g83_7L n kx (m + 7) h 1 16777619 48 = kx h 3821385409 := rfl
theorem pw49 {β : Type} (n m : Nat) (kx : Int → Int → Option β) (h : Int) : g83_7L n kx (m + 7) h 1 16777619 49 = kx h 1363063251 := rfl
theorem pw50 {β : Type} (n m : Nat) (kx : Int → Int → Option β) (h : Int) : g83_7L n kx (m + 7) h 1 16777619 50 = kx h 3098668841 := rfl
theorem pw51 {β : Type} (n m : Nat) (kx : Int → Int → Option β) (h : Int) : g83_7L n kx (m + 7) h 1 16777619 51 = kx h 3910892939 := rfl
theorem pw52 {β : Type} (n m : Nat) (kx : Int → Int → Option β) (h : Int) : g83_7L n kx (m + 7) h 1 16777619 52 = kx h 2168889809 := rfl
theorem pw53 {β : Type} (n m : Nat) (kx : Int → Int → Option β) (h : Int) : g83_7L n kx (m + 7) h 1 16777619 53 = kx h 1395702787 := rfl
theorem pw54 {β : Type} (n m : Nat) (kx : Int → Int → Option β) (h : Int) : g83_7L n kx (m + 7) h 1 16777619 54 = kx h 4172806329 := rfl
theorem pw55 {β : Type} (n m : Nat) (kx : Int → Int → Option β) (h : Int) : g83_7L n kx (m + 7) h 1 16777619 55 = kx h 1117555515 := rfl
theorem pw56 {β : Type} (n m : Nat) (kx : Int → Int → Option β) (h : Int) : g83_7L n kx (m + 7) h 1 16777619 56 = kx h 393162209 := rfl
theorem pw57 {β : Type} (n m : Nat) (kx : Int → Int → Option β) (h : Int) : g83_7L n kx (m + 7) h 1 16777619 57 = kx h 3305453875 := rfl
theorem pw58 {β : Type} (n m : Nat) (kx : Int → Int → Option β) (h : Int) : g83_7L n kx (m + 7) h 1 16777619 58 = kx h 1513687881 := rfl
theorem pw59 {β : Type} (n m : Nat) (kx : Int → Int → Option β) (h : Int) : g83_7L n kx (m + 7) h 1 16777619 59 = kx h 1355596779 := rfl
theorem pw60 {β : Type} (n m : Nat) (kx : Int → Int → Option β) (h : Int) : g83_7L n kx (m + 7) h 1 16777619 60 = kx h 492333809 := rfl
theorem pow_ok {β : Type} (n m : Nat) (kx : Int → Int → Option β) (h : Int) : ∀ k : Nat, k ≤ 60 → g83_7L n kx (m + 7) h 1 16777619 (k : Int) = kx h ((16777619 : Int) ^ k % 4294967296)
 | 0, _ => (pw0 n m kx h).trans (congrArg (kx h) (by decide))
 | 1, _ => (pw1 n m kx h).trans (congrArg (kx h) (by decide))
 | 2, _ => (pw2 n m kx h).trans (congrArg (kx h) (by decide))
 | 3, _ => (pw3 n m kx h).trans (congrArg (kx h) (by decide))
 | 4, _ => (pw4 n m kx h).trans (congrArg (kx h) (by decide))
 | 5, _ => (pw5 n m kx h).trans (congrArg (kx h) (by decide))
 | 6, _ => (pw6 n m kx h).trans (congrArg (kx h) (by decide))
 | 7, _ => (pw7 n m kx h).trans (congrArg (kx h) (by decide))
 | 8, _ => (pw8 n m kx h).trans (congrArg (kx h) (by decide))
 | 9, _ => (pw9 n m kx h).trans (congrArg (kx h) (by decide))
 | 10, _ => (pw10 n m kx h).trans (congrArg (kx h) (by decide))
 | 11, _ => (pw11 n m kx h).trans (congrArg (kx h) (by decide))
 | 12, _ => (pw12 n m kx h).trans (congrArg (kx h) (by decide))
 | 13, _ => (pw13 n m kx h).trans (congrArg (kx h) (by decide))
 | 14, _ => (pw14 n m kx h).trans (congrArg (kx h) (by decide))
 | 15, _ => (pw15 n m kx h).trans (congrArg (kx h) (by decide))
 | 16, _ => (pw16 n m kx h).trans (congrArg (kx h) (by decide))
 | 17, _ => (pw17 n m kx h).trans (congrArg (kx h) (by decide))
 | 18, _ => (pw18 n m kx h).trans (congrArg (kx h) (by decide))
 | 19, _ => (pw19 n m kx h).trans (congrArg (kx h) (by decide))
 | 20, _ => (pw20 n m kx h).trans (congrArg (kx h) (by decide))
 | 21, _ => (pw21 n m kx h).trans (congrArg (kx h) (by decide))
 | 22, _ => (pw22 n m kx h).trans (congrArg (kx h) (by decide))
 | 23, _ => (pw23 n m kx h).trans (congrArg (kx h) (by decide))
 | 24, _ => (pw24 n m kx h).trans (congrArg (kx h) (by decide))
 | 25, _ => (pw25 n m kx h).trans (congrArg (kx h) (by decide))
 | 26, _ => (pw26 n m kx h).trans (congrArg (kx h) (by decide))
 | 27, _ => (pw27 n m kx h).trans (congrArg (kx h) (by decide))
 | 28, _ => (pw28 n m kx h).trans (congrArg (kx h) (by decide))
 | 29, _ => (pw29 n m kx h).trans (congrArg (kx h) (by decide))
 | 30, _ => (pw30 n m kx h).trans (congrArg (kx h) (by decide))
 | 31, _ => (pw31 n m kx h).trans (congrArg (kx h) (by decide))
 | 32, _ => (pw32 n m kx h).trans (congrArg (kx h) (by decide))
 | 33, _ => (pw33 n m kx h).trans (congrArg (kx h) (by decide))
 | 34, _ => (pw34 n m kx h).trans (congrArg (kx h) (by decide))
 | 35, _ => (pw35 n m kx h).trans (congrArg (kx h) (by decide))
 | 36, _ => (pw36 n m kx h).trans (congrArg (kx h) (by decide))
 | 37, _ => (pw37 n m kx h).trans (congrArg (kx h) (by decide))
 | 38, _ => (pw38 n m kx h).trans (congrArg (kx h) (by decide))
 | 39, _ => (pw39 n m kx h).trans (congrArg (kx h) (by decide))
 | 40, _ => (pw40 n m kx h).trans (congrArg (kx h) (by decide))
 | 41, _ => (pw41 n m kx h).trans (congrArg (kx h) (by decide))
 | 42, _ => (pw42 n m kx h).trans (congrArg (kx h) (by decide))
 | 43, _ => (pw43 n m kx h).trans (congrArg (kx h) (by decide))
 | 44, _ => (pw44 n m kx h).trans (congrArg (kx h) (by decide))
 | 45, _ => (pw45 n m kx h).trans (congrArg (kx h) (by decide))
 | 46, _ => (pw46 n m kx h).trans (congrArg (kx h) (by decide))
 | 47, _ => (pw47 n m kx h).trans (congrArg (kx h) (by decide))
 | 48, _ => (pw48 n m kx h).trans (congrArg (kx h) (by decide))
 | 49, _ => (pw49 n m kx h).trans (congrArg (kx h) (by decide))
 | 50, _ => (pw50 n m kx h).trans (congrArg (kx h) (by decide))
 | 51, _ => (pw51 n m kx h).trans (congrArg (kx h) (by decide))
 | 52, _ => (pw52 n m kx h).trans (congrArg (kx h) (by decide))
 | 53, _ => (pw53 n m kx h).trans (congrArg (kx h) (by decide))
 | 54, _ => (pw54 n m kx h).trans (congrArg (kx h) (by decide))
 | 55, _ => (pw55 n m kx h).trans (congrArg (kx h) (by decide))
 | 56, _ => (pw56 n m kx h).trans (congrArg (kx h) (by decide))
 | 57, _ => (pw57 n m kx h).trans (congrArg (kx h) (by decide))
 | 58, _ => (pw58 n m kx h).trans (congrArg (kx h) (by decide))
 | 59, _ => (pw59 n m kx h).trans (congrArg (kx h) (by decide))
 | 60, _ => (pw60 n m kx h).trans (congrArg (kx h) (by decide))
 | k + 61, hk => absurd hk (by omega)
theorem hashRev_ok (n : Nat) (hn : Big ≤ n) (p : ByteArray) (hp : p.size ≤ 60) : g83 n p = some (hw p 0 p.size % 4294967296, ((16777619 : Int) ^ p.size % 4294967296, ())) := by
 have hB : (4611686018427387904 : Nat) ≤ n := hn
 dsimp only [g83, g83_10, g83_1, g83_4, g83_3]
 have key : ∀ (i m : Nat) (κ : ByteArray → Int → Option (DenR [.dat (.int .u32), .dat (.int .u32)])), i ≤ p.size → i < m → g83_3L n κ m p (hw p i (p.size - i) % 4294967296) ((i : Int) - 1) = κ p (hw p 0 p.size % 4294967296) := by
  intro i
  induction i with
  | zero =>
   intro m κ hi hm
   obtain ⟨m, rfl⟩ : ∃ m', m = m' + 1 := ⟨m - 1, by omega⟩
   rw [g83_3L.eq_2, g83_2, bdF (by omega), Nat.sub_zero]
  | succ i ih =>
   intro m κ hi hm
   obtain ⟨m, rfl⟩ : ∃ m', m = m' + 1 := ⟨m - 1, by omega⟩
   have e : hw p i (p.size - i) = hw p (i + 1) (p.size - (i + 1)) * 16777619 + byteAt p (i : Int) := by
    obtain ⟨k, hk⟩ : ∃ k, p.size - i = k + 1 := ⟨p.size - i - 1, by omega⟩
    rw [hk, show p.size - (i + 1) = k by omega]; rfl
   rw [g83_3L.eq_2, g83_2, bdT (by omega), idx_ok (by omega) (by omega), show ((i + 1 : Nat) : Int) - 1 = (i : Int) by omega, step_mod, ← e, w64_id (by omega) (by omega)]
   exact ih m κ (by omega) (by omega)
 have := key p.size n (fun v0 v4 => g83_5 n (fun v4 v6 v7 v8 => g83_8 n (fun v4 v6 => g83_9 n (fun v2 v3 => some (v2, (v3, ()))) v4 v6) v4 v6 v7 v8) v0 v4) (by omega) (by omega)
 rw [Nat.sub_self] at this
 rw [w64_id (by omega) (by omega)]
 refine Eq.trans this ?_
 dsimp only [g83_5, g83_8, g83_7, g83_9]
 obtain ⟨m, rfl⟩ : ∃ m, n = m + 7 := ⟨n - 7, by omega⟩
 rw [pow_ok _ _ _ _ _ hp]
theorem rabin_ok (n : Nat) (hn : Big ≤ n) (z p : ByteArray) (hp : p.size ≤ 60) (hz : z.size ≤ 1000) (h : p.size ≤ z.size) : g74 n z p = some (lastF z p (z.size + 1 - p.size), ()) := by
 have hB : (4611686018427387904 : Nat) ≤ n := hn
 dsimp only [g74, g74_11, g74_1, g74_4, g74_3]
 rw [bind_some' (hashRev_ok n hn p hp)]
 simp only
 have hne : ∀ i : Nat, i + p.size ≤ z.size → hw z i p.size % 4294967296 ≠ hw p 0 p.size % 4294967296 → cutS z (i : Int) ((i : Int) + p.size) ≠ p := fun i hi hh he => hh (by
  rw [hw_congr p.size i 0 fun t ht => by rw [Nat.zero_add]; exact (cut_iff hi).1 he t ht])
 have key2 : ∀ (i m : Nat), i + p.size ≤ z.size → i < m → g74_8L n (fun v4 => @some (DenR [.dat (.int .i64)]) (v4, ())) (g74_10 n (fun v4 => some (v4, ()))) m z p (hw p 0 p.size % 4294967296) ((16777619 : Int) ^ p.size % 4294967296) (p.size : Int) (hw z i p.size % 4294967296) ((i : Int) - 1) = some (lastF z p i, ()) := by
  intro i
  induction i with
  | zero =>
   intro m hi hm
   obtain ⟨m, rfl⟩ : ∃ m', m = m' + 1 := ⟨m - 1, by omega⟩
   rw [g74_8L.eq_2, g74_7, bdF (by omega), g74_10]
   rfl
  | succ i ih =>
   intro m hi hm
   obtain ⟨m, rfl⟩ : ∃ m', m = m' + 1 := ⟨m - 1, by omega⟩
   have ih' := ih m (by omega) (by omega)
   have hr := hw_roll z p.size i
   have hn' := hne i (by omega)
   rw [g74_8L.eq_2, g74_7, bdT (by omega), show ((i + 1 : Nat) : Int) - 1 = (i : Int) by omega, w64_id (n := (i : Int) + (p.size : Int)) (by omega) (by omega), w64_id (n := (i : Int) - 1) (by omega) (by omega), idx_ok (by omega) (by omega), idx_ok (by omega) (by omega), show (i : Int) + (p.size : Int) = ((i + p.size : Nat) : Int) by omega, roll_mod, ← hr]
   rw [show ((i + p.size : Nat) : Int) = (i : Int) + (p.size : Int) by omega]
   unfold lastF
   by_cases c : hw z i p.size % 4294967296 = hw p 0 p.size % 4294967296
   ·rw [biT (by rw [beq_iff_eq]; exact c), bnd_ok (by omega) (by omega) (by omega)]
    by_cases c2 : cutS z (i : Int) ((i : Int) + (p.size : Int)) = p
    ·rw [biT (by rw [strEq_eq]; simpa using c2), if_pos c2]
    ·rw [biF (by rw [strEq_eq]; simpa using c2), if_neg c2]
     exact ih'
   ·rw [biF (by rw [beq_eq_false_iff_ne]; exact c), if_neg (hn' c)]
    exact ih'
 have key : ∀ (d i m : Nat) (κ : ByteArray → ByteArray → Int → Int → Int → Int → Int → Option (DenR [.dat (.int .i64)])), i - (z.size - p.size) = d → z.size - p.size ≤ i → i ≤ z.size → d < m → g74_3L n κ m z p (hw p 0 p.size % 4294967296) ((16777619 : Int) ^ p.size % 4294967296) (p.size : Int) ((z.size - p.size : Nat) : Int) (hw z i (z.size - i) % 4294967296) ((i : Int) - 1) = κ z p (hw p 0 p.size % 4294967296) ((16777619 : Int) ^ p.size % 4294967296) (p.size : Int) ((z.size - p.size : Nat) : Int) (hw z (z.size - p.size) p.size % 4294967296) := by
  intro d
  induction d with
  | zero =>
   intro i m κ hd hi hi2 hm
   obtain ⟨m, rfl⟩ : ∃ m', m = m' + 1 := ⟨m - 1, by omega⟩
   rw [g74_3L.eq_2, g74_2, bdF (by omega), show i = z.size - p.size by omega, show z.size - (z.size - p.size) = p.size by omega]
  | succ d ih =>
   intro i m κ hd hi hi2 hm
   obtain ⟨m, rfl⟩ : ∃ m', m = m' + 1 := ⟨m - 1, by omega⟩
   obtain ⟨i, rfl⟩ : ∃ i', i = i' + 1 := ⟨i - 1, by omega⟩
   have e : hw z i (z.size - i) = hw z (i + 1) (z.size - (i + 1)) * 16777619 + byteAt z (i : Int) := by
    obtain ⟨k, hk⟩ : ∃ k, z.size - i = k + 1 := ⟨z.size - i - 1, by omega⟩
    rw [hk, show z.size - (i + 1) = k by omega]; rfl
   rw [g74_3L.eq_2, g74_2, bdT (by omega), idx_ok (by omega) (by omega), show ((i + 1 : Nat) : Int) - 1 = (i : Int) by omega, step_mod, ← e, w64_id (by omega) (by omega)]
   exact ih i m κ (by omega) (by omega) (by omega) (by omega)
 have k0 := key p.size z.size n (fun v0 v1 v5 v6 v7 v8 v9 => g74_5 n (fun v0 v1 v5 v6 v7 v8 v9 => g74_6 n (fun v0 v1 v5 v6 v7 v9 v11 => g74_9 n (g74_10 n (fun v4 => some (v4, ()))) (fun v4 => some (v4, ())) v0 v1 v5 v6 v7 v9 v11) v0 v1 v5 v6 v7 v8 v9) (fun v4 => some (v4, ())) v0 v1 v5 v6 v7 v8 v9) (by omega) (by omega) (by omega) (by omega)
 rw [Nat.sub_self] at k0
 rw [w64_id (n := (z.size : Int) - (p.size : Int)) (by omega) (by omega), w64_id (n := (z.size : Int) - 1) (by omega) (by omega), show (z.size : Int) - (p.size : Int) = ((z.size - p.size : Nat) : Int) by omega]
 refine Eq.trans k0 ?_
 dsimp only [g74_5, g74_6, g74_9, g74_8]
 have k2 := key2 (z.size - p.size) n (by omega) (by omega)
 rw [show z.size + 1 - p.size = (z.size - p.size) + 1 by omega]
 unfold lastF
 rw [show ((z.size - p.size : Nat) : Int) + (p.size : Int) = (z.size : Int) by omega]
 have hn' := hne (z.size - p.size) (by omega)
 rw [show ((z.size - p.size : Nat) : Int) + (p.size : Int) = (z.size : Int) by omega] at hn'
 rw [w64_id (n := ((z.size - p.size : Nat) : Int) - 1) (by omega) (by omega)]
 by_cases c : hw z (z.size - p.size) p.size % 4294967296 = hw p 0 p.size % 4294967296
 ·rw [biT (by rw [beq_iff_eq]; exact c), bnd_ok (by omega) (by omega) (by omega)]
  by_cases c2 : cutS z ((z.size - p.size : Nat) : Int) (z.size : Int) = p
  ·rw [biT (by rw [strEq_eq]; simpa using c2), if_pos c2]
  ·rw [biF (by rw [strEq_eq]; simpa using c2), if_neg c2]
   exact k2
 ·rw [biF (by rw [beq_eq_false_iff_ne]; exact c), if_neg (hn' c)]
  exact k2
theorem lastByte_ok (n : Nat) (hn : Big ≤ n) (z p : ByteArray) (hp : p.size = 1) (hz : z.size ≤ 1000) : g73 n z (byteAt p 0) = some (lastF z p z.size, ()) := by
 have hB : (4611686018427387904 : Nat) ≤ n := hn
 dsimp only [g73, g73_6, g73_1, g73_4, g73_3]
 have key : ∀ (i m : Nat), i ≤ z.size → i < m → g73_3L n (fun v4 => @some (DenR [.dat (.int .i64)]) (v4, ())) (g73_5 n (fun v4 => some (v4, ()))) m z (byteAt p 0) ((i : Int) - 1) = some (lastF z p i, ()) := by
  intro i
  induction i with
  | zero =>
   intro m hi hm
   obtain ⟨m, rfl⟩ : ∃ m', m = m' + 1 := ⟨m - 1, by omega⟩
   rw [g73_3L.eq_2, g73_2, bdF (by omega), g73_5]
   rfl
  | succ i ih =>
   intro m hi hm
   obtain ⟨m, rfl⟩ : ∃ m', m = m' + 1 := ⟨m - 1, by omega⟩
   have hc : cutS z (i : Int) ((i : Int) + (p.size : Int)) = p ↔ byteAt z (i : Int) = byteAt p 0 := by
    rw [cut_iff (by omega)]
    constructor
    ·intro h; exact h 0 (by omega)
    ·intro h j hj; obtain rfl : j = 0 := by omega
     exact h
   rw [g73_3L.eq_2, g73_2, bdT (by omega), idx_ok (by omega) (by omega), show ((i + 1 : Nat) : Int) - 1 = (i : Int) by omega, w64_id (by omega) (by omega)]
   unfold lastF
   by_cases c : byteAt z (i : Int) = byteAt p 0
   ·rw [biT (by rw [beq_iff_eq]; exact c), if_pos (hc.2 c)]
   ·rw [biF (by rw [beq_eq_false_iff_ne]; exact c), if_neg fun h => c (hc.1 h)]
    exact ih m (by omega) (by omega)
 rw [w64_id (by omega) (by omega)]
 exact key z.size n (by omega) (by omega)
theorem lastIndex_ok (n : Nat) (hn : Big ≤ n) (z p : ByteArray) (h0 : 0 < p.size) (hp : p.size ≤ 60) (hz : z.size ≤ 1000) : g60 n z p = some (lastF z p (z.size + 1 - p.size), ()) := by
 dsimp only [g60, g60_5, g60_1, g60_3, g60_2, g60_4]
 rw [biF (by rw [beq_eq_false_iff_ne]; omega)]
 by_cases c1 : p.size = 1
 ·rw [biT (by rw [beq_iff_eq]; omega), idx_ok (by omega) (by omega), bind_some' (lastByte_ok n hn z p c1 hz), c1]
  rfl
 rw [biF (by rw [beq_eq_false_iff_ne]; omega)]
 by_cases c2 : p.size = z.size
 ·rw [biT (by rw [beq_iff_eq]; omega), show z.size + 1 - p.size = 0 + 1 by omega]
  unfold lastF lastF
  have e : cutS z ((0 : Nat) : Int) (((0 : Nat) : Int) + (p.size : Int)) = z := by
   refine bytesOf_inj ?_
   rw [bytesOf_cutS, cut_to _ _ _ (by rw [bytesOf_length]; omega)]
   rfl
  rw [e]
  by_cases c : p = z
  ·rw [biT (by rw [strEq_eq]; simpa using c), if_pos c.symm]; rfl
  ·rw [biF (by rw [strEq_eq]; simpa using c), if_neg fun h => c h.symm]
 rw [biF (by rw [beq_eq_false_iff_ne]; omega)]
 by_cases c3 : p.size > z.size
 ·rw [bdT (by omega), show z.size + 1 - p.size = 0 by omega]; rfl
 rw [bdF (by omega), bind_some' (rabin_ok n hn z p hp hz (by omega))]
theorem lastF_cut (s p : ByteArray) (m : Nat) (hm : m ≤ s.size) : ∀ k : Nat, k + p.size ≤ m + 1 → lastF (cutS s 0 (m : Int)) p k = lastF s p k
 | 0, _ => rfl
 | k + 1, h => by
  unfold lastF
  have hs := size_cutS (z := s) (a := 0) (b := (m : Int)) (by omega) (by omega) (by omega)
  have e : cutS (cutS s 0 (m : Int)) (k : Int) ((k : Int) + p.size) = p ↔ cutS s (k : Int) ((k : Int) + p.size) = p := by
   rw [cut_iff (by omega), cut_iff (by omega)]
   constructor
   ·intro h j hj
    have := h j hj
    rw [byteAt_cutS (by omega) (by omega) (by omega) (by omega), Int.zero_add] at this
    exact this
   ·intro h j hj
    rw [byteAt_cutS (by omega) (by omega) (by omega) (by omega), Int.zero_add]
    exact h j hj
  rw [lastF_cut s p m hm k (by omega)]
  by_cases c : cutS s (k : Int) ((k : Int) + p.size) = p
  ·rw [if_pos c, if_pos (e.2 c)]
  ·rw [if_neg c, if_neg fun h => c (e.1 h)]
theorem lastOf_ok (n : Nat) (hn : Big ≤ n) (s : List Int) (hs : Asc s) (hl : s.length ≤ 60) (p : ByteArray) (h0 : 0 < p.size) (hp : p.size ≤ 60) (i : Int) (hi : -2 ≤ i) (hi2 : i ≤ 100) :
  g49 n (enc s) p i = some (if i < 0 then -1 else lastF (enc s) p (min (i.toNat + 1) s.length + 1 - p.size), ()) := by
 have hsz := hs.size
 dsimp only [g49, g49_1]
 by_cases c1 : i < 0
 ·rw [bdT c1, if_pos c1]
 rw [bdF c1, if_neg c1]
 by_cases c2 : i ≥ ((enc s).size : Int)
 ·rw [bdT c2, bind_some' (lastIndex_ok n hn (enc s) p h0 hp (by omega)), hsz, show min (i.toNat + 1) s.length = s.length by omega]
 ·rw [bdF c2, bnd_ok (by omega) (by omega) (by omega)]
  have hc := size_cutS (z := enc s) (a := i) (b := ((enc s).size : Int)) (by omega) (by omega) (by omega)
  have hb : byteAt (cutS (enc s) i ((enc s).size : Int)) 0 = s[i.toNat]'(by omega) := by
   rw [byteAt_cutS (by omega) (by omega) (by omega) (by omega), Int.add_zero]
   have := hs.byteAt (i := i.toNat) (by omega)
   rw [show ((i.toNat : Nat) : Int) = i by omega] at this
   exact this
  have hlt := hs (s[i.toNat]'(by omega)) (by simp)
  have hd : g61 n (cutS (enc s) i ((enc s).size : Int)) = some (((Lib.decodeGo (cutS (enc s) i ((enc s).size : Int))).1 : Int), ((1 : Int), ())) := by
   have : (Lib.decodeGo (cutS (enc s) i ((enc s).size : Int))).2 = 1 := by
    unfold Lib.decodeGo
    rw [if_neg (by omega)]
    have h1 : ((cutS (enc s) i ((enc s).size : Int)).get! 0).toNat < 128 := by
     have : (((cutS (enc s) i ((enc s).size : Int)).get! 0).toNat : Int) = s[i.toNat]'(by omega) := hb
     omega
    rw [dec_one _ 0 _ rfl h1]
   have e : g61 n (cutS (enc s) i ((enc s).size : Int)) = some (((Lib.decodeGo (cutS (enc s) i ((enc s).size : Int))).1 : Int), (((Lib.decodeGo (cutS (enc s) i ((enc s).size : Int))).2 : Int), ())) := rfl
   rw [e, this]; rfl
  rw [bind_some' hd]
  simp only
  have hm : i + 1 = ((i.toNat + 1 : Nat) : Int) := by omega
  rw [w64_id (n := i + 1) (by omega) (by omega), bnd_ok (by omega) (by omega) (by omega), hm]
  have hz := size_cutS (z := enc s) (a := 0) (b := ((i.toNat + 1 : Nat) : Int)) (by omega) (by omega) (by omega)
  rw [bind_some' (lastIndex_ok n hn _ p h0 hp (by omega)), hz, show min (i.toNat + 1) s.length = i.toNat + 1 by omega, show (((i.toNat + 1 : Nat) : Int) - 0).toNat = i.toNat + 1 by omega]
  by_cases c : p.size ≤ i.toNat + 1
  ·rw [lastF_cut (enc s) p (i.toNat + 1) (by omega) _ (by omega)]
  ·rw [show i.toNat + 1 + 1 - p.size = 0 by omega]; rfl
theorem last_core (n : Nat) (hn : Big ≤ n) (s : List Int) (hs : Asc s) (hl : s.length ≤ 60) (p : ByteArray) (h0 : 0 < p.size) (hp : p.size ≤ 60) (at_ : Int) :
  g3_2 n (fun v2 v7 v8 v9 v10 => g3_5 n (fun v2 v7 v8 v9 => g3_6 n (fun v6 => @some (DenR [.dat .bool]) (v6, ())) v2 v7 v8 v9) v2 v7 v8 v9 v10) at_ (enc s) p = some (true, ()) := by
 have hB : (4611686018427387904 : Nat) ≤ n := hn
 have hsz := hs.size
 have hu : ∀ x : Int, 0 ≤ IntKind.u64.wrap x ∧ IntKind.u64.wrap x < 18446744073709551616 := fun x => by
  unfold IntKind.wrap; simp [IntKind.bits, IntKind.signed]; omega
 have hw : IntKind.u64.wrap ((s.length : Int) + 5) = (s.length : Int) + 5 := by
  unfold IntKind.wrap; simp [IntKind.bits, IntKind.signed]; omega
 have h := hu at_
 dsimp only [g3_2, g3_5, g3_4]
 rw [hsz, w64_id (n := (s.length : Int) + 5) (by omega) (by omega), hw, nz_ok (by omega)]
 have t1 := Int.tmod_nonneg ((s.length : Int) + 5) h.1
 have t2 := Int.tmod_lt_of_pos (IntKind.u64.wrap at_) (show (0 : Int) < (s.length : Int) + 5 by omega)
 generalize (IntKind.u64.wrap at_).tmod ((s.length : Int) + 5) = r at *
 rw [w64_id (n := r) (by omega) (by omega), w64_id (n := r - 2) (by omega) (by omega)]
 generalize hi : r - 2 = i at *
 have hmm : minI (w64 (i + 1)) ((enc s).size : Int) = min (i + 1) (s.length : Int) := by
  rw [w64_id (by omega) (by omega), hsz]
  unfold minI
  split <;> omega
 have fin : ∀ w : Int, w = (if i < 0 then -1 else lastF (enc s) p (min (i.toNat + 1) s.length + 1 - p.size)) → g3_6 n (fun v6 => @some (DenR [.dat .bool]) (v6, ())) i (enc s) p w = some (true, ()) := by
  intro w hw
  dsimp only [g3_6, g10, g10_1, g29, g29_1]
  rw [bind_some' (lastOf_ok n hn s hs hl p h0 hp i (by omega) (by omega)), hw]
  simp
 have key : ∀ (d j m : Nat), min (i + 1) (s.length : Int) - p.size + 1 - j = (d : Int) ∨ (d = 0 ∧ min (i + 1) (s.length : Int) - p.size + 1 < j) → (j = 0 ∨ (j : Int) ≤ min (i + 1) (s.length : Int) - p.size + 1) → d < m →
   g3_4L n (fun v2 v7 v8 v9 => g3_6 n (fun v6 => @some (DenR [.dat .bool]) (v6, ())) v2 v7 v8 v9) m i (enc s) p (lastF (enc s) p j) (j : Int) = some (true, ()) := by
  intro d
  induction d with
  | zero =>
   intro j m hd hj hm
   obtain ⟨m, rfl⟩ : ∃ m', m = m' + 1 := ⟨m - 1, by omega⟩
   rw [g3_4L.eq_2, g3_3, hmm, w64_id (n := (j : Int) + (p.size : Int)) (by omega) (by omega), bdF (by omega)]
   refine fin _ ?_
   by_cases c : i < 0
   ·rw [if_pos c]
    obtain rfl : j = 0 := by omega
    rfl
   ·rw [if_neg c]
    congr 1; omega
  | succ d ih =>
   intro j m hd hj hm
   obtain ⟨m, rfl⟩ : ∃ m', m = m' + 1 := ⟨m - 1, by omega⟩
   have next := ih (j + 1) m (by omega) (by omega) (by omega)
   rw [g3_4L.eq_2, g3_3, hmm, w64_id (n := (j : Int) + (p.size : Int)) (by omega) (by omega), w64_id (n := (j : Int) + 1) (by omega) (by omega), bdT (by omega), bnd_ok (by omega) (by omega) (by omega), show (j : Int) + 1 = ((j + 1 : Nat) : Int) by omega]
   unfold lastF at next
   by_cases c : cutS (enc s) (j : Int) ((j : Int) + (p.size : Int)) = p
   ·rw [biT (by rw [strEq_eq]; simpa using c)]
    rw [if_pos c] at next
    exact next
   ·rw [biF (by rw [strEq_eq]; simpa using c)]
    rw [if_neg c] at next
    exact next
 by_cases c : 0 ≤ min (i + 1) (s.length : Int) - p.size + 1
 ·exact key (min (i + 1) (s.length : Int) - p.size + 1).toNat 0 n (by omega) (by omega) (by omega)
 ·exact key 0 0 n (by omega) (by omega) (by omega)
theorem lastIndexOf_law (n : Nat) (hn : Big ≤ n) (x y : List Int) (hx : IsBytes x) (hy : IsBytes y) (at_ : Int) : g3 n x y at_ = some (true, ()) := by
 dsimp only [g3, g3_7, g3_1]
 by_cases h1 : (x.length : Int) > 2147483647
 ·rw [bdT h1]
 by_cases h2 : (y.length : Int) > 2147483647
 ·rw [bdF h1, bdT h2]
 rw [bdF h1, bdF h2, show (60 : Int) = ((60 : Nat) : Int) from rfl, bind_some' (dfAscii_ok n hn x hx 60 (by omega) (by omega)), bind_some' (dfAscii_ok n hn y hy 60 (by omega) (by omega))]
 simp only
 have a1 := asc_ok hx 60
 have a2 := asc_ok hy 60
 have l1 := asc_length x 60
 have l2 := asc_length y 60
 have s2 := a2.size
 by_cases c : enc (asc y 60) = (⟨#[]⟩ : ByteArray)
 ·rw [biT (by rw [strEq_eq]; simpa using c)]
  exact last_core n hn _ a1 l1 _ (by decide) (by decide) at_
 ·rw [biF (by rw [strEq_eq]; simpa using c)]
  refine last_core n hn _ a1 l1 _ ?_ (by omega) at_
  rcases Nat.eq_zero_or_pos (enc (asc y 60)).size with h | h
  ·exact absurd (bytesOf_inj (List.eq_nil_of_length_eq_zero (by rw [bytesOf_length]; exact h))) c
  ·exact h
theorem FnLastIndexOf_pure : ∀ d, GoodA g3_A d → ∃ n, g3_f n d = some (true, ()) := fun d h =>
 ⟨Big, lastIndexOf_law Big (Nat.le_refl _) d.1 d.2.1 (GoodK.bytes h.1).1 (GoodK.bytes h.2.1).1 d.2.2.1⟩
end Go.Proofs.YtoafkjeamgelgaaDoorZF
