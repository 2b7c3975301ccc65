-- Written by this session's own program (wip/tools) out of the translation.
import Derived.Test.YtomidomdomjkfaaPTx0
namespace Go.Proofs.Ytomidomdomjkfaa.PT
open Go.RowKit Go.Proofs.YtomidomdomjkfaaW.PrintWords Go.Proofs.YtomidomdomjkfaaW.PrintLast Go.Proofs.YtomidomdomjkfaaW.PrintMore
attribute [local go_sem] max2_int min2_int max_two min_two max_three min_three max_four min_four   -- for this text's walks alone
set_option linter.unusedVariables false
set_option linter.unusedSimpArgs false

/-! ### utf8_RuneCountInString: function 77 -/
def utf8_RuneCountInString.f (a0 : ByteArray) : Option Int := if a0.size < 9223372036854775807 then some ((runesOf a0).length : Int) else none
set_option maxHeartbeats 4000000 in
set_option maxRecDepth 1000000 in
theorem utf8_RuneCountInString.calls (a0 : ByteArray) (r : Int) (w : World) (h : utf8_RuneCountInString.f a0 = some r) :
    Calls Try.prog 77 #[.string a0] w fun e w' => e = .returned (.int .i64 r) ∧ Below w.heap.size w w' := by
  unfold utf8_RuneCountInString.f at h
  split at h
  case isFalse => cases h
  rename_i hs
  obtain rfl := Option.some.inj h
  rw [← runeCount_eq]
  clear h
  go_enter Try.func77, Try.ntmps77
  go_wp2
  go_loopw [2] (fun n w' => ∃ (pos b acc : Nat), w' = w.iter a0 pos ∧ n = .int .i64 acc ∧ acc + Lib.runeCountFrom a0 b pos = Lib.runeCount a0 ∧ a0.size ≤ pos + b ∧ acc ≤ pos) (fun _ w' => a0.size - w'.iterPos w.heap.size)
  case atStart => exact ⟨0, a0.size, 0, rfl, rfl, by simp [Lib.runeCount], by omega, Nat.le_refl _⟩
  case round =>
    obtain ⟨pos, b, acc, rfl, rfl, hc, hb, ha⟩ := hrel
    by_cases hp : pos < a0.size
    · have hnx : ∀ ty, (Instr.next (.pointer (some ⟨w.heap.size, 0, none⟩)) true ty).run Try.prog (w.iter a0 pos) = _ := fun ty => run_next_any w a0 pos ty hp
      have hwd := Lib.decode_width_pos a0 pos hp
      go_wp2
      go_roundw
      case rel =>
        cases b with
        | zero => omega
        | succ b =>
          refine ⟨pos + (Utf8.decode a0 pos).2, b, acc + 1, rfl, by go_num, ?_, by omega, by omega⟩
          rw [← hc]
          simp [Lib.runeCountFrom, hp]
          omega
      case measure =>
        simp
        omega
    · have hnx : ∀ ty, (Instr.next (.pointer (some ⟨w.heap.size, 0, none⟩)) true ty).run Try.prog (w.iter a0 pos) = _ := fun ty => run_next_end w a0 pos ty hp
      go_wp2
      go_ret
      rw [Lib.runeCountFrom_end a0 b pos hp, Nat.add_zero] at hc
      subst hc
      exact ⟨rfl, below_iter w a0 _⟩

end Go.Proofs.Ytomidomdomjkfaa.PT
