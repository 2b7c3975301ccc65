/- Plain words for pure statements: what holds from some number of rounds on. -/
import Derived.Test.YtomidomdomjkfaaXConv
namespace Go.Proofs.YtomidomdomjkfaaW.PrintWords
open Go Go.RowKit
theorem Ev.iteT {α : Type} {c : Prop} [Decidable c] {a b : Nat → Option α} {r : α} (h : c) (k : Ev a r) : Ev (fun n => if c then a n else b n) r := by simpa [h] using k
theorem Ev.iteF {α : Type} {c : Prop} [Decidable c] {a b : Nat → Option α} {r : α} (h : ¬ c) (k : Ev b r) : Ev (fun n => if c then a n else b n) r := by simpa [h] using k
theorem Ev.bindC {α β : Type} {o : Option α} {f : Nat → α → Option β} {a : α} {r : β} (h : o = some a) (k : Ev (fun n => f n a) r) : Ev (fun n => o.bind (f n)) r := by subst h; exact k
theorem Ev.const {α : Type} {o : Option α} {r : α} (h : o = some r) : Ev (fun _ => o) r := ⟨0, fun _ _ => h⟩
theorem Ev.one {α : Type} {g f : Nat → Option α} {r : α} (h : ∀ k, g (k + 1) = f k) (k : Ev f r) : Ev g r := Ev.step h k
theorem w64 {n : Int} (h0 : -9223372036854775808 ≤ n) (h1 : n < 9223372036854775808) : wrap64 n = n := by unfold wrap64; omega
theorem w32 {n : Int} (h0 : -2147483648 ≤ n) (h1 : n < 2147483648) : wrap32 n = n := by unfold wrap32; omega
theorem wf_u32 {x : Int} (h : (Lit.int .u32 x).wf = true) : 0 ≤ x ∧ x ≤ 4294967295 := by simp [Lit.wf, IntKind.min, IntKind.max, IntKind.signed, IntKind.bits] at h; omega
theorem wf_u8 {x : Int} (h : (Lit.int .u8 x).wf = true) : 0 ≤ x ∧ x ≤ 255 := by simp [Lit.wf, IntKind.min, IntKind.max, IntKind.signed, IntKind.bits] at h; omega
theorem wf_i64 {x : Int} (h : (Lit.int .i64 x).wf = true) : -9223372036854775808 ≤ x ∧ x ≤ 9223372036854775807 := by simp [Lit.wf, IntKind.min, IntKind.max, IntKind.signed, IntKind.bits] at h; omega
theorem u64w {n : Int} : IntKind.u64.wrap n = n % 18446744073709551616 := rfl
theorem runesBytes_nil : runesBytes [] = ByteArray.empty := rfl
theorem runesBytes_size (xs : List Int) : (runesBytes xs).size ≤ 4 * xs.length := runesBytes_size_le xs
end Go.Proofs.YtomidomdomjkfaaW.PrintWords
