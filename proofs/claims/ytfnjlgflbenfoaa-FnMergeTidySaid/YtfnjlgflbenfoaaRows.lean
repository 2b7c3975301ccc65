/-
  No cell of these rows narrows 'for every input' (looked for: loops, veiled, ifaces, maps, wideKeys, modest, calm, conditions, laid).
  DERIVED. THE GIVEN ROWS OF THIS SEAT. 6 by the template 'for every input the law returns true; each argument reads behind the call as it read before'; 0 by the template 'total and deterministic' (their statements: YtfnjlgflbenfoaaTotals.lean).
  GIVEN WITH THE SEED: the statements are not yours to turn. If you find one false, say at which input.
  Laid BY PROGRAM, IN A SANDBOX (cutbox-rows.mjs): the forced cells as the released guide's own fill.sh prints them over the translation 56a38810a56374fe… (all of the seat's roots in one cut). By AI agents, Wed Nov 11 2026. No macro, syntax, notation, axiom, sorry.
-/
import Derived.Test.YtfnjlgflbenfoaaChecked
import GoSem.Claim
import GoSem.ClaimJoined
import GoSem.ClaimMapViews
import Derived.JoinedTies
import Derived.KernelRfl
namespace Go.Proofs.Ytfnjlgflbenfoaa
/- THE CELL 'sum', in the pinned program and in every row, IS THE sha256 OF THE DUMP (.gsa) THAT YtfnjlgflbenfoaaProg.lean LOADS. Nothing in Lean hashes anything: it is a label: what it is worth is what the hold of that sum in a sandbox is worth. -/
noncomputable def Try.pinned : Pinned := { name := "ytfnjlgflbenfoaa", sum := "56a38810a56374febee6992684264e29c746af456e97637f4595621e5bc0f91f", checked := Try.checked }
namespace Rows
def none {H : Type} : Left H := { results := [], args := [] }

/-- 'laws.FnMergeAgain': WHATEVER THE INPUT: true; the input reads as it did. -/
def fnMergeAgainSpec : ChangeSpec := { name := "fnMergeAgain", fn := fun _ => fun
  | [d] => { results := [.lit (.bool true)], args := [d] }
  | _ => none }
def fnMergeAgainRow : OpenClaim := { program := "ytfnjlgflbenfoaa", sum := "56a38810a56374febee6992684264e29c746af456e97637f4595621e5bc0f91f", func := "given.example/pub-enjambment/laws.FnMergeAgain", spec := "fnMergeAgain", unfollowed := true, recurses := true, apart := false }
def FnMergeAgainSaid : Prop := fnMergeAgainRow.holds Try.pinned (OpenSpec.ofChange fnMergeAgainSpec)

/-- ITS FALSE NEIGHBOUR: 'it returns false'. Refute it at one input. -/
def fnMergeAgainWrong : ChangeSpec := { name := "fnMergeAgain", fn := fun _ => fun
  | [d] => { results := [.lit (.bool false)], args := [d] }
  | _ => none }
def FnMergeAgainWrongFalsely : Prop := fnMergeAgainRow.holds Try.pinned (OpenSpec.ofChange fnMergeAgainWrong)

/-- 'laws.FnMergeExact': WHATEVER THE INPUT: true; the input reads as it did. -/
def fnMergeExactSpec : ChangeSpec := { name := "fnMergeExact", fn := fun _ => fun
  | [d] => { results := [.lit (.bool true)], args := [d] }
  | _ => none }
def fnMergeExactRow : OpenClaim := { program := "ytfnjlgflbenfoaa", sum := "56a38810a56374febee6992684264e29c746af456e97637f4595621e5bc0f91f", func := "given.example/pub-enjambment/laws.FnMergeExact", spec := "fnMergeExact", unfollowed := true, recurses := true, apart := false }
def FnMergeExactSaid : Prop := fnMergeExactRow.holds Try.pinned (OpenSpec.ofChange fnMergeExactSpec)

/-- ITS FALSE NEIGHBOUR: 'it returns false'. Refute it at one input. -/
def fnMergeExactWrong : ChangeSpec := { name := "fnMergeExact", fn := fun _ => fun
  | [d] => { results := [.lit (.bool false)], args := [d] }
  | _ => none }
def FnMergeExactWrongFalsely : Prop := fnMergeExactRow.holds Try.pinned (OpenSpec.ofChange fnMergeExactWrong)

/-- 'laws.FnMergeFewer': WHATEVER THE INPUT: true; the input reads as it did. -/
def fnMergeFewerSpec : ChangeSpec := { name := "fnMergeFewer", fn := fun _ => fun
  | [d] => { results := [.lit (.bool true)], args := [d] }
  | _ => none }
def fnMergeFewerRow : OpenClaim := { program := "ytfnjlgflbenfoaa", sum := "56a38810a56374febee6992684264e29c746af456e97637f4595621e5bc0f91f", func := "given.example/pub-enjambment/laws.FnMergeFewer", spec := "fnMergeFewer", unfollowed := true, recurses := true, apart := false }
def FnMergeFewerSaid : Prop := fnMergeFewerRow.holds Try.pinned (OpenSpec.ofChange fnMergeFewerSpec)

/-- ITS FALSE NEIGHBOUR: 'it returns false'. Refute it at one input. -/
def fnMergeFewerWrong : ChangeSpec := { name := "fnMergeFewer", fn := fun _ => fun
  | [d] => { results := [.lit (.bool false)], args := [d] }
  | _ => none }
def FnMergeFewerWrongFalsely : Prop := fnMergeFewerRow.holds Try.pinned (OpenSpec.ofChange fnMergeFewerWrong)

/-- 'laws.FnMergeNear': WHATEVER THE INPUT: true; the input reads as it did. -/
def fnMergeNearSpec : ChangeSpec := { name := "fnMergeNear", fn := fun _ => fun
  | [d] => { results := [.lit (.bool true)], args := [d] }
  | _ => none }
def fnMergeNearRow : OpenClaim := { program := "ytfnjlgflbenfoaa", sum := "56a38810a56374febee6992684264e29c746af456e97637f4595621e5bc0f91f", func := "given.example/pub-enjambment/laws.FnMergeNear", spec := "fnMergeNear", unfollowed := true, recurses := true, apart := false }
def FnMergeNearSaid : Prop := fnMergeNearRow.holds Try.pinned (OpenSpec.ofChange fnMergeNearSpec)

/-- ITS FALSE NEIGHBOUR: 'it returns false'. Refute it at one input. -/
def fnMergeNearWrong : ChangeSpec := { name := "fnMergeNear", fn := fun _ => fun
  | [d] => { results := [.lit (.bool false)], args := [d] }
  | _ => none }
def FnMergeNearWrongFalsely : Prop := fnMergeNearRow.holds Try.pinned (OpenSpec.ofChange fnMergeNearWrong)

/-- 'laws.FnMergeTexts': WHATEVER THE INPUT: true; the input reads as it did. -/
def fnMergeTextsSpec : ChangeSpec := { name := "fnMergeTexts", fn := fun _ => fun
  | [d] => { results := [.lit (.bool true)], args := [d] }
  | _ => none }
def fnMergeTextsRow : OpenClaim := { program := "ytfnjlgflbenfoaa", sum := "56a38810a56374febee6992684264e29c746af456e97637f4595621e5bc0f91f", func := "given.example/pub-enjambment/laws.FnMergeTexts", spec := "fnMergeTexts", unfollowed := true, recurses := true, apart := false }
def FnMergeTextsSaid : Prop := fnMergeTextsRow.holds Try.pinned (OpenSpec.ofChange fnMergeTextsSpec)

/-- ITS FALSE NEIGHBOUR: 'it returns false'. Refute it at one input. -/
def fnMergeTextsWrong : ChangeSpec := { name := "fnMergeTexts", fn := fun _ => fun
  | [d] => { results := [.lit (.bool false)], args := [d] }
  | _ => none }
def FnMergeTextsWrongFalsely : Prop := fnMergeTextsRow.holds Try.pinned (OpenSpec.ofChange fnMergeTextsWrong)

/-- 'laws.FnMergeTidy': WHATEVER THE INPUT: true; the input reads as it did. -/
def fnMergeTidySpec : ChangeSpec := { name := "fnMergeTidy", fn := fun _ => fun
  | [d] => { results := [.lit (.bool true)], args := [d] }
  | _ => none }
def fnMergeTidyRow : OpenClaim := { program := "ytfnjlgflbenfoaa", sum := "56a38810a56374febee6992684264e29c746af456e97637f4595621e5bc0f91f", func := "given.example/pub-enjambment/laws.FnMergeTidy", spec := "fnMergeTidy", unfollowed := true, recurses := true, apart := false }
def FnMergeTidySaid : Prop := fnMergeTidyRow.holds Try.pinned (OpenSpec.ofChange fnMergeTidySpec)

/-- ITS FALSE NEIGHBOUR: 'it returns false'. Refute it at one input. -/
def fnMergeTidyWrong : ChangeSpec := { name := "fnMergeTidy", fn := fun _ => fun
  | [d] => { results := [.lit (.bool false)], args := [d] }
  | _ => none }
def FnMergeTidyWrongFalsely : Prop := fnMergeTidyRow.holds Try.pinned (OpenSpec.ofChange fnMergeTidyWrong)

/- THE SECOND FORM. 'bulk': how many values and letters a reading holds, each counted each time it is reached (what is shared counts as often as it is met; a slice's spare places count too). A statement '..UptoSaid' is the law's where the arguments, and the package variables that the reading takes, are together of bulk at most 1048576: NARROWER than '..Said'. Prove '..Said' where nothing that the law and all that it calls make is longer than what came in: it says more and counts as full. Else prove '..UptoSaid'. A law counts once. -/
mutual
def uptoBulk {H : Type} : DataW H → Nat
  | .lit (.string bytes) => bytes.length + 1
  | .lit _ => 1
  | .nil => 1
  | .ptr d => uptoBulk d + 1
  | .slice elems spare => uptoBulkAll elems + uptoBulkAll spare + 1
  | .agg parts => uptoBulkAll parts + 1
  | .iface _ d => uptoBulk d + 1
  | .map entries => uptoBulkEntries entries + 1
  | .held _ => 1
def uptoBulkAll {H : Type} : List (DataW H) → Nat
  | [] => 0
  | d :: r => uptoBulk d + uptoBulkAll r
def uptoBulkEntries {H : Type} : List (Lit × DataW H) → Nat
  | [] => 0
  | x :: r => uptoBulkEntry x + uptoBulkEntries r
def uptoBulkEntry {H : Type} : Lit × DataW H → Nat
  | (.string bytes, d) => bytes.length + uptoBulk d + 1
  | (_, d) => uptoBulk d + 1
 end
def uptoSmall : (H : Type) → List (DataW H) → Bool := fun _ ds => decide (uptoBulkAll ds ≤ 1048576)
def OpenSpec.upto (s : _root_.Go.ChangeSpec) : _root_.Go.OpenSpec := { _root_.Go.OpenSpec.ofChange s with cond := some uptoSmall }

/-- 'laws.FnMergeAgain', WHERE WHAT IT READS IS OF BULK AT MOST 1048576: true; the input reads as it did. -/
def fnMergeAgainUptoRow : OpenClaim := { program := "ytfnjlgflbenfoaa", sum := "56a38810a56374febee6992684264e29c746af456e97637f4595621e5bc0f91f", func := "given.example/pub-enjambment/laws.FnMergeAgain", spec := "fnMergeAgain", unfollowed := true, recurses := true, apart := false, narrowed := true }
def FnMergeAgainUptoSaid : Prop := fnMergeAgainUptoRow.holds Try.pinned (OpenSpec.upto fnMergeAgainSpec)

/-- 'laws.FnMergeExact', WHERE WHAT IT READS IS OF BULK AT MOST 1048576: true; the input reads as it did. -/
def fnMergeExactUptoRow : OpenClaim := { program := "ytfnjlgflbenfoaa", sum := "56a38810a56374febee6992684264e29c746af456e97637f4595621e5bc0f91f", func := "given.example/pub-enjambment/laws.FnMergeExact", spec := "fnMergeExact", unfollowed := true, recurses := true, apart := false, narrowed := true }
def FnMergeExactUptoSaid : Prop := fnMergeExactUptoRow.holds Try.pinned (OpenSpec.upto fnMergeExactSpec)

/-- 'laws.FnMergeFewer', WHERE WHAT IT READS IS OF BULK AT MOST 1048576: true; the input reads as it did. -/
def fnMergeFewerUptoRow : OpenClaim := { program := "ytfnjlgflbenfoaa", sum := "56a38810a56374febee6992684264e29c746af456e97637f4595621e5bc0f91f", func := "given.example/pub-enjambment/laws.FnMergeFewer", spec := "fnMergeFewer", unfollowed := true, recurses := true, apart := false, narrowed := true }
def FnMergeFewerUptoSaid : Prop := fnMergeFewerUptoRow.holds Try.pinned (OpenSpec.upto fnMergeFewerSpec)

/-- 'laws.FnMergeNear', WHERE WHAT IT READS IS OF BULK AT MOST 1048576: true; the input reads as it did. -/
def fnMergeNearUptoRow : OpenClaim := { program := "ytfnjlgflbenfoaa", sum := "56a38810a56374febee6992684264e29c746af456e97637f4595621e5bc0f91f", func := "given.example/pub-enjambment/laws.FnMergeNear", spec := "fnMergeNear", unfollowed := true, recurses := true, apart := false, narrowed := true }
def FnMergeNearUptoSaid : Prop := fnMergeNearUptoRow.holds Try.pinned (OpenSpec.upto fnMergeNearSpec)

/-- 'laws.FnMergeTexts', WHERE WHAT IT READS IS OF BULK AT MOST 1048576: true; the input reads as it did. -/
def fnMergeTextsUptoRow : OpenClaim := { program := "ytfnjlgflbenfoaa", sum := "56a38810a56374febee6992684264e29c746af456e97637f4595621e5bc0f91f", func := "given.example/pub-enjambment/laws.FnMergeTexts", spec := "fnMergeTexts", unfollowed := true, recurses := true, apart := false, narrowed := true }
def FnMergeTextsUptoSaid : Prop := fnMergeTextsUptoRow.holds Try.pinned (OpenSpec.upto fnMergeTextsSpec)

/-- 'laws.FnMergeTidy', WHERE WHAT IT READS IS OF BULK AT MOST 1048576: true; the input reads as it did. -/
def fnMergeTidyUptoRow : OpenClaim := { program := "ytfnjlgflbenfoaa", sum := "56a38810a56374febee6992684264e29c746af456e97637f4595621e5bc0f91f", func := "given.example/pub-enjambment/laws.FnMergeTidy", spec := "fnMergeTidy", unfollowed := true, recurses := true, apart := false, narrowed := true }
def FnMergeTidyUptoSaid : Prop := fnMergeTidyUptoRow.holds Try.pinned (OpenSpec.upto fnMergeTidySpec)

end Rows
end Go.Proofs.Ytfnjlgflbenfoaa
