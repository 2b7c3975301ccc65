/-
  No cell of these rows narrows 'for every input' (looked for: loops, veiled, ifaces, maps, wideKeys, modest, calm, conditions, laid).
  DERIVED. THE GIVEN ROWS OF THIS SEAT. 12 by the template 'for every input the law returns true; each argument reads behind the call as it read before'; 0 by the template 'total and deterministic' (their statements: YtomidomdomjkfaaTotals.lean).
  GIVEN WITH THE SEED: the statements are not yours to turn. If you find one false, say at which input.
  Laid BY PROGRAM, IN A SANDBOX (cutbox-rows.mjs): the forced cells as the released guide's own fill.sh prints them over the translation ed9927383d653990… (all of the seat's roots in one cut). By AI agents, Wed Nov 11 2026. No macro, syntax, notation, axiom, sorry.
-/
import Derived.Test.YtomidomdomjkfaaChecked
import GoSem.Claim
import GoSem.ClaimJoined
import GoSem.ClaimMapViews
import Derived.JoinedTies
import Derived.KernelRfl
namespace Go.Proofs.Ytomidomdomjkfaa
/- THE CELL 'sum', in the pinned program and in every row, IS THE sha256 OF THE DUMP (.gsa) THAT YtomidomdomjkfaaProg.lean LOADS. Nothing in Lean hashes anything: it is a label: what it is worth is what the hold of that sum in a sandbox is worth. -/
noncomputable def Try.pinned : Pinned := { name := "ytomidomdomjkfaa", sum := "ed9927383d653990deb5f69f48e7e03bf910301eca6bd6fb9a28ec218897a2b2", checked := Try.checked }
namespace Rows
def none {H : Type} : Left H := { results := [], args := [] }

/-- 'laws.FnIndexOf': WHATEVER THE INPUT: true; the input reads as it did. -/
def fnIndexOfSpec : ChangeSpec := { name := "fnIndexOf", fn := fun _ => fun
  | [d1, d2, d3] => { results := [.lit (.bool true)], args := [d1, d2, d3] }
  | _ => none }
def fnIndexOfRow : OpenClaim := { program := "ytomidomdomjkfaa", sum := "ed9927383d653990deb5f69f48e7e03bf910301eca6bd6fb9a28ec218897a2b2", func := "given.example/pub-enjambment/laws.FnIndexOf", spec := "fnIndexOf", apart := false }
def FnIndexOfSaid : Prop := fnIndexOfRow.holds Try.pinned (OpenSpec.ofChange fnIndexOfSpec)

/-- ITS FALSE NEIGHBOUR: 'it returns false'. Refute it at one input. -/
def fnIndexOfWrong : ChangeSpec := { name := "fnIndexOf", fn := fun _ => fun
  | [d1, d2, d3] => { results := [.lit (.bool false)], args := [d1, d2, d3] }
  | _ => none }
def FnIndexOfWrongFalsely : Prop := fnIndexOfRow.holds Try.pinned (OpenSpec.ofChange fnIndexOfWrong)

/-- 'laws.FnPrefix': WHATEVER THE INPUT: true; the input reads as it did. -/
def fnPrefixSpec : ChangeSpec := { name := "fnPrefix", fn := fun _ => fun
  | [d1, d2, d3] => { results := [.lit (.bool true)], args := [d1, d2, d3] }
  | _ => none }
def fnPrefixRow : OpenClaim := { program := "ytomidomdomjkfaa", sum := "ed9927383d653990deb5f69f48e7e03bf910301eca6bd6fb9a28ec218897a2b2", func := "given.example/pub-enjambment/laws.FnPrefix", spec := "fnPrefix", apart := false }
def FnPrefixSaid : Prop := fnPrefixRow.holds Try.pinned (OpenSpec.ofChange fnPrefixSpec)

/-- ITS FALSE NEIGHBOUR: 'it returns false'. Refute it at one input. -/
def fnPrefixWrong : ChangeSpec := { name := "fnPrefix", fn := fun _ => fun
  | [d1, d2, d3] => { results := [.lit (.bool false)], args := [d1, d2, d3] }
  | _ => none }
def FnPrefixWrongFalsely : Prop := fnPrefixRow.holds Try.pinned (OpenSpec.ofChange fnPrefixWrong)

/-- 'laws.FnPrefixRunes': WHATEVER THE INPUT: true; the input reads as it did. -/
def fnPrefixRunesSpec : ChangeSpec := { name := "fnPrefixRunes", fn := fun _ => fun
  | [d1, d2, d3] => { results := [.lit (.bool true)], args := [d1, d2, d3] }
  | _ => none }
def fnPrefixRunesRow : OpenClaim := { program := "ytomidomdomjkfaa", sum := "ed9927383d653990deb5f69f48e7e03bf910301eca6bd6fb9a28ec218897a2b2", func := "given.example/pub-enjambment/laws.FnPrefixRunes", spec := "fnPrefixRunes", apart := false }
def FnPrefixRunesSaid : Prop := fnPrefixRunesRow.holds Try.pinned (OpenSpec.ofChange fnPrefixRunesSpec)

/-- ITS FALSE NEIGHBOUR: 'it returns false'. Refute it at one input. -/
def fnPrefixRunesWrong : ChangeSpec := { name := "fnPrefixRunes", fn := fun _ => fun
  | [d1, d2, d3] => { results := [.lit (.bool false)], args := [d1, d2, d3] }
  | _ => none }
def FnPrefixRunesWrongFalsely : Prop := fnPrefixRunesRow.holds Try.pinned (OpenSpec.ofChange fnPrefixRunesWrong)

/-- 'laws.FnSuffix': WHATEVER THE INPUT: true; the input reads as it did. -/
def fnSuffixSpec : ChangeSpec := { name := "fnSuffix", fn := fun _ => fun
  | [d1, d2, d3] => { results := [.lit (.bool true)], args := [d1, d2, d3] }
  | _ => none }
def fnSuffixRow : OpenClaim := { program := "ytomidomdomjkfaa", sum := "ed9927383d653990deb5f69f48e7e03bf910301eca6bd6fb9a28ec218897a2b2", func := "given.example/pub-enjambment/laws.FnSuffix", spec := "fnSuffix", apart := false }
def FnSuffixSaid : Prop := fnSuffixRow.holds Try.pinned (OpenSpec.ofChange fnSuffixSpec)

/-- ITS FALSE NEIGHBOUR: 'it returns false'. Refute it at one input. -/
def fnSuffixWrong : ChangeSpec := { name := "fnSuffix", fn := fun _ => fun
  | [d1, d2, d3] => { results := [.lit (.bool false)], args := [d1, d2, d3] }
  | _ => none }
def FnSuffixWrongFalsely : Prop := fnSuffixRow.holds Try.pinned (OpenSpec.ofChange fnSuffixWrong)

/-- 'laws.FnMatchAlphabet': WHATEVER THE INPUT: true; the input reads as it did. -/
def fnMatchAlphabetSpec : ChangeSpec := { name := "fnMatchAlphabet", fn := fun _ => fun
  | [d] => { results := [.lit (.bool true)], args := [d] }
  | _ => none }
def fnMatchAlphabetRow : OpenClaim := { program := "ytomidomdomjkfaa", sum := "ed9927383d653990deb5f69f48e7e03bf910301eca6bd6fb9a28ec218897a2b2", func := "given.example/pub-enjambment/laws.FnMatchAlphabet", spec := "fnMatchAlphabet", apart := false }
def FnMatchAlphabetSaid : Prop := fnMatchAlphabetRow.holds Try.pinned (OpenSpec.ofChange fnMatchAlphabetSpec)

/-- ITS FALSE NEIGHBOUR: 'it returns false'. Refute it at one input. -/
def fnMatchAlphabetWrong : ChangeSpec := { name := "fnMatchAlphabet", fn := fun _ => fun
  | [d] => { results := [.lit (.bool false)], args := [d] }
  | _ => none }
def FnMatchAlphabetWrongFalsely : Prop := fnMatchAlphabetRow.holds Try.pinned (OpenSpec.ofChange fnMatchAlphabetWrong)

/-- 'laws.FnRunesIndexOf': WHATEVER THE INPUT: true; the input reads as it did. -/
def fnRunesIndexOfSpec : ChangeSpec := { name := "fnRunesIndexOf", fn := fun _ => fun
  | [d1, d2, d3] => { results := [.lit (.bool true)], args := [d1, d2, d3] }
  | _ => none }
def fnRunesIndexOfRow : OpenClaim := { program := "ytomidomdomjkfaa", sum := "ed9927383d653990deb5f69f48e7e03bf910301eca6bd6fb9a28ec218897a2b2", func := "given.example/pub-enjambment/laws.FnRunesIndexOf", spec := "fnRunesIndexOf", apart := false }
def FnRunesIndexOfSaid : Prop := fnRunesIndexOfRow.holds Try.pinned (OpenSpec.ofChange fnRunesIndexOfSpec)

/-- ITS FALSE NEIGHBOUR: 'it returns false'. Refute it at one input. -/
def fnRunesIndexOfWrong : ChangeSpec := { name := "fnRunesIndexOf", fn := fun _ => fun
  | [d1, d2, d3] => { results := [.lit (.bool false)], args := [d1, d2, d3] }
  | _ => none }
def FnRunesIndexOfWrongFalsely : Prop := fnRunesIndexOfRow.holds Try.pinned (OpenSpec.ofChange fnRunesIndexOfWrong)

/-- 'laws.FnIndexesBack': WHATEVER THE INPUT: true; the input reads as it did. -/
def fnIndexesBackSpec : ChangeSpec := { name := "fnIndexesBack", fn := fun _ => fun
  | [d] => { results := [.lit (.bool true)], args := [d] }
  | _ => none }
def fnIndexesBackRow : OpenClaim := { program := "ytomidomdomjkfaa", sum := "ed9927383d653990deb5f69f48e7e03bf910301eca6bd6fb9a28ec218897a2b2", func := "given.example/pub-enjambment/laws.FnIndexesBack", spec := "fnIndexesBack", apart := false }
def FnIndexesBackSaid : Prop := fnIndexesBackRow.holds Try.pinned (OpenSpec.ofChange fnIndexesBackSpec)

/-- ITS FALSE NEIGHBOUR: 'it returns false'. Refute it at one input. -/
def fnIndexesBackWrong : ChangeSpec := { name := "fnIndexesBack", fn := fun _ => fun
  | [d] => { results := [.lit (.bool false)], args := [d] }
  | _ => none }
def FnIndexesBackWrongFalsely : Prop := fnIndexesBackRow.holds Try.pinned (OpenSpec.ofChange fnIndexesBackWrong)

/-- 'laws.FnMatchScore': WHATEVER THE INPUT: true; the input reads as it did. -/
def fnMatchScoreSpec : ChangeSpec := { name := "fnMatchScore", fn := fun _ => fun
  | [d1, d2, d3, d4, d5] => { results := [.lit (.bool true)], args := [d1, d2, d3, d4, d5] }
  | _ => none }
def fnMatchScoreRow : OpenClaim := { program := "ytomidomdomjkfaa", sum := "ed9927383d653990deb5f69f48e7e03bf910301eca6bd6fb9a28ec218897a2b2", func := "given.example/pub-enjambment/laws.FnMatchScore", spec := "fnMatchScore", inPlace := ["math.Float64bits", "math.Float64frombits"], apart := false }
def FnMatchScoreSaid : Prop := fnMatchScoreRow.holds Try.pinned (OpenSpec.ofChange fnMatchScoreSpec)

/-- ITS FALSE NEIGHBOUR: 'it returns false'. Refute it at one input. -/
def fnMatchScoreWrong : ChangeSpec := { name := "fnMatchScore", fn := fun _ => fun
  | [d1, d2, d3, d4, d5] => { results := [.lit (.bool false)], args := [d1, d2, d3, d4, d5] }
  | _ => none }
def FnMatchScoreWrongFalsely : Prop := fnMatchScoreRow.holds Try.pinned (OpenSpec.ofChange fnMatchScoreWrong)

/-- 'laws.FnUnescape': WHATEVER THE INPUT: true; the input reads as it did. -/
def fnUnescapeSpec : ChangeSpec := { name := "fnUnescape", fn := fun _ => fun
  | [d] => { results := [.lit (.bool true)], args := [d] }
  | _ => none }
def fnUnescapeRow : OpenClaim := { program := "ytomidomdomjkfaa", sum := "ed9927383d653990deb5f69f48e7e03bf910301eca6bd6fb9a28ec218897a2b2", func := "given.example/pub-enjambment/laws.FnUnescape", spec := "fnUnescape", apart := false }
def FnUnescapeSaid : Prop := fnUnescapeRow.holds Try.pinned (OpenSpec.ofChange fnUnescapeSpec)

/-- ITS FALSE NEIGHBOUR: 'it returns false'. Refute it at one input. -/
def fnUnescapeWrong : ChangeSpec := { name := "fnUnescape", fn := fun _ => fun
  | [d] => { results := [.lit (.bool false)], args := [d] }
  | _ => none }
def FnUnescapeWrongFalsely : Prop := fnUnescapeRow.holds Try.pinned (OpenSpec.ofChange fnUnescapeWrong)

/-- 'laws.FnIndex': WHATEVER THE INPUT: true; the input reads as it did. -/
def fnIndexSpec : ChangeSpec := { name := "fnIndex", fn := fun _ => fun
  | [d1, d2] => { results := [.lit (.bool true)], args := [d1, d2] }
  | _ => none }
def fnIndexRow : OpenClaim := { program := "ytomidomdomjkfaa", sum := "ed9927383d653990deb5f69f48e7e03bf910301eca6bd6fb9a28ec218897a2b2", func := "given.example/pub-enjambment/laws.FnIndex", spec := "fnIndex", apart := false }
def FnIndexSaid : Prop := fnIndexRow.holds Try.pinned (OpenSpec.ofChange fnIndexSpec)

/-- ITS FALSE NEIGHBOUR: 'it returns false'. Refute it at one input. -/
def fnIndexWrong : ChangeSpec := { name := "fnIndex", fn := fun _ => fun
  | [d1, d2] => { results := [.lit (.bool false)], args := [d1, d2] }
  | _ => none }
def FnIndexWrongFalsely : Prop := fnIndexRow.holds Try.pinned (OpenSpec.ofChange fnIndexWrong)

/-- 'laws.FnLevenshtein': WHATEVER THE INPUT: true; the input reads as it did. -/
def fnLevenshteinSpec : ChangeSpec := { name := "fnLevenshtein", fn := fun _ => fun
  | [d] => { results := [.lit (.bool true)], args := [d] }
  | _ => none }
def fnLevenshteinRow : OpenClaim := { program := "ytomidomdomjkfaa", sum := "ed9927383d653990deb5f69f48e7e03bf910301eca6bd6fb9a28ec218897a2b2", func := "given.example/pub-enjambment/laws.FnLevenshtein", spec := "fnLevenshtein", apart := false }
def FnLevenshteinSaid : Prop := fnLevenshteinRow.holds Try.pinned (OpenSpec.ofChange fnLevenshteinSpec)

/-- ITS FALSE NEIGHBOUR: 'it returns false'. Refute it at one input. -/
def fnLevenshteinWrong : ChangeSpec := { name := "fnLevenshtein", fn := fun _ => fun
  | [d] => { results := [.lit (.bool false)], args := [d] }
  | _ => none }
def FnLevenshteinWrongFalsely : Prop := fnLevenshteinRow.holds Try.pinned (OpenSpec.ofChange fnLevenshteinWrong)

/-- 'laws.FnSplice': WHATEVER THE INPUT: true; the input reads as it did. -/
def fnSpliceSpec : ChangeSpec := { name := "fnSplice", fn := fun _ => fun
  | [d1, d2, d3, d4] => { results := [.lit (.bool true)], args := [d1, d2, d3, d4] }
  | _ => none }
def fnSpliceRow : OpenClaim := { program := "ytomidomdomjkfaa", sum := "ed9927383d653990deb5f69f48e7e03bf910301eca6bd6fb9a28ec218897a2b2", func := "given.example/pub-enjambment/laws.FnSplice", spec := "fnSplice", unfollowed := true, recurses := true, apart := false }
def FnSpliceSaid : Prop := fnSpliceRow.holds Try.pinned (OpenSpec.ofChange fnSpliceSpec)

/-- ITS FALSE NEIGHBOUR: 'it returns false'. Refute it at one input. -/
def fnSpliceWrong : ChangeSpec := { name := "fnSplice", fn := fun _ => fun
  | [d1, d2, d3, d4] => { results := [.lit (.bool false)], args := [d1, d2, d3, d4] }
  | _ => none }
def FnSpliceWrongFalsely : Prop := fnSpliceRow.holds Try.pinned (OpenSpec.ofChange fnSpliceWrong)

/- THE SECOND FORM. 'bulk': how many values and letters a reading holds, each counted each time it is reached (what is shared counts as often as it is met; a slice's spare places count too). A statement '..UptoSaid' is the law's where the arguments, and the package variables that the reading takes, are together of bulk at most 1048576: NARROWER than '..Said'. Prove '..Said' where nothing that the law and all that it calls make is longer than what came in: it says more and counts as full. Else prove '..UptoSaid'. A law counts once. -/
mutual
def uptoBulk {H : Type} : DataW H → Nat
  | .lit (.string bytes) => bytes.length + 1
  | .lit _ => 1
  | .nil => 1
  | .ptr d => uptoBulk d + 1
  | .slice elems spare => uptoBulkAll elems + uptoBulkAll spare + 1
  | .agg parts => uptoBulkAll parts + 1
  | .iface _ d => uptoBulk d + 1
  | .map entries => uptoBulkEntries entries + 1
  | .held _ => 1
def uptoBulkAll {H : Type} : List (DataW H) → Nat
  | [] => 0
  | d :: r => uptoBulk d + uptoBulkAll r
def uptoBulkEntries {H : Type} : List (Lit × DataW H) → Nat
  | [] => 0
  | x :: r => uptoBulkEntry x + uptoBulkEntries r
def uptoBulkEntry {H : Type} : Lit × DataW H → Nat
  | (.string bytes, d) => bytes.length + uptoBulk d + 1
  | (_, d) => uptoBulk d + 1
 end
def uptoSmall : (H : Type) → List (DataW H) → Bool := fun _ ds => decide (uptoBulkAll ds ≤ 1048576)
def OpenSpec.upto (s : _root_.Go.ChangeSpec) : _root_.Go.OpenSpec := { _root_.Go.OpenSpec.ofChange s with cond := some uptoSmall }

/-- 'laws.FnIndexOf', WHERE WHAT IT READS IS OF BULK AT MOST 1048576: true; the input reads as it did. -/
def fnIndexOfUptoRow : OpenClaim := { program := "ytomidomdomjkfaa", sum := "ed9927383d653990deb5f69f48e7e03bf910301eca6bd6fb9a28ec218897a2b2", func := "given.example/pub-enjambment/laws.FnIndexOf", spec := "fnIndexOf", apart := false, narrowed := true }
def FnIndexOfUptoSaid : Prop := fnIndexOfUptoRow.holds Try.pinned (OpenSpec.upto fnIndexOfSpec)

/-- 'laws.FnPrefix', WHERE WHAT IT READS IS OF BULK AT MOST 1048576: true; the input reads as it did. -/
def fnPrefixUptoRow : OpenClaim := { program := "ytomidomdomjkfaa", sum := "ed9927383d653990deb5f69f48e7e03bf910301eca6bd6fb9a28ec218897a2b2", func := "given.example/pub-enjambment/laws.FnPrefix", spec := "fnPrefix", apart := false, narrowed := true }
def FnPrefixUptoSaid : Prop := fnPrefixUptoRow.holds Try.pinned (OpenSpec.upto fnPrefixSpec)

/-- 'laws.FnPrefixRunes', WHERE WHAT IT READS IS OF BULK AT MOST 1048576: true; the input reads as it did. -/
def fnPrefixRunesUptoRow : OpenClaim := { program := "ytomidomdomjkfaa", sum := "ed9927383d653990deb5f69f48e7e03bf910301eca6bd6fb9a28ec218897a2b2", func := "given.example/pub-enjambment/laws.FnPrefixRunes", spec := "fnPrefixRunes", apart := false, narrowed := true }
def FnPrefixRunesUptoSaid : Prop := fnPrefixRunesUptoRow.holds Try.pinned (OpenSpec.upto fnPrefixRunesSpec)

/-- 'laws.FnSuffix', WHERE WHAT IT READS IS OF BULK AT MOST 1048576: true; the input reads as it did. -/
def fnSuffixUptoRow : OpenClaim := { program := "ytomidomdomjkfaa", sum := "ed9927383d653990deb5f69f48e7e03bf910301eca6bd6fb9a28ec218897a2b2", func := "given.example/pub-enjambment/laws.FnSuffix", spec := "fnSuffix", apart := false, narrowed := true }
def FnSuffixUptoSaid : Prop := fnSuffixUptoRow.holds Try.pinned (OpenSpec.upto fnSuffixSpec)

/-- 'laws.FnMatchAlphabet', WHERE WHAT IT READS IS OF BULK AT MOST 1048576: true; the input reads as it did. -/
def fnMatchAlphabetUptoRow : OpenClaim := { program := "ytomidomdomjkfaa", sum := "ed9927383d653990deb5f69f48e7e03bf910301eca6bd6fb9a28ec218897a2b2", func := "given.example/pub-enjambment/laws.FnMatchAlphabet", spec := "fnMatchAlphabet", apart := false, narrowed := true }
def FnMatchAlphabetUptoSaid : Prop := fnMatchAlphabetUptoRow.holds Try.pinned (OpenSpec.upto fnMatchAlphabetSpec)

/-- 'laws.FnRunesIndexOf', WHERE WHAT IT READS IS OF BULK AT MOST 1048576: true; the input reads as it did. -/
def fnRunesIndexOfUptoRow : OpenClaim := { program := "ytomidomdomjkfaa", sum := "ed9927383d653990deb5f69f48e7e03bf910301eca6bd6fb9a28ec218897a2b2", func := "given.example/pub-enjambment/laws.FnRunesIndexOf", spec := "fnRunesIndexOf", apart := false, narrowed := true }
def FnRunesIndexOfUptoSaid : Prop := fnRunesIndexOfUptoRow.holds Try.pinned (OpenSpec.upto fnRunesIndexOfSpec)

/-- 'laws.FnIndexesBack', WHERE WHAT IT READS IS OF BULK AT MOST 1048576: true; the input reads as it did. -/
def fnIndexesBackUptoRow : OpenClaim := { program := "ytomidomdomjkfaa", sum := "ed9927383d653990deb5f69f48e7e03bf910301eca6bd6fb9a28ec218897a2b2", func := "given.example/pub-enjambment/laws.FnIndexesBack", spec := "fnIndexesBack", apart := false, narrowed := true }
def FnIndexesBackUptoSaid : Prop := fnIndexesBackUptoRow.holds Try.pinned (OpenSpec.upto fnIndexesBackSpec)

/-- 'laws.FnMatchScore', WHERE WHAT IT READS IS OF BULK AT MOST 1048576: true; the input reads as it did. -/
def fnMatchScoreUptoRow : OpenClaim := { program := "ytomidomdomjkfaa", sum := "ed9927383d653990deb5f69f48e7e03bf910301eca6bd6fb9a28ec218897a2b2", func := "given.example/pub-enjambment/laws.FnMatchScore", spec := "fnMatchScore", inPlace := ["math.Float64bits", "math.Float64frombits"], apart := false, narrowed := true }
def FnMatchScoreUptoSaid : Prop := fnMatchScoreUptoRow.holds Try.pinned (OpenSpec.upto fnMatchScoreSpec)

/-- 'laws.FnUnescape', WHERE WHAT IT READS IS OF BULK AT MOST 1048576: true; the input reads as it did. -/
def fnUnescapeUptoRow : OpenClaim := { program := "ytomidomdomjkfaa", sum := "ed9927383d653990deb5f69f48e7e03bf910301eca6bd6fb9a28ec218897a2b2", func := "given.example/pub-enjambment/laws.FnUnescape", spec := "fnUnescape", apart := false, narrowed := true }
def FnUnescapeUptoSaid : Prop := fnUnescapeUptoRow.holds Try.pinned (OpenSpec.upto fnUnescapeSpec)

/-- 'laws.FnIndex', WHERE WHAT IT READS IS OF BULK AT MOST 1048576: true; the input reads as it did. -/
def fnIndexUptoRow : OpenClaim := { program := "ytomidomdomjkfaa", sum := "ed9927383d653990deb5f69f48e7e03bf910301eca6bd6fb9a28ec218897a2b2", func := "given.example/pub-enjambment/laws.FnIndex", spec := "fnIndex", apart := false, narrowed := true }
def FnIndexUptoSaid : Prop := fnIndexUptoRow.holds Try.pinned (OpenSpec.upto fnIndexSpec)

/-- 'laws.FnLevenshtein', WHERE WHAT IT READS IS OF BULK AT MOST 1048576: true; the input reads as it did. -/
def fnLevenshteinUptoRow : OpenClaim := { program := "ytomidomdomjkfaa", sum := "ed9927383d653990deb5f69f48e7e03bf910301eca6bd6fb9a28ec218897a2b2", func := "given.example/pub-enjambment/laws.FnLevenshtein", spec := "fnLevenshtein", apart := false, narrowed := true }
def FnLevenshteinUptoSaid : Prop := fnLevenshteinUptoRow.holds Try.pinned (OpenSpec.upto fnLevenshteinSpec)

/-- 'laws.FnSplice', WHERE WHAT IT READS IS OF BULK AT MOST 1048576: true; the input reads as it did. -/
def fnSpliceUptoRow : OpenClaim := { program := "ytomidomdomjkfaa", sum := "ed9927383d653990deb5f69f48e7e03bf910301eca6bd6fb9a28ec218897a2b2", func := "given.example/pub-enjambment/laws.FnSplice", spec := "fnSplice", unfollowed := true, recurses := true, apart := false, narrowed := true }
def FnSpliceUptoSaid : Prop := fnSpliceUptoRow.holds Try.pinned (OpenSpec.upto fnSpliceSpec)

end Rows
end Go.Proofs.Ytomidomdomjkfaa
