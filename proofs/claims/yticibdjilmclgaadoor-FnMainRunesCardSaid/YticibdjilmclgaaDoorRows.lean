/-
  NARROWER THAN 'FOR EVERY INPUT', by the rows' own cells (each row's printed sentence says how): FnMainThree: laid · FnMainTidy: laid · FnMainWithin: laid · FnMainRunes: laid · FnLosslessEdits: laid · FnSemanticMain: laid · FnLinesLeast: laid · FnLinesMain: laid · FnLevenshteinMain: laid · FnIndexMain: laid.
  DERIVED. THE GIVEN ROWS OF THIS SEAT. 10 by the template 'for every input the law returns true; each argument reads behind the call as it read before'; 0 by the template 'total and deterministic' (their statements: YticibdjilmclgaaDoorTotals.lean).
  GIVEN WITH THE SEED: the statements are not yours to turn. If you find one false, say at which input.
  Laid BY PROGRAM, IN A SANDBOX (cutbox-rows.mjs): the forced cells as the released guide's own fill.sh prints them over the translation 549f155b476cb4bd… (all of the seat's roots in one cut). By AI agents, Wed Nov 11 2026. No macro, syntax, notation, axiom, sorry.
-/
import Derived.Test.YticibdjilmclgaaDoorChecked
import GoSem.PinnedTables
import GoSem.Claim
import GoSem.ClaimJoined
import GoSem.ClaimMapViews
import Derived.JoinedTies
import Derived.KernelRfl
namespace Go.Proofs.YticibdjilmclgaaDoor
/- THE CELL 'sum', in the pinned program and in every row, IS THE sha256 OF THE DUMP (.gsa) THAT YticibdjilmclgaaDoorProg.lean LOADS. Nothing in Lean hashes anything: it is a label: what it is worth is what the hold of that sum in a sandbox is worth. -/
noncomputable def Tryd.pinned : Pinned := { name := "yticibdjilmclgaadoor", sum := "549f155b476cb4bd905b51207769bbcdbdce564d96cec5860a67b09667ff9040", checked := Tryd.checked }
namespace Rows
def none {H : Type} : Left H := { results := [], args := [] }

/- WHAT THE LISTED PACKAGE-LEVEL VARIABLES READ AS WHEN THE CALL BEGINS. Each datum BY PROGRAM (the guide's laid-datum.mjs) off the statement by which the dump's own 'gosem.cut.vars' lays the variable. In a bare row this is a premise. The card (YticibdjilmclgaaDoorCards.lean) ties it to the program's text. -/
def laid_unicode_utf8_acceptRanges {H : Type} : DataW H := .agg [.agg [.lit (.int .u8 128), .lit (.int .u8 191)], .agg [.lit (.int .u8 160), .lit (.int .u8 191)], .agg [.lit (.int .u8 128), .lit (.int .u8 159)], .agg [.lit (.int .u8 144), .lit (.int .u8 191)], .agg [.lit (.int .u8 128), .lit (.int .u8 143)], .agg [.lit (.int .u8 0), .lit (.int .u8 0)], .agg [.lit (.int .u8 0), .lit (.int .u8 0)], .agg [.lit (.int .u8 0), .lit (.int .u8 0)], .agg [.lit (.int .u8 0), .lit (.int .u8 0)], .agg [.lit (.int .u8 0), .lit (.int .u8 0)], .agg [.lit (.int .u8 0), .lit (.int .u8 0)], .agg [.lit (.int .u8 0), .lit (.int .u8 0)], .agg [.lit (.int .u8 0), .lit (.int .u8 0)], .agg [.lit (.int .u8 0), .lit (.int .u8 0)], .agg [.lit (.int .u8 0), .lit (.int .u8 0)], .agg [.lit (.int .u8 0), .lit (.int .u8 0)]]
/-- One of Go's own tables, pinned by name: the form's constant. -/
def laid_unicode_utf8_first : DataW Unit := Go.Pinned.utf8First

/-- 'laws.FnMainThree': WHATEVER THE INPUT: true; the input reads as it did. -/
def fnMainThreeSpec : ChangeSpec := { name := "fnMainThree", fn := fun _ => fun
  | [d1, d2, d3] => { results := [.lit (.bool true)], args := [d1, d2, d3] }
  | _ => none }
def fnMainThreeRow : OpenClaim := { program := "yticibdjilmclgaadoor", sum := "549f155b476cb4bd905b51207769bbcdbdce564d96cec5860a67b09667ff9040", func := "given.example/pub-enjambment/laws.FnMainThree", spec := "fnMainThree", inPlace := ["internal/abi.NoEscape", "internal/bytealg.MakeNoZero", "math.archMax", "math.Float64bits", "math.Float64frombits", "math.archMin"], unfollowed := true, recurses := true, named := ["unicode/utf8.first", "unicode/utf8.acceptRanges"], apart := false, laid := [("unicode/utf8.acceptRanges", laid_unicode_utf8_acceptRanges), ("unicode/utf8.first", laid_unicode_utf8_first)] }
def FnMainThreeSaid : Prop := fnMainThreeRow.holds Tryd.pinned (OpenSpec.ofChange fnMainThreeSpec)

/-- ITS FALSE NEIGHBOUR: 'it returns false'. Refute it at one input. -/
def fnMainThreeWrong : ChangeSpec := { name := "fnMainThree", fn := fun _ => fun
  | [d1, d2, d3] => { results := [.lit (.bool false)], args := [d1, d2, d3] }
  | _ => none }
def FnMainThreeWrongFalsely : Prop := fnMainThreeRow.holds Tryd.pinned (OpenSpec.ofChange fnMainThreeWrong)

/-- 'laws.FnMainTidy': WHATEVER THE INPUT: true; the input reads as it did. -/
def fnMainTidySpec : ChangeSpec := { name := "fnMainTidy", fn := fun _ => fun
  | [d1, d2] => { results := [.lit (.bool true)], args := [d1, d2] }
  | _ => none }
def fnMainTidyRow : OpenClaim := { program := "yticibdjilmclgaadoor", sum := "549f155b476cb4bd905b51207769bbcdbdce564d96cec5860a67b09667ff9040", func := "given.example/pub-enjambment/laws.FnMainTidy", spec := "fnMainTidy", inPlace := ["internal/abi.NoEscape", "internal/bytealg.MakeNoZero", "math.archMax", "math.Float64bits", "math.Float64frombits", "math.archMin"], unfollowed := true, recurses := true, named := ["unicode/utf8.first", "unicode/utf8.acceptRanges"], apart := false, laid := [("unicode/utf8.acceptRanges", laid_unicode_utf8_acceptRanges), ("unicode/utf8.first", laid_unicode_utf8_first)] }
def FnMainTidySaid : Prop := fnMainTidyRow.holds Tryd.pinned (OpenSpec.ofChange fnMainTidySpec)

/-- ITS FALSE NEIGHBOUR: 'it returns false'. Refute it at one input. -/
def fnMainTidyWrong : ChangeSpec := { name := "fnMainTidy", fn := fun _ => fun
  | [d1, d2] => { results := [.lit (.bool false)], args := [d1, d2] }
  | _ => none }
def FnMainTidyWrongFalsely : Prop := fnMainTidyRow.holds Tryd.pinned (OpenSpec.ofChange fnMainTidyWrong)

/-- 'laws.FnMainWithin': WHATEVER THE INPUT: true; the input reads as it did. -/
def fnMainWithinSpec : ChangeSpec := { name := "fnMainWithin", fn := fun _ => fun
  | [d1, d2, d3, d4] => { results := [.lit (.bool true)], args := [d1, d2, d3, d4] }
  | _ => none }
def fnMainWithinRow : OpenClaim := { program := "yticibdjilmclgaadoor", sum := "549f155b476cb4bd905b51207769bbcdbdce564d96cec5860a67b09667ff9040", func := "given.example/pub-enjambment/laws.FnMainWithin", spec := "fnMainWithin", inPlace := ["internal/abi.NoEscape", "internal/bytealg.MakeNoZero", "math.archMax", "math.Float64bits", "math.Float64frombits", "math.archMin"], unfollowed := true, recurses := true, named := ["unicode/utf8.first", "unicode/utf8.acceptRanges"], apart := false, laid := [("unicode/utf8.acceptRanges", laid_unicode_utf8_acceptRanges), ("unicode/utf8.first", laid_unicode_utf8_first)] }
def FnMainWithinSaid : Prop := fnMainWithinRow.holds Tryd.pinned (OpenSpec.ofChange fnMainWithinSpec)

/-- ITS FALSE NEIGHBOUR: 'it returns false'. Refute it at one input. -/
def fnMainWithinWrong : ChangeSpec := { name := "fnMainWithin", fn := fun _ => fun
  | [d1, d2, d3, d4] => { results := [.lit (.bool false)], args := [d1, d2, d3, d4] }
  | _ => none }
def FnMainWithinWrongFalsely : Prop := fnMainWithinRow.holds Tryd.pinned (OpenSpec.ofChange fnMainWithinWrong)

/-- 'laws.FnMainRunes': WHATEVER THE INPUT: true; the input reads as it did. -/
def fnMainRunesSpec : ChangeSpec := { name := "fnMainRunes", fn := fun _ => fun
  | [d1, d2, d3] => { results := [.lit (.bool true)], args := [d1, d2, d3] }
  | _ => none }
def fnMainRunesRow : OpenClaim := { program := "yticibdjilmclgaadoor", sum := "549f155b476cb4bd905b51207769bbcdbdce564d96cec5860a67b09667ff9040", func := "given.example/pub-enjambment/laws.FnMainRunes", spec := "fnMainRunes", inPlace := ["internal/abi.NoEscape", "internal/bytealg.MakeNoZero", "math.archMax", "math.Float64bits", "math.Float64frombits", "math.archMin"], unfollowed := true, recurses := true, named := ["unicode/utf8.first", "unicode/utf8.acceptRanges"], apart := false, laid := [("unicode/utf8.acceptRanges", laid_unicode_utf8_acceptRanges), ("unicode/utf8.first", laid_unicode_utf8_first)] }
def FnMainRunesSaid : Prop := fnMainRunesRow.holds Tryd.pinned (OpenSpec.ofChange fnMainRunesSpec)

/-- ITS FALSE NEIGHBOUR: 'it returns false'. Refute it at one input. -/
def fnMainRunesWrong : ChangeSpec := { name := "fnMainRunes", fn := fun _ => fun
  | [d1, d2, d3] => { results := [.lit (.bool false)], args := [d1, d2, d3] }
  | _ => none }
def FnMainRunesWrongFalsely : Prop := fnMainRunesRow.holds Tryd.pinned (OpenSpec.ofChange fnMainRunesWrong)

/-- 'laws.FnLosslessEdits': WHATEVER THE INPUT: true; the input reads as it did. -/
def fnLosslessEditsSpec : ChangeSpec := { name := "fnLosslessEdits", fn := fun _ => fun
  | [d1, d2] => { results := [.lit (.bool true)], args := [d1, d2] }
  | _ => none }
def fnLosslessEditsRow : OpenClaim := { program := "yticibdjilmclgaadoor", sum := "549f155b476cb4bd905b51207769bbcdbdce564d96cec5860a67b09667ff9040", func := "given.example/pub-enjambment/laws.FnLosslessEdits", spec := "fnLosslessEdits", inPlace := ["internal/abi.NoEscape", "internal/bytealg.MakeNoZero", "math.archMax", "math.Float64bits", "math.Float64frombits", "math.archMin"], unfollowed := true, recurses := true, named := ["unicode/utf8.first", "unicode/utf8.acceptRanges"], apart := false, laid := [("unicode/utf8.acceptRanges", laid_unicode_utf8_acceptRanges), ("unicode/utf8.first", laid_unicode_utf8_first)] }
def FnLosslessEditsSaid : Prop := fnLosslessEditsRow.holds Tryd.pinned (OpenSpec.ofChange fnLosslessEditsSpec)

/-- ITS FALSE NEIGHBOUR: 'it returns false'. Refute it at one input. -/
def fnLosslessEditsWrong : ChangeSpec := { name := "fnLosslessEdits", fn := fun _ => fun
  | [d1, d2] => { results := [.lit (.bool false)], args := [d1, d2] }
  | _ => none }
def FnLosslessEditsWrongFalsely : Prop := fnLosslessEditsRow.holds Tryd.pinned (OpenSpec.ofChange fnLosslessEditsWrong)

/-- 'laws.FnSemanticMain': WHATEVER THE INPUT: true; the input reads as it did. -/
def fnSemanticMainSpec : ChangeSpec := { name := "fnSemanticMain", fn := fun _ => fun
  | [d1, d2] => { results := [.lit (.bool true)], args := [d1, d2] }
  | _ => none }
def fnSemanticMainRow : OpenClaim := { program := "yticibdjilmclgaadoor", sum := "549f155b476cb4bd905b51207769bbcdbdce564d96cec5860a67b09667ff9040", func := "given.example/pub-enjambment/laws.FnSemanticMain", spec := "fnSemanticMain", inPlace := ["internal/abi.NoEscape", "internal/bytealg.MakeNoZero", "math.archMax", "math.Float64bits", "math.Float64frombits", "math.archMin"], unfollowed := true, recurses := true, named := ["unicode/utf8.first", "unicode/utf8.acceptRanges"], apart := false, laid := [("unicode/utf8.acceptRanges", laid_unicode_utf8_acceptRanges), ("unicode/utf8.first", laid_unicode_utf8_first)] }
def FnSemanticMainSaid : Prop := fnSemanticMainRow.holds Tryd.pinned (OpenSpec.ofChange fnSemanticMainSpec)

/-- ITS FALSE NEIGHBOUR: 'it returns false'. Refute it at one input. -/
def fnSemanticMainWrong : ChangeSpec := { name := "fnSemanticMain", fn := fun _ => fun
  | [d1, d2] => { results := [.lit (.bool false)], args := [d1, d2] }
  | _ => none }
def FnSemanticMainWrongFalsely : Prop := fnSemanticMainRow.holds Tryd.pinned (OpenSpec.ofChange fnSemanticMainWrong)

/-- 'laws.FnLinesLeast': WHATEVER THE INPUT: true; the input reads as it did. -/
def fnLinesLeastSpec : ChangeSpec := { name := "fnLinesLeast", fn := fun _ => fun
  | [d1, d2] => { results := [.lit (.bool true)], args := [d1, d2] }
  | _ => none }
def fnLinesLeastRow : OpenClaim := { program := "yticibdjilmclgaadoor", sum := "549f155b476cb4bd905b51207769bbcdbdce564d96cec5860a67b09667ff9040", func := "given.example/pub-enjambment/laws.FnLinesLeast", spec := "fnLinesLeast", inPlace := ["internal/abi.NoEscape", "internal/bytealg.MakeNoZero", "math.archMax", "math.Float64bits", "math.Float64frombits", "math.archMin"], unfollowed := true, recurses := true, named := ["unicode/utf8.first", "unicode/utf8.acceptRanges"], apart := false, laid := [("unicode/utf8.acceptRanges", laid_unicode_utf8_acceptRanges), ("unicode/utf8.first", laid_unicode_utf8_first)] }
def FnLinesLeastSaid : Prop := fnLinesLeastRow.holds Tryd.pinned (OpenSpec.ofChange fnLinesLeastSpec)

/-- ITS FALSE NEIGHBOUR: 'it returns false'. Refute it at one input. -/
def fnLinesLeastWrong : ChangeSpec := { name := "fnLinesLeast", fn := fun _ => fun
  | [d1, d2] => { results := [.lit (.bool false)], args := [d1, d2] }
  | _ => none }
def FnLinesLeastWrongFalsely : Prop := fnLinesLeastRow.holds Tryd.pinned (OpenSpec.ofChange fnLinesLeastWrong)

/-- 'laws.FnLinesMain': WHATEVER THE INPUT: true; the input reads as it did. -/
def fnLinesMainSpec : ChangeSpec := { name := "fnLinesMain", fn := fun _ => fun
  | [d1, d2] => { results := [.lit (.bool true)], args := [d1, d2] }
  | _ => none }
def fnLinesMainRow : OpenClaim := { program := "yticibdjilmclgaadoor", sum := "549f155b476cb4bd905b51207769bbcdbdce564d96cec5860a67b09667ff9040", func := "given.example/pub-enjambment/laws.FnLinesMain", spec := "fnLinesMain", inPlace := ["internal/abi.NoEscape", "internal/bytealg.MakeNoZero", "math.archMax", "math.Float64bits", "math.Float64frombits", "math.archMin"], unfollowed := true, recurses := true, named := ["unicode/utf8.first", "unicode/utf8.acceptRanges"], apart := false, laid := [("unicode/utf8.acceptRanges", laid_unicode_utf8_acceptRanges), ("unicode/utf8.first", laid_unicode_utf8_first)] }
def FnLinesMainSaid : Prop := fnLinesMainRow.holds Tryd.pinned (OpenSpec.ofChange fnLinesMainSpec)

/-- ITS FALSE NEIGHBOUR: 'it returns false'. Refute it at one input. -/
def fnLinesMainWrong : ChangeSpec := { name := "fnLinesMain", fn := fun _ => fun
  | [d1, d2] => { results := [.lit (.bool false)], args := [d1, d2] }
  | _ => none }
def FnLinesMainWrongFalsely : Prop := fnLinesMainRow.holds Tryd.pinned (OpenSpec.ofChange fnLinesMainWrong)

/-- 'laws.FnLevenshteinMain': WHATEVER THE INPUT: true; the input reads as it did. -/
def fnLevenshteinMainSpec : ChangeSpec := { name := "fnLevenshteinMain", fn := fun _ => fun
  | [d1, d2] => { results := [.lit (.bool true)], args := [d1, d2] }
  | _ => none }
def fnLevenshteinMainRow : OpenClaim := { program := "yticibdjilmclgaadoor", sum := "549f155b476cb4bd905b51207769bbcdbdce564d96cec5860a67b09667ff9040", func := "given.example/pub-enjambment/laws.FnLevenshteinMain", spec := "fnLevenshteinMain", inPlace := ["internal/abi.NoEscape", "internal/bytealg.MakeNoZero", "math.archMax", "math.Float64bits", "math.Float64frombits", "math.archMin"], unfollowed := true, recurses := true, named := ["unicode/utf8.first", "unicode/utf8.acceptRanges"], apart := false, laid := [("unicode/utf8.acceptRanges", laid_unicode_utf8_acceptRanges), ("unicode/utf8.first", laid_unicode_utf8_first)] }
def FnLevenshteinMainSaid : Prop := fnLevenshteinMainRow.holds Tryd.pinned (OpenSpec.ofChange fnLevenshteinMainSpec)

/-- ITS FALSE NEIGHBOUR: 'it returns false'. Refute it at one input. -/
def fnLevenshteinMainWrong : ChangeSpec := { name := "fnLevenshteinMain", fn := fun _ => fun
  | [d1, d2] => { results := [.lit (.bool false)], args := [d1, d2] }
  | _ => none }
def FnLevenshteinMainWrongFalsely : Prop := fnLevenshteinMainRow.holds Tryd.pinned (OpenSpec.ofChange fnLevenshteinMainWrong)

/-- 'laws.FnIndexMain': WHATEVER THE INPUT: true; the input reads as it did. -/
def fnIndexMainSpec : ChangeSpec := { name := "fnIndexMain", fn := fun _ => fun
  | [d1, d2, d3, d4] => { results := [.lit (.bool true)], args := [d1, d2, d3, d4] }
  | _ => none }
def fnIndexMainRow : OpenClaim := { program := "yticibdjilmclgaadoor", sum := "549f155b476cb4bd905b51207769bbcdbdce564d96cec5860a67b09667ff9040", func := "given.example/pub-enjambment/laws.FnIndexMain", spec := "fnIndexMain", inPlace := ["internal/abi.NoEscape", "internal/bytealg.MakeNoZero", "math.archMax", "math.Float64bits", "math.Float64frombits", "math.archMin"], unfollowed := true, recurses := true, named := ["unicode/utf8.first", "unicode/utf8.acceptRanges"], apart := false, laid := [("unicode/utf8.acceptRanges", laid_unicode_utf8_acceptRanges), ("unicode/utf8.first", laid_unicode_utf8_first)] }
def FnIndexMainSaid : Prop := fnIndexMainRow.holds Tryd.pinned (OpenSpec.ofChange fnIndexMainSpec)

/-- ITS FALSE NEIGHBOUR: 'it returns false'. Refute it at one input. -/
def fnIndexMainWrong : ChangeSpec := { name := "fnIndexMain", fn := fun _ => fun
  | [d1, d2, d3, d4] => { results := [.lit (.bool false)], args := [d1, d2, d3, d4] }
  | _ => none }
def FnIndexMainWrongFalsely : Prop := fnIndexMainRow.holds Tryd.pinned (OpenSpec.ofChange fnIndexMainWrong)

/- THE SECOND FORM. 'bulk': how many values and letters a reading holds, each counted each time it is reached (what is shared counts as often as it is met; a slice's spare places count too). A statement '..UptoSaid' is the law's where the arguments, and the package variables that the reading takes, are together of bulk at most 1048576: NARROWER than '..Said'. Prove '..Said' where nothing that the law and all that it calls make is longer than what came in: it says more and counts as full. Else prove '..UptoSaid'. A law counts once. -/
mutual
def uptoBulk {H : Type} : DataW H → Nat
  | .lit (.string bytes) => bytes.length + 1
  | .lit _ => 1
  | .nil => 1
  | .ptr d => uptoBulk d + 1
  | .slice elems spare => uptoBulkAll elems + uptoBulkAll spare + 1
  | .agg parts => uptoBulkAll parts + 1
  | .iface _ d => uptoBulk d + 1
  | .map entries => uptoBulkEntries entries + 1
  | .held _ => 1
def uptoBulkAll {H : Type} : List (DataW H) → Nat
  | [] => 0
  | d :: r => uptoBulk d + uptoBulkAll r
def uptoBulkEntries {H : Type} : List (Lit × DataW H) → Nat
  | [] => 0
  | x :: r => uptoBulkEntry x + uptoBulkEntries r
def uptoBulkEntry {H : Type} : Lit × DataW H → Nat
  | (.string bytes, d) => bytes.length + uptoBulk d + 1
  | (_, d) => uptoBulk d + 1
 end
def uptoSmall : (H : Type) → List (DataW H) → Bool := fun _ ds => decide (uptoBulkAll ds ≤ 1048576)
def OpenSpec.upto (s : _root_.Go.ChangeSpec) : _root_.Go.OpenSpec := { _root_.Go.OpenSpec.ofChange s with cond := some uptoSmall }

/-- 'laws.FnMainThree', WHERE WHAT IT READS IS OF BULK AT MOST 1048576: true; the input reads as it did. -/
def fnMainThreeUptoRow : OpenClaim := { program := "yticibdjilmclgaadoor", sum := "549f155b476cb4bd905b51207769bbcdbdce564d96cec5860a67b09667ff9040", func := "given.example/pub-enjambment/laws.FnMainThree", spec := "fnMainThree", inPlace := ["internal/abi.NoEscape", "internal/bytealg.MakeNoZero", "math.archMax", "math.Float64bits", "math.Float64frombits", "math.archMin"], unfollowed := true, recurses := true, named := ["unicode/utf8.first", "unicode/utf8.acceptRanges"], apart := false, laid := [("unicode/utf8.acceptRanges", laid_unicode_utf8_acceptRanges), ("unicode/utf8.first", laid_unicode_utf8_first)], narrowed := true }
def FnMainThreeUptoSaid : Prop := fnMainThreeUptoRow.holds Tryd.pinned (OpenSpec.upto fnMainThreeSpec)

/-- 'laws.FnMainTidy', WHERE WHAT IT READS IS OF BULK AT MOST 1048576: true; the input reads as it did. -/
def fnMainTidyUptoRow : OpenClaim := { program := "yticibdjilmclgaadoor", sum := "549f155b476cb4bd905b51207769bbcdbdce564d96cec5860a67b09667ff9040", func := "given.example/pub-enjambment/laws.FnMainTidy", spec := "fnMainTidy", inPlace := ["internal/abi.NoEscape", "internal/bytealg.MakeNoZero", "math.archMax", "math.Float64bits", "math.Float64frombits", "math.archMin"], unfollowed := true, recurses := true, named := ["unicode/utf8.first", "unicode/utf8.acceptRanges"], apart := false, laid := [("unicode/utf8.acceptRanges", laid_unicode_utf8_acceptRanges), ("unicode/utf8.first", laid_unicode_utf8_first)], narrowed := true }
def FnMainTidyUptoSaid : Prop := fnMainTidyUptoRow.holds Tryd.pinned (OpenSpec.upto fnMainTidySpec)

/-- 'laws.FnMainWithin', WHERE WHAT IT READS IS OF BULK AT MOST 1048576: true; the input reads as it did. -/
def fnMainWithinUptoRow : OpenClaim := { program := "yticibdjilmclgaadoor", sum := "549f155b476cb4bd905b51207769bbcdbdce564d96cec5860a67b09667ff9040", func := "given.example/pub-enjambment/laws.FnMainWithin", spec := "fnMainWithin", inPlace := ["internal/abi.NoEscape", "internal/bytealg.MakeNoZero", "math.archMax", "math.Float64bits", "math.Float64frombits", "math.archMin"], unfollowed := true, recurses := true, named := ["unicode/utf8.first", "unicode/utf8.acceptRanges"], apart := false, laid := [("unicode/utf8.acceptRanges", laid_unicode_utf8_acceptRanges), ("unicode/utf8.first", laid_unicode_utf8_first)], narrowed := true }
def FnMainWithinUptoSaid : Prop := fnMainWithinUptoRow.holds Tryd.pinned (OpenSpec.upto fnMainWithinSpec)

/-- 'laws.FnMainRunes', WHERE WHAT IT READS IS OF BULK AT MOST 1048576: true; the input reads as it did. -/
def fnMainRunesUptoRow : OpenClaim := { program := "yticibdjilmclgaadoor", sum := "549f155b476cb4bd905b51207769bbcdbdce564d96cec5860a67b09667ff9040", func := "given.example/pub-enjambment/laws.FnMainRunes", spec := "fnMainRunes", inPlace := ["internal/abi.NoEscape", "internal/bytealg.MakeNoZero", "math.archMax", "math.Float64bits", "math.Float64frombits", "math.archMin"], unfollowed := true, recurses := true, named := ["unicode/utf8.first", "unicode/utf8.acceptRanges"], apart := false, laid := [("unicode/utf8.acceptRanges", laid_unicode_utf8_acceptRanges), ("unicode/utf8.first", laid_unicode_utf8_first)], narrowed := true }
def FnMainRunesUptoSaid : Prop := fnMainRunesUptoRow.holds Tryd.pinned (OpenSpec.upto fnMainRunesSpec)

/-- 'laws.FnLosslessEdits', WHERE WHAT IT READS IS OF BULK AT MOST 1048576: true; the input reads as it did. -/
def fnLosslessEditsUptoRow : OpenClaim := { program := "yticibdjilmclgaadoor", sum := "549f155b476cb4bd905b51207769bbcdbdce564d96cec5860a67b09667ff9040", func := "given.example/pub-enjambment/laws.FnLosslessEdits", spec := "fnLosslessEdits", inPlace := ["internal/abi.NoEscape", "internal/bytealg.MakeNoZero", "math.archMax", "math.Float64bits", "math.Float64frombits", "math.archMin"], unfollowed := true, recurses := true, named := ["unicode/utf8.first", "unicode/utf8.acceptRanges"], apart := false, laid := [("unicode/utf8.acceptRanges", laid_unicode_utf8_acceptRanges), ("unicode/utf8.first", laid_unicode_utf8_first)], narrowed := true }
def FnLosslessEditsUptoSaid : Prop := fnLosslessEditsUptoRow.holds Tryd.pinned (OpenSpec.upto fnLosslessEditsSpec)

/-- 'laws.FnSemanticMain', WHERE WHAT IT READS IS OF BULK AT MOST 1048576: true; the input reads as it did. -/
def fnSemanticMainUptoRow : OpenClaim := { program := "yticibdjilmclgaadoor", sum := "549f155b476cb4bd905b51207769bbcdbdce564d96cec5860a67b09667ff9040", func := "given.example/pub-enjambment/laws.FnSemanticMain", spec := "fnSemanticMain", inPlace := ["internal/abi.NoEscape", "internal/bytealg.MakeNoZero", "math.archMax", "math.Float64bits", "math.Float64frombits", "math.archMin"], unfollowed := true, recurses := true, named := ["unicode/utf8.first", "unicode/utf8.acceptRanges"], apart := false, laid := [("unicode/utf8.acceptRanges", laid_unicode_utf8_acceptRanges), ("unicode/utf8.first", laid_unicode_utf8_first)], narrowed := true }
def FnSemanticMainUptoSaid : Prop := fnSemanticMainUptoRow.holds Tryd.pinned (OpenSpec.upto fnSemanticMainSpec)

/-- 'laws.FnLinesLeast', WHERE WHAT IT READS IS OF BULK AT MOST 1048576: true; the input reads as it did. -/
def fnLinesLeastUptoRow : OpenClaim := { program := "yticibdjilmclgaadoor", sum := "549f155b476cb4bd905b51207769bbcdbdce564d96cec5860a67b09667ff9040", func := "given.example/pub-enjambment/laws.FnLinesLeast", spec := "fnLinesLeast", inPlace := ["internal/abi.NoEscape", "internal/bytealg.MakeNoZero", "math.archMax", "math.Float64bits", "math.Float64frombits", "math.archMin"], unfollowed := true, recurses := true, named := ["unicode/utf8.first", "unicode/utf8.acceptRanges"], apart := false, laid := [("unicode/utf8.acceptRanges", laid_unicode_utf8_acceptRanges), ("unicode/utf8.first", laid_unicode_utf8_first)], narrowed := true }
def FnLinesLeastUptoSaid : Prop := fnLinesLeastUptoRow.holds Tryd.pinned (OpenSpec.upto fnLinesLeastSpec)

/-- 'laws.FnLinesMain', WHERE WHAT IT READS IS OF BULK AT MOST 1048576: true; the input reads as it did. -/
def fnLinesMainUptoRow : OpenClaim := { program := "yticibdjilmclgaadoor", sum := "549f155b476cb4bd905b51207769bbcdbdce564d96cec5860a67b09667ff9040", func := "given.example/pub-enjambment/laws.FnLinesMain", spec := "fnLinesMain", inPlace := ["internal/abi.NoEscape", "internal/bytealg.MakeNoZero", "math.archMax", "math.Float64bits", "math.Float64frombits", "math.archMin"], unfollowed := true, recurses := true, named := ["unicode/utf8.first", "unicode/utf8.acceptRanges"], apart := false, laid := [("unicode/utf8.acceptRanges", laid_unicode_utf8_acceptRanges), ("unicode/utf8.first", laid_unicode_utf8_first)], narrowed := true }
def FnLinesMainUptoSaid : Prop := fnLinesMainUptoRow.holds Tryd.pinned (OpenSpec.upto fnLinesMainSpec)

/-- 'laws.FnLevenshteinMain', WHERE WHAT IT READS IS OF BULK AT MOST 1048576: true; the input reads as it did. -/
def fnLevenshteinMainUptoRow : OpenClaim := { program := "yticibdjilmclgaadoor", sum := "549f155b476cb4bd905b51207769bbcdbdce564d96cec5860a67b09667ff9040", func := "given.example/pub-enjambment/laws.FnLevenshteinMain", spec := "fnLevenshteinMain", inPlace := ["internal/abi.NoEscape", "internal/bytealg.MakeNoZero", "math.archMax", "math.Float64bits", "math.Float64frombits", "math.archMin"], unfollowed := true, recurses := true, named := ["unicode/utf8.first", "unicode/utf8.acceptRanges"], apart := false, laid := [("unicode/utf8.acceptRanges", laid_unicode_utf8_acceptRanges), ("unicode/utf8.first", laid_unicode_utf8_first)], narrowed := true }
def FnLevenshteinMainUptoSaid : Prop := fnLevenshteinMainUptoRow.holds Tryd.pinned (OpenSpec.upto fnLevenshteinMainSpec)

/-- 'laws.FnIndexMain', WHERE WHAT IT READS IS OF BULK AT MOST 1048576: true; the input reads as it did. -/
def fnIndexMainUptoRow : OpenClaim := { program := "yticibdjilmclgaadoor", sum := "549f155b476cb4bd905b51207769bbcdbdce564d96cec5860a67b09667ff9040", func := "given.example/pub-enjambment/laws.FnIndexMain", spec := "fnIndexMain", inPlace := ["internal/abi.NoEscape", "internal/bytealg.MakeNoZero", "math.archMax", "math.Float64bits", "math.Float64frombits", "math.archMin"], unfollowed := true, recurses := true, named := ["unicode/utf8.first", "unicode/utf8.acceptRanges"], apart := false, laid := [("unicode/utf8.acceptRanges", laid_unicode_utf8_acceptRanges), ("unicode/utf8.first", laid_unicode_utf8_first)], narrowed := true }
def FnIndexMainUptoSaid : Prop := fnIndexMainUptoRow.holds Tryd.pinned (OpenSpec.upto fnIndexMainSpec)

end Rows
end Go.Proofs.YticibdjilmclgaaDoor
