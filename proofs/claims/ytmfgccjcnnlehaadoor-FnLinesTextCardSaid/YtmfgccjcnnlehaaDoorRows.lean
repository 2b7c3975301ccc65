/-
  NARROWER THAN 'FOR EVERY INPUT', by the rows' own cells (each row's printed sentence says how): FnLinesText: laid · FnMatchBest: laid · FnMatchExact: laid · FnMatchEmpty: laid · FnMatchHere: laid · FnMatchWithin: laid · FnDeltaSays: laid · FnPatchSays: laid · FnSemanticTexts: laid · FnDeltaGiven: laid · FnDeltaWrong: laid.
  DERIVED. THE GIVEN ROWS OF THIS SEAT. 11 by the template 'for every input the law returns true; each argument reads behind the call as it read before'; 0 by the template 'total and deterministic' (their statements: YtmfgccjcnnlehaaDoorTotals.lean).
  GIVEN WITH THE SEED: the statements are not yours to turn. If you find one false, say at which input.
  Laid BY PROGRAM, IN A SANDBOX (cutbox-rows.mjs): the forced cells as the released guide's own fill.sh prints them over the translation 79bb0ce9757ba7b1… (all of the seat's roots in one cut). By AI agents, Wed Nov 11 2026. No macro, syntax, notation, axiom, sorry.
-/
import Derived.Test.YtmfgccjcnnlehaaDoorChecked
import GoSem.PinnedTables
import GoSem.Claim
import GoSem.ClaimJoined
import GoSem.ClaimMapViews
import Derived.JoinedTies
import Derived.KernelRfl
namespace Go.Proofs.YtmfgccjcnnlehaaDoor
/- THE CELL 'sum', in the pinned program and in every row, IS THE sha256 OF THE DUMP (.gsa) THAT YtmfgccjcnnlehaaDoorProg.lean LOADS. Nothing in Lean hashes anything: it is a label: what it is worth is what the hold of that sum in a sandbox is worth. -/
noncomputable def Tryd.pinned : Pinned := { name := "ytmfgccjcnnlehaadoor", sum := "79bb0ce9757ba7b1683f6152b54839dd90430052f46ee77cde9690650438d680", checked := Tryd.checked }
namespace Rows
def none {H : Type} : Left H := { results := [], args := [] }

/- WHAT THE LISTED PACKAGE-LEVEL VARIABLES READ AS WHEN THE CALL BEGINS. Each datum BY PROGRAM (the guide's laid-datum.mjs) off the statement by which the dump's own 'gosem.cut.vars' lays the variable. In a bare row this is a premise. The card (YtmfgccjcnnlehaaDoorCards.lean) ties it to the program's text. -/
def laid_unicode_utf8_acceptRanges {H : Type} : DataW H := .agg [.agg [.lit (.int .u8 128), .lit (.int .u8 191)], .agg [.lit (.int .u8 160), .lit (.int .u8 191)], .agg [.lit (.int .u8 128), .lit (.int .u8 159)], .agg [.lit (.int .u8 144), .lit (.int .u8 191)], .agg [.lit (.int .u8 128), .lit (.int .u8 143)], .agg [.lit (.int .u8 0), .lit (.int .u8 0)], .agg [.lit (.int .u8 0), .lit (.int .u8 0)], .agg [.lit (.int .u8 0), .lit (.int .u8 0)], .agg [.lit (.int .u8 0), .lit (.int .u8 0)], .agg [.lit (.int .u8 0), .lit (.int .u8 0)], .agg [.lit (.int .u8 0), .lit (.int .u8 0)], .agg [.lit (.int .u8 0), .lit (.int .u8 0)], .agg [.lit (.int .u8 0), .lit (.int .u8 0)], .agg [.lit (.int .u8 0), .lit (.int .u8 0)], .agg [.lit (.int .u8 0), .lit (.int .u8 0)], .agg [.lit (.int .u8 0), .lit (.int .u8 0)]]
/-- One of Go's own tables, pinned by name: the form's constant. -/
def laid_unicode_utf8_first : DataW Unit := Go.Pinned.utf8First
def laid_math_bits_deBruijn32tab {H : Type} : DataW H := .agg [.lit (.int .u8 0), .lit (.int .u8 1), .lit (.int .u8 28), .lit (.int .u8 2), .lit (.int .u8 29), .lit (.int .u8 14), .lit (.int .u8 24), .lit (.int .u8 3), .lit (.int .u8 30), .lit (.int .u8 22), .lit (.int .u8 20), .lit (.int .u8 15), .lit (.int .u8 25), .lit (.int .u8 17), .lit (.int .u8 4), .lit (.int .u8 8), .lit (.int .u8 31), .lit (.int .u8 27), .lit (.int .u8 13), .lit (.int .u8 23), .lit (.int .u8 21), .lit (.int .u8 19), .lit (.int .u8 16), .lit (.int .u8 7), .lit (.int .u8 26), .lit (.int .u8 12), .lit (.int .u8 18), .lit (.int .u8 6), .lit (.int .u8 11), .lit (.int .u8 5), .lit (.int .u8 10), .lit (.int .u8 9)]
def laid_math_bits_deBruijn64tab {H : Type} : DataW H := .agg [.lit (.int .u8 0), .lit (.int .u8 1), .lit (.int .u8 56), .lit (.int .u8 2), .lit (.int .u8 57), .lit (.int .u8 49), .lit (.int .u8 28), .lit (.int .u8 3), .lit (.int .u8 61), .lit (.int .u8 58), .lit (.int .u8 42), .lit (.int .u8 50), .lit (.int .u8 38), .lit (.int .u8 29), .lit (.int .u8 17), .lit (.int .u8 4), .lit (.int .u8 62), .lit (.int .u8 47), .lit (.int .u8 59), .lit (.int .u8 36), .lit (.int .u8 45), .lit (.int .u8 43), .lit (.int .u8 51), .lit (.int .u8 22), .lit (.int .u8 53), .lit (.int .u8 39), .lit (.int .u8 33), .lit (.int .u8 30), .lit (.int .u8 24), .lit (.int .u8 18), .lit (.int .u8 12), .lit (.int .u8 5), .lit (.int .u8 63), .lit (.int .u8 55), .lit (.int .u8 48), .lit (.int .u8 27), .lit (.int .u8 60), .lit (.int .u8 41), .lit (.int .u8 37), .lit (.int .u8 16), .lit (.int .u8 46), .lit (.int .u8 35), .lit (.int .u8 44), .lit (.int .u8 21), .lit (.int .u8 52), .lit (.int .u8 32), .lit (.int .u8 23), .lit (.int .u8 11), .lit (.int .u8 54), .lit (.int .u8 26), .lit (.int .u8 40), .lit (.int .u8 15), .lit (.int .u8 34), .lit (.int .u8 20), .lit (.int .u8 31), .lit (.int .u8 10), .lit (.int .u8 25), .lit (.int .u8 14), .lit (.int .u8 19), .lit (.int .u8 9), .lit (.int .u8 13), .lit (.int .u8 8), .lit (.int .u8 7), .lit (.int .u8 6)]
def laid_internal_strconv_uint64pow10 {H : Type} : DataW H := .agg [.lit (.int .u64 1), .lit (.int .u64 10), .lit (.int .u64 100), .lit (.int .u64 1000), .lit (.int .u64 10000), .lit (.int .u64 100000), .lit (.int .u64 1000000), .lit (.int .u64 10000000), .lit (.int .u64 100000000), .lit (.int .u64 1000000000), .lit (.int .u64 10000000000), .lit (.int .u64 100000000000), .lit (.int .u64 1000000000000), .lit (.int .u64 10000000000000), .lit (.int .u64 100000000000000), .lit (.int .u64 1000000000000000), .lit (.int .u64 10000000000000000), .lit (.int .u64 100000000000000000), .lit (.int .u64 1000000000000000000), .lit (.int .u64 10000000000000000000)]
def laid_bytes_ErrTooLarge {H : Type} : DataW H := .iface "*errors.errorString" (.ptr (.agg [.lit (.string [98, 121, 116, 101, 115, 46, 66, 117, 102, 102, 101, 114, 58, 32, 116, 111, 111, 32, 108, 97, 114, 103, 101])]))
def laid_net_url_table {H : Type} : DataW H := .agg [.lit (.int .u8 0), .lit (.int .u8 0), .lit (.int .u8 0), .lit (.int .u8 0), .lit (.int .u8 0), .lit (.int .u8 0), .lit (.int .u8 0), .lit (.int .u8 0), .lit (.int .u8 0), .lit (.int .u8 0), .lit (.int .u8 0), .lit (.int .u8 0), .lit (.int .u8 0), .lit (.int .u8 0), .lit (.int .u8 0), .lit (.int .u8 0), .lit (.int .u8 0), .lit (.int .u8 0), .lit (.int .u8 0), .lit (.int .u8 0), .lit (.int .u8 0), .lit (.int .u8 0), .lit (.int .u8 0), .lit (.int .u8 0), .lit (.int .u8 0), .lit (.int .u8 0), .lit (.int .u8 0), .lit (.int .u8 0), .lit (.int .u8 0), .lit (.int .u8 0), .lit (.int .u8 0), .lit (.int .u8 0), .lit (.int .u8 0), .lit (.int .u8 76), .lit (.int .u8 12), .lit (.int .u8 0), .lit (.int .u8 95), .lit (.int .u8 0), .lit (.int .u8 95), .lit (.int .u8 12), .lit (.int .u8 76), .lit (.int .u8 76), .lit (.int .u8 76), .lit (.int .u8 95), .lit (.int .u8 93), .lit (.int .u8 127), .lit (.int .u8 127), .lit (.int .u8 65), .lit (.int .u8 255), .lit (.int .u8 255), .lit (.int .u8 255), .lit (.int .u8 255), .lit (.int .u8 255), .lit (.int .u8 255), .lit (.int .u8 255), .lit (.int .u8 255), .lit (.int .u8 255), .lit (.int .u8 255), .lit (.int .u8 79), .lit (.int .u8 93), .lit (.int .u8 12), .lit (.int .u8 95), .lit (.int .u8 12), .lit (.int .u8 64), .lit (.int .u8 67), .lit (.int .u8 255), .lit (.int .u8 255), .lit (.int .u8 255), .lit (.int .u8 255), .lit (.int .u8 255), .lit (.int .u8 255), .lit (.int .u8 127), .lit (.int .u8 127), .lit (.int .u8 127), .lit (.int .u8 127), .lit (.int .u8 127), .lit (.int .u8 127), .lit (.int .u8 127), .lit (.int .u8 127), .lit (.int .u8 127), .lit (.int .u8 127), .lit (.int .u8 127), .lit (.int .u8 127), .lit (.int .u8 127), .lit (.int .u8 127), .lit (.int .u8 127), .lit (.int .u8 127), .lit (.int .u8 127), .lit (.int .u8 127), .lit (.int .u8 127), .lit (.int .u8 127), .lit (.int .u8 12), .lit (.int .u8 0), .lit (.int .u8 12), .lit (.int .u8 0), .lit (.int .u8 127), .lit (.int .u8 0), .lit (.int .u8 255), .lit (.int .u8 255), .lit (.int .u8 255), .lit (.int .u8 255), .lit (.int .u8 255), .lit (.int .u8 255), .lit (.int .u8 127), .lit (.int .u8 127), .lit (.int .u8 127), .lit (.int .u8 127), .lit (.int .u8 127), .lit (.int .u8 127), .lit (.int .u8 127), .lit (.int .u8 127), .lit (.int .u8 127), .lit (.int .u8 127), .lit (.int .u8 127), .lit (.int .u8 127), .lit (.int .u8 127), .lit (.int .u8 127), .lit (.int .u8 127), .lit (.int .u8 127), .lit (.int .u8 127), .lit (.int .u8 127), .lit (.int .u8 127), .lit (.int .u8 127), .lit (.int .u8 0), .lit (.int .u8 0), .lit (.int .u8 0), .lit (.int .u8 127), .lit (.int .u8 0), .lit (.int .u8 0), .lit (.int .u8 0), .lit (.int .u8 0), .lit (.int .u8 0), .lit (.int .u8 0), .lit (.int .u8 0), .lit (.int .u8 0), .lit (.int .u8 0), .lit (.int .u8 0), .lit (.int .u8 0), .lit (.int .u8 0), .lit (.int .u8 0), .lit (.int .u8 0), .lit (.int .u8 0), .lit (.int .u8 0), .lit (.int .u8 0), .lit (.int .u8 0), .lit (.int .u8 0), .lit (.int .u8 0), .lit (.int .u8 0), .lit (.int .u8 0), .lit (.int .u8 0), .lit (.int .u8 0), .lit (.int .u8 0), .lit (.int .u8 0), .lit (.int .u8 0), .lit (.int .u8 0), .lit (.int .u8 0), .lit (.int .u8 0), .lit (.int .u8 0), .lit (.int .u8 0), .lit (.int .u8 0), .lit (.int .u8 0), .lit (.int .u8 0), .lit (.int .u8 0), .lit (.int .u8 0), .lit (.int .u8 0), .lit (.int .u8 0), .lit (.int .u8 0), .lit (.int .u8 0), .lit (.int .u8 0), .lit (.int .u8 0), .lit (.int .u8 0), .lit (.int .u8 0), .lit (.int .u8 0), .lit (.int .u8 0), .lit (.int .u8 0), .lit (.int .u8 0), .lit (.int .u8 0), .lit (.int .u8 0), .lit (.int .u8 0), .lit (.int .u8 0), .lit (.int .u8 0), .lit (.int .u8 0), .lit (.int .u8 0), .lit (.int .u8 0), .lit (.int .u8 0), .lit (.int .u8 0), .lit (.int .u8 0), .lit (.int .u8 0), .lit (.int .u8 0), .lit (.int .u8 0), .lit (.int .u8 0), .lit (.int .u8 0), .lit (.int .u8 0), .lit (.int .u8 0), .lit (.int .u8 0), .lit (.int .u8 0), .lit (.int .u8 0), .lit (.int .u8 0), .lit (.int .u8 0), .lit (.int .u8 0), .lit (.int .u8 0), .lit (.int .u8 0), .lit (.int .u8 0), .lit (.int .u8 0), .lit (.int .u8 0), .lit (.int .u8 0), .lit (.int .u8 0), .lit (.int .u8 0), .lit (.int .u8 0), .lit (.int .u8 0), .lit (.int .u8 0), .lit (.int .u8 0), .lit (.int .u8 0), .lit (.int .u8 0), .lit (.int .u8 0), .lit (.int .u8 0), .lit (.int .u8 0), .lit (.int .u8 0), .lit (.int .u8 0), .lit (.int .u8 0), .lit (.int .u8 0), .lit (.int .u8 0), .lit (.int .u8 0), .lit (.int .u8 0), .lit (.int .u8 0), .lit (.int .u8 0), .lit (.int .u8 0), .lit (.int .u8 0), .lit (.int .u8 0), .lit (.int .u8 0), .lit (.int .u8 0), .lit (.int .u8 0), .lit (.int .u8 0), .lit (.int .u8 0), .lit (.int .u8 0), .lit (.int .u8 0), .lit (.int .u8 0), .lit (.int .u8 0), .lit (.int .u8 0), .lit (.int .u8 0), .lit (.int .u8 0), .lit (.int .u8 0), .lit (.int .u8 0), .lit (.int .u8 0), .lit (.int .u8 0), .lit (.int .u8 0), .lit (.int .u8 0), .lit (.int .u8 0), .lit (.int .u8 0), .lit (.int .u8 0), .lit (.int .u8 0), .lit (.int .u8 0), .lit (.int .u8 0), .lit (.int .u8 0), .lit (.int .u8 0), .lit (.int .u8 0)]
def laid_strconv_ErrRange {H : Type} : DataW H := .iface "*errors.errorString" (.ptr (.agg [.lit (.string [118, 97, 108, 117, 101, 32, 111, 117, 116, 32, 111, 102, 32, 114, 97, 110, 103, 101])]))
def laid_strconv_ErrSyntax {H : Type} : DataW H := .iface "*errors.errorString" (.ptr (.agg [.lit (.string [105, 110, 118, 97, 108, 105, 100, 32, 115, 121, 110, 116, 97, 120])]))

/-- 'laws.FnLinesText': WHATEVER THE INPUT: true; the input reads as it did. -/
def fnLinesTextSpec : ChangeSpec := { name := "fnLinesText", fn := fun _ => fun
  | [d1, d2] => { results := [.lit (.bool true)], args := [d1, d2] }
  | _ => none }
def fnLinesTextRow : OpenClaim := { program := "ytmfgccjcnnlehaadoor", sum := "79bb0ce9757ba7b1683f6152b54839dd90430052f46ee77cde9690650438d680", func := "given.example/pub-enjambment/laws.FnLinesText", spec := "fnLinesText", inPlace := ["internal/abi.NoEscape", "internal/bytealg.MakeNoZero"], unfollowed := true, recurses := true, named := ["unicode/utf8.first", "unicode/utf8.acceptRanges"], apart := false, laid := [("unicode/utf8.acceptRanges", laid_unicode_utf8_acceptRanges), ("unicode/utf8.first", laid_unicode_utf8_first)] }
def FnLinesTextSaid : Prop := fnLinesTextRow.holds Tryd.pinned (OpenSpec.ofChange fnLinesTextSpec)

/-- ITS FALSE NEIGHBOUR: 'it returns false'. Refute it at one input. -/
def fnLinesTextWrong : ChangeSpec := { name := "fnLinesText", fn := fun _ => fun
  | [d1, d2] => { results := [.lit (.bool false)], args := [d1, d2] }
  | _ => none }
def FnLinesTextWrongFalsely : Prop := fnLinesTextRow.holds Tryd.pinned (OpenSpec.ofChange fnLinesTextWrong)

/-- 'laws.FnMatchBest': WHATEVER THE INPUT: true; the input reads as it did. -/
def fnMatchBestSpec : ChangeSpec := { name := "fnMatchBest", fn := fun _ => fun
  | [d1, d2, d3, d4] => { results := [.lit (.bool true)], args := [d1, d2, d3, d4] }
  | _ => none }
def fnMatchBestRow : OpenClaim := { program := "ytmfgccjcnnlehaadoor", sum := "79bb0ce9757ba7b1683f6152b54839dd90430052f46ee77cde9690650438d680", func := "given.example/pub-enjambment/laws.FnMatchBest", spec := "fnMatchBest", inPlace := ["math.Float64bits", "math.Float64frombits", "math.archMin", "math.archMax"], unfollowed := true, recurses := true, named := ["unicode/utf8.first", "unicode/utf8.acceptRanges"], apart := false, laid := [("unicode/utf8.acceptRanges", laid_unicode_utf8_acceptRanges), ("unicode/utf8.first", laid_unicode_utf8_first)] }
def FnMatchBestSaid : Prop := fnMatchBestRow.holds Tryd.pinned (OpenSpec.ofChange fnMatchBestSpec)

/-- ITS FALSE NEIGHBOUR: 'it returns false'. Refute it at one input. -/
def fnMatchBestWrong : ChangeSpec := { name := "fnMatchBest", fn := fun _ => fun
  | [d1, d2, d3, d4] => { results := [.lit (.bool false)], args := [d1, d2, d3, d4] }
  | _ => none }
def FnMatchBestWrongFalsely : Prop := fnMatchBestRow.holds Tryd.pinned (OpenSpec.ofChange fnMatchBestWrong)

/-- 'laws.FnMatchExact': WHATEVER THE INPUT: true; the input reads as it did. -/
def fnMatchExactSpec : ChangeSpec := { name := "fnMatchExact", fn := fun _ => fun
  | [d1, d2, d3, d4] => { results := [.lit (.bool true)], args := [d1, d2, d3, d4] }
  | _ => none }
def fnMatchExactRow : OpenClaim := { program := "ytmfgccjcnnlehaadoor", sum := "79bb0ce9757ba7b1683f6152b54839dd90430052f46ee77cde9690650438d680", func := "given.example/pub-enjambment/laws.FnMatchExact", spec := "fnMatchExact", inPlace := ["math.Float64bits", "math.Float64frombits", "math.archMin", "math.archMax"], unfollowed := true, recurses := true, named := ["unicode/utf8.first", "unicode/utf8.acceptRanges"], apart := false, laid := [("unicode/utf8.acceptRanges", laid_unicode_utf8_acceptRanges), ("unicode/utf8.first", laid_unicode_utf8_first)] }
def FnMatchExactSaid : Prop := fnMatchExactRow.holds Tryd.pinned (OpenSpec.ofChange fnMatchExactSpec)

/-- ITS FALSE NEIGHBOUR: 'it returns false'. Refute it at one input. -/
def fnMatchExactWrong : ChangeSpec := { name := "fnMatchExact", fn := fun _ => fun
  | [d1, d2, d3, d4] => { results := [.lit (.bool false)], args := [d1, d2, d3, d4] }
  | _ => none }
def FnMatchExactWrongFalsely : Prop := fnMatchExactRow.holds Tryd.pinned (OpenSpec.ofChange fnMatchExactWrong)

/-- 'laws.FnMatchEmpty': WHATEVER THE INPUT: true; the input reads as it did. -/
def fnMatchEmptySpec : ChangeSpec := { name := "fnMatchEmpty", fn := fun _ => fun
  | [d1, d2, d3] => { results := [.lit (.bool true)], args := [d1, d2, d3] }
  | _ => none }
def fnMatchEmptyRow : OpenClaim := { program := "ytmfgccjcnnlehaadoor", sum := "79bb0ce9757ba7b1683f6152b54839dd90430052f46ee77cde9690650438d680", func := "given.example/pub-enjambment/laws.FnMatchEmpty", spec := "fnMatchEmpty", inPlace := ["math.archMin", "math.Float64bits", "math.Float64frombits", "math.archMax"], unfollowed := true, recurses := true, named := ["unicode/utf8.first", "unicode/utf8.acceptRanges"], apart := false, laid := [("unicode/utf8.acceptRanges", laid_unicode_utf8_acceptRanges), ("unicode/utf8.first", laid_unicode_utf8_first)] }
def FnMatchEmptySaid : Prop := fnMatchEmptyRow.holds Tryd.pinned (OpenSpec.ofChange fnMatchEmptySpec)

/-- ITS FALSE NEIGHBOUR: 'it returns false'. Refute it at one input. -/
def fnMatchEmptyWrong : ChangeSpec := { name := "fnMatchEmpty", fn := fun _ => fun
  | [d1, d2, d3] => { results := [.lit (.bool false)], args := [d1, d2, d3] }
  | _ => none }
def FnMatchEmptyWrongFalsely : Prop := fnMatchEmptyRow.holds Tryd.pinned (OpenSpec.ofChange fnMatchEmptyWrong)

/-- 'laws.FnMatchHere': WHATEVER THE INPUT: true; the input reads as it did. -/
def fnMatchHereSpec : ChangeSpec := { name := "fnMatchHere", fn := fun _ => fun
  | [d1, d2, d3, d4] => { results := [.lit (.bool true)], args := [d1, d2, d3, d4] }
  | _ => none }
def fnMatchHereRow : OpenClaim := { program := "ytmfgccjcnnlehaadoor", sum := "79bb0ce9757ba7b1683f6152b54839dd90430052f46ee77cde9690650438d680", func := "given.example/pub-enjambment/laws.FnMatchHere", spec := "fnMatchHere", inPlace := ["math.archMin", "math.Float64bits", "math.Float64frombits", "math.archMax"], unfollowed := true, recurses := true, named := ["unicode/utf8.first", "unicode/utf8.acceptRanges"], apart := false, laid := [("unicode/utf8.acceptRanges", laid_unicode_utf8_acceptRanges), ("unicode/utf8.first", laid_unicode_utf8_first)] }
def FnMatchHereSaid : Prop := fnMatchHereRow.holds Tryd.pinned (OpenSpec.ofChange fnMatchHereSpec)

/-- ITS FALSE NEIGHBOUR: 'it returns false'. Refute it at one input. -/
def fnMatchHereWrong : ChangeSpec := { name := "fnMatchHere", fn := fun _ => fun
  | [d1, d2, d3, d4] => { results := [.lit (.bool false)], args := [d1, d2, d3, d4] }
  | _ => none }
def FnMatchHereWrongFalsely : Prop := fnMatchHereRow.holds Tryd.pinned (OpenSpec.ofChange fnMatchHereWrong)

/-- 'laws.FnMatchWithin': WHATEVER THE INPUT: true; the input reads as it did. -/
def fnMatchWithinSpec : ChangeSpec := { name := "fnMatchWithin", fn := fun _ => fun
  | [d1, d2, d3, d4] => { results := [.lit (.bool true)], args := [d1, d2, d3, d4] }
  | _ => none }
def fnMatchWithinRow : OpenClaim := { program := "ytmfgccjcnnlehaadoor", sum := "79bb0ce9757ba7b1683f6152b54839dd90430052f46ee77cde9690650438d680", func := "given.example/pub-enjambment/laws.FnMatchWithin", spec := "fnMatchWithin", inPlace := ["math.archMin", "math.Float64bits", "math.Float64frombits", "math.archMax"], unfollowed := true, recurses := true, named := ["unicode/utf8.first", "unicode/utf8.acceptRanges"], apart := false, laid := [("unicode/utf8.acceptRanges", laid_unicode_utf8_acceptRanges), ("unicode/utf8.first", laid_unicode_utf8_first)] }
def FnMatchWithinSaid : Prop := fnMatchWithinRow.holds Tryd.pinned (OpenSpec.ofChange fnMatchWithinSpec)

/-- ITS FALSE NEIGHBOUR: 'it returns false'. Refute it at one input. -/
def fnMatchWithinWrong : ChangeSpec := { name := "fnMatchWithin", fn := fun _ => fun
  | [d1, d2, d3, d4] => { results := [.lit (.bool false)], args := [d1, d2, d3, d4] }
  | _ => none }
def FnMatchWithinWrongFalsely : Prop := fnMatchWithinRow.holds Tryd.pinned (OpenSpec.ofChange fnMatchWithinWrong)

/-- 'laws.FnDeltaSays': WHATEVER THE INPUT: true; the input reads as it did. -/
def fnDeltaSaysSpec : ChangeSpec := { name := "fnDeltaSays", fn := fun _ => fun
  | [d] => { results := [.lit (.bool true)], args := [d] }
  | _ => none }
def fnDeltaSaysRow : OpenClaim := { program := "ytmfgccjcnnlehaadoor", sum := "79bb0ce9757ba7b1683f6152b54839dd90430052f46ee77cde9690650438d680", func := "given.example/pub-enjambment/laws.FnDeltaSays", spec := "fnDeltaSays", unfollowed := true, recurses := true, named := ["bytes.ErrTooLarge", "net/url.table", "internal/strconv.uint64pow10", "math/bits.deBruijn32tab", "math/bits.deBruijn64tab", "unicode/utf8.first", "unicode/utf8.acceptRanges"], apart := false, laid := [("math/bits.deBruijn32tab", laid_math_bits_deBruijn32tab), ("math/bits.deBruijn64tab", laid_math_bits_deBruijn64tab), ("internal/strconv.uint64pow10", laid_internal_strconv_uint64pow10), ("unicode/utf8.acceptRanges", laid_unicode_utf8_acceptRanges), ("bytes.ErrTooLarge", laid_bytes_ErrTooLarge), ("net/url.table", laid_net_url_table), ("unicode/utf8.first", laid_unicode_utf8_first)] }
def FnDeltaSaysSaid : Prop := fnDeltaSaysRow.holds Tryd.pinned (OpenSpec.ofChange fnDeltaSaysSpec)

/-- ITS FALSE NEIGHBOUR: 'it returns false'. Refute it at one input. -/
def fnDeltaSaysWrong : ChangeSpec := { name := "fnDeltaSays", fn := fun _ => fun
  | [d] => { results := [.lit (.bool false)], args := [d] }
  | _ => none }
def FnDeltaSaysWrongFalsely : Prop := fnDeltaSaysRow.holds Tryd.pinned (OpenSpec.ofChange fnDeltaSaysWrong)

/-- 'laws.FnPatchSays': WHATEVER THE INPUT: true; the input reads as it did. -/
def fnPatchSaysSpec : ChangeSpec := { name := "fnPatchSays", fn := fun _ => fun
  | [d] => { results := [.lit (.bool true)], args := [d] }
  | _ => none }
def fnPatchSaysRow : OpenClaim := { program := "ytmfgccjcnnlehaadoor", sum := "79bb0ce9757ba7b1683f6152b54839dd90430052f46ee77cde9690650438d680", func := "given.example/pub-enjambment/laws.FnPatchSays", spec := "fnPatchSays", named := ["internal/strconv.uint64pow10", "math/bits.deBruijn32tab", "math/bits.deBruijn64tab", "bytes.ErrTooLarge", "net/url.table", "unicode/utf8.first", "unicode/utf8.acceptRanges"], apart := false, laid := [("math/bits.deBruijn32tab", laid_math_bits_deBruijn32tab), ("math/bits.deBruijn64tab", laid_math_bits_deBruijn64tab), ("internal/strconv.uint64pow10", laid_internal_strconv_uint64pow10), ("unicode/utf8.acceptRanges", laid_unicode_utf8_acceptRanges), ("bytes.ErrTooLarge", laid_bytes_ErrTooLarge), ("net/url.table", laid_net_url_table), ("unicode/utf8.first", laid_unicode_utf8_first)] }
def FnPatchSaysSaid : Prop := fnPatchSaysRow.holds Tryd.pinned (OpenSpec.ofChange fnPatchSaysSpec)

/-- ITS FALSE NEIGHBOUR: 'it returns false'. Refute it at one input. -/
def fnPatchSaysWrong : ChangeSpec := { name := "fnPatchSays", fn := fun _ => fun
  | [d] => { results := [.lit (.bool false)], args := [d] }
  | _ => none }
def FnPatchSaysWrongFalsely : Prop := fnPatchSaysRow.holds Tryd.pinned (OpenSpec.ofChange fnPatchSaysWrong)

/-- 'laws.FnSemanticTexts': WHATEVER THE INPUT: true; the input reads as it did. -/
def fnSemanticTextsSpec : ChangeSpec := { name := "fnSemanticTexts", fn := fun _ => fun
  | [d] => { results := [.lit (.bool true)], args := [d] }
  | _ => none }
def fnSemanticTextsRow : OpenClaim := { program := "ytmfgccjcnnlehaadoor", sum := "79bb0ce9757ba7b1683f6152b54839dd90430052f46ee77cde9690650438d680", func := "given.example/pub-enjambment/laws.FnSemanticTexts", spec := "fnSemanticTexts", inPlace := ["math.archMax", "math.Float64bits", "math.Float64frombits", "math.archMin"], unfollowed := true, recurses := true, named := ["unicode/utf8.first", "unicode/utf8.acceptRanges"], apart := false, laid := [("unicode/utf8.acceptRanges", laid_unicode_utf8_acceptRanges), ("unicode/utf8.first", laid_unicode_utf8_first)] }
def FnSemanticTextsSaid : Prop := fnSemanticTextsRow.holds Tryd.pinned (OpenSpec.ofChange fnSemanticTextsSpec)

/-- ITS FALSE NEIGHBOUR: 'it returns false'. Refute it at one input. -/
def fnSemanticTextsWrong : ChangeSpec := { name := "fnSemanticTexts", fn := fun _ => fun
  | [d] => { results := [.lit (.bool false)], args := [d] }
  | _ => none }
def FnSemanticTextsWrongFalsely : Prop := fnSemanticTextsRow.holds Tryd.pinned (OpenSpec.ofChange fnSemanticTextsWrong)

/-- 'laws.FnDeltaGiven': WHATEVER THE INPUT: true; the input reads as it did. -/
def fnDeltaGivenSpec : ChangeSpec := { name := "fnDeltaGiven", fn := fun _ => fun
  | [d1, d2] => { results := [.lit (.bool true)], args := [d1, d2] }
  | _ => none }
def fnDeltaGivenRow : OpenClaim := { program := "ytmfgccjcnnlehaadoor", sum := "79bb0ce9757ba7b1683f6152b54839dd90430052f46ee77cde9690650438d680", func := "given.example/pub-enjambment/laws.FnDeltaGiven", spec := "fnDeltaGiven", inPlace := ["internal/abi.NoEscape", "internal/bytealg.MakeNoZero"], unfollowed := true, recurses := true, named := ["net/url.table", "unicode/utf8.first", "unicode/utf8.acceptRanges", "strconv.ErrSyntax", "strconv.ErrRange", "internal/strconv.uint64pow10", "math/bits.deBruijn32tab", "math/bits.deBruijn64tab"], apart := false, laid := [("math/bits.deBruijn32tab", laid_math_bits_deBruijn32tab), ("math/bits.deBruijn64tab", laid_math_bits_deBruijn64tab), ("internal/strconv.uint64pow10", laid_internal_strconv_uint64pow10), ("unicode/utf8.acceptRanges", laid_unicode_utf8_acceptRanges), ("strconv.ErrRange", laid_strconv_ErrRange), ("strconv.ErrSyntax", laid_strconv_ErrSyntax), ("net/url.table", laid_net_url_table), ("unicode/utf8.first", laid_unicode_utf8_first)] }
def FnDeltaGivenSaid : Prop := fnDeltaGivenRow.holds Tryd.pinned (OpenSpec.ofChange fnDeltaGivenSpec)

/-- ITS FALSE NEIGHBOUR: 'it returns false'. Refute it at one input. -/
def fnDeltaGivenWrong : ChangeSpec := { name := "fnDeltaGiven", fn := fun _ => fun
  | [d1, d2] => { results := [.lit (.bool false)], args := [d1, d2] }
  | _ => none }
def FnDeltaGivenWrongFalsely : Prop := fnDeltaGivenRow.holds Tryd.pinned (OpenSpec.ofChange fnDeltaGivenWrong)

/-- 'laws.FnDeltaWrong': WHATEVER THE INPUT: true; the input reads as it did. -/
def fnDeltaWrongSpec : ChangeSpec := { name := "fnDeltaWrong", fn := fun _ => fun
  | [d1, d2] => { results := [.lit (.bool true)], args := [d1, d2] }
  | _ => none }
def fnDeltaWrongRow : OpenClaim := { program := "ytmfgccjcnnlehaadoor", sum := "79bb0ce9757ba7b1683f6152b54839dd90430052f46ee77cde9690650438d680", func := "given.example/pub-enjambment/laws.FnDeltaWrong", spec := "fnDeltaWrong", inPlace := ["internal/abi.NoEscape", "internal/bytealg.MakeNoZero"], unfollowed := true, recurses := true, named := ["net/url.table", "unicode/utf8.first", "unicode/utf8.acceptRanges", "strconv.ErrSyntax", "strconv.ErrRange", "internal/strconv.uint64pow10", "math/bits.deBruijn32tab", "math/bits.deBruijn64tab"], apart := false, laid := [("math/bits.deBruijn32tab", laid_math_bits_deBruijn32tab), ("math/bits.deBruijn64tab", laid_math_bits_deBruijn64tab), ("internal/strconv.uint64pow10", laid_internal_strconv_uint64pow10), ("unicode/utf8.acceptRanges", laid_unicode_utf8_acceptRanges), ("strconv.ErrRange", laid_strconv_ErrRange), ("strconv.ErrSyntax", laid_strconv_ErrSyntax), ("net/url.table", laid_net_url_table), ("unicode/utf8.first", laid_unicode_utf8_first)] }
def FnDeltaWrongSaid : Prop := fnDeltaWrongRow.holds Tryd.pinned (OpenSpec.ofChange fnDeltaWrongSpec)

/-- ITS FALSE NEIGHBOUR: 'it returns false'. Refute it at one input. -/
def fnDeltaWrongWrong : ChangeSpec := { name := "fnDeltaWrong", fn := fun _ => fun
  | [d1, d2] => { results := [.lit (.bool false)], args := [d1, d2] }
  | _ => none }
def FnDeltaWrongWrongFalsely : Prop := fnDeltaWrongRow.holds Tryd.pinned (OpenSpec.ofChange fnDeltaWrongWrong)

/- THE SECOND FORM. 'bulk': how many values and letters a reading holds, each counted each time it is reached (what is shared counts as often as it is met; a slice's spare places count too). A statement '..UptoSaid' is the law's where the arguments, and the package variables that the reading takes, are together of bulk at most 1048576: NARROWER than '..Said'. Prove '..Said' where nothing that the law and all that it calls make is longer than what came in: it says more and counts as full. Else prove '..UptoSaid'. A law counts once. -/
mutual
def uptoBulk {H : Type} : DataW H → Nat
  | .lit (.string bytes) => bytes.length + 1
  | .lit _ => 1
  | .nil => 1
  | .ptr d => uptoBulk d + 1
  | .slice elems spare => uptoBulkAll elems + uptoBulkAll spare + 1
  | .agg parts => uptoBulkAll parts + 1
  | .iface _ d => uptoBulk d + 1
  | .map entries => uptoBulkEntries entries + 1
  | .held _ => 1
def uptoBulkAll {H : Type} : List (DataW H) → Nat
  | [] => 0
  | d :: r => uptoBulk d + uptoBulkAll r
def uptoBulkEntries {H : Type} : List (Lit × DataW H) → Nat
  | [] => 0
  | x :: r => uptoBulkEntry x + uptoBulkEntries r
def uptoBulkEntry {H : Type} : Lit × DataW H → Nat
  | (.string bytes, d) => bytes.length + uptoBulk d + 1
  | (_, d) => uptoBulk d + 1
 end
def uptoSmall : (H : Type) → List (DataW H) → Bool := fun _ ds => decide (uptoBulkAll ds ≤ 1048576)
def OpenSpec.upto (s : _root_.Go.ChangeSpec) : _root_.Go.OpenSpec := { _root_.Go.OpenSpec.ofChange s with cond := some uptoSmall }

/-- 'laws.FnLinesText', WHERE WHAT IT READS IS OF BULK AT MOST 1048576: true; the input reads as it did. -/
def fnLinesTextUptoRow : OpenClaim := { program := "ytmfgccjcnnlehaadoor", sum := "79bb0ce9757ba7b1683f6152b54839dd90430052f46ee77cde9690650438d680", func := "given.example/pub-enjambment/laws.FnLinesText", spec := "fnLinesText", inPlace := ["internal/abi.NoEscape", "internal/bytealg.MakeNoZero"], unfollowed := true, recurses := true, named := ["unicode/utf8.first", "unicode/utf8.acceptRanges"], apart := false, laid := [("unicode/utf8.acceptRanges", laid_unicode_utf8_acceptRanges), ("unicode/utf8.first", laid_unicode_utf8_first)], narrowed := true }
def FnLinesTextUptoSaid : Prop := fnLinesTextUptoRow.holds Tryd.pinned (OpenSpec.upto fnLinesTextSpec)

/-- 'laws.FnMatchBest', WHERE WHAT IT READS IS OF BULK AT MOST 1048576: true; the input reads as it did. -/
def fnMatchBestUptoRow : OpenClaim := { program := "ytmfgccjcnnlehaadoor", sum := "79bb0ce9757ba7b1683f6152b54839dd90430052f46ee77cde9690650438d680", func := "given.example/pub-enjambment/laws.FnMatchBest", spec := "fnMatchBest", inPlace := ["math.Float64bits", "math.Float64frombits", "math.archMin", "math.archMax"], unfollowed := true, recurses := true, named := ["unicode/utf8.first", "unicode/utf8.acceptRanges"], apart := false, laid := [("unicode/utf8.acceptRanges", laid_unicode_utf8_acceptRanges), ("unicode/utf8.first", laid_unicode_utf8_first)], narrowed := true }
def FnMatchBestUptoSaid : Prop := fnMatchBestUptoRow.holds Tryd.pinned (OpenSpec.upto fnMatchBestSpec)

/-- 'laws.FnMatchExact', WHERE WHAT IT READS IS OF BULK AT MOST 1048576: true; the input reads as it did. -/
def fnMatchExactUptoRow : OpenClaim := { program := "ytmfgccjcnnlehaadoor", sum := "79bb0ce9757ba7b1683f6152b54839dd90430052f46ee77cde9690650438d680", func := "given.example/pub-enjambment/laws.FnMatchExact", spec := "fnMatchExact", inPlace := ["math.Float64bits", "math.Float64frombits", "math.archMin", "math.archMax"], unfollowed := true, recurses := true, named := ["unicode/utf8.first", "unicode/utf8.acceptRanges"], apart := false, laid := [("unicode/utf8.acceptRanges", laid_unicode_utf8_acceptRanges), ("unicode/utf8.first", laid_unicode_utf8_first)], narrowed := true }
def FnMatchExactUptoSaid : Prop := fnMatchExactUptoRow.holds Tryd.pinned (OpenSpec.upto fnMatchExactSpec)

/-- 'laws.FnMatchEmpty', WHERE WHAT IT READS IS OF BULK AT MOST 1048576: true; the input reads as it did. -/
def fnMatchEmptyUptoRow : OpenClaim := { program := "ytmfgccjcnnlehaadoor", sum := "79bb0ce9757ba7b1683f6152b54839dd90430052f46ee77cde9690650438d680", func := "given.example/pub-enjambment/laws.FnMatchEmpty", spec := "fnMatchEmpty", inPlace := ["math.archMin", "math.Float64bits", "math.Float64frombits", "math.archMax"], unfollowed := true, recurses := true, named := ["unicode/utf8.first", "unicode/utf8.acceptRanges"], apart := false, laid := [("unicode/utf8.acceptRanges", laid_unicode_utf8_acceptRanges), ("unicode/utf8.first", laid_unicode_utf8_first)], narrowed := true }
def FnMatchEmptyUptoSaid : Prop := fnMatchEmptyUptoRow.holds Tryd.pinned (OpenSpec.upto fnMatchEmptySpec)

/-- 'laws.FnMatchHere', WHERE WHAT IT READS IS OF BULK AT MOST 1048576: true; the input reads as it did. -/
def fnMatchHereUptoRow : OpenClaim := { program := "ytmfgccjcnnlehaadoor", sum := "79bb0ce9757ba7b1683f6152b54839dd90430052f46ee77cde9690650438d680", func := "given.example/pub-enjambment/laws.FnMatchHere", spec := "fnMatchHere", inPlace := ["math.archMin", "math.Float64bits", "math.Float64frombits", "math.archMax"], unfollowed := true, recurses := true, named := ["unicode/utf8.first", "unicode/utf8.acceptRanges"], apart := false, laid := [("unicode/utf8.acceptRanges", laid_unicode_utf8_acceptRanges), ("unicode/utf8.first", laid_unicode_utf8_first)], narrowed := true }
def FnMatchHereUptoSaid : Prop := fnMatchHereUptoRow.holds Tryd.pinned (OpenSpec.upto fnMatchHereSpec)

/-- 'laws.FnMatchWithin', WHERE WHAT IT READS IS OF BULK AT MOST 1048576: true; the input reads as it did. -/
def fnMatchWithinUptoRow : OpenClaim := { program := "ytmfgccjcnnlehaadoor", sum := "79bb0ce9757ba7b1683f6152b54839dd90430052f46ee77cde9690650438d680", func := "given.example/pub-enjambment/laws.FnMatchWithin", spec := "fnMatchWithin", inPlace := ["math.archMin", "math.Float64bits", "math.Float64frombits", "math.archMax"], unfollowed := true, recurses := true, named := ["unicode/utf8.first", "unicode/utf8.acceptRanges"], apart := false, laid := [("unicode/utf8.acceptRanges", laid_unicode_utf8_acceptRanges), ("unicode/utf8.first", laid_unicode_utf8_first)], narrowed := true }
def FnMatchWithinUptoSaid : Prop := fnMatchWithinUptoRow.holds Tryd.pinned (OpenSpec.upto fnMatchWithinSpec)

/-- 'laws.FnDeltaSays', WHERE WHAT IT READS IS OF BULK AT MOST 1048576: true; the input reads as it did. -/
def fnDeltaSaysUptoRow : OpenClaim := { program := "ytmfgccjcnnlehaadoor", sum := "79bb0ce9757ba7b1683f6152b54839dd90430052f46ee77cde9690650438d680", func := "given.example/pub-enjambment/laws.FnDeltaSays", spec := "fnDeltaSays", unfollowed := true, recurses := true, named := ["bytes.ErrTooLarge", "net/url.table", "internal/strconv.uint64pow10", "math/bits.deBruijn32tab", "math/bits.deBruijn64tab", "unicode/utf8.first", "unicode/utf8.acceptRanges"], apart := false, laid := [("math/bits.deBruijn32tab", laid_math_bits_deBruijn32tab), ("math/bits.deBruijn64tab", laid_math_bits_deBruijn64tab), ("internal/strconv.uint64pow10", laid_internal_strconv_uint64pow10), ("unicode/utf8.acceptRanges", laid_unicode_utf8_acceptRanges), ("bytes.ErrTooLarge", laid_bytes_ErrTooLarge), ("net/url.table", laid_net_url_table), ("unicode/utf8.first", laid_unicode_utf8_first)], narrowed := true }
def FnDeltaSaysUptoSaid : Prop := fnDeltaSaysUptoRow.holds Tryd.pinned (OpenSpec.upto fnDeltaSaysSpec)

/-- 'laws.FnPatchSays', WHERE WHAT IT READS IS OF BULK AT MOST 1048576: true; the input reads as it did. -/
def fnPatchSaysUptoRow : OpenClaim := { program := "ytmfgccjcnnlehaadoor", sum := "79bb0ce9757ba7b1683f6152b54839dd90430052f46ee77cde9690650438d680", func := "given.example/pub-enjambment/laws.FnPatchSays", spec := "fnPatchSays", named := ["internal/strconv.uint64pow10", "math/bits.deBruijn32tab", "math/bits.deBruijn64tab", "bytes.ErrTooLarge", "net/url.table", "unicode/utf8.first", "unicode/utf8.acceptRanges"], apart := false, laid := [("math/bits.deBruijn32tab", laid_math_bits_deBruijn32tab), ("math/bits.deBruijn64tab", laid_math_bits_deBruijn64tab), ("internal/strconv.uint64pow10", laid_internal_strconv_uint64pow10), ("unicode/utf8.acceptRanges", laid_unicode_utf8_acceptRanges), ("bytes.ErrTooLarge", laid_bytes_ErrTooLarge), ("net/url.table", laid_net_url_table), ("unicode/utf8.first", laid_unicode_utf8_first)], narrowed := true }
def FnPatchSaysUptoSaid : Prop := fnPatchSaysUptoRow.holds Tryd.pinned (OpenSpec.upto fnPatchSaysSpec)

/-- 'laws.FnSemanticTexts', WHERE WHAT IT READS IS OF BULK AT MOST 1048576: true; the input reads as it did. -/
def fnSemanticTextsUptoRow : OpenClaim := { program := "ytmfgccjcnnlehaadoor", sum := "79bb0ce9757ba7b1683f6152b54839dd90430052f46ee77cde9690650438d680", func := "given.example/pub-enjambment/laws.FnSemanticTexts", spec := "fnSemanticTexts", inPlace := ["math.archMax", "math.Float64bits", "math.Float64frombits", "math.archMin"], unfollowed := true, recurses := true, named := ["unicode/utf8.first", "unicode/utf8.acceptRanges"], apart := false, laid := [("unicode/utf8.acceptRanges", laid_unicode_utf8_acceptRanges), ("unicode/utf8.first", laid_unicode_utf8_first)], narrowed := true }
def FnSemanticTextsUptoSaid : Prop := fnSemanticTextsUptoRow.holds Tryd.pinned (OpenSpec.upto fnSemanticTextsSpec)

/-- 'laws.FnDeltaGiven', WHERE WHAT IT READS IS OF BULK AT MOST 1048576: true; the input reads as it did. -/
def fnDeltaGivenUptoRow : OpenClaim := { program := "ytmfgccjcnnlehaadoor", sum := "79bb0ce9757ba7b1683f6152b54839dd90430052f46ee77cde9690650438d680", func := "given.example/pub-enjambment/laws.FnDeltaGiven", spec := "fnDeltaGiven", inPlace := ["internal/abi.NoEscape", "internal/bytealg.MakeNoZero"], unfollowed := true, recurses := true, named := ["net/url.table", "unicode/utf8.first", "unicode/utf8.acceptRanges", "strconv.ErrSyntax", "strconv.ErrRange", "internal/strconv.uint64pow10", "math/bits.deBruijn32tab", "math/bits.deBruijn64tab"], apart := false, laid := [("math/bits.deBruijn32tab", laid_math_bits_deBruijn32tab), ("math/bits.deBruijn64tab", laid_math_bits_deBruijn64tab), ("internal/strconv.uint64pow10", laid_internal_strconv_uint64pow10), ("unicode/utf8.acceptRanges", laid_unicode_utf8_acceptRanges), ("strconv.ErrRange", laid_strconv_ErrRange), ("strconv.ErrSyntax", laid_strconv_ErrSyntax), ("net/url.table", laid_net_url_table), ("unicode/utf8.first", laid_unicode_utf8_first)], narrowed := true }
def FnDeltaGivenUptoSaid : Prop := fnDeltaGivenUptoRow.holds Tryd.pinned (OpenSpec.upto fnDeltaGivenSpec)

/-- 'laws.FnDeltaWrong', WHERE WHAT IT READS IS OF BULK AT MOST 1048576: true; the input reads as it did. -/
def fnDeltaWrongUptoRow : OpenClaim := { program := "ytmfgccjcnnlehaadoor", sum := "79bb0ce9757ba7b1683f6152b54839dd90430052f46ee77cde9690650438d680", func := "given.example/pub-enjambment/laws.FnDeltaWrong", spec := "fnDeltaWrong", inPlace := ["internal/abi.NoEscape", "internal/bytealg.MakeNoZero"], unfollowed := true, recurses := true, named := ["net/url.table", "unicode/utf8.first", "unicode/utf8.acceptRanges", "strconv.ErrSyntax", "strconv.ErrRange", "internal/strconv.uint64pow10", "math/bits.deBruijn32tab", "math/bits.deBruijn64tab"], apart := false, laid := [("math/bits.deBruijn32tab", laid_math_bits_deBruijn32tab), ("math/bits.deBruijn64tab", laid_math_bits_deBruijn64tab), ("internal/strconv.uint64pow10", laid_internal_strconv_uint64pow10), ("unicode/utf8.acceptRanges", laid_unicode_utf8_acceptRanges), ("strconv.ErrRange", laid_strconv_ErrRange), ("strconv.ErrSyntax", laid_strconv_ErrSyntax), ("net/url.table", laid_net_url_table), ("unicode/utf8.first", laid_unicode_utf8_first)], narrowed := true }
def FnDeltaWrongUptoSaid : Prop := fnDeltaWrongUptoRow.holds Tryd.pinned (OpenSpec.upto fnDeltaWrongSpec)

end Rows
end Go.Proofs.YtmfgccjcnnlehaaDoor
