/-
  NARROWER THAN 'FOR EVERY INPUT', by the rows' own cells (each row's printed sentence says how): FnEfficiencyExact: laid · FnPatchFits: laid · FnPatchWays: laid · FnPatchPadded: laid · FnPatchShort: laid · FnPatchNone: laid.
  DERIVED. THE GIVEN ROWS OF THIS SEAT. 6 by the template 'for every input the law returns true; each argument reads behind the call as it read before'; 0 by the template 'total and deterministic' (their statements: YtopcfcpbcilfaaaGreatDoorTotals.lean).
  GIVEN WITH THE SEED: the statements are not yours to turn. If you find one false, say at which input.
  Laid BY PROGRAM, IN A SANDBOX (cutbox-rows.mjs): the forced cells as the released guide's own fill.sh prints them over the translation 111bf217238674e9… (all of the seat's roots in one cut). By AI agents, Wed Nov 11 2026. No macro, syntax, notation, axiom, sorry.
-/
import Derived.Test.YtopcfcpbcilfaaaGreatDoorChecked
import GoSem.PinnedTables
import GoSem.Claim
import GoSem.ClaimJoined
import GoSem.ClaimMapViews
import Derived.JoinedTies
import Derived.KernelRfl
namespace Go.Proofs.YtopcfcpbcilfaaaGreatDoor
/- THE CELL 'sum', in the pinned program and in every row, IS THE sha256 OF THE DUMP (.gsa) THAT YtopcfcpbcilfaaaGreatDoorProg.lean LOADS. Nothing in Lean hashes anything: it is a label: what it is worth is what the hold of that sum in a sandbox is worth. -/
noncomputable def Tryz.pinned : Pinned := { name := "ytopcfcpbcilfaaagreatdoor", sum := "111bf217238674e9c1b4c7496f9f941d4144b64681b73aaec14256dec27571bc", checked := Tryz.checked }
namespace Rows
def none {H : Type} : Left H := { results := [], args := [] }

/- WHAT THE LISTED PACKAGE-LEVEL VARIABLES READ AS WHEN THE CALL BEGINS. Each datum BY PROGRAM (the guide's laid-datum.mjs) off the statement by which the dump's own 'gosem.cut.vars' lays the variable. In a bare row this is a premise. The card (YtopcfcpbcilfaaaGreatDoorCards.lean) ties it to the program's text. -/
def laid_unicode_utf8_acceptRanges {H : Type} : DataW H := .agg [.agg [.lit (.int .u8 128), .lit (.int .u8 191)], .agg [.lit (.int .u8 160), .lit (.int .u8 191)], .agg [.lit (.int .u8 128), .lit (.int .u8 159)], .agg [.lit (.int .u8 144), .lit (.int .u8 191)], .agg [.lit (.int .u8 128), .lit (.int .u8 143)], .agg [.lit (.int .u8 0), .lit (.int .u8 0)], .agg [.lit (.int .u8 0), .lit (.int .u8 0)], .agg [.lit (.int .u8 0), .lit (.int .u8 0)], .agg [.lit (.int .u8 0), .lit (.int .u8 0)], .agg [.lit (.int .u8 0), .lit (.int .u8 0)], .agg [.lit (.int .u8 0), .lit (.int .u8 0)], .agg [.lit (.int .u8 0), .lit (.int .u8 0)], .agg [.lit (.int .u8 0), .lit (.int .u8 0)], .agg [.lit (.int .u8 0), .lit (.int .u8 0)], .agg [.lit (.int .u8 0), .lit (.int .u8 0)], .agg [.lit (.int .u8 0), .lit (.int .u8 0)]]
/-- One of Go's own tables, pinned by name: the form's constant. -/
def laid_unicode_utf8_first : DataW Unit := Go.Pinned.utf8First
def laid_bytes_ErrTooLarge {H : Type} : DataW H := .iface "*errors.errorString" (.ptr (.agg [.lit (.string [98, 121, 116, 101, 115, 46, 66, 117, 102, 102, 101, 114, 58, 32, 116, 111, 111, 32, 108, 97, 114, 103, 101])]))

/-- 'laws.FnEfficiencyExact': WHATEVER THE INPUT: true; the input reads as it did. -/
def fnEfficiencyExactSpec : ChangeSpec := { name := "fnEfficiencyExact", fn := fun _ => fun
  | [d1, d2, d3] => { results := [.lit (.bool true)], args := [d1, d2, d3] }
  | _ => none }
def fnEfficiencyExactRow : OpenClaim := { program := "ytopcfcpbcilfaaagreatdoor", sum := "111bf217238674e9c1b4c7496f9f941d4144b64681b73aaec14256dec27571bc", func := "given.example/pub-enjambment/laws.FnEfficiencyExact", spec := "fnEfficiencyExact", inPlace := ["internal/abi.NoEscape", "internal/bytealg.MakeNoZero", "math.archMax", "math.Float64bits", "math.Float64frombits", "math.archMin"], unfollowed := true, recurses := true, named := ["unicode/utf8.first", "unicode/utf8.acceptRanges"], apart := false, laid := [("unicode/utf8.acceptRanges", laid_unicode_utf8_acceptRanges), ("unicode/utf8.first", laid_unicode_utf8_first)] }
def FnEfficiencyExactSaid : Prop := fnEfficiencyExactRow.holds Tryz.pinned (OpenSpec.ofChange fnEfficiencyExactSpec)

/-- ITS FALSE NEIGHBOUR: 'it returns false'. Refute it at one input. -/
def fnEfficiencyExactWrong : ChangeSpec := { name := "fnEfficiencyExact", fn := fun _ => fun
  | [d1, d2, d3] => { results := [.lit (.bool false)], args := [d1, d2, d3] }
  | _ => none }
def FnEfficiencyExactWrongFalsely : Prop := fnEfficiencyExactRow.holds Tryz.pinned (OpenSpec.ofChange fnEfficiencyExactWrong)

/-- 'laws.FnPatchFits': WHATEVER THE INPUT: true; the input reads as it did. -/
def fnPatchFitsSpec : ChangeSpec := { name := "fnPatchFits", fn := fun _ => fun
  | [d1, d2] => { results := [.lit (.bool true)], args := [d1, d2] }
  | _ => none }
def fnPatchFitsRow : OpenClaim := { program := "ytopcfcpbcilfaaagreatdoor", sum := "111bf217238674e9c1b4c7496f9f941d4144b64681b73aaec14256dec27571bc", func := "given.example/pub-enjambment/laws.FnPatchFits", spec := "fnPatchFits", inPlace := ["internal/abi.NoEscape", "internal/bytealg.MakeNoZero", "math.archMax", "math.Float64bits", "math.Float64frombits", "math.archMin"], unfollowed := true, recurses := true, named := ["bytes.ErrTooLarge", "unicode/utf8.first", "unicode/utf8.acceptRanges"], apart := false, laid := [("unicode/utf8.acceptRanges", laid_unicode_utf8_acceptRanges), ("bytes.ErrTooLarge", laid_bytes_ErrTooLarge), ("unicode/utf8.first", laid_unicode_utf8_first)] }
def FnPatchFitsSaid : Prop := fnPatchFitsRow.holds Tryz.pinned (OpenSpec.ofChange fnPatchFitsSpec)

/-- ITS FALSE NEIGHBOUR: 'it returns false'. Refute it at one input. -/
def fnPatchFitsWrong : ChangeSpec := { name := "fnPatchFits", fn := fun _ => fun
  | [d1, d2] => { results := [.lit (.bool false)], args := [d1, d2] }
  | _ => none }
def FnPatchFitsWrongFalsely : Prop := fnPatchFitsRow.holds Tryz.pinned (OpenSpec.ofChange fnPatchFitsWrong)

/-- 'laws.FnPatchWays': WHATEVER THE INPUT: true; the input reads as it did. -/
def fnPatchWaysSpec : ChangeSpec := { name := "fnPatchWays", fn := fun _ => fun
  | [d1, d2] => { results := [.lit (.bool true)], args := [d1, d2] }
  | _ => none }
def fnPatchWaysRow : OpenClaim := { program := "ytopcfcpbcilfaaagreatdoor", sum := "111bf217238674e9c1b4c7496f9f941d4144b64681b73aaec14256dec27571bc", func := "given.example/pub-enjambment/laws.FnPatchWays", spec := "fnPatchWays", inPlace := ["internal/abi.NoEscape", "internal/bytealg.MakeNoZero", "math.archMax", "math.Float64bits", "math.Float64frombits", "math.archMin"], unfollowed := true, recurses := true, named := ["bytes.ErrTooLarge", "unicode/utf8.first", "unicode/utf8.acceptRanges"], apart := false, laid := [("unicode/utf8.acceptRanges", laid_unicode_utf8_acceptRanges), ("bytes.ErrTooLarge", laid_bytes_ErrTooLarge), ("unicode/utf8.first", laid_unicode_utf8_first)] }
def FnPatchWaysSaid : Prop := fnPatchWaysRow.holds Tryz.pinned (OpenSpec.ofChange fnPatchWaysSpec)

/-- ITS FALSE NEIGHBOUR: 'it returns false'. Refute it at one input. -/
def fnPatchWaysWrong : ChangeSpec := { name := "fnPatchWays", fn := fun _ => fun
  | [d1, d2] => { results := [.lit (.bool false)], args := [d1, d2] }
  | _ => none }
def FnPatchWaysWrongFalsely : Prop := fnPatchWaysRow.holds Tryz.pinned (OpenSpec.ofChange fnPatchWaysWrong)

/-- 'laws.FnPatchPadded': WHATEVER THE INPUT: true; the input reads as it did. -/
def fnPatchPaddedSpec : ChangeSpec := { name := "fnPatchPadded", fn := fun _ => fun
  | [d1, d2] => { results := [.lit (.bool true)], args := [d1, d2] }
  | _ => none }
def fnPatchPaddedRow : OpenClaim := { program := "ytopcfcpbcilfaaagreatdoor", sum := "111bf217238674e9c1b4c7496f9f941d4144b64681b73aaec14256dec27571bc", func := "given.example/pub-enjambment/laws.FnPatchPadded", spec := "fnPatchPadded", inPlace := ["internal/abi.NoEscape", "internal/bytealg.MakeNoZero", "math.archMax", "math.Float64bits", "math.Float64frombits", "math.archMin"], unfollowed := true, recurses := true, named := ["bytes.ErrTooLarge", "unicode/utf8.first", "unicode/utf8.acceptRanges"], apart := false, laid := [("unicode/utf8.acceptRanges", laid_unicode_utf8_acceptRanges), ("bytes.ErrTooLarge", laid_bytes_ErrTooLarge), ("unicode/utf8.first", laid_unicode_utf8_first)] }
def FnPatchPaddedSaid : Prop := fnPatchPaddedRow.holds Tryz.pinned (OpenSpec.ofChange fnPatchPaddedSpec)

/-- ITS FALSE NEIGHBOUR: 'it returns false'. Refute it at one input. -/
def fnPatchPaddedWrong : ChangeSpec := { name := "fnPatchPadded", fn := fun _ => fun
  | [d1, d2] => { results := [.lit (.bool false)], args := [d1, d2] }
  | _ => none }
def FnPatchPaddedWrongFalsely : Prop := fnPatchPaddedRow.holds Tryz.pinned (OpenSpec.ofChange fnPatchPaddedWrong)

/-- 'laws.FnPatchShort': WHATEVER THE INPUT: true; the input reads as it did. -/
def fnPatchShortSpec : ChangeSpec := { name := "fnPatchShort", fn := fun _ => fun
  | [d1, d2] => { results := [.lit (.bool true)], args := [d1, d2] }
  | _ => none }
def fnPatchShortRow : OpenClaim := { program := "ytopcfcpbcilfaaagreatdoor", sum := "111bf217238674e9c1b4c7496f9f941d4144b64681b73aaec14256dec27571bc", func := "given.example/pub-enjambment/laws.FnPatchShort", spec := "fnPatchShort", inPlace := ["internal/abi.NoEscape", "internal/bytealg.MakeNoZero", "math.archMax", "math.Float64bits", "math.Float64frombits", "math.archMin"], unfollowed := true, recurses := true, named := ["bytes.ErrTooLarge", "unicode/utf8.first", "unicode/utf8.acceptRanges"], apart := false, laid := [("unicode/utf8.acceptRanges", laid_unicode_utf8_acceptRanges), ("bytes.ErrTooLarge", laid_bytes_ErrTooLarge), ("unicode/utf8.first", laid_unicode_utf8_first)] }
def FnPatchShortSaid : Prop := fnPatchShortRow.holds Tryz.pinned (OpenSpec.ofChange fnPatchShortSpec)

/-- ITS FALSE NEIGHBOUR: 'it returns false'. Refute it at one input. -/
def fnPatchShortWrong : ChangeSpec := { name := "fnPatchShort", fn := fun _ => fun
  | [d1, d2] => { results := [.lit (.bool false)], args := [d1, d2] }
  | _ => none }
def FnPatchShortWrongFalsely : Prop := fnPatchShortRow.holds Tryz.pinned (OpenSpec.ofChange fnPatchShortWrong)

/-- 'laws.FnPatchNone': WHATEVER THE INPUT: true; the input reads as it did. -/
def fnPatchNoneSpec : ChangeSpec := { name := "fnPatchNone", fn := fun _ => fun
  | [d1, d2] => { results := [.lit (.bool true)], args := [d1, d2] }
  | _ => none }
def fnPatchNoneRow : OpenClaim := { program := "ytopcfcpbcilfaaagreatdoor", sum := "111bf217238674e9c1b4c7496f9f941d4144b64681b73aaec14256dec27571bc", func := "given.example/pub-enjambment/laws.FnPatchNone", spec := "fnPatchNone", inPlace := ["math.archMin", "math.Float64bits", "math.Float64frombits", "math.archMax", "internal/abi.NoEscape", "internal/bytealg.MakeNoZero"], unfollowed := true, recurses := true, named := ["bytes.ErrTooLarge", "unicode/utf8.first", "unicode/utf8.acceptRanges"], apart := false, laid := [("unicode/utf8.acceptRanges", laid_unicode_utf8_acceptRanges), ("bytes.ErrTooLarge", laid_bytes_ErrTooLarge), ("unicode/utf8.first", laid_unicode_utf8_first)] }
def FnPatchNoneSaid : Prop := fnPatchNoneRow.holds Tryz.pinned (OpenSpec.ofChange fnPatchNoneSpec)

/-- ITS FALSE NEIGHBOUR: 'it returns false'. Refute it at one input. -/
def fnPatchNoneWrong : ChangeSpec := { name := "fnPatchNone", fn := fun _ => fun
  | [d1, d2] => { results := [.lit (.bool false)], args := [d1, d2] }
  | _ => none }
def FnPatchNoneWrongFalsely : Prop := fnPatchNoneRow.holds Tryz.pinned (OpenSpec.ofChange fnPatchNoneWrong)

/- THE SECOND FORM. 'bulk': how many values and letters a reading holds, each counted each time it is reached (what is shared counts as often as it is met; a slice's spare places count too). A statement '..UptoSaid' is the law's where the arguments, and the package variables that the reading takes, are together of bulk at most 1048576: NARROWER than '..Said'. Prove '..Said' where nothing that the law and all that it calls make is longer than what came in: it says more and counts as full. Else prove '..UptoSaid'. A law counts once. -/
mutual
def uptoBulk {H : Type} : DataW H → Nat
  | .lit (.string bytes) => bytes.length + 1
  | .lit _ => 1
  | .nil => 1
  | .ptr d => uptoBulk d + 1
  | .slice elems spare => uptoBulkAll elems + uptoBulkAll spare + 1
  | .agg parts => uptoBulkAll parts + 1
  | .iface _ d => uptoBulk d + 1
  | .map entries => uptoBulkEntries entries + 1
  | .held _ => 1
def uptoBulkAll {H : Type} : List (DataW H) → Nat
  | [] => 0
  | d :: r => uptoBulk d + uptoBulkAll r
def uptoBulkEntries {H : Type} : List (Lit × DataW H) → Nat
  | [] => 0
  | x :: r => uptoBulkEntry x + uptoBulkEntries r
def uptoBulkEntry {H : Type} : Lit × DataW H → Nat
  | (.string bytes, d) => bytes.length + uptoBulk d + 1
  | (_, d) => uptoBulk d + 1
 end
def uptoSmall : (H : Type) → List (DataW H) → Bool := fun _ ds => decide (uptoBulkAll ds ≤ 1048576)
def OpenSpec.upto (s : _root_.Go.ChangeSpec) : _root_.Go.OpenSpec := { _root_.Go.OpenSpec.ofChange s with cond := some uptoSmall }

/-- 'laws.FnEfficiencyExact', WHERE WHAT IT READS IS OF BULK AT MOST 1048576: true; the input reads as it did. -/
def fnEfficiencyExactUptoRow : OpenClaim := { program := "ytopcfcpbcilfaaagreatdoor", sum := "111bf217238674e9c1b4c7496f9f941d4144b64681b73aaec14256dec27571bc", func := "given.example/pub-enjambment/laws.FnEfficiencyExact", spec := "fnEfficiencyExact", inPlace := ["internal/abi.NoEscape", "internal/bytealg.MakeNoZero", "math.archMax", "math.Float64bits", "math.Float64frombits", "math.archMin"], unfollowed := true, recurses := true, named := ["unicode/utf8.first", "unicode/utf8.acceptRanges"], apart := false, laid := [("unicode/utf8.acceptRanges", laid_unicode_utf8_acceptRanges), ("unicode/utf8.first", laid_unicode_utf8_first)], narrowed := true }
def FnEfficiencyExactUptoSaid : Prop := fnEfficiencyExactUptoRow.holds Tryz.pinned (OpenSpec.upto fnEfficiencyExactSpec)

/-- 'laws.FnPatchFits', WHERE WHAT IT READS IS OF BULK AT MOST 1048576: true; the input reads as it did. -/
def fnPatchFitsUptoRow : OpenClaim := { program := "ytopcfcpbcilfaaagreatdoor", sum := "111bf217238674e9c1b4c7496f9f941d4144b64681b73aaec14256dec27571bc", func := "given.example/pub-enjambment/laws.FnPatchFits", spec := "fnPatchFits", inPlace := ["internal/abi.NoEscape", "internal/bytealg.MakeNoZero", "math.archMax", "math.Float64bits", "math.Float64frombits", "math.archMin"], unfollowed := true, recurses := true, named := ["bytes.ErrTooLarge", "unicode/utf8.first", "unicode/utf8.acceptRanges"], apart := false, laid := [("unicode/utf8.acceptRanges", laid_unicode_utf8_acceptRanges), ("bytes.ErrTooLarge", laid_bytes_ErrTooLarge), ("unicode/utf8.first", laid_unicode_utf8_first)], narrowed := true }
def FnPatchFitsUptoSaid : Prop := fnPatchFitsUptoRow.holds Tryz.pinned (OpenSpec.upto fnPatchFitsSpec)

/-- 'laws.FnPatchWays', WHERE WHAT IT READS IS OF BULK AT MOST 1048576: true; the input reads as it did. -/
def fnPatchWaysUptoRow : OpenClaim := { program := "ytopcfcpbcilfaaagreatdoor", sum := "111bf217238674e9c1b4c7496f9f941d4144b64681b73aaec14256dec27571bc", func := "given.example/pub-enjambment/laws.FnPatchWays", spec := "fnPatchWays", inPlace := ["internal/abi.NoEscape", "internal/bytealg.MakeNoZero", "math.archMax", "math.Float64bits", "math.Float64frombits", "math.archMin"], unfollowed := true, recurses := true, named := ["bytes.ErrTooLarge", "unicode/utf8.first", "unicode/utf8.acceptRanges"], apart := false, laid := [("unicode/utf8.acceptRanges", laid_unicode_utf8_acceptRanges), ("bytes.ErrTooLarge", laid_bytes_ErrTooLarge), ("unicode/utf8.first", laid_unicode_utf8_first)], narrowed := true }
def FnPatchWaysUptoSaid : Prop := fnPatchWaysUptoRow.holds Tryz.pinned (OpenSpec.upto fnPatchWaysSpec)

/-- 'laws.FnPatchPadded', WHERE WHAT IT READS IS OF BULK AT MOST 1048576: true; the input reads as it did. -/
def fnPatchPaddedUptoRow : OpenClaim := { program := "ytopcfcpbcilfaaagreatdoor", sum := "111bf217238674e9c1b4c7496f9f941d4144b64681b73aaec14256dec27571bc", func := "given.example/pub-enjambment/laws.FnPatchPadded", spec := "fnPatchPadded", inPlace := ["internal/abi.NoEscape", "internal/bytealg.MakeNoZero", "math.archMax", "math.Float64bits", "math.Float64frombits", "math.archMin"], unfollowed := true, recurses := true, named := ["bytes.ErrTooLarge", "unicode/utf8.first", "unicode/utf8.acceptRanges"], apart := false, laid := [("unicode/utf8.acceptRanges", laid_unicode_utf8_acceptRanges), ("bytes.ErrTooLarge", laid_bytes_ErrTooLarge), ("unicode/utf8.first", laid_unicode_utf8_first)], narrowed := true }
def FnPatchPaddedUptoSaid : Prop := fnPatchPaddedUptoRow.holds Tryz.pinned (OpenSpec.upto fnPatchPaddedSpec)

/-- 'laws.FnPatchShort', WHERE WHAT IT READS IS OF BULK AT MOST 1048576: true; the input reads as it did. -/
def fnPatchShortUptoRow : OpenClaim := { program := "ytopcfcpbcilfaaagreatdoor", sum := "111bf217238674e9c1b4c7496f9f941d4144b64681b73aaec14256dec27571bc", func := "given.example/pub-enjambment/laws.FnPatchShort", spec := "fnPatchShort", inPlace := ["internal/abi.NoEscape", "internal/bytealg.MakeNoZero", "math.archMax", "math.Float64bits", "math.Float64frombits", "math.archMin"], unfollowed := true, recurses := true, named := ["bytes.ErrTooLarge", "unicode/utf8.first", "unicode/utf8.acceptRanges"], apart := false, laid := [("unicode/utf8.acceptRanges", laid_unicode_utf8_acceptRanges), ("bytes.ErrTooLarge", laid_bytes_ErrTooLarge), ("unicode/utf8.first", laid_unicode_utf8_first)], narrowed := true }
def FnPatchShortUptoSaid : Prop := fnPatchShortUptoRow.holds Tryz.pinned (OpenSpec.upto fnPatchShortSpec)

/-- 'laws.FnPatchNone', WHERE WHAT IT READS IS OF BULK AT MOST 1048576: true; the input reads as it did. -/
def fnPatchNoneUptoRow : OpenClaim := { program := "ytopcfcpbcilfaaagreatdoor", sum := "111bf217238674e9c1b4c7496f9f941d4144b64681b73aaec14256dec27571bc", func := "given.example/pub-enjambment/laws.FnPatchNone", spec := "fnPatchNone", inPlace := ["math.archMin", "math.Float64bits", "math.Float64frombits", "math.archMax", "internal/abi.NoEscape", "internal/bytealg.MakeNoZero"], unfollowed := true, recurses := true, named := ["bytes.ErrTooLarge", "unicode/utf8.first", "unicode/utf8.acceptRanges"], apart := false, laid := [("unicode/utf8.acceptRanges", laid_unicode_utf8_acceptRanges), ("bytes.ErrTooLarge", laid_bytes_ErrTooLarge), ("unicode/utf8.first", laid_unicode_utf8_first)], narrowed := true }
def FnPatchNoneUptoSaid : Prop := fnPatchNoneUptoRow.holds Tryz.pinned (OpenSpec.upto fnPatchNoneSpec)

end Rows
end Go.Proofs.YtopcfcpbcilfaaaGreatDoor
