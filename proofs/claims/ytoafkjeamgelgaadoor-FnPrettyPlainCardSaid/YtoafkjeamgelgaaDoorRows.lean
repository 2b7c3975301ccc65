/-
  NARROWER THAN 'FOR EVERY INPUT', by the rows' own cells (each row's printed sentence says how): FnLastIndexOf: laid · FnScore: laid · FnTexts: laid · FnRunesBack: laid · FnPrettyHtml: laid · FnPrettyPlain: laid.
  DERIVED. THE GIVEN ROWS OF THIS SEAT. 6 by the template 'for every input the law returns true; each argument reads behind the call as it read before'; 0 by the template 'total and deterministic' (their statements: YtoafkjeamgelgaaDoorTotals.lean).
  GIVEN WITH THE SEED: the statements are not yours to turn. If you find one false, say at which input.
  Laid BY PROGRAM, IN A SANDBOX (cutbox-rows.mjs): the forced cells as the released guide's own fill.sh prints them over the translation 6ed85cceef9f8235… (all of the seat's roots in one cut). By AI agents, Wed Nov 11 2026. No macro, syntax, notation, axiom, sorry.
-/
import Derived.Test.YtoafkjeamgelgaaDoorChecked
import GoSem.PinnedTables
import GoSem.Claim
import GoSem.ClaimJoined
import GoSem.ClaimMapViews
import Derived.JoinedTies
import Derived.KernelRfl
namespace Go.Proofs.YtoafkjeamgelgaaDoor
/- THE CELL 'sum', in the pinned program and in every row, IS THE sha256 OF THE DUMP (.gsa) THAT YtoafkjeamgelgaaDoorProg.lean LOADS. Nothing in Lean hashes anything: it is a label: what it is worth is what the hold of that sum in a sandbox is worth. -/
noncomputable def Tryd.pinned : Pinned := { name := "ytoafkjeamgelgaadoor", sum := "6ed85cceef9f8235ff4d22ee986c7bb62ad6a438185752d69158c1f342329f31", checked := Tryd.checked }
namespace Rows
def none {H : Type} : Left H := { results := [], args := [] }

/- WHAT THE LISTED PACKAGE-LEVEL VARIABLES READ AS WHEN THE CALL BEGINS. Each datum BY PROGRAM (the guide's laid-datum.mjs) off the statement by which the dump's own 'gosem.cut.vars' lays the variable. In a bare row this is a premise. The card (YtoafkjeamgelgaaDoorCards.lean) ties it to the program's text. -/
def laid_unicode_utf8_acceptRanges {H : Type} : DataW H := .agg [.agg [.lit (.int .u8 128), .lit (.int .u8 191)], .agg [.lit (.int .u8 160), .lit (.int .u8 191)], .agg [.lit (.int .u8 128), .lit (.int .u8 159)], .agg [.lit (.int .u8 144), .lit (.int .u8 191)], .agg [.lit (.int .u8 128), .lit (.int .u8 143)], .agg [.lit (.int .u8 0), .lit (.int .u8 0)], .agg [.lit (.int .u8 0), .lit (.int .u8 0)], .agg [.lit (.int .u8 0), .lit (.int .u8 0)], .agg [.lit (.int .u8 0), .lit (.int .u8 0)], .agg [.lit (.int .u8 0), .lit (.int .u8 0)], .agg [.lit (.int .u8 0), .lit (.int .u8 0)], .agg [.lit (.int .u8 0), .lit (.int .u8 0)], .agg [.lit (.int .u8 0), .lit (.int .u8 0)], .agg [.lit (.int .u8 0), .lit (.int .u8 0)], .agg [.lit (.int .u8 0), .lit (.int .u8 0)], .agg [.lit (.int .u8 0), .lit (.int .u8 0)]]
/-- One of Go's own tables, pinned by name: the form's constant. -/
def laid_unicode_utf8_first : DataW Unit := Go.Pinned.utf8First
def laid_bytes_ErrTooLarge {H : Type} : DataW H := .iface "*errors.errorString" (.ptr (.agg [.lit (.string [98, 121, 116, 101, 115, 46, 66, 117, 102, 102, 101, 114, 58, 32, 116, 111, 111, 32, 108, 97, 114, 103, 101])]))

/-- 'laws.FnLastIndexOf': WHATEVER THE INPUT: true; the input reads as it did. -/
def fnLastIndexOfSpec : ChangeSpec := { name := "fnLastIndexOf", fn := fun _ => fun
  | [d1, d2, d3] => { results := [.lit (.bool true)], args := [d1, d2, d3] }
  | _ => none }
def fnLastIndexOfRow : OpenClaim := { program := "ytoafkjeamgelgaadoor", sum := "6ed85cceef9f8235ff4d22ee986c7bb62ad6a438185752d69158c1f342329f31", func := "given.example/pub-enjambment/laws.FnLastIndexOf", spec := "fnLastIndexOf", named := ["unicode/utf8.first", "unicode/utf8.acceptRanges"], apart := false, laid := [("unicode/utf8.acceptRanges", laid_unicode_utf8_acceptRanges), ("unicode/utf8.first", laid_unicode_utf8_first)] }
def FnLastIndexOfSaid : Prop := fnLastIndexOfRow.holds Tryd.pinned (OpenSpec.ofChange fnLastIndexOfSpec)

/-- ITS FALSE NEIGHBOUR: 'it returns false'. Refute it at one input. -/
def fnLastIndexOfWrong : ChangeSpec := { name := "fnLastIndexOf", fn := fun _ => fun
  | [d1, d2, d3] => { results := [.lit (.bool false)], args := [d1, d2, d3] }
  | _ => none }
def FnLastIndexOfWrongFalsely : Prop := fnLastIndexOfRow.holds Tryd.pinned (OpenSpec.ofChange fnLastIndexOfWrong)

/-- 'laws.FnScore': WHATEVER THE INPUT: true; the input reads as it did. -/
def fnScoreSpec : ChangeSpec := { name := "fnScore", fn := fun _ => fun
  | [d1, d2] => { results := [.lit (.bool true)], args := [d1, d2] }
  | _ => none }
def fnScoreRow : OpenClaim := { program := "ytoafkjeamgelgaadoor", sum := "6ed85cceef9f8235ff4d22ee986c7bb62ad6a438185752d69158c1f342329f31", func := "given.example/pub-enjambment/laws.FnScore", spec := "fnScore", named := ["unicode/utf8.first", "unicode/utf8.acceptRanges"], apart := false, laid := [("unicode/utf8.acceptRanges", laid_unicode_utf8_acceptRanges), ("unicode/utf8.first", laid_unicode_utf8_first)] }
def FnScoreSaid : Prop := fnScoreRow.holds Tryd.pinned (OpenSpec.ofChange fnScoreSpec)

/-- ITS FALSE NEIGHBOUR: 'it returns false'. Refute it at one input. -/
def fnScoreWrong : ChangeSpec := { name := "fnScore", fn := fun _ => fun
  | [d1, d2] => { results := [.lit (.bool false)], args := [d1, d2] }
  | _ => none }
def FnScoreWrongFalsely : Prop := fnScoreRow.holds Tryd.pinned (OpenSpec.ofChange fnScoreWrong)

/-- 'laws.FnTexts': WHATEVER THE INPUT: true; the input reads as it did. -/
def fnTextsSpec : ChangeSpec := { name := "fnTexts", fn := fun _ => fun
  | [d] => { results := [.lit (.bool true)], args := [d] }
  | _ => none }
def fnTextsRow : OpenClaim := { program := "ytoafkjeamgelgaadoor", sum := "6ed85cceef9f8235ff4d22ee986c7bb62ad6a438185752d69158c1f342329f31", func := "given.example/pub-enjambment/laws.FnTexts", spec := "fnTexts", named := ["bytes.ErrTooLarge"], apart := false, laid := [("bytes.ErrTooLarge", laid_bytes_ErrTooLarge)] }
def FnTextsSaid : Prop := fnTextsRow.holds Tryd.pinned (OpenSpec.ofChange fnTextsSpec)

/-- ITS FALSE NEIGHBOUR: 'it returns false'. Refute it at one input. -/
def fnTextsWrong : ChangeSpec := { name := "fnTexts", fn := fun _ => fun
  | [d] => { results := [.lit (.bool false)], args := [d] }
  | _ => none }
def FnTextsWrongFalsely : Prop := fnTextsRow.holds Tryd.pinned (OpenSpec.ofChange fnTextsWrong)

/-- 'laws.FnRunesBack': WHATEVER THE INPUT: true; the input reads as it did. -/
def fnRunesBackSpec : ChangeSpec := { name := "fnRunesBack", fn := fun _ => fun
  | [d] => { results := [.lit (.bool true)], args := [d] }
  | _ => none }
def fnRunesBackRow : OpenClaim := { program := "ytoafkjeamgelgaadoor", sum := "6ed85cceef9f8235ff4d22ee986c7bb62ad6a438185752d69158c1f342329f31", func := "given.example/pub-enjambment/laws.FnRunesBack", spec := "fnRunesBack", unfollowed := true, recurses := true, named := ["unicode/utf8.first", "unicode/utf8.acceptRanges"], apart := false, laid := [("unicode/utf8.acceptRanges", laid_unicode_utf8_acceptRanges), ("unicode/utf8.first", laid_unicode_utf8_first)] }
def FnRunesBackSaid : Prop := fnRunesBackRow.holds Tryd.pinned (OpenSpec.ofChange fnRunesBackSpec)

/-- ITS FALSE NEIGHBOUR: 'it returns false'. Refute it at one input. -/
def fnRunesBackWrong : ChangeSpec := { name := "fnRunesBack", fn := fun _ => fun
  | [d] => { results := [.lit (.bool false)], args := [d] }
  | _ => none }
def FnRunesBackWrongFalsely : Prop := fnRunesBackRow.holds Tryd.pinned (OpenSpec.ofChange fnRunesBackWrong)

/-- 'laws.FnPrettyHtml': WHATEVER THE INPUT: true; the input reads as it did. -/
def fnPrettyHtmlSpec : ChangeSpec := { name := "fnPrettyHtml", fn := fun _ => fun
  | [d] => { results := [.lit (.bool true)], args := [d] }
  | _ => none }
def fnPrettyHtmlRow : OpenClaim := { program := "ytoafkjeamgelgaadoor", sum := "6ed85cceef9f8235ff4d22ee986c7bb62ad6a438185752d69158c1f342329f31", func := "given.example/pub-enjambment/laws.FnPrettyHtml", spec := "fnPrettyHtml", named := ["bytes.ErrTooLarge"], apart := false, laid := [("bytes.ErrTooLarge", laid_bytes_ErrTooLarge)] }
def FnPrettyHtmlSaid : Prop := fnPrettyHtmlRow.holds Tryd.pinned (OpenSpec.ofChange fnPrettyHtmlSpec)

/-- ITS FALSE NEIGHBOUR: 'it returns false'. Refute it at one input. -/
def fnPrettyHtmlWrong : ChangeSpec := { name := "fnPrettyHtml", fn := fun _ => fun
  | [d] => { results := [.lit (.bool false)], args := [d] }
  | _ => none }
def FnPrettyHtmlWrongFalsely : Prop := fnPrettyHtmlRow.holds Tryd.pinned (OpenSpec.ofChange fnPrettyHtmlWrong)

/-- 'laws.FnPrettyPlain': WHATEVER THE INPUT: true; the input reads as it did. -/
def fnPrettyPlainSpec : ChangeSpec := { name := "fnPrettyPlain", fn := fun _ => fun
  | [d] => { results := [.lit (.bool true)], args := [d] }
  | _ => none }
def fnPrettyPlainRow : OpenClaim := { program := "ytoafkjeamgelgaadoor", sum := "6ed85cceef9f8235ff4d22ee986c7bb62ad6a438185752d69158c1f342329f31", func := "given.example/pub-enjambment/laws.FnPrettyPlain", spec := "fnPrettyPlain", named := ["bytes.ErrTooLarge"], apart := false, laid := [("bytes.ErrTooLarge", laid_bytes_ErrTooLarge)] }
def FnPrettyPlainSaid : Prop := fnPrettyPlainRow.holds Tryd.pinned (OpenSpec.ofChange fnPrettyPlainSpec)

/-- ITS FALSE NEIGHBOUR: 'it returns false'. Refute it at one input. -/
def fnPrettyPlainWrong : ChangeSpec := { name := "fnPrettyPlain", fn := fun _ => fun
  | [d] => { results := [.lit (.bool false)], args := [d] }
  | _ => none }
def FnPrettyPlainWrongFalsely : Prop := fnPrettyPlainRow.holds Tryd.pinned (OpenSpec.ofChange fnPrettyPlainWrong)

/- THE SECOND FORM. 'bulk': how many values and letters a reading holds, each counted each time it is reached (what is shared counts as often as it is met; a slice's spare places count too). A statement '..UptoSaid' is the law's where the arguments, and the package variables that the reading takes, are together of bulk at most 1048576: NARROWER than '..Said'. Prove '..Said' where nothing that the law and all that it calls make is longer than what came in: it says more and counts as full. Else prove '..UptoSaid'. A law counts once. -/
mutual
def uptoBulk {H : Type} : DataW H → Nat
  | .lit (.string bytes) => bytes.length + 1
  | .lit _ => 1
  | .nil => 1
  | .ptr d => uptoBulk d + 1
  | .slice elems spare => uptoBulkAll elems + uptoBulkAll spare + 1
  | .agg parts => uptoBulkAll parts + 1
  | .iface _ d => uptoBulk d + 1
  | .map entries => uptoBulkEntries entries + 1
  | .held _ => 1
def uptoBulkAll {H : Type} : List (DataW H) → Nat
  | [] => 0
  | d :: r => uptoBulk d + uptoBulkAll r
def uptoBulkEntries {H : Type} : List (Lit × DataW H) → Nat
  | [] => 0
  | x :: r => uptoBulkEntry x + uptoBulkEntries r
def uptoBulkEntry {H : Type} : Lit × DataW H → Nat
  | (.string bytes, d) => bytes.length + uptoBulk d + 1
  | (_, d) => uptoBulk d + 1
 end
def uptoSmall : (H : Type) → List (DataW H) → Bool := fun _ ds => decide (uptoBulkAll ds ≤ 1048576)
def OpenSpec.upto (s : _root_.Go.ChangeSpec) : _root_.Go.OpenSpec := { _root_.Go.OpenSpec.ofChange s with cond := some uptoSmall }

/-- 'laws.FnLastIndexOf', WHERE WHAT IT READS IS OF BULK AT MOST 1048576: true; the input reads as it did. -/
def fnLastIndexOfUptoRow : OpenClaim := { program := "ytoafkjeamgelgaadoor", sum := "6ed85cceef9f8235ff4d22ee986c7bb62ad6a438185752d69158c1f342329f31", func := "given.example/pub-enjambment/laws.FnLastIndexOf", spec := "fnLastIndexOf", named := ["unicode/utf8.first", "unicode/utf8.acceptRanges"], apart := false, laid := [("unicode/utf8.acceptRanges", laid_unicode_utf8_acceptRanges), ("unicode/utf8.first", laid_unicode_utf8_first)], narrowed := true }
def FnLastIndexOfUptoSaid : Prop := fnLastIndexOfUptoRow.holds Tryd.pinned (OpenSpec.upto fnLastIndexOfSpec)

/-- 'laws.FnScore', WHERE WHAT IT READS IS OF BULK AT MOST 1048576: true; the input reads as it did. -/
def fnScoreUptoRow : OpenClaim := { program := "ytoafkjeamgelgaadoor", sum := "6ed85cceef9f8235ff4d22ee986c7bb62ad6a438185752d69158c1f342329f31", func := "given.example/pub-enjambment/laws.FnScore", spec := "fnScore", named := ["unicode/utf8.first", "unicode/utf8.acceptRanges"], apart := false, laid := [("unicode/utf8.acceptRanges", laid_unicode_utf8_acceptRanges), ("unicode/utf8.first", laid_unicode_utf8_first)], narrowed := true }
def FnScoreUptoSaid : Prop := fnScoreUptoRow.holds Tryd.pinned (OpenSpec.upto fnScoreSpec)

/-- 'laws.FnTexts', WHERE WHAT IT READS IS OF BULK AT MOST 1048576: true; the input reads as it did. -/
def fnTextsUptoRow : OpenClaim := { program := "ytoafkjeamgelgaadoor", sum := "6ed85cceef9f8235ff4d22ee986c7bb62ad6a438185752d69158c1f342329f31", func := "given.example/pub-enjambment/laws.FnTexts", spec := "fnTexts", named := ["bytes.ErrTooLarge"], apart := false, laid := [("bytes.ErrTooLarge", laid_bytes_ErrTooLarge)], narrowed := true }
def FnTextsUptoSaid : Prop := fnTextsUptoRow.holds Tryd.pinned (OpenSpec.upto fnTextsSpec)

/-- 'laws.FnRunesBack', WHERE WHAT IT READS IS OF BULK AT MOST 1048576: true; the input reads as it did. -/
def fnRunesBackUptoRow : OpenClaim := { program := "ytoafkjeamgelgaadoor", sum := "6ed85cceef9f8235ff4d22ee986c7bb62ad6a438185752d69158c1f342329f31", func := "given.example/pub-enjambment/laws.FnRunesBack", spec := "fnRunesBack", unfollowed := true, recurses := true, named := ["unicode/utf8.first", "unicode/utf8.acceptRanges"], apart := false, laid := [("unicode/utf8.acceptRanges", laid_unicode_utf8_acceptRanges), ("unicode/utf8.first", laid_unicode_utf8_first)], narrowed := true }
def FnRunesBackUptoSaid : Prop := fnRunesBackUptoRow.holds Tryd.pinned (OpenSpec.upto fnRunesBackSpec)

/-- 'laws.FnPrettyHtml', WHERE WHAT IT READS IS OF BULK AT MOST 1048576: true; the input reads as it did. -/
def fnPrettyHtmlUptoRow : OpenClaim := { program := "ytoafkjeamgelgaadoor", sum := "6ed85cceef9f8235ff4d22ee986c7bb62ad6a438185752d69158c1f342329f31", func := "given.example/pub-enjambment/laws.FnPrettyHtml", spec := "fnPrettyHtml", named := ["bytes.ErrTooLarge"], apart := false, laid := [("bytes.ErrTooLarge", laid_bytes_ErrTooLarge)], narrowed := true }
def FnPrettyHtmlUptoSaid : Prop := fnPrettyHtmlUptoRow.holds Tryd.pinned (OpenSpec.upto fnPrettyHtmlSpec)

/-- 'laws.FnPrettyPlain', WHERE WHAT IT READS IS OF BULK AT MOST 1048576: true; the input reads as it did. -/
def fnPrettyPlainUptoRow : OpenClaim := { program := "ytoafkjeamgelgaadoor", sum := "6ed85cceef9f8235ff4d22ee986c7bb62ad6a438185752d69158c1f342329f31", func := "given.example/pub-enjambment/laws.FnPrettyPlain", spec := "fnPrettyPlain", named := ["bytes.ErrTooLarge"], apart := false, laid := [("bytes.ErrTooLarge", laid_bytes_ErrTooLarge)], narrowed := true }
def FnPrettyPlainUptoSaid : Prop := fnPrettyPlainUptoRow.holds Tryd.pinned (OpenSpec.upto fnPrettyPlainSpec)

end Rows
end Go.Proofs.YtoafkjeamgelgaaDoor
