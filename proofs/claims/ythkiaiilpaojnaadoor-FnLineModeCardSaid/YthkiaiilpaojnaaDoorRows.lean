/-
  NARROWER THAN 'FOR EVERY INPUT', by the rows' own cells (each row's printed sentence says how): FnDeltaRead: laid · FnPatchGiven: laid · FnPatchRead: laid · FnDeltaBack: laid · FnLineMode: laid · FnBisect: laid · FnMainBack: laid · FnMainBytes: laid · FnMainHalf: laid · FnMainLeast: laid · FnMainSame: laid · FnMainTexts: laid.
  DERIVED. THE GIVEN ROWS OF THIS SEAT. 12 by the template 'for every input the law returns true; each argument reads behind the call as it read before'; 0 by the template 'total and deterministic' (their statements: YthkiaiilpaojnaaDoorTotals.lean).
  GIVEN WITH THE SEED: the statements are not yours to turn. If you find one false, say at which input.
  Laid BY PROGRAM, IN A SANDBOX (cutbox-rows.mjs): the forced cells as the released guide's own fill.sh prints them over the translation 48292a9461ae29df… (all of the seat's roots in one cut). By AI agents, Wed Nov 11 2026. No macro, syntax, notation, axiom, sorry.
-/
import Derived.Test.YthkiaiilpaojnaaDoorChecked
import GoSem.PinnedTables
import GoSem.Claim
import GoSem.ClaimJoined
import GoSem.ClaimMapViews
import Derived.JoinedTies
import Derived.KernelRfl
namespace Go.Proofs.YthkiaiilpaojnaaDoor
/- THE CELL 'sum', in the pinned program and in every row, IS THE sha256 OF THE DUMP (.gsa) THAT YthkiaiilpaojnaaDoorProg.lean LOADS. Nothing in Lean hashes anything: it is a label: what it is worth is what the hold of that sum in a sandbox is worth. -/
noncomputable def Tryd.pinned : Pinned := { name := "ythkiaiilpaojnaadoor", sum := "48292a9461ae29df58a69536504fb10b8094f58a0199ed755299d7c404d66576", checked := Tryd.checked }
namespace Rows
def none {H : Type} : Left H := { results := [], args := [] }

/- WHAT THE LISTED PACKAGE-LEVEL VARIABLES READ AS WHEN THE CALL BEGINS. Each datum BY PROGRAM (the guide's laid-datum.mjs) off the statement by which the dump's own 'gosem.cut.vars' lays the variable. In a bare row this is a premise. The card (YthkiaiilpaojnaaDoorCards.lean) ties it to the program's text. -/
def laid_math_bits_deBruijn32tab {H : Type} : DataW H := .agg [.lit (.int .u8 0), .lit (.int .u8 1), .lit (.int .u8 28), .lit (.int .u8 2), .lit (.int .u8 29), .lit (.int .u8 14), .lit (.int .u8 24), .lit (.int .u8 3), .lit (.int .u8 30), .lit (.int .u8 22), .lit (.int .u8 20), .lit (.int .u8 15), .lit (.int .u8 25), .lit (.int .u8 17), .lit (.int .u8 4), .lit (.int .u8 8), .lit (.int .u8 31), .lit (.int .u8 27), .lit (.int .u8 13), .lit (.int .u8 23), .lit (.int .u8 21), .lit (.int .u8 19), .lit (.int .u8 16), .lit (.int .u8 7), .lit (.int .u8 26), .lit (.int .u8 12), .lit (.int .u8 18), .lit (.int .u8 6), .lit (.int .u8 11), .lit (.int .u8 5), .lit (.int .u8 10), .lit (.int .u8 9)]
def laid_math_bits_deBruijn64tab {H : Type} : DataW H := .agg [.lit (.int .u8 0), .lit (.int .u8 1), .lit (.int .u8 56), .lit (.int .u8 2), .lit (.int .u8 57), .lit (.int .u8 49), .lit (.int .u8 28), .lit (.int .u8 3), .lit (.int .u8 61), .lit (.int .u8 58), .lit (.int .u8 42), .lit (.int .u8 50), .lit (.int .u8 38), .lit (.int .u8 29), .lit (.int .u8 17), .lit (.int .u8 4), .lit (.int .u8 62), .lit (.int .u8 47), .lit (.int .u8 59), .lit (.int .u8 36), .lit (.int .u8 45), .lit (.int .u8 43), .lit (.int .u8 51), .lit (.int .u8 22), .lit (.int .u8 53), .lit (.int .u8 39), .lit (.int .u8 33), .lit (.int .u8 30), .lit (.int .u8 24), .lit (.int .u8 18), .lit (.int .u8 12), .lit (.int .u8 5), .lit (.int .u8 63), .lit (.int .u8 55), .lit (.int .u8 48), .lit (.int .u8 27), .lit (.int .u8 60), .lit (.int .u8 41), .lit (.int .u8 37), .lit (.int .u8 16), .lit (.int .u8 46), .lit (.int .u8 35), .lit (.int .u8 44), .lit (.int .u8 21), .lit (.int .u8 52), .lit (.int .u8 32), .lit (.int .u8 23), .lit (.int .u8 11), .lit (.int .u8 54), .lit (.int .u8 26), .lit (.int .u8 40), .lit (.int .u8 15), .lit (.int .u8 34), .lit (.int .u8 20), .lit (.int .u8 31), .lit (.int .u8 10), .lit (.int .u8 25), .lit (.int .u8 14), .lit (.int .u8 19), .lit (.int .u8 9), .lit (.int .u8 13), .lit (.int .u8 8), .lit (.int .u8 7), .lit (.int .u8 6)]
def laid_internal_strconv_uint64pow10 {H : Type} : DataW H := .agg [.lit (.int .u64 1), .lit (.int .u64 10), .lit (.int .u64 100), .lit (.int .u64 1000), .lit (.int .u64 10000), .lit (.int .u64 100000), .lit (.int .u64 1000000), .lit (.int .u64 10000000), .lit (.int .u64 100000000), .lit (.int .u64 1000000000), .lit (.int .u64 10000000000), .lit (.int .u64 100000000000), .lit (.int .u64 1000000000000), .lit (.int .u64 10000000000000), .lit (.int .u64 100000000000000), .lit (.int .u64 1000000000000000), .lit (.int .u64 10000000000000000), .lit (.int .u64 100000000000000000), .lit (.int .u64 1000000000000000000), .lit (.int .u64 10000000000000000000)]
def laid_unicode_utf8_acceptRanges {H : Type} : DataW H := .agg [.agg [.lit (.int .u8 128), .lit (.int .u8 191)], .agg [.lit (.int .u8 160), .lit (.int .u8 191)], .agg [.lit (.int .u8 128), .lit (.int .u8 159)], .agg [.lit (.int .u8 144), .lit (.int .u8 191)], .agg [.lit (.int .u8 128), .lit (.int .u8 143)], .agg [.lit (.int .u8 0), .lit (.int .u8 0)], .agg [.lit (.int .u8 0), .lit (.int .u8 0)], .agg [.lit (.int .u8 0), .lit (.int .u8 0)], .agg [.lit (.int .u8 0), .lit (.int .u8 0)], .agg [.lit (.int .u8 0), .lit (.int .u8 0)], .agg [.lit (.int .u8 0), .lit (.int .u8 0)], .agg [.lit (.int .u8 0), .lit (.int .u8 0)], .agg [.lit (.int .u8 0), .lit (.int .u8 0)], .agg [.lit (.int .u8 0), .lit (.int .u8 0)], .agg [.lit (.int .u8 0), .lit (.int .u8 0)], .agg [.lit (.int .u8 0), .lit (.int .u8 0)]]
def laid_strconv_ErrRange {H : Type} : DataW H := .iface "*errors.errorString" (.ptr (.agg [.lit (.string [118, 97, 108, 117, 101, 32, 111, 117, 116, 32, 111, 102, 32, 114, 97, 110, 103, 101])]))
def laid_strconv_ErrSyntax {H : Type} : DataW H := .iface "*errors.errorString" (.ptr (.agg [.lit (.string [105, 110, 118, 97, 108, 105, 100, 32, 115, 121, 110, 116, 97, 120])]))
def laid_net_url_table {H : Type} : DataW H := .agg [.lit (.int .u8 0), .lit (.int .u8 0), .lit (.int .u8 0), .lit (.int .u8 0), .lit (.int .u8 0), .lit (.int .u8 0), .lit (.int .u8 0), .lit (.int .u8 0), .lit (.int .u8 0), .lit (.int .u8 0), .lit (.int .u8 0), .lit (.int .u8 0), .lit (.int .u8 0), .lit (.int .u8 0), .lit (.int .u8 0), .lit (.int .u8 0), .lit (.int .u8 0), .lit (.int .u8 0), .lit (.int .u8 0), .lit (.int .u8 0), .lit (.int .u8 0), .lit (.int .u8 0), .lit (.int .u8 0), .lit (.int .u8 0), .lit (.int .u8 0), .lit (.int .u8 0), .lit (.int .u8 0), .lit (.int .u8 0), .lit (.int .u8 0), .lit (.int .u8 0), .lit (.int .u8 0), .lit (.int .u8 0), .lit (.int .u8 0), .lit (.int .u8 76), .lit (.int .u8 12), .lit (.int .u8 0), .lit (.int .u8 95), .lit (.int .u8 0), .lit (.int .u8 95), .lit (.int .u8 12), .lit (.int .u8 76), .lit (.int .u8 76), .lit (.int .u8 76), .lit (.int .u8 95), .lit (.int .u8 93), .lit (.int .u8 127), .lit (.int .u8 127), .lit (.int .u8 65), .lit (.int .u8 255), .lit (.int .u8 255), .lit (.int .u8 255), .lit (.int .u8 255), .lit (.int .u8 255), .lit (.int .u8 255), .lit (.int .u8 255), .lit (.int .u8 255), .lit (.int .u8 255), .lit (.int .u8 255), .lit (.int .u8 79), .lit (.int .u8 93), .lit (.int .u8 12), .lit (.int .u8 95), .lit (.int .u8 12), .lit (.int .u8 64), .lit (.int .u8 67), .lit (.int .u8 255), .lit (.int .u8 255), .lit (.int .u8 255), .lit (.int .u8 255), .lit (.int .u8 255), .lit (.int .u8 255), .lit (.int .u8 127), .lit (.int .u8 127), .lit (.int .u8 127), .lit (.int .u8 127), .lit (.int .u8 127), .lit (.int .u8 127), .lit (.int .u8 127), .lit (.int .u8 127), .lit (.int .u8 127), .lit (.int .u8 127), .lit (.int .u8 127), .lit (.int .u8 127), .lit (.int .u8 127), .lit (.int .u8 127), .lit (.int .u8 127), .lit (.int .u8 127), .lit (.int .u8 127), .lit (.int .u8 127), .lit (.int .u8 127), .lit (.int .u8 127), .lit (.int .u8 12), .lit (.int .u8 0), .lit (.int .u8 12), .lit (.int .u8 0), .lit (.int .u8 127), .lit (.int .u8 0), .lit (.int .u8 255), .lit (.int .u8 255), .lit (.int .u8 255), .lit (.int .u8 255), .lit (.int .u8 255), .lit (.int .u8 255), .lit (.int .u8 127), .lit (.int .u8 127), .lit (.int .u8 127), .lit (.int .u8 127), .lit (.int .u8 127), .lit (.int .u8 127), .lit (.int .u8 127), .lit (.int .u8 127), .lit (.int .u8 127), .lit (.int .u8 127), .lit (.int .u8 127), .lit (.int .u8 127), .lit (.int .u8 127), .lit (.int .u8 127), .lit (.int .u8 127), .lit (.int .u8 127), .lit (.int .u8 127), .lit (.int .u8 127), .lit (.int .u8 127), .lit (.int .u8 127), .lit (.int .u8 0), .lit (.int .u8 0), .lit (.int .u8 0), .lit (.int .u8 127), .lit (.int .u8 0), .lit (.int .u8 0), .lit (.int .u8 0), .lit (.int .u8 0), .lit (.int .u8 0), .lit (.int .u8 0), .lit (.int .u8 0), .lit (.int .u8 0), .lit (.int .u8 0), .lit (.int .u8 0), .lit (.int .u8 0), .lit (.int .u8 0), .lit (.int .u8 0), .lit (.int .u8 0), .lit (.int .u8 0), .lit (.int .u8 0), .lit (.int .u8 0), .lit (.int .u8 0), .lit (.int .u8 0), .lit (.int .u8 0), .lit (.int .u8 0), .lit (.int .u8 0), .lit (.int .u8 0), .lit (.int .u8 0), .lit (.int .u8 0), .lit (.int .u8 0), .lit (.int .u8 0), .lit (.int .u8 0), .lit (.int .u8 0), .lit (.int .u8 0), .lit (.int .u8 0), .lit (.int .u8 0), .lit (.int .u8 0), .lit (.int .u8 0), .lit (.int .u8 0), .lit (.int .u8 0), .lit (.int .u8 0), .lit (.int .u8 0), .lit (.int .u8 0), .lit (.int .u8 0), .lit (.int .u8 0), .lit (.int .u8 0), .lit (.int .u8 0), .lit (.int .u8 0), .lit (.int .u8 0), .lit (.int .u8 0), .lit (.int .u8 0), .lit (.int .u8 0), .lit (.int .u8 0), .lit (.int .u8 0), .lit (.int .u8 0), .lit (.int .u8 0), .lit (.int .u8 0), .lit (.int .u8 0), .lit (.int .u8 0), .lit (.int .u8 0), .lit (.int .u8 0), .lit (.int .u8 0), .lit (.int .u8 0), .lit (.int .u8 0), .lit (.int .u8 0), .lit (.int .u8 0), .lit (.int .u8 0), .lit (.int .u8 0), .lit (.int .u8 0), .lit (.int .u8 0), .lit (.int .u8 0), .lit (.int .u8 0), .lit (.int .u8 0), .lit (.int .u8 0), .lit (.int .u8 0), .lit (.int .u8 0), .lit (.int .u8 0), .lit (.int .u8 0), .lit (.int .u8 0), .lit (.int .u8 0), .lit (.int .u8 0), .lit (.int .u8 0), .lit (.int .u8 0), .lit (.int .u8 0), .lit (.int .u8 0), .lit (.int .u8 0), .lit (.int .u8 0), .lit (.int .u8 0), .lit (.int .u8 0), .lit (.int .u8 0), .lit (.int .u8 0), .lit (.int .u8 0), .lit (.int .u8 0), .lit (.int .u8 0), .lit (.int .u8 0), .lit (.int .u8 0), .lit (.int .u8 0), .lit (.int .u8 0), .lit (.int .u8 0), .lit (.int .u8 0), .lit (.int .u8 0), .lit (.int .u8 0), .lit (.int .u8 0), .lit (.int .u8 0), .lit (.int .u8 0), .lit (.int .u8 0), .lit (.int .u8 0), .lit (.int .u8 0), .lit (.int .u8 0), .lit (.int .u8 0), .lit (.int .u8 0), .lit (.int .u8 0), .lit (.int .u8 0), .lit (.int .u8 0), .lit (.int .u8 0), .lit (.int .u8 0), .lit (.int .u8 0), .lit (.int .u8 0), .lit (.int .u8 0), .lit (.int .u8 0), .lit (.int .u8 0), .lit (.int .u8 0), .lit (.int .u8 0), .lit (.int .u8 0), .lit (.int .u8 0), .lit (.int .u8 0), .lit (.int .u8 0), .lit (.int .u8 0), .lit (.int .u8 0), .lit (.int .u8 0), .lit (.int .u8 0), .lit (.int .u8 0), .lit (.int .u8 0)]
/-- One of Go's own tables, pinned by name: the form's constant. -/
def laid_unicode_utf8_first : DataW Unit := Go.Pinned.utf8First
def laid_bytes_ErrTooLarge {H : Type} : DataW H := .iface "*errors.errorString" (.ptr (.agg [.lit (.string [98, 121, 116, 101, 115, 46, 66, 117, 102, 102, 101, 114, 58, 32, 116, 111, 111, 32, 108, 97, 114, 103, 101])]))

/-- 'laws.FnDeltaRead': WHATEVER THE INPUT: true; the input reads as it did. -/
def fnDeltaReadSpec : ChangeSpec := { name := "fnDeltaRead", fn := fun _ => fun
  | [d1, d2] => { results := [.lit (.bool true)], args := [d1, d2] }
  | _ => none }
def fnDeltaReadRow : OpenClaim := { program := "ythkiaiilpaojnaadoor", sum := "48292a9461ae29df58a69536504fb10b8094f58a0199ed755299d7c404d66576", func := "given.example/pub-enjambment/laws.FnDeltaRead", spec := "fnDeltaRead", inPlace := ["internal/abi.NoEscape", "internal/bytealg.MakeNoZero"], unfollowed := true, recurses := true, named := ["unicode/utf8.first", "unicode/utf8.acceptRanges", "net/url.table", "strconv.ErrSyntax", "strconv.ErrRange", "internal/strconv.uint64pow10", "math/bits.deBruijn32tab", "math/bits.deBruijn64tab"], apart := false, laid := [("math/bits.deBruijn32tab", laid_math_bits_deBruijn32tab), ("math/bits.deBruijn64tab", laid_math_bits_deBruijn64tab), ("internal/strconv.uint64pow10", laid_internal_strconv_uint64pow10), ("unicode/utf8.acceptRanges", laid_unicode_utf8_acceptRanges), ("strconv.ErrRange", laid_strconv_ErrRange), ("strconv.ErrSyntax", laid_strconv_ErrSyntax), ("net/url.table", laid_net_url_table), ("unicode/utf8.first", laid_unicode_utf8_first)] }
def FnDeltaReadSaid : Prop := fnDeltaReadRow.holds Tryd.pinned (OpenSpec.ofChange fnDeltaReadSpec)

/-- ITS FALSE NEIGHBOUR: 'it returns false'. Refute it at one input. -/
def fnDeltaReadWrong : ChangeSpec := { name := "fnDeltaRead", fn := fun _ => fun
  | [d1, d2] => { results := [.lit (.bool false)], args := [d1, d2] }
  | _ => none }
def FnDeltaReadWrongFalsely : Prop := fnDeltaReadRow.holds Tryd.pinned (OpenSpec.ofChange fnDeltaReadWrong)

/-- 'laws.FnPatchGiven': WHATEVER THE INPUT: true; the input reads as it did. -/
def fnPatchGivenSpec : ChangeSpec := { name := "fnPatchGiven", fn := fun _ => fun
  | [d1, d2] => { results := [.lit (.bool true)], args := [d1, d2] }
  | _ => none }
def fnPatchGivenRow : OpenClaim := { program := "ythkiaiilpaojnaadoor", sum := "48292a9461ae29df58a69536504fb10b8094f58a0199ed755299d7c404d66576", func := "given.example/pub-enjambment/laws.FnPatchGiven", spec := "fnPatchGiven", inPlace := ["internal/abi.NoEscape", "internal/bytealg.MakeNoZero"], unfollowed := true, recurses := true, named := ["strconv.ErrSyntax", "strconv.ErrRange", "internal/strconv.uint64pow10", "math/bits.deBruijn32tab", "math/bits.deBruijn64tab", "net/url.table"], apart := false, laid := [("math/bits.deBruijn32tab", laid_math_bits_deBruijn32tab), ("math/bits.deBruijn64tab", laid_math_bits_deBruijn64tab), ("internal/strconv.uint64pow10", laid_internal_strconv_uint64pow10), ("strconv.ErrRange", laid_strconv_ErrRange), ("strconv.ErrSyntax", laid_strconv_ErrSyntax), ("net/url.table", laid_net_url_table)] }
def FnPatchGivenSaid : Prop := fnPatchGivenRow.holds Tryd.pinned (OpenSpec.ofChange fnPatchGivenSpec)

/-- ITS FALSE NEIGHBOUR: 'it returns false'. Refute it at one input. -/
def fnPatchGivenWrong : ChangeSpec := { name := "fnPatchGiven", fn := fun _ => fun
  | [d1, d2] => { results := [.lit (.bool false)], args := [d1, d2] }
  | _ => none }
def FnPatchGivenWrongFalsely : Prop := fnPatchGivenRow.holds Tryd.pinned (OpenSpec.ofChange fnPatchGivenWrong)

/-- 'laws.FnPatchRead': WHATEVER THE INPUT: true; the input reads as it did. -/
def fnPatchReadSpec : ChangeSpec := { name := "fnPatchRead", fn := fun _ => fun
  | [d] => { results := [.lit (.bool true)], args := [d] }
  | _ => none }
def fnPatchReadRow : OpenClaim := { program := "ythkiaiilpaojnaadoor", sum := "48292a9461ae29df58a69536504fb10b8094f58a0199ed755299d7c404d66576", func := "given.example/pub-enjambment/laws.FnPatchRead", spec := "fnPatchRead", inPlace := ["internal/abi.NoEscape", "internal/bytealg.MakeNoZero"], unfollowed := true, recurses := true, named := ["unicode/utf8.first", "unicode/utf8.acceptRanges", "strconv.ErrSyntax", "strconv.ErrRange", "internal/strconv.uint64pow10", "math/bits.deBruijn32tab", "math/bits.deBruijn64tab", "net/url.table"], apart := false, laid := [("math/bits.deBruijn32tab", laid_math_bits_deBruijn32tab), ("math/bits.deBruijn64tab", laid_math_bits_deBruijn64tab), ("internal/strconv.uint64pow10", laid_internal_strconv_uint64pow10), ("unicode/utf8.acceptRanges", laid_unicode_utf8_acceptRanges), ("strconv.ErrRange", laid_strconv_ErrRange), ("strconv.ErrSyntax", laid_strconv_ErrSyntax), ("net/url.table", laid_net_url_table), ("unicode/utf8.first", laid_unicode_utf8_first)] }
def FnPatchReadSaid : Prop := fnPatchReadRow.holds Tryd.pinned (OpenSpec.ofChange fnPatchReadSpec)

/-- ITS FALSE NEIGHBOUR: 'it returns false'. Refute it at one input. -/
def fnPatchReadWrong : ChangeSpec := { name := "fnPatchRead", fn := fun _ => fun
  | [d] => { results := [.lit (.bool false)], args := [d] }
  | _ => none }
def FnPatchReadWrongFalsely : Prop := fnPatchReadRow.holds Tryd.pinned (OpenSpec.ofChange fnPatchReadWrong)

/-- 'laws.FnDeltaBack': WHATEVER THE INPUT: true; the input reads as it did. -/
def fnDeltaBackSpec : ChangeSpec := { name := "fnDeltaBack", fn := fun _ => fun
  | [d] => { results := [.lit (.bool true)], args := [d] }
  | _ => none }
def fnDeltaBackRow : OpenClaim := { program := "ythkiaiilpaojnaadoor", sum := "48292a9461ae29df58a69536504fb10b8094f58a0199ed755299d7c404d66576", func := "given.example/pub-enjambment/laws.FnDeltaBack", spec := "fnDeltaBack", inPlace := ["internal/abi.NoEscape", "internal/bytealg.MakeNoZero"], unfollowed := true, recurses := true, named := ["bytes.ErrTooLarge", "net/url.table", "internal/strconv.uint64pow10", "math/bits.deBruijn32tab", "math/bits.deBruijn64tab", "unicode/utf8.first", "unicode/utf8.acceptRanges", "strconv.ErrSyntax", "strconv.ErrRange"], apart := false, laid := [("math/bits.deBruijn32tab", laid_math_bits_deBruijn32tab), ("math/bits.deBruijn64tab", laid_math_bits_deBruijn64tab), ("internal/strconv.uint64pow10", laid_internal_strconv_uint64pow10), ("unicode/utf8.acceptRanges", laid_unicode_utf8_acceptRanges), ("strconv.ErrRange", laid_strconv_ErrRange), ("strconv.ErrSyntax", laid_strconv_ErrSyntax), ("bytes.ErrTooLarge", laid_bytes_ErrTooLarge), ("net/url.table", laid_net_url_table), ("unicode/utf8.first", laid_unicode_utf8_first)] }
def FnDeltaBackSaid : Prop := fnDeltaBackRow.holds Tryd.pinned (OpenSpec.ofChange fnDeltaBackSpec)

/-- ITS FALSE NEIGHBOUR: 'it returns false'. Refute it at one input. -/
def fnDeltaBackWrong : ChangeSpec := { name := "fnDeltaBack", fn := fun _ => fun
  | [d] => { results := [.lit (.bool false)], args := [d] }
  | _ => none }
def FnDeltaBackWrongFalsely : Prop := fnDeltaBackRow.holds Tryd.pinned (OpenSpec.ofChange fnDeltaBackWrong)

/-- 'laws.FnLineMode': WHATEVER THE INPUT: true; the input reads as it did. -/
def fnLineModeSpec : ChangeSpec := { name := "fnLineMode", fn := fun _ => fun
  | [d1, d2] => { results := [.lit (.bool true)], args := [d1, d2] }
  | _ => none }
def fnLineModeRow : OpenClaim := { program := "ythkiaiilpaojnaadoor", sum := "48292a9461ae29df58a69536504fb10b8094f58a0199ed755299d7c404d66576", func := "given.example/pub-enjambment/laws.FnLineMode", spec := "fnLineMode", inPlace := ["internal/abi.NoEscape", "internal/bytealg.MakeNoZero", "math.archMax", "math.Float64bits", "math.Float64frombits", "math.archMin"], unfollowed := true, recurses := true, named := ["unicode/utf8.first", "unicode/utf8.acceptRanges"], apart := false, laid := [("unicode/utf8.acceptRanges", laid_unicode_utf8_acceptRanges), ("unicode/utf8.first", laid_unicode_utf8_first)] }
def FnLineModeSaid : Prop := fnLineModeRow.holds Tryd.pinned (OpenSpec.ofChange fnLineModeSpec)

/-- ITS FALSE NEIGHBOUR: 'it returns false'. Refute it at one input. -/
def fnLineModeWrong : ChangeSpec := { name := "fnLineMode", fn := fun _ => fun
  | [d1, d2] => { results := [.lit (.bool false)], args := [d1, d2] }
  | _ => none }
def FnLineModeWrongFalsely : Prop := fnLineModeRow.holds Tryd.pinned (OpenSpec.ofChange fnLineModeWrong)

/-- 'laws.FnBisect': WHATEVER THE INPUT: true; the input reads as it did. -/
def fnBisectSpec : ChangeSpec := { name := "fnBisect", fn := fun _ => fun
  | [d1, d2] => { results := [.lit (.bool true)], args := [d1, d2] }
  | _ => none }
def fnBisectRow : OpenClaim := { program := "ythkiaiilpaojnaadoor", sum := "48292a9461ae29df58a69536504fb10b8094f58a0199ed755299d7c404d66576", func := "given.example/pub-enjambment/laws.FnBisect", spec := "fnBisect", inPlace := ["internal/abi.NoEscape", "internal/bytealg.MakeNoZero", "math.archMax", "math.Float64bits", "math.Float64frombits", "math.archMin"], unfollowed := true, recurses := true, named := ["unicode/utf8.first", "unicode/utf8.acceptRanges"], apart := false, laid := [("unicode/utf8.acceptRanges", laid_unicode_utf8_acceptRanges), ("unicode/utf8.first", laid_unicode_utf8_first)] }
def FnBisectSaid : Prop := fnBisectRow.holds Tryd.pinned (OpenSpec.ofChange fnBisectSpec)

/-- ITS FALSE NEIGHBOUR: 'it returns false'. Refute it at one input. -/
def fnBisectWrong : ChangeSpec := { name := "fnBisect", fn := fun _ => fun
  | [d1, d2] => { results := [.lit (.bool false)], args := [d1, d2] }
  | _ => none }
def FnBisectWrongFalsely : Prop := fnBisectRow.holds Tryd.pinned (OpenSpec.ofChange fnBisectWrong)

/-- 'laws.FnMainBack': WHATEVER THE INPUT: true; the input reads as it did. -/
def fnMainBackSpec : ChangeSpec := { name := "fnMainBack", fn := fun _ => fun
  | [d1, d2] => { results := [.lit (.bool true)], args := [d1, d2] }
  | _ => none }
def fnMainBackRow : OpenClaim := { program := "ythkiaiilpaojnaadoor", sum := "48292a9461ae29df58a69536504fb10b8094f58a0199ed755299d7c404d66576", func := "given.example/pub-enjambment/laws.FnMainBack", spec := "fnMainBack", inPlace := ["internal/abi.NoEscape", "internal/bytealg.MakeNoZero", "math.archMax", "math.Float64bits", "math.Float64frombits", "math.archMin"], unfollowed := true, recurses := true, named := ["unicode/utf8.first", "unicode/utf8.acceptRanges"], apart := false, laid := [("unicode/utf8.acceptRanges", laid_unicode_utf8_acceptRanges), ("unicode/utf8.first", laid_unicode_utf8_first)] }
def FnMainBackSaid : Prop := fnMainBackRow.holds Tryd.pinned (OpenSpec.ofChange fnMainBackSpec)

/-- ITS FALSE NEIGHBOUR: 'it returns false'. Refute it at one input. -/
def fnMainBackWrong : ChangeSpec := { name := "fnMainBack", fn := fun _ => fun
  | [d1, d2] => { results := [.lit (.bool false)], args := [d1, d2] }
  | _ => none }
def FnMainBackWrongFalsely : Prop := fnMainBackRow.holds Tryd.pinned (OpenSpec.ofChange fnMainBackWrong)

/-- 'laws.FnMainBytes': WHATEVER THE INPUT: true; the input reads as it did. -/
def fnMainBytesSpec : ChangeSpec := { name := "fnMainBytes", fn := fun _ => fun
  | [d1, d2, d3] => { results := [.lit (.bool true)], args := [d1, d2, d3] }
  | _ => none }
def fnMainBytesRow : OpenClaim := { program := "ythkiaiilpaojnaadoor", sum := "48292a9461ae29df58a69536504fb10b8094f58a0199ed755299d7c404d66576", func := "given.example/pub-enjambment/laws.FnMainBytes", spec := "fnMainBytes", inPlace := ["internal/abi.NoEscape", "internal/bytealg.MakeNoZero", "math.archMax", "math.Float64bits", "math.Float64frombits", "math.archMin"], unfollowed := true, recurses := true, named := ["unicode/utf8.first", "unicode/utf8.acceptRanges"], apart := false, laid := [("unicode/utf8.acceptRanges", laid_unicode_utf8_acceptRanges), ("unicode/utf8.first", laid_unicode_utf8_first)] }
def FnMainBytesSaid : Prop := fnMainBytesRow.holds Tryd.pinned (OpenSpec.ofChange fnMainBytesSpec)

/-- ITS FALSE NEIGHBOUR: 'it returns false'. Refute it at one input. -/
def fnMainBytesWrong : ChangeSpec := { name := "fnMainBytes", fn := fun _ => fun
  | [d1, d2, d3] => { results := [.lit (.bool false)], args := [d1, d2, d3] }
  | _ => none }
def FnMainBytesWrongFalsely : Prop := fnMainBytesRow.holds Tryd.pinned (OpenSpec.ofChange fnMainBytesWrong)

/-- 'laws.FnMainHalf': WHATEVER THE INPUT: true; the input reads as it did. -/
def fnMainHalfSpec : ChangeSpec := { name := "fnMainHalf", fn := fun _ => fun
  | [d1, d2, d3] => { results := [.lit (.bool true)], args := [d1, d2, d3] }
  | _ => none }
def fnMainHalfRow : OpenClaim := { program := "ythkiaiilpaojnaadoor", sum := "48292a9461ae29df58a69536504fb10b8094f58a0199ed755299d7c404d66576", func := "given.example/pub-enjambment/laws.FnMainHalf", spec := "fnMainHalf", inPlace := ["internal/abi.NoEscape", "internal/bytealg.MakeNoZero", "math.archMax", "math.Float64bits", "math.Float64frombits", "math.archMin"], unfollowed := true, recurses := true, named := ["unicode/utf8.first", "unicode/utf8.acceptRanges"], apart := false, laid := [("unicode/utf8.acceptRanges", laid_unicode_utf8_acceptRanges), ("unicode/utf8.first", laid_unicode_utf8_first)] }
def FnMainHalfSaid : Prop := fnMainHalfRow.holds Tryd.pinned (OpenSpec.ofChange fnMainHalfSpec)

/-- ITS FALSE NEIGHBOUR: 'it returns false'. Refute it at one input. -/
def fnMainHalfWrong : ChangeSpec := { name := "fnMainHalf", fn := fun _ => fun
  | [d1, d2, d3] => { results := [.lit (.bool false)], args := [d1, d2, d3] }
  | _ => none }
def FnMainHalfWrongFalsely : Prop := fnMainHalfRow.holds Tryd.pinned (OpenSpec.ofChange fnMainHalfWrong)

/-- 'laws.FnMainLeast': WHATEVER THE INPUT: true; the input reads as it did. -/
def fnMainLeastSpec : ChangeSpec := { name := "fnMainLeast", fn := fun _ => fun
  | [d1, d2] => { results := [.lit (.bool true)], args := [d1, d2] }
  | _ => none }
def fnMainLeastRow : OpenClaim := { program := "ythkiaiilpaojnaadoor", sum := "48292a9461ae29df58a69536504fb10b8094f58a0199ed755299d7c404d66576", func := "given.example/pub-enjambment/laws.FnMainLeast", spec := "fnMainLeast", inPlace := ["internal/abi.NoEscape", "internal/bytealg.MakeNoZero", "math.archMax", "math.Float64bits", "math.Float64frombits", "math.archMin"], unfollowed := true, recurses := true, named := ["unicode/utf8.first", "unicode/utf8.acceptRanges"], apart := false, laid := [("unicode/utf8.acceptRanges", laid_unicode_utf8_acceptRanges), ("unicode/utf8.first", laid_unicode_utf8_first)] }
def FnMainLeastSaid : Prop := fnMainLeastRow.holds Tryd.pinned (OpenSpec.ofChange fnMainLeastSpec)

/-- ITS FALSE NEIGHBOUR: 'it returns false'. Refute it at one input. -/
def fnMainLeastWrong : ChangeSpec := { name := "fnMainLeast", fn := fun _ => fun
  | [d1, d2] => { results := [.lit (.bool false)], args := [d1, d2] }
  | _ => none }
def FnMainLeastWrongFalsely : Prop := fnMainLeastRow.holds Tryd.pinned (OpenSpec.ofChange fnMainLeastWrong)

/-- 'laws.FnMainSame': WHATEVER THE INPUT: true; the input reads as it did. -/
def fnMainSameSpec : ChangeSpec := { name := "fnMainSame", fn := fun _ => fun
  | [d1, d2] => { results := [.lit (.bool true)], args := [d1, d2] }
  | _ => none }
def fnMainSameRow : OpenClaim := { program := "ythkiaiilpaojnaadoor", sum := "48292a9461ae29df58a69536504fb10b8094f58a0199ed755299d7c404d66576", func := "given.example/pub-enjambment/laws.FnMainSame", spec := "fnMainSame", inPlace := ["internal/abi.NoEscape", "internal/bytealg.MakeNoZero", "math.archMax", "math.Float64bits", "math.Float64frombits", "math.archMin"], unfollowed := true, recurses := true, named := ["unicode/utf8.first", "unicode/utf8.acceptRanges"], apart := false, laid := [("unicode/utf8.acceptRanges", laid_unicode_utf8_acceptRanges), ("unicode/utf8.first", laid_unicode_utf8_first)] }
def FnMainSameSaid : Prop := fnMainSameRow.holds Tryd.pinned (OpenSpec.ofChange fnMainSameSpec)

/-- ITS FALSE NEIGHBOUR: 'it returns false'. Refute it at one input. -/
def fnMainSameWrong : ChangeSpec := { name := "fnMainSame", fn := fun _ => fun
  | [d1, d2] => { results := [.lit (.bool false)], args := [d1, d2] }
  | _ => none }
def FnMainSameWrongFalsely : Prop := fnMainSameRow.holds Tryd.pinned (OpenSpec.ofChange fnMainSameWrong)

/-- 'laws.FnMainTexts': WHATEVER THE INPUT: true; the input reads as it did. -/
def fnMainTextsSpec : ChangeSpec := { name := "fnMainTexts", fn := fun _ => fun
  | [d1, d2, d3] => { results := [.lit (.bool true)], args := [d1, d2, d3] }
  | _ => none }
def fnMainTextsRow : OpenClaim := { program := "ythkiaiilpaojnaadoor", sum := "48292a9461ae29df58a69536504fb10b8094f58a0199ed755299d7c404d66576", func := "given.example/pub-enjambment/laws.FnMainTexts", spec := "fnMainTexts", inPlace := ["internal/abi.NoEscape", "internal/bytealg.MakeNoZero", "math.archMax", "math.Float64bits", "math.Float64frombits", "math.archMin"], unfollowed := true, recurses := true, named := ["unicode/utf8.first", "unicode/utf8.acceptRanges"], apart := false, laid := [("unicode/utf8.acceptRanges", laid_unicode_utf8_acceptRanges), ("unicode/utf8.first", laid_unicode_utf8_first)] }
def FnMainTextsSaid : Prop := fnMainTextsRow.holds Tryd.pinned (OpenSpec.ofChange fnMainTextsSpec)

/-- ITS FALSE NEIGHBOUR: 'it returns false'. Refute it at one input. -/
def fnMainTextsWrong : ChangeSpec := { name := "fnMainTexts", fn := fun _ => fun
  | [d1, d2, d3] => { results := [.lit (.bool false)], args := [d1, d2, d3] }
  | _ => none }
def FnMainTextsWrongFalsely : Prop := fnMainTextsRow.holds Tryd.pinned (OpenSpec.ofChange fnMainTextsWrong)

/- THE SECOND FORM. 'bulk': how many values and letters a reading holds, each counted each time it is reached (what is shared counts as often as it is met; a slice's spare places count too). A statement '..UptoSaid' is the law's where the arguments, and the package variables that the reading takes, are together of bulk at most 1048576: NARROWER than '..Said'. Prove '..Said' where nothing that the law and all that it calls make is longer than what came in: it says more and counts as full. Else prove '..UptoSaid'. A law counts once. -/
mutual
def uptoBulk {H : Type} : DataW H → Nat
  | .lit (.string bytes) => bytes.length + 1
  | .lit _ => 1
  | .nil => 1
  | .ptr d => uptoBulk d + 1
  | .slice elems spare => uptoBulkAll elems + uptoBulkAll spare + 1
  | .agg parts => uptoBulkAll parts + 1
  | .iface _ d => uptoBulk d + 1
  | .map entries => uptoBulkEntries entries + 1
  | .held _ => 1
def uptoBulkAll {H : Type} : List (DataW H) → Nat
  | [] => 0
  | d :: r => uptoBulk d + uptoBulkAll r
def uptoBulkEntries {H : Type} : List (Lit × DataW H) → Nat
  | [] => 0
  | x :: r => uptoBulkEntry x + uptoBulkEntries r
def uptoBulkEntry {H : Type} : Lit × DataW H → Nat
  | (.string bytes, d) => bytes.length + uptoBulk d + 1
  | (_, d) => uptoBulk d + 1
 end
def uptoSmall : (H : Type) → List (DataW H) → Bool := fun _ ds => decide (uptoBulkAll ds ≤ 1048576)
def OpenSpec.upto (s : _root_.Go.ChangeSpec) : _root_.Go.OpenSpec := { _root_.Go.OpenSpec.ofChange s with cond := some uptoSmall }

/-- 'laws.FnDeltaRead', WHERE WHAT IT READS IS OF BULK AT MOST 1048576: true; the input reads as it did. -/
def fnDeltaReadUptoRow : OpenClaim := { program := "ythkiaiilpaojnaadoor", sum := "48292a9461ae29df58a69536504fb10b8094f58a0199ed755299d7c404d66576", func := "given.example/pub-enjambment/laws.FnDeltaRead", spec := "fnDeltaRead", inPlace := ["internal/abi.NoEscape", "internal/bytealg.MakeNoZero"], unfollowed := true, recurses := true, named := ["unicode/utf8.first", "unicode/utf8.acceptRanges", "net/url.table", "strconv.ErrSyntax", "strconv.ErrRange", "internal/strconv.uint64pow10", "math/bits.deBruijn32tab", "math/bits.deBruijn64tab"], apart := false, laid := [("math/bits.deBruijn32tab", laid_math_bits_deBruijn32tab), ("math/bits.deBruijn64tab", laid_math_bits_deBruijn64tab), ("internal/strconv.uint64pow10", laid_internal_strconv_uint64pow10), ("unicode/utf8.acceptRanges", laid_unicode_utf8_acceptRanges), ("strconv.ErrRange", laid_strconv_ErrRange), ("strconv.ErrSyntax", laid_strconv_ErrSyntax), ("net/url.table", laid_net_url_table), ("unicode/utf8.first", laid_unicode_utf8_first)], narrowed := true }
def FnDeltaReadUptoSaid : Prop := fnDeltaReadUptoRow.holds Tryd.pinned (OpenSpec.upto fnDeltaReadSpec)

/-- 'laws.FnPatchGiven', WHERE WHAT IT READS IS OF BULK AT MOST 1048576: true; the input reads as it did. -/
def fnPatchGivenUptoRow : OpenClaim := { program := "ythkiaiilpaojnaadoor", sum := "48292a9461ae29df58a69536504fb10b8094f58a0199ed755299d7c404d66576", func := "given.example/pub-enjambment/laws.FnPatchGiven", spec := "fnPatchGiven", inPlace := ["internal/abi.NoEscape", "internal/bytealg.MakeNoZero"], unfollowed := true, recurses := true, named := ["strconv.ErrSyntax", "strconv.ErrRange", "internal/strconv.uint64pow10", "math/bits.deBruijn32tab", "math/bits.deBruijn64tab", "net/url.table"], apart := false, laid := [("math/bits.deBruijn32tab", laid_math_bits_deBruijn32tab), ("math/bits.deBruijn64tab", laid_math_bits_deBruijn64tab), ("internal/strconv.uint64pow10", laid_internal_strconv_uint64pow10), ("strconv.ErrRange", laid_strconv_ErrRange), ("strconv.ErrSyntax", laid_strconv_ErrSyntax), ("net/url.table", laid_net_url_table)], narrowed := true }
def FnPatchGivenUptoSaid : Prop := fnPatchGivenUptoRow.holds Tryd.pinned (OpenSpec.upto fnPatchGivenSpec)

/-- 'laws.FnPatchRead', WHERE WHAT IT READS IS OF BULK AT MOST 1048576: true; the input reads as it did. -/
def fnPatchReadUptoRow : OpenClaim := { program := "ythkiaiilpaojnaadoor", sum := "48292a9461ae29df58a69536504fb10b8094f58a0199ed755299d7c404d66576", func := "given.example/pub-enjambment/laws.FnPatchRead", spec := "fnPatchRead", inPlace := ["internal/abi.NoEscape", "internal/bytealg.MakeNoZero"], unfollowed := true, recurses := true, named := ["unicode/utf8.first", "unicode/utf8.acceptRanges", "strconv.ErrSyntax", "strconv.ErrRange", "internal/strconv.uint64pow10", "math/bits.deBruijn32tab", "math/bits.deBruijn64tab", "net/url.table"], apart := false, laid := [("math/bits.deBruijn32tab", laid_math_bits_deBruijn32tab), ("math/bits.deBruijn64tab", laid_math_bits_deBruijn64tab), ("internal/strconv.uint64pow10", laid_internal_strconv_uint64pow10), ("unicode/utf8.acceptRanges", laid_unicode_utf8_acceptRanges), ("strconv.ErrRange", laid_strconv_ErrRange), ("strconv.ErrSyntax", laid_strconv_ErrSyntax), ("net/url.table", laid_net_url_table), ("unicode/utf8.first", laid_unicode_utf8_first)], narrowed := true }
def FnPatchReadUptoSaid : Prop := fnPatchReadUptoRow.holds Tryd.pinned (OpenSpec.upto fnPatchReadSpec)

/-- 'laws.FnDeltaBack', WHERE WHAT IT READS IS OF BULK AT MOST 1048576: true; the input reads as it did. -/
def fnDeltaBackUptoRow : OpenClaim := { program := "ythkiaiilpaojnaadoor", sum := "48292a9461ae29df58a69536504fb10b8094f58a0199ed755299d7c404d66576", func := "given.example/pub-enjambment/laws.FnDeltaBack", spec := "fnDeltaBack", inPlace := ["internal/abi.NoEscape", "internal/bytealg.MakeNoZero"], unfollowed := true, recurses := true, named := ["bytes.ErrTooLarge", "net/url.table", "internal/strconv.uint64pow10", "math/bits.deBruijn32tab", "math/bits.deBruijn64tab", "unicode/utf8.first", "unicode/utf8.acceptRanges", "strconv.ErrSyntax", "strconv.ErrRange"], apart := false, laid := [("math/bits.deBruijn32tab", laid_math_bits_deBruijn32tab), ("math/bits.deBruijn64tab", laid_math_bits_deBruijn64tab), ("internal/strconv.uint64pow10", laid_internal_strconv_uint64pow10), ("unicode/utf8.acceptRanges", laid_unicode_utf8_acceptRanges), ("strconv.ErrRange", laid_strconv_ErrRange), ("strconv.ErrSyntax", laid_strconv_ErrSyntax), ("bytes.ErrTooLarge", laid_bytes_ErrTooLarge), ("net/url.table", laid_net_url_table), ("unicode/utf8.first", laid_unicode_utf8_first)], narrowed := true }
def FnDeltaBackUptoSaid : Prop := fnDeltaBackUptoRow.holds Tryd.pinned (OpenSpec.upto fnDeltaBackSpec)

/-- 'laws.FnLineMode', WHERE WHAT IT READS IS OF BULK AT MOST 1048576: true; the input reads as it did. -/
def fnLineModeUptoRow : OpenClaim := { program := "ythkiaiilpaojnaadoor", sum := "48292a9461ae29df58a69536504fb10b8094f58a0199ed755299d7c404d66576", func := "given.example/pub-enjambment/laws.FnLineMode", spec := "fnLineMode", inPlace := ["internal/abi.NoEscape", "internal/bytealg.MakeNoZero", "math.archMax", "math.Float64bits", "math.Float64frombits", "math.archMin"], unfollowed := true, recurses := true, named := ["unicode/utf8.first", "unicode/utf8.acceptRanges"], apart := false, laid := [("unicode/utf8.acceptRanges", laid_unicode_utf8_acceptRanges), ("unicode/utf8.first", laid_unicode_utf8_first)], narrowed := true }
def FnLineModeUptoSaid : Prop := fnLineModeUptoRow.holds Tryd.pinned (OpenSpec.upto fnLineModeSpec)

/-- 'laws.FnBisect', WHERE WHAT IT READS IS OF BULK AT MOST 1048576: true; the input reads as it did. -/
def fnBisectUptoRow : OpenClaim := { program := "ythkiaiilpaojnaadoor", sum := "48292a9461ae29df58a69536504fb10b8094f58a0199ed755299d7c404d66576", func := "given.example/pub-enjambment/laws.FnBisect", spec := "fnBisect", inPlace := ["internal/abi.NoEscape", "internal/bytealg.MakeNoZero", "math.archMax", "math.Float64bits", "math.Float64frombits", "math.archMin"], unfollowed := true, recurses := true, named := ["unicode/utf8.first", "unicode/utf8.acceptRanges"], apart := false, laid := [("unicode/utf8.acceptRanges", laid_unicode_utf8_acceptRanges), ("unicode/utf8.first", laid_unicode_utf8_first)], narrowed := true }
def FnBisectUptoSaid : Prop := fnBisectUptoRow.holds Tryd.pinned (OpenSpec.upto fnBisectSpec)

/-- 'laws.FnMainBack', WHERE WHAT IT READS IS OF BULK AT MOST 1048576: true; the input reads as it did. -/
def fnMainBackUptoRow : OpenClaim := { program := "ythkiaiilpaojnaadoor", sum := "48292a9461ae29df58a69536504fb10b8094f58a0199ed755299d7c404d66576", func := "given.example/pub-enjambment/laws.FnMainBack", spec := "fnMainBack", inPlace := ["internal/abi.NoEscape", "internal/bytealg.MakeNoZero", "math.archMax", "math.Float64bits", "math.Float64frombits", "math.archMin"], unfollowed := true, recurses := true, named := ["unicode/utf8.first", "unicode/utf8.acceptRanges"], apart := false, laid := [("unicode/utf8.acceptRanges", laid_unicode_utf8_acceptRanges), ("unicode/utf8.first", laid_unicode_utf8_first)], narrowed := true }
def FnMainBackUptoSaid : Prop := fnMainBackUptoRow.holds Tryd.pinned (OpenSpec.upto fnMainBackSpec)

/-- 'laws.FnMainBytes', WHERE WHAT IT READS IS OF BULK AT MOST 1048576: true; the input reads as it did. -/
def fnMainBytesUptoRow : OpenClaim := { program := "ythkiaiilpaojnaadoor", sum := "48292a9461ae29df58a69536504fb10b8094f58a0199ed755299d7c404d66576", func := "given.example/pub-enjambment/laws.FnMainBytes", spec := "fnMainBytes", inPlace := ["internal/abi.NoEscape", "internal/bytealg.MakeNoZero", "math.archMax", "math.Float64bits", "math.Float64frombits", "math.archMin"], unfollowed := true, recurses := true, named := ["unicode/utf8.first", "unicode/utf8.acceptRanges"], apart := false, laid := [("unicode/utf8.acceptRanges", laid_unicode_utf8_acceptRanges), ("unicode/utf8.first", laid_unicode_utf8_first)], narrowed := true }
def FnMainBytesUptoSaid : Prop := fnMainBytesUptoRow.holds Tryd.pinned (OpenSpec.upto fnMainBytesSpec)

/-- 'laws.FnMainHalf', WHERE WHAT IT READS IS OF BULK AT MOST 1048576: true; the input reads as it did. -/
def fnMainHalfUptoRow : OpenClaim := { program := "ythkiaiilpaojnaadoor", sum := "48292a9461ae29df58a69536504fb10b8094f58a0199ed755299d7c404d66576", func := "given.example/pub-enjambment/laws.FnMainHalf", spec := "fnMainHalf", inPlace := ["internal/abi.NoEscape", "internal/bytealg.MakeNoZero", "math.archMax", "math.Float64bits", "math.Float64frombits", "math.archMin"], unfollowed := true, recurses := true, named := ["unicode/utf8.first", "unicode/utf8.acceptRanges"], apart := false, laid := [("unicode/utf8.acceptRanges", laid_unicode_utf8_acceptRanges), ("unicode/utf8.first", laid_unicode_utf8_first)], narrowed := true }
def FnMainHalfUptoSaid : Prop := fnMainHalfUptoRow.holds Tryd.pinned (OpenSpec.upto fnMainHalfSpec)

/-- 'laws.FnMainLeast', WHERE WHAT IT READS IS OF BULK AT MOST 1048576: true; the input reads as it did. -/
def fnMainLeastUptoRow : OpenClaim := { program := "ythkiaiilpaojnaadoor", sum := "48292a9461ae29df58a69536504fb10b8094f58a0199ed755299d7c404d66576", func := "given.example/pub-enjambment/laws.FnMainLeast", spec := "fnMainLeast", inPlace := ["internal/abi.NoEscape", "internal/bytealg.MakeNoZero", "math.archMax", "math.Float64bits", "math.Float64frombits", "math.archMin"], unfollowed := true, recurses := true, named := ["unicode/utf8.first", "unicode/utf8.acceptRanges"], apart := false, laid := [("unicode/utf8.acceptRanges", laid_unicode_utf8_acceptRanges), ("unicode/utf8.first", laid_unicode_utf8_first)], narrowed := true }
def FnMainLeastUptoSaid : Prop := fnMainLeastUptoRow.holds Tryd.pinned (OpenSpec.upto fnMainLeastSpec)

/-- 'laws.FnMainSame', WHERE WHAT IT READS IS OF BULK AT MOST 1048576: true; the input reads as it did. -/
def fnMainSameUptoRow : OpenClaim := { program := "ythkiaiilpaojnaadoor", sum := "48292a9461ae29df58a69536504fb10b8094f58a0199ed755299d7c404d66576", func := "given.example/pub-enjambment/laws.FnMainSame", spec := "fnMainSame", inPlace := ["internal/abi.NoEscape", "internal/bytealg.MakeNoZero", "math.archMax", "math.Float64bits", "math.Float64frombits", "math.archMin"], unfollowed := true, recurses := true, named := ["unicode/utf8.first", "unicode/utf8.acceptRanges"], apart := false, laid := [("unicode/utf8.acceptRanges", laid_unicode_utf8_acceptRanges), ("unicode/utf8.first", laid_unicode_utf8_first)], narrowed := true }
def FnMainSameUptoSaid : Prop := fnMainSameUptoRow.holds Tryd.pinned (OpenSpec.upto fnMainSameSpec)

/-- 'laws.FnMainTexts', WHERE WHAT IT READS IS OF BULK AT MOST 1048576: true; the input reads as it did. -/
def fnMainTextsUptoRow : OpenClaim := { program := "ythkiaiilpaojnaadoor", sum := "48292a9461ae29df58a69536504fb10b8094f58a0199ed755299d7c404d66576", func := "given.example/pub-enjambment/laws.FnMainTexts", spec := "fnMainTexts", inPlace := ["internal/abi.NoEscape", "internal/bytealg.MakeNoZero", "math.archMax", "math.Float64bits", "math.Float64frombits", "math.archMin"], unfollowed := true, recurses := true, named := ["unicode/utf8.first", "unicode/utf8.acceptRanges"], apart := false, laid := [("unicode/utf8.acceptRanges", laid_unicode_utf8_acceptRanges), ("unicode/utf8.first", laid_unicode_utf8_first)], narrowed := true }
def FnMainTextsUptoSaid : Prop := fnMainTextsUptoRow.holds Tryd.pinned (OpenSpec.upto fnMainTextsSpec)

end Rows
end Go.Proofs.YthkiaiilpaojnaaDoor
