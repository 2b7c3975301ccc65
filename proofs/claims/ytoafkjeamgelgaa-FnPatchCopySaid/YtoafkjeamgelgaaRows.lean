/-
  No cell of these rows narrows 'for every input' (looked for: loops, veiled, ifaces, maps, wideKeys, modest, calm, conditions, laid).
  DERIVED. THE GIVEN ROWS OF THIS SEAT. 6 by the template 'for every input the law returns true; each argument reads behind the call as it read before'; 0 by the template 'total and deterministic' (their statements: YtoafkjeamgelgaaTotals.lean).
  GIVEN WITH THE SEED: the statements are not yours to turn. If you find one false, say at which input.
  Laid BY PROGRAM, IN A SANDBOX (cutbox-rows.mjs): the forced cells as the released guide's own fill.sh prints them over the translation e3b304c542b06eae… (all of the seat's roots in one cut). By AI agents, Wed Nov 11 2026. No macro, syntax, notation, axiom, sorry.
-/
import Derived.Test.YtoafkjeamgelgaaChecked
import GoSem.Claim
import GoSem.ClaimJoined
import GoSem.ClaimMapViews
import Derived.JoinedTies
import Derived.KernelRfl
namespace Go.Proofs.Ytoafkjeamgelgaa
/- THE CELL 'sum', in the pinned program and in every row, IS THE sha256 OF THE DUMP (.gsa) THAT YtoafkjeamgelgaaProg.lean LOADS. Nothing in Lean hashes anything: it is a label: what it is worth is what the hold of that sum in a sandbox is worth. -/
noncomputable def Try.pinned : Pinned := { name := "ytoafkjeamgelgaa", sum := "e3b304c542b06eaebb11220213144f9227a8260b47925af4ce1a869089c844f0", checked := Try.checked }
namespace Rows
def none {H : Type} : Left H := { results := [], args := [] }

/-- 'laws.FnPatchCopy': WHATEVER THE INPUT: true; the input reads as it did. -/
def fnPatchCopySpec : ChangeSpec := { name := "fnPatchCopy", fn := fun _ => fun
  | [d] => { results := [.lit (.bool true)], args := [d] }
  | _ => none }
def fnPatchCopyRow : OpenClaim := { program := "ytoafkjeamgelgaa", sum := "e3b304c542b06eaebb11220213144f9227a8260b47925af4ce1a869089c844f0", func := "given.example/pub-enjambment/laws.FnPatchCopy", spec := "fnPatchCopy", apart := false }
def FnPatchCopySaid : Prop := fnPatchCopyRow.holds Try.pinned (OpenSpec.ofChange fnPatchCopySpec)

/-- ITS FALSE NEIGHBOUR: 'it returns false'. Refute it at one input. -/
def fnPatchCopyWrong : ChangeSpec := { name := "fnPatchCopy", fn := fun _ => fun
  | [d] => { results := [.lit (.bool false)], args := [d] }
  | _ => none }
def FnPatchCopyWrongFalsely : Prop := fnPatchCopyRow.holds Try.pinned (OpenSpec.ofChange fnPatchCopyWrong)

/-- 'laws.FnHalfAt': WHATEVER THE INPUT: true; the input reads as it did. -/
def fnHalfAtSpec : ChangeSpec := { name := "fnHalfAt", fn := fun _ => fun
  | [d1, d2, d3] => { results := [.lit (.bool true)], args := [d1, d2, d3] }
  | _ => none }
def fnHalfAtRow : OpenClaim := { program := "ytoafkjeamgelgaa", sum := "e3b304c542b06eaebb11220213144f9227a8260b47925af4ce1a869089c844f0", func := "given.example/pub-enjambment/laws.FnHalfAt", spec := "fnHalfAt", unfollowed := true, recurses := true, apart := false }
def FnHalfAtSaid : Prop := fnHalfAtRow.holds Try.pinned (OpenSpec.ofChange fnHalfAtSpec)

/-- ITS FALSE NEIGHBOUR: 'it returns false'. Refute it at one input. -/
def fnHalfAtWrong : ChangeSpec := { name := "fnHalfAt", fn := fun _ => fun
  | [d1, d2, d3] => { results := [.lit (.bool false)], args := [d1, d2, d3] }
  | _ => none }
def FnHalfAtWrongFalsely : Prop := fnHalfAtRow.holds Try.pinned (OpenSpec.ofChange fnHalfAtWrong)

/-- 'laws.FnOverlap': WHATEVER THE INPUT: true; the input reads as it did. -/
def fnOverlapSpec : ChangeSpec := { name := "fnOverlap", fn := fun _ => fun
  | [d1, d2, d3] => { results := [.lit (.bool true)], args := [d1, d2, d3] }
  | _ => none }
def fnOverlapRow : OpenClaim := { program := "ytoafkjeamgelgaa", sum := "e3b304c542b06eaebb11220213144f9227a8260b47925af4ce1a869089c844f0", func := "given.example/pub-enjambment/laws.FnOverlap", spec := "fnOverlap", inPlace := ["math.archMin", "math.Float64bits", "math.Float64frombits"], apart := false }
def FnOverlapSaid : Prop := fnOverlapRow.holds Try.pinned (OpenSpec.ofChange fnOverlapSpec)

/-- ITS FALSE NEIGHBOUR: 'it returns false'. Refute it at one input. -/
def fnOverlapWrong : ChangeSpec := { name := "fnOverlap", fn := fun _ => fun
  | [d1, d2, d3] => { results := [.lit (.bool false)], args := [d1, d2, d3] }
  | _ => none }
def FnOverlapWrongFalsely : Prop := fnOverlapRow.holds Try.pinned (OpenSpec.ofChange fnOverlapWrong)

/-- 'laws.FnContext': WHATEVER THE INPUT: true; the input reads as it did. -/
def fnContextSpec : ChangeSpec := { name := "fnContext", fn := fun _ => fun
  | [d1, d2, d3, d4] => { results := [.lit (.bool true)], args := [d1, d2, d3, d4] }
  | _ => none }
def fnContextRow : OpenClaim := { program := "ytoafkjeamgelgaa", sum := "e3b304c542b06eaebb11220213144f9227a8260b47925af4ce1a869089c844f0", func := "given.example/pub-enjambment/laws.FnContext", spec := "fnContext", unfollowed := true, recurses := true, apart := false }
def FnContextSaid : Prop := fnContextRow.holds Try.pinned (OpenSpec.ofChange fnContextSpec)

/-- ITS FALSE NEIGHBOUR: 'it returns false'. Refute it at one input. -/
def fnContextWrong : ChangeSpec := { name := "fnContext", fn := fun _ => fun
  | [d1, d2, d3, d4] => { results := [.lit (.bool false)], args := [d1, d2, d3, d4] }
  | _ => none }
def FnContextWrongFalsely : Prop := fnContextRow.holds Try.pinned (OpenSpec.ofChange fnContextWrong)

/-- 'laws.FnHalfMatch': WHATEVER THE INPUT: true; the input reads as it did. -/
def fnHalfMatchSpec : ChangeSpec := { name := "fnHalfMatch", fn := fun _ => fun
  | [d1, d2] => { results := [.lit (.bool true)], args := [d1, d2] }
  | _ => none }
def fnHalfMatchRow : OpenClaim := { program := "ytoafkjeamgelgaa", sum := "e3b304c542b06eaebb11220213144f9227a8260b47925af4ce1a869089c844f0", func := "given.example/pub-enjambment/laws.FnHalfMatch", spec := "fnHalfMatch", unfollowed := true, recurses := true, apart := false }
def FnHalfMatchSaid : Prop := fnHalfMatchRow.holds Try.pinned (OpenSpec.ofChange fnHalfMatchSpec)

/-- ITS FALSE NEIGHBOUR: 'it returns false'. Refute it at one input. -/
def fnHalfMatchWrong : ChangeSpec := { name := "fnHalfMatch", fn := fun _ => fun
  | [d1, d2] => { results := [.lit (.bool false)], args := [d1, d2] }
  | _ => none }
def FnHalfMatchWrongFalsely : Prop := fnHalfMatchRow.holds Try.pinned (OpenSpec.ofChange fnHalfMatchWrong)

/-- 'laws.FnHalfNone': WHATEVER THE INPUT: true; the input reads as it did. -/
def fnHalfNoneSpec : ChangeSpec := { name := "fnHalfNone", fn := fun _ => fun
  | [d1, d2] => { results := [.lit (.bool true)], args := [d1, d2] }
  | _ => none }
def fnHalfNoneRow : OpenClaim := { program := "ytoafkjeamgelgaa", sum := "e3b304c542b06eaebb11220213144f9227a8260b47925af4ce1a869089c844f0", func := "given.example/pub-enjambment/laws.FnHalfNone", spec := "fnHalfNone", unfollowed := true, recurses := true, apart := false }
def FnHalfNoneSaid : Prop := fnHalfNoneRow.holds Try.pinned (OpenSpec.ofChange fnHalfNoneSpec)

/-- ITS FALSE NEIGHBOUR: 'it returns false'. Refute it at one input. -/
def fnHalfNoneWrong : ChangeSpec := { name := "fnHalfNone", fn := fun _ => fun
  | [d1, d2] => { results := [.lit (.bool false)], args := [d1, d2] }
  | _ => none }
def FnHalfNoneWrongFalsely : Prop := fnHalfNoneRow.holds Try.pinned (OpenSpec.ofChange fnHalfNoneWrong)

/- THE SECOND FORM. 'bulk': how many values and letters a reading holds, each counted each time it is reached (what is shared counts as often as it is met; a slice's spare places count too). A statement '..UptoSaid' is the law's where the arguments, and the package variables that the reading takes, are together of bulk at most 1048576: NARROWER than '..Said'. Prove '..Said' where nothing that the law and all that it calls make is longer than what came in: it says more and counts as full. Else prove '..UptoSaid'. A law counts once. -/
mutual
def uptoBulk {H : Type} : DataW H → Nat
  | .lit (.string bytes) => bytes.length + 1
  | .lit _ => 1
  | .nil => 1
  | .ptr d => uptoBulk d + 1
  | .slice elems spare => uptoBulkAll elems + uptoBulkAll spare + 1
  | .agg parts => uptoBulkAll parts + 1
  | .iface _ d => uptoBulk d + 1
  | .map entries => uptoBulkEntries entries + 1
  | .held _ => 1
def uptoBulkAll {H : Type} : List (DataW H) → Nat
  | [] => 0
  | d :: r => uptoBulk d + uptoBulkAll r
def uptoBulkEntries {H : Type} : List (Lit × DataW H) → Nat
  | [] => 0
  | x :: r => uptoBulkEntry x + uptoBulkEntries r
def uptoBulkEntry {H : Type} : Lit × DataW H → Nat
  | (.string bytes, d) => bytes.length + uptoBulk d + 1
  | (_, d) => uptoBulk d + 1
 end
def uptoSmall : (H : Type) → List (DataW H) → Bool := fun _ ds => decide (uptoBulkAll ds ≤ 1048576)
def OpenSpec.upto (s : _root_.Go.ChangeSpec) : _root_.Go.OpenSpec := { _root_.Go.OpenSpec.ofChange s with cond := some uptoSmall }

/-- 'laws.FnPatchCopy', WHERE WHAT IT READS IS OF BULK AT MOST 1048576: true; the input reads as it did. -/
def fnPatchCopyUptoRow : OpenClaim := { program := "ytoafkjeamgelgaa", sum := "e3b304c542b06eaebb11220213144f9227a8260b47925af4ce1a869089c844f0", func := "given.example/pub-enjambment/laws.FnPatchCopy", spec := "fnPatchCopy", apart := false, narrowed := true }
def FnPatchCopyUptoSaid : Prop := fnPatchCopyUptoRow.holds Try.pinned (OpenSpec.upto fnPatchCopySpec)

/-- 'laws.FnHalfAt', WHERE WHAT IT READS IS OF BULK AT MOST 1048576: true; the input reads as it did. -/
def fnHalfAtUptoRow : OpenClaim := { program := "ytoafkjeamgelgaa", sum := "e3b304c542b06eaebb11220213144f9227a8260b47925af4ce1a869089c844f0", func := "given.example/pub-enjambment/laws.FnHalfAt", spec := "fnHalfAt", unfollowed := true, recurses := true, apart := false, narrowed := true }
def FnHalfAtUptoSaid : Prop := fnHalfAtUptoRow.holds Try.pinned (OpenSpec.upto fnHalfAtSpec)

/-- 'laws.FnOverlap', WHERE WHAT IT READS IS OF BULK AT MOST 1048576: true; the input reads as it did. -/
def fnOverlapUptoRow : OpenClaim := { program := "ytoafkjeamgelgaa", sum := "e3b304c542b06eaebb11220213144f9227a8260b47925af4ce1a869089c844f0", func := "given.example/pub-enjambment/laws.FnOverlap", spec := "fnOverlap", inPlace := ["math.archMin", "math.Float64bits", "math.Float64frombits"], apart := false, narrowed := true }
def FnOverlapUptoSaid : Prop := fnOverlapUptoRow.holds Try.pinned (OpenSpec.upto fnOverlapSpec)

/-- 'laws.FnContext', WHERE WHAT IT READS IS OF BULK AT MOST 1048576: true; the input reads as it did. -/
def fnContextUptoRow : OpenClaim := { program := "ytoafkjeamgelgaa", sum := "e3b304c542b06eaebb11220213144f9227a8260b47925af4ce1a869089c844f0", func := "given.example/pub-enjambment/laws.FnContext", spec := "fnContext", unfollowed := true, recurses := true, apart := false, narrowed := true }
def FnContextUptoSaid : Prop := fnContextUptoRow.holds Try.pinned (OpenSpec.upto fnContextSpec)

/-- 'laws.FnHalfMatch', WHERE WHAT IT READS IS OF BULK AT MOST 1048576: true; the input reads as it did. -/
def fnHalfMatchUptoRow : OpenClaim := { program := "ytoafkjeamgelgaa", sum := "e3b304c542b06eaebb11220213144f9227a8260b47925af4ce1a869089c844f0", func := "given.example/pub-enjambment/laws.FnHalfMatch", spec := "fnHalfMatch", unfollowed := true, recurses := true, apart := false, narrowed := true }
def FnHalfMatchUptoSaid : Prop := fnHalfMatchUptoRow.holds Try.pinned (OpenSpec.upto fnHalfMatchSpec)

/-- 'laws.FnHalfNone', WHERE WHAT IT READS IS OF BULK AT MOST 1048576: true; the input reads as it did. -/
def fnHalfNoneUptoRow : OpenClaim := { program := "ytoafkjeamgelgaa", sum := "e3b304c542b06eaebb11220213144f9227a8260b47925af4ce1a869089c844f0", func := "given.example/pub-enjambment/laws.FnHalfNone", spec := "fnHalfNone", unfollowed := true, recurses := true, apart := false, narrowed := true }
def FnHalfNoneUptoSaid : Prop := fnHalfNoneUptoRow.holds Try.pinned (OpenSpec.upto fnHalfNoneSpec)

end Rows
end Go.Proofs.Ytoafkjeamgelgaa
