/-
  DERIVED. GIVEN WITH THE SEED: THE CARDS: each row of YthkiaiilpaojnaaDoorRows.lean that lists a variable, with what it lists TIED to the program's text (the seventh form; the later family's looks); each row that meets fmt, with fmt's text TOLD by the authors' own Lean function (tested against real Go, not proved from fmt's source: count such statements apart). THE CARD IS WHAT COUNTS. Prove the row's statement (the work); the ties are given (YthkiaiilpaojnaaDoorTie.lean); close each card by the builder's one call (the guide's Derived/Test/ToyasCard.lean, 'card_holds'). Laid BY PROGRAM, IN A SANDBOX (cutbox-door.mjs). By AI agents, Wed Nov 11 2026. No macro, syntax, notation, axiom, sorry.
-/
import Derived.Test.YthkiaiilpaojnaaDoorRows
import GoSem.ClaimSeven
namespace Go.Proofs.YthkiaiilpaojnaaDoor
namespace Rows

/-- THE TIED CARD OF 'laws.FnDeltaRead'. -/
def fnDeltaReadCard : Claim7 := { stood := { row := fnDeltaReadRow, standIns := [], harness := (true, "2c0629d4233df349e88966495e910cab284bede9f03caa6497b3b84ff4ab5fcd"), looks := true }, kinds := [], alts := [], laidByText := true, laidKinds := [.data, .data, .data, .data, .sentinel, .sentinel, .data, .pinned], laidTests := true, laidLooks := .later }
def FnDeltaReadCardSaid : Prop := Claim7.holds Tryd.pinned (.plain (OpenSpec.ofChange fnDeltaReadSpec)) fnDeltaReadCard

/-- THE TIED CARD OF 'laws.FnPatchGiven'. -/
def fnPatchGivenCard : Claim7 := { stood := { row := fnPatchGivenRow, standIns := [], harness := (true, "2c0629d4233df349e88966495e910cab284bede9f03caa6497b3b84ff4ab5fcd"), looks := true }, kinds := [], alts := [], laidByText := true, laidKinds := [.data, .data, .data, .sentinel, .sentinel, .data], laidTests := true, laidLooks := .later }
def FnPatchGivenCardSaid : Prop := Claim7.holds Tryd.pinned (.plain (OpenSpec.ofChange fnPatchGivenSpec)) fnPatchGivenCard

/-- THE TIED CARD OF 'laws.FnPatchRead'. -/
def fnPatchReadCard : Claim7 := { stood := { row := fnPatchReadRow, standIns := [], harness := (true, "2c0629d4233df349e88966495e910cab284bede9f03caa6497b3b84ff4ab5fcd"), looks := true }, kinds := [], alts := [], laidByText := true, laidKinds := [.data, .data, .data, .data, .sentinel, .sentinel, .data, .pinned], laidTests := true, laidLooks := .later }
def FnPatchReadCardSaid : Prop := Claim7.holds Tryd.pinned (.plain (OpenSpec.ofChange fnPatchReadSpec)) fnPatchReadCard

/-- THE TIED CARD OF 'laws.FnDeltaBack'. -/
def fnDeltaBackCard : Claim7 := { stood := { row := fnDeltaBackRow, standIns := [], harness := (true, "2c0629d4233df349e88966495e910cab284bede9f03caa6497b3b84ff4ab5fcd"), looks := true }, kinds := [], alts := [], laidByText := true, laidKinds := [.data, .data, .data, .data, .sentinel, .sentinel, .sentinel, .data, .pinned], laidTests := true, laidLooks := .later }
def FnDeltaBackCardSaid : Prop := Claim7.holds Tryd.pinned (.plain (OpenSpec.ofChange fnDeltaBackSpec)) fnDeltaBackCard

/-- THE TIED CARD OF 'laws.FnLineMode'. -/
def fnLineModeCard : Claim7 := { stood := { row := fnLineModeRow, standIns := [], harness := (true, "2c0629d4233df349e88966495e910cab284bede9f03caa6497b3b84ff4ab5fcd"), looks := true }, kinds := [], alts := [], laidByText := true, laidKinds := [.data, .pinned], laidTests := true, laidLooks := .later }
def FnLineModeCardSaid : Prop := Claim7.holds Tryd.pinned (.plain (OpenSpec.ofChange fnLineModeSpec)) fnLineModeCard

/-- THE TIED CARD OF 'laws.FnBisect'. -/
def fnBisectCard : Claim7 := { stood := { row := fnBisectRow, standIns := [], harness := (true, "2c0629d4233df349e88966495e910cab284bede9f03caa6497b3b84ff4ab5fcd"), looks := true }, kinds := [], alts := [], laidByText := true, laidKinds := [.data, .pinned], laidTests := true, laidLooks := .later }
def FnBisectCardSaid : Prop := Claim7.holds Tryd.pinned (.plain (OpenSpec.ofChange fnBisectSpec)) fnBisectCard

/-- THE TIED CARD OF 'laws.FnMainBack'. -/
def fnMainBackCard : Claim7 := { stood := { row := fnMainBackRow, standIns := [], harness := (true, "2c0629d4233df349e88966495e910cab284bede9f03caa6497b3b84ff4ab5fcd"), looks := true }, kinds := [], alts := [], laidByText := true, laidKinds := [.data, .pinned], laidTests := true, laidLooks := .later }
def FnMainBackCardSaid : Prop := Claim7.holds Tryd.pinned (.plain (OpenSpec.ofChange fnMainBackSpec)) fnMainBackCard

/-- THE TIED CARD OF 'laws.FnMainBytes'. -/
def fnMainBytesCard : Claim7 := { stood := { row := fnMainBytesRow, standIns := [], harness := (true, "2c0629d4233df349e88966495e910cab284bede9f03caa6497b3b84ff4ab5fcd"), looks := true }, kinds := [], alts := [], laidByText := true, laidKinds := [.data, .pinned], laidTests := true, laidLooks := .later }
def FnMainBytesCardSaid : Prop := Claim7.holds Tryd.pinned (.plain (OpenSpec.ofChange fnMainBytesSpec)) fnMainBytesCard

/-- THE TIED CARD OF 'laws.FnMainHalf'. -/
def fnMainHalfCard : Claim7 := { stood := { row := fnMainHalfRow, standIns := [], harness := (true, "2c0629d4233df349e88966495e910cab284bede9f03caa6497b3b84ff4ab5fcd"), looks := true }, kinds := [], alts := [], laidByText := true, laidKinds := [.data, .pinned], laidTests := true, laidLooks := .later }
def FnMainHalfCardSaid : Prop := Claim7.holds Tryd.pinned (.plain (OpenSpec.ofChange fnMainHalfSpec)) fnMainHalfCard

/-- THE TIED CARD OF 'laws.FnMainLeast'. -/
def fnMainLeastCard : Claim7 := { stood := { row := fnMainLeastRow, standIns := [], harness := (true, "2c0629d4233df349e88966495e910cab284bede9f03caa6497b3b84ff4ab5fcd"), looks := true }, kinds := [], alts := [], laidByText := true, laidKinds := [.data, .pinned], laidTests := true, laidLooks := .later }
def FnMainLeastCardSaid : Prop := Claim7.holds Tryd.pinned (.plain (OpenSpec.ofChange fnMainLeastSpec)) fnMainLeastCard

/-- THE TIED CARD OF 'laws.FnMainSame'. -/
def fnMainSameCard : Claim7 := { stood := { row := fnMainSameRow, standIns := [], harness := (true, "2c0629d4233df349e88966495e910cab284bede9f03caa6497b3b84ff4ab5fcd"), looks := true }, kinds := [], alts := [], laidByText := true, laidKinds := [.data, .pinned], laidTests := true, laidLooks := .later }
def FnMainSameCardSaid : Prop := Claim7.holds Tryd.pinned (.plain (OpenSpec.ofChange fnMainSameSpec)) fnMainSameCard

/-- THE TIED CARD OF 'laws.FnMainTexts'. -/
def fnMainTextsCard : Claim7 := { stood := { row := fnMainTextsRow, standIns := [], harness := (true, "2c0629d4233df349e88966495e910cab284bede9f03caa6497b3b84ff4ab5fcd"), looks := true }, kinds := [], alts := [], laidByText := true, laidKinds := [.data, .pinned], laidTests := true, laidLooks := .later }
def FnMainTextsCardSaid : Prop := Claim7.holds Tryd.pinned (.plain (OpenSpec.ofChange fnMainTextsSpec)) fnMainTextsCard

/-- THE SECOND FORM's CARD OF 'laws.FnDeltaRead'. -/
def fnDeltaReadUptoCard : Claim7 := { stood := { row := fnDeltaReadUptoRow, standIns := [], harness := (true, "2c0629d4233df349e88966495e910cab284bede9f03caa6497b3b84ff4ab5fcd"), looks := true }, kinds := [], alts := [], laidByText := true, laidKinds := [.data, .data, .data, .data, .sentinel, .sentinel, .data, .pinned], laidTests := true, laidLooks := .later }
def FnDeltaReadUptoCardSaid : Prop := Claim7.holds Tryd.pinned (.plain (OpenSpec.upto fnDeltaReadSpec)) fnDeltaReadUptoCard

/-- THE SECOND FORM's CARD OF 'laws.FnPatchGiven'. -/
def fnPatchGivenUptoCard : Claim7 := { stood := { row := fnPatchGivenUptoRow, standIns := [], harness := (true, "2c0629d4233df349e88966495e910cab284bede9f03caa6497b3b84ff4ab5fcd"), looks := true }, kinds := [], alts := [], laidByText := true, laidKinds := [.data, .data, .data, .sentinel, .sentinel, .data], laidTests := true, laidLooks := .later }
def FnPatchGivenUptoCardSaid : Prop := Claim7.holds Tryd.pinned (.plain (OpenSpec.upto fnPatchGivenSpec)) fnPatchGivenUptoCard

/-- THE SECOND FORM's CARD OF 'laws.FnPatchRead'. -/
def fnPatchReadUptoCard : Claim7 := { stood := { row := fnPatchReadUptoRow, standIns := [], harness := (true, "2c0629d4233df349e88966495e910cab284bede9f03caa6497b3b84ff4ab5fcd"), looks := true }, kinds := [], alts := [], laidByText := true, laidKinds := [.data, .data, .data, .data, .sentinel, .sentinel, .data, .pinned], laidTests := true, laidLooks := .later }
def FnPatchReadUptoCardSaid : Prop := Claim7.holds Tryd.pinned (.plain (OpenSpec.upto fnPatchReadSpec)) fnPatchReadUptoCard

/-- THE SECOND FORM's CARD OF 'laws.FnDeltaBack'. -/
def fnDeltaBackUptoCard : Claim7 := { stood := { row := fnDeltaBackUptoRow, standIns := [], harness := (true, "2c0629d4233df349e88966495e910cab284bede9f03caa6497b3b84ff4ab5fcd"), looks := true }, kinds := [], alts := [], laidByText := true, laidKinds := [.data, .data, .data, .data, .sentinel, .sentinel, .sentinel, .data, .pinned], laidTests := true, laidLooks := .later }
def FnDeltaBackUptoCardSaid : Prop := Claim7.holds Tryd.pinned (.plain (OpenSpec.upto fnDeltaBackSpec)) fnDeltaBackUptoCard

/-- THE SECOND FORM's CARD OF 'laws.FnLineMode'. -/
def fnLineModeUptoCard : Claim7 := { stood := { row := fnLineModeUptoRow, standIns := [], harness := (true, "2c0629d4233df349e88966495e910cab284bede9f03caa6497b3b84ff4ab5fcd"), looks := true }, kinds := [], alts := [], laidByText := true, laidKinds := [.data, .pinned], laidTests := true, laidLooks := .later }
def FnLineModeUptoCardSaid : Prop := Claim7.holds Tryd.pinned (.plain (OpenSpec.upto fnLineModeSpec)) fnLineModeUptoCard

/-- THE SECOND FORM's CARD OF 'laws.FnBisect'. -/
def fnBisectUptoCard : Claim7 := { stood := { row := fnBisectUptoRow, standIns := [], harness := (true, "2c0629d4233df349e88966495e910cab284bede9f03caa6497b3b84ff4ab5fcd"), looks := true }, kinds := [], alts := [], laidByText := true, laidKinds := [.data, .pinned], laidTests := true, laidLooks := .later }
def FnBisectUptoCardSaid : Prop := Claim7.holds Tryd.pinned (.plain (OpenSpec.upto fnBisectSpec)) fnBisectUptoCard

/-- THE SECOND FORM's CARD OF 'laws.FnMainBack'. -/
def fnMainBackUptoCard : Claim7 := { stood := { row := fnMainBackUptoRow, standIns := [], harness := (true, "2c0629d4233df349e88966495e910cab284bede9f03caa6497b3b84ff4ab5fcd"), looks := true }, kinds := [], alts := [], laidByText := true, laidKinds := [.data, .pinned], laidTests := true, laidLooks := .later }
def FnMainBackUptoCardSaid : Prop := Claim7.holds Tryd.pinned (.plain (OpenSpec.upto fnMainBackSpec)) fnMainBackUptoCard

/-- THE SECOND FORM's CARD OF 'laws.FnMainBytes'. -/
def fnMainBytesUptoCard : Claim7 := { stood := { row := fnMainBytesUptoRow, standIns := [], harness := (true, "2c0629d4233df349e88966495e910cab284bede9f03caa6497b3b84ff4ab5fcd"), looks := true }, kinds := [], alts := [], laidByText := true, laidKinds := [.data, .pinned], laidTests := true, laidLooks := .later }
def FnMainBytesUptoCardSaid : Prop := Claim7.holds Tryd.pinned (.plain (OpenSpec.upto fnMainBytesSpec)) fnMainBytesUptoCard

/-- THE SECOND FORM's CARD OF 'laws.FnMainHalf'. -/
def fnMainHalfUptoCard : Claim7 := { stood := { row := fnMainHalfUptoRow, standIns := [], harness := (true, "2c0629d4233df349e88966495e910cab284bede9f03caa6497b3b84ff4ab5fcd"), looks := true }, kinds := [], alts := [], laidByText := true, laidKinds := [.data, .pinned], laidTests := true, laidLooks := .later }
def FnMainHalfUptoCardSaid : Prop := Claim7.holds Tryd.pinned (.plain (OpenSpec.upto fnMainHalfSpec)) fnMainHalfUptoCard

/-- THE SECOND FORM's CARD OF 'laws.FnMainLeast'. -/
def fnMainLeastUptoCard : Claim7 := { stood := { row := fnMainLeastUptoRow, standIns := [], harness := (true, "2c0629d4233df349e88966495e910cab284bede9f03caa6497b3b84ff4ab5fcd"), looks := true }, kinds := [], alts := [], laidByText := true, laidKinds := [.data, .pinned], laidTests := true, laidLooks := .later }
def FnMainLeastUptoCardSaid : Prop := Claim7.holds Tryd.pinned (.plain (OpenSpec.upto fnMainLeastSpec)) fnMainLeastUptoCard

/-- THE SECOND FORM's CARD OF 'laws.FnMainSame'. -/
def fnMainSameUptoCard : Claim7 := { stood := { row := fnMainSameUptoRow, standIns := [], harness := (true, "2c0629d4233df349e88966495e910cab284bede9f03caa6497b3b84ff4ab5fcd"), looks := true }, kinds := [], alts := [], laidByText := true, laidKinds := [.data, .pinned], laidTests := true, laidLooks := .later }
def FnMainSameUptoCardSaid : Prop := Claim7.holds Tryd.pinned (.plain (OpenSpec.upto fnMainSameSpec)) fnMainSameUptoCard

/-- THE SECOND FORM's CARD OF 'laws.FnMainTexts'. -/
def fnMainTextsUptoCard : Claim7 := { stood := { row := fnMainTextsUptoRow, standIns := [], harness := (true, "2c0629d4233df349e88966495e910cab284bede9f03caa6497b3b84ff4ab5fcd"), looks := true }, kinds := [], alts := [], laidByText := true, laidKinds := [.data, .pinned], laidTests := true, laidLooks := .later }
def FnMainTextsUptoCardSaid : Prop := Claim7.holds Tryd.pinned (.plain (OpenSpec.upto fnMainTextsSpec)) fnMainTextsUptoCard
end Rows
end Go.Proofs.YthkiaiilpaojnaaDoor
