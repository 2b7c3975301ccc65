/-
  DERIVED. GIVEN WITH THE SEED: THE CARDS: each row of YtopcfcpbcilfaaaGreatDoorRows.lean that lists a variable, with what it lists TIED to the program's text (the seventh form; the later family's looks); each row that meets fmt, with fmt's text TOLD by the authors' own Lean function (tested against real Go, not proved from fmt's source: count such statements apart). THE CARD IS WHAT COUNTS. Prove the row's statement (the work); the ties are given (YtopcfcpbcilfaaaGreatDoorTie.lean); close each card by the builder's one call (the guide's Derived/Test/ToyasCard.lean, 'card_holds'). Laid BY PROGRAM, IN A SANDBOX (cutbox-door.mjs). By AI agents, Wed Nov 11 2026. No macro, syntax, notation, axiom, sorry.
-/
import Derived.Test.YtopcfcpbcilfaaaGreatDoorRows
import GoSem.ClaimSeven
namespace Go.Proofs.YtopcfcpbcilfaaaGreatDoor
namespace Rows

/-- THE TIED CARD OF 'laws.FnEfficiencyExact'. -/
def fnEfficiencyExactCard : Claim7 := { stood := { row := fnEfficiencyExactRow, standIns := [], harness := (true, "3e6fdb79558f0bbea157a460cc89950709b69a35cedffbe046c9757b21bb7309"), looks := true }, kinds := [], alts := [], laidByText := true, laidKinds := [.data, .pinned], laidTests := true, laidLooks := .later }
def FnEfficiencyExactCardSaid : Prop := Claim7.holds Tryz.pinned (.plain (OpenSpec.ofChange fnEfficiencyExactSpec)) fnEfficiencyExactCard

/-- THE TIED CARD OF 'laws.FnPatchFits'. -/
def fnPatchFitsCard : Claim7 := { stood := { row := fnPatchFitsRow, standIns := [], harness := (true, "3e6fdb79558f0bbea157a460cc89950709b69a35cedffbe046c9757b21bb7309"), looks := true }, kinds := [], alts := [], laidByText := true, laidKinds := [.data, .sentinel, .pinned], laidTests := true, laidLooks := .later }
def FnPatchFitsCardSaid : Prop := Claim7.holds Tryz.pinned (.plain (OpenSpec.ofChange fnPatchFitsSpec)) fnPatchFitsCard

/-- THE TIED CARD OF 'laws.FnPatchWays'. -/
def fnPatchWaysCard : Claim7 := { stood := { row := fnPatchWaysRow, standIns := [], harness := (true, "3e6fdb79558f0bbea157a460cc89950709b69a35cedffbe046c9757b21bb7309"), looks := true }, kinds := [], alts := [], laidByText := true, laidKinds := [.data, .sentinel, .pinned], laidTests := true, laidLooks := .later }
def FnPatchWaysCardSaid : Prop := Claim7.holds Tryz.pinned (.plain (OpenSpec.ofChange fnPatchWaysSpec)) fnPatchWaysCard

/-- THE TIED CARD OF 'laws.FnPatchPadded'. -/
def fnPatchPaddedCard : Claim7 := { stood := { row := fnPatchPaddedRow, standIns := [], harness := (true, "3e6fdb79558f0bbea157a460cc89950709b69a35cedffbe046c9757b21bb7309"), looks := true }, kinds := [], alts := [], laidByText := true, laidKinds := [.data, .sentinel, .pinned], laidTests := true, laidLooks := .later }
def FnPatchPaddedCardSaid : Prop := Claim7.holds Tryz.pinned (.plain (OpenSpec.ofChange fnPatchPaddedSpec)) fnPatchPaddedCard

/-- THE TIED CARD OF 'laws.FnPatchShort'. -/
def fnPatchShortCard : Claim7 := { stood := { row := fnPatchShortRow, standIns := [], harness := (true, "3e6fdb79558f0bbea157a460cc89950709b69a35cedffbe046c9757b21bb7309"), looks := true }, kinds := [], alts := [], laidByText := true, laidKinds := [.data, .sentinel, .pinned], laidTests := true, laidLooks := .later }
def FnPatchShortCardSaid : Prop := Claim7.holds Tryz.pinned (.plain (OpenSpec.ofChange fnPatchShortSpec)) fnPatchShortCard

/-- THE TIED CARD OF 'laws.FnPatchNone'. -/
def fnPatchNoneCard : Claim7 := { stood := { row := fnPatchNoneRow, standIns := [], harness := (true, "3e6fdb79558f0bbea157a460cc89950709b69a35cedffbe046c9757b21bb7309"), looks := true }, kinds := [], alts := [], laidByText := true, laidKinds := [.data, .sentinel, .pinned], laidTests := true, laidLooks := .later }
def FnPatchNoneCardSaid : Prop := Claim7.holds Tryz.pinned (.plain (OpenSpec.ofChange fnPatchNoneSpec)) fnPatchNoneCard

/-- THE SECOND FORM's CARD OF 'laws.FnEfficiencyExact'. -/
def fnEfficiencyExactUptoCard : Claim7 := { stood := { row := fnEfficiencyExactUptoRow, standIns := [], harness := (true, "3e6fdb79558f0bbea157a460cc89950709b69a35cedffbe046c9757b21bb7309"), looks := true }, kinds := [], alts := [], laidByText := true, laidKinds := [.data, .pinned], laidTests := true, laidLooks := .later }
def FnEfficiencyExactUptoCardSaid : Prop := Claim7.holds Tryz.pinned (.plain (OpenSpec.upto fnEfficiencyExactSpec)) fnEfficiencyExactUptoCard

/-- THE SECOND FORM's CARD OF 'laws.FnPatchFits'. -/
def fnPatchFitsUptoCard : Claim7 := { stood := { row := fnPatchFitsUptoRow, standIns := [], harness := (true, "3e6fdb79558f0bbea157a460cc89950709b69a35cedffbe046c9757b21bb7309"), looks := true }, kinds := [], alts := [], laidByText := true, laidKinds := [.data, .sentinel, .pinned], laidTests := true, laidLooks := .later }
def FnPatchFitsUptoCardSaid : Prop := Claim7.holds Tryz.pinned (.plain (OpenSpec.upto fnPatchFitsSpec)) fnPatchFitsUptoCard

/-- THE SECOND FORM's CARD OF 'laws.FnPatchWays'. -/
def fnPatchWaysUptoCard : Claim7 := { stood := { row := fnPatchWaysUptoRow, standIns := [], harness := (true, "3e6fdb79558f0bbea157a460cc89950709b69a35cedffbe046c9757b21bb7309"), looks := true }, kinds := [], alts := [], laidByText := true, laidKinds := [.data, .sentinel, .pinned], laidTests := true, laidLooks := .later }
def FnPatchWaysUptoCardSaid : Prop := Claim7.holds Tryz.pinned (.plain (OpenSpec.upto fnPatchWaysSpec)) fnPatchWaysUptoCard

/-- THE SECOND FORM's CARD OF 'laws.FnPatchPadded'. -/
def fnPatchPaddedUptoCard : Claim7 := { stood := { row := fnPatchPaddedUptoRow, standIns := [], harness := (true, "3e6fdb79558f0bbea157a460cc89950709b69a35cedffbe046c9757b21bb7309"), looks := true }, kinds := [], alts := [], laidByText := true, laidKinds := [.data, .sentinel, .pinned], laidTests := true, laidLooks := .later }
def FnPatchPaddedUptoCardSaid : Prop := Claim7.holds Tryz.pinned (.plain (OpenSpec.upto fnPatchPaddedSpec)) fnPatchPaddedUptoCard

/-- THE SECOND FORM's CARD OF 'laws.FnPatchShort'. -/
def fnPatchShortUptoCard : Claim7 := { stood := { row := fnPatchShortUptoRow, standIns := [], harness := (true, "3e6fdb79558f0bbea157a460cc89950709b69a35cedffbe046c9757b21bb7309"), looks := true }, kinds := [], alts := [], laidByText := true, laidKinds := [.data, .sentinel, .pinned], laidTests := true, laidLooks := .later }
def FnPatchShortUptoCardSaid : Prop := Claim7.holds Tryz.pinned (.plain (OpenSpec.upto fnPatchShortSpec)) fnPatchShortUptoCard

/-- THE SECOND FORM's CARD OF 'laws.FnPatchNone'. -/
def fnPatchNoneUptoCard : Claim7 := { stood := { row := fnPatchNoneUptoRow, standIns := [], harness := (true, "3e6fdb79558f0bbea157a460cc89950709b69a35cedffbe046c9757b21bb7309"), looks := true }, kinds := [], alts := [], laidByText := true, laidKinds := [.data, .sentinel, .pinned], laidTests := true, laidLooks := .later }
def FnPatchNoneUptoCardSaid : Prop := Claim7.holds Tryz.pinned (.plain (OpenSpec.upto fnPatchNoneSpec)) fnPatchNoneUptoCard
end Rows
end Go.Proofs.YtopcfcpbcilfaaaGreatDoor
