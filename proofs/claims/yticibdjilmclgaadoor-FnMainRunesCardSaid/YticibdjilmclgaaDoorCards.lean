/-
  DERIVED. GIVEN WITH THE SEED: THE CARDS: each row of YticibdjilmclgaaDoorRows.lean that lists a variable, with what it lists TIED to the program's text (the seventh form; the later family's looks); each row that meets fmt, with fmt's text TOLD by the authors' own Lean function (tested against real Go, not proved from fmt's source: count such statements apart). THE CARD IS WHAT COUNTS. Prove the row's statement (the work); the ties are given (YticibdjilmclgaaDoorTie.lean); close each card by the builder's one call (the guide's Derived/Test/ToyasCard.lean, 'card_holds'). Laid BY PROGRAM, IN A SANDBOX (cutbox-door.mjs). By AI agents, Wed Nov 11 2026. No macro, syntax, notation, axiom, sorry.
-/
import Derived.Test.YticibdjilmclgaaDoorRows
import GoSem.ClaimSeven
namespace Go.Proofs.YticibdjilmclgaaDoor
namespace Rows

/-- THE TIED CARD OF 'laws.FnMainThree'. -/
def fnMainThreeCard : Claim7 := { stood := { row := fnMainThreeRow, standIns := [], harness := (true, "75dc6ca2bec3d153895af6b186b32084dc0338774975aa44d1653b41c12b5c00"), looks := false }, kinds := [], alts := [], laidByText := true, laidKinds := [.data, .pinned], laidTests := true, laidLooks := .later }
def FnMainThreeCardSaid : Prop := Claim7.holds Tryd.pinned (.plain (OpenSpec.ofChange fnMainThreeSpec)) fnMainThreeCard

/-- THE TIED CARD OF 'laws.FnMainTidy'. -/
def fnMainTidyCard : Claim7 := { stood := { row := fnMainTidyRow, standIns := [], harness := (true, "75dc6ca2bec3d153895af6b186b32084dc0338774975aa44d1653b41c12b5c00"), looks := false }, kinds := [], alts := [], laidByText := true, laidKinds := [.data, .pinned], laidTests := true, laidLooks := .later }
def FnMainTidyCardSaid : Prop := Claim7.holds Tryd.pinned (.plain (OpenSpec.ofChange fnMainTidySpec)) fnMainTidyCard

/-- THE TIED CARD OF 'laws.FnMainWithin'. -/
def fnMainWithinCard : Claim7 := { stood := { row := fnMainWithinRow, standIns := [], harness := (true, "75dc6ca2bec3d153895af6b186b32084dc0338774975aa44d1653b41c12b5c00"), looks := false }, kinds := [], alts := [], laidByText := true, laidKinds := [.data, .pinned], laidTests := true, laidLooks := .later }
def FnMainWithinCardSaid : Prop := Claim7.holds Tryd.pinned (.plain (OpenSpec.ofChange fnMainWithinSpec)) fnMainWithinCard

/-- THE TIED CARD OF 'laws.FnMainRunes'. -/
def fnMainRunesCard : Claim7 := { stood := { row := fnMainRunesRow, standIns := [], harness := (true, "75dc6ca2bec3d153895af6b186b32084dc0338774975aa44d1653b41c12b5c00"), looks := false }, kinds := [], alts := [], laidByText := true, laidKinds := [.data, .pinned], laidTests := true, laidLooks := .later }
def FnMainRunesCardSaid : Prop := Claim7.holds Tryd.pinned (.plain (OpenSpec.ofChange fnMainRunesSpec)) fnMainRunesCard

/-- THE TIED CARD OF 'laws.FnLosslessEdits'. -/
def fnLosslessEditsCard : Claim7 := { stood := { row := fnLosslessEditsRow, standIns := [], harness := (true, "75dc6ca2bec3d153895af6b186b32084dc0338774975aa44d1653b41c12b5c00"), looks := false }, kinds := [], alts := [], laidByText := true, laidKinds := [.data, .pinned], laidTests := true, laidLooks := .later }
def FnLosslessEditsCardSaid : Prop := Claim7.holds Tryd.pinned (.plain (OpenSpec.ofChange fnLosslessEditsSpec)) fnLosslessEditsCard

/-- THE TIED CARD OF 'laws.FnSemanticMain'. -/
def fnSemanticMainCard : Claim7 := { stood := { row := fnSemanticMainRow, standIns := [], harness := (true, "75dc6ca2bec3d153895af6b186b32084dc0338774975aa44d1653b41c12b5c00"), looks := false }, kinds := [], alts := [], laidByText := true, laidKinds := [.data, .pinned], laidTests := true, laidLooks := .later }
def FnSemanticMainCardSaid : Prop := Claim7.holds Tryd.pinned (.plain (OpenSpec.ofChange fnSemanticMainSpec)) fnSemanticMainCard

/-- THE TIED CARD OF 'laws.FnLinesLeast'. -/
def fnLinesLeastCard : Claim7 := { stood := { row := fnLinesLeastRow, standIns := [], harness := (true, "75dc6ca2bec3d153895af6b186b32084dc0338774975aa44d1653b41c12b5c00"), looks := false }, kinds := [], alts := [], laidByText := true, laidKinds := [.data, .pinned], laidTests := true, laidLooks := .later }
def FnLinesLeastCardSaid : Prop := Claim7.holds Tryd.pinned (.plain (OpenSpec.ofChange fnLinesLeastSpec)) fnLinesLeastCard

/-- THE TIED CARD OF 'laws.FnLinesMain'. -/
def fnLinesMainCard : Claim7 := { stood := { row := fnLinesMainRow, standIns := [], harness := (true, "75dc6ca2bec3d153895af6b186b32084dc0338774975aa44d1653b41c12b5c00"), looks := false }, kinds := [], alts := [], laidByText := true, laidKinds := [.data, .pinned], laidTests := true, laidLooks := .later }
def FnLinesMainCardSaid : Prop := Claim7.holds Tryd.pinned (.plain (OpenSpec.ofChange fnLinesMainSpec)) fnLinesMainCard

/-- THE TIED CARD OF 'laws.FnLevenshteinMain'. -/
def fnLevenshteinMainCard : Claim7 := { stood := { row := fnLevenshteinMainRow, standIns := [], harness := (true, "75dc6ca2bec3d153895af6b186b32084dc0338774975aa44d1653b41c12b5c00"), looks := false }, kinds := [], alts := [], laidByText := true, laidKinds := [.data, .pinned], laidTests := true, laidLooks := .later }
def FnLevenshteinMainCardSaid : Prop := Claim7.holds Tryd.pinned (.plain (OpenSpec.ofChange fnLevenshteinMainSpec)) fnLevenshteinMainCard

/-- THE TIED CARD OF 'laws.FnIndexMain'. -/
def fnIndexMainCard : Claim7 := { stood := { row := fnIndexMainRow, standIns := [], harness := (true, "75dc6ca2bec3d153895af6b186b32084dc0338774975aa44d1653b41c12b5c00"), looks := false }, kinds := [], alts := [], laidByText := true, laidKinds := [.data, .pinned], laidTests := true, laidLooks := .later }
def FnIndexMainCardSaid : Prop := Claim7.holds Tryd.pinned (.plain (OpenSpec.ofChange fnIndexMainSpec)) fnIndexMainCard

/-- THE SECOND FORM's CARD OF 'laws.FnMainThree'. -/
def fnMainThreeUptoCard : Claim7 := { stood := { row := fnMainThreeUptoRow, standIns := [], harness := (true, "75dc6ca2bec3d153895af6b186b32084dc0338774975aa44d1653b41c12b5c00"), looks := false }, kinds := [], alts := [], laidByText := true, laidKinds := [.data, .pinned], laidTests := true, laidLooks := .later }
def FnMainThreeUptoCardSaid : Prop := Claim7.holds Tryd.pinned (.plain (OpenSpec.upto fnMainThreeSpec)) fnMainThreeUptoCard

/-- THE SECOND FORM's CARD OF 'laws.FnMainTidy'. -/
def fnMainTidyUptoCard : Claim7 := { stood := { row := fnMainTidyUptoRow, standIns := [], harness := (true, "75dc6ca2bec3d153895af6b186b32084dc0338774975aa44d1653b41c12b5c00"), looks := false }, kinds := [], alts := [], laidByText := true, laidKinds := [.data, .pinned], laidTests := true, laidLooks := .later }
def FnMainTidyUptoCardSaid : Prop := Claim7.holds Tryd.pinned (.plain (OpenSpec.upto fnMainTidySpec)) fnMainTidyUptoCard

/-- THE SECOND FORM's CARD OF 'laws.FnMainWithin'. -/
def fnMainWithinUptoCard : Claim7 := { stood := { row := fnMainWithinUptoRow, standIns := [], harness := (true, "75dc6ca2bec3d153895af6b186b32084dc0338774975aa44d1653b41c12b5c00"), looks := false }, kinds := [], alts := [], laidByText := true, laidKinds := [.data, .pinned], laidTests := true, laidLooks := .later }
def FnMainWithinUptoCardSaid : Prop := Claim7.holds Tryd.pinned (.plain (OpenSpec.upto fnMainWithinSpec)) fnMainWithinUptoCard

/-- THE SECOND FORM's CARD OF 'laws.FnMainRunes'. -/
def fnMainRunesUptoCard : Claim7 := { stood := { row := fnMainRunesUptoRow, standIns := [], harness := (true, "75dc6ca2bec3d153895af6b186b32084dc0338774975aa44d1653b41c12b5c00"), looks := false }, kinds := [], alts := [], laidByText := true, laidKinds := [.data, .pinned], laidTests := true, laidLooks := .later }
def FnMainRunesUptoCardSaid : Prop := Claim7.holds Tryd.pinned (.plain (OpenSpec.upto fnMainRunesSpec)) fnMainRunesUptoCard

/-- THE SECOND FORM's CARD OF 'laws.FnLosslessEdits'. -/
def fnLosslessEditsUptoCard : Claim7 := { stood := { row := fnLosslessEditsUptoRow, standIns := [], harness := (true, "75dc6ca2bec3d153895af6b186b32084dc0338774975aa44d1653b41c12b5c00"), looks := false }, kinds := [], alts := [], laidByText := true, laidKinds := [.data, .pinned], laidTests := true, laidLooks := .later }
def FnLosslessEditsUptoCardSaid : Prop := Claim7.holds Tryd.pinned (.plain (OpenSpec.upto fnLosslessEditsSpec)) fnLosslessEditsUptoCard

/-- THE SECOND FORM's CARD OF 'laws.FnSemanticMain'. -/
def fnSemanticMainUptoCard : Claim7 := { stood := { row := fnSemanticMainUptoRow, standIns := [], harness := (true, "75dc6ca2bec3d153895af6b186b32084dc0338774975aa44d1653b41c12b5c00"), looks := false }, kinds := [], alts := [], laidByText := true, laidKinds := [.data, .pinned], laidTests := true, laidLooks := .later }
def FnSemanticMainUptoCardSaid : Prop := Claim7.holds Tryd.pinned (.plain (OpenSpec.upto fnSemanticMainSpec)) fnSemanticMainUptoCard

/-- THE SECOND FORM's CARD OF 'laws.FnLinesLeast'. -/
def fnLinesLeastUptoCard : Claim7 := { stood := { row := fnLinesLeastUptoRow, standIns := [], harness := (true, "75dc6ca2bec3d153895af6b186b32084dc0338774975aa44d1653b41c12b5c00"), looks := false }, kinds := [], alts := [], laidByText := true, laidKinds := [.data, .pinned], laidTests := true, laidLooks := .later }
def FnLinesLeastUptoCardSaid : Prop := Claim7.holds Tryd.pinned (.plain (OpenSpec.upto fnLinesLeastSpec)) fnLinesLeastUptoCard

/-- THE SECOND FORM's CARD OF 'laws.FnLinesMain'. -/
def fnLinesMainUptoCard : Claim7 := { stood := { row := fnLinesMainUptoRow, standIns := [], harness := (true, "75dc6ca2bec3d153895af6b186b32084dc0338774975aa44d1653b41c12b5c00"), looks := false }, kinds := [], alts := [], laidByText := true, laidKinds := [.data, .pinned], laidTests := true, laidLooks := .later }
def FnLinesMainUptoCardSaid : Prop := Claim7.holds Tryd.pinned (.plain (OpenSpec.upto fnLinesMainSpec)) fnLinesMainUptoCard

/-- THE SECOND FORM's CARD OF 'laws.FnLevenshteinMain'. -/
def fnLevenshteinMainUptoCard : Claim7 := { stood := { row := fnLevenshteinMainUptoRow, standIns := [], harness := (true, "75dc6ca2bec3d153895af6b186b32084dc0338774975aa44d1653b41c12b5c00"), looks := false }, kinds := [], alts := [], laidByText := true, laidKinds := [.data, .pinned], laidTests := true, laidLooks := .later }
def FnLevenshteinMainUptoCardSaid : Prop := Claim7.holds Tryd.pinned (.plain (OpenSpec.upto fnLevenshteinMainSpec)) fnLevenshteinMainUptoCard

/-- THE SECOND FORM's CARD OF 'laws.FnIndexMain'. -/
def fnIndexMainUptoCard : Claim7 := { stood := { row := fnIndexMainUptoRow, standIns := [], harness := (true, "75dc6ca2bec3d153895af6b186b32084dc0338774975aa44d1653b41c12b5c00"), looks := false }, kinds := [], alts := [], laidByText := true, laidKinds := [.data, .pinned], laidTests := true, laidLooks := .later }
def FnIndexMainUptoCardSaid : Prop := Claim7.holds Tryd.pinned (.plain (OpenSpec.upto fnIndexMainSpec)) fnIndexMainUptoCard
end Rows
end Go.Proofs.YticibdjilmclgaaDoor
