/-
  DERIVED. GIVEN WITH THE SEED: THE CARDS: each row of YtmfgccjcnnlehaaDoorRows.lean that lists a variable, with what it lists TIED to the program's text (the seventh form; the later family's looks); each row that meets fmt, with fmt's text TOLD by the authors' own Lean function (tested against real Go, not proved from fmt's source: count such statements apart). THE CARD IS WHAT COUNTS. Prove the row's statement (the work); the ties are given (YtmfgccjcnnlehaaDoorTie.lean); close each card by the builder's one call (the guide's Derived/Test/ToyasCard.lean, 'card_holds'). Laid BY PROGRAM, IN A SANDBOX (cutbox-door.mjs). By AI agents, Wed Nov 11 2026. No macro, syntax, notation, axiom, sorry.
-/
import Derived.Test.YtmfgccjcnnlehaaDoorRows
import GoSem.ClaimSeven
namespace Go.Proofs.YtmfgccjcnnlehaaDoor
namespace Rows

/-- THE TIED CARD OF 'laws.FnLinesText'. -/
def fnLinesTextCard : Claim7 := { stood := { row := fnLinesTextRow, standIns := [], harness := (true, "da7db37413ecd14993aa027e82c44ebf387b90e25c1d221b3e8a9a1c75281f6e"), looks := true }, kinds := [], alts := [], laidByText := true, laidKinds := [.data, .pinned], laidTests := true, laidLooks := .later }
def FnLinesTextCardSaid : Prop := Claim7.holds Tryd.pinned (.plain (OpenSpec.ofChange fnLinesTextSpec)) fnLinesTextCard

/-- THE TIED CARD OF 'laws.FnMatchBest'. -/
def fnMatchBestCard : Claim7 := { stood := { row := fnMatchBestRow, standIns := [], harness := (true, "da7db37413ecd14993aa027e82c44ebf387b90e25c1d221b3e8a9a1c75281f6e"), looks := true }, kinds := [], alts := [], laidByText := true, laidKinds := [.data, .pinned], laidTests := true, laidLooks := .later }
def FnMatchBestCardSaid : Prop := Claim7.holds Tryd.pinned (.plain (OpenSpec.ofChange fnMatchBestSpec)) fnMatchBestCard

/-- THE TIED CARD OF 'laws.FnMatchExact'. -/
def fnMatchExactCard : Claim7 := { stood := { row := fnMatchExactRow, standIns := [], harness := (true, "da7db37413ecd14993aa027e82c44ebf387b90e25c1d221b3e8a9a1c75281f6e"), looks := true }, kinds := [], alts := [], laidByText := true, laidKinds := [.data, .pinned], laidTests := true, laidLooks := .later }
def FnMatchExactCardSaid : Prop := Claim7.holds Tryd.pinned (.plain (OpenSpec.ofChange fnMatchExactSpec)) fnMatchExactCard

/-- THE TIED CARD OF 'laws.FnMatchEmpty'. -/
def fnMatchEmptyCard : Claim7 := { stood := { row := fnMatchEmptyRow, standIns := [], harness := (true, "da7db37413ecd14993aa027e82c44ebf387b90e25c1d221b3e8a9a1c75281f6e"), looks := true }, kinds := [], alts := [], laidByText := true, laidKinds := [.data, .pinned], laidTests := true, laidLooks := .later }
def FnMatchEmptyCardSaid : Prop := Claim7.holds Tryd.pinned (.plain (OpenSpec.ofChange fnMatchEmptySpec)) fnMatchEmptyCard

/-- THE TIED CARD OF 'laws.FnMatchHere'. -/
def fnMatchHereCard : Claim7 := { stood := { row := fnMatchHereRow, standIns := [], harness := (true, "da7db37413ecd14993aa027e82c44ebf387b90e25c1d221b3e8a9a1c75281f6e"), looks := true }, kinds := [], alts := [], laidByText := true, laidKinds := [.data, .pinned], laidTests := true, laidLooks := .later }
def FnMatchHereCardSaid : Prop := Claim7.holds Tryd.pinned (.plain (OpenSpec.ofChange fnMatchHereSpec)) fnMatchHereCard

/-- THE TIED CARD OF 'laws.FnMatchWithin'. -/
def fnMatchWithinCard : Claim7 := { stood := { row := fnMatchWithinRow, standIns := [], harness := (true, "da7db37413ecd14993aa027e82c44ebf387b90e25c1d221b3e8a9a1c75281f6e"), looks := true }, kinds := [], alts := [], laidByText := true, laidKinds := [.data, .pinned], laidTests := true, laidLooks := .later }
def FnMatchWithinCardSaid : Prop := Claim7.holds Tryd.pinned (.plain (OpenSpec.ofChange fnMatchWithinSpec)) fnMatchWithinCard

/-- THE TIED CARD OF 'laws.FnDeltaSays'. -/
def fnDeltaSaysCard : Claim7 := { stood := { row := fnDeltaSaysRow, standIns := [], harness := (true, "da7db37413ecd14993aa027e82c44ebf387b90e25c1d221b3e8a9a1c75281f6e"), looks := true }, kinds := [], alts := [], laidByText := true, laidKinds := [.data, .data, .data, .data, .sentinel, .data, .pinned], laidTests := true, laidLooks := .later }
def FnDeltaSaysCardSaid : Prop := Claim7.holds Tryd.pinned (.plain (OpenSpec.ofChange fnDeltaSaysSpec)) fnDeltaSaysCard

/-- THE TIED CARD OF 'laws.FnPatchSays'. -/
def fnPatchSaysCard : Claim7 := { stood := { row := fnPatchSaysRow, standIns := [], harness := (true, "da7db37413ecd14993aa027e82c44ebf387b90e25c1d221b3e8a9a1c75281f6e"), looks := true }, kinds := [], alts := [], laidByText := true, laidKinds := [.data, .data, .data, .data, .sentinel, .data, .pinned], laidTests := true, laidLooks := .later }
def FnPatchSaysCardSaid : Prop := Claim7.holds Tryd.pinned (.plain (OpenSpec.ofChange fnPatchSaysSpec)) fnPatchSaysCard

/-- THE TIED CARD OF 'laws.FnSemanticTexts'. -/
def fnSemanticTextsCard : Claim7 := { stood := { row := fnSemanticTextsRow, standIns := [], harness := (true, "da7db37413ecd14993aa027e82c44ebf387b90e25c1d221b3e8a9a1c75281f6e"), looks := true }, kinds := [], alts := [], laidByText := true, laidKinds := [.data, .pinned], laidTests := true, laidLooks := .later }
def FnSemanticTextsCardSaid : Prop := Claim7.holds Tryd.pinned (.plain (OpenSpec.ofChange fnSemanticTextsSpec)) fnSemanticTextsCard

/-- THE TIED CARD OF 'laws.FnDeltaGiven'. -/
def fnDeltaGivenCard : Claim7 := { stood := { row := fnDeltaGivenRow, standIns := [], harness := (true, "da7db37413ecd14993aa027e82c44ebf387b90e25c1d221b3e8a9a1c75281f6e"), looks := true }, kinds := [], alts := [], laidByText := true, laidKinds := [.data, .data, .data, .data, .sentinel, .sentinel, .data, .pinned], laidTests := true, laidLooks := .later }
def FnDeltaGivenCardSaid : Prop := Claim7.holds Tryd.pinned (.plain (OpenSpec.ofChange fnDeltaGivenSpec)) fnDeltaGivenCard

/-- THE TIED CARD OF 'laws.FnDeltaWrong'. -/
def fnDeltaWrongCard : Claim7 := { stood := { row := fnDeltaWrongRow, standIns := [], harness := (true, "da7db37413ecd14993aa027e82c44ebf387b90e25c1d221b3e8a9a1c75281f6e"), looks := true }, kinds := [], alts := [], laidByText := true, laidKinds := [.data, .data, .data, .data, .sentinel, .sentinel, .data, .pinned], laidTests := true, laidLooks := .later }
def FnDeltaWrongCardSaid : Prop := Claim7.holds Tryd.pinned (.plain (OpenSpec.ofChange fnDeltaWrongSpec)) fnDeltaWrongCard

/-- THE SECOND FORM's CARD OF 'laws.FnLinesText'. -/
def fnLinesTextUptoCard : Claim7 := { stood := { row := fnLinesTextUptoRow, standIns := [], harness := (true, "da7db37413ecd14993aa027e82c44ebf387b90e25c1d221b3e8a9a1c75281f6e"), looks := true }, kinds := [], alts := [], laidByText := true, laidKinds := [.data, .pinned], laidTests := true, laidLooks := .later }
def FnLinesTextUptoCardSaid : Prop := Claim7.holds Tryd.pinned (.plain (OpenSpec.upto fnLinesTextSpec)) fnLinesTextUptoCard

/-- THE SECOND FORM's CARD OF 'laws.FnMatchBest'. -/
def fnMatchBestUptoCard : Claim7 := { stood := { row := fnMatchBestUptoRow, standIns := [], harness := (true, "da7db37413ecd14993aa027e82c44ebf387b90e25c1d221b3e8a9a1c75281f6e"), looks := true }, kinds := [], alts := [], laidByText := true, laidKinds := [.data, .pinned], laidTests := true, laidLooks := .later }
def FnMatchBestUptoCardSaid : Prop := Claim7.holds Tryd.pinned (.plain (OpenSpec.upto fnMatchBestSpec)) fnMatchBestUptoCard

/-- THE SECOND FORM's CARD OF 'laws.FnMatchExact'. -/
def fnMatchExactUptoCard : Claim7 := { stood := { row := fnMatchExactUptoRow, standIns := [], harness := (true, "da7db37413ecd14993aa027e82c44ebf387b90e25c1d221b3e8a9a1c75281f6e"), looks := true }, kinds := [], alts := [], laidByText := true, laidKinds := [.data, .pinned], laidTests := true, laidLooks := .later }
def FnMatchExactUptoCardSaid : Prop := Claim7.holds Tryd.pinned (.plain (OpenSpec.upto fnMatchExactSpec)) fnMatchExactUptoCard

/-- THE SECOND FORM's CARD OF 'laws.FnMatchEmpty'. -/
def fnMatchEmptyUptoCard : Claim7 := { stood := { row := fnMatchEmptyUptoRow, standIns := [], harness := (true, "da7db37413ecd14993aa027e82c44ebf387b90e25c1d221b3e8a9a1c75281f6e"), looks := true }, kinds := [], alts := [], laidByText := true, laidKinds := [.data, .pinned], laidTests := true, laidLooks := .later }
def FnMatchEmptyUptoCardSaid : Prop := Claim7.holds Tryd.pinned (.plain (OpenSpec.upto fnMatchEmptySpec)) fnMatchEmptyUptoCard

/-- THE SECOND FORM's CARD OF 'laws.FnMatchHere'. -/
def fnMatchHereUptoCard : Claim7 := { stood := { row := fnMatchHereUptoRow, standIns := [], harness := (true, "da7db37413ecd14993aa027e82c44ebf387b90e25c1d221b3e8a9a1c75281f6e"), looks := true }, kinds := [], alts := [], laidByText := true, laidKinds := [.data, .pinned], laidTests := true, laidLooks := .later }
def FnMatchHereUptoCardSaid : Prop := Claim7.holds Tryd.pinned (.plain (OpenSpec.upto fnMatchHereSpec)) fnMatchHereUptoCard

/-- THE SECOND FORM's CARD OF 'laws.FnMatchWithin'. -/
def fnMatchWithinUptoCard : Claim7 := { stood := { row := fnMatchWithinUptoRow, standIns := [], harness := (true, "da7db37413ecd14993aa027e82c44ebf387b90e25c1d221b3e8a9a1c75281f6e"), looks := true }, kinds := [], alts := [], laidByText := true, laidKinds := [.data, .pinned], laidTests := true, laidLooks := .later }
def FnMatchWithinUptoCardSaid : Prop := Claim7.holds Tryd.pinned (.plain (OpenSpec.upto fnMatchWithinSpec)) fnMatchWithinUptoCard

/-- THE SECOND FORM's CARD OF 'laws.FnDeltaSays'. -/
def fnDeltaSaysUptoCard : Claim7 := { stood := { row := fnDeltaSaysUptoRow, standIns := [], harness := (true, "da7db37413ecd14993aa027e82c44ebf387b90e25c1d221b3e8a9a1c75281f6e"), looks := true }, kinds := [], alts := [], laidByText := true, laidKinds := [.data, .data, .data, .data, .sentinel, .data, .pinned], laidTests := true, laidLooks := .later }
def FnDeltaSaysUptoCardSaid : Prop := Claim7.holds Tryd.pinned (.plain (OpenSpec.upto fnDeltaSaysSpec)) fnDeltaSaysUptoCard

/-- THE SECOND FORM's CARD OF 'laws.FnPatchSays'. -/
def fnPatchSaysUptoCard : Claim7 := { stood := { row := fnPatchSaysUptoRow, standIns := [], harness := (true, "da7db37413ecd14993aa027e82c44ebf387b90e25c1d221b3e8a9a1c75281f6e"), looks := true }, kinds := [], alts := [], laidByText := true, laidKinds := [.data, .data, .data, .data, .sentinel, .data, .pinned], laidTests := true, laidLooks := .later }
def FnPatchSaysUptoCardSaid : Prop := Claim7.holds Tryd.pinned (.plain (OpenSpec.upto fnPatchSaysSpec)) fnPatchSaysUptoCard

/-- THE SECOND FORM's CARD OF 'laws.FnSemanticTexts'. -/
def fnSemanticTextsUptoCard : Claim7 := { stood := { row := fnSemanticTextsUptoRow, standIns := [], harness := (true, "da7db37413ecd14993aa027e82c44ebf387b90e25c1d221b3e8a9a1c75281f6e"), looks := true }, kinds := [], alts := [], laidByText := true, laidKinds := [.data, .pinned], laidTests := true, laidLooks := .later }
def FnSemanticTextsUptoCardSaid : Prop := Claim7.holds Tryd.pinned (.plain (OpenSpec.upto fnSemanticTextsSpec)) fnSemanticTextsUptoCard

/-- THE SECOND FORM's CARD OF 'laws.FnDeltaGiven'. -/
def fnDeltaGivenUptoCard : Claim7 := { stood := { row := fnDeltaGivenUptoRow, standIns := [], harness := (true, "da7db37413ecd14993aa027e82c44ebf387b90e25c1d221b3e8a9a1c75281f6e"), looks := true }, kinds := [], alts := [], laidByText := true, laidKinds := [.data, .data, .data, .data, .sentinel, .sentinel, .data, .pinned], laidTests := true, laidLooks := .later }
def FnDeltaGivenUptoCardSaid : Prop := Claim7.holds Tryd.pinned (.plain (OpenSpec.upto fnDeltaGivenSpec)) fnDeltaGivenUptoCard

/-- THE SECOND FORM's CARD OF 'laws.FnDeltaWrong'. -/
def fnDeltaWrongUptoCard : Claim7 := { stood := { row := fnDeltaWrongUptoRow, standIns := [], harness := (true, "da7db37413ecd14993aa027e82c44ebf387b90e25c1d221b3e8a9a1c75281f6e"), looks := true }, kinds := [], alts := [], laidByText := true, laidKinds := [.data, .data, .data, .data, .sentinel, .sentinel, .data, .pinned], laidTests := true, laidLooks := .later }
def FnDeltaWrongUptoCardSaid : Prop := Claim7.holds Tryd.pinned (.plain (OpenSpec.upto fnDeltaWrongSpec)) fnDeltaWrongUptoCard
end Rows
end Go.Proofs.YtmfgccjcnnlehaaDoor
