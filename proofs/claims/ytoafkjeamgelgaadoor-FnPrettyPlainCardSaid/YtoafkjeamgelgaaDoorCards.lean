/-
  DERIVED. GIVEN WITH THE SEED: THE CARDS: each row of YtoafkjeamgelgaaDoorRows.lean that lists a variable, with what it lists TIED to the program's text (the seventh form; the later family's looks); each row that meets fmt, with fmt's text TOLD by the authors' own Lean function (tested against real Go, not proved from fmt's source: count such statements apart). THE CARD IS WHAT COUNTS. Prove the row's statement (the work); the ties are given (YtoafkjeamgelgaaDoorTie.lean); close each card by the builder's one call (the guide's Derived/Test/ToyasCard.lean, 'card_holds'). Laid BY PROGRAM, IN A SANDBOX (cutbox-door.mjs). By AI agents, Wed Nov 11 2026. No macro, syntax, notation, axiom, sorry.
-/
import Derived.Test.YtoafkjeamgelgaaDoorRows
import GoSem.ClaimSeven
namespace Go.Proofs.YtoafkjeamgelgaaDoor
namespace Rows

/-- THE TIED CARD OF 'laws.FnLastIndexOf'. -/
def fnLastIndexOfCard : Claim7 := { stood := { row := fnLastIndexOfRow, standIns := [], harness := (true, "1ac34e372a8266a465fc4c96f40ed3afe003989c50b71a51550bd85de01e7c36"), looks := false }, kinds := [], alts := [], laidByText := true, laidKinds := [.data, .pinned], laidTests := true, laidLooks := .later }
def FnLastIndexOfCardSaid : Prop := Claim7.holds Tryd.pinned (.plain (OpenSpec.ofChange fnLastIndexOfSpec)) fnLastIndexOfCard

/-- THE TIED CARD OF 'laws.FnScore'. -/
def fnScoreCard : Claim7 := { stood := { row := fnScoreRow, standIns := [], harness := (true, "1ac34e372a8266a465fc4c96f40ed3afe003989c50b71a51550bd85de01e7c36"), looks := false }, kinds := [], alts := [], laidByText := true, laidKinds := [.data, .pinned], laidTests := true, laidLooks := .later }
def FnScoreCardSaid : Prop := Claim7.holds Tryd.pinned (.plain (OpenSpec.ofChange fnScoreSpec)) fnScoreCard

/-- THE TIED CARD OF 'laws.FnTexts'. -/
def fnTextsCard : Claim7 := { stood := { row := fnTextsRow, standIns := [], harness := (true, "1ac34e372a8266a465fc4c96f40ed3afe003989c50b71a51550bd85de01e7c36"), looks := false }, kinds := [], alts := [], laidByText := true, laidKinds := [.sentinel], laidTests := true, laidLooks := .later }
def FnTextsCardSaid : Prop := Claim7.holds Tryd.pinned (.plain (OpenSpec.ofChange fnTextsSpec)) fnTextsCard

/-- THE TIED CARD OF 'laws.FnRunesBack'. -/
def fnRunesBackCard : Claim7 := { stood := { row := fnRunesBackRow, standIns := [], harness := (true, "1ac34e372a8266a465fc4c96f40ed3afe003989c50b71a51550bd85de01e7c36"), looks := false }, kinds := [], alts := [], laidByText := true, laidKinds := [.data, .pinned], laidTests := true, laidLooks := .later }
def FnRunesBackCardSaid : Prop := Claim7.holds Tryd.pinned (.plain (OpenSpec.ofChange fnRunesBackSpec)) fnRunesBackCard

/-- THE TIED CARD OF 'laws.FnPrettyHtml'. -/
def fnPrettyHtmlCard : Claim7 := { stood := { row := fnPrettyHtmlRow, standIns := [], harness := (true, "1ac34e372a8266a465fc4c96f40ed3afe003989c50b71a51550bd85de01e7c36"), looks := false }, kinds := [], alts := [], laidByText := true, laidKinds := [.sentinel], laidTests := true, laidLooks := .later }
def FnPrettyHtmlCardSaid : Prop := Claim7.holds Tryd.pinned (.plain (OpenSpec.ofChange fnPrettyHtmlSpec)) fnPrettyHtmlCard

/-- THE TIED CARD OF 'laws.FnPrettyPlain'. -/
def fnPrettyPlainCard : Claim7 := { stood := { row := fnPrettyPlainRow, standIns := [], harness := (true, "1ac34e372a8266a465fc4c96f40ed3afe003989c50b71a51550bd85de01e7c36"), looks := false }, kinds := [], alts := [], laidByText := true, laidKinds := [.sentinel], laidTests := true, laidLooks := .later }
def FnPrettyPlainCardSaid : Prop := Claim7.holds Tryd.pinned (.plain (OpenSpec.ofChange fnPrettyPlainSpec)) fnPrettyPlainCard

/-- THE SECOND FORM's CARD OF 'laws.FnLastIndexOf'. -/
def fnLastIndexOfUptoCard : Claim7 := { stood := { row := fnLastIndexOfUptoRow, standIns := [], harness := (true, "1ac34e372a8266a465fc4c96f40ed3afe003989c50b71a51550bd85de01e7c36"), looks := false }, kinds := [], alts := [], laidByText := true, laidKinds := [.data, .pinned], laidTests := true, laidLooks := .later }
def FnLastIndexOfUptoCardSaid : Prop := Claim7.holds Tryd.pinned (.plain (OpenSpec.upto fnLastIndexOfSpec)) fnLastIndexOfUptoCard

/-- THE SECOND FORM's CARD OF 'laws.FnScore'. -/
def fnScoreUptoCard : Claim7 := { stood := { row := fnScoreUptoRow, standIns := [], harness := (true, "1ac34e372a8266a465fc4c96f40ed3afe003989c50b71a51550bd85de01e7c36"), looks := false }, kinds := [], alts := [], laidByText := true, laidKinds := [.data, .pinned], laidTests := true, laidLooks := .later }
def FnScoreUptoCardSaid : Prop := Claim7.holds Tryd.pinned (.plain (OpenSpec.upto fnScoreSpec)) fnScoreUptoCard

/-- THE SECOND FORM's CARD OF 'laws.FnTexts'. -/
def fnTextsUptoCard : Claim7 := { stood := { row := fnTextsUptoRow, standIns := [], harness := (true, "1ac34e372a8266a465fc4c96f40ed3afe003989c50b71a51550bd85de01e7c36"), looks := false }, kinds := [], alts := [], laidByText := true, laidKinds := [.sentinel], laidTests := true, laidLooks := .later }
def FnTextsUptoCardSaid : Prop := Claim7.holds Tryd.pinned (.plain (OpenSpec.upto fnTextsSpec)) fnTextsUptoCard

/-- THE SECOND FORM's CARD OF 'laws.FnRunesBack'. -/
def fnRunesBackUptoCard : Claim7 := { stood := { row := fnRunesBackUptoRow, standIns := [], harness := (true, "1ac34e372a8266a465fc4c96f40ed3afe003989c50b71a51550bd85de01e7c36"), looks := false }, kinds := [], alts := [], laidByText := true, laidKinds := [.data, .pinned], laidTests := true, laidLooks := .later }
def FnRunesBackUptoCardSaid : Prop := Claim7.holds Tryd.pinned (.plain (OpenSpec.upto fnRunesBackSpec)) fnRunesBackUptoCard

/-- THE SECOND FORM's CARD OF 'laws.FnPrettyHtml'. -/
def fnPrettyHtmlUptoCard : Claim7 := { stood := { row := fnPrettyHtmlUptoRow, standIns := [], harness := (true, "1ac34e372a8266a465fc4c96f40ed3afe003989c50b71a51550bd85de01e7c36"), looks := false }, kinds := [], alts := [], laidByText := true, laidKinds := [.sentinel], laidTests := true, laidLooks := .later }
def FnPrettyHtmlUptoCardSaid : Prop := Claim7.holds Tryd.pinned (.plain (OpenSpec.upto fnPrettyHtmlSpec)) fnPrettyHtmlUptoCard

/-- THE SECOND FORM's CARD OF 'laws.FnPrettyPlain'. -/
def fnPrettyPlainUptoCard : Claim7 := { stood := { row := fnPrettyPlainUptoRow, standIns := [], harness := (true, "1ac34e372a8266a465fc4c96f40ed3afe003989c50b71a51550bd85de01e7c36"), looks := false }, kinds := [], alts := [], laidByText := true, laidKinds := [.sentinel], laidTests := true, laidLooks := .later }
def FnPrettyPlainUptoCardSaid : Prop := Claim7.holds Tryd.pinned (.plain (OpenSpec.upto fnPrettyPlainSpec)) fnPrettyPlainUptoCard
end Rows
end Go.Proofs.YtoafkjeamgelgaaDoor
