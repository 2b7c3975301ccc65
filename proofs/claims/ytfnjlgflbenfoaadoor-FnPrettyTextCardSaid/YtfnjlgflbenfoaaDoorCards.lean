/-
  DERIVED. GIVEN WITH THE SEED: THE CARDS: each row of YtfnjlgflbenfoaaDoorRows.lean that lists a variable, with what it lists TIED to the program's text (the seventh form; the later family's looks); each row that meets fmt, with fmt's text TOLD by the authors' own Lean function (tested against real Go, not proved from fmt's source: count such statements apart). THE CARD IS WHAT COUNTS. Prove the row's statement (the work); the ties are given (YtfnjlgflbenfoaaDoorTie.lean); close each card by the builder's one call (the guide's Derived/Test/ToyasCard.lean, 'card_holds'). Laid BY PROGRAM, IN A SANDBOX (cutbox-door.mjs). By AI agents, Wed Nov 11 2026. No macro, syntax, notation, axiom, sorry.
-/
import Derived.Test.YtfnjlgflbenfoaaDoorRows
import GoSem.ClaimSeven
namespace Go.Proofs.YtfnjlgflbenfoaaDoor
namespace Rows

/-- THE TIED CARD OF 'laws.FnPrettyText'. -/
def fnPrettyTextCard : Claim7 := { stood := { row := fnPrettyTextRow, standIns := [], harness := (true, "7e753096e71aed3ca40c523d095a62675af52fc72ec44be69d73a2f3c1469049"), looks := false }, kinds := [], alts := [], laidByText := true, laidKinds := [.sentinel], laidTests := true, laidLooks := .later }
def FnPrettyTextCardSaid : Prop := Claim7.holds Tryd.pinned (.plain (OpenSpec.ofChange fnPrettyTextSpec)) fnPrettyTextCard

/-- THE TIED CARD OF 'laws.FnOpName'. -/
def fnOpNameCard : Claim7 := { stood := { row := fnOpNameRow, standIns := [], harness := (true, "7e753096e71aed3ca40c523d095a62675af52fc72ec44be69d73a2f3c1469049"), looks := false }, kinds := [], alts := [], laidByText := true, laidKinds := [.data, .data, .data, .data], laidTests := true, laidLooks := .later }
def FnOpNameCardSaid : Prop := Claim7.holds Tryd.pinned (.plain (OpenSpec.ofChange fnOpNameSpec)) fnOpNameCard

/-- THE TIED CARD OF 'laws.FnOpOther'. -/
def fnOpOtherCard : Claim7 := { stood := { row := fnOpOtherRow, standIns := [], harness := (true, "7e753096e71aed3ca40c523d095a62675af52fc72ec44be69d73a2f3c1469049"), looks := false }, kinds := [], alts := [], laidByText := true, laidKinds := [.data, .data, .data, .data], laidTests := true, laidLooks := .later }
def FnOpOtherCardSaid : Prop := Claim7.holds Tryd.pinned (.plain (OpenSpec.ofChange fnOpOtherSpec)) fnOpOtherCard

/-- THE TIED CARD OF 'laws.FnLinesBack'. -/
def fnLinesBackCard : Claim7 := { stood := { row := fnLinesBackRow, standIns := [], harness := (true, "7e753096e71aed3ca40c523d095a62675af52fc72ec44be69d73a2f3c1469049"), looks := false }, kinds := [], alts := [], laidByText := true, laidKinds := [.data, .pinned], laidTests := true, laidLooks := .later }
def FnLinesBackCardSaid : Prop := Claim7.holds Tryd.pinned (.plain (OpenSpec.ofChange fnLinesBackSpec)) fnLinesBackCard

/-- THE TIED CARD OF 'laws.FnLosslessBest'. -/
def fnLosslessBestCard : Claim7 := { stood := { row := fnLosslessBestRow, standIns := [], harness := (true, "7e753096e71aed3ca40c523d095a62675af52fc72ec44be69d73a2f3c1469049"), looks := false }, kinds := [], alts := [], laidByText := true, laidKinds := [.data, .pinned], laidTests := true, laidLooks := .later }
def FnLosslessBestCardSaid : Prop := Claim7.holds Tryd.pinned (.plain (OpenSpec.ofChange fnLosslessBestSpec)) fnLosslessBestCard

/-- THE TIED CARD OF 'laws.FnLosslessTexts'. -/
def fnLosslessTextsCard : Claim7 := { stood := { row := fnLosslessTextsRow, standIns := [], harness := (true, "7e753096e71aed3ca40c523d095a62675af52fc72ec44be69d73a2f3c1469049"), looks := false }, kinds := [], alts := [], laidByText := true, laidKinds := [.data, .pinned], laidTests := true, laidLooks := .later }
def FnLosslessTextsCardSaid : Prop := Claim7.holds Tryd.pinned (.plain (OpenSpec.ofChange fnLosslessTextsSpec)) fnLosslessTextsCard

/-- THE SECOND FORM's CARD OF 'laws.FnPrettyText'. -/
def fnPrettyTextUptoCard : Claim7 := { stood := { row := fnPrettyTextUptoRow, standIns := [], harness := (true, "7e753096e71aed3ca40c523d095a62675af52fc72ec44be69d73a2f3c1469049"), looks := false }, kinds := [], alts := [], laidByText := true, laidKinds := [.sentinel], laidTests := true, laidLooks := .later }
def FnPrettyTextUptoCardSaid : Prop := Claim7.holds Tryd.pinned (.plain (OpenSpec.upto fnPrettyTextSpec)) fnPrettyTextUptoCard

/-- THE SECOND FORM's CARD OF 'laws.FnOpName'. -/
def fnOpNameUptoCard : Claim7 := { stood := { row := fnOpNameUptoRow, standIns := [], harness := (true, "7e753096e71aed3ca40c523d095a62675af52fc72ec44be69d73a2f3c1469049"), looks := false }, kinds := [], alts := [], laidByText := true, laidKinds := [.data, .data, .data, .data], laidTests := true, laidLooks := .later }
def FnOpNameUptoCardSaid : Prop := Claim7.holds Tryd.pinned (.plain (OpenSpec.upto fnOpNameSpec)) fnOpNameUptoCard

/-- THE SECOND FORM's CARD OF 'laws.FnOpOther'. -/
def fnOpOtherUptoCard : Claim7 := { stood := { row := fnOpOtherUptoRow, standIns := [], harness := (true, "7e753096e71aed3ca40c523d095a62675af52fc72ec44be69d73a2f3c1469049"), looks := false }, kinds := [], alts := [], laidByText := true, laidKinds := [.data, .data, .data, .data], laidTests := true, laidLooks := .later }
def FnOpOtherUptoCardSaid : Prop := Claim7.holds Tryd.pinned (.plain (OpenSpec.upto fnOpOtherSpec)) fnOpOtherUptoCard

/-- THE SECOND FORM's CARD OF 'laws.FnLinesBack'. -/
def fnLinesBackUptoCard : Claim7 := { stood := { row := fnLinesBackUptoRow, standIns := [], harness := (true, "7e753096e71aed3ca40c523d095a62675af52fc72ec44be69d73a2f3c1469049"), looks := false }, kinds := [], alts := [], laidByText := true, laidKinds := [.data, .pinned], laidTests := true, laidLooks := .later }
def FnLinesBackUptoCardSaid : Prop := Claim7.holds Tryd.pinned (.plain (OpenSpec.upto fnLinesBackSpec)) fnLinesBackUptoCard

/-- THE SECOND FORM's CARD OF 'laws.FnLosslessBest'. -/
def fnLosslessBestUptoCard : Claim7 := { stood := { row := fnLosslessBestUptoRow, standIns := [], harness := (true, "7e753096e71aed3ca40c523d095a62675af52fc72ec44be69d73a2f3c1469049"), looks := false }, kinds := [], alts := [], laidByText := true, laidKinds := [.data, .pinned], laidTests := true, laidLooks := .later }
def FnLosslessBestUptoCardSaid : Prop := Claim7.holds Tryd.pinned (.plain (OpenSpec.upto fnLosslessBestSpec)) fnLosslessBestUptoCard

/-- THE SECOND FORM's CARD OF 'laws.FnLosslessTexts'. -/
def fnLosslessTextsUptoCard : Claim7 := { stood := { row := fnLosslessTextsUptoRow, standIns := [], harness := (true, "7e753096e71aed3ca40c523d095a62675af52fc72ec44be69d73a2f3c1469049"), looks := false }, kinds := [], alts := [], laidByText := true, laidKinds := [.data, .pinned], laidTests := true, laidLooks := .later }
def FnLosslessTextsUptoCardSaid : Prop := Claim7.holds Tryd.pinned (.plain (OpenSpec.upto fnLosslessTextsSpec)) fnLosslessTextsUptoCard
end Rows
end Go.Proofs.YtfnjlgflbenfoaaDoor
