/-
  DERIVED. GIVEN WITH THE SEED: THE CARDS: each row of YticibdjilmclgaaGreatDoorRows.lean that lists a variable, with what it lists TIED to the program's text (the seventh form; the later family's looks); each row that meets fmt, with fmt's text TOLD by the authors' own Lean function (tested against real Go, not proved from fmt's source: count such statements apart). THE CARD IS WHAT COUNTS. Prove the row's statement (the work); the ties are given (YticibdjilmclgaaGreatDoorTie.lean); close each card by the builder's one call (the guide's Derived/Test/ToyasCard.lean, 'card_holds'). Laid BY PROGRAM, IN A SANDBOX (cutbox-door.mjs). By AI agents, Wed Nov 11 2026. No macro, syntax, notation, axiom, sorry.
-/
import Derived.Test.YticibdjilmclgaaGreatDoorRows
import GoSem.ClaimSeven
namespace Go.Proofs.YticibdjilmclgaaGreatDoor
namespace Rows

/-- THE TIED CARD OF 'laws.FnLosslessExact'. -/
def fnLosslessExactCard : Claim7 := { stood := { row := fnLosslessExactRow, standIns := [], harness := (true, "9d722edc0690e93aa26bdd68ec485659d480fdcf06f079b00f8375ce09114241"), looks := false }, kinds := [], alts := [], laidByText := true, laidKinds := [.data, .pinned], laidTests := true, laidLooks := .later }
def FnLosslessExactCardSaid : Prop := Claim7.holds Tryz.pinned (.plain (OpenSpec.ofChange fnLosslessExactSpec)) fnLosslessExactCard

/-- THE TIED CARD OF 'laws.FnSemanticExact'. -/
def fnSemanticExactCard : Claim7 := { stood := { row := fnSemanticExactRow, standIns := [], harness := (true, "9d722edc0690e93aa26bdd68ec485659d480fdcf06f079b00f8375ce09114241"), looks := false }, kinds := [], alts := [], laidByText := true, laidKinds := [.data, .pinned], laidTests := true, laidLooks := .later }
def FnSemanticExactCardSaid : Prop := Claim7.holds Tryz.pinned (.plain (OpenSpec.ofChange fnSemanticExactSpec)) fnSemanticExactCard

/-- THE SECOND FORM's CARD OF 'laws.FnLosslessExact'. -/
def fnLosslessExactUptoCard : Claim7 := { stood := { row := fnLosslessExactUptoRow, standIns := [], harness := (true, "9d722edc0690e93aa26bdd68ec485659d480fdcf06f079b00f8375ce09114241"), looks := false }, kinds := [], alts := [], laidByText := true, laidKinds := [.data, .pinned], laidTests := true, laidLooks := .later }
def FnLosslessExactUptoCardSaid : Prop := Claim7.holds Tryz.pinned (.plain (OpenSpec.upto fnLosslessExactSpec)) fnLosslessExactUptoCard

/-- THE SECOND FORM's CARD OF 'laws.FnSemanticExact'. -/
def fnSemanticExactUptoCard : Claim7 := { stood := { row := fnSemanticExactUptoRow, standIns := [], harness := (true, "9d722edc0690e93aa26bdd68ec485659d480fdcf06f079b00f8375ce09114241"), looks := false }, kinds := [], alts := [], laidByText := true, laidKinds := [.data, .pinned], laidTests := true, laidLooks := .later }
def FnSemanticExactUptoCardSaid : Prop := Claim7.holds Tryz.pinned (.plain (OpenSpec.upto fnSemanticExactSpec)) fnSemanticExactUptoCard
end Rows
end Go.Proofs.YticibdjilmclgaaGreatDoor
