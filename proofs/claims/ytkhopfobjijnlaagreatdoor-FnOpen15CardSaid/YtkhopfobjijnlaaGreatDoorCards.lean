/-
  DERIVED. GIVEN WITH THE SEED: THE CARDS: each row of YtkhopfobjijnlaaGreatDoorRows.lean that lists a variable, with what it lists TIED to the program's text (the seventh form; the later family's looks); each row that meets fmt, with fmt's text TOLD by the authors' own Lean function (tested against real Go, not proved from fmt's source: count such statements apart). THE CARD IS WHAT COUNTS. Prove the row's statement (the work); the ties are given (YtkhopfobjijnlaaGreatDoorTie.lean); close each card by the builder's one call (the guide's Derived/Test/ToyasCard.lean, 'card_holds'). Laid BY PROGRAM, IN A SANDBOX (cutbox-door.mjs). By AI agents, Wed Nov 11 2026. No macro, syntax, notation, axiom, sorry.
-/
import Derived.Test.YtkhopfobjijnlaaGreatDoorRows
import GoSem.ClaimSeven
namespace Go.Proofs.YtkhopfobjijnlaaGreatDoor
namespace Rows

/-- THE TIED CARD OF 'laws.FnOpen15'. -/
def fnOpen15Card : Claim7 := { stood := { row := fnOpen15Row, standIns := [], harness := (true, "6926a8d25d3a18b822de0b5d5f3a9f35674bec2c0c387012933924f022f82577"), looks := false }, kinds := [], alts := [], laidByText := true, laidKinds := [.sentinel], laidTests := true, laidLooks := .later }
def FnOpen15CardSaid : Prop := Claim7.holds Tryz.pinned (.plain (OpenSpec.ofChange fnOpen15Spec)) fnOpen15Card

/-- THE SECOND FORM's CARD OF 'laws.FnOpen15'. -/
def fnOpen15UptoCard : Claim7 := { stood := { row := fnOpen15UptoRow, standIns := [], harness := (true, "6926a8d25d3a18b822de0b5d5f3a9f35674bec2c0c387012933924f022f82577"), looks := false }, kinds := [], alts := [], laidByText := true, laidKinds := [.sentinel], laidTests := true, laidLooks := .later }
def FnOpen15UptoCardSaid : Prop := Claim7.holds Tryz.pinned (.plain (OpenSpec.upto fnOpen15Spec)) fnOpen15UptoCard
end Rows
end Go.Proofs.YtkhopfobjijnlaaGreatDoor
