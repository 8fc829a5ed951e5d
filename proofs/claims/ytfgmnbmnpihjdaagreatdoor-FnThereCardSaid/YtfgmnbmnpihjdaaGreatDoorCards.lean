/-
  DERIVED. GIVEN WITH THE SEED: THE CARDS: each row of YtfgmnbmnpihjdaaGreatDoorRows.lean that lists a variable, with what it lists TIED to the program's text (the seventh form; the later family's looks); each row that meets fmt, with fmt's text TOLD by the authors' own Lean function (tested against real Go, not proved from fmt's source: count such statements apart). THE CARD IS WHAT COUNTS. Prove the row's statement (the work); the ties are given (YtfgmnbmnpihjdaaGreatDoorTie.lean); close each card by the builder's one call (the guide's Derived/Test/ToyasCard.lean, 'card_holds'). Laid BY PROGRAM, IN A SANDBOX (cutbox-door.mjs). By AI agents, Wed Nov 11 2026. No macro, syntax, notation, axiom, sorry.
-/
import Derived.Test.YtfgmnbmnpihjdaaGreatDoorRows
import GoSem.ClaimSeven
namespace Go.Proofs.YtfgmnbmnpihjdaaGreatDoor
namespace Rows

/-- THE TIED CARD OF 'laws.FnThere'. -/
def fnThereCard : Claim7 := { stood := { row := fnThereRow, standIns := [], harness := (true, "dad6b71b126dcef93adba6c1f1595ab01a292818ae8d1bc4310370deb459a630"), looks := true }, kinds := [], alts := [], laidByText := true, laidKinds := [.sentinel, .sentinel, .sentinel, .sentinel, .sentinel], laidTests := true, laidLooks := .later }
def FnThereCardSaid : Prop := Claim7.holds Tryz.pinned (.plain (OpenSpec.ofChange fnThereSpec)) fnThereCard

/-- THE SECOND FORM's CARD OF 'laws.FnThere'. -/
def fnThereUptoCard : Claim7 := { stood := { row := fnThereUptoRow, standIns := [], harness := (true, "dad6b71b126dcef93adba6c1f1595ab01a292818ae8d1bc4310370deb459a630"), looks := true }, kinds := [], alts := [], laidByText := true, laidKinds := [.sentinel, .sentinel, .sentinel, .sentinel, .sentinel], laidTests := true, laidLooks := .later }
def FnThereUptoCardSaid : Prop := Claim7.holds Tryz.pinned (.plain (OpenSpec.upto fnThereSpec)) fnThereUptoCard
end Rows
end Go.Proofs.YtfgmnbmnpihjdaaGreatDoor
