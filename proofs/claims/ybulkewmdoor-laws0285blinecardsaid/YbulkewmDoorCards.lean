/-
  DERIVED. GIVEN WITH THE SEED: THE CARDS: each row of YbulkewmDoorRows.lean that lists a variable, with what it lists TIED to the program's text (the seventh form; the later family's looks); each row that meets fmt, with fmt's text TOLD by the authors' own Lean function (tested against real Go, not proved from fmt's source: count such statements apart). THE CARD IS WHAT COUNTS. Prove the row's statement (the work); the ties are given (YbulkewmDoorTie.lean); close each card by the builder's one call (the guide's Derived/Test/ToyasCard.lean, 'card_holds'). Laid BY PROGRAM, IN A SANDBOX (cutbox-door.mjs). By AI agents, Wed Nov 11 2026. No macro, syntax, notation, axiom, sorry.
-/
import Derived.Test.YbulkewmDoorRows
import GoSem.ClaimSeven
namespace Go.Proofs.YbulkewmDoor
namespace Rows

/-- THE TIED CARD OF 'record.LawS0285BStep'. -/
def lawS0285BStepCard : Claim7 := { stood := { row := lawS0285BStepRow, standIns := [], harness := (true, "95d4d758ae3820e23359c4a308cfedae7a8a9f2310d6abe9f6bfb5c9bb441621"), looks := true }, kinds := [], alts := [], laidByText := true, laidKinds := [.sentinel], laidTests := true, laidLooks := .later }
def LawS0285BStepCardSaid : Prop := Claim7.holds Ybad.pinned (.plain (OpenSpec.ofChange lawS0285BStepSpec)) lawS0285BStepCard

/-- THE TIED CARD OF 'record.LawS0285BLine'. -/
def lawS0285BLineCard : Claim7 := { stood := { row := lawS0285BLineRow, standIns := [], harness := (true, "95d4d758ae3820e23359c4a308cfedae7a8a9f2310d6abe9f6bfb5c9bb441621"), looks := true }, kinds := [], alts := [], laidByText := true, laidKinds := [.sentinel, .sentinel], laidTests := true, laidLooks := .later }
def LawS0285BLineCardSaid : Prop := Claim7.holds Ybad.pinned (.plain (OpenSpec.ofChange lawS0285BLineSpec)) lawS0285BLineCard
end Rows
end Go.Proofs.YbulkewmDoor
