/-
  DERIVED. GIVEN WITH THE SEED: THE CARDS: each row of YbulkdclqDoorRows.lean that lists a variable, with what it lists TIED to the program's text (the seventh form; the later family's looks); each row that meets fmt, with fmt's text TOLD by the authors' own Lean function (tested against real Go, not proved from fmt's source: count such statements apart). THE CARD IS WHAT COUNTS. Prove the row's statement (the work); the ties are given (YbulkdclqDoorTie.lean); close each card by the builder's one call (the guide's Derived/Test/ToyasCard.lean, 'card_holds'). Laid BY PROGRAM, IN A SANDBOX (cutbox-door.mjs). By AI agents, Wed Nov 11 2026. No macro, syntax, notation, axiom, sorry.
-/
import Derived.Test.YbulkdclqDoorRows
import GoSem.ClaimSeven
namespace Go.Proofs.YbulkdclqDoor
namespace Rows

/-- THE TIED CARD OF 'exchange.LawS5190AModel'. -/
def lawS5190AModelCard : Claim7 := { stood := { row := lawS5190AModelRow, standIns := [], harness := (true, "60e7ea4882b790a8087320e9627f6ccaca272b24f84328671bb06c02ee4f05a9"), looks := false }, kinds := [], alts := [], laidByText := true, laidKinds := [.called, .zero], laidTests := true, laidLooks := .later }
def LawS5190AModelCardSaid : Prop := Claim7.holds Ybad.pinned (.plain (OpenSpec.ofChange lawS5190AModelSpec)) lawS5190AModelCard
end Rows
end Go.Proofs.YbulkdclqDoor
