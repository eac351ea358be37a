/-
  DERIVED. GIVEN WITH THE SEED: THE CARDS: each row of YbulkdcngDoorRows.lean that lists a variable, with what it lists TIED to the program's text (the seventh form; the later family's looks); each row that meets fmt, with fmt's text TOLD by the authors' own Lean function (tested against real Go, not proved from fmt's source: count such statements apart). THE CARD IS WHAT COUNTS. Prove the row's statement (the work); the ties are given (YbulkdcngDoorTie.lean); close each card by the builder's one call (the guide's Derived/Test/ToyasCard.lean, 'card_holds'). Laid BY PROGRAM, IN A SANDBOX (cutbox-door.mjs). By AI agents, Wed Nov 11 2026. No macro, syntax, notation, axiom, sorry.
-/
import Derived.Test.YbulkdcngDoorRows
import GoSem.ClaimSeven
namespace Go.Proofs.YbulkdcngDoor
namespace Rows

/-- THE TIED CARD OF 'store.LawS5193APick'. -/
def lawS5193APickCard : Claim7 := { stood := { row := lawS5193APickRow, standIns := [], harness := (true, "914f13fd7770a5365f3127c971a760901c2716a659f18140d6daaf23e47819a3"), looks := true }, kinds := [], alts := [], laidByText := true, laidKinds := [.sentinel, .sentinel, .sentinel, .sentinel], laidTests := true, laidLooks := .later }
def LawS5193APickCardSaid : Prop := Claim7.holds Ybad.pinned (.plain (OpenSpec.ofChange lawS5193APickSpec)) lawS5193APickCard

/-- THE TIED CARD OF 'sigv4.LawS5193CModel'. -/
def lawS5193CModelCard : Claim7 := { stood := { row := lawS5193CModelRow, standIns := [], harness := (true, "914f13fd7770a5365f3127c971a760901c2716a659f18140d6daaf23e47819a3"), looks := true }, kinds := [], alts := [], laidByText := true, laidKinds := [.data, .data, .data, .data, .sentinel, .sentinel, .widerDeep, .sentinel, .pinned], laidTests := true, laidLooks := .later }
def LawS5193CModelCardSaid : Prop := Claim7.holds Ybad.pinned (.plain (OpenSpec.ofChange lawS5193CModelSpec)) lawS5193CModelCard
end Rows
end Go.Proofs.YbulkdcngDoor
