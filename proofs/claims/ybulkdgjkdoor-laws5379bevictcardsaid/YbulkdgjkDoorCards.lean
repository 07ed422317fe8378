/-
  DERIVED. GIVEN WITH THE SEED: THE CARDS: each row of YbulkdgjkDoorRows.lean that lists a variable, with what it lists TIED to the program's text (the seventh form; the later family's looks); each row that meets fmt, with fmt's text TOLD by the authors' own Lean function (tested against real Go, not proved from fmt's source: count such statements apart). THE CARD IS WHAT COUNTS. Prove the row's statement (the work); the ties are given (YbulkdgjkDoorTie.lean); close each card by the builder's one call (the guide's Derived/Test/ToyasCard.lean, 'card_holds'). Laid BY PROGRAM, IN A SANDBOX (cutbox-door.mjs). By AI agents, Wed Nov 11 2026. No macro, syntax, notation, axiom, sorry.
-/
import Derived.Test.YbulkdgjkDoorRows
import GoSem.ClaimSeven
namespace Go.Proofs.YbulkdgjkDoor
namespace Rows

/-- THE TIED CARD OF 'latchwork.LawS5379BEvict'. -/
def lawS5379BEvictCard : Claim7 := { stood := { row := lawS5379BEvictRow, standIns := [], harness := (true, "79b62d20c9f716cc2deb52adb45c614b0d6f7cb9fe690e1485ea8712945d539d"), looks := true }, kinds := [], alts := [], laidByText := true, laidKinds := [.data], laidTests := true, laidLooks := .later }
def LawS5379BEvictCardSaid : Prop := Claim7.holds Ybad.pinned (.plain (OpenSpec.ofChange lawS5379BEvictSpec)) lawS5379BEvictCard
end Rows
end Go.Proofs.YbulkdgjkDoor
