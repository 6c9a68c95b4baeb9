/-
  DERIVED. GIVEN WITH THE SEED: THE CARDS: each row of YbulkdswcDoorRows.lean that lists a variable, with what it lists TIED to the program's text (the seventh form; the later family's looks); each row that meets fmt, with fmt's text TOLD by the authors' own Lean function (tested against real Go, not proved from fmt's source: count such statements apart). THE CARD IS WHAT COUNTS. Prove the row's statement (the work); the ties are given (YbulkdswcDoorTie.lean); close each card by the builder's one call (the guide's Derived/Test/ToyasCard.lean, 'card_holds'). Laid BY PROGRAM, IN A SANDBOX (cutbox-door.mjs). By AI agents, Wed Nov 11 2026. No macro, syntax, notation, axiom, sorry.
-/
import Derived.Test.YbulkdswcDoorRows
import GoSem.ClaimSeven
namespace Go.Proofs.YbulkdswcDoor
namespace Rows

/-- THE TIED CARD OF 'model.LawS5982AWhole'. -/
def lawS5982AWholeCard : Claim7 := { stood := { row := lawS5982AWholeRow, standIns := [], harness := (true, "20e08ee7f912ce0a5aacb56c84e70a1cc5266bbd2769c5c5c1c3a134cd1405a7"), looks := false }, kinds := [], alts := [], laidByText := true, laidKinds := [.data], laidTests := true, laidLooks := .later }
def LawS5982AWholeCardSaid : Prop := Claim7.holds Ybad.pinned (.plain (OpenSpec.ofChange lawS5982AWholeSpec)) lawS5982AWholeCard

/-- THE TIED CARD OF 'alert.LawS5982BWhole'. -/
def lawS5982BWholeCard : Claim7 := { stood := { row := lawS5982BWholeRow, standIns := [], harness := (true, "20e08ee7f912ce0a5aacb56c84e70a1cc5266bbd2769c5c5c1c3a134cd1405a7"), looks := false }, kinds := [], alts := [], laidByText := true, laidKinds := [.data], laidTests := true, laidLooks := .later }
def LawS5982BWholeCardSaid : Prop := Claim7.holds Ybad.pinned (.plain (OpenSpec.ofChange lawS5982BWholeSpec)) lawS5982BWholeCard
end Rows
end Go.Proofs.YbulkdswcDoor
