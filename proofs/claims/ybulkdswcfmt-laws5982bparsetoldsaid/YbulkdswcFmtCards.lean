/-
  DERIVED. GIVEN WITH THE SEED: THE CARDS: each row of YbulkdswcFmtRows.lean that lists a variable, with what it lists TIED to the program's text (the seventh form; the later family's looks); each row that meets fmt, with fmt's text TOLD by the authors' own Lean function (tested against real Go, not proved from fmt's source: count such statements apart). THE CARD IS WHAT COUNTS. Prove the row's statement (the work); the ties are given (YbulkdswcFmtTie.lean); close each card by the builder's one call (the guide's Derived/Test/ToyasCard.lean, 'card_holds'). Laid BY PROGRAM, IN A SANDBOX (cutbox-door.mjs). By AI agents, Wed Nov 11 2026. No macro, syntax, notation, axiom, sorry.
-/
import Derived.Test.YbulkdswcFmtRows
import GoSem.ClaimSeven
namespace Go.Proofs.YbulkdswcFmt
namespace Rows

/-- THE TOLD AND TIED CARD OF 'alert.LawS5982BParse'. -/
def lawS5982BParseCard : Claim7 := { stood := { row := lawS5982BParseRow, standIns := [], harness := (true, "a80f7c7869aa1e20112ca65e3e68a35f012943aa31fca1ca12b8e75269bb9af0"), looks := false }, told := true, laidByText := true, laidKinds := [.data], laidTests := true, laidLooks := .later, goes := false }
def LawS5982BParseToldSaid : Prop := Claim7.holds Ybaf.pinned (.plain (OpenSpec.ofChange lawS5982BParseSpec)) lawS5982BParseCard
/-- ITS FALSE NEIGHBOUR. Refute it at one input. -/
def LawS5982BParseToldWrongFalsely : Prop := Claim7.holds Ybaf.pinned (.plain (OpenSpec.ofChange lawS5982BParseWrong)) lawS5982BParseCard
end Rows
end Go.Proofs.YbulkdswcFmt
