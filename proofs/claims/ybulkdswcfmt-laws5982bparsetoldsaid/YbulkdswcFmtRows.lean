/-
  NARROWER THAN 'FOR EVERY INPUT', by the rows' own cells (each row's printed sentence says how): LawS5982BParse: laid.
  DERIVED. THE GIVEN ROWS OF THIS SEAT. 1 by the template 'for every input the law returns true; each argument reads behind the call as it read before'; 0 by the template 'total and deterministic' (their statements: YbulkdswcFmtTotals.lean).
  GIVEN WITH THE SEED: the statements are not yours to turn. If you find one false, say at which input.
  Laid BY PROGRAM, IN A SANDBOX (cutbox-rows.mjs): the forced cells as the released guide's own fill.sh prints them over the translation f678a9338fbef7bb… (all of the seat's roots in one cut). By AI agents, Wed Nov 11 2026. No macro, syntax, notation, axiom, sorry.
-/
import Derived.Test.YbulkdswcFmtChecked
import GoSem.Claim
import GoSem.ClaimJoined
import GoSem.ClaimMapViews
import Derived.JoinedTies
import Derived.KernelRfl
namespace Go.Proofs.YbulkdswcFmt
/- THE CELL 'sum', in the pinned program and in every row, IS THE sha256 OF THE DUMP (.gsa) THAT YbulkdswcFmtProg.lean LOADS. Nothing in Lean hashes anything: it is a label: what it is worth is what the hold of that sum in a sandbox is worth. -/
noncomputable def Ybaf.pinned : Pinned := { name := "ybulkdswcfmt", sum := "f678a9338fbef7bb5b6e9c819ed078e5d971e0e2fe906cddc290142f1338b3af", checked := Ybaf.checked }
namespace Rows
def none {H : Type} : Left H := { results := [], args := [] }

/- WHAT THE LISTED PACKAGE-LEVEL VARIABLES READ AS WHEN THE CALL BEGINS. Each datum BY PROGRAM (the guide's laid-datum.mjs) off the statement by which the dump's own 'gosem.cut.vars' lays the variable. In a bare row this is a premise. The card (YbulkdswcFmtCards.lean) ties it to the program's text. -/
def laid_example_com_bandwatch_bandwatch_alert_levels {H : Type} : DataW H := .slice [.agg [.lit (.string [115, 108, 105, 103, 104, 116]), .lit (.int .i8 1)], .agg [.lit (.string [104, 105, 103, 104]), .lit (.int .i8 2)], .agg [.lit (.string [101, 120, 116, 114, 101, 109, 101]), .lit (.int .i8 3)]] []

/-- 'alert.LawS5982BParse': WHATEVER THE INPUT: true; the input reads as it did. -/
def lawS5982BParseSpec : ChangeSpec := { name := "lawS5982BParse", vars := ["example.com/bandwatch/bandwatch/alert.levels"], fn := fun _ => fun
  | [g1] => { results := [.lit (.bool true)], args := [], vars := [g1] }
  | _ => none }
def lawS5982BParseRow : OpenClaim := { program := "ybulkdswcfmt", sum := "f678a9338fbef7bb5b6e9c819ed078e5d971e0e2fe906cddc290142f1338b3af", func := "example.com/bandwatch/bandwatch/alert.LawS5982BParse", spec := "lawS5982BParse", stops := ["fmt.errorf"], inPlace := ["internal/abi.NoEscape", "internal/bytealg.MakeNoZero", "fmt.errorf"], named := ["example.com/bandwatch/bandwatch/alert.levels"], apart := false, laid := [("example.com/bandwatch/bandwatch/alert.levels", laid_example_com_bandwatch_bandwatch_alert_levels)] }
/-- NO THEOREM (fmt's text is open here; it may be false): for the released tool's asking of the row's closed facts alone. THE STATEMENT IS 'LawS5982BParseToldSaid' (YbulkdswcFmtCards.lean). -/
def LawS5982BParseFormAsk : Prop := lawS5982BParseRow.holds Ybaf.pinned (OpenSpec.ofChange lawS5982BParseSpec)

/-- ITS FALSE NEIGHBOUR: 'it returns false'. Refute it at one input. -/
def lawS5982BParseWrong : ChangeSpec := { name := "lawS5982BParse", vars := ["example.com/bandwatch/bandwatch/alert.levels"], fn := fun _ => fun
  | [g1] => { results := [.lit (.bool false)], args := [], vars := [g1] }
  | _ => none }
def LawS5982BParseWrongFormAsk : Prop := lawS5982BParseRow.holds Ybaf.pinned (OpenSpec.ofChange lawS5982BParseWrong)

end Rows
end Go.Proofs.YbulkdswcFmt
