/-
  NARROWER THAN 'FOR EVERY INPUT', by the rows' own cells (each row's printed sentence says how): LawS5982AWhole: laid · LawS5982BWhole: laid.
  DERIVED. THE GIVEN ROWS OF THIS SEAT. 2 by the template 'for every input the law returns true; each argument reads behind the call as it read before'; 0 by the template 'total and deterministic' (their statements: YbulkdswcDoorTotals.lean).
  GIVEN WITH THE SEED: the statements are not yours to turn. If you find one false, say at which input.
  Laid BY PROGRAM, IN A SANDBOX (cutbox-rows.mjs): the forced cells as the released guide's own fill.sh prints them over the translation f7e058702d791dd5… (all of the seat's roots in one cut). By AI agents, Wed Nov 11 2026. No macro, syntax, notation, axiom, sorry.
-/
import Derived.Test.YbulkdswcDoorChecked
import GoSem.Claim
import GoSem.ClaimJoined
import GoSem.ClaimMapViews
import Derived.JoinedTies
import Derived.KernelRfl
namespace Go.Proofs.YbulkdswcDoor
/- THE CELL 'sum', in the pinned program and in every row, IS THE sha256 OF THE DUMP (.gsa) THAT YbulkdswcDoorProg.lean LOADS. Nothing in Lean hashes anything: it is a label: what it is worth is what the hold of that sum in a sandbox is worth. -/
noncomputable def Ybad.pinned : Pinned := { name := "ybulkdswcdoor", sum := "f7e058702d791dd54310dad221cd9438451eefafe9914173cef0e554e50a89df", checked := Ybad.checked }
namespace Rows
def none {H : Type} : Left H := { results := [], args := [] }

/- WHAT THE LISTED PACKAGE-LEVEL VARIABLES READ AS WHEN THE CALL BEGINS. Each datum BY PROGRAM (the guide's laid-datum.mjs) off the statement by which the dump's own 'gosem.cut.vars' lays the variable. In a bare row this is a premise. The card (YbulkdswcDoorCards.lean) ties it to the program's text. -/
def laid_example_com_bandwatch_bandwatch_model_clusterLevels {H : Type} : DataW H := .agg [.lit (.float .f64 4584304132692975288), .lit (.float .f64 4593311331947716280), .lit (.float .f64 4602318531202457272)]
def laid_example_com_bandwatch_bandwatch_alert_levels {H : Type} : DataW H := .slice [.agg [.lit (.string [115, 108, 105, 103, 104, 116]), .lit (.int .i8 1)], .agg [.lit (.string [104, 105, 103, 104]), .lit (.int .i8 2)], .agg [.lit (.string [101, 120, 116, 114, 101, 109, 101]), .lit (.int .i8 3)]] []

/-- 'model.LawS5982AWhole': WHATEVER THE INPUT: true; the input reads as it did. -/
def lawS5982AWholeSpec : ChangeSpec := { name := "lawS5982AWhole", vars := ["example.com/bandwatch/bandwatch/model.clusterLevels"], fn := fun _ => fun
  | [d1, d2, g1] => { results := [.lit (.bool true)], args := [d1, d2], vars := [g1] }
  | _ => none }
def lawS5982AWholeRow : OpenClaim := { program := "ybulkdswcdoor", sum := "f7e058702d791dd54310dad221cd9438451eefafe9914173cef0e554e50a89df", func := "example.com/bandwatch/bandwatch/model.LawS5982AWhole", spec := "lawS5982AWhole", inPlace := ["math.Float64frombits", "slices.overlaps[float64]"], unfollowed := true, recurses := true, named := ["example.com/bandwatch/bandwatch/model.clusterLevels"], apart := false, laid := [("example.com/bandwatch/bandwatch/model.clusterLevels", laid_example_com_bandwatch_bandwatch_model_clusterLevels)] }
def LawS5982AWholeSaid : Prop := lawS5982AWholeRow.holds Ybad.pinned (OpenSpec.ofChange lawS5982AWholeSpec)

/-- ITS FALSE NEIGHBOUR: 'it returns false'. Refute it at one input. -/
def lawS5982AWholeWrong : ChangeSpec := { name := "lawS5982AWhole", vars := ["example.com/bandwatch/bandwatch/model.clusterLevels"], fn := fun _ => fun
  | [d1, d2, g1] => { results := [.lit (.bool false)], args := [d1, d2], vars := [g1] }
  | _ => none }
def LawS5982AWholeWrongFalsely : Prop := lawS5982AWholeRow.holds Ybad.pinned (OpenSpec.ofChange lawS5982AWholeWrong)

/-- 'alert.LawS5982BWhole': WHATEVER THE INPUT: true; the input reads as it did. -/
def lawS5982BWholeSpec : ChangeSpec := { name := "lawS5982BWhole", vars := ["example.com/bandwatch/bandwatch/alert.levels"], fn := fun _ => fun
  | [g1] => { results := [.lit (.bool true)], args := [], vars := [g1] }
  | _ => none }
def lawS5982BWholeRow : OpenClaim := { program := "ybulkdswcdoor", sum := "f7e058702d791dd54310dad221cd9438451eefafe9914173cef0e554e50a89df", func := "example.com/bandwatch/bandwatch/alert.LawS5982BWhole", spec := "lawS5982BWhole", named := ["example.com/bandwatch/bandwatch/alert.levels"], apart := false, laid := [("example.com/bandwatch/bandwatch/alert.levels", laid_example_com_bandwatch_bandwatch_alert_levels)] }
def LawS5982BWholeSaid : Prop := lawS5982BWholeRow.holds Ybad.pinned (OpenSpec.ofChange lawS5982BWholeSpec)

/-- ITS FALSE NEIGHBOUR: 'it returns false'. Refute it at one input. -/
def lawS5982BWholeWrong : ChangeSpec := { name := "lawS5982BWhole", vars := ["example.com/bandwatch/bandwatch/alert.levels"], fn := fun _ => fun
  | [g1] => { results := [.lit (.bool false)], args := [], vars := [g1] }
  | _ => none }
def LawS5982BWholeWrongFalsely : Prop := lawS5982BWholeRow.holds Ybad.pinned (OpenSpec.ofChange lawS5982BWholeWrong)

end Rows
end Go.Proofs.YbulkdswcDoor
