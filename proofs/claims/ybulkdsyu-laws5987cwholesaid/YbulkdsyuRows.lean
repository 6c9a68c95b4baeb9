/-
  No cell of these rows narrows 'for every input' (looked for: loops, veiled, ifaces, maps, wideKeys, modest, calm, conditions, laid).
  DERIVED. THE GIVEN ROWS OF THIS SEAT. 3 by the template 'for every input the law returns true; each argument reads behind the call as it read before'; 0 by the template 'total and deterministic' (their statements: YbulkdsyuTotals.lean).
  GIVEN WITH THE SEED: the statements are not yours to turn. If you find one false, say at which input.
  Laid BY PROGRAM, IN A SANDBOX (cutbox-rows.mjs): the forced cells as the released guide's own fill.sh prints them over the translation 610144cd1b4caeb0… (all of the seat's roots in one cut). By AI agents, Wed Nov 11 2026. No macro, syntax, notation, axiom, sorry.
-/
import Derived.Test.YbulkdsyuChecked
import GoSem.Claim
import GoSem.ClaimJoined
import GoSem.ClaimMapViews
import Derived.JoinedTies
import Derived.KernelRfl
namespace Go.Proofs.Ybulkdsyu
/- THE CELL 'sum', in the pinned program and in every row, IS THE sha256 OF THE DUMP (.gsa) THAT YbulkdsyuProg.lean LOADS. Nothing in Lean hashes anything: it is a label: what it is worth is what the hold of that sum in a sandbox is worth. -/
noncomputable def Yba.pinned : Pinned := { name := "ybulkdsyu", sum := "610144cd1b4caeb09ec39ba4a9286c4ad1ef150e08d6bb6c951fedc1aceed730", checked := Yba.checked }
namespace Rows
def none {H : Type} : Left H := { results := [], args := [] }

/-- 'audit.LawS5987AWhole': WHATEVER THE INPUT: true; the input reads as it did. -/
def lawS5987AWholeSpec : ChangeSpec := { name := "lawS5987AWhole", fn := fun _ => fun
  | [d1, d2] => { results := [.lit (.bool true)], args := [d1, d2] }
  | _ => none }
def lawS5987AWholeRow : OpenClaim := { program := "ybulkdsyu", sum := "610144cd1b4caeb09ec39ba4a9286c4ad1ef150e08d6bb6c951fedc1aceed730", func := "example.com/antecedent/antecedent/audit.LawS5987AWhole", spec := "lawS5987AWhole", plainKeys := false, apart := false }
def LawS5987AWholeSaid : Prop := lawS5987AWholeRow.holds Yba.pinned (OpenSpec.ofChange lawS5987AWholeSpec)

/-- ITS FALSE NEIGHBOUR: 'it returns false'. Refute it at one input. -/
def lawS5987AWholeWrong : ChangeSpec := { name := "lawS5987AWhole", fn := fun _ => fun
  | [d1, d2] => { results := [.lit (.bool false)], args := [d1, d2] }
  | _ => none }
def LawS5987AWholeWrongFalsely : Prop := lawS5987AWholeRow.holds Yba.pinned (OpenSpec.ofChange lawS5987AWholeWrong)

/-- 'eventlog.LawS5987BWhole': WHATEVER THE INPUT: true; the input reads as it did. -/
def lawS5987BWholeSpec : ChangeSpec := { name := "lawS5987BWhole", fn := fun _ => fun
  | [d1, d2] => { results := [.lit (.bool true)], args := [d1, d2] }
  | _ => none }
def lawS5987BWholeRow : OpenClaim := { program := "ybulkdsyu", sum := "610144cd1b4caeb09ec39ba4a9286c4ad1ef150e08d6bb6c951fedc1aceed730", func := "example.com/antecedent/antecedent/eventlog.LawS5987BWhole", spec := "lawS5987BWhole", plainKeys := false, apart := false }
def LawS5987BWholeSaid : Prop := lawS5987BWholeRow.holds Yba.pinned (OpenSpec.ofChange lawS5987BWholeSpec)

/-- ITS FALSE NEIGHBOUR: 'it returns false'. Refute it at one input. -/
def lawS5987BWholeWrong : ChangeSpec := { name := "lawS5987BWhole", fn := fun _ => fun
  | [d1, d2] => { results := [.lit (.bool false)], args := [d1, d2] }
  | _ => none }
def LawS5987BWholeWrongFalsely : Prop := lawS5987BWholeRow.holds Yba.pinned (OpenSpec.ofChange lawS5987BWholeWrong)

/-- 'antecedent.LawS5987CWhole': WHATEVER THE INPUT: true; the input reads as it did. -/
def lawS5987CWholeSpec : ChangeSpec := { name := "lawS5987CWhole", fn := fun _ => fun
  | [d1, d2, d3, d4, d5, d6, d7] => { results := [.lit (.bool true)], args := [d1, d2, d3, d4, d5, d6, d7] }
  | _ => none }
def lawS5987CWholeRow : OpenClaim := { program := "ybulkdsyu", sum := "610144cd1b4caeb09ec39ba4a9286c4ad1ef150e08d6bb6c951fedc1aceed730", func := "example.com/antecedent/antecedent.LawS5987CWhole", spec := "lawS5987CWhole", unfollowed := true, recurses := true, plainKeys := false, apart := false }
def LawS5987CWholeSaid : Prop := lawS5987CWholeRow.holds Yba.pinned (OpenSpec.ofChange lawS5987CWholeSpec)

/-- ITS FALSE NEIGHBOUR: 'it returns false'. Refute it at one input. -/
def lawS5987CWholeWrong : ChangeSpec := { name := "lawS5987CWhole", fn := fun _ => fun
  | [d1, d2, d3, d4, d5, d6, d7] => { results := [.lit (.bool false)], args := [d1, d2, d3, d4, d5, d6, d7] }
  | _ => none }
def LawS5987CWholeWrongFalsely : Prop := lawS5987CWholeRow.holds Yba.pinned (OpenSpec.ofChange lawS5987CWholeWrong)

end Rows
end Go.Proofs.Ybulkdsyu
