/-
  No cell of these rows narrows 'for every input' (looked for: loops, veiled, ifaces, maps, wideKeys, modest, calm, conditions, laid).
  DERIVED. THE GIVEN ROWS OF THIS SEAT. 1 by the template 'for every input the law returns true; each argument reads behind the call as it read before'; 0 by the template 'total and deterministic' (their statements: YbulkdswcTotals.lean).
  GIVEN WITH THE SEED: the statements are not yours to turn. If you find one false, say at which input.
  Laid BY PROGRAM, IN A SANDBOX (cutbox-rows.mjs): the forced cells as the released guide's own fill.sh prints them over the translation 378c31a3934de66c… (all of the seat's roots in one cut). By AI agents, Wed Nov 11 2026. No macro, syntax, notation, axiom, sorry.
-/
import Derived.Test.YbulkdswcChecked
import GoSem.Claim
import GoSem.ClaimJoined
import GoSem.ClaimMapViews
import Derived.JoinedTies
import Derived.KernelRfl
namespace Go.Proofs.Ybulkdswc
/- THE CELL 'sum', in the pinned program and in every row, IS THE sha256 OF THE DUMP (.gsa) THAT YbulkdswcProg.lean LOADS. Nothing in Lean hashes anything: it is a label: what it is worth is what the hold of that sum in a sandbox is worth. -/
noncomputable def Yba.pinned : Pinned := { name := "ybulkdswc", sum := "378c31a3934de66cb3259fc693b732f14b71ed1d33e653733e2c19d475d01132", checked := Yba.checked }
namespace Rows
def none {H : Type} : Left H := { results := [], args := [] }

/-- 'model.LawS5982CWhole': WHATEVER THE INPUT: true; the input reads as it did. -/
def lawS5982CWholeSpec : ChangeSpec := { name := "lawS5982CWhole", fn := fun _ => fun
  | [d1, d2, d3] => { results := [.lit (.bool true)], args := [d1, d2, d3] }
  | _ => none }
def lawS5982CWholeRow : OpenClaim := { program := "ybulkdswc", sum := "378c31a3934de66cb3259fc693b732f14b71ed1d33e653733e2c19d475d01132", func := "example.com/bandwatch/bandwatch/model.LawS5982CWhole", spec := "lawS5982CWhole", unfollowed := true, recurses := true, apart := false }
def LawS5982CWholeSaid : Prop := lawS5982CWholeRow.holds Yba.pinned (OpenSpec.ofChange lawS5982CWholeSpec)

/-- ITS FALSE NEIGHBOUR: 'it returns false'. Refute it at one input. -/
def lawS5982CWholeWrong : ChangeSpec := { name := "lawS5982CWhole", fn := fun _ => fun
  | [d1, d2, d3] => { results := [.lit (.bool false)], args := [d1, d2, d3] }
  | _ => none }
def LawS5982CWholeWrongFalsely : Prop := lawS5982CWholeRow.holds Yba.pinned (OpenSpec.ofChange lawS5982CWholeWrong)

end Rows
end Go.Proofs.Ybulkdswc
