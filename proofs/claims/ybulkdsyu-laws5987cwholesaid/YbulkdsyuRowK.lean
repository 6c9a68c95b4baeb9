import Derived.WalkKit
import Derived.Deep.OwnRows
import Derived.Laws.CopyOwn
namespace Go.Proofs.Ybulkdsyu
open Go Go.RowKit

/-- The builtin copy between two slices whose elements have k cells each, into a row of the call's own. -/
theorem run_copy_rowK (P : Program) (w : World) (dT sT ty elem : TypeId) (k : Nat) (g o dLen dCap : Nat) (a : Addr) (sLen sCap : Nat) (cur : Array Value) (t : TypeId) (cs : List Value)
    (hu : P.underlying dT = some (.slice elem)) (hs : (P.info? elem).map (·.size) = some k)
    (hg : w.heap[g]? = some (.cells cur t (0, 0))) (hn : cs.length = Nat.min sLen dLen * k)
    (hsrc : ∀ j v, cs[j]? = some v → w.cell? (a.add j) = some v) (hfit : o + cs.length ≤ cur.size) (h1 : ∀ v ∈ cs, v.oneCell' = true) :
    (Builtin.copy_ #[dT, sT] ty #[.slice (some ⟨g, o, none⟩) dLen dCap, .slice (some a) sLen sCap]).run P w =
      .ok (goInt (Nat.min sLen dLen : Nat)) (w.setRow g (cur.toList.take o ++ cs ++ cur.toList.drop (o + cs.length)).toArray) := by
  have hl := run_loadCells_list (P := P) w a cs hsrc
  have hst := run_storeCells_at P g o t cs 0 cur w hg (by simpa using hfit) h1
  cases hq : P.info? elem with
  | none => simp [hq] at hs
  | some i =>
    have hi : i.size = k := by simpa [hq] using hs
    simp [Builtin.copy_, run_underlying hu, Builtin.lenOf, Builtin.firstCells, sizeOf, typeInfo, hq, hi, ← hn, hl, hst]

/-- A row that is wholly written over by a copy. -/
theorem rowIs_copied {w : World} {g : Nat} {t : TypeId} {n : Nat} {cur : Array Value} {f : Nat → Value} (hg : w.heap[g]? = some (.cells cur t (0, 0))) (hc : cur.size = n) :
    (w.setRow g (cur.toList.take 0 ++ (List.range n).map f ++ cur.toList.drop (0 + ((List.range n).map f).length)).toArray).rowIs g t n f := by
  refine ⟨_, setRow_heap w g cur _ t _ hg, ?_, ?_⟩
  · simp [hc]
  · intro i hi
    simp [hi, hc]
end Go.Proofs.Ybulkdsyu
