import Derived.Test.YbulkdswcDoorWalksB
import Derived.ProofKit
import Derived.LaidByTextLater
import Derived.ChangeArms
namespace Go.Proofs.YbulkdswcDoor
open Go Go.ChangeShapes Go.WideShapes Go.ChangeAt Go.RowKit

theorem tLevels : (Ybad.prog.globals[1]?).map (·.type) = some 52 := by kernel_rfl
theorem cells55 : Ybad.prog.cellsOf 55 = 2 := by kernel_rfl
theorem cells54 : Ybad.prog.cellsOf 54 = 1 := by kernel_rfl
theorem cells9 : Ybad.prog.cellsOf 9 = 1 := by kernel_rfl

/-- Two cells read in a row. -/
theorem cells_two {w : World} {a : Addr} {cs : List Value} (h : w.cells? 0 a 2 = some cs) : ∃ x y, cs = [x, y] ∧ w.cell? (a.add 0) = some x ∧ w.cell? (a.add 1) = some y := by
  unfold World.cells? at h
  rw [if_pos (Nat.zero_le _)] at h
  simp only [List.range_succ, List.range_zero, List.nil_append, List.cons_append, List.mapM_cons, List.mapM_nil] at h
  cases h0 : w.cell? (a.add 0) with
  | none => simp [h0] at h
  | some x =>
    cases h1 : w.cell? (a.add 1) with
    | none => simp [h0, h1] at h
    | some y =>
      simp [h0, h1] at h
      exact ⟨x, y, h.symm, rfl, rfl⟩

/-- One pair of alert.levels, its two cells. -/
theorem pair_of {w : World} {a : Addr} {n : Nat} {y : DataW Unit × List MemPlace} {s : List UInt8} {k : Int}
    (h : (w.cells? 0 a 2).bind (DataW.trod (fun _ => ()) Ybad.prog w 0 (fun _ => true) false n 55) = some y)
    (hy : y.1 = .agg [.lit (.string s), .lit (.int .i8 k)]) :
    w.cell? (a.add 0) = some (.string ⟨s.toArray⟩) ∧ w.cell? (a.add 1) = some (.int .i8 k) := by
  simp only [Option.bind_eq_some_iff] at h
  obtain ⟨cs, hcs, ht⟩ := h
  obtain ⟨x0, x1, rfl, h0, h1⟩ := cells_two hcs
  obtain ⟨y0, y1, m, rfl, _, ha, hb⟩ := trod_struct2 Ybad.underlying55 ht
  rw [cells9] at ha
  rw [cells54] at hb
  simp only [List.drop_zero, List.take_succ_cons, List.take_zero] at ha
  simp only [List.drop_succ_cons, List.drop_zero, List.take_succ_cons, List.take_zero] at hb
  obtain ⟨s0, e0, rfl, _⟩ := DataW.trod_string Ybad.underlying9 ha
  obtain ⟨k0, e1, rfl, _⟩ := DataW.trod_int Ybad.underlying54 hb
  simp only [List.cons.injEq, and_true] at e0 e1
  simp only [DataW.agg.injEq, List.cons.injEq, DataW.lit.injEq, Lit.string.injEq, Lit.int.injEq, true_and, and_true] at hy
  obtain ⟨hs, rfl⟩ := hy
  subst hs
  exact ⟨by rw [h0, e0], by rw [h1, e1]⟩
end Go.Proofs.YbulkdswcDoor
