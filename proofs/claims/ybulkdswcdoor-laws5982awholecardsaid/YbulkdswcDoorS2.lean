import Derived.Test.YbulkdswcDoorS1
import Derived.Test.YbulkdswcDoorProg
import Derived.Sort.Row
import Derived.Below
import Derived.WalkKit
import Derived.WalkSpells
import Derived.WalkLawsBesides
import Derived.WalkSmall
import Derived.BigQuiet
import Derived.Deep.Light
import Derived.Deep.RegionWith
import Derived.Deep.QuietTactic
import Derived.Laws.FloatArith
namespace Go.Proofs.YbulkdswcDoor
open Go Ieee Go.RowKit Go.Sort

set_option maxHeartbeats 1000000 in
theorem isNaN_f (x : Nat) (w : World) : Calls Ybad.prog 51 #[.float .f64 x] w fun e w' => e = .returned (.bool (nanF x)) ∧ w' = w := by
  go_enter Ybad.func51, Ybad.ntmps51
  go_wp2
  go_ret
  exact ⟨rfl, rfl⟩

set_option maxHeartbeats 1000000 in
theorem less_f (x y : Nat) (w : World) : Calls Ybad.prog 34 #[.float .f64 x, .float .f64 y] w fun e w' => e = .returned (.bool (ltF x y)) ∧ w' = w := by
  have c1 := isNaN_f x w
  have c2 := isNaN_f y w
  have hl : ltF x y = ((nanF x && !nanF y) || D.order x y == some .lt) := rfl
  rw [hl]
  clear hl
  generalize nanF x = nx at *
  generalize nanF y = ny at *
  cases nx
  · go_enter Ybad.func34, Ybad.ntmps34
    go_wp2_with (go_at_call 51; refine c1.mono ?_; rintro e w' ⟨rfl, rfl⟩)
    go_ret
    exact ⟨rfl, rfl⟩
  · cases ny
    · go_enter Ybad.func34, Ybad.ntmps34
      go_wp2_with (first | (go_at_call 51; refine c1.mono ?_; rintro e w' ⟨rfl, rfl⟩) | (go_at_call 51; refine c2.mono ?_; rintro e w' ⟨rfl, rfl⟩))
      go_ret
      exact ⟨rfl, rfl⟩
    · go_enter Ybad.func34, Ybad.ntmps34
      go_wp2_with (first | (go_at_call 51; refine c1.mono ?_; rintro e w' ⟨rfl, rfl⟩) | (go_at_call 51; refine c2.mono ?_; rintro e w' ⟨rfl, rfl⟩))
      go_ret
      exact ⟨rfl, rfl⟩

/-- A float stored (the walk's set lacks it). -/
theorem run_store_float {P : Program} (w : World) (a : Addr) (m : Mode) (k : FloatKind) (b : Nat) : (store a (.float k b) m).run P w = stored P w a (.float k b) m := run_store P w a _ m rfl

/-! ### The row in the world -/

/-- What a walk may use of a world wr that came of w, in which the row holds d (d0 at first): nothing else of w is turned. -/
structure View (w : World) (blk off : Nat) (d0 : Array Nat) (d : Array Nat) (wr : World) : Prop where
  os : wr.os = w.os
  tape : wr.tape = w.tape
  output : wr.output = w.output
  grew : w.heap.size ≤ wr.heap.size
  other : ∀ b, b < w.heap.size → b ≠ blk → wr.heap[b]? = w.heap[b]?
  row : wr.heap[blk]? = (putRow encF w blk off d).heap[blk]?
  size : d.size = d0.size
  hold : Holds encF w blk off d0
  lt : blk < w.heap.size

theorem heap_putRow (w : World) (blk off : Nat) (d : Array Nat) (b : Nat) : (putRow encF w blk off d).heap[b]? = if blk = b then (w.heap[b]?).map (onCells (putCells encF off d)) else w.heap[b]? := by
  simp [putRow, mapBlock, Array.getElem?_modify]

theorem cell_block {w w' : World} {a : Addr} (h : w'.heap[a.block]? = w.heap[a.block]?) : w'.cell? a = w.cell? a ∧ w'.frozen? a = w.frozen? a := ⟨World.cell?_of_block (w := w) h, World.frozen?_of_block (w := w) h⟩

theorem View.refl {w : World} {blk off : Nat} {d : Array Nat} (h : Holds encF w blk off d) (hb : blk < w.heap.size) : View w blk off d d w :=
  ⟨rfl, rfl, rfl, Nat.le_refl _, fun _ _ _ => rfl, by rw [putRow_self encF w blk off d h], rfl, h, hb⟩

theorem View.holds {w wr : World} {blk off : Nat} {d0 d : Array Nat} (h : View w blk off d0 d wr) : Holds encF wr blk off d := fun j hj => by
  obtain ⟨h1, h2⟩ := cell_block (w := putRow encF w blk off d) (w' := wr) (a := ⟨blk, off + j, none⟩) h.row
  obtain ⟨h3, h4⟩ := holds_putRow encF w blk off d0 d h.hold h.size j hj
  exact ⟨h1.trans h3, h2.trans h4⟩
theorem View.blk {w wr : World} {blk off : Nat} {d0 d : Array Nat} (h : View w blk off d0 d wr) : blk < wr.heap.size := Nat.lt_of_lt_of_le h.lt h.grew

theorem View.cell {w wr : World} {blk off : Nat} {d0 d : Array Nat} (h : View w blk off d0 d wr) : ∀ t, t < d0.size → wr.cell? ⟨blk, off + t, none⟩ = some (.float .f64 d[t]!) := fun t ht => (h.holds t (by rw [h.size]; exact ht)).1
theorem View.frozen {w wr : World} {blk off : Nat} {d0 d : Array Nat} (h : View w blk off d0 d wr) : ∀ t, t < d0.size → wr.frozen? ⟨blk, off + t, none⟩ = false := fun t ht => (h.holds t (by rw [h.size]; exact ht)).2

theorem View.draw {w wr : World} {blk off : Nat} {d0 d : Array Nat} (h : View w blk off d0 d wr) (q : Nat) : View w blk off d0 d (wr.drewN q) := ⟨h.os, h.tape, h.output, h.grew, h.other, h.row, h.size, h.hold, h.lt⟩

/-- Behind whatever turns no block of w's. -/
theorem View.below {w wr w1 : World} {blk off : Nat} {d0 d : Array Nat} (h : View w blk off d0 d wr) (hb : Below w.heap.size wr w1) : View w blk off d0 d w1 :=
  ⟨hb.os.trans h.os, hb.tape.trans h.tape, hb.output.trans h.output, Nat.le_trans h.grew hb.size, fun b h1 h2 => (hb.block b h1).trans (h.other b h1 h2), (hb.block blk h.lt).trans h.row, h.size, h.hold, h.lt⟩

/-- Behind a callee that turns the row. -/
theorem View.then {w wr w1 : World} {blk off : Nat} {d0 d d' : Array Nat} (h : View w blk off d0 d wr) (h1 : View wr blk off d d' w1) : View w blk off d0 d' w1 := by
  refine ⟨h1.os.trans h.os, h1.tape.trans h.tape, h1.output.trans h.output, Nat.le_trans h.grew h1.grew, fun b hb hne => (h1.other b (Nat.lt_of_lt_of_le hb h.grew) hne).trans (h.other b hb hne), ?_, h1.size.trans h.size, h.hold, h.lt⟩
  rw [h1.row, heap_putRow, if_pos rfl, h.row, ← putRow_putRow encF w blk off d d' h1.size]
  conv => rhs; rw [heap_putRow, if_pos rfl]

/-- The two stores of 'data[i], data[j] = data[j], data[i]'. -/
theorem View.swap {w wr : World} {blk off : Nat} {d0 d : Array Nat} (h : View w blk off d0 d wr) {i j : Nat} (hi : i < d0.size) (hj : j < d0.size) (q : Nat) :
    View w blk off d0 (swp d i j) (((wr.drewN q).setCell ⟨blk, off + i, none⟩ (.float .f64 d[j]!)).setCell ⟨blk, off + j, none⟩ (.float .f64 d[i]!)) := by
  have hs : (swp d i j).size = d.size := size_swp d i j
  have e := putRow_swp encF (Sort.ahead wr q) blk off d i j (by rw [h.size]; exact hi) (by rw [h.size]; exact hj)
  rw [putRow_self encF (Sort.ahead wr q) blk off d (holds_ahead encF wr q blk off d h.holds)] at e
  have h1 : View wr blk off d (swp d i j) (putRow encF (Sort.ahead wr q) blk off (swp d i j)) := by
    refine ⟨rfl, rfl, rfl, by simp, fun b hb hne => ?_, ?_, hs, h.holds, h.blk⟩
    · rw [heap_putRow, if_neg (fun e => hne e.symm)]; rfl
    · rw [heap_putRow, heap_putRow, if_pos rfl, if_pos rfl]; rfl
  have h2 := h.then h1
  rw [← e] at h2
  exact h2
end Go.Proofs.YbulkdswcDoor
