import Derived.Test.YbulkdswcFmtProg
import Derived.WalkKit
import Derived.WalkSpells
import Derived.WalkLawsBesides
namespace Go.Proofs.YbulkdswcFmt
open Go Go.RowKit

/-- What alert.levels holds in the world w: a slice of three pairs. -/
structure Lvl (b off : Nat) (w : World) : Prop where
  hg : w.cell? ⟨0, 0, none⟩ = some (.slice (some ⟨b, off, none⟩) 3 3)
  c0 : w.cell? ⟨b, off, none⟩ = some (.string ⟨#[115, 108, 105, 103, 104, 116]⟩)
  c1 : w.cell? ⟨b, off + 1, none⟩ = some (.int .i8 1)
  c2 : w.cell? ⟨b, off + 2, none⟩ = some (.string ⟨#[104, 105, 103, 104]⟩)
  c3 : w.cell? ⟨b, off + 2 + 1, none⟩ = some (.int .i8 2)
  c4 : w.cell? ⟨b, off + 4, none⟩ = some (.string ⟨#[101, 120, 116, 114, 101, 109, 101]⟩)
  c5 : w.cell? ⟨b, off + 4 + 1, none⟩ = some (.int .i8 3)
  h1 : 0 < w.heap.size
  hb : b < w.heap.size

theorem Lvl.below {b off : Nat} {w w' : World} (h : Lvl b off w) (hb : Below w.heap.size w w') : Lvl b off w' where
  hg := (hb.cell (p := ⟨0, 0, none⟩) h.h1).trans h.hg
  c0 := (hb.cell (p := ⟨b, off, none⟩) h.hb).trans h.c0
  c1 := (hb.cell (p := ⟨b, off + 1, none⟩) h.hb).trans h.c1
  c2 := (hb.cell (p := ⟨b, off + 2, none⟩) h.hb).trans h.c2
  c3 := (hb.cell (p := ⟨b, off + 2 + 1, none⟩) h.hb).trans h.c3
  c4 := (hb.cell (p := ⟨b, off + 4, none⟩) h.hb).trans h.c4
  c5 := (hb.cell (p := ⟨b, off + 4 + 1, none⟩) h.hb).trans h.c5
  h1 := Nat.lt_of_lt_of_le h.h1 hb.size
  hb := Nat.lt_of_lt_of_le h.hb hb.size

set_option maxHeartbeats 1000000 in
set_option maxRecDepth 100000 in
theorem levels_any (b off : Nat) (w : World) (h : Lvl b off w) :
    Calls Ybaf.prog 4 #[] w fun e w' => e = .returned (.slice (some ⟨w.heap.size, 0, none⟩) 3 3) ∧
      w' = (((w.alloc (.cells #[.string ⟨#[115, 108, 105, 103, 104, 116]⟩, .string ⟨#[104, 105, 103, 104]⟩, .string ⟨#[101, 120, 116, 114, 101, 109, 101]⟩] 9)).alloc (.cells #[.string ⟨#[115, 108, 105, 103, 104, 116]⟩, .int .i8 1] 33)).alloc (.cells #[.string ⟨#[104, 105, 103, 104]⟩, .int .i8 2] 33)).alloc (.cells #[.string ⟨#[101, 120, 116, 114, 101, 109, 101]⟩, .int .i8 3] 33) := by
  have hmk : ∀ w, (Instr.makeSlice 22 (.int .i64 3) (.int .i64 3)).run Ybaf.prog w = .ok (.slice (some ⟨w.heap.size, 0, none⟩) 3 3) (w.alloc (.cells #[.string ⟨#[]⟩, .string ⟨#[]⟩, .string ⟨#[]⟩] 9)) := fun _ => by kernel_rfl
  obtain ⟨hg, c0, c1, c2, c3, c4, c5, h1, hb⟩ := h
  have hb1 : b < w.heap.size + 1 := by omega
  have hb2 : b < w.heap.size + 1 + 1 := by omega
  have hb3 : b < w.heap.size + 1 + 1 + 1 := by omega
  go_enter Ybaf.func4, Ybaf.ntmps4
  go_wp2
  refine wp_loop_rounds 4 ?_
  rw [rounds_succ]; go_wp2
  rw [rounds_succ]; go_wp2
  rw [rounds_succ]; go_wp2
  rw [rounds_succ]; go_wp2
  go_ret
  exact ⟨rfl, rfl⟩

set_option maxHeartbeats 1000000 in
set_option maxRecDepth 100000 in
theorem parse0 (b off : Nat) (w : World) (h : Lvl b off w) :
    Calls Ybaf.prog 5 #[.string ⟨#[115, 108, 105, 103, 104, 116]⟩] w fun e w' => e = .returned (.tuple #[.int .i8 1, .nilIface]) ∧
      Below w.heap.size w w' := by
  obtain ⟨hg, c0, c1, c2, c3, c4, c5, h1, hb⟩ := h
  have hb1 : b < w.heap.size + 1 := by omega
  have hb2 : b < w.heap.size + 1 + 1 := by omega
  go_enter Ybaf.func5, Ybaf.ntmps5
  go_wp2
  refine wp_loop_rounds 4 ?_
  rw [rounds_succ]; go_wp2
  go_ret2
  exact ⟨rfl, (Below.refl _ _).alloc (Nat.le_refl _) _⟩

set_option maxHeartbeats 1000000 in
set_option maxRecDepth 100000 in
theorem parse1 (b off : Nat) (w : World) (h : Lvl b off w) :
    Calls Ybaf.prog 5 #[.string ⟨#[104, 105, 103, 104]⟩] w fun e w' => e = .returned (.tuple #[.int .i8 2, .nilIface]) ∧
      Below w.heap.size w w' := by
  obtain ⟨hg, c0, c1, c2, c3, c4, c5, h1, hb⟩ := h
  have hb1 : b < w.heap.size + 1 := by omega
  have hb2 : b < w.heap.size + 1 + 1 := by omega
  go_enter Ybaf.func5, Ybaf.ntmps5
  go_wp2
  refine wp_loop_rounds 4 ?_
  rw [rounds_succ]; go_wp2
  rw [rounds_succ]; go_wp2
  go_ret2
  exact ⟨rfl, ((Below.refl _ _).alloc (Nat.le_refl _) _).alloc (by simp) _⟩

set_option maxHeartbeats 1000000 in
set_option maxRecDepth 100000 in
theorem parse2 (b off : Nat) (w : World) (h : Lvl b off w) :
    Calls Ybaf.prog 5 #[.string ⟨#[101, 120, 116, 114, 101, 109, 101]⟩] w fun e w' => e = .returned (.tuple #[.int .i8 3, .nilIface]) ∧
      Below w.heap.size w w' := by
  obtain ⟨hg, c0, c1, c2, c3, c4, c5, h1, hb⟩ := h
  have hb1 : b < w.heap.size + 1 := by omega
  have hb2 : b < w.heap.size + 1 + 1 := by omega
  have hb3 : b < w.heap.size + 1 + 1 + 1 := by omega
  go_enter Ybaf.func5, Ybaf.ntmps5
  go_wp2
  refine wp_loop_rounds 4 ?_
  rw [rounds_succ]; go_wp2
  rw [rounds_succ]; go_wp2
  rw [rounds_succ]; go_wp2
  go_ret2
  exact ⟨rfl, (((Below.refl _ _).alloc (Nat.le_refl _) _).alloc (by simp) _).alloc (by simp; omega) _⟩

theorem bcell {W w1 : World} (hb : Below W.heap.size W w1) : (∀ b o, b < W.heap.size → w1.cell? ⟨b, o, none⟩ = W.cell? ⟨b, o, none⟩) ∧ (∀ b o, b < W.heap.size → w1.frozen? ⟨b, o, none⟩ = W.frozen? ⟨b, o, none⟩) :=
  ⟨fun b o h => hb.cell (p := ⟨b, o, none⟩) h, fun b o h => hb.frozen (p := ⟨b, o, none⟩) h⟩

set_option maxHeartbeats 1000000 in
set_option maxRecDepth 100000 in
theorem law_parse (b off : Nat) (w : World) (h : Lvl b off w) :
    Calls Ybaf.prog 3 #[] w fun e w' => e = .returned (.bool true) ∧ Below w.heap.size w w' := by
  go_enter Ybaf.func3, Ybaf.ntmps3
  go_wp2_with fail
  refine (levels_any b off w h).mono ?_
  rintro e w1 ⟨rfl, rfl⟩
  go_wp2_with fail
  refine wp_loop_rounds 4 ?_
  rw [rounds_succ]; go_wp2_with fail
  have bel0 := ((((((Below.refl w.heap.size w).alloc (Nat.le_refl _) (.cells #[.string ⟨#[115, 108, 105, 103, 104, 116]⟩, .string ⟨#[104, 105, 103, 104]⟩, .string ⟨#[101, 120, 116, 114, 101, 109, 101]⟩] 9)).alloc (by simp) (.cells #[.string ⟨#[115, 108, 105, 103, 104, 116]⟩, .int .i8 1] 33)).alloc (by simp; omega) (.cells #[.string ⟨#[104, 105, 103, 104]⟩, .int .i8 2] 33)).alloc (by simp; omega) (.cells #[.string ⟨#[101, 120, 116, 114, 101, 109, 101]⟩, .int .i8 3] 33)).alloc (by simp; omega) (.cells #[.int .i8 1, .int .i8 2, .int .i8 3] 26))
  have L1 := h.below bel0
  refine (parse0 b off _ L1).mono ?_
  rintro e w2 ⟨rfl, hb2⟩
  have L2 := L1.below hb2
  have n1 : w2.cell? ⟨w.heap.size, 1, none⟩ = some (.string ⟨#[104, 105, 103, 104]⟩) := (hb2.cell (p := ⟨w.heap.size, 1, none⟩) (by simp; omega)).trans (by simp [go_sem])
  have n2 : w2.cell? ⟨w.heap.size, 2, none⟩ = some (.string ⟨#[101, 120, 116, 114, 101, 109, 101]⟩) := (hb2.cell (p := ⟨w.heap.size, 2, none⟩) (by simp; omega)).trans (by simp [go_sem])
  have a0 : w2.cell? ⟨w.heap.size + 1 + 1 + 1 + 1, 0, none⟩ = some (.int .i8 1) := (hb2.cell (p := ⟨w.heap.size + 1 + 1 + 1 + 1, 0, none⟩) (by simp)).trans (by simp [go_sem])
  have a1 : w2.cell? ⟨w.heap.size + 1 + 1 + 1 + 1, 1, none⟩ = some (.int .i8 2) := (hb2.cell (p := ⟨w.heap.size + 1 + 1 + 1 + 1, 1, none⟩) (by simp)).trans (by simp [go_sem])
  have a2 : w2.cell? ⟨w.heap.size + 1 + 1 + 1 + 1, 2, none⟩ = some (.int .i8 3) := (hb2.cell (p := ⟨w.heap.size + 1 + 1 + 1 + 1, 2, none⟩) (by simp)).trans (by simp [go_sem])
  have z2 : w.heap.size + 1 + 1 + 1 + 1 < w2.heap.size := by have := hb2.size; simp at this; omega
  have bel2 : Below w.heap.size w w2 := bel0.trans (hb2.mono (by simp; omega))
  clear hb2 L1 bel0
  go_wp2_with fail
  rw [rounds_succ]; go_wp2_with fail
  refine (parse1 b off _ L2).mono ?_
  rintro e w3 ⟨rfl, hb3⟩
  have L3 := L2.below hb3
  have n2' : w3.cell? ⟨w.heap.size, 2, none⟩ = some (.string ⟨#[101, 120, 116, 114, 101, 109, 101]⟩) := (hb3.cell (p := ⟨w.heap.size, 2, none⟩) (by simp; omega)).trans n2
  have a1' : w3.cell? ⟨w.heap.size + 1 + 1 + 1 + 1, 1, none⟩ = some (.int .i8 2) := (hb3.cell (p := ⟨w.heap.size + 1 + 1 + 1 + 1, 1, none⟩) z2).trans a1
  have a2' : w3.cell? ⟨w.heap.size + 1 + 1 + 1 + 1, 2, none⟩ = some (.int .i8 3) := (hb3.cell (p := ⟨w.heap.size + 1 + 1 + 1 + 1, 2, none⟩) z2).trans a2
  have z3 : w.heap.size + 1 + 1 + 1 + 1 < w3.heap.size := by have := hb3.size; omega
  have bel3 : Below w.heap.size w w3 := bel2.trans (hb3.mono (by omega))
  clear hb3 L2 bel2 n1 n2 a0 a1 a2 z2
  go_wp2_with fail
  rw [rounds_succ]; go_wp2_with fail
  refine (parse2 b off _ L3).mono ?_
  rintro e w4 ⟨rfl, hb4⟩
  have a2 : w4.cell? ⟨w.heap.size + 1 + 1 + 1 + 1, 2, none⟩ = some (.int .i8 3) := (hb4.cell (p := ⟨w.heap.size + 1 + 1 + 1 + 1, 2, none⟩) z3).trans a2'
  have bel4 : Below w.heap.size w w4 := bel3.trans (hb4.mono (by omega))
  clear hb4 L3 bel3 n2' a1' a2' z3
  go_wp2_with fail
  rw [rounds_succ]; go_wp2_with fail
  go_ret
  exact ⟨rfl, bel4⟩
end Go.Proofs.YbulkdswcFmt
