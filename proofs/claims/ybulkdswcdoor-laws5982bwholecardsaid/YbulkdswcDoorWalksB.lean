import Derived.Test.YbulkdswcDoorProg
import Derived.WalkKit
import Derived.WalkSpells
import Derived.WalkLawsBesides
namespace Go.Proofs.YbulkdswcDoor
open Go Go.RowKit

/-- What alert.levels holds in the world w: a slice of three pairs. -/
structure Lvl (b off : Nat) (w : World) : Prop where
  hg : w.cell? ⟨1, 0, none⟩ = some (.slice (some ⟨b, off, none⟩) 3 3)
  c0 : w.cell? ⟨b, off, none⟩ = some (.string ⟨#[115, 108, 105, 103, 104, 116]⟩)
  c1 : w.cell? ⟨b, off + 1, none⟩ = some (.int .i8 1)
  c2 : w.cell? ⟨b, off + 2, none⟩ = some (.string ⟨#[104, 105, 103, 104]⟩)
  c3 : w.cell? ⟨b, off + 2 + 1, none⟩ = some (.int .i8 2)
  c4 : w.cell? ⟨b, off + 4, none⟩ = some (.string ⟨#[101, 120, 116, 114, 101, 109, 101]⟩)
  c5 : w.cell? ⟨b, off + 4 + 1, none⟩ = some (.int .i8 3)
  h1 : 1 < w.heap.size
  hb : b < w.heap.size

theorem Lvl.below {b off : Nat} {w w' : World} (h : Lvl b off w) (hb : Below w.heap.size w w') : Lvl b off w' where
  hg := (hb.cell (p := ⟨1, 0, none⟩) h.h1).trans h.hg
  c0 := (hb.cell (p := ⟨b, off, none⟩) h.hb).trans h.c0
  c1 := (hb.cell (p := ⟨b, off + 1, none⟩) h.hb).trans h.c1
  c2 := (hb.cell (p := ⟨b, off + 2, none⟩) h.hb).trans h.c2
  c3 := (hb.cell (p := ⟨b, off + 2 + 1, none⟩) h.hb).trans h.c3
  c4 := (hb.cell (p := ⟨b, off + 4, none⟩) h.hb).trans h.c4
  c5 := (hb.cell (p := ⟨b, off + 4 + 1, none⟩) h.hb).trans h.c5
  h1 := Nat.lt_of_lt_of_le h.h1 hb.size
  hb := Nat.lt_of_lt_of_le h.hb hb.size

set_option maxHeartbeats 1000000 in
set_option maxRecDepth 100000 in
theorem levels_any (b off : Nat) (w : World) (h : Lvl b off w) :
    Calls Ybad.prog 14 #[] w fun e w' => e = .returned (.slice (some ⟨w.heap.size, 0, none⟩) 3 3) ∧
      w' = (((w.alloc (.cells #[.string ⟨#[115, 108, 105, 103, 104, 116]⟩, .string ⟨#[104, 105, 103, 104]⟩, .string ⟨#[101, 120, 116, 114, 101, 109, 101]⟩] 9)).alloc (.cells #[.string ⟨#[115, 108, 105, 103, 104, 116]⟩, .int .i8 1] 55)).alloc (.cells #[.string ⟨#[104, 105, 103, 104]⟩, .int .i8 2] 55)).alloc (.cells #[.string ⟨#[101, 120, 116, 114, 101, 109, 101]⟩, .int .i8 3] 55) := by
  have hmk : ∀ w, (Instr.makeSlice 38 (.int .i64 3) (.int .i64 3)).run Ybad.prog w = .ok (.slice (some ⟨w.heap.size, 0, none⟩) 3 3) (w.alloc (.cells #[.string ⟨#[]⟩, .string ⟨#[]⟩, .string ⟨#[]⟩] 9)) := fun _ => by kernel_rfl
  obtain ⟨hg, c0, c1, c2, c3, c4, c5, h1, hb⟩ := h
  have hb1 : b < w.heap.size + 1 := by omega
  have hb2 : b < w.heap.size + 1 + 1 := by omega
  have hb3 : b < w.heap.size + 1 + 1 + 1 := by omega
  go_enter Ybad.func14, Ybad.ntmps14
  go_wp2
  refine wp_loop_rounds 4 ?_
  rw [rounds_succ]; go_wp2
  rw [rounds_succ]; go_wp2
  rw [rounds_succ]; go_wp2
  rw [rounds_succ]; go_wp2
  go_ret
  exact ⟨rfl, rfl⟩

set_option maxHeartbeats 1000000 in
set_option maxRecDepth 100000 in
theorem same_yes (g : Nat) (w : World)
    (c0 : w.cell? ⟨g, 0, none⟩ = some (.string ⟨#[115, 108, 105, 103, 104, 116]⟩))
    (c1 : w.cell? ⟨g, 1, none⟩ = some (.string ⟨#[104, 105, 103, 104]⟩))
    (c2 : w.cell? ⟨g, 2, none⟩ = some (.string ⟨#[101, 120, 116, 114, 101, 109, 101]⟩)) :
    Calls Ybad.prog 15 #[.slice (some ⟨g, 0, none⟩) 3 3] w fun e w' => e = .returned (.bool true) ∧ w' = w := by
  go_enter Ybad.func15, Ybad.ntmps15
  go_wp2
  go_ret
  exact ⟨rfl, rfl⟩

set_option maxHeartbeats 1000000 in
set_option maxRecDepth 100000 in
theorem law_b (b off : Nat) (w : World) (h : Lvl b off w) :
    Calls Ybad.prog 4 #[] w fun e w' => e = .returned (.bool true) ∧ Below w.heap.size w w' := by
  go_enter Ybad.func4, Ybad.ntmps4
  go_wp2_with fail
  refine (levels_any b off w h).mono ?_
  rintro e w1 ⟨rfl, rfl⟩
  go_wp2_with fail
  refine (same_yes _ _ ?_ ?_ ?_).mono ?_
  · simp [go_sem]
  · simp [go_sem]
  · simp [go_sem]
  rintro e w2 ⟨rfl, rfl⟩
  go_wp2_with fail
  refine (levels_any b off _ (h.below (((((Below.refl _ _).alloc (Nat.le_refl _) _).alloc (by simp) _).alloc (by simp; omega) _).alloc (by simp; omega) _))).mono ?_
  rintro e w3 ⟨rfl, rfl⟩
  go_wp2_with fail
  refine (same_yes _ _ ?_ ?_ ?_).mono ?_
  · simp [go_sem]
  · simp [go_sem]
  · simp [go_sem]
  rintro e w2 ⟨rfl, rfl⟩
  go_wp2
  go_ret
  refine ⟨rfl, ?_⟩
  exact ((((((((Below.refl _ _).alloc (Nat.le_refl _) _).alloc (by simp) _).alloc (by simp; omega) _).alloc (by simp; omega) _).alloc (by simp; omega) _).alloc (by simp; omega) _).alloc (by simp; omega) _).alloc (by simp; omega) _
end Go.Proofs.YbulkdswcDoor
