import Derived.Test.YbulkdswcDoorT1
namespace Go.Proofs.YbulkdswcDoor
open Go Ieee Go.RowKit Go.Sort

attribute [local go_sem] run_store_float

theorem below_draw {B : Nat} {a w : World} (h : Below B a w) (q : Nat) : Below B a (w.drewN q) := ⟨h.os, h.tape, h.output, h.size, h.block⟩

set_option maxHeartbeats 4000000 in
set_option maxRecDepth 100000 in
theorem halfStep_f {s : Array Nat} {h2 H : Nat → Nat} (F : Fl s h2 H) {w : World} {B sb so cs lo up hr gn gc k : Nat} {gp : Option Addr} {g : List Nat} (hM : CM w B sb so s gp g) (hB : B ≤ w.heap.size) (hk : k + 1 < s.size) (hn : s.size ≤ 1048576) :
    Calls Ybad.prog 20 #[clv sb so s.size cs lo up hr gp gn gc, .int .i64 k] w fun e w' => e = .returned (.float .f64 (H k)) ∧ Below w.heap.size w w' := by
  have HW : Hid (∀ W, W = w.alloc (.cells #[.slice (some ⟨sb, so, none⟩) s.size cs, .int .i64 lo, .int .i64 up, .float .f64 hr, .slice gp gn gc] 30) → W.cell? ⟨w.heap.size, 0, none⟩ = some (.slice (some ⟨sb, so, none⟩) s.size cs) ∧ W.cell? ⟨sb, so + k, none⟩ = some (.float .f64 s[k]!) ∧ W.cell? ⟨sb, so + (k + 1), none⟩ = some (.float .f64 s[k + 1]!) ∧ Below w.heap.size w W) := by
    intro W hW
    have hb : Below w.heap.size w W := by rw [hW]; exact (Below.refl _ w).alloc (Nat.le_refl _) _
    have hn2 : W.heap[w.heap.size]? = some (.cells #[.slice (some ⟨sb, so, none⟩) s.size cs, .int .i64 lo, .int .i64 up, .float .f64 hr, .slice gp gn gc] 30) := by rw [hW]; unfold World.alloc; simp
    have hM2 := hM.kept (hb.mono hB) (Nat.le_refl _)
    refine ⟨?_, hM2.sc k (by omega), hM2.sc (k + 1) hk, hb⟩
    simp only [World.cell?, hn2]; simp
  have e1 := run_div (F.div k (by omega))
  have e2 := run_div (F.div (k + 1) hk)
  have e3 := run_sub (F.sub k hk)
  have k0 : (0 : Int) ≤ (k : Int) := by omega
  have k1 : (k : Int) + 1 < (s.size : Int) := by omega
  have n1 : (s.size : Int) ≤ 1048576 := by omega
  have hw : IntKind.i64.wrap ((k : Int) + 1) = (k : Int) + 1 := wrapI (by omega) (by omega)
  clear hM
  generalize s[k]! = x at *
  generalize s[k + 1]! = y at *
  generalize h2 k = p at *
  generalize h2 (k + 1) = q at *
  generalize H k = r at *
  clear F
  go_enter Ybad.func20, Ybad.ntmps20
  go_upto_region 1 with fail
  generalize hW : w.alloc _ = W
  obtain ⟨c0, c1, c2, hb⟩ := HW.out W hW.symm
  have HB := (show Hid _ from hb)
  clear HW hW hb
  go_quiet (fail)
  go_wp2
  go_ret
  exact ⟨rfl, below_draw HB.out _⟩

set_option maxHeartbeats 2000000 in
theorem inf_f (w : World) : Calls Ybad.prog 22 #[.int .i64 1] w fun e w' => e = .returned (.float .f64 9218868437227405312) ∧ w' = w := by
  have h40 : ∀ w, (callFunc 40 #[.int .u64 9218868437227405312]).run Ybad.prog w = .ok (.value (.float .f64 9218868437227405312)) w := fun w => by kernel_rfl
  go_enter Ybad.func22, Ybad.ntmps22
  go_wp2
  go_ret
  exact ⟨rfl, rfl⟩
end Go.Proofs.YbulkdswcDoor
