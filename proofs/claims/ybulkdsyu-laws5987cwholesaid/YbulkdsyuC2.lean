import Derived.Test.YbulkdsyuC1
import Derived.Test.YbulkdsyuRowK
import Derived.Test.YbulkdsyuB4
namespace Go.Proofs.Ybulkdsyu
open Go Go.RowKit

/-- The cells behind a slice of ints. -/
def IntsAt (w : World) (B : Nat) (p : Option Addr) (n : Nat) (f : Nat → Int) : Prop :=
  ∀ i, i < n → ∃ b off, p = some ⟨b, off, none⟩ ∧ b < B ∧ w.cell? ⟨b, off + i, none⟩ = some (.int .i64 (f i))

theorem IntsAt.kept {w w' : World} {B B' : Nat} {p : Option Addr} {n : Nat} {f : Nat → Int} (h : IntsAt w B p n f) (hb : Below B w w') (hB : B ≤ B') : IntsAt w' B' p n f := fun i hi => by
  obtain ⟨b, off, e, h1, h2⟩ := h i hi
  exact ⟨b, off, e, by omega, (hb.cell (p := ⟨b, off + i, none⟩) h1).trans h2⟩

set_option maxHeartbeats 2000000 in
set_option maxRecDepth 100000 in
theorem ceq_yes {B1 B2 : Nat} (p1 p2 : Option Addr) (n c1 c2 : Nat) (f : Nat → Int) (w : World) (hn : n ≤ 1048576) (h1 : IntsAt w B1 p1 n f) (h2 : IntsAt w B2 p2 n f) :
    Calls Yba.prog 16 #[.slice p1 n c1, .slice p2 n c2] w fun e w' => e = .returned (.bool true) ∧ ∃ q, w' = w.drewN q := by
  have H1 : Hid (IntsAt w B1 p1 n f) := h1
  have H2 : Hid (IntsAt w B2 p2 n f) := h2
  clear h1 h2
  have hn1 : (n : Int) ≤ 1048576 := by omega
  go_enter Yba.func16, Yba.ntmps16
  go_wp2
  go_loopw [5] (fun vi wr => ∃ k q : Nat, k ≤ n ∧ vi = .int .i64 k ∧ wr = w.drewN q) (fun vi _ => n - (intOf vi).toNat)
  case atStart => exact ⟨0, 0, Nat.zero_le _, rfl, rfl⟩
  case round =>
    obtain ⟨k, q, hk, rfl, rfl⟩ := hrel
    have hk0 : (0 : Int) ≤ (k : Int) := by omega
    by_cases hkn : k < n
    · have hk1 : (k : Int) < (n : Int) := by omega
      obtain ⟨b, off, rfl, _, x1⟩ := H1.out k hkn
      obtain ⟨b', off', rfl, _, x2⟩ := H2.out k hkn
      go_wp2
      go_quiet (fail)
      go_wp2
      go_roundw
      case rel => go_light; exact ⟨k + 1, _, by omega, by go_num, rfl⟩
      case measure => simp [intOf]; omega
    · have hk1 : ¬ (k : Int) < (n : Int) := by omega
      go_wp2
      go_ret
      exact ⟨rfl, _, rfl⟩

theorem run_assert (v : Value) (w : World) : (Instr.typeAssert (.iface 151 v) 20 151 true).run Yba.prog w = .ok (.tuple #[v, .bool true]) w := by
  simp [Instr.typeAssert, run_underlying Yba.underlying151]

set_option maxHeartbeats 2000000 in
set_option maxRecDepth 100000 in
theorem put_at (b o c : Nat) (v : Value) (w : World) (hc : w.cell? ⟨b, o, none⟩ = some v) (hf : w.frozen? ⟨b, o, none⟩ = false) :
    Calls Yba.prog 13 #[.pointer (some ⟨b, o, none⟩), .pointer (some ⟨c, 0, none⟩)] w fun e w' => e = .returned (.bool true) ∧ w' = w.setCell ⟨b, o, none⟩ (.pointer (some ⟨c, 0, none⟩)) := by
  have ha := fun v w => run_assert v w
  go_enter Yba.func13, Yba.ntmps13
  go_wp2
  go_ret
  exact ⟨rfl, rfl⟩

set_option maxHeartbeats 2000000 in
set_option maxRecDepth 100000 in
theorem get_at (b o : Nat) (v : Option Addr) (w : World) (hc : w.cell? ⟨b, o, none⟩ = some (.pointer v)) :
    Calls Yba.prog 15 #[.pointer (some ⟨b, o, none⟩)] w fun e w' => e = .returned (.pointer v) ∧ w' = w := by
  have ha := fun v w => run_assert v w
  go_enter Yba.func15, Yba.ntmps15
  go_wp2
  go_ret
  exact ⟨rfl, rfl⟩
end Go.Proofs.Ybulkdsyu
