import Derived.Test.YbulkdsyuProg
import Derived.WalkKit
import Derived.WalkSpells
import Derived.WalkLawsBesides
import Derived.BigQuiet
import Derived.Deep.QuietTactic
namespace Go.Proofs.Ybulkdsyu
open Go Go.RowKit

set_option maxHeartbeats 1000000 in
set_option maxRecDepth 100000 in
theorem nameAt_zero (g n : Nat) (x : Int) (w : World) (hn0 : 0 < n) (hn : n ≤ 1048576) (hc : w.cell? ⟨g, 0, none⟩ = some (.int .i32 x)) :
    Calls Yba.prog 6 #[.slice (some ⟨g, 0, none⟩) n n, .int .i64 0] w fun e w' => e = .returned (.tuple #[.int .i64 0, .int .i64 (wrap64 x)]) ∧ ∃ q, w' = w.drewN q := by
  have hn1 : (0 : Int) < (n : Int) := by omega
  go_enter Yba.func6, Yba.ntmps6
  go_wp2
  go_quiet (fail)
  go_wp2
  go_ret2
  exact ⟨rfl, _, rfl⟩

set_option maxHeartbeats 1000000 in
set_option maxRecDepth 100000 in
theorem nameAt_pos (g n t : Nat) (x y : Int) (w : World) (ht : t + 1 < n) (hn : n ≤ 1048576) (hc : w.cell? ⟨g, t * 5, none⟩ = some (.int .i32 x)) (hd : w.cell? ⟨g, (t + 1) * 5, none⟩ = some (.int .i32 y)) :
    Calls Yba.prog 6 #[.slice (some ⟨g, 0, none⟩) n n, .int .i64 ((t : Int) + 1)] w fun e w' => e = .returned (.tuple #[.int .i64 (wrap64 x), .int .i64 (wrap64 y)]) ∧ ∃ q, w' = w.drewN q := by
  have hn1 : (t : Int) + 1 < (n : Int) := by omega
  have hn2 : (t : Int) < (n : Int) := by omega
  have hn3 : (0 : Int) ≤ (t : Int) := by omega
  go_enter Yba.func6, Yba.ntmps6
  go_wp2
  go_quiet (fail)
  go_wp2
  go_ret2
  exact ⟨rfl, _, rfl⟩
end Go.Proofs.Ybulkdsyu
