import Derived.Test.YbulkdswcProg
import Derived.WalkKit
import Derived.WalkSpells
import Derived.WalkLawsBesides
import Derived.BigQuiet
import Derived.Deep.QuietTactic
import Derived.Deep.Light
import Derived.WalkSmall
import Derived.Test.YbulkdswcRowK
namespace Go.Proofs.Ybulkdswc
open Go Go.RowKit

set_option maxHeartbeats 1000000 in
theorem cmp_less (x t : Int) (y : Nat) (w : World) (h : x < t) :
    Calls Yba.prog 10 #[.agg #[.int .i64 x, .float .f64 y], .int .i64 t] w fun e w' => e = .returned (.int .i64 (-1)) ∧ w' = w.alloc (.cells #[.int .i64 x, .float .f64 y] 29) := by
  go_enter Yba.func10, Yba.ntmps10
  go_wp2
  go_ret
  exact ⟨rfl, rfl⟩

set_option maxHeartbeats 1000000 in
theorem cmp_more (x t : Int) (y : Nat) (w : World) (h : t ≤ x) :
    Calls Yba.prog 10 #[.agg #[.int .i64 x, .float .f64 y], .int .i64 t] w fun e w' => e = .returned (.int .i64 1) ∧ w' = w.alloc (.cells #[.int .i64 x, .float .f64 y] 29) := by
  go_enter Yba.func10, Yba.ntmps10
  go_wp2
  go_ret
  exact ⟨rfl, rfl⟩

/-- What a history of n points holds: times s, values r. -/
def pts (s : Nat → Int) (r : Nat → Nat) (c : Nat) : Value := if c % 2 = 0 then .int .i64 (s (c / 2)) else .float .f64 (r (c / 2))

theorem pts_even (s : Nat → Int) (r : Nat → Nat) (i : Nat) : pts s r (i * 2) = .int .i64 (s i) := by
  unfold pts
  rw [if_pos (by omega), show i * 2 / 2 = i by omega]
theorem pts_odd (s : Nat → Int) (r : Nat → Nat) (i : Nat) : pts s r (i * 2 + 1) = .float .f64 (r i) := by
  unfold pts
  rw [if_neg (by omega), show (i * 2 + 1) / 2 = i by omega]

set_option maxHeartbeats 1000000 in
set_option maxRecDepth 100000 in
theorem bsearch (g n : Nat) (t : Int) (s : Nat → Int) (r : Nat → Nat) (w : World) (hn : n ≤ 1048576)
    (hrow : w.rowIs g 29 (n * 2) (pts s r)) (hs : ∀ a b, a ≤ b → b < n → s a ≤ s b) :
    Calls Yba.prog 9 #[.slice (some ⟨g, 0, none⟩) n n, .int .i64 t, .func (.func 10) #[] #[]] w fun e w' =>
      ∃ i : Nat, i ≤ n ∧ e = .returned (.tuple #[.int .i64 i, .bool false]) ∧ (∀ a, a < i → s a < t) ∧ (∀ a, i ≤ a → a < n → t ≤ s a) ∧ Below w.heap.size w w' := by
  have hg := hrow.lt
  go_enter Yba.func9, Yba.ntmps9
  go_wp2
  go_loopw [9, 10] (fun vi vj wr => ∃ i j : Nat, i ≤ j ∧ j ≤ n ∧ vi = .int .i64 i ∧ vj = .int .i64 j ∧ Hid ((∀ a, a < i → s a < t) ∧ (∀ a, j ≤ a → a < n → t ≤ s a) ∧ Below w.heap.size w wr))
    (fun vi vj _ => (intOf vj).toNat - (intOf vi).toNat)
  case atStart => exact ⟨0, n, Nat.zero_le _, Nat.le_refl _, rfl, rfl, fun a h => by omega, fun a h1 h2 => by omega, Below.refl _ _⟩
  case round =>
    obtain ⟨i, j, hij, hjn, rfl, rfl, H⟩ := hrel
    by_cases hlt : i < j
    · have hi1 : (i : Int) < (j : Int) := by omega
      have hi0 : (0 : Int) ≤ (i : Int) := by omega
      have hj1 : (j : Int) ≤ 1048576 := by omega
      have c0 : wr.cell? ⟨g, (i + j) / 2 * 2, none⟩ = some (.int .i64 (s ((i + j) / 2))) := by rw [H.out.2.2.cell (p := ⟨g, (i + j) / 2 * 2, none⟩) hg, hrow.cell (by omega), pts_even]
      have c1 : wr.cell? ⟨g, (i + j) / 2 * 2 + 1, none⟩ = some (.float .f64 (r ((i + j) / 2))) := by rw [H.out.2.2.cell (p := ⟨g, (i + j) / 2 * 2 + 1, none⟩) hg, hrow.cell (by omega), pts_odd]
      by_cases hc : s ((i + j) / 2) < t
      · go_wp2_with (go_at_call 10; refine (cmp_less _ _ _ _ hc).mono ?_; rintro e w' ⟨rfl, rfl⟩)
        go_roundw
        case rel =>
          go_light
          refine ⟨(i + j) / 2 + 1, j, by omega, hjn, by go_num, rfl, fun a ha => ?_, H.out.2.1, H.out.2.2.alloc H.out.2.2.size _⟩
          have := hs a ((i + j) / 2) (by omega) (by omega)
          omega
        case measure => simp [intOf]; omega
      · go_wp2_with (go_at_call 10; refine (cmp_more _ _ _ _ (by omega)).mono ?_; rintro e w' ⟨rfl, rfl⟩)
        go_roundw
        case rel =>
          go_light
          refine ⟨i, (i + j) / 2, by omega, by omega, rfl, by go_num, H.out.1, fun a h1 h2 => ?_, H.out.2.2.alloc H.out.2.2.size _⟩
          have := hs ((i + j) / 2) a h1 h2
          omega
        case measure => simp [intOf]; omega
    · obtain rfl : i = j := by omega
      have hi0 : (0 : Int) ≤ (i : Int) := by omega
      by_cases hin : i < n
      · have hin1 : (i : Int) < (n : Int) := by omega
        have c0 : wr.cell? ⟨g, i * 2, none⟩ = some (.int .i64 (s i)) := by rw [H.out.2.2.cell (p := ⟨g, i * 2, none⟩) hg, hrow.cell (by omega), pts_even]
        have c1 : wr.cell? ⟨g, i * 2 + 1, none⟩ = some (.float .f64 (r i)) := by rw [H.out.2.2.cell (p := ⟨g, i * 2 + 1, none⟩) hg, hrow.cell (by omega), pts_odd]
        have hc : t ≤ s i := H.out.2.1 i (Nat.le_refl _) hin
        go_wp2_with (go_at_call 10; refine (cmp_more _ _ _ _ hc).mono ?_; rintro e w' ⟨rfl, rfl⟩)
        go_ret2
        exact ⟨i, hjn, rfl, H.out.1, H.out.2.1, H.out.2.2.alloc H.out.2.2.size _⟩
      · have hin1 : decide ((i : Int) < (n : Int)) = false := by simp; omega
        go_wp2_with fail
        go_ret2
        exact ⟨i, hjn, rfl, H.out.1, H.out.2.1, H.out.2.2⟩

set_option maxHeartbeats 1000000 in
set_option maxRecDepth 100000 in
theorem index_any (g n : Nat) (t : Int) (s : Nat → Int) (r : Nat → Nat) (w : World) (hn : n ≤ 1048576)
    (hrow : w.rowIs g 29 (n * 2) (pts s r)) (hs : ∀ a b, a ≤ b → b < n → s a ≤ s b) :
    Calls Yba.prog 6 #[.slice (some ⟨g, 0, none⟩) n n, .int .i64 t] w fun e w' =>
      ∃ i : Nat, i ≤ n ∧ e = .returned (.int .i64 i) ∧ (∀ a, a < i → s a < t) ∧ (∀ a, i ≤ a → a < n → t ≤ s a) ∧ Below w.heap.size w w' := by
  go_enter Yba.func6, Yba.ntmps6
  go_wp2_with fail
  refine (bsearch g n t s r _ hn hrow hs).mono ?_
  rintro e w' ⟨i, hi, rfl, h1, h2, h3⟩
  go_wp2
  go_ret
  exact ⟨i, hi, rfl, h1, h2, h3⟩
end Go.Proofs.Ybulkdswc
