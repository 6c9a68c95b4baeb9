import Derived.Test.YbulkdsyuB1
namespace Go.Proofs.Ybulkdsyu
open Go Go.RowKit

theorem bytes_beq_false {a b : ByteArray} (h : a ≠ b) : (a.toList == b.toList) = false := by
  rw [beq_eq_false_iff_ne]
  intro e
  apply h
  rw [ByteArray.toList_eq, ByteArray.toList_eq] at e
  obtain ⟨⟨x⟩⟩ := a
  obtain ⟨⟨y⟩⟩ := b
  simp at e
  rw [e]

set_option maxHeartbeats 1000000 in
set_option maxRecDepth 100000 in
theorem find_hit (g n cap j : Nat) (f : Nat → ByteArray) (s : ByteArray) (w : World) (hn : n ≤ 1048576) (hj : j < n)
    (hc : ∀ i, i < n → w.cell? ⟨g, i, none⟩ = some (.string (f i))) (hit : f j = s) (hno : ∀ i, i < j → f i ≠ s) :
    Calls Yba.prog 9 #[.slice (some ⟨g, 0, none⟩) n cap, .string s] w fun e w' => e = .returned (.int .i64 j) ∧ w' = w := by
  have HC : Hid (∀ i, i < n → w.cell? ⟨g, i, none⟩ = some (.string (f i))) := hc
  have HI : Hid (f j = s) := hit
  have HN : Hid (∀ i, i < j → f i ≠ s) := hno
  clear hc hit hno
  go_enter Yba.func9, Yba.ntmps9
  go_wp2
  go_loop [5] (fun vi => ∃ k : Nat, k ≤ j ∧ vi = .int .i64 k) (fun vi => n - (intOf vi).toNat)
  case atStart => exact ⟨0, Nat.zero_le _, rfl⟩
  case round =>
    obtain ⟨k, hk, rfl⟩ := hrel
    have hk1 : (k : Int) < (n : Int) := by omega
    have hk0 : (0 : Int) ≤ (k : Int) := by omega
    have c0 : w.cell? ⟨g, k, none⟩ = some (.string (f k)) := HC.out k (by omega)
    by_cases hkj : k = j
    · subst hkj
      have e1 : ((f k).toList == s.toList) = true := by rw [HI.out]; simp
      go_wp2
      go_ret
      exact ⟨rfl, rfl⟩
    · have e1 : ((f k).toList == s.toList) = false := bytes_beq_false (HN.out k (by omega))
      go_wp2
      go_round
      case rel => exact ⟨k + 1, by omega, by go_num⟩
      case measure => simp [intOf]; omega

set_option maxHeartbeats 1000000 in
set_option maxRecDepth 100000 in
theorem find_miss (p : Option Addr) (n cap : Nat) (f : Nat → ByteArray) (s : ByteArray) (w : World) (hn : n ≤ 1048576)
    (hc : ∀ i, i < n → ∃ g, p = some ⟨g, 0, none⟩ ∧ w.cell? ⟨g, i, none⟩ = some (.string (f i))) (hno : ∀ i, i < n → f i ≠ s) :
    Calls Yba.prog 9 #[.slice p n cap, .string s] w fun e w' => e = .returned (.int .i64 (-1)) ∧ w' = w := by
  have HC : Hid (∀ i, i < n → ∃ g, p = some ⟨g, 0, none⟩ ∧ w.cell? ⟨g, i, none⟩ = some (.string (f i))) := hc
  have HN : Hid (∀ i, i < n → f i ≠ s) := hno
  clear hc hno
  go_enter Yba.func9, Yba.ntmps9
  go_wp2
  go_loop [5] (fun vi => ∃ k : Nat, k ≤ n ∧ vi = .int .i64 k) (fun vi => n - (intOf vi).toNat)
  case atStart => exact ⟨0, Nat.zero_le _, rfl⟩
  case round =>
    obtain ⟨k, hk, rfl⟩ := hrel
    by_cases hkn : k < n
    · have hk1 : (k : Int) < (n : Int) := by omega
      have hk0 : (0 : Int) ≤ (k : Int) := by omega
      obtain ⟨g, rfl, c0⟩ := HC.out k hkn
      have e1 : ((f k).toList == s.toList) = false := bytes_beq_false (HN.out k hkn)
      go_wp2
      go_round
      case rel => exact ⟨k + 1, by omega, by go_num⟩
      case measure => simp [intOf]; omega
    · go_wp2
      go_ret
      exact ⟨rfl, rfl⟩

set_option maxHeartbeats 1000000 in
set_option maxRecDepth 100000 in
theorem newBuilder_any (w : World) :
    Calls Yba.prog 8 #[.nilFunc] w fun e w' => e = .returned (.pointer (some ⟨w.heap.size + 1 + 1, 0, none⟩)) ∧
      w' = ((w.alloc (.map #[] 0)).alloc (.cells #[.slice none 0 0, .map (some w.heap.size), .slice none 0 0, .slice none 0 0, .slice none 0 0, .int .i64 0, .string ⟨#[]⟩, .bool false] 53)).alloc
        (.cells #[.pointer (some ⟨w.heap.size + 1, 0, none⟩), .nilFunc, .int .i32 0, .int .i64 0, .slice none 0 0, .slice none 0 0, .nilIface, .int .i64 0] 48) := by
  have hmm := @run_makeMap Yba.prog
  go_enter Yba.func8, Yba.ntmps8
  go_wp2
  go_ret
  exact ⟨rfl, rfl⟩
end Go.Proofs.Ybulkdsyu
