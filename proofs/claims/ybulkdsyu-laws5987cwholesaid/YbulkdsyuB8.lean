import Derived.Test.YbulkdsyuB7
import Derived.Test.YbulkdsyuRowK
namespace Go.Proofs.Ybulkdsyu
open Go Go.RowKit Go.Maps Go.WideMaps Go.WideElems

def sumTo (f : Nat → Nat) : Nat → Nat
  | 0 => 0
  | k + 1 => sumTo f k + f k

theorem sumTo_mono (f : Nat → Nat) {a b : Nat} (h : a ≤ b) : sumTo f a ≤ sumTo f b := by
  induction h with
  | refl => exact Nat.le_refl _
  | step _ ih => exact Nat.le_trans ih (Nat.le_add_right _ _)
theorem sumTo_ge (f : Nat → Nat) {i n : Nat} (h : i < n) : f i ≤ sumTo f n := Nat.le_trans (Nat.le_add_left _ _) (sumTo_mono f (show i + 1 ≤ n from h))
theorem sumTo_le (f : Nat → Nat) (M n : Nat) (h : ∀ i, i < n → f i ≤ M) : sumTo f n ≤ n * M := by
  induction n with
  | zero => simp [sumTo]
  | succ n ih =>
    have := ih (fun i hi => h i (by omega))
    have := h n (by omega)
    simp only [sumTo, Nat.succ_mul]
    omega

theorem run_make33 (n : Nat) (h : n ≤ 4096) (w : World) : (Instr.makeSlice 32 (.int .i64 (n : Int)) (.int .i64 (n : Int))).run Yba.prog w = .ok (.slice (some ⟨w.heap.size, 0, none⟩) n n) (w.alloc (.cells (madeCells #[.slice none 0 0] n) 33)) :=
  run_make_row' 32 33 (.slice none 0 0) 24 Yba.underlying32 (by kernel_rfl) rfl .i64 .i64 n (by omega) (by omega) w

/-- What the walk is told of the script. -/
structure Script (w : World) (ps : Option Addr) (n : Nat) (sp : Nat → Option Addr) (sl sc : Nat → Nat) (ss : Nat → ByteArray) : Prop where
  cell : ∀ i, i < n → ∃ b off, ps = some ⟨b, off, none⟩ ∧ b < w.heap.size ∧ w.cell? ⟨b, off + i, none⟩ = some (.slice (sp i) (sl i) (sc i))
  reads : ∀ i, i < n → Reads (Under w.heap.size) w (.slice (sp i) (sl i) (sc i)) (ss i)
  size : ∀ i, i < n → (ss i).size = sl i

set_option maxHeartbeats 2000000 in
set_option maxRecDepth 100000 in
theorem lawB_big (ps : Option Addr) (n cap : Nat) (sp : Nat → Option Addr) (sl sc : Nat → Nat) (ss : Nat → ByteArray) (np : Option Addr) (nl nc : Nat) (w : World) (hn : 4096 < n) (hn2 : n ≤ 9223372036854775807)
    (h : Script w ps n sp sl sc ss) :
    Calls Yba.prog 4 #[.slice ps n cap, .slice np nl nc] w fun e w' => e = .returned (.bool true) ∧ Below w.heap.size w w' := by
  have H : Hid (Script w ps n sp sl sc ss) := h
  clear h
  have hn1 : (4096 : Int) < (n : Int) := by omega
  go_enter Yba.func4, Yba.ntmps4
  go_wp2
  go_loop [5, 31] (fun vt vi => ∃ (x : Int) (k : Nat), k ≤ n ∧ vi = .int .i64 k ∧ vt = .int .i64 x) (fun _ vi => n - (intOf vi).toNat)
  case atStart => exact ⟨_, 0, Nat.zero_le _, rfl, rfl⟩
  case round =>
    obtain ⟨x, k, hk, rfl, rfl⟩ := hrel
    by_cases hkn : k < n
    · obtain ⟨b, off, rfl, hb, hc⟩ := H.out.cell k hkn
      have hk1 : (k : Int) < (n : Int) := by omega
      have hk0 : (0 : Int) ≤ (k : Int) := by omega
      go_wp2
      go_round
      case rel => go_light; exact ⟨_, k + 1, by omega, by go_num, rfl⟩
      case measure => simp [intOf]; omega
    · go_wp2
      go_ret
      exact ⟨rfl, Below.refl _ _⟩

set_option maxHeartbeats 2000000 in
set_option maxRecDepth 100000 in
theorem lawB_tot (ps : Option Addr) (n cap : Nat) (sp : Nat → Option Addr) (sl sc : Nat → Nat) (ss : Nat → ByteArray) (np : Option Addr) (nl nc : Nat) (w : World) (hn : n ≤ 4096) (hnl : nl ≤ 140737488355328)
    (h47 : ∀ i, i < n → sl i ≤ 140737488355328) (htot : 1048576 < nl + n + sumTo sl n) (h : Script w ps n sp sl sc ss) :
    Calls Yba.prog 4 #[.slice ps n cap, .slice np nl nc] w fun e w' => e = .returned (.bool true) ∧ Below w.heap.size w w' := by
  have H : Hid (Script w ps n sp sl sc ss) := h
  have HT : Hid (1048576 < nl + n + sumTo sl n) := htot
  have H47 : Hid (∀ i, i < n → sl i ≤ 140737488355328) := h47
  have hs := sumTo_le sl 140737488355328 n h47
  have hS : ∀ k, k ≤ n → sumTo sl k ≤ 576460752303423488 := fun k hk => by have := sumTo_mono sl hk; have : n * 140737488355328 ≤ 4096 * 140737488355328 := Nat.mul_le_mul_right _ hn; omega
  have HS : Hid (∀ k, k ≤ n → sumTo sl k ≤ 576460752303423488) := hS
  clear h htot h47 hs hS
  have hn1 : (n : Int) ≤ 4096 := by omega
  have hnl1 : (nl : Int) ≤ 140737488355328 := by omega
  go_enter Yba.func4, Yba.ntmps4
  go_wp2
  go_loop [5, 31] (fun vt vi => ∃ (k : Nat), k ≤ n ∧ vi = .int .i64 k ∧ vt = .int .i64 ((nl + n + sumTo sl k : Nat) : Int)) (fun _ vi => n - (intOf vi).toNat)
  case atStart => exact ⟨0, Nat.zero_le _, rfl, by simp [sumTo]⟩
  case round =>
    obtain ⟨k, hk, rfl, rfl⟩ := hrel
    have hk2 := HS.out k hk
    have hk3 : ((nl + n + sumTo sl k : Nat) : Int) ≤ 1000000000000000000 := by omega
    have hk4 : 0 ≤ ((nl + n + sumTo sl k : Nat) : Int) := by omega
    by_cases hkn : k < n
    · obtain ⟨b, off, rfl, hb, hc⟩ := H.out.cell k hkn
      have hk1 : (k : Int) < (n : Int) := by omega
      have hk0 : (0 : Int) ≤ (k : Int) := by omega
      have hk5 := H47.out k hkn
      have hk6 : (sl k : Int) ≤ 140737488355328 := by omega
      have hk7 : (0 : Int) ≤ (sl k : Int) := by omega
      generalize hT : nl + n + sumTo sl k = T at *
      have HTT : Hid (nl + n + sumTo sl k = T) := hT
      clear hT
      go_wp2
      go_round
      case rel => go_light; exact ⟨k + 1, by omega, by go_num, by have := HTT.out; simp only [sumTo]; go_num⟩
      case measure => simp [intOf]; omega
    · obtain rfl : k = n := by omega
      have ht : (1048576 : Int) < ((nl + k + sumTo sl k : Nat) : Int) := by have := HT.out; omega
      generalize nl + k + sumTo sl k = T at *
      go_wp2
      go_ret
      exact ⟨rfl, Below.refl _ _⟩
end Go.Proofs.Ybulkdsyu
