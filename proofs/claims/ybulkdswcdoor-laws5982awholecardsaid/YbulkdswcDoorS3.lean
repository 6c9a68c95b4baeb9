import Derived.Test.YbulkdswcDoorS2
import Derived.Deep.CutBlock
import Derived.Deep.CutRange
namespace Go.Proofs.YbulkdswcDoor
open Go Ieee Go.RowKit Go.Sort

attribute [local go_sem] run_store_float

theorem insInner_succ (a j : Nat) (d : Array Nat) (h : a < j + 1) : insInner ltF a (j + 1) d = if ltF d[j + 1]! d[j]! then insInner ltF a j (swp d (j + 1) j) else d := by
  rw [insInner]; simp [h]

theorem insInner_le (a j : Nat) (d : Array Nat) (h : j ≤ a) : insInner ltF a j d = d := by
  cases j with
  | zero => rfl
  | succ j => rw [insInner]; simp [show ¬ a < j + 1 by omega]

set_option maxHeartbeats 2000000 in
set_option maxRecDepth 100000 in
theorem insertion_f (blk off cap a b : Nat) (d : Array Nat) (w : World) (hH : Holds encF w blk off d) (hblk : blk < w.heap.size) (hab : a ≤ b) (hb : b ≤ d.size) (hsz : d.size < 4611686018427387904) :
    Calls Ybad.prog 28 #[.slice (some ⟨blk, off, none⟩) d.size cap, .int .i64 a, .int .i64 b] w fun e w' => e = .returned (.tuple #[]) ∧ View w blk off d (insertionSort ltF d a b) w' := by
  have HV : Hid (View w blk off d d w) := View.refl hH hblk
  clear hH hblk
  have a0 : (0 : Int) ≤ (a : Int) := by omega
  have b1 : (b : Int) ≤ (d.size : Int) := by omega
  have s1 : (d.size : Int) < 4611686018427387904 := by omega
  go_enter Ybad.func28, Ybad.ntmps28
  go_wp2
  go_loopw [6] (fun vi wr => ∃ (i : Nat) (dk : Array Nat), vi = .int .i64 i ∧ a < i ∧ i ≤ b + 1 ∧ View w blk off d dk wr ∧ insOuter ltF a b i dk = insOuter ltF a b (a + 1) d) (fun vi _ => b + 1 - (intOf vi).toNat)
  case atStart => exact ⟨a + 1, d, by go_num, by omega, by omega, HV.out, rfl⟩
  case round =>
    clear HV
    obtain ⟨i, dk, rfl, hai, hib, hv, hO⟩ := hrel
    have i0 : (0 : Int) ≤ (i : Int) := by omega
    have HV : Hid (View w blk off d dk wr ∧ insOuter ltF a b i dk = insOuter ltF a b (a + 1) d) := ⟨hv, hO⟩
    clear hv hO
    by_cases hin : i < b
    · have i1 : (i : Int) < (b : Int) := by omega
      go_wp2_with fail
      go_loopw [7] (fun vj wr => ∃ (j : Nat) (dj : Array Nat), vj = .int .i64 j ∧ a ≤ j ∧ j ≤ i ∧ View w blk off d dj wr ∧ insInner ltF a j dj = insInner ltF a i dk) (fun vj _ => (intOf vj).toNat)
      case atStart => exact ⟨i, dk, rfl, by omega, Nat.le_refl _, HV.out.1, rfl⟩
      case round =>
        obtain ⟨j, dj, rfl, haj, hji, hv, hI⟩ := hrel
        have HV2 : Hid (View w blk off d dj wr ∧ insInner ltF a j dj = insInner ltF a i dk) := ⟨hv, hI⟩
        have hout : Hid (insInner ltF a j dj = dj → insOuter ltF a b (i + 1) dj = insOuter ltF a b (a + 1) d) := fun e => by
          rw [← HV.out.2]
          conv => rhs; rw [insOuter, if_pos hin]
          rw [← hI, e]
        clear hv hI HV
        by_cases hja : a < j
        · obtain ⟨k, rfl⟩ : ∃ k, j = k + 1 := ⟨j - 1, by omega⟩
          have j1 : (a : Int) < (k : Int) + 1 := by omega
          have j2 : (k : Int) + 1 < (d.size : Int) := by omega
          have j3 : (0 : Int) ≤ (k : Int) := by omega
          have c1 := HV2.out.1.cell (k + 1) (by omega)
          have c2 := HV2.out.1.cell k (by omega)
          have f1 := HV2.out.1.frozen (k + 1) (by omega)
          have f2 := HV2.out.1.frozen k (by omega)
          have hlt := fun q => less_f dj[k + 1]! dj[k]! (wr.drewN q)
          have hsw := fun q => HV2.out.1.swap (i := k + 1) (j := k) (by omega) (by omega) q
          have hst := insInner_succ a k dj hja
          have HS := (show Hid _ from And.intro hsw hst)
          clear hsw hst
          generalize hx : dj[k + 1]! = x at *
          generalize hy : dj[k]! = y at *
          clear hx hy
          go_wp2_with fail
          go_quiet ((go_at_call 34; exact Calls.quiet_of_same (hlt _)))
          cases hl : ltF x y
          · go_wp2
            go_roundw
            case rel =>
              go_light
              exact ⟨i + 1, dj, by go_num, by omega, by omega, HV2.out.1.draw _, hout.out (by rw [HS.out.2, hl]; simp)⟩
            case measure => simp [intOf]; omega
          · go_wp2
            go_region
            all_goals go_wp2
            go_roundw
            case rel =>
              go_light
              exact ⟨k, swp dj (k + 1) k, by go_num, by omega, by omega, HS.out.1 _, by rw [← HV2.out.2, HS.out.2, hl]; simp⟩
            case measure => simp [intOf]
        · have j1 : ¬ (a : Int) < (j : Int) := by omega
          go_wp2_with fail
          go_quiet (fail)
          go_wp2
          go_roundw
          case rel =>
            go_light
            exact ⟨i + 1, dj, by go_num, by omega, by omega, HV2.out.1.draw _, hout.out (insInner_le a j dj (by omega))⟩
          case measure => simp [intOf]; omega
    · have i1 : ¬ (i : Int) < (b : Int) := by omega
      go_wp2
      go_end0
      refine ⟨rfl, ?_⟩
      have e : insertionSort ltF d a b = dk := by
        unfold insertionSort
        rw [← HV.out.2, insOuter, if_neg hin]
      rw [e]
      exact HV.out.1
end Go.Proofs.YbulkdswcDoor
