import Derived.Test.YbulkdswcDoorS3
namespace Go.Proofs.YbulkdswcDoor
open Go Ieee Go.RowKit Go.Sort

attribute [local go_sem] run_store_float

set_option maxHeartbeats 2000000 in
set_option maxRecDepth 100000 in
theorem reverse_f (blk off cap a b : Nat) (d : Array Nat) (w : World) (hH : Holds encF w blk off d) (hblk : blk < w.heap.size) (hab : a < b) (hb : b ≤ d.size) (hsz : d.size < 4611686018427387904) :
    Calls Ybad.prog 32 #[.slice (some ⟨blk, off, none⟩) d.size cap, .int .i64 a, .int .i64 b] w fun e w' => e = .returned (.tuple #[]) ∧ View w blk off d (reverseRange d a b) w' := by
  have HV : Hid (View w blk off d d w) := View.refl hH hblk
  clear hH hblk
  have a0 : (0 : Int) ≤ (a : Int) := by omega
  have b1 : (b : Int) ≤ (d.size : Int) := by omega
  have b0 : (1 : Int) ≤ (b : Int) := by omega
  have s1 : (d.size : Int) < 4611686018427387904 := by omega
  go_enter Ybad.func32, Ybad.ntmps32
  go_wp2
  go_loopw [6, 7] (fun vi vj wr => ∃ (i j : Nat) (dk : Array Nat), vi = .int .i64 i ∧ vj = .int .i64 j ∧ i ≤ j + 1 ∧ j < b ∧ View w blk off d dk wr ∧ reverseLoop i j dk = reverseLoop a (b - 1) d) (fun _ vj _ => (intOf vj).toNat)
  case atStart => exact ⟨a, b - 1, d, rfl, by congr 1; omega, by omega, by omega, HV.out, rfl⟩
  case round =>
    clear HV
    obtain ⟨i, j, dk, rfl, rfl, hij, hjb, hv, hO⟩ := hrel
    have i0 : (0 : Int) ≤ (i : Int) := by omega
    have j0 : (0 : Int) ≤ (j : Int) := by omega
    have HV : Hid (View w blk off d dk wr ∧ reverseLoop i j dk = reverseLoop a (b - 1) d) := ⟨hv, hO⟩
    clear hv hO
    by_cases hlt : i < j
    · have i1 : (i : Int) < (j : Int) := by omega
      have j1 : (j : Int) < (d.size : Int) := by omega
      have c1 := HV.out.1.cell i (by omega)
      have c2 := HV.out.1.cell j (by omega)
      have f1 := HV.out.1.frozen i (by omega)
      have f2 := HV.out.1.frozen j (by omega)
      have hne : i ≠ j := by omega
      have hsw := fun q => HV.out.1.swap (i := i) (j := j) (by omega) (by omega) q
      have HS := (show Hid _ from hsw)
      clear hsw
      generalize dk[i]! = x at *
      generalize dk[j]! = y at *
      go_wp2
      go_region
      all_goals go_wp2
      go_roundw
      case rel =>
        go_light
        refine ⟨i + 1, j - 1, swp dk i j, by go_num, by congr 1; omega, by omega, by omega, HS.out _, ?_⟩
        rw [← HV.out.2]
        conv => rhs; rw [reverseLoop, if_pos hlt]
      case measure => simp [intOf]; omega
    · have i1 : ¬ (i : Int) < (j : Int) := by omega
      go_wp2
      go_end0
      refine ⟨rfl, ?_⟩
      have e : reverseRange d a b = dk := by
        unfold reverseRange
        rw [← HV.out.2, reverseLoop, if_neg hlt]
      rw [e]
      exact HV.out.1

theorem wrapI {x : Int} (h1 : -9223372036854775808 ≤ x) (h2 : x ≤ 9223372036854775807) : IntKind.i64.wrap x = x := by
  simp [IntKind.wrap, IntKind.bits, IntKind.signed]
  omega

/-! ### The heap -/
/-- Which child goes up. -/
def child (hi F r : Nat) (d : Array Nat) : Nat := if 2 * r + 2 < hi ∧ ltF d[F + (2 * r + 1)]! d[F + (2 * r + 2)]! = true then 2 * r + 2 else 2 * r + 1

theorem siftDown_step {hi F r : Nat} {d : Array Nat} (h : 2 * r + 1 < hi) :
    siftDown ltF hi F r d = if ltF d[F + r]! d[F + child hi F r d]! then siftDown ltF hi F (child hi F r d) (swp d (F + r) (F + child hi F r d)) else d := by
  rw [siftDown, dif_neg (by omega)]
  rw [show 2 * r + 1 + 1 = 2 * r + 2 by omega, show F + (2 * r + 1) + 1 = F + (2 * r + 2) by omega]
  by_cases h2 : 2 * r + 2 < hi ∧ ltF d[F + (2 * r + 1)]! d[F + (2 * r + 2)]! = true
  · have hc : child hi F r d = 2 * r + 2 := if_pos h2
    rw [hc, if_pos (by rw [h2.2]; simp [h2.1])]
    cases h4 : ltF d[F + r]! d[F + (2 * r + 2)]!
    · simp
    · rw [if_neg (by decide), if_pos rfl, dif_pos h2.1]
  · have hc : child hi F r d = 2 * r + 1 := if_neg h2
    rw [hc, if_neg (fun h3 => h2 (by simpa using h3))]
    cases h4 : ltF d[F + r]! d[F + (2 * r + 1)]!
    · simp
    · rw [if_neg (by decide), if_pos rfl]

theorem siftDown_end {hi F r : Nat} {d : Array Nat} (h : ¬ 2 * r + 1 < hi) : siftDown ltF hi F r d = d := by rw [siftDown, dif_pos (by omega)]

theorem child_or (hi F r : Nat) (d : Array Nat) : child hi F r d = 2 * r + 1 ∨ child hi F r d = 2 * r + 2 := by unfold child; split <;> simp
theorem child_lt {hi F r : Nat} {d : Array Nat} (h : 2 * r + 1 < hi) : child hi F r d < hi := by unfold child; split <;> omega

set_option maxHeartbeats 4000000 in
set_option maxRecDepth 100000 in
theorem sift_f (blk off cap len lo hi first : Nat) (d : Array Nat) (w : World) (hlen : d.size = len) (hH : Holds encF w blk off d) (hblk : blk < w.heap.size) (hb : first + hi ≤ d.size) (hlo : lo ≤ d.size) (hsz : d.size < 4611686018427387904) :
    Calls Ybad.prog 46 #[.slice (some ⟨blk, off, none⟩) len cap, .int .i64 lo, .int .i64 hi, .int .i64 first] w fun e w' => e = .returned (.tuple #[]) ∧ View w blk off d (siftDown ltF hi first lo d) w' := by
  subst hlen
  have HV : Hid (View w blk off d d w) := View.refl hH hblk
  clear hH hblk
  have a0 : (0 : Int) ≤ (first : Int) := by omega
  have b0 : (0 : Int) ≤ (hi : Int) := by omega
  have b1 : (first : Int) + (hi : Int) ≤ (d.size : Int) := by omega
  have s1 : (d.size : Int) < 4611686018427387904 := by omega
  go_enter Ybad.func46, Ybad.ntmps46
  go_wp2
  go_loopw [8] (fun vr wr => ∃ (r : Nat) (dk : Array Nat), vr = .int .i64 r ∧ r ≤ d.size ∧ View w blk off d dk wr ∧ siftDown ltF hi first r dk = siftDown ltF hi first lo d) (fun vr _ => hi - (intOf vr).toNat)
  case atStart => exact ⟨lo, d, rfl, hlo, HV.out, rfl⟩
  case round =>
    clear HV
    obtain ⟨r, dk, rfl, hrd, hv, hO⟩ := hrel
    have r0 : (0 : Int) ≤ (r : Int) := by omega
    have r1 : (r : Int) ≤ (d.size : Int) := by omega
    have HV : Hid (View w blk off d dk wr ∧ siftDown ltF hi first r dk = siftDown ltF hi first lo d) := ⟨hv, hO⟩
    clear hv hO
    by_cases h1 : 2 * r + 1 < hi
    · have h1' : ¬ (hi : Int) ≤ 2 * (r : Int) + 1 := by omega
      have HO : Hid (child hi first r dk = 2 * r + 1 ∨ child hi first r dk = 2 * r + 2) := child_or hi first r dk
      have HCL := (show Hid _ from child_lt (F := first) (d := dk) h1)
      have hw1 : IntKind.i64.wrap (2 * (r : Int) + 1 + 1) = 2 * (r : Int) + 1 + 1 := wrapI (by omega) (by omega)
      go_upto_region 3 with fail
      go_cut [36] from 17 to 35 (fun v wx => ∃ B : Bool, v = .bool B ∧ child hi first r dk = 2 * r + 1 + B.toNat ∧ View w blk off d dk wx)
      case first =>
        by_cases h2 : 2 * r + 2 < hi
        · have h2' : 2 * (r : Int) + 1 + 1 < (hi : Int) := by omega
          have hw2 : IntKind.i64.wrap ((first : Int) + (2 * (r : Int) + 1)) = (first : Int) + (2 * (r : Int) + 1) := wrapI (by omega) (by omega)
          have hw3 : IntKind.i64.wrap ((first : Int) + (2 * (r : Int) + 1) + 1) = (first : Int) + (2 * (r : Int) + 1) + 1 := wrapI (by omega) (by omega)
          have k0 : (0 : Int) ≤ (first : Int) + (2 * (r : Int) + 1) := by omega
          have k1 : (first : Int) + (2 * (r : Int) + 1) < (d.size : Int) := by omega
          have k2 : (0 : Int) ≤ (first : Int) + (2 * (r : Int) + 1) + 1 := by omega
          have k3 : (first : Int) + (2 * (r : Int) + 1) + 1 < (d.size : Int) := by omega
          have k4 : ((first : Int) + (2 * (r : Int) + 1)).toNat = first + (2 * r + 1) := by omega
          have k5 : ((first : Int) + (2 * (r : Int) + 1) + 1).toNat = first + (2 * r + 2) := by omega
          have c1 := HV.out.1.cell (first + (2 * r + 1)) (by omega)
          have c2 := HV.out.1.cell (first + (2 * r + 2)) (by omega)
          have hlt := fun q => less_f dk[first + (2 * r + 1)]! dk[first + (2 * r + 2)]! (wr.drewN q)
          have HT : Hid (child hi first r dk = 2 * r + 1 + (ltF dk[first + (2 * r + 1)]! dk[first + (2 * r + 2)]!).toNat) := by
            show child hi first r dk = _
            unfold child
            cases hl : ltF dk[first + (2 * r + 1)]! dk[first + (2 * r + 2)]!
            · rw [if_neg (fun h' => Bool.false_ne_true h'.2)]; rfl
            · rw [if_pos ⟨h2, rfl⟩]; rfl
          generalize dk[first + (2 * r + 1)]! = x at *
          generalize dk[first + (2 * r + 2)]! = y at *
          go_wp2_with fail
          go_quiet ((go_at_call 34; exact Calls.quiet_of_same (hlt _)))
          go_wp2_with fail
          go_meet
          case rel => exact ⟨ltF x y, rfl, HT.out, HV.out.1.draw _⟩
        · have h2' : decide (2 * (r : Int) + 1 + 1 < (hi : Int)) = false := decide_eq_false (by omega)
          have HF : Hid (child hi first r dk = 2 * r + 1) := if_neg (fun h' => h2 h'.1)
          go_wp2_with fail
          go_quiet (fail)
          go_wp2_with fail
          go_meet
          case rel => exact ⟨false, rfl, HF.out, HV.out.1.draw _⟩
      case rest =>
      obtain ⟨B, rfl, hB1, hv⟩ := hcut
      obtain ⟨W1, hW1⟩ : ∃ W1 : World, W1 = wc := ⟨_, rfl⟩
      rw [← hW1] at hv ⊢
      have HB := (show Hid _ from And.intro hB1 hv)
      clear hB1 hv hW1
      go_upto_if 36 with fail
      go_cut [9] from 37 to 38 (fun v wx => v = .int .i64 (child hi first r dk : Nat) ∧ View w blk off d dk wx)
      case first =>
        cases B
        · go_wp2_with fail
          go_meet
          case rel => exact ⟨by rw [HB.out.1]; go_num, HB.out.2⟩
        · go_wp2_with fail
          go_meet
          case rel => exact ⟨by rw [HB.out.1]; go_num, HB.out.2⟩
      case rest =>
        obtain ⟨rfl, hv⟩ := hcut
        obtain ⟨W2, hW2⟩ : ∃ W2 : World, W2 = wc := ⟨_, rfl⟩
        rw [← hW2] at hv ⊢
        clear hW2 HB
        have HS2 := (show Hid _ from siftDown_step (hi := hi) (F := first) (d := dk) h1)
        have hc1 := HO.out
        have hc2 := HCL.out
        clear HO HCL
        generalize child hi first r dk = c at *
        have e1 : (0 : Int) ≤ (c : Int) := by omega
        have e2 : (c : Int) < (hi : Int) := by omega
        have c1 := hv.cell (first + r) (by omega)
        have c2 := hv.cell (first + c) (by omega)
        have f1 := hv.frozen (first + r) (by omega)
        have f2 := hv.frozen (first + c) (by omega)
        have hlt := fun q => less_f dk[first + r]! dk[first + c]! (W2.drewN q)
        have hw2 : IntKind.i64.wrap ((first : Int) + (r : Int)) = (first : Int) + (r : Int) := wrapI (by omega) (by omega)
        have hw3 : IntKind.i64.wrap ((first : Int) + (c : Int)) = (first : Int) + (c : Int) := wrapI (by omega) (by omega)
        have k0 : (0 : Int) ≤ (first : Int) + (r : Int) := by omega
        have k1 : (first : Int) + (r : Int) < (d.size : Int) := by omega
        have k2 : (0 : Int) ≤ (first : Int) + (c : Int) := by omega
        have k3 : (first : Int) + (c : Int) < (d.size : Int) := by omega
        have k4 : ((first : Int) + (r : Int)).toNat = first + r := by omega
        have k5 : ((first : Int) + (c : Int)).toNat = first + c := by omega
        have hsw := fun q => hv.swap (i := first + r) (j := first + c) (by omega) (by omega) q
        have HV2 := (show Hid _ from And.intro hv hsw)
        have hne : r ≠ c := by omega
        clear hv hsw
        generalize dk[first + r]! = x at *
        generalize dk[first + c]! = y at *
        go_wp2_with fail
        cases hl : ltF x y
        · rw [hl] at hlt
          go_quiet ((go_at_call 34; exact Calls.quiet_of_same (hlt _)))
          go_wp2
          refine bodyPost_ret (results_none rfl _ _ _) rfl ?_
          refine ⟨rfl, ?_⟩
          have e : siftDown ltF hi first lo d = dk := by rw [← HV.out.2, HS2.out, hl]; simp
          rw [e]
          exact HV2.out.1.draw _
        · rw [hl] at hlt
          go_quiet ((go_at_call 34; exact Calls.quiet_of_same (hlt _)))
          go_wp2
          go_region
          all_goals go_wp2
          go_roundw
          case rel =>
            go_light
            exact ⟨c, swp dk (first + r) (first + c), rfl, by omega, HV2.out.2 _, by rw [← HV.out.2, HS2.out, hl]; simp⟩
          case measure => simp [intOf]; omega
    · have h1' : (hi : Int) ≤ 2 * (r : Int) + 1 := by omega
      go_wp2
      go_end0
      refine ⟨rfl, ?_⟩
      have e : siftDown ltF hi first lo d = dk := by rw [← HV.out.2, siftDown_end h1]
      rw [e]
      exact HV.out.1

theorem size_sift (hi F r : Nat) (d : Array Nat) : (siftDown ltF hi F r d).size = d.size := by
  induction h : hi - r using Nat.strongRecOn generalizing r d with
  | _ n ih =>
    by_cases h1 : 2 * r + 1 < hi
    · rw [siftDown_step h1]
      split
      · have := child_or hi F r d
        rw [ih (hi - child hi F r d) (by omega) _ _ rfl, size_swp]
      · rfl
    · rw [siftDown_end h1]

theorem size_build (hi F : Nat) : ∀ (k : Nat) (d : Array Nat), (heapBuild ltF hi F k d).size = d.size
  | 0, _ => rfl
  | k + 1, d => by rw [heapBuild, size_build hi F k, size_sift]

end Go.Proofs.YbulkdswcDoor
