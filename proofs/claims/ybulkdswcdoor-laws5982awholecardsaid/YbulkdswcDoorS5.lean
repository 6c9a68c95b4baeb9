import Derived.Test.YbulkdswcDoorS4
namespace Go.Proofs.YbulkdswcDoor
open Go Ieee Go.RowKit Go.Sort

attribute [local go_sem] run_store_float

set_option maxHeartbeats 4000000 in
set_option maxRecDepth 100000 in
theorem heap_f (blk off cap a b : Nat) (d : Array Nat) (w : World) (hH : Holds encF w blk off d) (hblk : blk < w.heap.size) (hab : a < b) (hb : b ≤ d.size) (hsz : d.size < 4611686018427387904) :
    Calls Ybad.prog 29 #[.slice (some ⟨blk, off, none⟩) d.size cap, .int .i64 a, .int .i64 b] w fun e w' => e = .returned (.tuple #[]) ∧ View w blk off d (heapSort ltF d a b) w' := by
  have HV : Hid (View w blk off d d w) := View.refl hH hblk
  clear hH hblk
  obtain ⟨L, hL⟩ : ∃ L, b - a = L := ⟨_, rfl⟩
  obtain ⟨M, hM⟩ : ∃ M, (L - 1) / 2 = M := ⟨_, rfl⟩
  have a0 : (0 : Int) ≤ (a : Int) := by omega
  have b1 : (a : Int) + (L : Int) ≤ (d.size : Int) := by omega
  have b0 : (1 : Int) ≤ (L : Int) := by omega
  have b2 : (b : Int) ≤ (d.size : Int) := by omega
  have b3 : (a : Int) < (b : Int) := by omega
  have s1 : (d.size : Int) < 4611686018427387904 := by omega
  have q1 : ((L : Int) - 1) / 2 = (M : Int) := by omega
  have q2 : (b : Int) - (a : Int) = (L : Int) := by omega
  have HE : Hid (heapSort ltF d a b = heapPop ltF a L (heapBuild ltF L a (M + 1) d)) := by
    show heapSort ltF d a b = _
    unfold heapSort
    rw [hL, hM]
  have hla : a + L ≤ d.size := by omega
  have hml : M + 1 ≤ L := by omega
  clear hL hM hb hab
  go_enter Ybad.func29, Ybad.ntmps29
  go_upto_block 0 with fail
  simp only [q1]
  clear q1 q2
  go_cut [9] from 18 to 26 (fun _ wx => View w blk off d (heapBuild ltF L a (M + 1) d) wx)
  case first =>
    go_wp2_with fail
    go_loopw [9] (fun vi wr => ∃ (k : Nat) (dk : Array Nat), vi = .int .i64 ((k : Int) - 1) ∧ k ≤ L ∧ View w blk off d dk wr ∧ heapBuild ltF L a k dk = heapBuild ltF L a (M + 1) d) (fun vi _ => (intOf vi + 1).toNat)
    case atStart => exact ⟨M + 1, d, by congr 1; omega, by omega, HV.out, rfl⟩
    case round =>
      clear HV
      obtain ⟨k, dk, rfl, hk, hv, hO⟩ := hrel
      have HV : Hid (View w blk off d dk wr ∧ heapBuild ltF L a k dk = heapBuild ltF L a (M + 1) d) := ⟨hv, hO⟩
      have hs := hv.size
      cases k with
      | zero =>
        clear hv hO
        have n1 : ¬ (0 : Int) ≤ ((0 : Nat) : Int) - 1 := by omega
        go_wp2_with fail
        go_meet
        case rel => rw [← HV.out.2]; exact HV.out.1
      | succ m =>
        have e1 : ((m + 1 : Nat) : Int) - 1 = (m : Int) := by omega
        rw [e1]
        have n1 : (0 : Int) ≤ (m : Int) := by omega
        have n2 : (m : Int) < (L : Int) := by omega
        have cS := sift_f blk off cap d.size m L a dk wr hs hv.holds hv.blk (by omega) (by omega) (by omega)
        clear hv hO e1 hs
        go_wp2_with fail
        refine cS.mono ?_
        rintro e W ⟨rfl, hv2⟩
        have HV2 := (show Hid _ from hv2)
        clear hv2 cS
        go_wp2
        go_roundw
        case rel =>
          go_light
          exact ⟨m, siftDown ltF L a m dk, rfl, by omega, HV.out.1.then HV2.out, by rw [← HV.out.2, heapBuild]⟩
        case measure => simp [intOf]; try omega
  case rest =>
    obtain ⟨W1, hW1⟩ : ∃ W1 : World, W1 = wc := ⟨_, rfl⟩
    rw [← hW1] at hcut ⊢
    have HV1 := (show Hid _ from hcut)
    clear hcut hW1 HV
    generalize heapBuild ltF L a (M + 1) d = d1 at *
    go_wp2_with fail
    go_loopw [10] (fun vi wr => ∃ (k : Nat) (dk : Array Nat), vi = .int .i64 ((k : Int) - 1) ∧ k ≤ L ∧ View w blk off d dk wr ∧ heapPop ltF a k dk = heapPop ltF a L d1) (fun vi _ => (intOf vi + 1).toNat)
    case atStart => exact ⟨L, d1, rfl, Nat.le_refl _, HV1.out, rfl⟩
    case round =>
      clear HV1
      obtain ⟨k, dk, rfl, hk, hv, hO⟩ := hrel
      have HV : Hid (View w blk off d dk wr ∧ heapPop ltF a k dk = heapPop ltF a L d1) := ⟨hv, hO⟩
      cases k with
      | zero =>
        clear hv hO
        have n1 : ¬ (0 : Int) ≤ ((0 : Nat) : Int) - 1 := by omega
        go_wp2
        go_end0
        refine ⟨rfl, ?_⟩
        rw [HE.out, ← HV.out.2]
        exact HV.out.1
      | succ m =>
        have e1 : ((m + 1 : Nat) : Int) - 1 = (m : Int) := by omega
        rw [e1]
        have n1 : (0 : Int) ≤ (m : Int) := by omega
        have n2 : (m : Int) < (L : Int) := by omega
        have hw3 : IntKind.i64.wrap ((a : Int) + (m : Int)) = (a : Int) + (m : Int) := wrapI (by omega) (by omega)
        have k0 : (a : Int) < (d.size : Int) := by omega
        have k2 : (0 : Int) ≤ (a : Int) + (m : Int) := by omega
        have k3 : (a : Int) + (m : Int) < (d.size : Int) := by omega
        have k5 : ((a : Int) + (m : Int)).toNat = a + m := by omega
        have c1 := hv.cell a (by omega)
        have c2 := hv.cell (a + m) (by omega)
        have f1 := hv.frozen a (by omega)
        have f2 := hv.frozen (a + m) (by omega)
        have hsw := fun q => hv.swap (i := a) (j := a + m) (by omega) (by omega) q
        have HS := (show Hid _ from hsw)
        clear hv hO e1 hsw
        have cS := fun W (hW : View w blk off d (swp dk a (a + m)) W) => sift_f blk off cap d.size 0 m a (swp dk a (a + m)) W hW.size hW.holds hW.blk (by have := hW.size; omega) (by omega) (by have := hW.size; omega)
        have CS := (show Hid _ from cS)
        clear cS
        generalize hx : dk[a]! = x at *
        generalize hy : dk[a + m]! = y at *
        by_cases hm : m = 0
        · obtain rfl : m = 0 := hm
          obtain rfl : x = y := by rw [← hx, ← hy]; rfl
          clear hx hy
          have e1 : ((0 : Nat) : Int) = 0 := rfl
          simp only [Nat.add_zero, e1, Int.add_zero] at c2 f2 HS hw3 k2 k3 k5 CS n2 ⊢
          go_wp2
          go_region
          all_goals go_wp2_with fail
          refine (CS.out _ (HS.out 1)).mono ?_
          rintro e W ⟨rfl, hv2⟩
          have HV2 := (show Hid _ from hv2)
          clear hv2
          go_wp2
          go_roundw
          case rel =>
            go_light
            exact ⟨0, siftDown ltF 0 a 0 (swp dk a a), rfl, by omega, (HS.out 1).then HV2.out, by rw [← HV.out.2, heapPop]; rfl⟩
          case measure => simp [intOf]
        · have hne : m ≠ 0 := hm
          clear hx hy
          go_wp2
          go_region
          all_goals go_wp2_with fail
          refine (CS.out _ (HS.out 1)).mono ?_
          rintro e W ⟨rfl, hv2⟩
          have HV2 := (show Hid _ from hv2)
          clear hv2
          go_wp2
          go_roundw
          case rel =>
            go_light
            exact ⟨m, siftDown ltF m a 0 (swp dk a (a + m)), rfl, by omega, (HS.out 1).then HV2.out, by rw [← HV.out.2, heapPop]⟩
          case measure => simp [intOf]
end Go.Proofs.YbulkdswcDoor
