import Derived.Test.YbulkdswcDoorS10
namespace Go.Proofs.YbulkdswcDoor
open Go Ieee Go.RowKit Go.Sort

attribute [local go_sem] run_store_float

def fixD (a k : Nat) (d : Array Nat) : Array Nat := if k - a ≥ 2 then shiftDown ltF (k - 1) d else d
def fixU (b k : Nat) (d : Array Nat) : Array Nat := if b - k ≥ 2 then shiftUp ltF b (k + 1) d else d

theorem ins_step (a b s i k : Nat) (dk : Array Nat) (hs : s < 5) (hk : scanSorted ltF dk b i = k) (hb : k ≠ b) (h50 : ¬ b - a < 50) :
    partialIns ltF a b (5 - s) i dk = partialIns ltF a b (5 - (s + 1)) k (fixU b k (fixD a k (swp dk k (k - 1)))) := by
  rw [show 5 - s = (5 - (s + 1)) + 1 by omega]
  conv => lhs; rw [partialIns]
  simp only [hk, if_neg hb, if_neg h50]
  rfl
theorem ins_done (a b s i : Nat) (dk : Array Nat) (hs : s < 5) (hk : scanSorted ltF dk b i = b) : partialIns ltF a b (5 - s) i dk = (dk, true) := by
  rw [show 5 - s = (5 - (s + 1)) + 1 by omega, partialIns]
  simp only [hk, if_true]
theorem ins_short (a b s i k : Nat) (dk : Array Nat) (hs : s < 5) (hk : scanSorted ltF dk b i = k) (hb : k ≠ b) (h50 : b - a < 50) : partialIns ltF a b (5 - s) i dk = (dk, false) := by
  rw [show 5 - s = (5 - (s + 1)) + 1 by omega, partialIns]
  simp only [hk, if_neg hb, if_pos h50]

theorem scan_go {b k : Nat} {d : Array Nat} (h : k < b) (hl : ltF d[k]! d[k - 1]! = false) : scanSorted ltF d b k = scanSorted ltF d b (k + 1) := by
  rw [scanSorted, if_pos (by rw [hl]; simp [h])]
theorem scan_stop {b k : Nat} {d : Array Nat} (h : k < b → ltF d[k]! d[k - 1]! = true) : scanSorted ltF d b k = k := by
  rw [scanSorted, if_neg]
  intro h1
  rw [Bool.and_eq_true, decide_eq_true_eq] at h1
  rw [h h1.1] at h1
  simp at h1

theorem up_go {b j : Nat} {d : Array Nat} (h : j < b) (hl : ltF d[j]! d[j - 1]! = true) : shiftUp ltF b j d = shiftUp ltF b (j + 1) (swp d j (j - 1)) := by
  conv => lhs; rw [shiftUp, if_pos h, if_neg (by rw [hl]; decide)]
theorem up_stop {b j : Nat} {d : Array Nat} (h : j < b → ltF d[j]! d[j - 1]! = false) : shiftUp ltF b j d = d := by
  rw [shiftUp]
  split
  · rename_i h1; rw [if_pos (by rw [h h1]; decide)]
  · rfl

theorem size_down : ∀ (j : Nat) (d : Array Nat), (shiftDown ltF j d).size = d.size
  | 0, _ => rfl
  | j + 1, d => by
    rw [shiftDown]
    split
    · rfl
    · rw [size_down j, size_swp]

set_option maxHeartbeats 16000000 in
set_option maxRecDepth 100000 in
theorem partial_f (blk off cap a b : Nat) (d : Array Nat) (w : World) (hH : Holds encF w blk off d) (hblk : blk < w.heap.size) (hab : a < b) (hb : b ≤ d.size) (hsz : d.size < 4611686018427387904) :
    Calls Ybad.prog 33 #[.slice (some ⟨blk, off, none⟩) d.size cap, .int .i64 a, .int .i64 b] w fun e w' =>
      e = .returned (.bool (partialInsertionSort ltF d a b).2) ∧ View w blk off d (partialInsertionSort ltF d a b).1 w' := by
  have HV : Hid (View w blk off d d w) := View.refl hH hblk
  clear hH hblk
  unfold partialInsertionSort
  have a0 : (0 : Int) ≤ (a : Int) := by omega
  have b2 : (b : Int) ≤ (d.size : Int) := by omega
  have b3 : (a : Int) < (b : Int) := by omega
  have s1 : (d.size : Int) < 4611686018427387904 := by omega
  go_enter Ybad.func33, Ybad.ntmps33
  go_wp2_with fail
  go_loopw [7, 8] (fun v7 v8 wr => ∃ (i s : Nat) (dk : Array Nat), v7 = .int .i64 i ∧ v8 = .int .i64 s ∧ s ≤ 5 ∧ a < i ∧ i ≤ b ∧ View w blk off d dk wr ∧ partialIns ltF a b (5 - s) i dk = partialIns ltF a b 5 (a + 1) d) (fun _ v8 _ => 5 - (intOf v8).toNat)
  case atStart => exact ⟨a + 1, 0, d, by go_num, rfl, by omega, by omega, by omega, HV.out, rfl⟩
  case round =>
    clear HV
    obtain ⟨i, s, dk, rfl, rfl, hs5, hai, hib, hv, hO⟩ := hrel
    have HP := (show Hid _ from And.intro hv hO)
    have i0 : (0 : Int) ≤ (i : Int) := by omega
    have s0 : (0 : Int) ≤ (s : Int) := by omega
    clear hv hO
    by_cases hs : s < 5
    · have s2 : (s : Int) < 5 := by omega
      go_upto_block 2 with fail
      go_cut [7] from 17 to 34 (fun v wx => ∃ k : Nat, v = .int .i64 k ∧ scanSorted ltF dk b i = k ∧ i ≤ k ∧ k ≤ b ∧ View w blk off d dk wx)
      case first =>
        go_wp2_with fail
        go_loopw [7] (fun v wr => ∃ k : Nat, v = .int .i64 k ∧ i ≤ k ∧ k ≤ b ∧ scanSorted ltF dk b i = scanSorted ltF dk b k ∧ View w blk off d dk wr) (fun v _ => b - (intOf v).toNat)
        case atStart => exact ⟨i, rfl, Nat.le_refl _, hib, rfl, HP.out.1⟩
        case round =>
          obtain ⟨k, rfl, hik, hkb, hsc, hv⟩ := hrel
          have HK := (show Hid _ from And.intro hsc hv)
          by_cases hlt : k < b
          · obtain ⟨m, rfl⟩ : ∃ m, k = m + 1 := ⟨k - 1, by omega⟩
            have n1 : (m : Int) + 1 < (b : Int) := by omega
            have n2 : (0 : Int) ≤ (m : Int) := by omega
            have n3 : (m : Int) + 1 < (d.size : Int) := by omega
            have c1 := hv.cell (m + 1) (by omega)
            have c2 := hv.cell m (by omega)
            have hl2 := fun q => less_f dk[m + 1]! dk[m]! (wr.drewN q)
            have HG : Hid (ltF dk[m + 1]! dk[m]! = false → scanSorted ltF dk b (m + 1) = scanSorted ltF dk b (m + 1 + 1)) := fun h => scan_go hlt h
            have HT : Hid (ltF dk[m + 1]! dk[m]! = true → scanSorted ltF dk b (m + 1) = m + 1) := fun h => scan_stop fun _ => h
            clear hsc hv
            generalize dk[m + 1]! = x at *
            generalize dk[m]! = y at *
            cases hl : ltF x y
            · rw [hl] at hl2
              go_wp2_with fail
              go_quiet ((go_at_call 34; exact Calls.quiet_of_same (hl2 _)))
              go_wp2
              go_roundw
              case rel =>
                go_light
                exact ⟨m + 1 + 1, by go_num, by omega, by omega, by rw [HK.out.1]; exact HG.out hl, HK.out.2.draw _⟩
              case measure => simp [intOf]; omega
            · rw [hl] at hl2
              go_wp2_with fail
              go_quiet ((go_at_call 34; exact Calls.quiet_of_same (hl2 _)))
              go_wp2_with fail
              go_meet
              case rel => exact ⟨m + 1, rfl, by rw [HK.out.1]; exact HT.out hl, hik, hkb, HK.out.2.draw _⟩
          · have n1 : decide ((k : Int) < (b : Int)) = false := decide_eq_false (by omega)
            have n2 : decide (k < b) = false := decide_eq_false (by omega)
            clear hsc hv
            go_wp2_with fail
            go_quiet (fail)
            go_wp2_with fail
            go_meet
            case rel => exact ⟨k, rfl, by rw [HK.out.1]; exact scan_stop fun h => absurd h hlt, hik, hkb, HK.out.2.draw _⟩
      case rest =>
        obtain ⟨k, rfl, hsc, hik, hkb, hv⟩ := hcut
        obtain ⟨W1, hW⟩ : ∃ W : World, W = wc := ⟨_, rfl⟩
        rw [← hW] at hv ⊢
        have HK := (show Hid _ from And.intro hsc hv)
        clear hsc hW
        by_cases hkb2 : k = b
        · have HE : Hid (partialIns ltF a b 5 (a + 1) d = (dk, true)) := by rw [← HP.out.2]; exact ins_done a b s i dk hs (by rw [HK.out.1, hkb2])
          clear hv
          subst hkb2
          go_wp2
          go_ret
          exact ⟨by rw [HE.out]; rfl, by rw [HE.out]; exact HK.out.2⟩
        · have e1 : ((k : Int) == (b : Int)) = false := beq_false_of_ne (by omega)
          by_cases h50 : b - a < 50
          · have HE : Hid (partialIns ltF a b 5 (a + 1) d = (dk, false)) := by rw [← HP.out.2]; exact ins_short a b s i k dk hs HK.out.1 hkb2 h50
            have e2 : (b : Int) - (a : Int) < 50 := by omega
            have E1 := (show Hid _ from e1)
            clear hv hkb2 e1
            go_upto_if 37 with fail
            rw [E1.out]
            go_wp2
            go_ret
            exact ⟨by rw [HE.out]; rfl, by rw [HE.out]; exact HK.out.2⟩
          · have e2 : ¬ (b : Int) - (a : Int) < 50 := by omega
            have HE : Hid (partialIns ltF a b 5 (a + 1) d = partialIns ltF a b (5 - (s + 1)) k (fixU b k (fixD a k (swp dk k (k - 1))))) := by rw [← HP.out.2]; exact ins_step a b s i k dk hs HK.out.1 hkb2 h50
            obtain ⟨m, rfl⟩ : ∃ m, k = m + 1 := ⟨k - 1, by omega⟩
            have E1 : Hid (((m : Int) + 1 == (b : Int)) = false) := e1
            have n1 : (m : Int) + 1 < (b : Int) := by omega
            have n2 : (0 : Int) ≤ (m : Int) := by omega
            have n3 : (m : Int) + 1 < (d.size : Int) := by omega
            have c1 := hv.cell (m + 1) (by omega)
            have c2 := hv.cell m (by omega)
            have f1 := hv.frozen (m + 1) (by omega)
            have f2 := hv.frozen m (by omega)
            have HS : Hid (∀ q, View w blk off d (swp dk (m + 1) m) (((W1.drewN q).setCell ⟨blk, off + (m + 1), none⟩ (.float .f64 dk[m]!)).setCell ⟨blk, off + m, none⟩ (.float .f64 dk[m + 1]!))) := fun q => hv.swap (by omega) (by omega) q
            clear hv hkb2 e1 HK HP
            generalize dk[m + 1]! = x at *
            generalize dk[m]! = y at *
            rw [Nat.add_sub_cancel] at HE
            generalize swp dk (m + 1) m = d2 at *
            go_upto_if 37 with fail
            rw [E1.out]
            clear E1
            go_wp2_with fail
            go_region
            all_goals (go_upto_if 61 with fail)
            generalize hWs : (((W1.setCell ⟨blk, off + (m + 1), none⟩ (.float .f64 y)).setCell ⟨blk, off + m, none⟩ (.float .f64 x)).drew) = Ws
            have HV2 : Hid (View w blk off d d2 Ws) := by rw [← hWs]; exact HS.out 1
            clear hWs HS c1 c2 f1 f2 e2 n1
            go_cut [9] from 61 to 94 (fun _ wx => View w blk off d (fixD a (m + 1) d2) wx)
            case first =>
              by_cases h2 : m + 1 - a ≥ 2
              · have HE2 : Hid (fixD a (m + 1) d2 = shiftDown ltF m d2) := if_pos h2
                have e1 : decide ((2 : Int) ≤ (m : Int) + 1 - (a : Int)) = true := decide_eq_true (by omega)
                rw [e1]
                clear e1
                go_wp2_with fail
                go_loopw [9] (fun v wr => ∃ (j : Nat) (dj : Array Nat), v = .int .i64 j ∧ j ≤ m ∧ View w blk off d dj wr ∧ shiftDown ltF j dj = shiftDown ltF m d2) (fun v _ => (intOf v).toNat)
                case atStart => exact ⟨m, d2, rfl, Nat.le_refl _, HV2.out, rfl⟩
                case round =>
                  clear HV2
                  obtain ⟨j, dj, rfl, hjm, hv, hO⟩ := hrel
                  have HJ := (show Hid _ from And.intro hv hO)
                  cases j with
                  | zero =>
                    clear hv hO
                    go_wp2_with fail
                    go_meet
                    case rel => rw [HE2.out, ← HJ.out.2]; exact HJ.out.1
                  | succ t =>
                    have t1 : (1 : Int) ≤ (t : Int) + 1 := by omega
                    have t0 : (0 : Int) ≤ (t : Int) := by omega
                    have t2 : (t : Int) + 1 < (d.size : Int) := by omega
                    have c1 := hv.cell (t + 1) (by omega)
                    have c2 := hv.cell t (by omega)
                    have f1 := hv.frozen (t + 1) (by omega)
                    have f2 := hv.frozen t (by omega)
                    have hl2 := fun q => less_f dj[t + 1]! dj[t]! (wr.drewN q)
                    have HSD : Hid (shiftDown ltF (t + 1) dj = if !ltF dj[t + 1]! dj[t]! then dj else shiftDown ltF t (swp dj (t + 1) t)) := by show _ = _; rw [shiftDown]
                    have HS : Hid (∀ q, View w blk off d (swp dj (t + 1) t) (((wr.drewN q).setCell ⟨blk, off + (t + 1), none⟩ (.float .f64 dj[t]!)).setCell ⟨blk, off + t, none⟩ (.float .f64 dj[t + 1]!))) := fun q => hv.swap (by omega) (by omega) q
                    clear hv hO
                    generalize dj[t + 1]! = x1 at *
                    generalize dj[t]! = y1 at *
                    cases hl : ltF x1 y1
                    · rw [hl] at hl2
                      go_wp2_with fail
                      go_quiet ((go_at_call 34; exact Calls.quiet_of_same (hl2 _)))
                      go_wp2_with fail
                      go_meet
                      case rel =>
                        rw [HE2.out, ← HJ.out.2, HSD.out, hl]
                        exact HJ.out.1.draw _
                    · rw [hl] at hl2
                      go_wp2_with fail
                      go_quiet ((go_at_call 34; exact Calls.quiet_of_same (hl2 _)))
                      go_wp2
                      go_region
                      all_goals go_wp2
                      go_roundw
                      case rel =>
                        go_light
                        exact ⟨t, swp dj (t + 1) t, by go_num, by omega, HS.out _, by rw [← HJ.out.2, HSD.out, hl]; rfl⟩
                      case measure => simp [intOf]
              · have HE2 : Hid (fixD a (m + 1) d2 = d2) := if_neg h2
                have e1 : decide ((2 : Int) ≤ (m : Int) + 1 - (a : Int)) = false := decide_eq_false (by omega)
                rw [e1]
                clear e1
                go_wp2_with fail
                go_meet
                case rel => rw [HE2.out]; exact HV2.out
            case rest =>
              obtain ⟨W3, hW⟩ : ∃ W : World, W = wc := ⟨_, rfl⟩
              rw [← hW] at hcut ⊢
              have HV3 := (show Hid _ from hcut)
              clear hcut hW HV2
              generalize fixD a (m + 1) d2 = d3 at *
              go_upto_if 98 with fail
              by_cases h2 : b - (m + 1) ≥ 2
              · have HE2 : Hid (fixU b (m + 1) d3 = shiftUp ltF b (m + 1 + 1) d3) := if_pos h2
                have e1 : decide ((2 : Int) ≤ (b : Int) - ((m : Int) + 1)) = true := decide_eq_true (by omega)
                rw [e1]
                clear e1
                go_wp2_with fail
                go_loopw [10] (fun v wr => ∃ (j : Nat) (dj : Array Nat), v = .int .i64 j ∧ m + 1 + 1 ≤ j ∧ j ≤ b ∧ View w blk off d dj wr ∧ shiftUp ltF b j dj = shiftUp ltF b (m + 1 + 1) d3) (fun v _ => b - (intOf v).toNat)
                case atStart => exact ⟨m + 1 + 1, d3, by go_num, Nat.le_refl _, by omega, HV3.out, rfl⟩
                case round =>
                  clear HV3
                  obtain ⟨j, dj, rfl, hjm, hjb, hv, hO⟩ := hrel
                  have HJ := (show Hid _ from And.intro hv hO)
                  by_cases hjb2 : j < b
                  · obtain ⟨t, rfl⟩ : ∃ t, j = t + 1 := ⟨j - 1, by omega⟩
                    have t1 : (t : Int) + 1 < (b : Int) := by omega
                    have t0 : (0 : Int) ≤ (t : Int) := by omega
                    have t2 : (t : Int) + 1 < (d.size : Int) := by omega
                    have c1 := hv.cell (t + 1) (by omega)
                    have c2 := hv.cell t (by omega)
                    have f1 := hv.frozen (t + 1) (by omega)
                    have f2 := hv.frozen t (by omega)
                    have hl2 := fun q => less_f dj[t + 1]! dj[t]! (wr.drewN q)
                    have HG : Hid (ltF dj[t + 1]! dj[t]! = true → shiftUp ltF b (t + 1) dj = shiftUp ltF b (t + 1 + 1) (swp dj (t + 1) t)) := fun h => up_go hjb2 h
                    have HT : Hid (ltF dj[t + 1]! dj[t]! = false → shiftUp ltF b (t + 1) dj = dj) := fun h => up_stop fun _ => h
                    have HS : Hid (∀ q, View w blk off d (swp dj (t + 1) t) (((wr.drewN q).setCell ⟨blk, off + (t + 1), none⟩ (.float .f64 dj[t]!)).setCell ⟨blk, off + t, none⟩ (.float .f64 dj[t + 1]!))) := fun q => hv.swap (by omega) (by omega) q
                    clear hv hO
                    generalize dj[t + 1]! = x1 at *
                    generalize dj[t]! = y1 at *
                    cases hl : ltF x1 y1
                    · rw [hl] at hl2
                      go_wp2_with fail
                      go_quiet ((go_at_call 34; exact Calls.quiet_of_same (hl2 _)))
                      go_wp2
                      go_roundw
                      case rel =>
                        go_light
                        exact ⟨m + 1, s + 1, dj, by go_num, by go_num, by omega, by omega, by omega, HJ.out.1.draw _, by rw [HE.out, HE2.out, ← HJ.out.2, HT.out hl]⟩
                      case measure => simp [intOf]; omega
                    · rw [hl] at hl2
                      go_wp2_with fail
                      go_quiet ((go_at_call 34; exact Calls.quiet_of_same (hl2 _)))
                      go_wp2
                      go_region
                      all_goals go_wp2
                      go_roundw
                      case rel =>
                        go_light
                        exact ⟨t + 1 + 1, swp dj (t + 1) t, by go_num, by omega, by omega, HS.out _, by rw [← HJ.out.2, HG.out hl]⟩
                      case measure => simp [intOf]; omega
                  · have t1 : ¬ (j : Int) < (b : Int) := by omega
                    clear hv hO
                    go_wp2
                    go_roundw
                    case rel =>
                      go_light
                      exact ⟨m + 1, s + 1, dj, by go_num, by go_num, by omega, by omega, by omega, HJ.out.1, by rw [HE.out, HE2.out, ← HJ.out.2, up_stop fun h => absurd h hjb2]⟩
                    case measure => simp [intOf]; omega
              · have HE2 : Hid (fixU b (m + 1) d3 = d3) := if_neg h2
                have e1 : decide ((2 : Int) ≤ (b : Int) - ((m : Int) + 1)) = false := decide_eq_false (by omega)
                rw [e1]
                clear e1
                go_wp2
                go_roundw
                case rel =>
                  go_light
                  exact ⟨m + 1, s + 1, d3, by go_num, by go_num, by omega, by omega, by omega, HV3.out, by rw [HE.out, HE2.out]⟩
                case measure => simp [intOf]; omega
    · have s2 : ¬ (s : Int) < 5 := by omega
      have e5 : s = 5 := by omega
      have HE : Hid (partialIns ltF a b 5 (a + 1) d = (dk, false)) := by rw [← HP.out.2, e5]; rfl
      clear e5
      go_wp2
      go_ret
      exact ⟨by rw [HE.out]; rfl, by rw [HE.out]; exact HP.out.1⟩
end Go.Proofs.YbulkdswcDoor
