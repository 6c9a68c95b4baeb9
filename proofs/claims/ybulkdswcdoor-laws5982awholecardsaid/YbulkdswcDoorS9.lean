import Derived.Test.YbulkdswcDoorS8
namespace Go.Proofs.YbulkdswcDoor
open Go Ieee Go.RowKit Go.Sort

attribute [local go_sem] run_store_float

set_option maxHeartbeats 8000000 in
set_option maxRecDepth 100000 in
theorem parteq_f (blk off cap a b pivot : Nat) (d : Array Nat) (w : World) (hH : Holds encF w blk off d) (hblk : blk < w.heap.size) (hap : a ≤ pivot) (hpb : pivot < b) (hb : b ≤ d.size) (hsz : d.size < 4611686018427387904) :
    Calls Ybad.prog 35 #[.slice (some ⟨blk, off, none⟩) d.size cap, .int .i64 a, .int .i64 b, .int .i64 pivot] w fun e w' =>
      ∃ (m : Nat) (d' : Array Nat), e = .returned (.int .i64 m) ∧ a < m ∧ m ≤ b ∧ PermIn a b d d' ∧ (∀ t, a ≤ t → t < m → ltF d[pivot]! d'[t]! = false) ∧ (∀ t, m ≤ t → t < b → ltF d[pivot]! d'[t]! = true) ∧ View w blk off d d' w' := by
  have hv : View w blk off d d w := View.refl hH hblk
  obtain ⟨p, hp⟩ : ∃ p, d[pivot]! = p := ⟨_, rfl⟩
  obtain ⟨cc, hcc⟩ : ∃ cc : Nat → Bool, ∀ z, cc z = !ltF p z := ⟨fun z => !ltF p z, fun _ => rfl⟩
  have HP0 : Hid (PI cc p a b (a + 1) (b - 1) d (swp d a pivot)) := by rw [← hp]; exact PI.start cc hap hpb hb
  have a0 : (0 : Int) ≤ (a : Int) := by omega
  have b0 : (1 : Int) ≤ (b : Int) := by omega
  have p0 : (0 : Int) ≤ (pivot : Int) := by omega
  have b2 : (b : Int) ≤ (d.size : Int) := by omega
  have a1 : (a : Int) < (d.size : Int) := by omega
  have p1 : (pivot : Int) < (d.size : Int) := by omega
  have s1 : (d.size : Int) < 4611686018427387904 := by omega
  have c1 := hv.cell a (by omega)
  have c2 := hv.cell pivot (by omega)
  have f1 := hv.frozen a (by omega)
  have f2 := hv.frozen pivot (by omega)
  have HS : Hid (∀ n, View w blk off d (swp d a pivot) (((w.drewN n).setCell ⟨blk, off + a, none⟩ (.float .f64 d[pivot]!)).setCell ⟨blk, off + pivot, none⟩ (.float .f64 d[a]!))) := fun n => hv.swap (by omega) (by omega) n
  rw [hp] at HS c2 ⊢
  clear hv hH hblk
  generalize hy : d[a]! = y at *
  generalize swp d a pivot = d1 at *
  go_enter Ybad.func35, Ybad.ntmps35
  go_upto_region 1 with fail
  go_cut [24] from 11 to 23 (fun _ wx => View w blk off d d1 wx)
  case first =>
    by_cases hne : a = pivot
    · obtain rfl : y = p := by rw [← hy, ← hp, hne]
      clear hp hy HP0
      subst hne
      go_wp2_with fail
      go_region
      all_goals go_wp2_with fail
      go_meet
      case rel => exact HS.out 1
    · clear hp hy HP0
      go_wp2_with fail
      go_region
      all_goals go_wp2_with fail
      go_meet
      case rel => exact HS.out 1
  case rest =>
    obtain ⟨W0, hW⟩ : ∃ W : World, W = wc := ⟨_, rfl⟩
    rw [← hW] at hcut ⊢
    have HV := (show Hid _ from hcut)
    clear hcut hW HS c1 c2 f1 f2 hy hp y
    go_wp2_with fail
    go_loopw [9, 10] (fun v9 v10 wr => ∃ (i j : Nat) (dk : Array Nat), v9 = .int .i64 i ∧ v10 = .int .i64 j ∧ PI cc p a b i j d dk ∧ View w blk off d dk wr) (fun _ v10 _ => (intOf v10).toNat)
    case atStart => exact ⟨a + 1, b - 1, d1, by go_num, by congr 1; omega, HP0.out, HV.out⟩
    case round =>
      clear HP0 HV W0 wc d1
      obtain ⟨i, j, dk, rfl, rfl, hp0, hv0⟩ := hrel
      have HP := (show Hid _ from And.intro hp0 hv0)
      have q1 := hp0.ai
      have q2 := hp0.ij
      have q3 := hp0.jb
      have i0 : (0 : Int) ≤ (i : Int) := by omega
      have j0 : (0 : Int) ≤ (j : Int) := by omega
      clear hp0 hv0
      go_upto_block 2 with fail
      go_cut [9] from 29 to 45 (fun v wx => ∃ k : Nat, v = .int .i64 k ∧ PI cc p a b k j d dk ∧ (k ≤ j → cc dk[k]! = false) ∧ View w blk off d dk wx)
      case first =>
        go_wp2_with fail
        go_loopw [9] (fun v wr => ∃ k : Nat, v = .int .i64 k ∧ PI cc p a b k j d dk ∧ View w blk off d dk wr) (fun v _ => b + 1 - (intOf v).toNat)
        case atStart => exact ⟨i, rfl, HP.out⟩
        case round =>
          clear HP
          obtain ⟨k, rfl, hp, hv⟩ := hrel
          have HP := (show Hid _ from And.intro hp hv)
          have g1 := hp.ai
          have g2 := hp.ij
          have g3 := hp.jb
          have k0 : (0 : Int) ≤ (k : Int) := by omega
          by_cases hij : k ≤ j
          · have n1 : (k : Int) ≤ (j : Int) := by omega
            have n2 : (k : Int) < (d.size : Int) := by omega
            have n3 : (a : Int) < (d.size : Int) := by omega
            have c1 := hv.cell k (by omega)
            have c2 := hv.cell a (by omega)
            have hlt := fun q => less_f dk[a]! dk[k]! (wr.drewN q)
            have HC : Hid (cc dk[k]! = (!ltF dk[a]! dk[k]!)) := by show cc dk[k]! = _; rw [hp.piv]; exact hcc _
            clear hp hv
            generalize hx : dk[k]! = x at *
            generalize dk[a]! = y at *
            have HX := (show Hid _ from hx)
            clear hx
            cases hl : ltF y x
            · rw [hl] at hlt HC
              have HC2 : Hid (cc dk[k]! = !false) := by show cc dk[k]! = _; rw [HX.out]; exact HC.out
              clear HC hl HX
              go_wp2_with fail
              go_quiet ((go_at_call 34; exact Calls.quiet_of_same (hlt _)))
              go_wp2
              go_roundw
              case rel =>
                go_light
                exact ⟨k + 1, by go_num, HP.out.1.incr hij HC2.out, HP.out.2.draw _⟩
              case measure => simp [intOf]; omega
            · rw [hl] at hlt HC
              have HC2 : Hid (cc dk[k]! = !true) := by show cc dk[k]! = _; rw [HX.out]; exact HC.out
              clear HC hl HX
              go_wp2_with fail
              go_quiet ((go_at_call 34; exact Calls.quiet_of_same (hlt _)))
              go_wp2_with fail
              go_meet
              case rel => exact ⟨k, rfl, HP.out.1, fun _ => HC2.out, HP.out.2.draw _⟩
          · have n1 : decide ((k : Int) ≤ (j : Int)) = false := decide_eq_false (by omega)
            have n2 : decide (k ≤ j) = false := decide_eq_false (by omega)
            clear hp hv
            go_wp2_with fail
            go_quiet (fail)
            go_wp2_with fail
            go_meet
            case rel => exact ⟨k, rfl, HP.out.1, fun h => absurd h hij, HP.out.2.draw _⟩
      case rest =>
      obtain ⟨i2, rfl, hp, hst, hv⟩ := hcut
      clear HP
      obtain ⟨W1, hW⟩ : ∃ W : World, W = wc := ⟨_, rfl⟩
      rw [← hW] at hv ⊢
      clear hW
      have HP : Hid (PI cc p a b i2 j d dk ∧ View w blk off d dk W1) := ⟨hp, hv⟩
      have HST1 := (show Hid _ from hst)
      have i20 : (0 : Int) ≤ (i2 : Int) := by omega
      clear hp hst hv
      go_upto_block 4 with fail
      go_cut [10] from 46 to 61 (fun v wx => ∃ k : Nat, v = .int .i64 k ∧ (PI cc p a b i2 k d dk ∧ k ≤ j) ∧ (i2 ≤ k → cc dk[k]! = true) ∧ View w blk off d dk wx)
      case first =>
        go_wp2_with fail
        go_loopw [10] (fun v wr => ∃ k : Nat, v = .int .i64 k ∧ (PI cc p a b i2 k d dk ∧ k ≤ j) ∧ View w blk off d dk wr) (fun v _ => (intOf v).toNat)
        case atStart => exact ⟨j, rfl, ⟨HP.out.1, Nat.le_refl _⟩, HP.out.2⟩
        case round =>
          clear HP
          obtain ⟨k, rfl, ⟨hp, hkj⟩, hv⟩ := hrel
          have HP := (show Hid _ from And.intro hp hv)
          have g1 := hp.ai
          have g2 := hp.ij
          have g3 := hp.jb
          have k0 : (0 : Int) ≤ (k : Int) := by omega
          by_cases hij : i2 ≤ k
          · have n1 : (i2 : Int) ≤ (k : Int) := by omega
            have n2 : (k : Int) < (d.size : Int) := by omega
            have n3 : (a : Int) < (d.size : Int) := by omega
            have c1 := hv.cell k (by omega)
            have c2 := hv.cell a (by omega)
            have hlt := fun q => less_f dk[a]! dk[k]! (wr.drewN q)
            have HC : Hid (cc dk[k]! = (!ltF dk[a]! dk[k]!)) := by show cc dk[k]! = _; rw [hp.piv]; exact hcc _
            clear hp hv
            generalize hx : dk[k]! = x at *
            generalize dk[a]! = y at *
            have HX := (show Hid _ from hx)
            clear hx
            cases hl : ltF y x
            · rw [hl] at hlt HC
              have HC2 : Hid (cc dk[k]! = !false) := by show cc dk[k]! = _; rw [HX.out]; exact HC.out
              clear HC hl HX
              go_wp2_with fail
              go_quiet ((go_at_call 34; exact Calls.quiet_of_same (hlt _)))
              go_wp2_with fail
              go_meet
              case rel => exact ⟨k, rfl, ⟨HP.out.1, hkj⟩, fun _ => HC2.out, HP.out.2.draw _⟩
            · rw [hl] at hlt HC
              have HC2 : Hid (cc dk[k]! = !true) := by show cc dk[k]! = _; rw [HX.out]; exact HC.out
              clear HC hl HX
              go_wp2_with fail
              go_quiet ((go_at_call 34; exact Calls.quiet_of_same (hlt _)))
              go_wp2
              go_roundw
              case rel =>
                go_light
                exact ⟨k - 1, by congr 1; omega, ⟨HP.out.1.decr hij HC2.out, by omega⟩, HP.out.2.draw _⟩
              case measure => simp [intOf]; omega
          · have n1 : decide ((i2 : Int) ≤ (k : Int)) = false := decide_eq_false (by omega)
            have n2 : decide (i2 ≤ k) = false := decide_eq_false (by omega)
            clear hp hv
            go_wp2_with fail
            go_quiet (fail)
            go_wp2_with fail
            go_meet
            case rel => exact ⟨k, rfl, ⟨HP.out.1, hkj⟩, fun h => absurd h hij, HP.out.2.draw _⟩
      case rest =>
      obtain ⟨j2, rfl, ⟨hp, hjj⟩, hst, hv⟩ := hcut
      clear HP
      obtain ⟨W2, hW⟩ : ∃ W : World, W = wc := ⟨_, rfl⟩
      rw [← hW] at hv ⊢
      clear hW
      have HP : Hid (PI cc p a b i2 j2 d dk ∧ View w blk off d dk W2) := ⟨hp, hv⟩
      have q4 := hp.ai
      have q5 := hp.ij
      have q6 := hp.jb
      by_cases hij : i2 ≤ j2
      · have h1 := HST1.out (by omega)
        have h2 := hst hij
        have hlt := PI.apart hij h1 h2
        have HN : Hid (PI cc p a b (i2 + 1) (j2 - 1) d (swp dk i2 j2)) := hp.swp hij h1 h2
        have HS : Hid (∀ n, View w blk off d (swp dk i2 j2) (((W2.drewN n).setCell ⟨blk, off + i2, none⟩ (.float .f64 dk[j2]!)).setCell ⟨blk, off + j2, none⟩ (.float .f64 dk[i2]!))) := fun n => hv.swap (by omega) (by omega) n
        have n1 : ¬ (j2 : Int) < (i2 : Int) := by omega
        have n2 : (j2 : Int) < (d.size : Int) := by omega
        have n3 : (i2 : Int) < (d.size : Int) := by omega
        have n4 : (1 : Int) ≤ (j2 : Int) := by omega
        have c1 := hv.cell i2 (by omega)
        have c2 := hv.cell j2 (by omega)
        have f1 := hv.frozen i2 (by omega)
        have f2 := hv.frozen j2 (by omega)
        have hne : ¬ i2 = j2 := by omega
        clear hp hv h1 h2 hst HP HST1
        generalize dk[i2]! = x at *
        generalize dk[j2]! = y at *
        go_wp2
        go_region
        all_goals go_wp2
        go_roundw
        case rel =>
          go_light
          exact ⟨i2 + 1, j2 - 1, swp dk i2 j2, by go_num, by congr 1; omega, HN.out, HS.out _⟩
        case measure => simp [intOf]; omega
      · have n1 : (j2 : Int) < (i2 : Int) := by omega
        clear hp hv hst HST1
        go_wp2
        go_ret
        refine ⟨i2, dk, rfl, by omega, by omega, HP.out.1.perm, fun t h1 h2 => ?_, fun t h1 h2 => ?_, HP.out.2⟩
        · by_cases e : t = a
          · rw [e, HP.out.1.piv]; exact swoF.irrefl p
          · have := HP.out.1.lo t (by omega) h2
            rw [hcc] at this; simpa using this
        · have := HP.out.1.hi t (by omega) h2
          rw [hcc] at this; simpa using this
end Go.Proofs.YbulkdswcDoor
