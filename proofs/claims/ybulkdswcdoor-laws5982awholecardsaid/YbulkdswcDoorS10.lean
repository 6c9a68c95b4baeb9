import Derived.Test.YbulkdswcDoorS9
namespace Go.Proofs.YbulkdswcDoor
open Go Ieee Go.RowKit Go.Sort

attribute [local go_sem] run_store_float

/-- What partition hands back. -/
def Parted (w : World) (blk off a b p : Nat) (d : Array Nat) (e : Ending) (w' : World) : Prop :=
  ∃ (m : Nat) (f : Bool) (d' : Array Nat), e = .returned (.tuple #[.int .i64 m, .bool f]) ∧ a ≤ m ∧ m < b ∧ PermIn a b d d' ∧ (∀ t, a ≤ t → t < m → ltF d'[t]! d'[m]! = true) ∧ (∀ t, m < t → t < b → ltF d'[t]! d'[m]! = false) ∧ d'[m]! = p ∧ View w blk off d d' w'

theorem Parted.of {w W : World} {blk off a b p i j : Nat} {d dk : Array Nat} {cc : Nat → Bool} (hcc : ∀ z, cc z = ltF z p) (h : PI cc p a b i j d dk) (hij : j < i) (f : Bool) (hv : View w blk off d (swp dk j a) W) : Parted w blk off a b p d (.returned (.tuple #[.int .i64 j, .bool f])) W := by
  obtain ⟨h1, h2, h3, h4⟩ := h.fin hij
  refine ⟨j, f, _, rfl, by have := h.ai; have := h.ij; omega, h.jb, h1, fun t ha hb => ?_, fun t ha hb => ?_, h3, hv⟩
  · rw [h3, ← hcc]; exact h2 t ha hb
  · rw [h3, ← hcc]; exact h4 t ha hb

set_option maxHeartbeats 16000000 in
set_option maxRecDepth 100000 in
theorem part_f (blk off cap a b pivot : Nat) (d : Array Nat) (w : World) (hH : Holds encF w blk off d) (hblk : blk < w.heap.size) (hap : a ≤ pivot) (hpb : pivot < b) (hb : b ≤ d.size) (hsz : d.size < 4611686018427387904) :
    Calls Ybad.prog 36 #[.slice (some ⟨blk, off, none⟩) d.size cap, .int .i64 a, .int .i64 b, .int .i64 pivot] w (Parted w blk off a b d[pivot]! d) := by
  have hv : View w blk off d d w := View.refl hH hblk
  obtain ⟨p, hp⟩ : ∃ p, d[pivot]! = p := ⟨_, rfl⟩
  obtain ⟨cc, hcc⟩ : ∃ cc : Nat → Bool, ∀ z, cc z = ltF z p := ⟨fun z => ltF z p, fun _ => rfl⟩
  have HP0 : Hid (PI cc p a b (a + 1) (b - 1) d (swp d a pivot)) := by rw [← hp]; exact PI.start cc hap hpb hb
  have a0 : (0 : Int) ≤ (a : Int) := by omega
  have b0 : (1 : Int) ≤ (b : Int) := by omega
  have p0 : (0 : Int) ≤ (pivot : Int) := by omega
  have b2 : (b : Int) ≤ (d.size : Int) := by omega
  have a1 : (a : Int) < (d.size : Int) := by omega
  have p1 : (pivot : Int) < (d.size : Int) := by omega
  have s1 : (d.size : Int) < 4611686018427387904 := by omega
  have c1 := hv.cell a (by omega)
  have c2 := hv.cell pivot (by omega)
  have f1 := hv.frozen a (by omega)
  have f2 := hv.frozen pivot (by omega)
  have HS : Hid (∀ n, View w blk off d (swp d a pivot) (((w.drewN n).setCell ⟨blk, off + a, none⟩ (.float .f64 d[pivot]!)).setCell ⟨blk, off + pivot, none⟩ (.float .f64 d[a]!))) := fun n => hv.swap (by omega) (by omega) n
  rw [hp] at HS c2 ⊢
  clear hv hH hblk
  generalize hy : d[a]! = y at *
  generalize swp d a pivot = d1 at *
  go_enter Ybad.func36, Ybad.ntmps36
  go_upto_region 1 with fail
  go_cut [25] from 12 to 24 (fun _ wx => View w blk off d d1 wx)
  case first =>
    by_cases hne : a = pivot
    · obtain rfl : y = p := by rw [← hy, ← hp, hne]
      clear hp hy HP0
      subst hne
      go_wp2_with fail
      go_region
      all_goals go_wp2_with fail
      go_meet
      case rel => exact HS.out 1
    · clear hp hy HP0
      go_wp2_with fail
      go_region
      all_goals go_wp2_with fail
      go_meet
      case rel => exact HS.out 1
  case rest =>
  obtain ⟨W0, hW⟩ : ∃ W : World, W = wc := ⟨_, rfl⟩
  rw [← hW] at hcut ⊢
  obtain ⟨i, hi⟩ : ∃ i, a + 1 = i := ⟨_, rfl⟩
  obtain ⟨j, hj⟩ : ∃ j, b - 1 = j := ⟨_, rfl⟩
  rw [hi, hj] at HP0
  have HP : Hid (PI cc p a b i j d d1 ∧ View w blk off d d1 W0) := ⟨HP0.out, hcut⟩
  have j1 : (b : Int) - 1 = (j : Int) := by omega
  have i1 : (a : Int) + 1 = (i : Int) := by omega
  clear hcut hW HS c1 c2 f1 f2 hy hp y HP0
  obtain ⟨dk, rfl⟩ : ∃ dk, dk = d1 := ⟨_, rfl⟩
  have q1 := HP.out.1.ai
  have q2 := HP.out.1.ij
  have q3 := HP.out.1.jb
  have i0 : (0 : Int) ≤ (i : Int) := by omega
  have j0 : (0 : Int) ≤ (j : Int) := by omega
  clear hi hj
  go_upto_block 0 with fail
  clear i1 j1
  go_cut [10] from 30 to 45 (fun v wx => ∃ k : Nat, v = .int .i64 k ∧ PI cc p a b k j d dk ∧ (k ≤ j → cc dk[k]! = false) ∧ View w blk off d dk wx)
  case first =>
    go_wp2_with fail
    go_loopw [10] (fun v wr => ∃ k : Nat, v = .int .i64 k ∧ PI cc p a b k j d dk ∧ View w blk off d dk wr) (fun v _ => b + 1 - (intOf v).toNat)
    case atStart => exact ⟨i, rfl, HP.out⟩
    case round =>
      clear HP
      obtain ⟨k, rfl, hp, hv⟩ := hrel
      have HP := (show Hid _ from And.intro hp hv)
      have g1 := hp.ai
      have g2 := hp.ij
      have g3 := hp.jb
      have k0 : (0 : Int) ≤ (k : Int) := by omega
      by_cases hij : k ≤ j
      · have n1 : (k : Int) ≤ (j : Int) := by omega
        have n2 : (k : Int) < (d.size : Int) := by omega
        have n3 : (a : Int) < (d.size : Int) := by omega
        have c1 := hv.cell k (by omega)
        have c2 := hv.cell a (by omega)
        have hlt := fun q => less_f dk[k]! dk[a]! (wr.drewN q)
        have HC : Hid (cc dk[k]! = (ltF dk[k]! dk[a]!)) := by show cc dk[k]! = _; rw [hp.piv]; exact hcc _
        clear hp hv
        generalize hx : dk[k]! = x at *
        generalize dk[a]! = y at *
        have HX := (show Hid _ from hx)
        clear hx
        cases hl : ltF x y
        · rw [hl] at hlt HC
          have HC2 : Hid (cc dk[k]! = false) := by show cc dk[k]! = _; rw [HX.out]; exact HC.out
          clear HC hl HX
          go_wp2_with fail
          go_quiet ((go_at_call 34; exact Calls.quiet_of_same (hlt _)))
          go_wp2_with fail
          go_meet
          case rel => exact ⟨k, rfl, HP.out.1, fun _ => HC2.out, HP.out.2.draw _⟩
        · rw [hl] at hlt HC
          have HC2 : Hid (cc dk[k]! = true) := by show cc dk[k]! = _; rw [HX.out]; exact HC.out
          clear HC hl HX
          go_wp2_with fail
          go_quiet ((go_at_call 34; exact Calls.quiet_of_same (hlt _)))
          go_wp2
          go_roundw
          case rel =>
            go_light
            exact ⟨k + 1, by go_num, HP.out.1.incr hij HC2.out, HP.out.2.draw _⟩
          case measure => simp [intOf]; omega
      · have n1 : decide ((k : Int) ≤ (j : Int)) = false := decide_eq_false (by omega)
        have n2 : decide (k ≤ j) = false := decide_eq_false (by omega)
        clear hp hv
        go_wp2_with fail
        go_quiet (fail)
        go_wp2_with fail
        go_meet
        case rel => exact ⟨k, rfl, HP.out.1, fun h => absurd h hij, HP.out.2.draw _⟩
  case rest =>
  obtain ⟨i2, rfl, hp, hst, hv⟩ := hcut
  clear HP
  obtain ⟨W1, hW⟩ : ∃ W : World, W = wc := ⟨_, rfl⟩
  rw [← hW] at hv ⊢
  clear hW
  have HP : Hid (PI cc p a b i2 j d dk ∧ View w blk off d dk W1) := ⟨hp, hv⟩
  have HST1 := (show Hid _ from hst)
  have i20 : (0 : Int) ≤ (i2 : Int) := by omega
  clear hp hst hv
  go_upto_block 2 with fail
  go_cut [11] from 46 to 62 (fun v wx => ∃ k : Nat, v = .int .i64 k ∧ (PI cc p a b i2 k d dk ∧ k ≤ j) ∧ (i2 ≤ k → cc dk[k]! = true) ∧ View w blk off d dk wx)
  case first =>
    go_wp2_with fail
    go_loopw [11] (fun v wr => ∃ k : Nat, v = .int .i64 k ∧ (PI cc p a b i2 k d dk ∧ k ≤ j) ∧ View w blk off d dk wr) (fun v _ => (intOf v).toNat)
    case atStart => exact ⟨j, rfl, ⟨HP.out.1, Nat.le_refl _⟩, HP.out.2⟩
    case round =>
      clear HP
      obtain ⟨k, rfl, ⟨hp, hkj⟩, hv⟩ := hrel
      have HP := (show Hid _ from And.intro hp hv)
      have g1 := hp.ai
      have g2 := hp.ij
      have g3 := hp.jb
      have k0 : (0 : Int) ≤ (k : Int) := by omega
      by_cases hij : i2 ≤ k
      · have n1 : (i2 : Int) ≤ (k : Int) := by omega
        have n2 : (k : Int) < (d.size : Int) := by omega
        have n3 : (a : Int) < (d.size : Int) := by omega
        have c1 := hv.cell k (by omega)
        have c2 := hv.cell a (by omega)
        have hlt := fun q => less_f dk[k]! dk[a]! (wr.drewN q)
        have HC : Hid (cc dk[k]! = (ltF dk[k]! dk[a]!)) := by show cc dk[k]! = _; rw [hp.piv]; exact hcc _
        clear hp hv
        generalize hx : dk[k]! = x at *
        generalize dk[a]! = y at *
        have HX := (show Hid _ from hx)
        clear hx
        cases hl : ltF x y
        · rw [hl] at hlt HC
          have HC2 : Hid (cc dk[k]! = false) := by show cc dk[k]! = _; rw [HX.out]; exact HC.out
          clear HC hl HX
          go_wp2_with fail
          go_quiet ((go_at_call 34; exact Calls.quiet_of_same (hlt _)))
          go_wp2
          go_roundw
          case rel =>
            go_light
            exact ⟨k - 1, by congr 1; omega, ⟨HP.out.1.decr hij HC2.out, by omega⟩, HP.out.2.draw _⟩
          case measure => simp [intOf]; omega
        · rw [hl] at hlt HC
          have HC2 : Hid (cc dk[k]! = true) := by show cc dk[k]! = _; rw [HX.out]; exact HC.out
          clear HC hl HX
          go_wp2_with fail
          go_quiet ((go_at_call 34; exact Calls.quiet_of_same (hlt _)))
          go_wp2_with fail
          go_meet
          case rel => exact ⟨k, rfl, ⟨HP.out.1, hkj⟩, fun _ => HC2.out, HP.out.2.draw _⟩
      · have n1 : decide ((i2 : Int) ≤ (k : Int)) = false := decide_eq_false (by omega)
        have n2 : decide (i2 ≤ k) = false := decide_eq_false (by omega)
        clear hp hv
        go_wp2_with fail
        go_quiet (fail)
        go_wp2_with fail
        go_meet
        case rel => exact ⟨k, rfl, ⟨HP.out.1, hkj⟩, fun h => absurd h hij, HP.out.2.draw _⟩
  case rest =>
  obtain ⟨j2, rfl, ⟨hp, hjj⟩, hst, hv⟩ := hcut
  clear HP
  obtain ⟨W2, hW⟩ : ∃ W : World, W = wc := ⟨_, rfl⟩
  rw [← hW] at hv ⊢
  clear hW
  have HP : Hid (PI cc p a b i2 j2 d dk ∧ View w blk off d dk W2) := ⟨hp, hv⟩
  have q4 := hp.ai
  have q5 := hp.ij
  have q6 := hp.jb
  by_cases hij : i2 ≤ j2
  · have h1 := HST1.out (by omega)
    have h2 := hst hij
    have hlt := PI.apart hij h1 h2
    have HN : Hid (PI cc p a b (i2 + 1) (j2 - 1) d (swp dk i2 j2)) := hp.swp hij h1 h2
    have HS : Hid (∀ n, View w blk off d (swp dk i2 j2) (((W2.drewN n).setCell ⟨blk, off + i2, none⟩ (.float .f64 dk[j2]!)).setCell ⟨blk, off + j2, none⟩ (.float .f64 dk[i2]!))) := fun n => hv.swap (by omega) (by omega) n
    have n1 : ¬ (j2 : Int) < (i2 : Int) := by omega
    have n2 : (j2 : Int) < (d.size : Int) := by omega
    have n3 : (i2 : Int) < (d.size : Int) := by omega
    have n4 : (1 : Int) ≤ (j2 : Int) := by omega
    have c1 := hv.cell i2 (by omega)
    have c2 := hv.cell j2 (by omega)
    have f1 := hv.frozen i2 (by omega)
    have f2 := hv.frozen j2 (by omega)
    have hne : ¬ i2 = j2 := by omega
    clear hp hv h1 h2 hst HP HST1
    generalize dk[i2]! = x at *
    generalize dk[j2]! = y at *
    go_upto_if 65 with fail
    go_wp2_with fail
    go_region
    all_goals (go_upto_block 4 with fail)
    go_cut [10, 11] from 99 to 152 (fun vi vj wx => ∃ (i j : Nat) (dk : Array Nat), vi = .int .i64 i ∧ vj = .int .i64 j ∧ PI cc p a b i j d dk ∧ j < i ∧ View w blk off d dk wx)
    case first =>
      go_wp2_with fail
      go_loopw [10, 11] (fun vi vj wr => ∃ (i j : Nat) (dk : Array Nat), vi = .int .i64 i ∧ vj = .int .i64 j ∧ PI cc p a b i j d dk ∧ View w blk off d dk wr) (fun _ vj _ => (intOf vj).toNat)
      case atStart => exact ⟨i2 + 1, j2 - 1, swp dk i2 j2, by go_num, by congr 1; omega, HN.out, HS.out 1⟩
      case round =>
        clear HN HS c1 c2 f1 f2 n1 n2 n3 n4 hne hlt hij
        obtain ⟨ii, jj, d3, rfl, rfl, hp0, hv0⟩ := hrel
        have HP := (show Hid _ from And.intro hp0 hv0)
        have r1 := hp0.ai
        have r2 := hp0.ij
        have r3 := hp0.jb
        have ii0 : (0 : Int) ≤ (ii : Int) := by omega
        have jj0 : (0 : Int) ≤ (jj : Int) := by omega
        clear hp0 hv0
        go_upto_block 6 with fail
        go_cut [10] from 99 to 114 (fun v wx => ∃ k : Nat, v = .int .i64 k ∧ PI cc p a b k jj d d3 ∧ (k ≤ jj → cc d3[k]! = false) ∧ View w blk off d d3 wx)
        case first =>
          go_wp2_with fail
          go_loopw [10] (fun v wr => ∃ k : Nat, v = .int .i64 k ∧ PI cc p a b k jj d d3 ∧ View w blk off d d3 wr) (fun v _ => b + 1 - (intOf v).toNat)
          case atStart => exact ⟨ii, rfl, HP.out⟩
          case round =>
            clear HP
            obtain ⟨k, rfl, hp, hv⟩ := hrel
            have HP := (show Hid _ from And.intro hp hv)
            have g1 := hp.ai
            have g2 := hp.ij
            have g3 := hp.jb
            have k0 : (0 : Int) ≤ (k : Int) := by omega
            by_cases hij : k ≤ jj
            · have n1 : (k : Int) ≤ (jj : Int) := by omega
              have n2 : (k : Int) < (d.size : Int) := by omega
              have n3 : (a : Int) < (d.size : Int) := by omega
              have c1 := hv.cell k (by omega)
              have c2 := hv.cell a (by omega)
              have hlt := fun q => less_f d3[k]! d3[a]! (wr.drewN q)
              have HC : Hid (cc d3[k]! = (ltF d3[k]! d3[a]!)) := by show cc d3[k]! = _; rw [hp.piv]; exact hcc _
              clear hp hv
              generalize hx : d3[k]! = x at *
              generalize d3[a]! = y at *
              have HX := (show Hid _ from hx)
              clear hx
              cases hl : ltF x y
              · rw [hl] at hlt HC
                have HC2 : Hid (cc d3[k]! = false) := by show cc d3[k]! = _; rw [HX.out]; exact HC.out
                clear HC hl HX
                go_wp2_with fail
                go_quiet ((go_at_call 34; exact Calls.quiet_of_same (hlt _)))
                go_wp2_with fail
                go_meet
                case rel => exact ⟨k, rfl, HP.out.1, fun _ => HC2.out, HP.out.2.draw _⟩
              · rw [hl] at hlt HC
                have HC2 : Hid (cc d3[k]! = true) := by show cc d3[k]! = _; rw [HX.out]; exact HC.out
                clear HC hl HX
                go_wp2_with fail
                go_quiet ((go_at_call 34; exact Calls.quiet_of_same (hlt _)))
                go_wp2
                go_roundw
                case rel =>
                  go_light
                  exact ⟨k + 1, by go_num, HP.out.1.incr hij HC2.out, HP.out.2.draw _⟩
                case measure => simp [intOf]; omega
            · have n1 : decide ((k : Int) ≤ (jj : Int)) = false := decide_eq_false (by omega)
              have n2 : decide (k ≤ jj) = false := decide_eq_false (by omega)
              clear hp hv
              go_wp2_with fail
              go_quiet (fail)
              go_wp2_with fail
              go_meet
              case rel => exact ⟨k, rfl, HP.out.1, fun h => absurd h hij, HP.out.2.draw _⟩
        case rest =>
        obtain ⟨i4, rfl, hp, hst, hv⟩ := hcut
        clear HP
        obtain ⟨W3, hW⟩ : ∃ W : World, W = wc := ⟨_, rfl⟩
        rw [← hW] at hv ⊢
        clear hW
        have HP : Hid (PI cc p a b i4 jj d d3 ∧ View w blk off d d3 W3) := ⟨hp, hv⟩
        have HST1 := (show Hid _ from hst)
        have i20 : (0 : Int) ≤ (i4 : Int) := by omega
        clear hp hst hv
        go_upto_block 8 with fail
        go_cut [11] from 115 to 131 (fun v wx => ∃ k : Nat, v = .int .i64 k ∧ (PI cc p a b i4 k d d3 ∧ k ≤ jj) ∧ (i4 ≤ k → cc d3[k]! = true) ∧ View w blk off d d3 wx)
        case first =>
          go_wp2_with fail
          go_loopw [11] (fun v wr => ∃ k : Nat, v = .int .i64 k ∧ (PI cc p a b i4 k d d3 ∧ k ≤ jj) ∧ View w blk off d d3 wr) (fun v _ => (intOf v).toNat)
          case atStart => exact ⟨jj, rfl, ⟨HP.out.1, Nat.le_refl _⟩, HP.out.2⟩
          case round =>
            clear HP
            obtain ⟨k, rfl, ⟨hp, hkj⟩, hv⟩ := hrel
            have HP := (show Hid _ from And.intro hp hv)
            have g1 := hp.ai
            have g2 := hp.ij
            have g3 := hp.jb
            have k0 : (0 : Int) ≤ (k : Int) := by omega
            by_cases hij : i4 ≤ k
            · have n1 : (i4 : Int) ≤ (k : Int) := by omega
              have n2 : (k : Int) < (d.size : Int) := by omega
              have n3 : (a : Int) < (d.size : Int) := by omega
              have c1 := hv.cell k (by omega)
              have c2 := hv.cell a (by omega)
              have hlt := fun q => less_f d3[k]! d3[a]! (wr.drewN q)
              have HC : Hid (cc d3[k]! = (ltF d3[k]! d3[a]!)) := by show cc d3[k]! = _; rw [hp.piv]; exact hcc _
              clear hp hv
              generalize hx : d3[k]! = x at *
              generalize d3[a]! = y at *
              have HX := (show Hid _ from hx)
              clear hx
              cases hl : ltF x y
              · rw [hl] at hlt HC
                have HC2 : Hid (cc d3[k]! = false) := by show cc d3[k]! = _; rw [HX.out]; exact HC.out
                clear HC hl HX
                go_wp2_with fail
                go_quiet ((go_at_call 34; exact Calls.quiet_of_same (hlt _)))
                go_wp2
                go_roundw
                case rel =>
                  go_light
                  exact ⟨k - 1, by congr 1; omega, ⟨HP.out.1.decr hij HC2.out, by omega⟩, HP.out.2.draw _⟩
                case measure => simp [intOf]; omega
              · rw [hl] at hlt HC
                have HC2 : Hid (cc d3[k]! = true) := by show cc d3[k]! = _; rw [HX.out]; exact HC.out
                clear HC hl HX
                go_wp2_with fail
                go_quiet ((go_at_call 34; exact Calls.quiet_of_same (hlt _)))
                go_wp2_with fail
                go_meet
                case rel => exact ⟨k, rfl, ⟨HP.out.1, hkj⟩, fun _ => HC2.out, HP.out.2.draw _⟩
            · have n1 : decide ((i4 : Int) ≤ (k : Int)) = false := decide_eq_false (by omega)
              have n2 : decide (i4 ≤ k) = false := decide_eq_false (by omega)
              clear hp hv
              go_wp2_with fail
              go_quiet (fail)
              go_wp2_with fail
              go_meet
              case rel => exact ⟨k, rfl, ⟨HP.out.1, hkj⟩, fun h => absurd h hij, HP.out.2.draw _⟩
        case rest =>
        obtain ⟨j4, rfl, ⟨hp, hjj⟩, hst, hv⟩ := hcut
        clear HP
        obtain ⟨W4, hW⟩ : ∃ W : World, W = wc := ⟨_, rfl⟩
        rw [← hW] at hv ⊢
        clear hW
        have HP : Hid (PI cc p a b i4 j4 d d3 ∧ View w blk off d d3 W4) := ⟨hp, hv⟩
        have q7 := hp.ai
        have q8 := hp.ij
        have q9 := hp.jb
        by_cases hij : i4 ≤ j4
        · have h1 := HST1.out (by omega)
          have h2 := hst hij
          have hlt := PI.apart hij h1 h2
          have HN : Hid (PI cc p a b (i4 + 1) (j4 - 1) d (swp d3 i4 j4)) := hp.swp hij h1 h2
          have HS : Hid (∀ n, View w blk off d (swp d3 i4 j4) (((W4.drewN n).setCell ⟨blk, off + i4, none⟩ (.float .f64 d3[j4]!)).setCell ⟨blk, off + j4, none⟩ (.float .f64 d3[i4]!))) := fun n => hv.swap (by omega) (by omega) n
          have n1 : ¬ (j4 : Int) < (i4 : Int) := by omega
          have n2 : (j4 : Int) < (d.size : Int) := by omega
          have n3 : (i4 : Int) < (d.size : Int) := by omega
          have n4 : (1 : Int) ≤ (j4 : Int) := by omega
          have c1 := hv.cell i4 (by omega)
          have c2 := hv.cell j4 (by omega)
          have f1 := hv.frozen i4 (by omega)
          have f2 := hv.frozen j4 (by omega)
          have hne : ¬ i4 = j4 := by omega
          clear hp hv h1 h2 hst HP HST1
          generalize d3[i4]! = x2 at *
          generalize d3[j4]! = y2 at *
          go_wp2
          go_region
          all_goals go_wp2
          go_roundw
          case rel =>
            go_light
            exact ⟨i4 + 1, j4 - 1, swp d3 i4 j4, by go_num, by congr 1; omega, HN.out, HS.out _⟩
          case measure => simp [intOf]; omega
        · have n1 : (j4 : Int) < (i4 : Int) := by omega
          clear hp hv hst HST1
          go_wp2_with fail
          go_meet
          case rel => exact ⟨i4, j4, d3, rfl, rfl, HP.out.1, by omega, HP.out.2⟩
    case rest =>
      obtain ⟨i5, j5, d5, rfl, rfl, hp, hij2, hv⟩ := hcut
      obtain ⟨W5, hW⟩ : ∃ W : World, W = wc := ⟨_, rfl⟩
      rw [← hW] at hv ⊢
      have HP := (show Hid _ from And.intro hp hv)
      have r1 := hp.ai
      have r2 := hp.ij
      have r3 := hp.jb
      clear hW HN HS c1 c2 f1 f2 n1 n2 n3 n4 hne hlt hij
      have HS : Hid (∀ n, View w blk off d (swp d5 j5 a) (((W5.drewN n).setCell ⟨blk, off + j5, none⟩ (.float .f64 d5[a]!)).setCell ⟨blk, off + a, none⟩ (.float .f64 d5[j5]!))) := fun n => hv.swap (by omega) (by omega) n
      have n2 : (j5 : Int) < (d.size : Int) := by omega
      have n3 : (0 : Int) ≤ (j5 : Int) := by omega
      have c1 := hv.cell j5 (by omega)
      have c2 := hv.cell a (by omega)
      have f1 := hv.frozen j5 (by omega)
      have f2 := hv.frozen a (by omega)
      clear hp hv
      generalize hx : d5[j5]! = x at *
      generalize hy : d5[a]! = y at *
      by_cases hne : j5 = a
      · obtain rfl : x = y := by rw [← hx, ← hy, hne]
        have HF : Hid (∀ W, View w blk off d (swp d5 j5 a) W → Parted w blk off a b p d (.returned (.tuple #[.int .i64 j5, .bool false])) W) := fun W hW => Parted.of hcc HP.out.1 hij2 false hW
        clear hx hy HP hij2
        subst hne
        go_wp2
        go_region
        all_goals go_wp2
        go_ret2
        exact HF.out _ (HS.out 1)
      · have HF : Hid (∀ W, View w blk off d (swp d5 j5 a) W → Parted w blk off a b p d (.returned (.tuple #[.int .i64 j5, .bool false])) W) := fun W hW => Parted.of hcc HP.out.1 hij2 false hW
        clear hx hy HP hij2
        go_wp2
        go_region
        all_goals go_wp2
        go_ret2
        exact HF.out _ (HS.out 1)
  · have hij2 : j2 < i2 := by omega
    have n1 : (j2 : Int) < (i2 : Int) := by omega
    clear hst HST1 hij
    have HS : Hid (∀ n, View w blk off d (swp dk j2 a) (((W2.drewN n).setCell ⟨blk, off + j2, none⟩ (.float .f64 dk[a]!)).setCell ⟨blk, off + a, none⟩ (.float .f64 dk[j2]!))) := fun n => hv.swap (by omega) (by omega) n
    have n2 : (j2 : Int) < (d.size : Int) := by omega
    have n3 : (0 : Int) ≤ (j2 : Int) := by omega
    have c1 := hv.cell j2 (by omega)
    have c2 := hv.cell a (by omega)
    have f1 := hv.frozen j2 (by omega)
    have f2 := hv.frozen a (by omega)
    clear hp hv
    generalize hx : dk[j2]! = x at *
    generalize hy : dk[a]! = y at *
    by_cases hne : j2 = a
    · obtain rfl : x = y := by rw [← hx, ← hy, hne]
      have HF : Hid (∀ W, View w blk off d (swp dk j2 a) W → Parted w blk off a b p d (.returned (.tuple #[.int .i64 j2, .bool true])) W) := fun W hW => Parted.of hcc HP.out.1 hij2 true hW
      clear hx hy HP hij2
      subst hne
      go_wp2
      go_region
      all_goals go_wp2
      go_ret2
      exact HF.out _ (HS.out 1)
    · have HF : Hid (∀ W, View w blk off d (swp dk j2 a) W → Parted w blk off a b p d (.returned (.tuple #[.int .i64 j2, .bool true])) W) := fun W hW => Parted.of hcc HP.out.1 hij2 true hW
      clear hx hy HP hij2
      go_wp2
      go_region
      all_goals go_wp2
      go_ret2
      exact HF.out _ (HS.out 1)
end Go.Proofs.YbulkdswcDoor
