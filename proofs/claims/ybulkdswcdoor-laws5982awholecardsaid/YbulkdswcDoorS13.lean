import Derived.Test.YbulkdswcDoorS12
import Derived.Sort.LotA
import Derived.Sort.LotB
namespace Go.Proofs.YbulkdswcDoor
open Go Ieee Go.RowKit Go.Sort

/-- The row sorted within [a, b); nothing else turned. -/
def Srt (w : World) (blk off a b : Nat) (d : Array Nat) (e : Ending) (w' : World) : Prop := e = .returned (.tuple #[]) ∧ ∃ d', PermIn a b d d' ∧ SortedIn ltF a b d' ∧ View w blk off d d' w'

/-- What the loop keeps. -/
structure Lp (w : World) (blk off a b a' b' : Nat) (d dk : Array Nat) (wr : World) : Prop where
  aa : a ≤ a'
  ab : a' ≤ b'
  bb : b' ≤ b
  sz : b ≤ d.size
  perm : PermIn a b d dk
  ord : Ord a b a' b' dk
  bel : Sort.Below ltF a b dk
  view : View w blk off d dk wr

section
variable {w wr W : World} {blk off a b a' b' : Nat} {d dk d2 : Array Nat}

theorem Lp.dsize (h : Lp w blk off a b a' b' d dk wr) : dk.size = d.size := h.perm.1

/-- The window permuted. -/
theorem Lp.turn (h : Lp w blk off a b a' b' d dk wr) (hp : PermIn a' b' dk d2) (hv : View wr blk off dk d2 W) : Lp w blk off a b a' b' d d2 W := by
  have hs := h.dsize
  have h1 := h.aa
  have h2 := h.bb
  have h3 := h.sz
  have h4 := h.ab
  have hp2 : PermIn a b dk d2 := permIn_mono dk d2 a' b' a b h1 h2 (by omega) hp
  exact ⟨h1, h4, h2, h3, permIn_trans _ _ _ _ _ h.perm hp2, h.ord.perm hp h1 h2 (by omega), below_perm h.bel (by omega) hp2, h.view.then hv⟩

theorem Lp.draw (h : Lp w blk off a b a' b' d dk wr) (q : Nat) : Lp w blk off a b a' b' d dk (wr.drewN q) := ⟨h.aa, h.ab, h.bb, h.sz, h.perm, h.ord, h.bel, h.view.draw q⟩

/-- The window sorted: done. -/
theorem Lp.done (h : Lp w blk off a b a' b' d dk wr) (hp : PermIn a' b' dk d2) (hs : SortedIn ltF a' b' d2) (hv : View wr blk off dk d2 W) : Srt w blk off a b d (.returned (.tuple #[])) W := by
  have h2 := h.turn hp hv
  exact ⟨rfl, d2, h2.perm, h2.ord.sorted hs, h2.view⟩

theorem Lp.below (h : Lp w blk off a b a' b' d dk wr) : Sort.Below ltF a' b' dk := below_of h.ord h.bel h.aa h.bb

theorem below_less {m : Nat} (h : Sort.Below ltF a' b' dk) (hm : m ≤ b') : Sort.Below ltF a' m dk := by
  rcases h with h | h
  · exact .inl h
  · exact .inr fun i h1 h2 => h i h1 (by omega)

theorem Lp.eq {m p : Nat} (h : Lp w blk off a b a' b' d dk wr) (h0 : 0 < a') (hle : ltF dk[a' - 1]! p = false) (hm1 : a' < m) (hm2 : m ≤ b') (hp : PermIn a' b' dk d2) (hlo : ∀ t, a' ≤ t → t < m → ltF p d2[t]! = false) (hv : View wr blk off dk d2 W) : Lp w blk off a b m b' d d2 W := by
  have h2 := h.turn hp hv
  have hs := h.dsize
  have h5 := h.aa
  have h6 := h.sz
  have hmin : ∀ t, a' ≤ t → t < b' → ltF dk[t]! p = false := fun t h3 h4 => by
    rcases h.below with h7 | h7
    · omega
    · exact swoF.ntrans _ _ _ (h7 t h3 h4) hle
  exact ⟨by omega, hm2, h.bb, h.sz, h2.perm, h.ord.go_eq h.aa h.bb (by omega) hp hmin hlo, h2.bel, h2.view⟩

/-- Behind the partition: the left part is sorted by a call. -/
theorem Lp.goR {m : Nat} {d5 : Array Nat} {W6 : World} (h : Lp w blk off a b a' b' d dk wr) (hm1 : a' ≤ m) (hm2 : m < b') (hlo : ∀ t, a' ≤ t → t < m → ltF dk[t]! dk[m]! = true) (hhi : ∀ t, m < t → t < b' → ltF dk[t]! dk[m]! = false)
    (hp : PermIn a' m dk d5) (hs : SortedIn ltF a' m d5) (hv : View wr blk off dk d5 W6) : Lp w blk off a b (m + 1) b' d d5 W6 := by
  have ds := h.dsize
  have h1 := h.aa
  have h3 := h.sz
  have h4 := h.bb
  have h2 := h.turn (permIn_mono dk d5 a' m a' b' (Nat.le_refl _) (by omega) (by omega) hp) hv
  exact ⟨by omega, by omega, h.bb, h.sz, h2.perm, h.ord.go_right h.aa h.bb (by omega) hm2 hlo hhi hp hs, h2.bel, h2.view⟩

theorem Lp.goL {m : Nat} {d5 : Array Nat} {W6 : World} (h : Lp w blk off a b a' b' d dk wr) (hm1 : a' ≤ m) (hm2 : m < b') (hlo : ∀ t, a' ≤ t → t < m → ltF dk[t]! dk[m]! = true) (hhi : ∀ t, m < t → t < b' → ltF dk[t]! dk[m]! = false)
    (hp : PermIn (m + 1) b' dk d5) (hs : SortedIn ltF (m + 1) b' d5) (hv : View wr blk off dk d5 W6) : Lp w blk off a b a' m d d5 W6 := by
  have ds := h.dsize
  have h1 := h.aa
  have h3 := h.sz
  have h4 := h.bb
  have h2 := h.turn (permIn_mono dk d5 (m + 1) b' a' b' (by omega) (Nat.le_refl _) (by omega) hp) hv
  exact ⟨h.aa, hm1, by omega, h.sz, h2.perm, h.ord.go_left h.aa h.bb (by omega) hm1 hlo hhi hp hs, h2.bel, h2.view⟩

theorem below_right {m : Nat} (hhi : ∀ t, m < t → t < b' → ltF dk[t]! dk[m]! = false) : Sort.Below ltF (m + 1) b' dk := .inr fun i h1 h2 => by rw [Nat.add_sub_cancel]; exact hhi i (by omega) h2
end

set_option maxHeartbeats 16000000 in
set_option maxRecDepth 1000000 in
theorem pdq_f : ∀ (N blk off cap a b limit : Nat) (d : Array Nat) (w : World), b - a < N → Holds encF w blk off d → blk < w.heap.size → a ≤ b → b ≤ d.size → d.size < 4611686018427387904 → limit < 4611686018427387904 → Sort.Below ltF a b d →
    Calls Ybad.prog 16 #[.slice (some ⟨blk, off, none⟩) d.size cap, .int .i64 a, .int .i64 b, .int .i64 limit] w (Srt w blk off a b d) := by
  intro N
  induction N with
  | zero => intro _ _ _ _ _ _ _ _ h; exact absurd h (Nat.not_lt_zero _)
  | succ N ih =>
    intro blk off cap a b limit d w hN hH hblk hab hb hsz hlimit hBel
    have HL0 : Hid (Lp w blk off a b a b d d w) := ⟨Nat.le_refl _, hab, Nat.le_refl _, hb, permIn_refl _ _ _, Ord.start a b d, hBel, View.refl hH hblk⟩
    have IH := (show Hid _ from ih)
    clear ih hH hblk hBel
    have s1 : (d.size : Int) < 4611686018427387904 := by omega
    go_enter Ybad.func16, Ybad.ntmps16
    go_wp2_with fail
    go_loopw [1, 2, 3, 8, 9] (fun v1 v2 v3 v8 v9 wr => ∃ (a' b' lim : Nat) (wb wp : Bool) (dk : Array Nat), v1 = .int .i64 a' ∧ v2 = .int .i64 b' ∧ v3 = .int .i64 lim ∧ v8 = .bool wb ∧ v9 = .bool wp ∧ lim ≤ limit ∧ Lp w blk off a b a' b' d dk wr) (fun v1 v2 _ _ _ _ => (intOf v2).toNat - (intOf v1).toNat)
    case atStart => exact ⟨a, b, limit, true, true, d, rfl, rfl, rfl, rfl, rfl, Nat.le_refl _, HL0.out⟩
    case round =>
      clear HL0
      obtain ⟨a', b', lim, wb, wp, dk, rfl, rfl, rfl, rfl, rfl, hlim, hL⟩ := hrel
      have HL := (show Hid _ from hL)
      have g1 := hL.aa
      have g2 := hL.ab
      have g3 := hL.bb
      have ds := hL.dsize
      have DS := (show Hid _ from ds)
      have a0 : (0 : Int) ≤ (a' : Int) := by omega
      have b2 : (b' : Int) ≤ (d.size : Int) := by omega
      have b3 : (a' : Int) ≤ (b' : Int) := by omega
      have l0 : (0 : Int) ≤ (lim : Int) := by omega
      have l1 : (lim : Int) < 4611686018427387904 := by omega
      by_cases h12 : b' - a' ≤ 12
      · have e1 : (b' : Int) - (a' : Int) ≤ 12 := by omega
        have cI := insertion_f blk off cap a' b' dk wr hL.view.holds hL.view.blk g2 (by omega) (by omega)
        rw [ds] at cI
        clear hL ds
        go_wp2_with fail
        refine cI.mono ?_
        rintro e W ⟨rfl, hv⟩
        have HV := (show Hid _ from hv)
        clear hv cI
        go_wp2
        refine bodyPost_ret (results_none rfl _ _ _) rfl ?_
        have hi := insertionSort_holds swoF dk a' b' g2 (by have := DS.out; omega)
        exact HL.out.done hi.1 hi.2 HV.out
      · have e1 : ¬ (b' : Int) - (a' : Int) ≤ 12 := by omega
        by_cases hl0 : lim = 0
        · subst hl0
          have cI := heap_f blk off cap a' b' dk wr hL.view.holds hL.view.blk (by omega) (by omega) (by omega)
          rw [ds] at cI
          clear hL ds
          go_wp2_with fail
          refine cI.mono ?_
          rintro e W ⟨rfl, hv⟩
          have HV := (show Hid _ from hv)
          clear hv cI
          go_wp2
          refine bodyPost_ret (results_none rfl _ _ _) rfl ?_
          have hi := heapSort_holds swoF dk a' b' g2 (by have := DS.out; omega)
          exact HL.out.done hi.1 hi.2 HV.out
        · have E0 : Hid (((lim : Int) == 0) = false) := beq_false_of_ne (by omega)
          have l2 : (1 : Int) ≤ (lim : Int) := by omega
          clear hL ds
          go_upto_if 29 with fail
          rw [E0.out]
          clear E0
          go_upto_if 35 with fail
          go_cut [3] from 35 to 41 (fun v3 wx => ∃ (lim2 : Nat) (d1 : Array Nat), v3 = .int .i64 lim2 ∧ lim2 ≤ limit ∧ Lp w blk off a b a' b' d d1 wx)
          case first =>
            cases wb
            · have cB := break_f blk off cap a' b' dk wr HL.out.view.holds HL.out.view.blk (by omega) (by have := DS.out; omega) (by have := DS.out; omega)
              rw [DS.out] at cB
              rw [show (!false) = true from rfl]
              go_wp2_with fail
              refine cB.mono ?_
              rintro e W ⟨rfl, d1, hp, hv⟩
              have HV : Hid (Lp w blk off a b a' b' d d1 W) := HL.out.turn hp hv
              clear hp hv cB
              go_wp2_with fail
              go_meet
              case rel => exact ⟨lim - 1, d1, by congr 1; omega, by omega, HV.out⟩
            · rw [show (!true) = false from rfl]
              go_wp2_with fail
              go_meet
              case rel => exact ⟨lim, dk, rfl, hlim, HL.out⟩
          case rest =>
          obtain ⟨lim2, d1, rfl, hlim2, hL⟩ := hcut
          obtain ⟨W1, hW⟩ : ∃ W : World, W = wc := ⟨_, rfl⟩
          rw [← hW] at hL ⊢
          have ds := hL.dsize
          have cP := pivot_f blk off cap a' b' d1 W1 hL.view.holds hL.view.blk (by omega) (by omega) (by omega)
          rw [ds] at cP
          have HL1 := (show Hid _ from hL)
          clear hL hW HL DS ds l0 l1 l2 hl0 hlim
          go_wp2_with fail
          refine cP.mono ?_
          rintro e W2 ⟨pv, hc, rfl, hp1, hp2, hc2, hv⟩
          have HL2 : Hid (Lp w blk off a b a' b' d d1 W2) := HL1.out.turn (permIn_refl _ _ _) hv
          have p0 : (0 : Int) ≤ (pv : Int) := by omega
          clear hv cP HL1
          go_upto_if 50 with fail
          go_cut [11, 12] from 50 to 60 (fun v11 v12 wx => ∃ (pv2 hc3 : Nat) (d2 : Array Nat), v11 = .int .i64 pv2 ∧ v12 = .int .i64 hc3 ∧ a' ≤ pv2 ∧ pv2 < b' ∧ Lp w blk off a b a' b' d d2 wx)
          case first =>
            by_cases h2 : hc = 2
            · have E2 : (((hc : Nat) : Int) == 2) = true := by rw [h2]; rfl
              rw [E2]
              clear E2
              have ds := HL2.out.dsize
              have cR := reverse_f blk off cap a' b' d1 W2 HL2.out.view.holds HL2.out.view.blk (by omega) (by omega) (by omega)
              rw [ds] at cR
              have HR : Hid (PermIn a' b' d1 (reverseRange d1 a' b')) := reverseRange_holds d1 a' b' (by omega) (by omega)
              clear ds h2
              go_wp2_with fail
              refine cR.mono ?_
              rintro e W ⟨rfl, hv⟩
              have HV : Hid (Lp w blk off a b a' b' d (reverseRange d1 a' b') W) := HL2.out.turn HR.out hv
              clear hv cR
              go_wp2_with fail
              go_meet
              case rel => exact ⟨b' - 1 - (pv - a'), 1, _, by congr 1; omega, rfl, by omega, by omega, HV.out⟩
            · have E2 : (((hc : Nat) : Int) == 2) = false := beq_false_of_ne (by omega)
              rw [E2]
              clear E2 h2
              go_wp2_with fail
              go_meet
              case rel => exact ⟨pv, hc, d1, rfl, rfl, hp1, hp2, HL2.out⟩
          case rest =>
          obtain ⟨pv2, hc3, d2, rfl, rfl, hq1, hq2, hL⟩ := hcut
          obtain ⟨W3, hW⟩ : ∃ W : World, W = wc := ⟨_, rfl⟩
          rw [← hW] at hL ⊢
          have HL3 := (show Hid _ from hL)
          clear hL hW HL2 hp1 hp2 hc2 p0
          have q0 : (0 : Int) ≤ (pv2 : Int) := by omega
          go_upto_region 15 with fail
          go_cut [68] from 61 to 67 (fun v wx => ∃ f : Bool, v = .bool f ∧ W3 = wx)
          case first =>
            cases wb
            · go_wp2_with fail
              go_meet
              case rel => exact ⟨_, rfl, rfl⟩
            · cases wp
              · go_wp2_with fail
                go_meet
                case rel => exact ⟨_, rfl, rfl⟩
              · go_wp2_with fail
                go_meet
                case rel => exact ⟨_, rfl, rfl⟩
          case rest =>
          obtain ⟨f, rfl, rfl⟩ := hcut
          go_upto_if 68 with fail
          go_cut [72] from 68 to 71 (fun _ wx => ∃ d3 : Array Nat, Lp w blk off a b a' b' d d3 wx)
          case first =>
            cases f
            · go_wp2_with fail
              go_meet
              case rel => exact ⟨d2, HL3.out⟩
            · have ds := HL3.out.dsize
              have cR := partial_f blk off cap a' b' d2 W3 HL3.out.view.holds HL3.out.view.blk (by omega) (by omega) (by omega)
              rw [ds] at cR
              have HR := (show Hid _ from partialInsertionSort_holds (lt := ltF) swoF d2 a' b' (by omega) (by omega) HL3.out.below)
              clear ds
              go_wp2_with fail
              refine cR.mono ?_
              rintro e W ⟨rfl, hv⟩
              have HV := (show Hid _ from hv)
              clear hv cR
              cases hr : (partialInsertionSort ltF d2 a' b').2
              · go_wp2_with fail
                go_meet
                case rel => exact ⟨_, HL3.out.turn HR.out.1 HV.out⟩
              · go_wp2_with fail
                refine bodyPost_ret (results_none rfl _ _ _) rfl ?_
                exact HL3.out.done HR.out.1 (HR.out.2 hr) HV.out
          case rest =>
          obtain ⟨d3, hL⟩ := hcut
          obtain ⟨W4, hW⟩ : ∃ W : World, W = wc := ⟨_, rfl⟩
          rw [← hW] at hL ⊢
          have HL4 := (show Hid _ from hL)
          clear hW HL3
          go_upto_region 17 with fail
          go_cut [87] from 73 to 86 (fun v wx => ∃ f : Bool, v = .bool f ∧ (f = false ∨ (0 < a' ∧ ltF d3[a' - 1]! d3[pv2]! = false)) ∧ Lp w blk off a b a' b' d d3 wx)
          case first =>
            by_cases ha : 0 < a'
            · obtain ⟨t, rfl⟩ : ∃ t, a' = t + 1 := ⟨a' - 1, by omega⟩
              have t0 : (0 : Int) ≤ (t : Int) := by omega
              have t1 : (0 : Int) < (t : Int) + 1 := by omega
              have t2 : (t : Int) < (d.size : Int) := by omega
              have t3 : (pv2 : Int) < (d.size : Int) := by omega
              have c1 := hL.view.cell t (by omega)
              have c2 := hL.view.cell pv2 (by omega)
              have hl2 := fun q => less_f d3[t]! d3[pv2]! (W4.drewN q)
              have HT : Hid (ltF d3[t]! d3[pv2]! = false → ltF d3[t + 1 - 1]! d3[pv2]! = false) := fun h => h
              clear hL
              generalize d3[t]! = x at *
              generalize d3[pv2]! = y at *
              cases hl : ltF x y
              · rw [hl] at hl2
                go_wp2_with fail
                go_quiet ((go_at_call 34; exact Calls.quiet_of_same (hl2 _)))
                go_wp2_with fail
                go_meet
                case rel => exact ⟨true, rfl, .inr ⟨ha, HT.out hl⟩, HL4.out.draw _⟩
              · rw [hl] at hl2
                go_wp2_with fail
                go_quiet ((go_at_call 34; exact Calls.quiet_of_same (hl2 _)))
                go_wp2_with fail
                go_meet
                case rel => exact ⟨false, rfl, .inl rfl, HL4.out.draw _⟩
            · obtain rfl : a' = 0 := by omega
              clear hL
              go_wp2_with fail
              go_quiet (fail)
              go_wp2_with fail
              go_meet
              case rel => exact ⟨false, rfl, .inl rfl, HL4.out.draw _⟩
          case rest =>
          obtain ⟨f2, rfl, hf2, hL5⟩ := hcut
          obtain ⟨W5, hW⟩ : ∃ W : World, W = wc := ⟨_, rfl⟩
          rw [← hW] at hL5 ⊢
          have HL5 := (show Hid _ from hL5)
          have ds := hL5.dsize
          clear hW HL4 hL
          cases f2
          · have cP := part_f blk off cap a' b' pv2 d3 W5 hL5.view.holds hL5.view.blk hq1 hq2 (by omega) (by omega)
            rw [ds] at cP
            clear hL5 ds hf2
            go_wp2_with fail
            refine cP.mono ?_
            rintro e W6 ⟨m, fl, d4, rfl, hm1, hm2, hp, hlo, hhi, _, hv⟩
            have hL6 := HL5.out.turn hp hv
            have ds := hL6.dsize
            have HL6 := (show Hid _ from And.intro hL6 (And.intro hlo hhi))
            have m0 : (0 : Int) ≤ (m : Int) := by omega
            have m1 : (m : Int) < (b' : Int) := by omega
            have m2 : (a' : Int) ≤ (m : Int) := by omega
            have E9 : Hid (d4.size = d.size) := ds
            clear cP hp hlo hhi hv HL5 ds hL6
            by_cases hlr : m - a' < b' - m
            · have e2 : (m : Int) - (a' : Int) < (b' : Int) - (m : Int) := by omega
              have cQ := IH.out blk off cap a' m lim2 d4 W6 (by omega) HL6.out.1.view.holds HL6.out.1.view.blk hm1 (by have := E9.out; omega) (by have := E9.out; omega) (by omega) (below_less HL6.out.1.below (by omega))
              rw [E9.out] at cQ
              go_wp2_with fail
              refine cQ.mono ?_
              rintro e W7 ⟨rfl, d5, hp5, hs5, hv5⟩
              have HL7 : Hid (Lp w blk off a b (m + 1) b' d d5 W7) := HL6.out.1.goR hm1 hm2 HL6.out.2.1 HL6.out.2.2 hp5 hs5 hv5
              clear cQ hp5 hs5 hv5 HL6
              go_wp2
              go_roundw
              case rel =>
                go_light
                exact ⟨m + 1, b', lim2, _, fl, d5, by go_num, rfl, rfl, rfl, rfl, hlim2, HL7.out⟩
              case measure => simp [intOf]; omega
            · have E2 : Hid (decide ((m : Int) - (a' : Int) < (b' : Int) - (m : Int)) = false) := decide_eq_false (by omega)
              have cQ := IH.out blk off cap (m + 1) b' lim2 d4 W6 (by omega) HL6.out.1.view.holds HL6.out.1.view.blk (by omega) (by have := E9.out; omega) (by have := E9.out; omega) (by omega) (below_right HL6.out.2.2)
              rw [E9.out] at cQ
              go_upto_if 113 with fail
              rw [E2.out]
              clear E2
              go_wp2_with fail
              refine cQ.mono ?_
              rintro e W7 ⟨rfl, d5, hp5, hs5, hv5⟩
              have HL7 : Hid (Lp w blk off a b a' m d d5 W7) := HL6.out.1.goL hm1 hm2 HL6.out.2.1 HL6.out.2.2 hp5 hs5 hv5
              clear cQ hp5 hs5 hv5 HL6
              go_wp2
              go_roundw
              case rel =>
                go_light
                exact ⟨a', m, lim2, _, fl, d5, rfl, rfl, rfl, rfl, rfl, hlim2, HL7.out⟩
              case measure => simp [intOf]; omega
          · have cE := parteq_f blk off cap a' b' pv2 d3 W5 hL5.view.holds hL5.view.blk hq1 hq2 (by omega) (by omega)
            rw [ds] at cE
            have HF := (show Hid _ from hf2)
            clear hL5 ds hf2
            go_wp2_with fail
            refine cE.mono ?_
            rintro e W6 ⟨m, d4, rfl, hm1, hm2, hp, hlo, _, hv⟩
            have HL6 : Hid (Lp w blk off a b m b' d d4 W6) := by
              rcases HF.out with h | h
              · cases h
              · exact HL5.out.eq h.1 h.2 hm1 hm2 hp hlo hv
            clear cE hp hlo hv HL5 HF
            go_wp2
            go_roundw
            case rel =>
              go_light
              exact ⟨m, b', lim2, wb, wp, d4, rfl, rfl, rfl, rfl, rfl, hlim2, HL6.out⟩
            case measure => simp [intOf]; omega
end Go.Proofs.YbulkdswcDoor
