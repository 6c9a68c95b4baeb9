import Derived.Test.YbulkdswcDoorS5
namespace Go.Proofs.YbulkdswcDoor
open Go Ieee Go.RowKit Go.Sort

/-- The row as it was, and the counter of swaps in a block of its own. -/
structure Sw (w0 : World) (blk off sb : Nat) (d : Array Nat) (wr : World) : Prop where
  view : View w0 blk off d d wr
  new : w0.heap.size ≤ sb
  cell : ∃ s : Int, wr.cell? ⟨sb, 0, none⟩ = some (.int .i64 s)
  free : wr.frozen? ⟨sb, 0, none⟩ = false

theorem Sw.draw {w0 wr : World} {blk off sb : Nat} {d : Array Nat} (h : Sw w0 blk off sb d wr) (q : Nat) : Sw w0 blk off sb d (wr.drewN q) := ⟨h.view.draw q, h.new, h.cell, h.free⟩

theorem Sw.set {w0 wr : World} {blk off sb : Nat} {d : Array Nat} (h : Sw w0 blk off sb d wr) (s : Int) : Sw w0 blk off sb d (wr.setCell ⟨sb, 0, none⟩ (.int .i64 s)) := by
  obtain ⟨s0, hc⟩ := h.cell
  exact ⟨h.view.below ((Below.refl _ wr).setCell (p := ⟨sb, 0, none⟩) h.new _), h.new, ⟨s, World.cell?_setCell_same _ _ _ hc⟩, by rw [World.frozen?_setCell]; exact h.free⟩

set_option maxHeartbeats 2000000 in
set_option maxRecDepth 100000 in
theorem order2_f {w0 : World} {blk off sb : Nat} {d : Array Nat} (cap a b : Nat) (w : World) (h : Sw w0 blk off sb d w) (ha : a < d.size) (hb : b < d.size) :
    Calls Ybad.prog 54 #[.slice (some ⟨blk, off, none⟩) d.size cap, .int .i64 a, .int .i64 b, .pointer (some ⟨sb, 0, none⟩)] w fun e w' =>
      ∃ x y : Nat, e = .returned (.tuple #[.int .i64 x, .int .i64 y]) ∧ ((x = a ∧ y = b) ∨ (x = b ∧ y = a)) ∧ Sw w0 blk off sb d w' := by
  have H := (show Hid _ from h)
  have c1 := h.view.cell a ha
  have c2 := h.view.cell b hb
  obtain ⟨s, c3⟩ := h.cell
  have f3 := h.free
  have a0 : (0 : Int) ≤ (a : Int) := by omega
  have b0 : (0 : Int) ≤ (b : Int) := by omega
  have a1 : (a : Int) < (d.size : Int) := by omega
  have b1 : (b : Int) < (d.size : Int) := by omega
  have hlt := fun q => less_f d[b]! d[a]! (w.drewN q)
  generalize d[a]! = x at *
  generalize d[b]! = y at *
  clear h
  cases hl : ltF y x
  · rw [hl] at hlt
    go_enter Ybad.func54, Ybad.ntmps54
    go_wp2_with fail
    go_quiet ((go_at_call 34; exact Calls.quiet_of_same (hlt _)))
    go_wp2
    go_ret2
    exact ⟨a, b, rfl, .inl ⟨rfl, rfl⟩, H.out.draw _⟩
  · rw [hl] at hlt
    go_enter Ybad.func54, Ybad.ntmps54
    go_wp2_with fail
    go_quiet ((go_at_call 34; exact Calls.quiet_of_same (hlt _)))
    go_wp2
    go_ret2
    exact ⟨b, a, rfl, .inr ⟨rfl, rfl⟩, (H.out.draw _).set _⟩

set_option maxHeartbeats 2000000 in
set_option maxRecDepth 100000 in
theorem median_f {w0 : World} {blk off sb : Nat} {d : Array Nat} (cap a b c : Nat) (w : World) (h : Sw w0 blk off sb d w) (ha : a < d.size) (hb : b < d.size) (hc : c < d.size) :
    Calls Ybad.prog 50 #[.slice (some ⟨blk, off, none⟩) d.size cap, .int .i64 a, .int .i64 b, .int .i64 c, .pointer (some ⟨sb, 0, none⟩)] w fun e w' =>
      ∃ m : Nat, e = .returned (.int .i64 m) ∧ (m = a ∨ m = b ∨ m = c) ∧ Sw w0 blk off sb d w' := by
  have c1 := order2_f cap a b w h ha hb
  clear h
  go_enter Ybad.func50, Ybad.ntmps50
  go_wp2_with fail
  refine c1.mono ?_
  rintro e w1 ⟨x1, y1, rfl, h1, hS⟩
  have c2 := order2_f cap y1 c w1 hS (by omega) hc
  clear c1 hS
  go_wp2_with fail
  refine c2.mono ?_
  rintro e w2 ⟨x2, y2, rfl, h2, hS⟩
  have c3 := order2_f cap x1 x2 w2 hS (by omega) (by omega)
  clear c2 hS
  go_wp2_with fail
  refine c3.mono ?_
  rintro e w3 ⟨x3, y3, rfl, h3, hS⟩
  have HS := (show Hid _ from hS)
  clear c3 hS
  go_wp2
  go_ret
  exact ⟨y3, rfl, by omega, HS.out⟩

set_option maxHeartbeats 2000000 in
set_option maxRecDepth 100000 in
theorem adjacent_f {w0 : World} {blk off sb : Nat} {d : Array Nat} (cap a : Nat) (w : World) (h : Sw w0 blk off sb d w) (ha : 1 ≤ a) (ha1 : a + 1 < d.size) (hsz : d.size < 4611686018427387904) :
    Calls Ybad.prog 49 #[.slice (some ⟨blk, off, none⟩) d.size cap, .int .i64 a, .pointer (some ⟨sb, 0, none⟩)] w fun e w' =>
      ∃ m : Nat, e = .returned (.int .i64 m) ∧ a ≤ m + 1 ∧ m ≤ a + 1 ∧ Sw w0 blk off sb d w' := by
  obtain ⟨p, rfl⟩ : ∃ p, a = p + 1 := ⟨a - 1, by omega⟩
  have c1 := median_f cap p (p + 1) (p + 2) w h (by omega) (by omega) (by omega)
  have a0 : (0 : Int) ≤ (p : Int) := by omega
  have a1 : (p : Int) + 1 + 1 < (d.size : Int) := by omega
  have s1 : (d.size : Int) < 4611686018427387904 := by omega
  clear h
  go_enter Ybad.func49, Ybad.ntmps49
  go_wp2_with fail
  refine c1.mono ?_
  rintro e w1 ⟨m, rfl, hm, hS⟩
  have HS := (show Hid _ from hS)
  clear c1 hS
  go_wp2
  go_ret
  exact ⟨m, rfl, by omega, by omega, HS.out⟩

set_option maxHeartbeats 4000000 in
set_option maxRecDepth 100000 in
theorem pivot_f (blk off cap a b : Nat) (d : Array Nat) (w : World) (hH : Holds encF w blk off d) (hblk : blk < w.heap.size) (hab : a < b) (hb : b ≤ d.size) (hsz : d.size < 4611686018427387904) :
    Calls Ybad.prog 31 #[.slice (some ⟨blk, off, none⟩) d.size cap, .int .i64 a, .int .i64 b] w fun e w' =>
      ∃ p c : Nat, e = .returned (.tuple #[.int .i64 p, .int .i64 c]) ∧ a ≤ p ∧ p < b ∧ c ≤ 2 ∧ View w blk off d d w' := by
  have hv : View w blk off d d w := View.refl hH hblk
  have hS0 : Sw w blk off w.heap.size d (w.alloc (.cells #[.int .i64 0] 3)) := by
    have hn : (w.alloc (.cells #[.int .i64 0] 3)).heap[w.heap.size]? = some (.cells #[.int .i64 0] 3) := by unfold World.alloc; simp
    refine ⟨hv.below ((Below.refl _ w).alloc (Nat.le_refl _) _), Nat.le_refl _, ⟨0, ?_⟩, ?_⟩
    · simp only [World.cell?, hn]; simp
    · simp only [World.frozen?, hn]; simp
  have HS0 := (show Hid _ from hS0)
  clear hS0 hv hH hblk
  obtain ⟨L, hL⟩ : ∃ L, b - a = L := ⟨_, rfl⟩
  obtain ⟨Q, hQ⟩ : ∃ Q, L / 4 = Q := ⟨_, rfl⟩
  have a0 : (0 : Int) ≤ (a : Int) := by omega
  have b2 : (b : Int) ≤ (d.size : Int) := by omega
  have b3 : (a : Int) < (b : Int) := by omega
  have s1 : (d.size : Int) < 4611686018427387904 := by omega
  have q1 : (L : Int) / 4 = (Q : Int) := by omega
  have q2 : (b : Int) - (a : Int) = (L : Int) := by omega
  have q3 : (0 : Int) ≤ (Q : Int) := by omega
  have q4 : (a : Int) + 4 * (Q : Int) ≤ (b : Int) := by omega
  go_enter Ybad.func31, Ybad.ntmps31
  go_upto_if 32 with fail
  obtain ⟨i, hi⟩ : ∃ i : Nat, (a : Int) + (Q : Int) = (i : Int) := ⟨a + Q, by omega⟩
  obtain ⟨j, hj⟩ : ∃ j : Nat, (a : Int) + (Q : Int) * 2 = (j : Int) := ⟨a + Q * 2, by omega⟩
  obtain ⟨k, hk⟩ : ∃ k : Nat, (a : Int) + (Q : Int) * 3 = (k : Int) := ⟨a + Q * 3, by omega⟩
  simp only [hi, hj, hk]
  generalize w.alloc (.cells #[.int .i64 0] 3) = W at HS0 ⊢
  have G : Hid (i = a + Q ∧ j = a + Q * 2 ∧ k = a + Q * 3 ∧ b - a = L ∧ L / 4 = Q) := ⟨by omega, by omega, by omega, hL, hQ⟩
  clear hi hj hk q1 q2 q3 q4 hL hQ
  go_cut [10, 11, 12] from 32 to 48 (fun _ vj _ wx => ∃ p : Nat, vj = .int .i64 p ∧ a ≤ p ∧ p < b ∧ Sw w blk off w.heap.size d wx)
  case first =>
    by_cases h8 : 8 ≤ L
    · have h8' : decide ((8 : Int) ≤ (L : Int)) = true := decide_eq_true (by omega)
      rw [h8']
      clear h8'
      by_cases h50 : 50 ≤ L
      · have h50' : (50 : Int) ≤ (L : Int) := by omega
        have c1 := adjacent_f cap i W HS0.out (by have := G.out; omega) (by have := G.out; omega) hsz
        go_wp2_with fail
        refine c1.mono ?_
        rintro e w1 ⟨i', rfl, hi1, hi2, hS⟩
        have c2 := adjacent_f cap j w1 hS (by have := G.out; omega) (by have := G.out; omega) hsz
        clear c1 hS
        go_wp2_with fail
        refine c2.mono ?_
        rintro e w2 ⟨j', rfl, hj1, hj2, hS⟩
        have c3 := adjacent_f cap k w2 hS (by have := G.out; omega) (by have := G.out; omega) hsz
        clear c2 hS
        go_wp2_with fail
        refine c3.mono ?_
        rintro e w3 ⟨k', rfl, hk1, hk2, hS⟩
        have c4 := median_f cap i' j' k' w3 hS (by have := G.out; omega) (by have := G.out; omega) (by have := G.out; omega)
        clear c3 hS
        go_wp2_with fail
        refine c4.mono ?_
        rintro e w4 ⟨m, rfl, hm, hS⟩
        have HS := (show Hid _ from hS)
        have HM := (show Hid _ from hm)
        clear c4 hS hm
        go_wp2_with fail
        go_meet
        case rel => exact ⟨m, rfl, by have := G.out; have := HM.out; omega, by have := G.out; have := HM.out; omega, HS.out⟩
      · have h50' : ¬ (50 : Int) ≤ (L : Int) := by omega
        have c4 := median_f cap i j k W HS0.out (by have := G.out; omega) (by have := G.out; omega) (by have := G.out; omega)
        go_wp2_with fail
        refine c4.mono ?_
        rintro e w4 ⟨m, rfl, hm, hS⟩
        have HS := (show Hid _ from hS)
        have HM := (show Hid _ from hm)
        clear c4 hS hm
        go_wp2_with fail
        go_meet
        case rel => exact ⟨m, rfl, by have := G.out; have := HM.out; omega, by have := G.out; have := HM.out; omega, HS.out⟩
    · have h8' : decide ((8 : Int) ≤ (L : Int)) = false := decide_eq_false (by omega)
      rw [h8']
      clear h8'
      go_wp2_with fail
      go_meet
      case rel => exact ⟨j, rfl, by have := G.out; omega, by have := G.out; omega, HS0.out⟩
  case rest =>
    obtain ⟨p, rfl, hp1, hp2, hS⟩ := hcut
    obtain ⟨W2, hW2⟩ : ∃ W2 : World, W2 = wc := ⟨_, rfl⟩
    rw [← hW2] at hS ⊢
    have HS := (show Hid _ from hS)
    obtain ⟨s, hc⟩ := hS.cell
    clear hS hW2 HS0
    by_cases h0 : s = 0
    · subst h0
      go_wp2
      go_ret2
      exact ⟨p, 1, rfl, hp1, hp2, by omega, HS.out.view⟩
    · have e0 : (s == 0) = false := beq_false_of_ne h0
      by_cases h12 : s = 12
      · subst h12
        go_wp2
        go_ret2
        exact ⟨p, 2, rfl, hp1, hp2, by omega, HS.out.view⟩
      · have e12 : (s == 12) = false := beq_false_of_ne h12
        go_wp2
        go_ret2
        exact ⟨p, 0, rfl, hp1, hp2, by omega, HS.out.view⟩
end Go.Proofs.YbulkdswcDoor
