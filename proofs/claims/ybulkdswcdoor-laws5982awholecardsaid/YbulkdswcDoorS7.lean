import Derived.Test.YbulkdswcDoorS6
import Derived.Test.YbulkdswcDoorShelfB
import Derived.Laws.Bits64b
namespace Go.Proofs.YbulkdswcDoor
open Go Ieee Go.RowKit Go.Sort

attribute [local go_sem] run_store_float

theorem xorNext_lt {X : Nat} (h : X < 18446744073709551616) : xorNextN X < 18446744073709551616 := by
  unfold xorNextN
  simp only []
  have h1 : X ^^^ (X * 8192 % 18446744073709551616) < 18446744073709551616 := Nat.xor_lt_two_pow (n := 64) (by omega) (by omega)
  generalize X ^^^ (X * 8192 % 18446744073709551616) = A at *
  have h2 : A ^^^ (A / 128) < 18446744073709551616 := Nat.xor_lt_two_pow (n := 64) (by omega) (by omega)
  generalize A ^^^ (A / 128) = B at *
  exact Nat.xor_lt_two_pow (n := 64) (by omega) (by omega)

theorem pow_len {L : Nat} (h : 0 < L) : L < 1 <<< bitsLen L ∧ 1 <<< bitsLen L ≤ 2 * L := by
  unfold bitsLen
  rw [if_neg (by omega), Nat.one_shiftLeft]
  have h1 := Nat.lt_log2_self (n := L)
  have h2 := Nat.log2_self_le (n := L) (by omega)
  rw [Nat.pow_succ] at *
  omega

/-- The row permuted within [a, b), and the random numbers in a block of their own. -/
structure Br (w0 : World) (blk off rb a b : Nat) (d : Array Nat) (dk : Array Nat) (wr : World) : Prop where
  view : View w0 blk off d dk wr
  perm : PermIn a b d dk
  new : w0.heap.size ≤ rb
  cell : ∃ X : Nat, X < 18446744073709551616 ∧ wr.cell? ⟨rb, 0, none⟩ = some (.int .u64 X)
  free : wr.frozen? ⟨rb, 0, none⟩ = false

set_option maxHeartbeats 4000000 in
set_option maxRecDepth 100000 in
theorem break_f (blk off cap a b : Nat) (d : Array Nat) (w : World) (hH : Holds encF w blk off d) (hblk : blk < w.heap.size) (hab : a < b) (hb : b ≤ d.size) (hsz : d.size < 4611686018427387904) :
    Calls Ybad.prog 30 #[.slice (some ⟨blk, off, none⟩) d.size cap, .int .i64 a, .int .i64 b] w fun e w' =>
      e = .returned (.tuple #[]) ∧ ∃ d', PermIn a b d d' ∧ View w blk off d d' w' := by
  have hv : View w blk off d d w := View.refl hH hblk
  have HV := (show Hid _ from hv)
  obtain ⟨L, hL⟩ : ∃ L, b - a = L := ⟨_, rfl⟩
  obtain ⟨Q, hQ⟩ : ∃ Q, L / 4 = Q := ⟨_, rfl⟩
  have hS0 : Br w blk off w.heap.size a b d d (w.alloc (.cells #[.int .u64 L] 76)) := by
    have hn : (w.alloc (.cells #[.int .u64 (L : Int)] 76)).heap[w.heap.size]? = some (.cells #[.int .u64 (L : Int)] 76) := by unfold World.alloc; simp
    refine ⟨hv.below ((Below.refl _ w).alloc (Nat.le_refl _) _), permIn_refl _ _ _, Nat.le_refl _, ⟨L, by omega, ?_⟩, ?_⟩
    · simp only [World.cell?, hn]; simp
    · simp only [World.frozen?, hn]; simp
  have HS0 := (show Hid _ from hS0)
  clear hS0 hv hH hblk
  have a0 : (0 : Int) ≤ (a : Int) := by omega
  have b2 : (b : Int) ≤ (d.size : Int) := by omega
  have b3 : (a : Int) < (b : Int) := by omega
  have s1 : (d.size : Int) < 4611686018427387904 := by omega
  have q1 : (L : Int) / 4 = (Q : Int) := by omega
  have q2 : (b : Int) - (a : Int) = (L : Int) := by omega
  have q3 : (0 : Int) ≤ (Q : Int) := by omega
  have q4 : (a : Int) + 4 * (Q : Int) ≤ (b : Int) := by omega
  have q5 : (0 : Int) ≤ (L : Int) := by omega
  have q6 : (L : Int) < 4611686018427387904 := by omega
  by_cases h8 : 8 ≤ L
  · have h8' : (8 : Int) ≤ (L : Int) := by omega
    have q7 : (2 : Int) ≤ (Q : Int) := by omega
    have cN := fun W => Ybad.nextPowerOfTwo L (by omega) W
    obtain ⟨M, hM⟩ : ∃ M, 1 <<< bitsLen L = M := ⟨_, rfl⟩
    have hM1 := pow_len (L := L) (by omega)
    rw [hM] at hM1 cN
    have G : Hid (L < M ∧ M ≤ 2 * L ∧ b - a = L ∧ L / 4 = Q) := ⟨hM1.1, hM1.2, hL, hQ⟩
    clear hM hM1 hL hQ
    go_enter Ybad.func30, Ybad.ntmps30
    go_wp2_with fail
    refine (cN _).mono ?_
    rintro e w1 ⟨rfl, hw1⟩
    rw [← hw1] at HS0
    clear hw1 cN
    obtain ⟨i0, hi0⟩ : ∃ i0 : Nat, (a : Int) + (Q : Int) * 2 - 1 = (i0 : Int) := ⟨a + Q * 2 - 1, by omega⟩
    have I0 := (show Hid _ from hi0)
    go_wp2_with fail
    clear hi0
    go_loopw [9] (fun vi wr => ∃ (i : Nat) (dk : Array Nat), vi = .int .i64 i ∧ i0 ≤ i ∧ i ≤ i0 + 3 ∧ Br w blk off w.heap.size a b d dk wr) (fun vi _ => i0 + 3 - (intOf vi).toNat)
    case atStart => exact ⟨i0, d, rfl, Nat.le_refl _, by omega, HS0.out⟩
    case round =>
      clear HS0 w1
      obtain ⟨i, dk, rfl, hi1, hi2, hB⟩ := hrel
      have HB := (show Hid _ from hB)
      by_cases h3 : i < i0 + 3
      · have n1 : (i : Int) ≤ (a : Int) + (Q : Int) * 2 + 1 := by have := I0.out; omega
        have n2 : (i : Int) < (d.size : Int) := by have := I0.out; have := G.out; omega
        have n0 : (0 : Int) ≤ (i : Int) := by omega
        obtain ⟨X, hX, hc⟩ := hB.cell
        have hf := hB.free
        have cX := Ybad.xorshift_Next w.heap.size 0 X hX wr hc hf
        have hX2 := xorNext_lt hX
        generalize xorNextN X = Y at *
        obtain ⟨o, ho⟩ : ∃ o : Nat, Y &&& (M - 1) = o := ⟨_, rfl⟩
        have ho1 : o ≤ M - 1 := by rw [← ho]; exact Nat.and_le_right
        have m1 : IntKind.u64.wrap ((M : Int) - 1) = (M : Int) - 1 := by rw [IntKind.wrap_u64]; have := G.out; omega
        have m2 : bits .and .u64 (Y : Int) ((M : Int) - 1) = (o : Int) := by
          rw [show (M : Int) - 1 = ((M - 1 : Nat) : Int) by have := G.out; omega, bits_and_u64_nat Y (M - 1) hX2 (by have := G.out; omega), ho]
        have m3 : (0 : Int) ≤ (o : Int) := by omega
        have m4 : (o : Int) < 9223372036854775808 := by have := G.out; omega
        have OB : Hid (o < 2 * L) := (show o < 2 * L from by have := G.out; omega)
        clear hB hc hf ho ho1
        go_wp2_with fail
        refine cX.mono ?_
        rintro e w2 ⟨rfl, hw2⟩
        have HB2 : Hid (Br w blk off w.heap.size a b d dk w2) := by
          obtain ⟨X0, _, hc0⟩ := HB.out.cell
          rw [hw2]
          exact ⟨(HB.out.view.below ((Below.refl _ wr).setCell (p := ⟨w.heap.size, 0, none⟩) (Nat.le_refl _) _)).draw 3, HB.out.perm, Nat.le_refl _, ⟨Y, hX2, World.cell?_setCell_same _ _ _ hc0⟩, (World.frozen?_setCell ..).trans HB.out.free⟩
        clear hw2 cX HB
        go_upto_if 43 with fail
        go_cut [10] from 43 to 46 (fun v wx => ∃ q : Nat, v = .int .i64 q ∧ q < L ∧ w2 = wx)
        case first =>
          by_cases hoL : L ≤ o
          · have e1 : decide (L ≤ o) = true := decide_eq_true (by omega)
            have e2 : (o : Int) - (L : Int) = ((o - L : Nat) : Int) := by omega
            rw [e1]
            clear e1
            go_wp2_with fail
            go_meet
            case rel => exact ⟨o - L, by congr 1, by have := OB.out; omega, rfl⟩
          · have e1 : decide (L ≤ o) = false := decide_eq_false (by omega)
            rw [e1]
            clear e1
            go_wp2_with fail
            go_meet
            case rel => exact ⟨o, rfl, by omega, rfl⟩
        case rest =>
          obtain ⟨q, rfl, hq, rfl⟩ := hcut
          have k0 : (0 : Int) ≤ (q : Int) := by omega
          have k2 : (0 : Int) ≤ (a : Int) + (q : Int) := by omega
          have k3 : (a : Int) + (q : Int) < (d.size : Int) := by have := G.out; omega
          have k5 : ((a : Int) + (q : Int)).toNat = a + q := by omega
          have hw3 : IntKind.i64.wrap ((a : Int) + (q : Int)) = (a : Int) + (q : Int) := wrapI (by omega) (by omega)
          have c1 := HB2.out.view.cell i (by omega)
          have c2 := HB2.out.view.cell (a + q) (by omega)
          have f1 := HB2.out.view.frozen i (by omega)
          have f2 := HB2.out.view.frozen (a + q) (by omega)
          have HS : Hid (∀ n, Br w blk off w.heap.size a b d (swp dk i (a + q)) (((w2.drewN n).setCell ⟨blk, off + i, none⟩ (.float .f64 dk[a + q]!)).setCell ⟨blk, off + (a + q), none⟩ (.float .f64 dk[i]!))) := fun n => by
            have hvs := HB2.out.view.size
            have hne : (⟨blk, off + i, none⟩ : Addr) ≠ ⟨w.heap.size, 0, none⟩ := fun e => by have := HB2.out.view.lt; have e2 : blk = w.heap.size := congrArg Addr.block e; omega
            have hne2 : (⟨blk, off + (a + q), none⟩ : Addr) ≠ ⟨w.heap.size, 0, none⟩ := fun e => by have := HB2.out.view.lt; have e2 : blk = w.heap.size := congrArg Addr.block e; omega
            obtain ⟨X0, hX0, hc0⟩ := HB2.out.cell
            refine ⟨HB2.out.view.swap (by omega) (by omega) n, permIn_trans _ _ _ _ _ HB2.out.perm (swp_permIn dk a b i (a + q) (by have := I0.out; have := G.out; omega) (by have := I0.out; have := G.out; omega) (by omega) (by have := G.out; omega) (by omega)), Nat.le_refl _, ⟨X0, hX0, ?_⟩, ?_⟩
            · rw [World.cell?_setCell_other _ _ _ _ hne2, World.cell?_setCell_other _ _ _ _ hne]; exact hc0
            · rw [World.frozen?_setCell, World.frozen?_setCell]; exact HB2.out.free
          generalize hx : dk[i]! = x at *
          generalize hy : dk[a + q]! = y at *
          by_cases hiq : i = a + q
          · obtain rfl : x = y := by rw [← hx, ← hy, hiq]
            rw [← hiq] at HS
            have k6 : (a : Int) + (q : Int) = (i : Int) := by omega
            rw [k6] at hw3
            clear hx hy hiq c2 f2 k2 k3 k5
            go_wp2
            go_region
            all_goals go_wp2
            go_roundw
            case rel =>
              go_light
              exact ⟨i + 1, swp dk i i, by go_num, by omega, by omega, HS.out _⟩
            case measure => simp [intOf]; omega
          · clear hx hy
            have hne : ¬ i = a + q := hiq
            go_wp2
            go_region
            all_goals go_wp2
            go_roundw
            case rel =>
              go_light
              exact ⟨i + 1, swp dk i (a + q), by go_num, by omega, by omega, HS.out _⟩
            case measure => simp [intOf]; omega
      · have n1 : ¬ (i : Int) ≤ (a : Int) + (Q : Int) * 2 + 1 := by have := I0.out; omega
        clear hB
        go_wp2
        go_end0
        exact ⟨rfl, dk, HB.out.perm, HB.out.view⟩
  · have h8' : ¬ (8 : Int) ≤ (L : Int) := by omega
    clear hL hQ
    go_enter Ybad.func30, Ybad.ntmps30
    go_wp2
    go_end0
    exact ⟨rfl, d, permIn_refl _ _ _, HV.out⟩
end Go.Proofs.YbulkdswcDoor
