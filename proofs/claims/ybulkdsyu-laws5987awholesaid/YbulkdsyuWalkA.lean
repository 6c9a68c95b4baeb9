import Derived.Test.YbulkdsyuProg
import Derived.WalkKit
import Derived.WalkSpells
import Derived.WalkLawsBesides
import Derived.Deep.Light
import Derived.BigRegion
import Derived.BigQuiet
import Derived.Deep.QuietTactic
import Derived.Test.YbulkdsyuRowK
import Derived.Test.YbulkdsyuNameAt
import Derived.Laws.StructEq
namespace Go.Proofs.Ybulkdsyu
open Go Go.RowKit

theorem info28 : (Yba.prog.info? 28).map (fun i => (i.zero, i.size, i.bytes)) = some (some (.agg #[.int .i32 0, .int .i32 0, .int .i32 0, .int .i32 0, .int .i32 0]), 5, 20) := by kernel_rfl

/-- What make lays: n times five zeros. -/
def zrow (n : Nat) : Array Value := madeCells #[.int .i32 0, .int .i32 0, .int .i32 0, .int .i32 0, .int .i32 0] (n * 5)

theorem zrow_at (n i : Nat) (h : i < n * 5) : (zrow n)[i]? = some (.int .i32 0) := by
  simp [zrow, madeCells, h]
  have : i % 5 < 5 := Nat.mod_lt _ (by decide)
  match hm : i % 5, this with
  | 0, _ => rfl
  | 1, _ => rfl
  | 2, _ => rfl
  | 3, _ => rfl
  | 4, _ => rfl

theorem run_make28 (n : Nat) (h : n ≤ 1048576) (w : World) : (Instr.makeSlice 24 (.int .i64 (n : Int)) (.int .i64 (n : Int))).run Yba.prog w = .ok (.slice (some ⟨w.heap.size, 0, none⟩) n n) (w.alloc (.cells (zrow n) 28)) := by
  obtain ⟨i0, hi, hz0, hz1, hz2⟩ := info_parts info28
  have hr := run_make (P := Yba.prog) w 24 28 i0 _ Yba.underlying24 hi hz0 .i64 .i64 n n (by omega) (Int.le_refl _) (by rw [hz2]; omega) (by omega)
  simp only [Int.toNat_natCast, hz1] at hr
  exact hr

theorem zrow_size (n : Nat) : (zrow n).size = n * 5 := by simp [zrow, size_madeCells]

/-- After k rounds: the first k messages are laid. -/
def laidRow (f : Nat → Int) (k : Nat) (c : Nat) : Value := if c < k * 5 then .int .i32 (f c) else .int .i32 0

theorem laid_hi (f : Nat → Int) (k c : Nat) (h : k * 5 ≤ c) : laidRow f k c = .int .i32 0 := by unfold laidRow; rw [if_neg (by omega)]

theorem laid_lo (f : Nat → Int) (k c : Nat) (h : c < k * 5) : laidRow f k c = .int .i32 (f c) := by unfold laidRow; rw [if_pos h]

/-- One round's five stores. -/
theorem row_step {wr : World} {G n k : Nat} {f : Nat → Int} (h : wr.rowIs G 28 (n * 5) (laidRow f k)) :
    (((((wr.setCell ⟨G, k * 5, none⟩ (.int .i32 (f (k * 5)))).setCell ⟨G, k * 5 + 1, none⟩ (.int .i32 (f (k * 5 + 1)))).setCell ⟨G, k * 5 + 2, none⟩ (.int .i32 (f (k * 5 + 2)))).setCell ⟨G, k * 5 + 3, none⟩ (.int .i32 (f (k * 5 + 3)))).setCell ⟨G, k * 5 + 4, none⟩ (.int .i32 (f (k * 5 + 4)))).rowIs G 28 (n * 5) (laidRow f (k + 1)) := by
  refine (((((h.set _ _).set _ _).set _ _).set _ _).set _ _).congr ?_
  intro i hi
  by_cases h4 : i = k * 5 + 4
  · subst h4; rw [if_pos rfl, laid_lo _ _ _ (by omega)]
  by_cases h3 : i = k * 5 + 3
  · subst h3; rw [if_neg (by omega), if_pos rfl, laid_lo _ _ _ (by omega)]
  by_cases h2 : i = k * 5 + 2
  · subst h2; rw [if_neg (by omega), if_neg (by omega), if_pos rfl, laid_lo _ _ _ (by omega)]
  by_cases h1 : i = k * 5 + 1
  · subst h1; rw [if_neg (by omega), if_neg (by omega), if_neg (by omega), if_pos rfl, laid_lo _ _ _ (by omega)]
  by_cases h0 : i = k * 5
  · subst h0; rw [if_neg (by omega), if_neg (by omega), if_neg (by omega), if_neg (by omega), if_pos rfl, laid_lo _ _ _ (by omega)]
  rw [if_neg h4, if_neg h3, if_neg h2, if_neg h1, if_neg h0]
  by_cases hlo : i < k * 5
  · rw [laid_lo _ _ _ hlo, laid_lo _ _ _ (by omega)]
  · rw [laid_hi _ _ _ (by omega), laid_hi _ _ _ (by omega)]

/-- What keep := make(..); copy(keep, messages) does. -/
theorem run_copyA {wr w : World} {n : Nat} {f : Nat → Int} (hrow : wr.rowIs w.heap.size 28 (n * 5) (laidRow f n)) (hb : Below w.heap.size w wr) (hsz : wr.heap.size = w.heap.size + 1) :
    ∃ w3, (Builtin.copy_ #[24, 24] 3 #[.slice (some ⟨w.heap.size + 1, 0, none⟩) n n, .slice (some ⟨w.heap.size, 0, none⟩) n n]).run Yba.prog (wr.alloc (.cells (zrow n) 28)) = .ok (.int .i64 (n : Int)) w3 ∧
      w3.rowIs w.heap.size 28 (n * 5) (laidRow f n) ∧ w3.rowIs (w.heap.size + 1) 28 (n * 5) (laidRow f n) ∧ Below w.heap.size w w3 := by
  have h1 : (wr.alloc (.cells (zrow n) 28)).heap[w.heap.size + 1]? = some (.cells (zrow n) 28 (0, 0)) := by rw [← hsz]; exact heap_alloc_new _ _
  have h2 := hrow.alloc (.cells (zrow n) 28)
  have hlen : ((List.range (n * 5)).map (laidRow f n)).length = Nat.min n n * 5 := by simp
  have hr := run_copy_rowK Yba.prog (wr.alloc (.cells (zrow n) 28)) 24 24 3 28 5 (w.heap.size + 1) 0 n n ⟨w.heap.size, 0, none⟩ n n (zrow n) 28 ((List.range (n * 5)).map (laidRow f n)) Yba.underlying24 (by kernel_rfl) h1 hlen
    (by
      intro j v hj
      have hjl : j < n * 5 := by have := (List.getElem?_eq_some_iff.1 hj).1; simpa using this
      have : v = laidRow f n j := by simpa [hjl] using hj.symm
      subst this
      have := h2.cell hjl
      rw [Addr.add_lit, Nat.zero_add]
      exact this)
    (by rw [hlen, zrow_size]; simp)
    (by
      intro v hv
      obtain ⟨c, _, rfl⟩ := List.mem_map.1 hv
      unfold laidRow
      split <;> rfl)
  refine ⟨_, ?_, ?_, rowIs_copied h1 (zrow_size n), ?_⟩
  · rw [hr]; simp [goInt]
  · exact h2.of_block (setRow_other _ _ _ _ (by omega))
  · exact below_setRow (hb.alloc (by omega) _) (by omega) _

/-- A message against itself. -/
theorem run_neq28 (a0 a1 a2 a3 a4 : Int) (w : World) : (binOp .neq 28 (.agg #[.int .i32 a0, .int .i32 a1, .int .i32 a2, .int .i32 a3, .int .i32 a4]) (.agg #[.int .i32 a0, .int .i32 a1, .int .i32 a2, .int .i32 a3, .int .i32 a4])).run Yba.prog w = .ok (.bool false) w := by
  have u21 := Yba.underlying21
  have a21 := Yba.isAgg21
  have z21 := Yba.sizeOf21
  have hS : Yba.prog.underlying 28 = some (.struct (Yba.prog.fieldsOf 28)) := by kernel_rfl
  have hp : Yba.prog.stoodInHeld 28 = false := by kernel_rfl
  rw [run_neq_struct, show (10000 : Nat) = 9999 + 1 from rfl, run_equalIn_agg w 9999 28 _ _ hS hp]
  simp only [Program.fieldsOf, Yba.underlying28]
  go_simp

theorem rowIs_drewN {w : World} {b t n : Nat} {f : Nat → Value} (h : w.rowIs b t n f) (q : Nat) : (w.drewN q).rowIs b t n f := by
  induction q generalizing w with
  | zero => exact h
  | succ q ih => exact ih h.drew

set_option maxHeartbeats 1000000 in
set_option maxRecDepth 100000 in
theorem walkA (b off n cap : Nat) (f : Nat → Int) (m : Int) (w : World) (hn0 : 0 < n) (hn : n ≤ 1048576)
    (hc : ∀ c, c < n * 5 → w.cell? ⟨b, off + c, none⟩ = some (.int .i32 (f c))) (hb : b < w.heap.size)
    (hm0 : 0 ≤ m) (hm1 : m ≤ 18446744073709551615) :
    Calls Yba.prog 3 #[.slice (some ⟨b, off, none⟩) n cap, .int .u64 m] w fun e w' => e = .returned (.bool true) ∧ Below w.heap.size w w' := by
  have hmk := run_make28 n hn
  go_enter Yba.func3, Yba.ntmps3
  go_wp2
  go_loopw [25] (fun i wr => ∃ k : Nat, k ≤ n ∧ i = .int .i64 k ∧ wr.rowIs w.heap.size 28 (n * 5) (laidRow f k) ∧ Below w.heap.size w wr ∧ wr.heap.size = w.heap.size + 1)
    (fun i _ => n - (intOf i).toNat)
  case atStart => exact ⟨0, Nat.zero_le _, rfl, ⟨_, heap_alloc_new _ _, zrow_size n, fun i hi => by rw [zrow_at n i hi]; simp [laidRow]⟩, (Below.refl _ _).alloc (Nat.le_refl _) _, by simp⟩
  case round =>
    obtain ⟨k, hk, rfl, hrow, hbel, hsz⟩ := hrel
    by_cases hlt : k < n
    · have e0 : wr.cell? ⟨b, off + k * 5, none⟩ = some (.int .i32 (f (k * 5))) := (hbel.cell (p := ⟨b, off + k * 5, none⟩) hb).trans (hc (k * 5) (by omega))
      have e1 : wr.cell? ⟨b, off + k * 5 + 1, none⟩ = some (.int .i32 (f (k * 5 + 1))) := (hbel.cell (p := ⟨b, off + k * 5 + 1, none⟩) hb).trans (by have := hc (k * 5 + 1) (by omega); rwa [← Nat.add_assoc] at this)
      have e2 : wr.cell? ⟨b, off + k * 5 + 2, none⟩ = some (.int .i32 (f (k * 5 + 2))) := (hbel.cell (p := ⟨b, off + k * 5 + 2, none⟩) hb).trans (by have := hc (k * 5 + 2) (by omega); rwa [← Nat.add_assoc] at this)
      have e3 : wr.cell? ⟨b, off + k * 5 + 3, none⟩ = some (.int .i32 (f (k * 5 + 3))) := (hbel.cell (p := ⟨b, off + k * 5 + 3, none⟩) hb).trans (by have := hc (k * 5 + 3) (by omega); rwa [← Nat.add_assoc] at this)
      have e4 : wr.cell? ⟨b, off + k * 5 + 4, none⟩ = some (.int .i32 (f (k * 5 + 4))) := (hbel.cell (p := ⟨b, off + k * 5 + 4, none⟩) hb).trans (by have := hc (k * 5 + 4) (by omega); rwa [← Nat.add_assoc] at this)
      have g0 : wr.cell? ⟨w.heap.size, k * 5, none⟩ = some (.int .i32 0) := by rw [hrow.cell (by omega), laid_hi _ _ _ (by omega)]
      have g1 : wr.cell? ⟨w.heap.size, k * 5 + 1, none⟩ = some (.int .i32 0) := by rw [hrow.cell (by omega), laid_hi _ _ _ (by omega)]
      have g2 : wr.cell? ⟨w.heap.size, k * 5 + 2, none⟩ = some (.int .i32 0) := by rw [hrow.cell (by omega), laid_hi _ _ _ (by omega)]
      have g3 : wr.cell? ⟨w.heap.size, k * 5 + 3, none⟩ = some (.int .i32 0) := by rw [hrow.cell (by omega), laid_hi _ _ _ (by omega)]
      have g4 : wr.cell? ⟨w.heap.size, k * 5 + 4, none⟩ = some (.int .i32 0) := by rw [hrow.cell (by omega), laid_hi _ _ _ (by omega)]
      have z0 : wr.frozen? ⟨w.heap.size, k * 5, none⟩ = false := hrow.frozen _
      have z1 : wr.frozen? ⟨w.heap.size, k * 5 + 1, none⟩ = false := hrow.frozen _
      have z2 : wr.frozen? ⟨w.heap.size, k * 5 + 2, none⟩ = false := hrow.frozen _
      have z3 : wr.frozen? ⟨w.heap.size, k * 5 + 3, none⟩ = false := hrow.frozen _
      have z4 : wr.frozen? ⟨w.heap.size, k * 5 + 4, none⟩ = false := hrow.frozen _
      have hkn : (k : Int) < (n : Int) := by omega
      have hk0 : (0 : Int) ≤ (k : Int) := by omega
      have HR : Hid (wr.rowIs w.heap.size 28 (n * 5) (laidRow f k)) := hrow
      have HB : Hid (Below w.heap.size w wr) := hbel
      have HZ : Hid (wr.heap.size = w.heap.size + 1) := hsz
      clear hrow hbel hsz
      go_wp2
      go_region
      go_wp2
      go_roundw
      case rel => go_light; exact ⟨k + 1, by omega, by go_num, (row_step HR.out).drew, (((((HB.out.setCell (Nat.le_refl _) _).setCell (Nat.le_refl _) _).setCell (Nat.le_refl _) _).setCell (Nat.le_refl _) _).setCell (Nat.le_refl _) _).drew, by simpa using HZ.out⟩
      case measure => simp [intOf]; omega
    · obtain rfl : k = n := by omega
      obtain ⟨w3, hcopy, r1, r2, hb3⟩ := run_copyA hrow hbel hsz
      have HR1 : Hid (w3.rowIs w.heap.size 28 (k * 5) (laidRow f k)) := r1
      have HR2 : Hid (w3.rowIs (w.heap.size + 1) 28 (k * 5) (laidRow f k)) := r2
      have HB : Hid (Below w.heap.size w w3) := hb3
      clear r1 r2 hb3 hrow hbel
      go_wp2_with fail
      obtain ⟨t, htk, hw64⟩ : ∃ t : Nat, t < k ∧ wrap64 (m % (k : Int)) = (t : Int) := by
        have h1 := Int.emod_nonneg m (show (k : Int) ≠ 0 by omega)
        have h2 := Int.emod_lt_of_pos m (show (0 : Int) < (k : Int) by omega)
        refine ⟨(m % (k : Int)).toNat, by omega, ?_⟩
        rw [Int.toNat_of_nonneg h1]
        unfold wrap64; omega
      rw [hw64]
      clear hw64 hcopy hmk
      have hk1 : (0 : Int) < (k : Int) := by omega
      rcases t with _ | t
      · have c0 : w3.cell? ⟨b, off, none⟩ = some (.int .i32 (f 0)) := (HB.out.cell (p := ⟨b, off, none⟩) hb).trans (hc 0 (by omega))
        have d0 : w3.cell? ⟨w.heap.size, 0, none⟩ = some (.int .i32 (f 0)) := by rw [HR1.out.cell (by omega), laid_lo _ _ _ (by omega)]
        refine (nameAt_zero _ _ (f 0) _ hn0 hn d0).mono ?_
        rintro e w4 ⟨rfl, q, rfl⟩
        go_wp2
        go_loopw [101] (fun i wx => ∃ j : Nat, j ≤ k ∧ i = .int .i64 j ∧ Hid (wx.rowIs w.heap.size 28 (k * 5) (laidRow f k)) ∧ Hid (wx.rowIs (w.heap.size + 1) 28 (k * 5) (laidRow f k)) ∧ Hid (Below w.heap.size w wx))
          (fun i _ => k - (intOf i).toNat)
        case atStart => exact ⟨0, Nat.zero_le _, rfl, rowIs_drewN HR1.out q, rowIs_drewN HR2.out q, below_drewN HB.out q⟩
        case round =>
          obtain ⟨j, hj, rfl, R1, R2, BB⟩ := hrel
          by_cases hjk : j < k
          · have hjk1 : (j : Int) < (k : Int) := by omega
            have hj0 : (0 : Int) ≤ (j : Int) := by omega
            have p0 : wr.cell? ⟨w.heap.size, j * 5, none⟩ = some (.int .i32 (f (j * 5))) := by rw [R1.out.cell (by omega), laid_lo _ _ _ (by omega)]
            have p1 : wr.cell? ⟨w.heap.size, j * 5 + 1, none⟩ = some (.int .i32 (f (j * 5 + 1))) := by rw [R1.out.cell (by omega), laid_lo _ _ _ (by omega)]
            have p2 : wr.cell? ⟨w.heap.size, j * 5 + 2, none⟩ = some (.int .i32 (f (j * 5 + 2))) := by rw [R1.out.cell (by omega), laid_lo _ _ _ (by omega)]
            have p3 : wr.cell? ⟨w.heap.size, j * 5 + 3, none⟩ = some (.int .i32 (f (j * 5 + 3))) := by rw [R1.out.cell (by omega), laid_lo _ _ _ (by omega)]
            have p4 : wr.cell? ⟨w.heap.size, j * 5 + 4, none⟩ = some (.int .i32 (f (j * 5 + 4))) := by rw [R1.out.cell (by omega), laid_lo _ _ _ (by omega)]
            have q0 : wr.cell? ⟨w.heap.size + 1, j * 5, none⟩ = some (.int .i32 (f (j * 5))) := by rw [R2.out.cell (by omega), laid_lo _ _ _ (by omega)]
            have q1 : wr.cell? ⟨w.heap.size + 1, j * 5 + 1, none⟩ = some (.int .i32 (f (j * 5 + 1))) := by rw [R2.out.cell (by omega), laid_lo _ _ _ (by omega)]
            have q2 : wr.cell? ⟨w.heap.size + 1, j * 5 + 2, none⟩ = some (.int .i32 (f (j * 5 + 2))) := by rw [R2.out.cell (by omega), laid_lo _ _ _ (by omega)]
            have q3 : wr.cell? ⟨w.heap.size + 1, j * 5 + 3, none⟩ = some (.int .i32 (f (j * 5 + 3))) := by rw [R2.out.cell (by omega), laid_lo _ _ _ (by omega)]
            have q4 : wr.cell? ⟨w.heap.size + 1, j * 5 + 4, none⟩ = some (.int .i32 (f (j * 5 + 4))) := by rw [R2.out.cell (by omega), laid_lo _ _ _ (by omega)]
            have hne := run_neq28
            go_wp2
            go_quiet (fail)
            go_wp2
            go_roundw
            case rel => go_light; exact ⟨j + 1, by omega, by go_num, rowIs_drewN R1.out _, rowIs_drewN R2.out _, below_drewN BB.out _⟩
            case measure => simp [intOf]; omega
          · go_wp2
            go_ret
            exact ⟨rfl, BB.out⟩
      · have c0 : w3.cell? ⟨b, off + t * 5, none⟩ = some (.int .i32 (f (t * 5))) := (HB.out.cell (p := ⟨b, off + t * 5, none⟩) hb).trans (hc (t * 5) (by omega))
        have c1 : w3.cell? ⟨b, off + (t + 1) * 5, none⟩ = some (.int .i32 (f ((t + 1) * 5))) := (HB.out.cell (p := ⟨b, off + (t + 1) * 5, none⟩) hb).trans (hc ((t + 1) * 5) (by omega))
        have d0 : w3.cell? ⟨w.heap.size, t * 5, none⟩ = some (.int .i32 (f (t * 5))) := by rw [HR1.out.cell (by omega), laid_lo _ _ _ (by omega)]
        have d1 : w3.cell? ⟨w.heap.size, (t + 1) * 5, none⟩ = some (.int .i32 (f ((t + 1) * 5))) := by rw [HR1.out.cell (by omega), laid_lo _ _ _ (by omega)]
        rw [show (((t + 1 : Nat) : Int)) = (t : Int) + 1 from by omega]
        have ht1 : (t : Int) + 1 < (k : Int) := by omega
        have ht0 : (0 : Int) ≤ (t : Int) := by omega
        have ht2 : ((t : Int) + 1 == 0) = false := beq_eq_false_iff_ne.2 (by omega)
        refine (nameAt_pos _ _ t (f (t * 5)) (f ((t + 1) * 5)) _ htk hn d0 d1).mono ?_
        rintro e w4 ⟨rfl, q, rfl⟩
        go_wp2
        go_loopw [101] (fun i wx => ∃ j : Nat, j ≤ k ∧ i = .int .i64 j ∧ Hid (wx.rowIs w.heap.size 28 (k * 5) (laidRow f k)) ∧ Hid (wx.rowIs (w.heap.size + 1) 28 (k * 5) (laidRow f k)) ∧ Hid (Below w.heap.size w wx))
          (fun i _ => k - (intOf i).toNat)
        case atStart => exact ⟨0, Nat.zero_le _, rfl, rowIs_drewN HR1.out q, rowIs_drewN HR2.out q, below_drewN HB.out q⟩
        case round =>
          obtain ⟨j, hj, rfl, R1, R2, BB⟩ := hrel
          by_cases hjk : j < k
          · have hjk1 : (j : Int) < (k : Int) := by omega
            have hj0 : (0 : Int) ≤ (j : Int) := by omega
            have p0 : wr.cell? ⟨w.heap.size, j * 5, none⟩ = some (.int .i32 (f (j * 5))) := by rw [R1.out.cell (by omega), laid_lo _ _ _ (by omega)]
            have p1 : wr.cell? ⟨w.heap.size, j * 5 + 1, none⟩ = some (.int .i32 (f (j * 5 + 1))) := by rw [R1.out.cell (by omega), laid_lo _ _ _ (by omega)]
            have p2 : wr.cell? ⟨w.heap.size, j * 5 + 2, none⟩ = some (.int .i32 (f (j * 5 + 2))) := by rw [R1.out.cell (by omega), laid_lo _ _ _ (by omega)]
            have p3 : wr.cell? ⟨w.heap.size, j * 5 + 3, none⟩ = some (.int .i32 (f (j * 5 + 3))) := by rw [R1.out.cell (by omega), laid_lo _ _ _ (by omega)]
            have p4 : wr.cell? ⟨w.heap.size, j * 5 + 4, none⟩ = some (.int .i32 (f (j * 5 + 4))) := by rw [R1.out.cell (by omega), laid_lo _ _ _ (by omega)]
            have q0 : wr.cell? ⟨w.heap.size + 1, j * 5, none⟩ = some (.int .i32 (f (j * 5))) := by rw [R2.out.cell (by omega), laid_lo _ _ _ (by omega)]
            have q1 : wr.cell? ⟨w.heap.size + 1, j * 5 + 1, none⟩ = some (.int .i32 (f (j * 5 + 1))) := by rw [R2.out.cell (by omega), laid_lo _ _ _ (by omega)]
            have q2 : wr.cell? ⟨w.heap.size + 1, j * 5 + 2, none⟩ = some (.int .i32 (f (j * 5 + 2))) := by rw [R2.out.cell (by omega), laid_lo _ _ _ (by omega)]
            have q3 : wr.cell? ⟨w.heap.size + 1, j * 5 + 3, none⟩ = some (.int .i32 (f (j * 5 + 3))) := by rw [R2.out.cell (by omega), laid_lo _ _ _ (by omega)]
            have q4 : wr.cell? ⟨w.heap.size + 1, j * 5 + 4, none⟩ = some (.int .i32 (f (j * 5 + 4))) := by rw [R2.out.cell (by omega), laid_lo _ _ _ (by omega)]
            have hne := run_neq28
            go_wp2
            go_quiet (fail)
            go_wp2
            go_roundw
            case rel => go_light; exact ⟨j + 1, by omega, by go_num, rowIs_drewN R1.out _, rowIs_drewN R2.out _, below_drewN BB.out _⟩
            case measure => simp [intOf]; omega
          · go_wp2
            go_ret
            exact ⟨rfl, BB.out⟩
end Go.Proofs.Ybulkdsyu
