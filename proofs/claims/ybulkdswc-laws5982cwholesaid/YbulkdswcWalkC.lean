import Derived.Test.YbulkdswcParts
import Derived.BigRegion
namespace Go.Proofs.Ybulkdswc
open Go Go.RowKit Go.Sort

theorem run_store_float {P : Program} (w : World) (a : Addr) (m : Mode) (k : FloatKind) (n : Nat) : (store a (.float k n) m).run P w = stored P w a (.float k n) m := run_store P w a _ m rfl
attribute [local go_sem] run_store_float

set_option maxHeartbeats 2000000 in
set_option maxRecDepth 100000 in
theorem walkC (b off n cap : Nat) (zs : List Int) (t : Int) (pk : Nat) (w : World) (hn0 : 0 < n) (hn : n ≤ 1048576) (hz : n ≤ zs.length)
    (hc : ∀ j, j < zs.length → w.cell? ⟨b, off + j, none⟩ = some (.int .i64 (zs.getD j 0)))
    (hp1 : pk ≤ 255) :
    Calls Yba.prog 3 #[.slice (some ⟨b, off, none⟩) n cap, .int .i64 t, .int .u8 pk] w fun e w' => e = .returned (.bool true) ∧ Below w.heap.size w w' := by
  have hlen : (zs.take n).length = n := by simp; omega
  have hclone := Yba.slices_Clone_int b off n cap zs w hz (by omega) hc
  have hmk := run_make29 n hn
  clear hc
  go_enter Yba.func3, Yba.ntmps3
  go_wp2_with fail
  refine hclone.mono ?_
  rintro e w1 ⟨v, rfl, hown, hnn, hb1⟩
  rcases hown.2 with ⟨hnil, _⟩ | ⟨g, cap', cur, hv, hbase, hblk, h1, h2, h3, h4⟩
  · exact absurd hnil hnn
  rw [hv]
  have hH : Holds (Value.int .i64) w1 g 0 (zs.take n).toArray := holds_of_blockI hblk (by rw [hlen]; simpa using h4)
  have hsort := Yba.slices_Sort_int g 0 cap' (zs.take n) w1 hH (Array.getElem?_eq_some_iff.1 hblk).1 (by omega)
  rw [hlen] at hsort
  clear hclone hown hnn hv
  go_wp2_with fail
  refine hsort.mono ?_
  rintro e w2 ⟨rfl, q, os, hw2⟩
  obtain ⟨hcell, hb2, hg2⟩ := after_sort hlen hbase hb1 hblk h1 h2 h3 hw2
  have hmono : ∀ a b, a ≤ b → b < n → (srt (zs.take n)).getD a 0 ≤ (srt (zs.take n)).getD b 0 := fun a b h1 h2 => srt_mono _ a b h1 (by omega)
  generalize hS : (fun j => (srt (zs.take n)).getD j 0) = s
  have hcell' : ∀ j, j < n → w2.cell? ⟨g, j, none⟩ = some (.int .i64 (s j)) := fun j hj => by rw [hcell j hj, ← hS]
  have hmono' : ∀ a b, a ≤ b → b < n → s a ≤ s b := fun a b h1 h2 => by rw [← hS]; exact hmono a b h1 h2
  clear hsort hH hw2 hcell hmono hS hblk h1 h2 h3 h4 hb1 hlen hz
  have HC : Hid (∀ j, j < n → w2.cell? ⟨g, j, none⟩ = some (.int .i64 (s j))) := hcell'
  have HM : Hid (∀ a b, a ≤ b → b < n → s a ≤ s b) := hmono'
  have HB2 : Hid (Below w.heap.size w w2) := hb2
  clear hcell' hmono' hb2
  go_wp2
  go_loopw [9] (fun i wr => ∃ k : Nat, k ≤ n ∧ i = .int .i64 k ∧ Hid (wr.rowIs w2.heap.size 29 (n * 2) (laidP s (fun i => floatOfInt .f64 (i : Int)) k) ∧ Below w2.heap.size w2 wr ∧ wr.heap.size = w2.heap.size + 1))
    (fun i _ => n - (intOf i).toNat)
  case atStart => exact ⟨0, Nat.zero_le _, rfl, ⟨_, heap_alloc_new _ _, zrow_size n, fun i hi => zrow_at _ _ _ _ hi⟩, (Below.refl _ _).alloc (Nat.le_refl _) _, by simp⟩
  case round =>
    obtain ⟨k, hk, rfl, H⟩ := hrel
    by_cases hlt : k < n
    · have hk1 : (k : Int) < (n : Int) := by omega
      have hk0 : (0 : Int) ≤ (k : Int) := by omega
      have c0 : wr.cell? ⟨g, k, none⟩ = some (.int .i64 (s k)) := (H.out.2.1.cell (p := ⟨g, k, none⟩) hg2).trans (HC.out k hlt)
      have g0 : wr.cell? ⟨w2.heap.size, k * 2, none⟩ = some (.int .i64 0) := by rw [H.out.1.cell (by omega), laid_hi _ _ _ _ (by omega), pts_even]
      have g1 : wr.cell? ⟨w2.heap.size, k * 2 + 1, none⟩ = some (.float .f64 0) := by rw [H.out.1.cell (by omega), laid_hi _ _ _ _ (by omega), pts_odd]
      have z0 : wr.frozen? ⟨w2.heap.size, k * 2, none⟩ = false := H.out.1.frozen _
      have z1 : wr.frozen? ⟨w2.heap.size, k * 2 + 1, none⟩ = false := H.out.1.frozen _
      go_wp2
      go_roundw
      case rel => go_light; exact ⟨k + 1, by omega, by go_num, row_step H.out.1, (H.out.2.1.setCell (Nat.le_refl _) _).setCell (Nat.le_refl _) _, by simpa using H.out.2.2⟩
      case measure => simp [intOf]; omega
    · obtain rfl : k = n := by omega
      have hrow : wr.rowIs w2.heap.size 29 (k * 2) (pts s (fun i => floatOfInt .f64 (i : Int))) := H.out.1.congr fun i hi => laid_lo _ _ _ _ hi
      obtain ⟨w3, hcopy, r1, r2, hb3⟩ := run_copyC hrow
      have HB : Hid (Below w.heap.size w w3) := (HB2.out.trans (H.out.2.1.mono HB2.out.size)).trans (hb3.mono (by have := HB2.out.size; have := H.out.2.2; omega))
      have HR1 : Hid (w3.rowIs w2.heap.size 29 (k * 2) (pts s (fun i => floatOfInt .f64 (i : Int)))) := r1
      have HR2 : Hid (w3.rowIs wr.heap.size 29 (k * 2) (pts s (fun i => floatOfInt .f64 (i : Int)))) := r2
      have HG : Hid (∀ j, j < k → wr.cell? ⟨g, j, none⟩ = some (.int .i64 (s j))) := fun j hj => (H.out.2.1.cell (p := ⟨g, j, none⟩) hg2).trans (HC.out j hj)
      clear r1 r2 hrow hb3 H HC
      have hk0 : (0 : Int) < (k : Int) := by omega
      have hflt : ∀ i : Nat, FloatKind.f64.format.order (floatOfInt .f64 (i : Int)) (floatOfInt .f64 (i : Int)) = some .eq := fun i => order_nearest i
      have HF : Hid (∀ i : Nat, FloatKind.f64.format.order (floatOfInt .f64 (i : Int)) (floatOfInt .f64 (i : Int)) = some .eq) := hflt
      clear hflt
      have m0 : 0 ≤ (pk : Int) / 2 % (k : Int) := Int.emod_nonneg _ (by omega)
      have m1 : (pk : Int) / 2 % (k : Int) < (k : Int) := Int.emod_lt_of_pos _ (by omega)
      have ci : wr.cell? ⟨g, pk / 2 % k, none⟩ = some (.int .i64 (s (pk / 2 % k))) := HG.out _ (Nat.mod_lt _ hn0)
      have hparts : pk % 2 = 1 ∨ ¬ pk % 2 = 1 := Decidable.em _
      rcases hparts with hpk | hpk
      · have e1 : ((pk : Int) % 2 == 1) = true := beq_iff_eq.2 (by omega)
        go_wp2_with fail
        refine (index_any w2.heap.size k _ s _ _ hn HR1.out HM.out).mono ?_
        rintro e w5 ⟨i0, hi0, rfl, hlo, hhi, hb5⟩
        have HB5 : Hid (Below w.heap.size w w5) := HB.out.trans (hb5.mono HB.out.size)
        have R1 : Hid (w5.rowIs w2.heap.size 29 (k * 2) (pts s (fun i => floatOfInt .f64 (i : Int)))) := HR1.out.of_block (hb5.block _ HR1.out.lt)
        have R2 : Hid (w5.rowIs wr.heap.size 29 (k * 2) (pts s (fun i => floatOfInt .f64 (i : Int)))) := HR2.out.of_block (hb5.block _ HR2.out.lt)
        have HLO : Hid (∀ a, a < i0 → s a < s (pk / 2 % k)) := hlo
        have HHI : Hid (∀ a, i0 ≤ a → a < k → s (pk / 2 % k) ≤ s a) := hhi
        clear hlo hhi hb5 HR1 HR2 hcopy ci m0 m1 HG hmk HB
        go_wp2
        go_loop [12, 13] (fun vw vi => ∃ m j : Nat, j ≤ k ∧ m ≤ j ∧ vi = .int .i64 j ∧ vw = .int .i64 m ∧ Hid (m = min j i0)) (fun _ vi => k - (intOf vi).toNat)
        case atStart => exact ⟨0, 0, Nat.zero_le _, Nat.le_refl _, rfl, rfl, show 0 = min 0 i0 by omega⟩
        case round =>
          obtain ⟨m, j, hj, hmj, rfl, rfl, HMJ⟩ := hrel
          by_cases hjk : j < k
          · have hj1 : (j : Int) < (k : Int) := by omega
            have hj0 : (0 : Int) ≤ (j : Int) := by omega
            have hm1 : (m : Int) ≤ (j : Int) := by omega
            have hm0 : (0 : Int) ≤ (m : Int) := by omega
            have c0 : w5.cell? ⟨wr.heap.size, j * 2, none⟩ = some (.int .i64 (s j)) := by rw [R2.out.cell (by omega), pts_even]
            by_cases hst : s j < s (pk / 2 % k)
            · have hji : j < i0 := by
                rcases Nat.lt_or_ge j i0 with h | h
                · exact h
                · have := HHI.out j h hjk; omega
              go_wp2
              go_round
              case rel => go_light; exact ⟨m + 1, j + 1, by omega, by omega, by go_num, by go_num, show m + 1 = min (j + 1) i0 by have := HMJ.out; omega⟩
              case measure => simp [intOf]; omega
            · have hji : i0 ≤ j := by
                rcases Nat.lt_or_ge j i0 with h | h
                · exact absurd (HLO.out j h) hst
                · exact h
              go_wp2
              go_round
              case rel => go_light; exact ⟨m, j + 1, by omega, by omega, by go_num, rfl, show m = min (j + 1) i0 by have := HMJ.out; omega⟩
              case measure => simp [intOf]; omega
          · obtain rfl : j = k := by omega
            obtain rfl : m = i0 := by have := HMJ.out; omega
            clear HMJ HLO HHI hmj
            go_wp2
            obtain ⟨wo, rfl⟩ : ∃ wo : World, wo = wr := ⟨_, rfl⟩
            go_loopw [14] (fun vi wx => ∃ l : Nat, l ≤ j ∧ vi = .int .i64 l ∧ Hid (wx.rowIs w2.heap.size 29 (j * 2) (pts s (fun i => floatOfInt .f64 (i : Int))) ∧ wx.rowIs wo.heap.size 29 (j * 2) (pts s (fun i => floatOfInt .f64 (i : Int))) ∧ Below w.heap.size w wx))
              (fun vi _ => j - (intOf vi).toNat)
            case atStart => exact ⟨0, Nat.zero_le _, rfl, R1.out, R2.out, HB5.out⟩
            case round =>
              obtain ⟨l, hl, rfl, HX⟩ := hrel
              by_cases hlj : l < j
              · have hl1 : (l : Int) < (j : Int) := by omega
                have hl0 : (0 : Int) ≤ (l : Int) := by omega
                have p0 : wr.cell? ⟨w2.heap.size, l * 2, none⟩ = some (.int .i64 (s l)) := by rw [HX.out.1.cell (by omega), pts_even]
                have p1 : wr.cell? ⟨w2.heap.size, l * 2 + 1, none⟩ = some (.float .f64 (floatOfInt .f64 (l : Int))) := by rw [HX.out.1.cell (by omega), pts_odd]
                have q0 : wr.cell? ⟨wo.heap.size, l * 2, none⟩ = some (.int .i64 (s l)) := by rw [HX.out.2.1.cell (by omega), pts_even]
                have q1 : wr.cell? ⟨wo.heap.size, l * 2 + 1, none⟩ = some (.float .f64 (floatOfInt .f64 (l : Int))) := by rw [HX.out.2.1.cell (by omega), pts_odd]
                have hf := HF.out l
                go_wp2
                go_quiet (fail)
                go_wp2
                go_roundw
                case rel => go_light; exact ⟨l + 1, by omega, by go_num, rowIs_drewN HX.out.1 _, rowIs_drewN HX.out.2.1 _, below_drewN HX.out.2.2 _⟩
                case measure => simp [intOf]; omega
              · go_wp2
                go_ret
                exact ⟨rfl, HX.out.2.2⟩
      · have e1 : ((pk : Int) % 2 == 1) = false := beq_eq_false_iff_ne.2 (by omega)
        go_wp2_with fail
        refine (index_any w2.heap.size k _ s _ _ hn HR1.out HM.out).mono ?_
        rintro e w5 ⟨i0, hi0, rfl, hlo, hhi, hb5⟩
        have HB5 : Hid (Below w.heap.size w w5) := HB.out.trans (hb5.mono HB.out.size)
        have R1 : Hid (w5.rowIs w2.heap.size 29 (k * 2) (pts s (fun i => floatOfInt .f64 (i : Int)))) := HR1.out.of_block (hb5.block _ HR1.out.lt)
        have R2 : Hid (w5.rowIs wr.heap.size 29 (k * 2) (pts s (fun i => floatOfInt .f64 (i : Int)))) := HR2.out.of_block (hb5.block _ HR2.out.lt)
        have HLO : Hid (∀ a, a < i0 → s a < t) := hlo
        have HHI : Hid (∀ a, i0 ≤ a → a < k → t ≤ s a) := hhi
        clear hlo hhi hb5 HR1 HR2 hcopy ci m0 m1 HG hmk HB
        go_wp2
        go_loop [12, 13] (fun vw vi => ∃ m j : Nat, j ≤ k ∧ m ≤ j ∧ vi = .int .i64 j ∧ vw = .int .i64 m ∧ Hid (m = min j i0)) (fun _ vi => k - (intOf vi).toNat)
        case atStart => exact ⟨0, 0, Nat.zero_le _, Nat.le_refl _, rfl, rfl, show 0 = min 0 i0 by omega⟩
        case round =>
          obtain ⟨m, j, hj, hmj, rfl, rfl, HMJ⟩ := hrel
          by_cases hjk : j < k
          · have hj1 : (j : Int) < (k : Int) := by omega
            have hj0 : (0 : Int) ≤ (j : Int) := by omega
            have hm1 : (m : Int) ≤ (j : Int) := by omega
            have hm0 : (0 : Int) ≤ (m : Int) := by omega
            have c0 : w5.cell? ⟨wr.heap.size, j * 2, none⟩ = some (.int .i64 (s j)) := by rw [R2.out.cell (by omega), pts_even]
            by_cases hst : s j < t
            · have hji : j < i0 := by
                rcases Nat.lt_or_ge j i0 with h | h
                · exact h
                · have := HHI.out j h hjk; omega
              go_wp2
              go_round
              case rel => go_light; exact ⟨m + 1, j + 1, by omega, by omega, by go_num, by go_num, show m + 1 = min (j + 1) i0 by have := HMJ.out; omega⟩
              case measure => simp [intOf]; omega
            · have hji : i0 ≤ j := by
                rcases Nat.lt_or_ge j i0 with h | h
                · exact absurd (HLO.out j h) hst
                · exact h
              go_wp2
              go_round
              case rel => go_light; exact ⟨m, j + 1, by omega, by omega, by go_num, rfl, show m = min (j + 1) i0 by have := HMJ.out; omega⟩
              case measure => simp [intOf]; omega
          · obtain rfl : j = k := by omega
            obtain rfl : m = i0 := by have := HMJ.out; omega
            clear HMJ HLO HHI hmj
            go_wp2
            obtain ⟨wo, rfl⟩ : ∃ wo : World, wo = wr := ⟨_, rfl⟩
            go_loopw [14] (fun vi wx => ∃ l : Nat, l ≤ j ∧ vi = .int .i64 l ∧ Hid (wx.rowIs w2.heap.size 29 (j * 2) (pts s (fun i => floatOfInt .f64 (i : Int))) ∧ wx.rowIs wo.heap.size 29 (j * 2) (pts s (fun i => floatOfInt .f64 (i : Int))) ∧ Below w.heap.size w wx))
              (fun vi _ => j - (intOf vi).toNat)
            case atStart => exact ⟨0, Nat.zero_le _, rfl, R1.out, R2.out, HB5.out⟩
            case round =>
              obtain ⟨l, hl, rfl, HX⟩ := hrel
              by_cases hlj : l < j
              · have hl1 : (l : Int) < (j : Int) := by omega
                have hl0 : (0 : Int) ≤ (l : Int) := by omega
                have p0 : wr.cell? ⟨w2.heap.size, l * 2, none⟩ = some (.int .i64 (s l)) := by rw [HX.out.1.cell (by omega), pts_even]
                have p1 : wr.cell? ⟨w2.heap.size, l * 2 + 1, none⟩ = some (.float .f64 (floatOfInt .f64 (l : Int))) := by rw [HX.out.1.cell (by omega), pts_odd]
                have q0 : wr.cell? ⟨wo.heap.size, l * 2, none⟩ = some (.int .i64 (s l)) := by rw [HX.out.2.1.cell (by omega), pts_even]
                have q1 : wr.cell? ⟨wo.heap.size, l * 2 + 1, none⟩ = some (.float .f64 (floatOfInt .f64 (l : Int))) := by rw [HX.out.2.1.cell (by omega), pts_odd]
                have hf := HF.out l
                go_wp2
                go_quiet (fail)
                go_wp2
                go_roundw
                case rel => go_light; exact ⟨l + 1, by omega, by go_num, rowIs_drewN HX.out.1 _, rowIs_drewN HX.out.2.1 _, below_drewN HX.out.2.2 _⟩
                case measure => simp [intOf]; omega
              · go_wp2
                go_ret
                exact ⟨rfl, HX.out.2.2⟩
end Go.Proofs.Ybulkdswc
