import Derived.Test.YbulkdswcParts
namespace Go.Proofs.Ybulkdswc
open Go Go.RowKit Go.Sort

theorem clone0 (a0 : Option Addr) (cap : Nat) (w : World) : Calls Yba.prog 4 #[.slice a0 0 cap] w fun e w' => ∃ p c, e = .returned (.slice p 0 c) ∧ Below w.heap.size w w' := by
  cases a0 with
  | none =>
    refine (Yba.slices_Clone_int_nil 0 cap w).mono ?_
    rintro e w' ⟨rfl, rfl⟩
    exact ⟨none, 0, rfl, Below.refl _ _⟩
  | some a =>
    refine (Yba.slices_Clone_int_zero a cap w).mono ?_
    rintro e w' ⟨v, rfl, hown, hnn, hb⟩
    rcases hown.2 with ⟨hnil, _⟩ | ⟨g, cap', cur, hv, _⟩
    · exact absurd hnil hnn
    · subst hv
      exact ⟨_, cap', rfl, hb⟩

set_option maxHeartbeats 2000000 in
set_option maxRecDepth 100000 in
theorem walk0 (a0 : Option Addr) (cap : Nat) (t : Int) (pk : Nat) (w : World) (hp1 : pk ≤ 255) :
    Calls Yba.prog 3 #[.slice a0 0 cap, .int .i64 t, .int .u8 pk] w fun e w' => e = .returned (.bool true) ∧ Below w.heap.size w w' := by
  have hmk := run_make29 0 (by decide)
  simp only [Int.ofNat_zero] at hmk
  have hparts : pk % 2 = 1 ∨ ¬ pk % 2 = 1 := Decidable.em _
  go_enter Yba.func3, Yba.ntmps3
  go_wp2_with fail
  refine (clone0 a0 cap w).mono ?_
  rintro e w1 ⟨p, c, rfl, hb1⟩
  go_wp2_with fail
  refine (Yba.slices_Sort_int_none p c w1).mono ?_
  rintro e w2 ⟨rfl, rfl⟩
  have hrow : (w2.alloc (.cells (zrow 0) 29)).rowIs w2.heap.size 29 (0 * 2) (pts (fun _ => 0) (fun _ => 0)) := ⟨_, heap_alloc_new _ _, zrow_size 0, fun i hi => absurd hi (by omega)⟩
  obtain ⟨w3, hcopy, r1, r2, hb3⟩ := run_copyC (n := 0) hrow
  have HB : Hid (Below w.heap.size w w3) := (hb1.alloc hb1.size _).trans (hb3.mono (by have := hb1.size; simp; omega))
  have HR : Hid (w3.rowIs w2.heap.size 29 (0 * 2) (pts (fun _ => 0) (fun _ => 0))) := r1
  simp only [World.size_alloc, Int.ofNat_zero] at hcopy
  clear hrow r1 r2 hb3 hb1
  rcases hparts with hpk | hpk
  all_goals
    first
    | have e1 : ((pk : Int) % 2 == 1) = true := beq_iff_eq.2 (by omega)
    | have e1 : ((pk : Int) % 2 == 1) = false := beq_eq_false_iff_ne.2 (by omega)
    go_wp2
    refine wp_loop_rounds 1 ?_
    rw [rounds_succ]
    go_wp2_with fail
    refine (index_any w2.heap.size 0 t (fun _ => 0) _ _ (by decide) HR.out (fun a b _ h => absurd h (by omega))).mono ?_
    rintro e w5 ⟨i0, hi0, rfl, _, _, hb5⟩
    obtain rfl : i0 = 0 := by omega
    have HB5 : Hid (Below w.heap.size w w5) := HB.out.trans (hb5.mono HB.out.size)
    clear hb5
    go_wp2
    refine wp_loop_rounds 1 ?_
    rw [rounds_succ]
    go_wp2
    refine wp_loop_rounds 1 ?_
    rw [rounds_succ]
    go_wp2
    go_ret
    exact ⟨rfl, HB5.out⟩

set_option maxHeartbeats 1000000 in
theorem walkBig (a : Option Addr) (len cap : Nat) (t pk : Int) (w : World) (h : 1048576 < len) :
    Calls Yba.prog 3 #[.slice a len cap, .int .i64 t, .int .u8 pk] w fun e w' => e = .returned (.bool true) ∧ Below w.heap.size w w' := by
  have h1 : (1048576 : Int) < (len : Int) := by omega
  go_enter Yba.func3, Yba.ntmps3
  go_wp2
  go_ret
  exact ⟨rfl, Below.refl _ _⟩
end Go.Proofs.Ybulkdswc
