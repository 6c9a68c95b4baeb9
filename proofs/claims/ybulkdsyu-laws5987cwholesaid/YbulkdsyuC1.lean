import Derived.Test.YbulkdsyuB1
import Derived.Test.YbulkdsyuShelf
import Derived.Test.YbulkdsyuIter
import Derived.Shelf.SlIterI.Sorted
import Derived.ProofKit
namespace Go.Proofs.Ybulkdsyu
open Go Go.RowKit Go.Maps Go.Sort Go.Shelf

set_option maxRecDepth 100000 in
set_option maxHeartbeats 1000000 in
/-- The iterator of slices.Values: the elements come in order, for every body that keeps the slice's cells. -/
theorem values1 (n : Nat) (hn : 1 ≤ n) (l Bm : Nat) (p : Option Addr) (len cap : Nat) (xs : List Int) (hlen : xs.length = len) (hbig : len ≤ 1048576) (J : List Int → World → Prop)
    (hJc : ∀ pre W, J pre W → ∀ i, i < len → ∃ a, p = some a ∧ W.cell? (a.add i) = some (.int .i64 (xs.getD i 0)))
    (hY : ∀ pre x W, J pre W → pre.length < len → YieldAt Fence.wide (n - 1) Yba.prog l #[encZ x] W fun e W' => e = .returned (.bool true) ∧ J (pre ++ [x]) W' ∧ KeepsWalks W W')
    (W : World) (hm : W.cell? ⟨Bm, 0, none⟩ = some (.slice p len cap)) (h0 : J [] W) :
    CallsIn Fence.wide n Yba.prog 23 #[.func (.yield l) #[] #[], .pointer (some ⟨Bm, 0, none⟩)] W fun e W' => (∃ v, e = .returned v) ∧ J xs W' := by
  refine callsIn_of_wp Yba.func23 rfl trivial ?_ rfl
  simp only [Yba.ntmps23, List.size_toArray, List.length_cons, List.length_nil, Nat.reduceAdd, Nat.reduceSub, Array.replicate_succ, Array.replicate_zero, List.push_toArray, List.append_toArray, List.nil_append, List.cons_append]
  have hl1 : (len : Int) ≤ 1048576 := by omega
  gi_wp2
  gi_loopw [7] (fun vi wr => ∃ k : Nat, k ≤ len ∧ vi = .int .i64 k ∧ J (xs.take k) wr) (fun vi _ => len - (RowKit.intOf vi).toNat)
  case atStart => exact ⟨0, Nat.zero_le _, rfl, h0⟩
  case round =>
    obtain ⟨k, hk, rfl, hJ⟩ := hrel
    have hk0 : (0 : Int) ≤ (k : Int) := by omega
    by_cases hkn : k < len
    · have hk1 : (k : Int) < (len : Int) := by omega
      obtain ⟨a, rfl, c0⟩ := hJc _ _ hJ k hkn
      have hxk : xs.take (k + 1) = xs.take k ++ [xs.getD k 0] := by
        rw [List.take_add_one, List.getElem?_eq_getElem (by omega)]
        simp [List.getElem?_eq_getElem (show k < xs.length by omega)]
      generalize xs.getD k 0 = x at c0 hxk
      obtain ⟨fn, tmps, assign, body, hy, hR⟩ := hY (xs.take k) x wr hJ (by simp; omega)
      rw [← hxk] at hR
      clear hxk
      simp only [encZ] at hy
      gi_wp2
      refine hR.mono ?_
      rintro e W3 ⟨rfl, hJ3, hk3⟩
      gi_wp2
      go_roundw
      case rel =>
        exact ⟨k + 1, by omega, by go_num, hJ3⟩
      case measure => simp [RowKit.intOf]; omega
    · have hk1 : ¬ (k : Int) < (len : Int) := by omega
      have hke : k = xs.length := by omega
      gi_wp2
      go_end0
      subst hke
      rw [List.take_length] at hJ
      exact ⟨⟨_, rfl⟩, hJ⟩

set_option maxRecDepth 100000 in
set_option maxHeartbeats 2000000 in
/-- slices.AppendSeq(nil, slices.Values(xs)). -/
theorem appendSeq_values (n : Nat) (hn : 2 ≤ n) (Bm : Nat) (p : Option Addr) (len cap : Nat) (xs : List Int) (hlen : xs.length = len) (hbig : len ≤ 1048576) (w : World) (hBm : Bm < w.heap.size)
    (hm : w.cell? ⟨Bm, 0, none⟩ = some (.slice p len cap)) (hc : ∀ i, i < len → ∃ a, p = some a ∧ a.block < w.heap.size ∧ w.cell? (a.add i) = some (.int .i64 (xs.getD i 0))) :
    CallsIn Fence.wide n Yba.prog 24 #[.slice none 0 0, .func (.func 23) #[] #[.pointer (some ⟨Bm, 0, none⟩)]] w fun e w' => ∃ (v : Value), e = .returned v ∧
      w'.ownsRow w.heap.size 3 1 v xs.length (xs.map encZ) ∧ (v = .slice none 0 0 ↔ xs = []) ∧ Below w.heap.size w w' := by
  have L := Yba.laysSlZI6
  have hne : (55 : TypeId) ≠ 3 := by decide
  refine callsIn_of_wp_marks Yba.func24 rfl trivial ?_ rfl
  simp only [Yba.ntmps24, List.size_toArray, List.length_cons, List.length_nil, Nat.reduceAdd, Nat.reduceSub, Array.replicate_succ, Array.replicate_zero, List.push_toArray, List.append_toArray, List.nil_append, List.cons_append]
  gi_wp2
  refine wpIn_rangeFunc ?_
  intro fn hfn
  obtain ⟨W0, hW0⟩ : ∃ W0, w.alloc (.cells #[.slice none 0 0] 55) = W0 := ⟨_, rfl⟩
  have hs0 : W0.heap.size = w.heap.size + 1 := by rw [← hW0]; simp
  have hv0 : W0.heap[w.heap.size]? = some (.cells #[.slice none 0 0] 55 (0, 0)) := by rw [← hW0]; exact World.alloc_heap_new w _
  have hb0 : Below w.heap.size w W0 := by rw [← hW0]; exact (Below.refl _ w).alloc (Nat.le_refl _) _
  rw [hW0]
  let sv : Value := .func (.func 23) #[] #[.pointer (some ⟨Bm, 0, none⟩)]
  obtain ⟨W1, hW1⟩ : ∃ W1, (W0.alloc (.deferred (some []))).alloc (.loop (AnyZI.apRec Yba.laysSlZI6_ren fn sv w.heap.size W0.heap.size .ready none)) = W1 := ⟨_, rfl⟩
  have hold : ∀ k, k < W0.heap.size → W1.heap[k]? = W0.heap[k]? := fun k hk => by
    rw [← hW1]; exact (Below.heap_alloc _ _ k (by simp; omega)).trans (Below.heap_alloc _ _ k hk)
  have hb1 : Below w.heap.size w W1 := by rw [← hW1]; exact (hb0.alloc hb0.size _).alloc (by have := hb0.size; simp; omega) _
  have hM : AnyZI.ApAt Yba.laysSlZI6_ren w fn sv w.heap.size (W0.heap.size + 1) W0.heap.size [] W1 :=
    ⟨⟨_, (hold w.heap.size (by omega)).trans hv0, ⟨rfl, .inl ⟨rfl, rfl⟩⟩, by simp⟩,
     by rw [← hW1]; have := World.alloc_heap_new (W0.alloc (.deferred (some []))) (.loop (AnyZI.apRec Yba.laysSlZI6_ren fn sv w.heap.size W0.heap.size .ready none)); rwa [World.size_alloc] at this,
     by rw [← hW1]; exact (Below.heap_alloc _ _ _ (by simp)).trans (World.alloc_heap_new W0 _), hb1⟩
  refine ⟨W0.heap.size + 1, [{ target := .collected W0.heap.size, args := #[] }], W1, { target := .fn (.func 23) #[.pointer (some ⟨Bm, 0, none⟩)], args := #[.func (.yield (W0.heap.size + 1)) #[] #[]] }, W1, 23,
    #[.func (.yield (W0.heap.size + 1)) #[] #[], .pointer (some ⟨Bm, 0, none⟩)], W1, ?_, ?_, ?_, ?_, fun _ => by omega, ?_⟩
  · rw [← hW1]; exact run_enterLoop_outer _ _ _ _ _
  · simp [resolve, go_sem]
  · intro f' hf'; trivial
  · simp [invoke, go_sem]
  · refine (values1 (n - 1) (by omega) (W0.heap.size + 1) Bm p len cap xs hlen hbig (AnyZI.ApAt Yba.laysSlZI6_ren w fn sv w.heap.size (W0.heap.size + 1) W0.heap.size)
      (fun pre W hJ i hi => by obtain ⟨a, rfl, hab, ha⟩ := hc i hi; exact ⟨a, rfl, (hJ.below.cell (p := a.add i) (by rw [add_block]; exact hab)).trans ha⟩)
      (fun pre x W hJ hl => AnyZI.apYield { L with } Fence.wide (n - 1 - 1) w fn hfn _ w.heap.size (W0.heap.size + 1) W0.heap.size (by omega) (by omega) (by omega) (Nat.le_refl _) (by omega) len (by unfold maxLen; omega) (by omega) pre x W hJ hl) W1 ((hb1.cell (p := ⟨Bm, 0, none⟩) hBm).trans hm) hM).mono ?_
    rintro e W2 ⟨⟨v0, rfl⟩, h2⟩
    obtain ⟨v, hv, hrow, hnil⟩ := h2.box
    have hend := run_endLoop (P := Yba.prog) h2.L (by simp [AnyZI.apRec])
    obtain ⟨W3, hW3⟩ : ∃ W3, W2.putObj (W0.heap.size + 1) (.loop { AnyZI.apRec Yba.laysSlZI6_ren fn sv w.heap.size W0.heap.size .ready none with state := .exhausted }) = W3 := ⟨_, rfl⟩
    rw [hW3] at hend
    have hg3 : W2.grownBy W3 (some (W0.heap.size + 1)) := by rw [← hW3]; exact grownBy_putObj_a _ _ _
    have hv3 : W3.heap[w.heap.size]? = some (.cells #[v] 55 (0, 0)) := by rw [← hW3]; exact (World.putObj_heap_other (by omega)).trans hv
    have hK3 : W3.heap[W0.heap.size]? = some (.deferred (some [])) := by rw [← hW3]; exact (World.putObj_heap_other (by omega)).trans h2.K
    have hrow3 : W3.ownsRow w.heap.size 3 1 v xs.length (xs.map encZ) := hrow.kept hg3 (ownsRow_ne_a hrow h2.L (fun cur e => by cases e))
    have hb3 : Below w.heap.size w W3 := h2.below.grown hg3 h2.below.size (fun k e => by cases e; omega)
    obtain ⟨hc3, hf3⟩ := cell_of_box_a hv3
    clear hW3
    refine ⟨none, W3, hend, ?_⟩
    gi_wp2
    rw [← hs0]
    refine ⟨by simp, .inl ⟨_, _, rfl, run_takeDeferred hK3, ?_⟩⟩
    exact ⟨_, results_tmp rfl _ _ _, v, rfl, hrow3.kept (grownBy_putObj_a _ _ _) (ownsRow_ne_a hrow3 hK3 (fun cur e => by cases e)), hnil, hb3.grown (grownBy_putObj_a _ _ _) hb3.size (fun k e => by cases e; omega)⟩

theorem sortsHere (m : Nat) : AnyZI.SortsIn Yba.prog Yba.laysSlZI6_ren Fence.wide m :=
  ⟨fun blk off cap ss W hH hblk hsz => callsIn_wide.2 (AnyM.slices_Sort_int Yba.laysSlM5_f22 blk off cap ss W hH hblk hsz),
   fun p cap W => callsIn_wide.2 (AnyM.slices_Sort_int_none Yba.laysSlM5_f22 p cap W)⟩

set_option maxRecDepth 100000 in
set_option maxHeartbeats 2000000 in
/-- slices.Sorted(slices.Values(xs)). -/
theorem sorted_values (Bm : Nat) (p : Option Addr) (len cap : Nat) (xs : List Int) (hlen : xs.length = len) (hbig : len ≤ 1048576) (w : World) (hBm : Bm < w.heap.size)
    (hm : w.cell? ⟨Bm, 0, none⟩ = some (.slice p len cap)) (hc : ∀ i, i < len → ∃ a, p = some a ∧ a.block < w.heap.size ∧ w.cell? (a.add i) = some (.int .i64 (xs.getD i 0))) :
    Calls Yba.prog 19 #[.func (.func 23) #[] #[.pointer (some ⟨Bm, 0, none⟩)]] w fun e w' => ∃ (v : Value), e = .returned v ∧
      w'.ownsRow w.heap.size 3 1 v xs.length ((xs.mergeSort (fun x y => decide (x ≤ y))).map encZ) ∧ (v = .slice none 0 0 ↔ xs = []) ∧ Below w.heap.size w w' := by
  subst hlen
  refine (callsIn_wide (n := 5)).1 ?_
  have cC : CallsIn Fence.wide 4 Yba.prog 21 #[.func (.func 23) #[] #[.pointer (some ⟨Bm, 0, none⟩)]] w fun e w' => ∃ (v : Value), e = .returned v ∧
      w'.ownsRow w.heap.size 3 1 v xs.length (xs.map encZ) ∧ (v = .slice none 0 0 ↔ xs = []) ∧ Below w.heap.size w w' := by
    have cA := appendSeq_values 3 (by omega) Bm p _ cap xs rfl hbig w hBm hm hc
    have hfS : Fence.wide.fn 24 := trivial
    refine callsIn_of_wp Yba.func21 rfl trivial ?_ rfl
    simp only [Yba.ntmps21, List.size_toArray, List.length_cons, List.length_nil, Nat.reduceAdd, Nat.reduceSub, Array.replicate_succ, Array.replicate_zero, List.push_toArray, List.append_toArray, List.nil_append, List.cons_append]
    gi_wp2_with (gi_at_call 24; refine cA.mono ?_; rintro e w' ⟨v, rfl, hrow, hnil, hb⟩)
    go_ret
    exact ⟨v, rfl, hrow, hnil, hb⟩
  have hsort := sortsHere 4
  have hfC : Fence.wide.fn 21 := trivial
  have hfS : Fence.wide.fn 22 := trivial
  refine callsIn_of_wp Yba.func19 rfl trivial ?_ rfl
  simp only [Yba.ntmps19, List.size_toArray, List.length_cons, List.length_nil, Nat.reduceAdd, Nat.reduceSub, Array.replicate_succ, Array.replicate_zero, List.push_toArray, List.append_toArray, List.nil_append, List.cons_append]
  gi_wp2_with (gi_at_call 21; refine cC.mono ?_; rintro e W ⟨v, rfl, hrow, hnil, hb⟩)
  rcases hrow.2 with ⟨rfl, hz⟩ | ⟨gb, cap, cur, rfl, hbase, hgb, r1, r2, r3, r4⟩
  · have hss : xs = [] := List.eq_nil_of_length_eq_zero hz
    have cS : CallsIn Fence.wide 4 Yba.prog 22 #[.slice none 0 0] W fun e w' => e = .returned (.tuple #[]) ∧ w' = W := hsort.2 none 0 W
    gi_wp2_with (gi_at_call 22; refine cS.mono ?_; rintro e w' ⟨rfl, rfl⟩)
    go_ret
    refine ⟨.slice none 0 0, rfl, ?_, by simp [hss], hb⟩
    subst hss
    simpa using hrow
  · have hH : Holds encZ W gb 0 xs.toArray := holds_of_block_i hgb (by simpa using r4)
    have hgl : gb < W.heap.size := (Array.getElem?_eq_some_iff.1 hgb).1
    have hsz : xs.length < 4611686018427387904 := by omega
    have cS : CallsIn Fence.wide 4 Yba.prog 22 #[.slice (some ⟨gb, 0, none⟩) xs.length cap] W fun e w' => e = .returned (.tuple #[]) ∧ ∃ k os, w' = grow (putRow encZ (Sort.ahead W k) gb 0 (xs.mergeSort fun x y => decide (x ≤ y)).toArray) os := hsort.1 gb 0 cap xs W hH hgl hsz
    gi_wp2_with (gi_at_call 22; refine cS.mono ?_; rintro e w' ⟨rfl, nn, os, rfl⟩)
    go_ret
    exact ⟨_, rfl, ownsRow_sorted_i (by simp) hbase hgb r1 r2 r3, hnil, hb.grown (grownBy_sorted_i _) hb.size (fun j hj => by cases hj; exact hbase)⟩
end Go.Proofs.Ybulkdsyu
