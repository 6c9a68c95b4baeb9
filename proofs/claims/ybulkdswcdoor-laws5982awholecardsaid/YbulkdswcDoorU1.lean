import Derived.RangeFuncNested
import Derived.RangeFuncBound
import Derived.RangeFuncCalls
import Derived.RangeFuncLeaves
import Derived.RangeFuncBox
import Derived.Shelf.Abstract
import Derived.Shelf.RegionOpen
import Derived.OwnWalkIn
import Derived.TacticsInMore
import Derived.LoopNIn
import Derived.LoopIn
import Derived.Test.YbulkdswcDoorT6
namespace Go.Proofs.YbulkdswcDoor
open Go Ieee Go.RowKit Go.Sort Go.Shelf

attribute [local go_sem] Oper.semAt_some

/-- A place of the gaps. -/
abbrev GI (g : List Nat) := { j : Nat // j < g.length }
/-- The places' numbers. -/
def ixs {g : List Nat} (l : List (GI g)) : List Nat := l.map fun x => x.1
theorem ixs_push {g : List Nat} (l : List (GI g)) (x : GI g) : ixs (l ++ [x]) = ixs l ++ [x.1] := List.map_append ..
theorem ixs_length {g : List Nat} (l : List (GI g)) : (ixs l).length = l.length := List.length_map ..
abbrev gval (g : List Nat) (x : GI g) : Nat := g[x.1]?.getD 0
abbrev genc (g : List Nat) (x : GI g) : Array Value := #[.int .i64 (x.1 : Int), .int .i64 ((g[x.1]?.getD 0 : Nat) : Int)]

/-- What a round keeps: what lay below n₀, and the iterator's own box. -/
def KpB (n₀ Bs : Nat) (A B : World) : Prop := Below n₀ A B ∧ ∀ v, A.cell? ⟨Bs, 0, none⟩ = some v → B.cell? ⟨Bs, 0, none⟩ = some v

theorem KpB.trans {n₀ Bs : Nat} {A B C : World} (h : KpB n₀ Bs A B) (k : KpB n₀ Bs B C) : KpB n₀ Bs A C := ⟨h.1.trans k.1, fun v hv => k.2 v (h.2 v hv)⟩
theorem KpB.put {n₀ Bs : Nat} {w : World} (hn : n₀ ≤ w.heap.size) (W : World) (l : Nat) (o o' : Obj) (hl : w.heap.size ≤ l) (h : W.heap[l]? = some o) (h1 : o.isCells = false) (h2 : o.isWalk = false) : KpB n₀ Bs W (W.putObj l o') :=
  ⟨belowK_b hn W l o o' hl h h1 h2, fun _ hv => cell_kept hv (grownBy_putObj' W l o') (fun r e => by cases e; exact ⟨o, h, h1⟩)⟩

theorem rev_step {t m : Nat} (h : t + 1 ≤ m) : (List.range' t (m - t)).reverse = (List.range' (t + 1) (m - (t + 1))).reverse ++ [t] := by
  rw [show m - t = (m - (t + 1)) + 1 by omega, List.range'_succ, List.reverse_cons]

set_option maxRecDepth 100000 in
set_option maxHeartbeats 4000000 in
/-- slices.Backward's closure. -/
theorem back1_in (F : Fence) (n : Nat) (h52 : F.fn 52) (hro : F.round = none) (hn : 1 ≤ n) (l Bs n₀ gc : Nat) (gp : Option Addr) (g : List Nat) (hgl : g.length ≤ 1048576) (J Jx : List (GI g) → World → Prop)
    (hY : ∀ pre x W, J pre W → pre.length < g.length → YieldAt F (n - 1) Ybad.prog l (genc g x) W fun e W' =>
      (e = .returned (.bool true) ∧ J (pre ++ [x]) W' ∧ KpB n₀ Bs W W') ∨ (e = .returned (.bool false) ∧ Jx (pre ++ [x]) W'))
    (W : World) (hBs : W.cell? ⟨Bs, 0, none⟩ = some (.slice gp g.length gc)) (hc : ∀ j, j < g.length → ∃ b off, gp = some ⟨b, off, none⟩ ∧ b < n₀ ∧ W.cell? ⟨b, off + j, none⟩ = some (.int .i64 ((g[j]?.getD 0 : Nat) : Int))) (h0 : J [] W) :
    CallsIn F n Ybad.prog 52 #[.func (.yield l) #[] #[], .pointer (some ⟨Bs, 0, none⟩)] W fun e W' => (∃ v, e = .returned v) ∧
      ((∃ ys : List (GI g), ixs ys = (List.range g.length).reverse ∧ J ys W') ∨ (∃ pre : List (GI g), (∃ t, t ≤ g.length ∧ ixs pre = (List.range' t (g.length - t)).reverse) ∧ Jx pre W')) := by
  have HY := (show Hid _ from hY)
  have HC := (show Hid _ from hc)
  have g1 : (g.length : Int) ≤ 1048576 := by omega
  have g0 : (0 : Int) ≤ (g.length : Int) := by omega
  clear hY hc
  refine callsIn_of_wp Ybad.func52 rfl h52 ?_ hro
  simp only [Ybad.ntmps52, List.size_toArray, List.length_cons, List.length_nil, Nat.reduceAdd, Nat.reduceSub, Array.replicate_succ, Array.replicate_zero, List.push_toArray, List.append_toArray, List.nil_append, List.cons_append]
  gi_wp2
  gi_loopw [3] (fun i wr => ∃ (t : Nat) (pre : List (GI g)), t ≤ g.length ∧ i = .int .i64 ((t : Int) - 1) ∧ ixs pre = (List.range' t (g.length - t)).reverse ∧ J pre wr ∧ KpB n₀ Bs W wr)
    (fun i _ => (intOf i + 1).toNat)
  case atStart => exact ⟨g.length, [], Nat.le_refl _, rfl, by rw [Nat.sub_self]; rfl, h0, ⟨Below.refl _ _, fun _ h => h⟩⟩
  case round =>
    obtain ⟨t, pre, ht, rfl, hp, hJs, hK⟩ := hrel
    have HJ := (show Hid _ from And.intro hp (And.intro hJs hK))
    have hBs2 := hK.2 _ hBs
    cases t with
    | zero =>
      clear hp hJs hK
      have n1 : ¬ (0 : Int) ≤ ((0 : Nat) : Int) - 1 := by omega
      gi_wp2
      go_end0
      exact ⟨⟨_, rfl⟩, .inl ⟨pre, by rw [HJ.out.1, Nat.sub_zero, List.range_eq_range'], HJ.out.2.1⟩⟩
    | succ k =>
      have e1 : ((k + 1 : Nat) : Int) - 1 = (k : Int) := by omega
      rw [e1]
      have k0 : (0 : Int) ≤ (k : Int) := by omega
      have k1 : (k : Int) < (g.length : Int) := by omega
      obtain ⟨b, off, rfl, hb, hck⟩ := HC.out k (by omega)
      have hck2 := (hK.1.cell (p := ⟨b, off + k, none⟩) hb).trans hck
      obtain ⟨fn, tmps, assign, body, hy, hR⟩ := HY.out pre ⟨k, by omega⟩ wr hJs (by
        have : (ixs pre).length = g.length - (k + 1) := by rw [hp]; simp
        rw [ixs_length] at this; omega)
      clear hp hJs hK e1 hck
      gi_wp2
      refine hR.mono ?_
      rintro e W3 (⟨rfl, hJ3, hk3⟩ | ⟨rfl, hJx3⟩)
      · have H3 := (show Hid _ from And.intro hJ3 hk3)
        clear hJ3 hk3
        gi_wp2
        go_roundw
        case rel => exact ⟨k, _, by omega, rfl, by rw [ixs_push, HJ.out.1, rev_step (t := k) (m := g.length) ht], H3.out.1, HJ.out.2.2.trans H3.out.2⟩
        case measure => simp [intOf]
      · have H3 := (show Hid _ from hJx3)
        clear hJx3
        gi_wp2
        refine bodyPost_ret (results_none rfl _ _ _) rfl ?_
        exact ⟨⟨_, rfl⟩, .inr ⟨_, ⟨k, by omega, by rw [ixs_push, HJ.out.1, rev_step (t := k) (m := g.length) ht]⟩, H3.out⟩⟩

set_option maxHeartbeats 1000000 in
/-- slices.Backward(s): the slice is boxed; the closure captures the box. -/
theorem back_in (F : Fence) (n : Nat) (h41 : F.fn 41) (hro : F.round = none) (a : Option Addr) (len cap : Nat) (w : World) :
    CallsIn F n Ybad.prog 41 #[.slice a len cap] w fun e w' => e = .returned (.func (.func 52) #[] #[.pointer (some ⟨w.heap.size, 0, none⟩)]) ∧ w' = w.alloc (.cells #[.slice a len cap] 27) := by
  refine callsIn_of_wp Ybad.func41 rfl h41 ?_ hro
  simp only [Ybad.ntmps41, List.size_toArray, List.length_cons, List.length_nil, Nat.reduceAdd, Nat.reduceSub, Array.replicate_succ, Array.replicate_zero, List.push_toArray, List.append_toArray, List.nil_append, List.cons_append]
  gi_wp2
  go_ret
  exact ⟨rfl, rfl⟩
end Go.Proofs.YbulkdswcDoor
