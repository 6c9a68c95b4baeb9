import Derived.Test.YbulkdswcDoorRows
import Derived.Test.YbulkdswcDoorTie
import Derived.Test.YbulkdswcDoorCards
import Derived.Test.YbulkdswcDoorL1
import Derived.ProofKit
import Derived.LaidMore
import Derived.WalkSmall
import Derived.SevenTiedAt
import Derived.OpenShut
import Derived.OpenVars
import Derived.ChangeOld
import Derived.Laws.IdiomArrays
import Derived.Laws.Cover2
namespace Go.Proofs.YbulkdswcDoor.lawA
open Go Go.ChangeShapes Go.WideShapes Go.ChangeAt Go.RowKit

theorem gLevels : Ybad.prog.globalNamed (Rows.lawS5982AWholeSpec.vars.headD "") = some 0 := by kernel_rfl
theorem tLevels : (Ybad.prog.globals[0]?).map (·.type) = some 45 := by kernel_rfl
theorem under45 : Ybad.prog.underlying 45 = some (.array 3 23) := by kernel_rfl
theorem cells23 : Ybad.prog.cellsOf 23 = 1 := by kernel_rfl
theorem cells45 : Ybad.prog.cellsOf 45 = 3 := by kernel_rfl

theorem cell_lt {w : World} {a : Addr} {v : Value} (h : w.cell? a = some v) : a.block < w.heap.size := by
  unfold World.cell? at h
  by_cases hs : a.block < w.heap.size
  · exact hs
  · rw [Array.getElem?_eq_none (by omega)] at h
    simp at h

theorem float_of {w : World} {n : Nat} {c : Value} {y : DataW Unit × List MemPlace} {b : Nat} (h : DataW.trod (fun _ => ()) Ybad.prog w 0 (fun _ => true) false n 23 [c] = some y) (hy : y.1 = .lit (.float .f64 b)) : c = .float .f64 b := by
  cases n with
  | zero => simp [DataW.trod] at h
  | succ n =>
    unfold DataW.trod at h
    rw [Ybad.underlying23] at h
    cases c <;> simp at h
    rename_i k b'
    obtain ⟨⟨rfl, _⟩, rfl⟩ := h
    simp only [DataW.lit.injEq, Lit.float.injEq, true_and] at hy
    rw [hy]

/-- What the listed variable gives the walk. -/
theorem of_laid {W : World} (h : laidMetH Ybad.prog Rows.lawS5982AWholeRow.laid W) : W.cell? ⟨0, 0, none⟩ = some (.float .f64 FST) := by
  rw [MakeChecks.laidMetH_plain _ _ _ (by kernel_rfl)] at h
  obtain ⟨ps, ⟨g0, t0, cs0, f0, p0, q0, hg0, ht0, hv0, hd0, _, _⟩, _, _⟩ := h
  obtain rfl := Option.some.inj (gLevels.symm.trans hg0)
  obtain rfl := Option.some.inj (tLevels.symm.trans ht0)
  obtain ⟨xs, m, _, _, hcl, _⟩ := DataW.trod_array under45 hd0
  rw [cells45] at hcl
  obtain ⟨l, hl⟩ : ∃ l, cs0.toList = l := ⟨_, rfl⟩
  rw [hl] at hd0 hcl
  match l, hcl, hd0, hl with
  | [c0, c1, c2], _, hd0, hl =>
    obtain ⟨y0, y1, y2, n, e, h0, _, _⟩ := trod_array3 under45 cells23 hd0
    simp only [Rows.laid_example_com_bandwatch_bandwatch_model_clusterLevels, Prod.mk.injEq, DataW.agg.injEq, List.cons.injEq] at e
    obtain ⟨⟨e0, _⟩, _⟩ := e
    have hc := float_of h0 e0.symm
    have hv := World.var?_cell hg0 hv0 0
    have hcs : cs0 = #[c0, c1, c2] := by cases cs0; simp_all
    rw [hcs] at hv
    simpa [hc] using hv

theorem own : ownKnob Ybad.prog.godebug = none := by kernel_rfl
theorem laidOut : laidOutB Ybad.prog = true := by kernel_rfl
theorem door_met (os : Os) (args : Array Value) : laidMetH Ybad.prog Rows.lawS5982AWholeRow.laid ((World.doorLaid Ybad.prog 400 os).forCall (fun _ _ => 0) ⟨#[], args, []⟩).memory :=
  laidMetH_of_parts3 (fuel := 8) (laidMet_of_run' 8 (by kernel_rfl) (by kernel_rfl)) (by kernel_rfl) (by kernel_rfl)

/-- A slice of int32 that came in. -/
def IsRow (w : World) (a : Option Addr) (len cap : Nat) (zs : List Int) : Prop :=
  (a = none ∧ len = 0 ∧ cap = 0 ∧ zs = []) ∨
  ∃ x, a = some x ∧ len ≤ cap ∧ cap ≤ maxLen ∧ zs.length = cap ∧ (∀ i, i < zs.length → w.cell? (x.add i) = some (.int .i32 (zs.getD i 0))) ∧ ∀ n ∈ zs, (Lit.int .i32 n).wf = true

theorem walk (a0 : Option Addr) (len0 cap0 : Nat) (z0 : List Int) (b : Nat) (w : World) (w0 : IsRow w a0 len0 cap0 z0) (hg0 : w.cell? ⟨0, 0, none⟩ = some (.float .f64 FST)) :
    Calls Ybad.prog 3 #[.slice a0 len0 cap0, .float .f64 b] w fun e w' => e = .returned (.bool true) ∧ Below w.heap.size w w' := by
  have hw0 : 0 < w.heap.size := cell_lt hg0
  rcases w0 with ⟨rfl, rfl, rfl, rfl⟩ | ⟨x, rfl, hlc, _, hzl, hcell, hwf⟩
  · exact law_a [] w rfl (fun i x h => by simp at h) (fun x h => by cases h) hw0 hg0
  · refine law_a (z0.take len0) w (by rw [List.length_take]; omega) (fun i y hy => ?_) (fun y hy => ?_) hw0 hg0
    · rw [List.getElem?_take] at hy
      split at hy
      · have hi : i < z0.length := (List.getElem?_eq_some_iff.1 hy).1
        have hc := hcell i hi
        have h00 := hcell 0 (by omega)
        obtain ⟨xb, xo, spot⟩ := x
        have hspot : spot = none := by simpa [Addr.add] using World.cell?_spot h00
        subst hspot
        rw [Addr.add_lit] at hc
        refine ⟨xb, xo, rfl, cell_lt hc, ?_⟩
        rw [hc, List.getD_eq_getElem?_getD, hy]
        rfl
      · cases hy
    · have := bounds_i32 (hwf y (List.mem_of_mem_take hy))
      omega

set_option maxRecDepth 100000 in
theorem lifted (os : Os) (started : os.Started) (H : Type) (enc : TypeId × Value → H) :
    ReturnsInHanded {} Ybad.checked os 3 .any (fun w args => (Rows.lawS5982AWholeSpec.pre enc Ybad.prog Ybad.f3 [] false w args ∧ laidMetH Ybad.prog Rows.lawS5982AWholeRow.laid w) ∧ sizedMet enc Ybad.prog Ybad.f3 (OpenSpec.ofChange Rows.lawS5982AWholeSpec) false w args)
      (Rows.lawS5982AWholeSpec.post enc Ybad.prog Ybad.f3 false true false false) := by
  refine returnsInHanded_of_change_and (C := Ybad.checked) (X := fun w _ => laidMetH Ybad.prog Rows.lawS5982AWholeRow.laid w) (fun _ _ _ hh h => h.of_heap hh) own started (by kernel_rfl) Ybad.func3
    (ChangeSpec.witness_shaped (enc := enc) (C := Ybad.checked) (os := os) (X := fun w _ => laidMetH Ybad.prog Rows.lawS5982AWholeRow.laid w) false (World.doorLaid Ybad.prog 400 os) #[.slice none 0 0, .float .f64 0] 8 rfl (World.shaped_of_RefB (by kernel_rfl) (by kernel_rfl)) (by kernel_rfl) (by kernel_rfl) (by kernel_rfl) (door_met os _)) ?_
  intro W base args ds gs before hval0 hW _ _ hL _
  have hval : ∀ (j : Nat) t v, Ybad.f3.params[j]? = some t → args[j]? = some v → Value.okWide Ybad.prog W .any base t v := hval0
  have hW' := hW
  obtain ⟨p, q, hA0, hV, rfl, hfz, hnd⟩ := hW
  have hA : DataW.TrodAll enc Ybad.prog W 0 (fun _ => true) true Ybad.f3.params.toList args.toList ds p := hA0
  rw [Ybad.params3] at hA hval
  obtain ⟨v0, vs0, d0, ds0, p0, q0, hargs, rfl, rfl, h0, r0⟩ := trodAll_cons hA
  obtain ⟨v1, vs1, d1, ds1, p1, q1, rfl, rfl, rfl, h1, r1⟩ := trodAll_cons r0
  obtain ⟨rfl, rfl, rfl⟩ := trodAll_nil r1
  obtain rfl : args = #[v0, v1] := by cases args; simp_all
  obtain ⟨a0, len0, cap0, rfl⟩ := okWide_slice Ybad.underlying22 (hval 0 22 v0 rfl rfl)
  have k0 := h0
  have lt0 : ∀ x ∈ p0, x.block < W.heap.size := by obtain ⟨m, hm⟩ := k0; exact DataW.trod_lt m _ _ _ hm
  obtain ⟨z0, w0⟩ : ∃ zs, IsRow W a0 len0 cap0 zs := by
    obtain ⟨fuel, hf⟩ := h0
    rcases open_ints Ybad.underlying22 Ybad.underlying21 (by kernel_rfl) hf with ⟨hcs, _⟩ | ⟨x, l, c, zs, hcs, _, hl, hm, hz, _, hcell, hwz⟩
    · simp [Value.cells] at hcs
      obtain ⟨rfl, rfl, rfl⟩ := hcs
      exact ⟨[], .inl ⟨rfl, rfl, rfl, rfl⟩⟩
    · simp [Value.cells] at hcs
      obtain ⟨rfl, rfl, rfl⟩ := hcs
      exact ⟨zs, .inr ⟨_, rfl, hl, hm, by simpa using hz, hcell, hwz⟩⟩
  obtain ⟨b, rfl, rfl, rfl, w1⟩ := open_float Ybad.underlying23 (hval 1 23 v1 rfl rfl) h1
  have hV2 : DataW.TrodVars enc Ybad.prog W (fun _ => true) Rows.lawS5982AWholeSpec.vars gs q := hV
  obtain ⟨_, _, _, _, g1, pg, rfl, _, _, _, _, rfl⟩ := trodVars_one hV
  clear hA0 hval0
  refine (walk a0 len0 cap0 z0 b W w0 (of_laid hL)).mono fun e W' ⟨he, bel⟩ => ?_
  subst he
  exact ⟨_, rfl, _, _, _, [], _, _, hW', trodAll_mk1 (shut_bool Ybad.underlying4 _), (trodAll_cons_mk (Below.trod laidOut (by kernel_rfl) (of_decide_eq_true (by kernel_rfl)) k0 bel lt0) (trodAll_cons_mk (shut_float Ybad.underlying23 w1) trodAll_mk0)), Below.trodVars laidOut bel (by kernel_rfl) hV2, bel.frame _, fun h => by cases h⟩

theorem over : Rows.LawS5982AWholeSaid :=
  OpenClaim.holds_of_wide 3 Ybad.f3 rfl rfl rfl rfl rfl rfl rfl ⟨rfl, rfl, rfl, rfl, rfl⟩ rfl rfl rfl rfl rfl (by kernel_rfl) Ybad.func3 (by kernel_rfl)
    (of_decide_eq_true (by kernel_rfl)) (by unfold Func.isWrapper; first | (rw [if_pos (by decide +kernel)]; kernel_rfl) | (rw [if_neg (by decide +kernel)]; exact ⟨rfl, rfl⟩))
    (fun os started H enc _ => lifted os started H enc)
end Go.Proofs.YbulkdswcDoor.lawA

namespace Go.Proofs.YbulkdswcDoor
open Go Go.RowKit
theorem cardA_holds : Rows.LawS5982AWholeCardSaid :=
  Claim7.holds_tied_plain_at .later [] [.data] true (true, "20e08ee7f912ce0a5aacb56c84e70a1cc5266bbd2769c5c5c1c3a134cd1405a7") false
    lawA.over (fun _ h => by cases h) (by kernel_rfl) (fun _ h => by cases h) lawS5982AWhole_row_tie rfl ⟨rfl, rfl⟩ (by kernel_rfl) rfl
    (fun f fn hf hfn => by
      obtain rfl : f = 3 := Option.some.inj ((show Ybad.prog.funcNamed Rows.lawS5982AWholeRow.func = some 3 by kernel_rfl).symm.trans hf) |>.symm
      obtain rfl : fn = Ybad.f3 := (Option.some.inj (Ybad.func3.symm.trans hfn)).symm
      exact ⟨by kernel_rfl, fun j t ht => by
        rw [Ybad.params3] at ht
        have h22 : Ybad.prog.wantsStandIn 22 = false := by kernel_rfl
        have h23 : Ybad.prog.wantsStandIn 23 = false := by kernel_rfl
        rcases j with _ | _ | j
        · obtain rfl : t = 22 := by simpa using ht.symm
          exact h22
        · obtain rfl : t = 23 := by simpa using ht.symm
          exact h23
        · simp at ht⟩)
    (by kernel_rfl)
#print axioms cardA_holds
end Go.Proofs.YbulkdswcDoor
