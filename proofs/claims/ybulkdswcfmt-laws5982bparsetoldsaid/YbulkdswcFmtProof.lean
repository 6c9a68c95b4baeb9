import Derived.Test.YbulkdswcFmtRows
import Derived.Test.YbulkdswcFmtTie
import Derived.Test.YbulkdswcFmtCards
import Derived.Test.YbulkdswcFmtWalks
import Derived.ProofKit
import Derived.LaidMore
import Derived.WalkSmall
import Derived.SevenTiedAt
import Derived.Stop.JoinedTold
import Derived.Deep.DeepWitnessRef
namespace Go.Proofs.YbulkdswcFmt
open Go Go.ChangeShapes Go.WideShapes Go.ChangeAt Go.RowKit

theorem gLevels : Ybaf.prog.globalNamed (Rows.lawS5982BParseSpec.vars.headD "") = some 0 := by kernel_rfl
theorem tLevels : (Ybaf.prog.globals[0]?).map (·.type) = some 32 := by kernel_rfl
theorem cells33 : Ybaf.prog.cellsOf 33 = 2 := by kernel_rfl
theorem cells25 : Ybaf.prog.cellsOf 25 = 1 := by kernel_rfl
theorem cells9 : Ybaf.prog.cellsOf 9 = 1 := by kernel_rfl

/-- Two cells read in a row. -/
theorem cells_two {w : World} {a : Addr} {cs : List Value} (h : w.cells? 0 a 2 = some cs) : ∃ x y, cs = [x, y] ∧ w.cell? (a.add 0) = some x ∧ w.cell? (a.add 1) = some y := by
  unfold World.cells? at h
  rw [if_pos (Nat.zero_le _)] at h
  simp only [List.range_succ, List.range_zero, List.nil_append, List.cons_append, List.mapM_cons, List.mapM_nil] at h
  cases h0 : w.cell? (a.add 0) with
  | none => simp [h0] at h
  | some x =>
    cases h1 : w.cell? (a.add 1) with
    | none => simp [h0, h1] at h
    | some y =>
      simp [h0, h1] at h
      exact ⟨x, y, h.symm, rfl, rfl⟩

/-- One pair of alert.levels, its two cells. -/
theorem pair_of {w : World} {a : Addr} {n : Nat} {y : DataW Unit × List MemPlace} {s : List UInt8} {k : Int}
    (h : (w.cells? 0 a 2).bind (DataW.trod (fun _ => ()) Ybaf.prog w 0 (fun _ => true) false n 33) = some y)
    (hy : y.1 = .agg [.lit (.string s), .lit (.int .i8 k)]) :
    w.cell? (a.add 0) = some (.string ⟨s.toArray⟩) ∧ w.cell? (a.add 1) = some (.int .i8 k) := by
  simp only [Option.bind_eq_some_iff] at h
  obtain ⟨cs, hcs, ht⟩ := h
  obtain ⟨x0, x1, rfl, h0, h1⟩ := cells_two hcs
  obtain ⟨y0, y1, m, rfl, _, ha, hb⟩ := trod_struct2 Ybaf.underlying33 ht
  rw [cells9] at ha
  rw [cells25] at hb
  simp only [List.drop_zero, List.take_succ_cons, List.take_zero] at ha
  simp only [List.drop_succ_cons, List.drop_zero, List.take_succ_cons, List.take_zero] at hb
  obtain ⟨s0, e0, rfl, _⟩ := DataW.trod_string Ybaf.underlying9 ha
  obtain ⟨k0, e1, rfl, _⟩ := DataW.trod_int Ybaf.underlying25 hb
  simp only [List.cons.injEq, and_true] at e0 e1
  simp only [DataW.agg.injEq, List.cons.injEq, DataW.lit.injEq, Lit.string.injEq, Lit.int.injEq, true_and, and_true] at hy
  obtain ⟨hs, rfl⟩ := hy
  subst hs
  exact ⟨by rw [h0, e0], by rw [h1, e1]⟩
theorem cell_lt {w : World} {a : Addr} {v : Value} (h : w.cell? a = some v) : a.block < w.heap.size := by
  unfold World.cell? at h
  by_cases hs : a.block < w.heap.size
  · exact hs
  · rw [Array.getElem?_eq_none (by omega)] at h
    simp at h

/-- What the listed variable gives the walks. -/
theorem of_laid {W : World} (h : laidMetH Ybaf.prog Rows.lawS5982BParseRow.laid W) : ∃ b off, Lvl b off W := by
  rw [MakeChecks.laidMetH_plain _ _ _ (by kernel_rfl)] at h
  obtain ⟨ps, ⟨g0, t0, cs0, f0, p0, q0, hg0, ht0, hv0, hd0, _, _⟩, _, _⟩ := h
  obtain rfl := Option.some.inj (gLevels.symm.trans hg0)
  obtain rfl := Option.some.inj (tLevels.symm.trans ht0)
  rcases DataW.trod_slice Ybaf.underlying32 hd0 with ⟨_, hx⟩ | ⟨a, len, cap, elems, rest, n, _, hcs, hx, _, hl, _, hlen, hel, hrest, _⟩
  · simp [Rows.laid_example_com_bandwatch_bandwatch_alert_levels] at hx
  simp only [Rows.laid_example_com_bandwatch_bandwatch_alert_levels, Prod.mk.injEq, DataW.slice.injEq] at hx
  obtain ⟨⟨he, hr⟩, _⟩ := hx
  have hr0 : rest = [] := by cases rest with | nil => rfl | cons _ _ => simp at hr
  have hcap := (hrest rfl).1
  have hlen3 : elems.length = 3 := by have := congrArg List.length he; simpa using this.symm
  have hlen' : len = 3 := by omega
  subst hlen'
  have hcap' : cap = 3 := by rw [hr0] at hcap; simp at hcap; omega
  subst hcap'
  match elems, hlen3, he, hel with
  | [y0, y1, y2], _, he, hel =>
    simp only [List.map_cons, List.map_nil, List.cons.injEq, and_true] at he
    obtain ⟨e0, e1, e2⟩ := he
    have k0 := hel 0 (by omega)
    have k1 := hel 1 (by omega)
    have k2 := hel 2 (by omega)
    rw [cells33] at k0 k1 k2
    obtain ⟨p0, q0⟩ := pair_of k0 e0.symm
    obtain ⟨p1, q1⟩ := pair_of k1 e1.symm
    obtain ⟨p2, q2⟩ := pair_of k2 e2.symm
    obtain ⟨b, off, spot⟩ := a
    have hspot : spot = none := by simpa [Addr.add] using World.cell?_spot p0
    subst hspot
    have hv := World.var?_cell hg0 hv0 0
    rw [Array.eq_one_of_toList hcs] at hv
    have hgc : W.cell? ⟨0, 0, none⟩ = some (.slice (some ⟨b, off, none⟩) 3 3) := by simpa using hv
    refine ⟨b, off, hgc, ?_, ?_, ?_, ?_, ?_, ?_, cell_lt hgc, ?_⟩
    · simpa [Addr.add] using p0
    · simpa [Addr.add] using q0
    · simpa [Addr.add] using p1
    · simpa [Addr.add] using q1
    · simpa [Addr.add] using p2
    · simpa [Addr.add] using q2
    · exact cell_lt p0

theorem own : ownKnob Ybaf.prog.godebug = none := by kernel_rfl
theorem laidOut : laidOutB Ybaf.prog = true := by kernel_rfl
theorem door_met (os : Os) (args : Array Value) : laidMetH Ybaf.prog Rows.lawS5982BParseRow.laid ((World.doorLaid Ybaf.prog 400 os).forCall (fun _ _ => 0) ⟨#[], args, []⟩).memory :=
  laidMetH_of_parts3 (fuel := 8) (laidMet_of_run' 8 (by kernel_rfl) (by kernel_rfl)) (by kernel_rfl) (by kernel_rfl)

set_option maxRecDepth 100000 in
theorem liftedP (os : Os) (started : os.Started) (H : Type) (enc : TypeId × Value → H) :
    ReturnsInTold none {} Ybaf.checked os 3 .any Input.okWide ((OpenSpec.ofChange Rows.lawS5982BParseSpec).preRow enc Ybaf.prog Ybaf.f3 [] false Rows.lawS5982BParseRow.laid) (fun F => ((OpenSpec.ofChange Rows.lawS5982BParseSpec).at F).post enc Ybaf.prog Ybaf.f3 false true false false) (aloneAtReturn Ybaf.prog) nothingAlways := by
  refine returnsInTold_of_row (C := Ybaf.checked) (s := OpenSpec.ofChange Rows.lawS5982BParseSpec) (by kernel_rfl) own started (by kernel_rfl) Ybaf.func3
    (OpenSpec.witness_stopped_atRef (enc := enc) (C := Ybaf.checked) false (World.doorLaid Ybaf.prog 400 os) #[] rfl (by kernel_rfl) (by kernel_rfl) (by kernel_rfl)
      (OpenSpec.preRow_of_B rfl 8 (by kernel_rfl) (by kernel_rfl) (door_met os _))) ?_
  intro F W base args ds gs before _ hF hval0 hW _ _ _ hL _
  have hW' := hW
  obtain ⟨p, q, hA0, hV, rfl, hfz, hnd⟩ := hW
  have hA : DataW.TrodAll enc Ybaf.prog W 0 (fun _ => true) true Ybaf.f3.params.toList args.toList ds p := hA0
  rw [Ybaf.params3] at hA
  obtain ⟨hargs, rfl, rfl⟩ := trodAll_none hA
  obtain rfl : args = #[] := by cases args; simp_all
  obtain ⟨b, off, hLv⟩ := of_laid hL
  obtain ⟨g, t, cs, fuel, d, p, rfl, hg, ht, hv, htr, rfl⟩ := trodVars_one hV
  obtain rfl := Option.some.inj (gLevels.symm.trans hg)
  obtain rfl := Option.some.inj (tLevels.symm.trans ht)
  clear hA0 hval0
  refine (law_parse b off W hLv).mono fun e W' ⟨he, bel⟩ => ?_
  subst he
  have lt0 : ∀ x ∈ p, x.block < W.heap.size := DataW.trod_lt _ _ _ _ htr
  have hcs : ∃ v : Value, cs = #[v] ∧ v.cells.toList = [v] := by
    rcases DataW.trod_slice Ybaf.underlying32 htr with ⟨h, _⟩ | ⟨a, len, cap, elems, rest, n, _, h, _⟩
    · exact ⟨_, Array.eq_one_of_toList h, rfl⟩
    · exact ⟨_, Array.eq_one_of_toList h, rfl⟩
  obtain ⟨v, rfl, hv1⟩ := hcs
  have hT : DataW.Trod enc Ybaf.prog W 0 (fun _ => true) true 32 v d p := ⟨fuel, by rw [hv1]; exact htr⟩
  obtain ⟨fuel', hT'⟩ := Below.trod laidOut (by kernel_rfl) (of_decide_eq_true (by kernel_rfl)) hT bel lt0
  rw [hv1] at hT'
  have hv' := var?_below bel hg hLv.h1 hv
  exact ⟨_, rfl, _, _, _, [], [], _, hW', trodAll_mk1 (shut_bool Ybaf.underlying4 _), trodAll_mk0, trodVars_mk1 hg ht hv' hT', bel.frame _, fun h => by cases h⟩

theorem stops_are : Ybaf.pinned.checked.prog.stops = Rows.lawS5982BParseRow.stops := by kernel_rfl
theorem knobs_are : Ybaf.pinned.checked.prog.stopKnobs = [] := by kernel_rfl
theorem quiet_all (os : Os) : Stop.quiet Ybaf.pinned.checked.prog os := by
  intro k hk
  rw [knobs_are] at hk
  cases hk

theorem parse_holds : Rows.LawS5982BParseToldSaid :=
  Claim7.holds_of_told_tied_any_at .later 3 Ybaf.f3 "fmt.errorf" [] [] (true, "a80f7c7869aa1e20112ca65e3e68a35f012943aa31fca1ca12b8e75269bb9af0") false false [.data] true (by kernel_rfl) rfl rfl rfl laidOut (by kernel_rfl) rfl ⟨rfl, rfl, rfl, rfl, rfl, rfl, rfl⟩ rfl rfl (by kernel_rfl) (by kernel_rfl) Ybaf.func3 (by kernel_rfl)
    (of_decide_eq_true (by kernel_rfl)) (by unfold Func.isWrapper; first | (rw [if_pos (by decide +kernel)]; kernel_rfl) | (rw [if_neg (by decide +kernel)]; exact ⟨rfl, rfl⟩)) stops_are.symm rfl knobs_are.symm (by kernel_rfl)
    (by kernel_rfl) (by kernel_rfl) (by kernel_rfl) (by kernel_rfl) (by kernel_rfl) (by kernel_rfl) (by kernel_rfl) (by kernel_rfl) (by kernel_rfl) rfl (by kernel_rfl) rfl rfl
    rfl rfl
    rfl (by kernel_rfl) (by kernel_rfl) (by kernel_rfl) (by decide) (by kernel_rfl) lawS5982BParse_row_tie
    (OpenClaim.moreEntering_of (by kernel_rfl) (by kernel_rfl) (by kernel_rfl) (by kernel_rfl) (by kernel_rfl) (by kernel_rfl) (by kernel_rfl) (by kernel_rfl) (by kernel_rfl) (by kernel_rfl))
    ⟨_, WideRow.started_initial, quiet_all _⟩
    (fun os started _ H enc _ => liftedP os started H enc)
#print axioms parse_holds
end Go.Proofs.YbulkdswcFmt
