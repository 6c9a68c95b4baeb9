import Derived.Test.YbulkdswcDoorRows
import Derived.Test.YbulkdswcDoorTie
import Derived.Test.YbulkdswcDoorCards
import Derived.Test.YbulkdswcDoorLaidB
import Derived.ProofKit
import Derived.LaidMore
import Derived.WalkSmall
import Derived.SevenTiedAt
namespace Go.Proofs.YbulkdswcDoor
open Go Go.ChangeShapes Go.WideShapes Go.ChangeAt Go.RowKit

theorem gLevels : Ybad.prog.globalNamed (Rows.lawS5982BWholeSpec.vars.headD "") = some 1 := by kernel_rfl

theorem cell_lt {w : World} {a : Addr} {v : Value} (h : w.cell? a = some v) : a.block < w.heap.size := by
  unfold World.cell? at h
  by_cases hs : a.block < w.heap.size
  · exact hs
  · rw [Array.getElem?_eq_none (by omega)] at h
    simp at h

/-- What the listed variable gives the walks. -/
theorem of_laid {W : World} (h : laidMetH Ybad.prog Rows.lawS5982BWholeRow.laid W) : ∃ b off, Lvl b off W := by
  rw [MakeChecks.laidMetH_plain _ _ _ (by kernel_rfl)] at h
  obtain ⟨ps, ⟨g0, t0, cs0, f0, p0, q0, hg0, ht0, hv0, hd0, _, _⟩, _, _⟩ := h
  obtain rfl := Option.some.inj (gLevels.symm.trans hg0)
  obtain rfl := Option.some.inj (tLevels.symm.trans ht0)
  rcases DataW.trod_slice Ybad.underlying52 hd0 with ⟨_, hx⟩ | ⟨a, len, cap, elems, rest, n, _, hcs, hx, _, hl, _, hlen, hel, hrest, _⟩
  · simp [Rows.laid_example_com_bandwatch_bandwatch_alert_levels] at hx
  simp only [Rows.laid_example_com_bandwatch_bandwatch_alert_levels, Prod.mk.injEq, DataW.slice.injEq] at hx
  obtain ⟨⟨he, hr⟩, _⟩ := hx
  have hr0 : rest = [] := by cases rest with | nil => rfl | cons _ _ => simp at hr
  have hcap := (hrest rfl).1
  have hlen3 : elems.length = 3 := by have := congrArg List.length he; simpa using this.symm
  have hlen' : len = 3 := by omega
  subst hlen'
  have hcap' : cap = 3 := by rw [hr0] at hcap; simp at hcap; omega
  subst hcap'
  match elems, hlen3, he, hel with
  | [y0, y1, y2], _, he, hel =>
    simp only [List.map_cons, List.map_nil, List.cons.injEq, and_true] at he
    obtain ⟨e0, e1, e2⟩ := he
    have k0 := hel 0 (by omega)
    have k1 := hel 1 (by omega)
    have k2 := hel 2 (by omega)
    rw [cells55] at k0 k1 k2
    obtain ⟨p0, q0⟩ := pair_of k0 e0.symm
    obtain ⟨p1, q1⟩ := pair_of k1 e1.symm
    obtain ⟨p2, q2⟩ := pair_of k2 e2.symm
    obtain ⟨b, off, spot⟩ := a
    have hspot : spot = none := by simpa [Addr.add] using World.cell?_spot p0
    subst hspot
    have hv := World.var?_cell hg0 hv0 0
    rw [Array.eq_one_of_toList hcs] at hv
    have hgc : W.cell? ⟨1, 0, none⟩ = some (.slice (some ⟨b, off, none⟩) 3 3) := by simpa using hv
    refine ⟨b, off, hgc, ?_, ?_, ?_, ?_, ?_, ?_, cell_lt hgc, ?_⟩
    · simpa [Addr.add] using p0
    · simpa [Addr.add] using q0
    · simpa [Addr.add] using p1
    · simpa [Addr.add] using q1
    · simpa [Addr.add] using p2
    · simpa [Addr.add] using q2
    · exact cell_lt p0

theorem own : ownKnob Ybad.prog.godebug = none := by kernel_rfl
theorem laidOut : laidOutB Ybad.prog = true := by kernel_rfl
theorem door_met (os : Os) (args : Array Value) : laidMetH Ybad.prog Rows.lawS5982BWholeRow.laid ((World.doorLaid Ybad.prog 400 os).forCall (fun _ _ => 0) ⟨#[], args, []⟩).memory :=
  laidMetH_of_parts3 (fuel := 8) (laidMet_of_run' 8 (by kernel_rfl) (by kernel_rfl)) (by kernel_rfl) (by kernel_rfl)

set_option maxRecDepth 100000 in
theorem liftedB (os : Os) (started : os.Started) (H : Type) (enc : TypeId × Value → H) :
    ReturnsInHanded {} Ybad.checked os 4 .any (fun w args => (Rows.lawS5982BWholeSpec.pre enc Ybad.prog Ybad.f4 [] false w args ∧ laidMetH Ybad.prog Rows.lawS5982BWholeRow.laid w) ∧ sizedMet enc Ybad.prog Ybad.f4 (OpenSpec.ofChange Rows.lawS5982BWholeSpec) false w args)
      (Rows.lawS5982BWholeSpec.post enc Ybad.prog Ybad.f4 false true false false) := by
  refine returnsInHanded_of_change_and (C := Ybad.checked) (X := fun w _ => laidMetH Ybad.prog Rows.lawS5982BWholeRow.laid w) (fun _ _ _ hh h => h.of_heap hh) own started (by kernel_rfl) Ybad.func4
    (ChangeSpec.witness_shaped (enc := enc) (C := Ybad.checked) (os := os) (X := fun w _ => laidMetH Ybad.prog Rows.lawS5982BWholeRow.laid w) false (World.doorLaid Ybad.prog 400 os) #[] 8 rfl (World.shaped_of_RefB (by kernel_rfl) (by kernel_rfl)) (by kernel_rfl) (by kernel_rfl) (by kernel_rfl) (door_met os _)) ?_
  intro W base args ds gs before hval0 hW _ _ hL _
  have hW' := hW
  obtain ⟨p, q, hA0, hV, rfl, hfz, hnd⟩ := hW
  have hA : DataW.TrodAll enc Ybad.prog W 0 (fun _ => true) true Ybad.f4.params.toList args.toList ds p := hA0
  rw [Ybad.params4] at hA
  obtain ⟨hargs, rfl, rfl⟩ := trodAll_none hA
  obtain rfl : args = #[] := by cases args; simp_all
  obtain ⟨b, off, hLv⟩ := of_laid hL
  obtain ⟨g, t, cs, fuel, d, p, rfl, hg, ht, hv, htr, rfl⟩ := trodVars_one hV
  obtain rfl := Option.some.inj (gLevels.symm.trans hg)
  obtain rfl := Option.some.inj (tLevels.symm.trans ht)
  clear hA0 hval0
  refine (law_b b off W hLv).mono fun e W' ⟨he, bel⟩ => ?_
  subst he
  have lt0 : ∀ x ∈ p, x.block < W.heap.size := DataW.trod_lt _ _ _ _ htr
  have hcs : ∃ v : Value, cs = #[v] ∧ v.cells.toList = [v] := by
    rcases DataW.trod_slice Ybad.underlying52 htr with ⟨h, _⟩ | ⟨a, len, cap, elems, rest, n, _, h, _⟩
    · exact ⟨_, Array.eq_one_of_toList h, rfl⟩
    · exact ⟨_, Array.eq_one_of_toList h, rfl⟩
  obtain ⟨v, rfl, hv1⟩ := hcs
  have hT : DataW.Trod enc Ybad.prog W 0 (fun _ => true) true 52 v d p := ⟨fuel, by rw [hv1]; exact htr⟩
  obtain ⟨fuel', hT'⟩ := Below.trod laidOut (by kernel_rfl) (of_decide_eq_true (by kernel_rfl)) hT bel lt0
  rw [hv1] at hT'
  have hv' := var?_below bel hg hLv.h1 hv
  exact ⟨_, rfl, _, _, _, [], [], _, hW', trodAll_mk1 (shut_bool Ybad.underlying4 _), trodAll_mk0, trodVars_mk1 hg ht hv' hT', bel.frame _, fun h => by cases h⟩

theorem lawB_holds : Rows.LawS5982BWholeSaid :=
  OpenClaim.holds_of_wide 4 Ybad.f4 rfl rfl rfl rfl rfl rfl rfl ⟨rfl, rfl, rfl, rfl, rfl⟩ rfl rfl rfl rfl rfl (by kernel_rfl) Ybad.func4 (by kernel_rfl)
    (of_decide_eq_true (by kernel_rfl)) (by unfold Func.isWrapper; first | (rw [if_pos (by decide +kernel)]; kernel_rfl) | (rw [if_neg (by decide +kernel)]; exact ⟨rfl, rfl⟩))
    (fun os started H enc _ => liftedB os started H enc)
#print axioms lawB_holds

theorem cardB_holds : Rows.LawS5982BWholeCardSaid :=
  Claim7.holds_tied_plain_at .later [] [.data] true (true, "20e08ee7f912ce0a5aacb56c84e70a1cc5266bbd2769c5c5c1c3a134cd1405a7") false
    lawB_holds (fun _ h => by cases h) (by kernel_rfl) (fun _ h => by cases h) lawS5982BWhole_row_tie rfl ⟨rfl, rfl⟩ (by kernel_rfl) rfl
    (fun f fn hf hfn => by
      obtain rfl : f = 4 := Option.some.inj ((show Ybad.prog.funcNamed Rows.lawS5982BWholeRow.func = some 4 by kernel_rfl).symm.trans hf) |>.symm
      obtain rfl : fn = Ybad.f4 := (Option.some.inj (Ybad.func4.symm.trans hfn)).symm
      exact ⟨by kernel_rfl, fun j t ht => by
        rw [Ybad.params4] at ht
        simp at ht⟩)
    (by kernel_rfl)
#print axioms cardB_holds
end Go.Proofs.YbulkdswcDoor
