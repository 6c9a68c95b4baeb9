import Derived.Test.YbulkdsyuOpenC
import Derived.Test.YbulkdsyuC8
namespace Go.Proofs.Ybulkdsyu
open Go Go.ChangeShapes Go.WideShapes Go.ChangeAt Go.RowKit

namespace lawC

theorem own : ownKnob Yba.prog.godebug = none := by kernel_rfl
theorem laidOut : laidOutB Yba.prog = true := by kernel_rfl

set_option maxRecDepth 100000 in
set_option maxHeartbeats 2000000 in
theorem lifted (os : Os) (started : os.Started) (H : Type) (enc : TypeId × Value → H) :
    ReturnsInHanded {} Yba.checked os 5 .any (Rows.lawS5987CWholeSpec.pre6 enc Yba.prog Yba.f5 Rows.lawS5987CWholeRow.domain false) (Rows.lawS5987CWholeSpec.post enc Yba.prog Yba.f5 false true false false) := by
  refine returnsInHanded_of_change_sized (C := Yba.checked) own started (by kernel_rfl) Yba.func5
    (ChangeSpec.witness6 (enc := enc) (C := Yba.checked) false ⟨#[], #[.int .u8 0, .int .u64 0, .slice none 0 0, .slice none 0 0, .bool false, .slice none 0 0, .slice none 0 0], []⟩ 8 (by kernel_rfl) (by kernel_rfl) (by kernel_rfl) (by kernel_rfl)) ?_
  intro W base args ds gs before hval0 hW hcnd hsz0 _
  have hsz : (DataW.weightsEach Yba.prog (Yba.f5.params.toList ++ Rows.lawS5987CWholeSpec.plain.varTypes Yba.prog) (ds ++ gs)).all (· ≤ reachBytes) = true := hsz0
  have hval : ∀ (j : Nat) t v, Yba.f5.params[j]? = some t → args[j]? = some v → Value.okWide Yba.prog W .any base t v := hval0
  have hW' := hW
  obtain ⟨p, q, hA0, hV, rfl, hfz, hnd⟩ := hW
  have hA : DataW.TrodAll enc Yba.prog W 0 (fun _ => true) true Yba.f5.params.toList args.toList ds p := hA0
  rw [Yba.params5] at hA hval hsz
  obtain ⟨v0, vs0, d0, ds0, p0, q0, hargs, rfl, rfl, h0, r0⟩ := trodAll_cons hA
  obtain ⟨v1, vs1, d1, ds1, p1, q1, rfl, rfl, rfl, h1, r1⟩ := trodAll_cons r0
  obtain ⟨v2, vs2, d2, ds2, p2, q2, rfl, rfl, rfl, h2, r2⟩ := trodAll_cons r1
  obtain ⟨v3, vs3, d3, ds3, p3, q3, rfl, rfl, rfl, h3, r3⟩ := trodAll_cons r2
  obtain ⟨v4, vs4, d4, ds4, p4, q4, rfl, rfl, rfl, h4, r4⟩ := trodAll_cons r3
  obtain ⟨v5, vs5, d5, ds5, p5, q5, rfl, rfl, rfl, h5, r5⟩ := trodAll_cons r4
  obtain ⟨v6, vs6, d6, ds6, p6, q6, rfl, rfl, rfl, h6, r6⟩ := trodAll_cons r5
  obtain ⟨rfl, rfl, rfl⟩ := trodAll_nil r6
  obtain rfl : args = #[v0, v1, v2, v3, v4, v5, v6] := by cases args; simp_all
  obtain ⟨rfl, rfl⟩ := trodVars_none hV
  obtain ⟨a2, len2, cap2, rfl⟩ := okWide_slice Yba.underlying66 (hval 2 66 v2 rfl rfl)
  obtain ⟨a3, len3, cap3, rfl⟩ := okWide_slice Yba.underlying55 (hval 3 55 v3 rfl rfl)
  obtain ⟨a5, len5, cap5, rfl⟩ := okWide_slice Yba.underlying67 (hval 5 67 v5 rfl rfl)
  obtain ⟨a6, len6, cap6, rfl⟩ := okWide_slice Yba.underlying67 (hval 6 67 v6 rfl rfl)
  have k2 := h2
  have k3 := h3
  have k5 := h5
  have k6 := h6
  have lt2 : ∀ x ∈ p2, x.block < W.heap.size := by obtain ⟨m, hm⟩ := k2; exact DataW.trod_lt m _ _ _ hm
  have lt3 : ∀ x ∈ p3, x.block < W.heap.size := by obtain ⟨m, hm⟩ := k3; exact DataW.trod_lt m _ _ _ hm
  have lt5 : ∀ x ∈ p5, x.block < W.heap.size := by obtain ⟨m, hm⟩ := k5; exact DataW.trod_lt m _ _ _ hm
  have lt6 : ∀ x ∈ p6, x.block < W.heap.size := by obtain ⟨m, hm⟩ := k6; exact DataW.trod_lt m _ _ _ hm
  have w2 : ∀ x ∈ d2.weights Yba.prog 66, x ≤ reachBytes := fun x hx => by
    have := List.all_eq_true.1 hsz x (DataW.weights_mem_each (j := 2) (t := 66) (d := d2) rfl rfl x hx)
    simpa using this
  have w3 : ∀ x ∈ d3.weights Yba.prog 55, x ≤ reachBytes := fun x hx => by
    have := List.all_eq_true.1 hsz x (DataW.weights_mem_each (j := 3) (t := 55) (d := d3) rfl rfl x hx)
    simpa using this
  have w5 : ∀ x ∈ d5.weights Yba.prog 67, x ≤ reachBytes := fun x hx => by
    have := List.all_eq_true.1 hsz x (DataW.weights_mem_each (j := 5) (t := 67) (d := d5) rfl rfl x hx)
    simpa using this
  have w6 : ∀ x ∈ d6.weights Yba.prog 67, x ≤ reachBytes := fun x hx => by
    have := List.all_eq_true.1 hsz x (DataW.weights_mem_each (j := 6) (t := 67) (d := d6) rfl rfl x hx)
    simpa using this
  obtain ⟨z0, rfl, rfl, rfl, wf0⟩ := open_int Yba.underlying5 (hval 0 5 v0 rfl rfl) h0
  obtain ⟨z1, rfl, rfl, rfl, wf1⟩ := open_int Yba.underlying65 (hval 1 65 v1 rfl rfl) h1
  obtain ⟨z4, rfl, rfl, rfl⟩ := open_bool Yba.underlying4 (hval 4 4 v4 rfl rfl) h4
  clear hA0 hval0
  have hwalk : Calls Yba.prog 5 #[.int .u8 z0, .int .u64 z1, .slice a2 len2 cap2, .slice a3 len3 cap3, .bool z4, .slice a5 len5 cap5, .slice a6 len6 cap6] W fun e w' => e = .returned (.bool true) ∧ Below W.heap.size W w' := by
    have b0 := bounds_u8 wf0
    have b1 := bounds_u64 wf1
    obtain ⟨nn, rfl⟩ : ∃ nn : Nat, z0 = (nn : Int) := ⟨z0.toNat, by omega⟩
    obtain ⟨kn, rfl⟩ : ∃ kn : Nat, z1 = (kn : Int) := ⟨z1.toNat, by omega⟩
    obtain ⟨m2, f2⟩ := h2
    obtain ⟨m3, f3⟩ := h3
    obtain ⟨m5, f5⟩ := h5
    obtain ⟨m6, f6⟩ := h6
    obtain ⟨qp, ql, qc, qf, hprev, hrows, hb2⟩ := rows_of f2
    obtain ⟨q3, l3, c3, xs, e3, hxs, hint, hb3⟩ := ints_of f3
    simp only [Value.slice.injEq] at e3
    obtain ⟨rfl, rfl, rfl⟩ := e3
    obtain ⟨fi, hfi, hb5⟩ := ids_of f5
    obtain ⟨fk, hfk, hb6⟩ := ids_of f6
    exact lawC_main nn kn (by omega) (by omega) a2 len2 cap2 qp ql qc qf a3 len3 cap3 xs z4 a5 len5 cap5 fi a6 len6 cap6 fk W (hb2 w2).1 (hb3 w3) (hb5 w5) (hb6 w6) (hb2 w2).2 ⟨hprev, hrows, hxs, hint, hfi, hfk⟩
  refine hwalk.mono fun e W' ⟨he, bel⟩ => ?_
  subst he
  exact ⟨_, rfl, _, _, _, [], _, [], hW', trodAll_mk1 (shut_bool Yba.underlying4 _),
    (trodAll_cons_mk (shut_int Yba.underlying5 wf0) (trodAll_cons_mk (shut_int Yba.underlying65 wf1)
      (trodAll_cons_mk (Below.trod laidOut (by kernel_rfl) (of_decide_eq_true (by kernel_rfl)) k2 bel lt2) (trodAll_cons_mk (Below.trod laidOut (by kernel_rfl) (of_decide_eq_true (by kernel_rfl)) k3 bel lt3)
        (trodAll_cons_mk (shut_bool Yba.underlying4 _) (trodAll_cons_mk (Below.trod laidOut (by kernel_rfl) (of_decide_eq_true (by kernel_rfl)) k5 bel lt5) (trodAll_cons_mk (Below.trod laidOut (by kernel_rfl) (of_decide_eq_true (by kernel_rfl)) k6 bel lt6) trodAll_mk0))))))), rfl, bel.frame _, fun h => by cases h⟩

theorem over : Rows.lawS5987CWholeRow.holds Yba.pinned (OpenSpec.ofChange Rows.lawS5987CWholeSpec) :=
  OpenClaim.holds_of_wide 5 Yba.f5 rfl rfl rfl rfl rfl rfl rfl ⟨rfl, rfl, rfl, rfl, rfl⟩ rfl rfl rfl rfl rfl (by kernel_rfl) Yba.func5 (by kernel_rfl)
    (of_decide_eq_true (by kernel_rfl)) (by unfold Func.isWrapper; first | (rw [if_pos (by decide +kernel)]; kernel_rfl) | (rw [if_neg (by decide +kernel)]; exact ⟨rfl, rfl⟩))
    (fun os started H enc _ => lifted os started H enc)
end lawC

theorem lawC_holds : Rows.LawS5987CWholeSaid := lawC.over
#print axioms lawC_holds
end Go.Proofs.Ybulkdsyu
