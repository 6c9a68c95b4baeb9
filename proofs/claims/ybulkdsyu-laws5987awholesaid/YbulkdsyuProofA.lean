import Derived.Test.YbulkdsyuRows
import Derived.Test.YbulkdsyuWalkA
import Derived.ProofKit
import Derived.OpenShut
import Derived.ChangeOld
import Derived.Deep.Slices
namespace Go.Proofs.Ybulkdsyu
open Go Go.ChangeShapes Go.WideShapes Go.ChangeAt Go.RowKit

namespace lawA

theorem cells_list {w : World} {a : Addr} {n : Nat} {cs : List Value} (h : w.cells? 0 a n = some cs) : cs.length = n ∧ ∀ j, j < n → w.cell? (a.add j) = cs[j]? := by
  unfold World.cells? at h
  rw [if_pos (Nat.zero_le _)] at h
  have key : ∀ (l : List Nat) (cs : List Value), l.mapM (fun i => w.cell? (a.add i)) = some cs → cs.length = l.length ∧ ∀ j i : Nat, l[j]? = some i → w.cell? (a.add i) = cs[j]? := by
    intro l
    induction l with
    | nil =>
      intro cs h
      simp at h
      subst h
      exact ⟨rfl, fun j i hj => by simp at hj⟩
    | cons x l ih =>
      intro cs h
      rw [List.mapM_cons] at h
      cases h0 : w.cell? (a.add x) with
      | none => simp [h0] at h
      | some v =>
        cases h1 : l.mapM (fun i => w.cell? (a.add i)) with
        | none => simp [h0, h1] at h
        | some vs =>
          simp [h0, h1] at h
          subst h
          obtain ⟨hl, hj⟩ := ih vs h1
          refine ⟨by simp [hl], fun j i hji => ?_⟩
          cases j with
          | zero => simp at hji; subst hji; simpa using h0
          | succ j => simp at hji ⊢; exact hj j i hji
  obtain ⟨h1, h2⟩ := key _ _ h
  refine ⟨by simpa using h1, fun j hj => h2 j j (by simp [hj])⟩

theorem cells21 : Yba.prog.cellsOf 21 = 1 := by kernel_rfl
theorem cells26 : Yba.prog.cellsOf 26 = 5 := by kernel_rfl

/-- One field of one message. -/
theorem field_of {H : Type} {enc : TypeId × Value → H} {w : World} {a : Addr} {sp : Nat → Bool} {held : Bool} {n : Nat} {y : DataW H × List MemPlace}
    (h : (w.cells? 0 a 5).bind (DataW.trod enc Yba.prog w 0 sp held n 26) = some y) : ∀ j, j < 5 → ∃ v : Int, w.cell? (a.add j) = some (.int .i32 v) := by
  simp only [Option.bind_eq_some_iff] at h
  obtain ⟨cs, hcs, ht⟩ := h
  obtain ⟨hl, hcell⟩ := cells_list hcs
  obtain ⟨xs, m, _, _, _, hxs, hf⟩ := DataW.trod_struct Yba.underlying26 ht
  have hx5 : xs.length = 5 := by simpa using hxs
  intro j hj
  have hg : ∃ x, DataW.trod enc Yba.prog w 0 sp held m 21 ((cs.drop j).take 1) = some x := by
    match j, hj with
    | 0, _ =>
      have h0 : DataW.trod enc Yba.prog w 0 sp held m 21 ((cs.drop 0).take (Yba.prog.cellsOf 21)) = xs[0]? := hf 0 _ rfl
      rw [cells21] at h0
      exact ⟨xs[0], by rw [h0]; simp [hx5]⟩
    | 1, _ =>
      have h0 : DataW.trod enc Yba.prog w 0 sp held m 21 ((cs.drop 1).take (Yba.prog.cellsOf 21)) = xs[1]? := hf 1 _ rfl
      rw [cells21] at h0
      exact ⟨xs[1], by rw [h0]; simp [hx5]⟩
    | 2, _ =>
      have h0 : DataW.trod enc Yba.prog w 0 sp held m 21 ((cs.drop 2).take (Yba.prog.cellsOf 21)) = xs[2]? := hf 2 _ rfl
      rw [cells21] at h0
      exact ⟨xs[2], by rw [h0]; simp [hx5]⟩
    | 3, _ =>
      have h0 : DataW.trod enc Yba.prog w 0 sp held m 21 ((cs.drop 3).take (Yba.prog.cellsOf 21)) = xs[3]? := hf 3 _ rfl
      rw [cells21] at h0
      exact ⟨xs[3], by rw [h0]; simp [hx5]⟩
    | 4, _ =>
      have h0 : DataW.trod enc Yba.prog w 0 sp held m 21 ((cs.drop 4).take (Yba.prog.cellsOf 21)) = xs[4]? := hf 4 _ rfl
      rw [cells21] at h0
      exact ⟨xs[4], by rw [h0]; simp [hx5]⟩
  obtain ⟨x, hx⟩ := hg
  obtain ⟨v, hv, _, _⟩ := DataW.trod_int Yba.underlying21 hx
  refine ⟨v, ?_⟩
  rw [hcell j hj]
  have hjl : j < cs.length := by omega
  rw [List.drop_eq_getElem_cons hjl, List.take_succ_cons, List.take_zero] at hv
  simp only [List.cons.injEq, and_true] at hv
  rw [List.getElem?_eq_getElem hjl, hv]

/-- What the walk is told of the messages that came in. -/
theorem open_msgs {H : Type} {enc : TypeId × Value → H} {w : World} {sp : Nat → Bool} {held : Bool} {fuel : Nat} {a : Option Addr} {len cap : Nat} {x : DataW H × List MemPlace}
    (h : DataW.trod enc Yba.prog w 0 sp held fuel 22 [.slice a len cap] = some x) :
    len = 0 ∨ ∃ b off, a = some ⟨b, off, none⟩ ∧ b < w.heap.size ∧ ∃ f : Nat → Int, ∀ c, c < len * 5 → w.cell? ⟨b, off + c, none⟩ = some (.int .i32 (f c)) := by
  rcases DataW.trod_slice Yba.underlying22 h with ⟨h1, _⟩ | ⟨ad, len', cap', elems, rest, n, _, hcs, _, _, hl, _, hlen, hel, _, _⟩
  · simp at h1
    exact .inl h1.2.1
  simp only [List.cons.injEq, Value.slice.injEq, and_true] at hcs
  obtain ⟨rfl, rfl, rfl⟩ := hcs
  by_cases h0 : len = 0
  · exact .inl h0
  refine .inr ?_
  rw [cells26] at hel
  have hall : ∀ c, c < len * 5 → ∃ v : Int, w.cell? (ad.add c) = some (.int .i32 v) := by
    intro c hc
    have hi : c / 5 < len := by omega
    have he := hel (c / 5) hi
    have hx : elems[c / 5]? = some (elems[c / 5]'(by omega)) := List.getElem?_eq_getElem _
    rw [hx] at he
    obtain ⟨v, hv⟩ := field_of he (c % 5) (Nat.mod_lt _ (by decide))
    rw [Deep.add_add] at hv
    have : c / 5 * 5 + c % 5 = c := by omega
    rw [this] at hv
    exact ⟨v, hv⟩
  obtain ⟨f, hf⟩ := Deep.choose_lt hall
  obtain ⟨b, off, spot⟩ := ad
  have h00 := hf 0 (by omega)
  have hspot : spot = none := by simpa [Addr.add] using World.cell?_spot h00
  subst hspot
  refine ⟨b, off, rfl, ?_, f, fun c hc => ?_⟩
  · have := block_lt_of_cell h00
    simpa [Addr.add] using this
  · have := hf c hc
    rwa [Addr.add_lit] at this

set_option maxHeartbeats 1000000 in
theorem walk_zero (a : Option Addr) (cap : Nat) (m : Int) (w : World) :
    Calls Yba.prog 3 #[.slice a 0 cap, .int .u64 m] w fun e w' => e = .returned (.bool true) ∧ Below w.heap.size w w' := by
  go_enter Yba.func3, Yba.ntmps3
  go_wp2
  go_ret
  exact ⟨rfl, Below.refl _ _⟩

set_option maxHeartbeats 1000000 in
theorem walk_big (a : Option Addr) (len cap : Nat) (m : Int) (w : World) (h : 1048576 < len) :
    Calls Yba.prog 3 #[.slice a len cap, .int .u64 m] w fun e w' => e = .returned (.bool true) ∧ Below w.heap.size w w' := by
  have h1 : (1048576 : Int) < (len : Int) := by omega
  go_enter Yba.func3, Yba.ntmps3
  go_wp2
  go_ret
  exact ⟨rfl, Below.refl _ _⟩

theorem own : ownKnob Yba.prog.godebug = none := by kernel_rfl
theorem laidOut : laidOutB Yba.prog = true := by kernel_rfl

set_option maxRecDepth 100000 in
theorem lifted (os : Os) (started : os.Started) (H : Type) (enc : TypeId × Value → H) :
    ReturnsInHanded {} Yba.checked os 3 .any (Rows.lawS5987AWholeSpec.pre6 enc Yba.prog Yba.f3 Rows.lawS5987AWholeRow.domain false) (Rows.lawS5987AWholeSpec.post enc Yba.prog Yba.f3 false true false false) := by
  refine returnsInHanded_of_change (C := Yba.checked) own started (by kernel_rfl) Yba.func3
    (ChangeSpec.witness6 (enc := enc) (C := Yba.checked) false ⟨#[], #[.slice none 0 0, .int .u64 0], []⟩ 8 (by kernel_rfl) (by kernel_rfl) (by kernel_rfl) (by kernel_rfl)) ?_
  intro W base args ds gs before hval0 hW hcnd _
  have hval : ∀ (j : Nat) t v, Yba.f3.params[j]? = some t → args[j]? = some v → Value.okWide Yba.prog W .any base t v := hval0
  have hW' := hW
  obtain ⟨p, q, hA0, hV, rfl, hfz, hnd⟩ := hW
  have hA : DataW.TrodAll enc Yba.prog W 0 (fun _ => true) true Yba.f3.params.toList args.toList ds p := hA0
  rw [Yba.params3] at hA hval
  obtain ⟨v0, vs0, d0, ds0, p0, q0, hargs, rfl, rfl, h0, r0⟩ := trodAll_cons hA
  obtain ⟨v1, vs1, d1, ds1, p1, q1, rfl, rfl, rfl, h1, r1⟩ := trodAll_cons r0
  obtain ⟨rfl, rfl, rfl⟩ := trodAll_nil r1
  obtain rfl : args = #[v0, v1] := by cases args; simp_all
  obtain ⟨rfl, rfl⟩ := trodVars_none hV
  obtain ⟨a0, len0, cap0, rfl⟩ := okWide_slice Yba.underlying22 (hval 0 22 v0 rfl rfl)
  have k0 := h0
  have lt0 : ∀ x ∈ p0, x.block < W.heap.size := by obtain ⟨m, hm⟩ := k0; exact DataW.trod_lt m _ _ _ hm
  obtain ⟨a1, rfl, rfl, rfl, w1⟩ := open_int Yba.underlying23 (hval 1 23 v1 rfl rfl) h1
  clear hA0 hval0
  have hwalk : Calls Yba.prog 3 #[.slice a0 len0 cap0, .int .u64 a1] W fun e w' => e = .returned (.bool true) ∧ Below W.heap.size W w' := by
    obtain ⟨fuel, hf⟩ := h0
    rcases open_msgs hf with rfl | ⟨b, off, rfl, hb, f, hc⟩
    · exact walk_zero _ _ _ _
    · rcases Nat.lt_or_ge 1048576 len0 with hbig | hle
      · exact walk_big _ _ _ _ _ hbig
      · rcases Nat.eq_zero_or_pos len0 with rfl | hpos
        · exact walk_zero _ _ _ _
        · have hb1 := bounds_u64 w1
          exact walkA b off len0 cap0 f a1 W hpos hle hc hb (by omega) (by omega)
  refine hwalk.mono fun e W' ⟨he, bel⟩ => ?_
  subst he
  exact ⟨_, rfl, _, _, _, [], _, [], hW', trodAll_mk1 (shut_bool Yba.underlying4 _), (trodAll_cons_mk (Below.trod laidOut (by kernel_rfl) (of_decide_eq_true (by kernel_rfl)) k0 bel lt0) (trodAll_cons_mk (shut_int Yba.underlying23 w1) trodAll_mk0)), rfl, bel.frame _, fun h => by cases h⟩

theorem over : Rows.lawS5987AWholeRow.holds Yba.pinned (OpenSpec.ofChange Rows.lawS5987AWholeSpec) :=
  OpenClaim.holds_of_wide 3 Yba.f3 rfl rfl rfl rfl rfl rfl rfl ⟨rfl, rfl, rfl, rfl, rfl⟩ rfl rfl rfl rfl rfl (by kernel_rfl) Yba.func3 (by kernel_rfl)
    (of_decide_eq_true (by kernel_rfl)) (by unfold Func.isWrapper; first | (rw [if_pos (by decide +kernel)]; kernel_rfl) | (rw [if_neg (by decide +kernel)]; exact ⟨rfl, rfl⟩))
    (fun os started H enc _ => lifted os started H enc)

end lawA

theorem lawA_holds : Rows.LawS5987AWholeSaid := lawA.over
#print axioms lawA_holds
end Go.Proofs.Ybulkdsyu
