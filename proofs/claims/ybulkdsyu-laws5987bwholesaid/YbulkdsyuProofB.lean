import Derived.Test.YbulkdsyuRows
import Derived.Test.YbulkdsyuB9
import Derived.ProofKit
import Derived.OpenShut
import Derived.ChangeOld
import Derived.SizedLaws
import Derived.Deep.Slices
namespace Go.Proofs.Ybulkdsyu
open Go Go.ChangeShapes Go.WideShapes Go.ChangeAt Go.RowKit

namespace lawB

theorem cells5 : Yba.prog.cellsOf 5 = 1 := by kernel_rfl
theorem cells33 : Yba.prog.cellsOf 33 = 1 := by kernel_rfl
theorem bytes5 : Yba.prog.bytesOf 5 = 1 := by kernel_rfl

/-- One slice of bytes that came in. -/
theorem bytes_of {H : Type} {enc : TypeId × Value → H} {w : World} {sp : Nat → Bool} {held : Bool} {fuel : Nat} {v : Value} {d : DataW H} {p : List MemPlace}
    (h : DataW.trod enc Yba.prog w 0 sp held fuel 33 [v] = some (d, p)) :
    ∃ q len cap s, v = .slice q len cap ∧ Reads (Under w.heap.size) w v s ∧ s.size = len ∧ ((∀ x ∈ d.weights Yba.prog 33, x ≤ reachBytes) → len ≤ 140737488355328) := by
  rcases open_ints Yba.underlying33 Yba.underlying5 cells5 h with ⟨hcs, _⟩ | ⟨a, len, cap, zs, hcs, _, hl, hm, hz, hx, hcell, _⟩
  · simp only [List.cons.injEq, and_true] at hcs
    subst hcs
    exact ⟨none, 0, 0, strOfNums [], rfl, .inl ⟨rfl, rfl⟩, by rw [strOfNums_size]; rfl, fun _ => Nat.zero_le _⟩
  · simp only [List.cons.injEq, and_true] at hcs
    subst hcs
    have hlz : len ≤ zs.length := by rw [hz]; split <;> omega
    refine ⟨some a, len, cap, strOfNums (zs.take len), rfl, .inr ⟨a, len, cap, zs.take len, rfl, by simp; omega, rfl, fun i hi => ?_⟩, by rw [strOfNums_size]; simp; omega, fun hw => ?_⟩
    · have hc := hcell i (by omega)
      have hlt := block_lt_of_cell hc
      rw [add_block] at hlt
      refine ⟨hlt, ?_⟩
      rw [hc]
      simp [List.getD_eq_getElem?_getD, hi]
    · simp only [Prod.mk.injEq] at hx
      obtain ⟨rfl, _⟩ := hx
      have := hw (((lits (H := H) .u8 (zs.take len)).length + (lits (H := H) .u8 (zs.drop len)).length) * Yba.prog.bytesOf 5) (by simp [DataW.weights, Yba.underlying33])
      rw [bytes5] at this
      simp [lits, reachBytes] at this
      omega

theorem weightsAll_mem {H : Type} {P : Program} {e : TypeId} : ∀ {ds : List (DataW H)} {d : DataW H}, d ∈ ds → ∀ x ∈ d.weights P e, x ∈ DataW.weightsAll P e ds
  | d0 :: ds, d, hd, x, hx => by
    simp only [DataW.weightsAll, List.mem_append]
    simp only [List.mem_cons] at hd
    rcases hd with rfl | hd
    · exact .inl hx
    · exact .inr (weightsAll_mem hd x hx)

/-- The script that came in. -/
theorem script_of {H : Type} {enc : TypeId × Value → H} {w : World} {sp : Nat → Bool} {held : Bool} {fuel : Nat} {a : Option Addr} {len cap : Nat} {d : DataW H} {p : List MemPlace}
    (h : DataW.trod enc Yba.prog w 0 sp held fuel 32 [.slice a len cap] = some (d, p)) :
    ∃ (ap : Nat → Option Addr) (al ac : Nat → Nat) (ax : Nat → ByteArray), Script w a len ap al ac ax ∧ len ≤ 9223372036854775807 ∧ ((∀ x ∈ d.weights Yba.prog 32, x ≤ reachBytes) → ∀ i, i < len → al i ≤ 140737488355328) := by
  rcases Deep.open_slice1 Yba.underlying32 cells33 h with ⟨hcs, _⟩ | ⟨ad, len', cap', m, n, C, D, Pl, hcs, _, hl, hm, hmm, hx, hel⟩
  · simp only [List.cons.injEq, Value.slice.injEq, and_true] at hcs
    obtain ⟨rfl, rfl, rfl⟩ := hcs
    exact ⟨fun _ => none, fun _ => 0, fun _ => 0, fun _ => ByteArray.empty, ⟨fun i hi => by omega, fun i hi => by omega, fun i hi => by omega⟩, by omega, fun _ i hi => by omega⟩
  simp only [List.cons.injEq, Value.slice.injEq, and_true] at hcs
  obtain ⟨rfl, rfl, rfl⟩ := hcs
  have hlm : len ≤ m := by rw [hmm]; split <;> omega
  have hall : ∀ i, i < len → ∃ t : Option Addr × Nat × Nat × ByteArray, C i = .slice t.1 t.2.1 t.2.2.1 ∧ Reads (Under w.heap.size) w (C i) t.2.2.2 ∧ t.2.2.2.size = t.2.1 ∧ ((∀ x ∈ (D i).weights Yba.prog 33, x ≤ reachBytes) → t.2.1 ≤ 140737488355328) := by
    intro i hi
    obtain ⟨_, ht⟩ := hel i (by omega)
    obtain ⟨q, l, c, s, h1, h2, h3, h4⟩ := bytes_of ht
    exact ⟨(q, l, c, s), h1, h2, h3, h4⟩
  obtain ⟨T, hT⟩ := Deep.choose_lt hall
  refine ⟨fun i => (T i).1, fun i => (T i).2.1, fun i => (T i).2.2.1, fun i => (T i).2.2.2, ⟨fun i hi => ?_, fun i hi => ?_, fun i hi => (hT i hi).2.2.1⟩, by unfold maxLen at hm; omega, fun hw i hi => ?_⟩
  · obtain ⟨hc, _⟩ := hel i (by omega)
    obtain ⟨b, off, spot⟩ := ad
    have h00 := (hel 0 (by omega)).1
    have hspot : spot = none := by simpa [Addr.add] using World.cell?_spot h00
    subst hspot
    refine ⟨b, off, rfl, ?_, ?_⟩
    · have := block_lt_of_cell hc
      rwa [add_block] at this
    · rw [Addr.add_lit] at hc
      rw [hc, (hT i hi).1]
  · have := (hT i hi).2.1
    rw [(hT i hi).1] at this
    exact this
  · refine (hT i hi).2.2.2 fun x hx1 => hw x ?_
    simp only [Prod.mk.injEq] at hx
    rw [hx.1]
    simp only [DataW.weights, Yba.underlying32, List.mem_cons, List.mem_append]
    exact .inr (.inl (weightsAll_mem (List.mem_map.2 ⟨i, by simpa using hi, rfl⟩) x hx1))

theorem own : ownKnob Yba.prog.godebug = none := by kernel_rfl
theorem laidOut : laidOutB Yba.prog = true := by kernel_rfl

set_option maxRecDepth 100000 in
theorem lifted (os : Os) (started : os.Started) (H : Type) (enc : TypeId × Value → H) :
    ReturnsInHanded {} Yba.checked os 4 .any (Rows.lawS5987BWholeSpec.pre6 enc Yba.prog Yba.f4 Rows.lawS5987BWholeRow.domain false) (Rows.lawS5987BWholeSpec.post enc Yba.prog Yba.f4 false true false false) := by
  refine returnsInHanded_of_change_sized (C := Yba.checked) own started (by kernel_rfl) Yba.func4
    (ChangeSpec.witness6 (enc := enc) (C := Yba.checked) false ⟨#[], #[.slice none 0 0, .slice none 0 0], []⟩ 8 (by kernel_rfl) (by kernel_rfl) (by kernel_rfl) (by kernel_rfl)) ?_
  intro W base args ds gs before hval0 hW hcnd hsz0 _
  have hsz : (DataW.weightsEach Yba.prog (Yba.f4.params.toList ++ Rows.lawS5987BWholeSpec.plain.varTypes Yba.prog) (ds ++ gs)).all (· ≤ reachBytes) = true := hsz0
  have hval : ∀ (j : Nat) t v, Yba.f4.params[j]? = some t → args[j]? = some v → Value.okWide Yba.prog W .any base t v := hval0
  have hW' := hW
  obtain ⟨p, q, hA0, hV, rfl, hfz, hnd⟩ := hW
  have hA : DataW.TrodAll enc Yba.prog W 0 (fun _ => true) true Yba.f4.params.toList args.toList ds p := hA0
  rw [Yba.params4] at hA hval hsz
  obtain ⟨v0, vs0, d0, ds0, p0, q0, hargs, rfl, rfl, h0, r0⟩ := trodAll_cons hA
  obtain ⟨v1, vs1, d1, ds1, p1, q1, rfl, rfl, rfl, h1, r1⟩ := trodAll_cons r0
  obtain ⟨rfl, rfl, rfl⟩ := trodAll_nil r1
  obtain rfl : args = #[v0, v1] := by cases args; simp_all
  obtain ⟨rfl, rfl⟩ := trodVars_none hV
  obtain ⟨a0, len0, cap0, rfl⟩ := okWide_slice Yba.underlying32 (hval 0 32 v0 rfl rfl)
  obtain ⟨a1, len1, cap1, rfl⟩ := okWide_slice Yba.underlying33 (hval 1 33 v1 rfl rfl)
  have k0 := h0
  have k1 := h1
  have lt0 : ∀ x ∈ p0, x.block < W.heap.size := by obtain ⟨m, hm⟩ := k0; exact DataW.trod_lt m _ _ _ hm
  have lt1 : ∀ x ∈ p1, x.block < W.heap.size := by obtain ⟨m, hm⟩ := k1; exact DataW.trod_lt m _ _ _ hm
  have w0 : ∀ x ∈ d0.weights Yba.prog 32, x ≤ reachBytes := fun x hx => by
    have := List.all_eq_true.1 hsz x (DataW.weights_mem_each (j := 0) (t := 32) (d := d0) rfl rfl x hx)
    simpa using this
  have w1 : ∀ x ∈ d1.weights Yba.prog 33, x ≤ reachBytes := fun x hx => by
    have := List.all_eq_true.1 hsz x (DataW.weights_mem_each (j := 1) (t := 33) (d := d1) rfl rfl x hx)
    simpa using this
  clear hA0 hval0
  have hwalk : Calls Yba.prog 4 #[.slice a0 len0 cap0, .slice a1 len1 cap1] W fun e w' => e = .returned (.bool true) ∧ Below W.heap.size W w' := by
    obtain ⟨fuel, hf⟩ := h0
    obtain ⟨fuel1, hf1⟩ := h1
    obtain ⟨ap, al, ac, ax, hS, hmax, h47⟩ := script_of hf
    obtain ⟨q1, l1, c1, s1, e1, hR, hsz1, hb1⟩ := bytes_of hf1
    simp only [Value.slice.injEq] at e1
    obtain ⟨rfl, rfl, rfl⟩ := e1
    rcases Nat.lt_or_ge 4096 len0 with hbig | hle
    · exact lawB_big a0 len0 cap0 ap al ac ax a1 len1 cap1 W hbig hmax hS
    · rcases Nat.lt_or_ge 1048576 (len1 + len0 + sumTo al len0) with ht | ht
      · exact lawB_tot a0 len0 cap0 ap al ac ax a1 len1 cap1 W hle (hb1 w1) (h47 w0) ht hS
      · exact lawB_main a0 len0 cap0 ap al ac ax a1 len1 cap1 s1 W hle ht hS hR hsz1
  refine hwalk.mono fun e W' ⟨he, bel⟩ => ?_
  subst he
  exact ⟨_, rfl, _, _, _, [], _, [], hW', trodAll_mk1 (shut_bool Yba.underlying4 _), (trodAll_cons_mk (Below.trod laidOut (by kernel_rfl) (of_decide_eq_true (by kernel_rfl)) k0 bel lt0) (trodAll_cons_mk (Below.trod laidOut (by kernel_rfl) (of_decide_eq_true (by kernel_rfl)) k1 bel lt1) trodAll_mk0)), rfl, bel.frame _, fun h => by cases h⟩

theorem over : Rows.lawS5987BWholeRow.holds Yba.pinned (OpenSpec.ofChange Rows.lawS5987BWholeSpec) :=
  OpenClaim.holds_of_wide 4 Yba.f4 rfl rfl rfl rfl rfl rfl rfl ⟨rfl, rfl, rfl, rfl, rfl⟩ rfl rfl rfl rfl rfl (by kernel_rfl) Yba.func4 (by kernel_rfl)
    (of_decide_eq_true (by kernel_rfl)) (by unfold Func.isWrapper; first | (rw [if_pos (by decide +kernel)]; kernel_rfl) | (rw [if_neg (by decide +kernel)]; exact ⟨rfl, rfl⟩))
    (fun os started H enc _ => lifted os started H enc)
end lawB

theorem lawB_holds : Rows.LawS5987BWholeSaid := lawB.over
#print axioms lawB_holds
end Go.Proofs.Ybulkdsyu
