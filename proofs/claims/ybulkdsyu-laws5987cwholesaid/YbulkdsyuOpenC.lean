import Derived.Test.YbulkdsyuRows
import Derived.Test.YbulkdsyuC7
import Derived.ProofKit
import Derived.OpenShut
import Derived.ChangeOld
import Derived.SizedLaws
import Derived.Deep.Slices
namespace Go.Proofs.Ybulkdsyu
open Go Go.ChangeShapes Go.WideShapes Go.ChangeAt Go.RowKit

namespace lawC

theorem cells3 : Yba.prog.cellsOf 3 = 1 := by kernel_rfl
theorem cells65 : Yba.prog.cellsOf 65 = 1 := by kernel_rfl
theorem cells55 : Yba.prog.cellsOf 55 = 1 := by kernel_rfl
theorem cells72 : Yba.prog.cellsOf 72 = 2 := by kernel_rfl
theorem bytes3 : Yba.prog.bytesOf 3 = 8 := by kernel_rfl
theorem bytes55 : Yba.prog.bytesOf 55 = 24 := by kernel_rfl
theorem bytes72 : Yba.prog.bytesOf 72 = 16 := by kernel_rfl

/-- One slice of ints that came in. -/
theorem ints_of {H : Type} {enc : TypeId × Value → H} {w : World} {sp : Nat → Bool} {held : Bool} {fuel : Nat} {v : Value} {d : DataW H} {p : List MemPlace}
    (h : DataW.trod enc Yba.prog w 0 sp held fuel 55 [v] = some (d, p)) :
    ∃ q len cap, ∃ xs : List Int, v = .slice q len cap ∧ xs.length = len ∧ IntsAt w w.heap.size q len (fun i => xs.getD i 0) ∧ ((∀ x ∈ d.weights Yba.prog 55, x ≤ reachBytes) → len ≤ 140737488355328) := by
  rcases open_ints Yba.underlying55 Yba.underlying3 cells3 h with ⟨hcs, _⟩ | ⟨a, len, cap, zs, hcs, _, hl, hm, hz, hx, hcell, _⟩
  · simp only [List.cons.injEq, and_true] at hcs
    subst hcs
    exact ⟨none, 0, 0, [], rfl, rfl, fun i hi => by omega, fun _ => Nat.zero_le _⟩
  · simp only [List.cons.injEq, and_true] at hcs
    subst hcs
    have hlz : len ≤ zs.length := by rw [hz]; split <;> omega
    refine ⟨some a, len, cap, zs.take len, rfl, by simp; omega, fun i hi => ?_, fun hw => ?_⟩
    · have hc := hcell i (by omega)
      have hc0 := hcell 0 (by omega)
      obtain ⟨b, off, spot⟩ := a
      have hspot : spot = none := by simpa [Addr.add] using World.cell?_spot hc0
      subst hspot
      have hlt := block_lt_of_cell hc
      rw [add_block] at hlt
      refine ⟨b, off, rfl, hlt, ?_⟩
      rw [Addr.add_lit] at hc
      rw [hc]
      simp [List.getD_eq_getElem?_getD, hi]
    · simp only [Prod.mk.injEq] at hx
      obtain ⟨rfl, _⟩ := hx
      have := hw (((lits (H := H) .i64 (zs.take len)).length + (lits (H := H) .i64 (zs.drop len)).length) * Yba.prog.bytesOf 3) (by simp [DataW.weights, Yba.underlying55])
      rw [bytes3] at this
      simp [lits, reachBytes] at this
      omega

theorem weightsAll_mem {H : Type} {P : Program} {e : TypeId} : ∀ {ds : List (DataW H)} {d : DataW H}, d ∈ ds → ∀ x ∈ d.weights P e, x ∈ DataW.weightsAll P e ds
  | d0 :: ds, d, hd, x, hx => by
    simp only [DataW.weightsAll, List.mem_append]
    simp only [List.mem_cons] at hd
    rcases hd with rfl | hd
    · exact .inl hx
    · exact .inr (weightsAll_mem hd x hx)

/-- The rows that came in. -/
theorem rows_of {H : Type} {enc : TypeId × Value → H} {w : World} {sp : Nat → Bool} {held : Bool} {fuel : Nat} {a : Option Addr} {len cap : Nat} {d : DataW H} {p : List MemPlace}
    (h : DataW.trod enc Yba.prog w 0 sp held fuel 66 [.slice a len cap] = some (d, p)) :
    ∃ (qp : Nat → Option Addr) (ql qc : Nat → Nat) (qf : Nat → Nat → Int), (∀ i, i < len → ∃ b off, a = some ⟨b, off, none⟩ ∧ b < w.heap.size ∧ w.cell? ⟨b, off + i, none⟩ = some (.slice (qp i) (ql i) (qc i))) ∧
      (∀ i, i < len → IntsAt w w.heap.size (qp i) (ql i) (qf i)) ∧ ((∀ x ∈ d.weights Yba.prog 66, x ≤ reachBytes) → len ≤ 140737488355328 ∧ ∀ i, i < len → ql i ≤ 140737488355328) := by
  rcases Deep.open_slice1 Yba.underlying66 cells55 h with ⟨hcs, _⟩ | ⟨ad, len', cap', m, n, C, D, Pl, hcs, _, hl, hm, hmm, hx, hel⟩
  · simp only [List.cons.injEq, Value.slice.injEq, and_true] at hcs
    obtain ⟨rfl, rfl, rfl⟩ := hcs
    exact ⟨fun _ => none, fun _ => 0, fun _ => 0, fun _ _ => 0, fun i hi => by omega, fun i hi => by omega, fun _ => ⟨by omega, fun i hi => by omega⟩⟩
  simp only [List.cons.injEq, Value.slice.injEq, and_true] at hcs
  obtain ⟨rfl, rfl, rfl⟩ := hcs
  have hlm : len ≤ m := by rw [hmm]; split <;> omega
  have hall : ∀ i, i < len → ∃ t : Option Addr × Nat × Nat × List Int, C i = .slice t.1 t.2.1 t.2.2.1 ∧ IntsAt w w.heap.size t.1 t.2.1 (fun j => t.2.2.2.getD j 0) ∧ ((∀ x ∈ (D i).weights Yba.prog 55, x ≤ reachBytes) → t.2.1 ≤ 140737488355328) := by
    intro i hi
    obtain ⟨_, ht⟩ := hel i (by omega)
    obtain ⟨q, l, c, xs, h1, _, h3, h4⟩ := ints_of ht
    exact ⟨(q, l, c, xs), h1, h3, h4⟩
  obtain ⟨T, hT⟩ := Deep.choose_lt hall
  refine ⟨fun i => (T i).1, fun i => (T i).2.1, fun i => (T i).2.2.1, fun i j => (T i).2.2.2.getD j 0, fun i hi => ?_, fun i hi => (hT i hi).2.1, fun hw => ⟨?_, fun i hi => ?_⟩⟩
  · obtain ⟨hc, _⟩ := hel i (by omega)
    have h00 := (hel 0 (by omega)).1
    obtain ⟨b, off, spot⟩ := ad
    have hspot : spot = none := by simpa [Addr.add] using World.cell?_spot h00
    subst hspot
    refine ⟨b, off, rfl, ?_, ?_⟩
    · have := block_lt_of_cell hc
      rwa [add_block] at this
    · rw [Addr.add_lit] at hc
      rw [hc, (hT i hi).1]
  · simp only [Prod.mk.injEq] at hx
    rw [hx.1] at hw
    have := hw _ (by simp only [DataW.weights, Yba.underlying66]; exact List.mem_cons_self)
    rw [bytes55] at this
    simp [reachBytes] at this
    omega
  · refine (hT i hi).2.2 fun x hx1 => hw x ?_
    simp only [Prod.mk.injEq] at hx
    rw [hx.1]
    simp only [DataW.weights, Yba.underlying66, List.mem_cons, List.mem_append]
    exact .inr (.inl (weightsAll_mem (List.mem_map.2 ⟨i, by simpa using hi, rfl⟩) x hx1))

set_option maxRecDepth 100000 in
/-- One MessageID. -/
theorem id_of {H : Type} {enc : TypeId × Value → H} {w : World} {sp : Nat → Bool} {held : Bool} {n : Nat} {cs : List Value} {y : DataW H × List MemPlace}
    (h : DataW.trod enc Yba.prog w 0 sp held n 72 cs = some y) : ∃ k : Int × Int, KWf k ∧ cs = [.int .i64 k.1, .int .u64 k.2] := by
  obtain ⟨xs, m, _, _, hl, hxs, hf⟩ := DataW.trod_struct Yba.underlying72 h
  rw [cells72] at hl
  have hx2 : xs.length = 2 := by simpa using hxs
  match cs, hl with
  | [a, b], _ =>
    have h0 : DataW.trod enc Yba.prog w 0 sp held m 3 (([a, b].drop 0).take (Yba.prog.cellsOf 3)) = xs[0]? := hf 0 _ rfl
    have h1 : DataW.trod enc Yba.prog w 0 sp held m 65 (([a, b].drop 1).take (Yba.prog.cellsOf 65)) = xs[1]? := hf 1 _ rfl
    rw [cells3, List.getElem?_eq_getElem (show 0 < xs.length by omega)] at h0
    rw [cells65, List.getElem?_eq_getElem (show 1 < xs.length by omega)] at h1
    obtain ⟨x, hx, _, wx⟩ := DataW.trod_int Yba.underlying3 h0
    obtain ⟨z, hz, _, wz⟩ := DataW.trod_int Yba.underlying65 h1
    simp at hx hz
    exact ⟨(x, z), ⟨wx, wz⟩, by rw [hx, hz]⟩

/-- The MessageIDs that came in. -/
theorem ids_of {H : Type} {enc : TypeId × Value → H} {w : World} {sp : Nat → Bool} {held : Bool} {fuel : Nat} {a : Option Addr} {len cap : Nat} {d : DataW H} {p : List MemPlace}
    (h : DataW.trod enc Yba.prog w 0 sp held fuel 67 [.slice a len cap] = some (d, p)) :
    ∃ f : Nat → Int × Int, IdsAt w w.heap.size a len f ∧ ((∀ x ∈ d.weights Yba.prog 67, x ≤ reachBytes) → len ≤ 140737488355328) := by
  rcases Deep.open_slice Yba.underlying67 h with ⟨hcs, _⟩ | ⟨ad, len', cap', m, n, D, Pl, hcs, _, hl, hm, hmm, hx, hel⟩
  · simp only [List.cons.injEq, Value.slice.injEq, and_true] at hcs
    obtain ⟨rfl, rfl, rfl⟩ := hcs
    exact ⟨fun _ => (0, 0), fun i hi => by omega, fun _ => by omega⟩
  simp only [List.cons.injEq, Value.slice.injEq, and_true] at hcs
  obtain ⟨rfl, rfl, rfl⟩ := hcs
  have hlm : len ≤ m := by rw [hmm]; split <;> omega
  rw [cells72] at hel
  have hall : ∀ i, i < len → ∃ k : Int × Int, KWf k ∧ w.cells? 0 (ad.add (i * 2)) 2 = some [.int .i64 k.1, .int .u64 k.2] := by
    intro i hi
    obtain ⟨cs', h1, h2⟩ := hel i (by omega)
    obtain ⟨k, hk, e⟩ := id_of h2
    exact ⟨k, hk, by rw [h1, e]⟩
  obtain ⟨f, hf⟩ := Deep.choose_lt hall
  refine ⟨f, fun i hi => ⟨(hf i hi).1, ?_⟩, fun hw => ?_⟩
  · obtain ⟨_, _, hc⟩ := World.cells?_some (hf i hi).2
    have c0 := hc 0 (by omega)
    have c1 := hc 1 (by omega)
    obtain ⟨_, _, hc0⟩ := World.cells?_some (hf 0 (by omega)).2
    have h00 := hc0 0 (by omega)
    simp only [Deep.add_add] at c0 c1 h00
    obtain ⟨b, off, spot⟩ := ad
    have hspot : spot = none := by simpa [Addr.add] using World.cell?_spot h00
    subst hspot
    have hlt := block_lt_of_cell c0
    rw [add_block] at hlt
    rw [Addr.add_lit] at c0 c1
    exact ⟨b, off, rfl, hlt, c0, c1⟩
  · simp only [Prod.mk.injEq] at hx
    rw [hx.1] at hw
    have := hw _ (by simp only [DataW.weights, Yba.underlying67]; exact List.mem_cons_self)
    rw [bytes72] at this
    simp [reachBytes] at this
    omega
end lawC
end Go.Proofs.Ybulkdsyu
