import Derived.Test.YbulkdswcDoorU6
import Derived.Test.YbulkdswcDoorW1
namespace Go.Proofs.YbulkdswcDoor
open Go Ieee Go.RowKit Go.Sort Go.Shelf Go.Lib

theorem asc_fst {H : Nat → Nat} {hr : Nat} {g : List Nat} : Asc (chg H hr (g.take 0)) [FST] := by
  refine ⟨List.pairwise_singleton _ _, fun x => ?_⟩
  simp [chg]

theorem chg_sub {H : Nat → Nat} {hr : Nat} {g : List Nat} {i x : Nat} (h : x ∈ chg H hr (g.take i)) : x ∈ chg H hr g := by
  unfold chg at h ⊢
  rcases List.mem_cons.1 h with h | h
  · exact List.mem_cons.2 (.inl h)
  · obtain ⟨h1, h2⟩ := List.mem_filter.1 h
    obtain ⟨k, hk, rfl⟩ := List.mem_map.1 h1
    exact List.mem_cons.2 (.inr (List.mem_filter.2 ⟨List.mem_map.2 ⟨k, List.mem_of_mem_take hk, rfl⟩, h2⟩))

theorem Asc.skip {l C : List Nat} {x : Nat} (h : Asc l C) (hx : x ∈ C) : Asc (l ++ [x]) C := by
  refine ⟨h.1, fun y => ?_⟩
  rw [h.2, List.mem_append, List.mem_singleton]
  constructor
  · exact .inl
  · rintro (k | rfl)
    · exact k
    · exact (h.2 _).1 hx

theorem Asc.ins {l C : List Nat} {t x : Nat} (h : Asc l C) (ht : t ≤ C.length) (h1 : ∀ j y, j < t → C[j]? = some y → y < x) (h2 : ∀ y, C[t]? = some y → x < y) : Asc (l ++ [x]) (insL C t x) := by
  have ha : ∀ y ∈ C.take t, y < x := fun y hy => by
    obtain ⟨j, hj⟩ := List.mem_iff_getElem?.1 hy
    rw [List.getElem?_take] at hj
    split at hj
    · rename_i hlt; exact h1 j y hlt hj
    · cases hj
  have hb : ∀ y ∈ C.drop t, x < y := fun y hy => by
    obtain ⟨j, hj⟩ := List.mem_iff_getElem?.1 hy
    rw [List.getElem?_drop] at hj
    obtain ⟨hlt, e⟩ := List.getElem?_eq_some_iff.1 hj
    cases j with
    | zero => exact h2 y hj
    | succ j =>
      have k1 := h2 _ (List.getElem?_eq_getElem (show t < C.length by omega))
      have k2 := List.pairwise_iff_getElem.1 h.1 t (t + (j + 1)) (by omega) hlt (by omega)
      omega
  refine ⟨?_, fun y => ?_⟩
  · unfold insL
    rw [List.pairwise_append, List.pairwise_cons]
    refine ⟨h.1.sublist (List.take_sublist _ _), ⟨hb, h.1.sublist (List.drop_sublist _ _)⟩, fun a ha' b hb' => ?_⟩
    have k1 := ha a ha'
    rcases List.mem_cons.1 hb' with rfl | hb'
    · exact k1
    · have := hb b hb'; omega
  · unfold insL
    rw [List.mem_append, List.mem_cons, List.mem_append, List.mem_singleton, ← h.2]
    conv => rhs; rw [← List.take_append_drop t C, List.mem_append]
    constructor
    · rintro (k | k | k)
      · exact .inl (.inl k)
      · exact .inr k
      · exact .inl (.inr k)
    · rintro ((k | k) | k)
      · exact .inl k
      · exact .inr (.inr k)
      · exact .inr (.inl k)
end Go.Proofs.YbulkdswcDoor
