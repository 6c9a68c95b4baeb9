import Derived.Test.YbulkdsyuB2
import Derived.Maps.OwnSet
import Derived.Maps.AppendAt
import Derived.BigRegion
namespace Go.Proofs.Ybulkdsyu
open Go Go.RowKit Go.Maps

theorem keyed9 : Keyed Yba.prog 9 := string_keyed Yba.underlying9

/-- The index map: each name at its place, nothing else. -/
structure Dict (ms : List ByteArray) (D : DataW Unit) : Prop where
  size : Maps.size D = ms.length
  hit : ∀ (i : Nat) s, ms[i]? = some s → Maps.has D (.string s.data.toList) = true ∧ ∀ z, D.atKey (.string s.data.toList) z = .lit (.int .i32 i)
  miss : ∀ s, s ∉ ms → Maps.has D (.string s.data.toList) = false

theorem key_ne {a b : ByteArray} (h : a ≠ b) : (Lit.string a.data.toList) ≠ .string b.data.toList := by
  intro e
  apply h
  obtain ⟨⟨x⟩⟩ := a
  obtain ⟨⟨y⟩⟩ := b
  simp at e
  rw [e]

theorem Dict.empty : Dict [] (.map []) := ⟨rfl, fun i s h => by simp at h, fun s _ => rfl⟩

theorem Dict.put {ms : List ByteArray} {D : DataW Unit} (h : Dict ms D) (ht : Tidy D) {s : ByteArray} (hs : s ∉ ms) : Dict (ms ++ [s]) (D.put (.string s.data.toList) (.lit (.int .i32 ms.length))) := by
  have hk : WideAt.IsKeyLit (Lit.string s.data.toList) := trivial
  refine ⟨?_, ?_, ?_⟩
  · rw [size_put ht, h.miss s hs, h.size]; simp
  · intro i x hx
    rcases Nat.lt_trichotomy i ms.length with hlt | heq | hgt
    · rw [List.getElem?_append_left hlt] at hx
      have hne : x ≠ s := fun e => hs (e ▸ List.mem_of_getElem? hx)
      obtain ⟨h1, h2⟩ := h.hit i x hx
      exact ⟨by rw [has_put_other (key_ne hne)]; exact h1, fun z => by rw [atKey_put_other (key_ne hne)]; exact h2 z⟩
    · subst heq
      rw [List.getElem?_append_right (Nat.le_refl _)] at hx
      simp at hx
      subst hx
      exact ⟨has_put_same ht.isMap hk _, fun z => atKey_put_same ht.isMap hk _ z⟩
    · rw [List.getElem?_eq_none (by simp; omega)] at hx
      cases hx
  · intro x hx
    simp at hx
    rw [has_put_other (key_ne hx.2)]
    exact h.miss x hx.1
end Go.Proofs.Ybulkdsyu
