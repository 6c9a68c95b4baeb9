import Derived.Test.YbulkdswcDoorS7
namespace Go.Proofs.YbulkdswcDoor
open Go Ieee Go.RowKit Go.Sort

/-- What both partitions keep: p at a; 'c' holds of all up to i, of none from behind j. -/
structure PI (c : Nat → Bool) (p a b i j : Nat) (d dk : Array Nat) : Prop where
  ai : a < i
  ij : i ≤ j + 1
  jb : j < b
  sz : b ≤ d.size
  perm : PermIn a b d dk
  piv : dk[a]! = p
  lo : ∀ t, a < t → t < i → c dk[t]! = true
  hi : ∀ t, j < t → t < b → c dk[t]! = false

section
variable {c : Nat → Bool} {p a b i j : Nat} {d dk : Array Nat}

theorem PI.start (c : Nat → Bool) {pivot : Nat} (h1 : a ≤ pivot) (h2 : pivot < b) (hb : b ≤ d.size) : PI c d[pivot]! a b (a + 1) (b - 1) d (swp d a pivot) :=
  ⟨by omega, by omega, by omega, hb, swp_permIn d a b a pivot (Nat.le_refl _) (by omega) h1 h2 hb, by
    by_cases e : a = pivot
    · subst e; exact swp_right d a a (by omega)
    · exact swp_left d a pivot (by omega) e, fun t h3 h4 => by omega, fun t h3 h4 => by omega⟩

theorem PI.incr (h : PI c p a b i j d dk) (hij : i ≤ j) (hc : c dk[i]! = true) : PI c p a b (i + 1) j d dk :=
  ⟨by have := h.ai; omega, by omega, h.jb, h.sz, h.perm, h.piv, fun t h1 h2 => by
    by_cases e : t = i
    · rw [e]; exact hc
    · exact h.lo t h1 (by omega), h.hi⟩

theorem PI.decr (h : PI c p a b i j d dk) (hij : i ≤ j) (hc : c dk[j]! = false) : PI c p a b i (j - 1) d dk :=
  ⟨h.ai, by have := h.ai; omega, by have := h.jb; omega, h.sz, h.perm, h.piv, h.lo, fun t h1 h2 => by
    by_cases e : t = j
    · rw [e]; exact hc
    · exact h.hi t (by omega) h2⟩

theorem PI.dsize (h : PI c p a b i j d dk) : dk.size = d.size := h.perm.1

theorem PI.apart (hij : i ≤ j) (h1 : c dk[i]! = false) (h2 : c dk[j]! = true) : i < j := by
  rcases Nat.lt_or_ge i j with h3 | h3
  · exact h3
  · have e : i = j := by omega
    rw [e, h2] at h1; cases h1

theorem PI.swp (h : PI c p a b i j d dk) (hij : i ≤ j) (h1 : c dk[i]! = false) (h2 : c dk[j]! = true) : PI c p a b (i + 1) (j - 1) d (Sort.swp dk i j) := by
  have hlt := PI.apart hij h1 h2
  have hs := h.dsize
  have ha := h.ai
  have hj := h.jb
  have hb := h.sz
  refine ⟨by omega, by omega, by omega, hb, permIn_trans _ _ _ _ _ h.perm (swp_permIn dk a b i j (by omega) (by omega) (by omega) hj (by omega)), ?_, fun t h3 h4 => ?_, fun t h3 h4 => ?_⟩
  · rw [swp_other dk i j a (by omega) (by omega)]; exact h.piv
  · by_cases e : t = i
    · rw [e, swp_left dk i j (by omega) (by omega)]; exact h2
    · rw [swp_other dk i j t e (by omega)]; exact h.lo t h3 (by omega)
  · by_cases e : t = j
    · rw [e, swp_right dk i j (by omega)]; exact h1
    · rw [swp_other dk i j t (by omega) e]; exact h.hi t (by omega) h4

/-- p put between: what partition hands back. -/
theorem PI.fin (h : PI c p a b i j d dk) (hij : j < i) : PermIn a b d (Sort.swp dk j a) ∧ (∀ t, a ≤ t → t < j → c (Sort.swp dk j a)[t]! = true) ∧ (Sort.swp dk j a)[j]! = p ∧ (∀ t, j < t → t < b → c (Sort.swp dk j a)[t]! = false) := by
  have hs := h.dsize
  have ha := h.ai
  have hj := h.jb
  have hb := h.sz
  have hij2 := h.ij
  refine ⟨permIn_trans _ _ _ _ _ h.perm (swp_permIn dk a b j a (by omega) (by omega) (Nat.le_refl _) (by omega) (by omega)), fun t h1 h2 => ?_, ?_, fun t h1 h2 => ?_⟩
  · by_cases e : t = a
    · rw [e, swp_right dk j a (by omega)]; exact h.lo j (by omega) (by omega)
    · rw [swp_other dk j a t (by omega) e]; exact h.lo t (by omega) (by omega)
  · by_cases e : j = a
    · rw [e, swp_right dk a a (by omega)]; exact h.piv
    · rw [swp_left dk j a (by omega) e]; exact h.piv
  · rw [swp_other dk j a t (by omega) (by omega)]; exact h.hi t h1 h2
end
end Go.Proofs.YbulkdswcDoor
