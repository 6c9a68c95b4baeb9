import Derived.Test.YbulkdswcDoorS11
namespace Go.Proofs.YbulkdswcDoor
open Go Ieee Go.RowKit Go.Sort

/-- All pairs of [a, b) but those within the window [a', b') are in order. -/
def Ord (a b a' b' : Nat) (d : Array Nat) : Prop := ∀ t u, a ≤ t → t < u → u < b → (t < a' ∨ b' ≤ u) → ltF d[u]! d[t]! = false

section
variable {a b a' b' m : Nat} {d d2 : Array Nat}

theorem Ord.start (a b : Nat) (d : Array Nat) : Ord a b a b d := fun t u h1 h2 h3 h4 => by omega

theorem Ord.perm (h : Ord a b a' b' d) (hp : PermIn a' b' d d2) (h1 : a ≤ a') (h2 : b' ≤ b) (hb : b ≤ d.size) : Ord a b a' b' d2 := fun t u h3 h4 h5 h6 => by
  have out := hp.2.1
  by_cases ht : t < a'
  · rw [out t (.inl ht)]
    by_cases hu : a' ≤ u ∧ u < b'
    · exact permIn_all d d2 a' b' (fun x => ltF x d[t]! = false) (by omega) hp (fun i hi1 hi2 => h t i h3 (by omega) (by omega) (.inl ht)) u hu.1 hu.2
    · rw [out u (by omega)]; exact h t u h3 h4 h5 (.inl ht)
  · have hu : b' ≤ u := by omega
    rw [out u (.inr hu)]
    by_cases ht2 : t < b'
    · exact permIn_all d d2 a' b' (fun x => ltF d[u]! x = false) (by omega) hp (fun i hi1 hi2 => h i u (by omega) (by omega) h5 (.inr hu)) t (by omega) ht2
    · rw [out t (by omega)]; exact h t u h3 h4 h5 (.inr hu)

theorem Ord.sorted (h : Ord a b a' b' d) (hs : SortedIn ltF a' b' d) : SortedIn ltF a b d := fun t u h1 h2 h3 => by
  by_cases hw : t < a' ∨ b' ≤ u
  · exact h t u h1 h2 h3 hw
  · exact hs t u (by omega) h2 (by omega)

theorem Ord.left (h : Ord a b a' b' d) (hm : ∀ t u, a' ≤ t → t < m → t < u → u < b' → ltF d[u]! d[t]! = false) : Ord a b m b' d := fun t u h1 h2 h3 h4 => by
  by_cases hw : t < a' ∨ b' ≤ u
  · exact h t u h1 h2 h3 hw
  · exact hm t u (by omega) (by omega) h2 (by omega)

theorem Ord.right (h : Ord a b a' b' d) (hm : ∀ t u, a' ≤ t → t < u → m ≤ u → u < b' → ltF d[u]! d[t]! = false) : Ord a b a' m d := fun t u h1 h2 h3 h4 => by
  by_cases hw : t < a' ∨ b' ≤ u
  · exact h t u h1 h2 h3 hw
  · exact hm t u (by omega) h2 (by omega) (by omega)

theorem ltF_asymm {x y : Nat} (h : ltF x y = true) : ltF y x = false := by
  cases h2 : ltF y x
  · rfl
  · have := swoF.trans _ _ _ h h2
    rw [swoF.irrefl] at this; cases this

/-- x below p, y not: y is not below x. -/
theorem ltF_mid {x y p : Nat} (h1 : ltF x p = true) (h2 : ltF y p = false) : ltF y x = false := by
  cases h3 : ltF y x
  · rfl
  · have := swoF.trans _ _ _ h3 h1
    rw [h2] at this; cases this

/-- Behind the partition and the sort of the left part: the right part alone is left. -/
theorem Ord.go_right {d3 : Array Nat} (h : Ord a b a' b' d) (h1 : a ≤ a') (h2 : b' ≤ b) (hb : b ≤ d.size) (hm2 : m < b') (hlo : ∀ t, a' ≤ t → t < m → ltF d[t]! d[m]! = true) (hhi : ∀ t, m < t → t < b' → ltF d[t]! d[m]! = false)
    (hp : PermIn a' m d d3) (hs : SortedIn ltF a' m d3) : Ord a b (m + 1) b' d3 := by
  have hp2 : PermIn a' b' d d3 := permIn_mono d d3 a' m a' b' (Nat.le_refl _) (by omega) (by omega) hp
  refine (h.perm hp2 h1 h2 hb).left fun t u h3 h4 h5 h6 => ?_
  have out := hp.2.1
  have lo3 := permIn_all d d3 a' m (fun x => ltF x d[m]! = true) (by omega) hp hlo
  by_cases hu : u < m
  · exact hs t u h3 h5 hu
  · by_cases ht : t < m
    · by_cases hum : u = m
      · rw [hum, out m (.inr (Nat.le_refl _))]; exact ltF_asymm (lo3 t h3 ht)
      · rw [out u (by omega)]; exact ltF_mid (lo3 t h3 ht) (hhi u (by omega) h6)
    · have e : t = m := by omega
      rw [e, out m (.inr (Nat.le_refl _)), out u (by omega)]; exact hhi u (by omega) h6

theorem Ord.go_left {d3 : Array Nat} (h : Ord a b a' b' d) (h1 : a ≤ a') (h2 : b' ≤ b) (hb : b ≤ d.size) (hm1 : a' ≤ m) (hlo : ∀ t, a' ≤ t → t < m → ltF d[t]! d[m]! = true) (hhi : ∀ t, m < t → t < b' → ltF d[t]! d[m]! = false)
    (hp : PermIn (m + 1) b' d d3) (hs : SortedIn ltF (m + 1) b' d3) : Ord a b a' m d3 := by
  have hp2 : PermIn a' b' d d3 := permIn_mono d d3 (m + 1) b' a' b' (by omega) (Nat.le_refl _) (by omega) hp
  refine (h.perm hp2 h1 h2 hb).right fun t u h3 h4 h5 h6 => ?_
  have out := hp.2.1
  have hi3 := permIn_all d d3 (m + 1) b' (fun x => ltF x d[m]! = false) (by omega) hp (fun i hi1 hi2 => hhi i (by omega) hi2)
  by_cases ht : m < t
  · exact hs t u (by omega) h4 h6
  · by_cases hum : u = m
    · rw [hum, out m (by omega), out t (by omega)]; exact ltF_asymm (hlo t h3 (by omega))
    · by_cases htm : t = m
      · rw [htm, out m (by omega)]; exact hi3 u (by omega) h6
      · rw [out t (by omega)]; exact ltF_mid (hlo t h3 (by omega)) (hi3 u (by omega) h6)

/-- Behind partitionEqual: what equals the pivot is in its place. -/
theorem Ord.go_eq {p : Nat} {d3 : Array Nat} (h : Ord a b a' b' d) (h1 : a ≤ a') (h2 : b' ≤ b) (hb : b ≤ d.size) (hp : PermIn a' b' d d3) (hmin : ∀ t, a' ≤ t → t < b' → ltF d[t]! p = false) (hlo : ∀ t, a' ≤ t → t < m → ltF p d3[t]! = false) : Ord a b m b' d3 := by
  have min3 := permIn_all d d3 a' b' (fun x => ltF x p = false) (by omega) hp hmin
  exact (h.perm hp h1 h2 hb).left fun t u h3 h4 h5 h6 => swoF.ntrans _ _ _ (min3 u (by omega) h6) (hlo t h3 h4)

/-- Nothing of the window is less than what lies ahead of it. -/
theorem below_of (h : Ord a b a' b' d) (hB : Sort.Below ltF a b d) (h1 : a ≤ a') (h2 : b' ≤ b) : Sort.Below ltF a' b' d := by
  rcases Nat.eq_or_lt_of_le h1 with e | hlt
  · subst e
    rcases hB with h0 | h0
    · exact .inl h0
    · exact .inr fun i h3 h4 => h0 i h3 (by omega)
  · exact .inr fun i h3 h4 => h (a' - 1) i (by omega) (by omega) (by omega) (.inl (by omega))

theorem below_perm (hB : Sort.Below ltF a b d) (hb : b ≤ d.size) (hp : PermIn a b d d2) : Sort.Below ltF a b d2 := by
  rcases Nat.eq_zero_or_pos a with h0 | h0
  · exact .inl h0
  · rcases hB with h1 | h1
    · exact .inl h1
    · refine .inr fun i h3 h4 => ?_
      rw [hp.2.1 (a - 1) (by omega)]
      exact permIn_all d d2 a b (fun x => ltF x d[a - 1]! = false) hb hp h1 i h3 h4
end
end Go.Proofs.YbulkdswcDoor
