import Derived.Laws.FloatArith
namespace Go.Proofs.YbulkdswcDoor
open Go

/-! ### To the nearest, between two the even one: over Nat -/

/-- k is V / 2^E, to the nearest, between two the even one. -/
def Rne (V E k : Nat) : Prop := 2 * (k * 2 ^ E) ≤ 2 * V + 2 ^ E ∧ 2 * V ≤ 2 * (k * 2 ^ E) + 2 ^ E ∧ (2 * V = 2 * (k * 2 ^ E) + 2 ^ E → k % 2 = 0) ∧ (2 * V + 2 ^ E = 2 * (k * 2 ^ E) → k % 2 = 0)

theorem Rne.mono {V V' E k k' : Nat} (h : Rne V E k) (h' : Rne V' E k') (hV : V ≤ V') : k ≤ k' := by
  rcases Nat.lt_or_ge k' k with hlt | hge
  · obtain ⟨a1, _, _, a4⟩ := h
    obtain ⟨_, b2, b3, _⟩ := h'
    have hp : 0 < 2 ^ E := Nat.two_pow_pos _
    have hk : (k' + 1) * 2 ^ E ≤ k * 2 ^ E := Nat.mul_le_mul_right _ hlt
    have hs : (k' + 1) * 2 ^ E = k' * 2 ^ E + 2 ^ E := Nat.succ_mul _ _
    have e1 : 2 * V' = 2 * (k' * 2 ^ E) + 2 ^ E := by omega
    have e2 : 2 * V + 2 ^ E = 2 * (k * 2 ^ E) := by omega
    have e3 : k * 2 ^ E = (k' + 1) * 2 ^ E := by omega
    have e4 : k = k' + 1 := Nat.eq_of_mul_eq_mul_right hp e3
    have p1 := a4 e2
    have p2 := b3 e1
    omega
  · exact hge

theorem Rne.unique {V E k k' : Nat} (h : Rne V E k) (h' : Rne V E k') : k = k' := Nat.le_antisymm (h.mono h' (Nat.le_refl _)) (h'.mono h (Nat.le_refl _))

theorem Rne.exact (k E : Nat) : Rne (k * 2 ^ E) E k := by
  have hp : 0 < 2 ^ E := Nat.two_pow_pos _
  exact ⟨by omega, by omega, fun h => by omega, fun h => by omega⟩

theorem Rne.scale {V E k : Nat} (h : Rne V E k) (j : Nat) : Rne (V * 2 ^ j) (E + j) k := by
  have hp : 0 < 2 ^ j := Nat.two_pow_pos _
  have e1 : k * 2 ^ (E + j) = k * 2 ^ E * 2 ^ j := by rw [Nat.pow_add, Nat.mul_assoc]
  have e2 : 2 ^ (E + j) = 2 ^ E * 2 ^ j := Nat.pow_add _ _ _
  have l : ∀ x y : Nat, x ≤ y → x * 2 ^ j ≤ y * 2 ^ j := fun x y hxy => Nat.mul_le_mul_right _ hxy
  have q : ∀ x y : Nat, x * 2 ^ j = y * 2 ^ j → x = y := fun x y hxy => Nat.eq_of_mul_eq_mul_right hp hxy
  have a1 := l _ _ h.1
  have a2 := l _ _ h.2.1
  rw [Rne, e1, e2]
  simp only [Nat.add_mul, Nat.mul_assoc] at a1 a2 ⊢
  refine ⟨a1, a2, fun e => h.2.2.1 (q _ _ ?_), fun e => h.2.2.2 (q _ _ ?_)⟩
  · simp only [Nat.add_mul, Nat.mul_assoc]; exact e
  · simp only [Nat.add_mul, Nat.mul_assoc]; exact e

/-- The model's cut is that number. -/
theorem cut_rne (neg : Bool) (n drop : Nat) : Rne n drop (Ieee.Toward.even.cut neg n drop) := by
  have hn : n < 2 ^ (n.log2 + 1) := Nat.lt_log2_self
  unfold Ieee.Toward.cut
  simp only [Nat.one_shiftLeft]
  by_cases hd : drop ≤ n.log2 + 2
  · rw [Nat.min_eq_left hd]
    generalize hP : 2 ^ drop = P
    have hp : 0 < P := by rw [← hP]; exact Nat.two_pow_pos _
    have hdm := Nat.div_add_mod n P
    have hm := Nat.mod_lt n hp
    rw [Rne, hP]
    generalize n / P = l at *
    generalize n % P = r at *
    have hc : P * l = l * P := Nat.mul_comm _ _
    by_cases h1 : P < 2 * r
    · simp [h1, Nat.add_mul]
      omega
    · by_cases h2 : P = 2 * r
      · by_cases h3 : l % 2 = 1
        · simp [h2, h3, Nat.add_mul]
          rw [h2] at hc hdm
          omega
        · have h3' : (l % 2 == 1) = false := beq_false_of_ne h3
          simp [h2, h3']
          rw [h2] at hc hdm
          omega
      · have h2' : (P == 2 * r) = false := beq_false_of_ne h2
        simp [h1, h2']
        omega
  · rw [Nat.min_eq_right (by omega)]
    have h4 : n < 2 ^ (n.log2 + 2) := Nat.lt_of_lt_of_le hn (Nat.pow_le_pow_right (by omega) (by omega))
    have h2 : 2 ^ (n.log2 + 2) = 2 * 2 ^ (n.log2 + 1) := by rw [Nat.pow_succ, Nat.mul_comm]
    have hD : 2 ^ (n.log2 + 2) ≤ 2 ^ drop := Nat.pow_le_pow_right (by omega) (by omega)
    rw [Nat.div_eq_of_lt h4, Nat.mod_eq_of_lt h4]
    have h5 : ¬ 2 ^ (n.log2 + 2) < 2 * n := by omega
    have h6 : (2 ^ (n.log2 + 2) == 2 * n) = false := beq_false_of_ne (by omega)
    simp [h5, h6]
    refine ⟨by omega, by omega, fun h => by omega, fun h => by omega⟩
end Go.Proofs.YbulkdswcDoor
