import Derived.Test.YbulkdswcDoorF5
namespace Go.Proofs.YbulkdswcDoor
open Go Ieee

/-! ### Bounds -/
/-- 2^32, 2^34 -/
abbrev B32 : Nat := 4751297606875873280
abbrev B34 : Nat := 4760304806130614272

theorem val32 : val D 0 B32 = 2 ^ 32 * 2 ^ 1074 := by decide +kernel
theorem val34 : 2 * val D 0 B32 ≤ val D 0 B34 := by decide +kernel

set_option exponentiation.threshold 2000 in
theorem near_le32 {m r : Nat} (h : Near 0 (m * 2 ^ 1074) r) (hm : m ≤ 2 ^ 32) : r ≤ B32 := h.mono (Near.val 0 (by decide)) (by rw [val32]; exact Nat.mul_le_mul_right _ hm)

theorem nearest32 (neg : Bool) {m : Nat} (hm : m ≤ 2 ^ 32) : ∃ r, D.nearest neg m 0 = D.word neg r ∧ r ≤ B32 := by
  obtain ⟨r, h1, h2⟩ := near' neg m 0 0 1074 (by decide)
  exact ⟨r, h1, near_le32 h2 hm⟩

theorem half_le (s : Bool) {r : Nat} (h : r < 9218868437227405312) : ∃ q, D.div (D.word s r) two = some (D.word s q) ∧ q ≤ r := by
  obtain ⟨q, h1, h2⟩ := div_two s h
  refine ⟨q, h1, h2.mono (Near.val 200 (Nat.le_of_lt h)) ?_⟩
  unfold val
  exact Nat.mul_le_mul_left _ (Nat.pow_le_pow_right (by decide) (by omega))

theorem sval_abs (s : Bool) (r : Nat) : (sval s r).natAbs = val D 0 r := by
  unfold sval; cases s <;> simp

theorem sub_le (s t : Bool) {r q : Nat} (hr : r ≤ B32) (hq : q ≤ B32) : ∃ sg R, D.sub (D.word s r) (D.word t q) = some (D.word sg R) ∧ R ≤ B34 ∧ (skey t q ≤ skey s r → sg = false ∨ R = 0) := by
  obtain ⟨sg, R, h1, h2, h3⟩ := sub_fin s t (show r < 9218868437227405312 from Nat.lt_of_le_of_lt hr (by decide)) (show q < 9218868437227405312 from Nat.lt_of_le_of_lt hq (by decide))
  refine ⟨sg, R, h1, h2.mono (Near.val 0 (by decide)) ?_, fun h => ?_⟩
  · refine Nat.le_trans ?_ val34
    have e1 := sval_abs s r
    have e2 := sval_abs t q
    have e3 := val_le (f := D) 0 hr
    have e4 := val_le (f := D) 0 hq
    generalize sval s r = A at *
    generalize sval t q = B at *
    generalize val D 0 r = a at *
    generalize val D 0 q = b at *
    generalize val D 0 B32 = c at *
    omega
  · rcases Int.lt_or_eq_of_le h with h4 | h4
    · have := sval_lt h4
      exact .inl (h3 (by omega))
    · have := sval_eq h4
      exact .inr (h2.2.1 (by omega))

theorem sub_inf_left (s t : Bool) {q : Nat} (hq : q < 9218868437227405312) : D.sub (D.word s 9218868437227405312) (D.word t q) = some (D.word s 9218868437227405312) := by
  unfold Format.sub
  rw [read_w s (by omega), read_w t (by omega), if_neg (by omega), if_pos rfl, if_pos hq]
  simp only [Datum.opposite, Datum.sum, Option.map_some, Format.write, D_inf]
theorem sub_inf_right (s t : Bool) {q : Nat} (hq : q < 9218868437227405312) : D.sub (D.word t q) (D.word s 9218868437227405312) = some (D.word (!s) 9218868437227405312) := by
  unfold Format.sub
  rw [read_w t (by omega), if_pos hq, read_w s (by omega), if_neg (by omega), if_pos rfl]
  simp only [Datum.opposite, Datum.sum, Option.map_some, Format.write, D_inf]

theorem sub_word (s t : Bool) {r q : Nat} (hr : r ≤ 9218868437227405312) (hq : q < 9218868437227405312) : ∃ sg R, D.sub (D.word s r) (D.word t q) = some (D.word sg R) ∧ R ≤ 9218868437227405312 := by
  rcases Nat.lt_or_ge r 9218868437227405312 with h | h
  · obtain ⟨sg, R, h1, h2, _⟩ := sub_fin s t h hq
    exact ⟨sg, R, h1, h2.1⟩
  · obtain rfl : r = 9218868437227405312 := by omega
    exact ⟨s, _, sub_inf_left s t hq, Nat.le_refl _⟩
theorem sub_word' (s t : Bool) {r q : Nat} (hr : r ≤ 9218868437227405312) (hq : q < 9218868437227405312) : ∃ sg R, D.sub (D.word t q) (D.word s r) = some (D.word sg R) ∧ R ≤ 9218868437227405312 := by
  rcases Nat.lt_or_ge r 9218868437227405312 with h | h
  · obtain ⟨sg, R, h1, h2, _⟩ := sub_fin t s hq h
    exact ⟨sg, R, h1, h2.1⟩
  · obtain rfl : r = 9218868437227405312 := by omega
    exact ⟨!s, _, sub_inf_right s t hq, Nat.le_refl _⟩

theorem add_sub {x y : Nat} (hy : y < 9218868437227405312) : D.add x y = D.sub x (D.word true y) := by
  unfold Format.add Format.sub
  rw [read_w true (show y < 9223372036854775808 by omega), if_pos hy, ← word_false y, read_w false (show y < 9223372036854775808 by omega), if_pos hy]
  rfl

theorem word_lt (s : Bool) {r : Nat} (h : r ≤ 9218868437227405312) : D.word s r < 18446744073709551616 := by
  have : D.word s r = (if s then 9223372036854775808 else 0) + r := by
    cases s
    · simp [word_false]
    · show _ = _; unfold Format.word; rw [D_sgn]; simp
  rw [this]
  split <;> omega

theorem half_word (s : Bool) {r : Nat} (h : r ≤ 9218868437227405312) : ∃ q, D.div (D.word s r) two = some (D.word s q) ∧ q ≤ 9218868437227405312 := by
  rcases Nat.lt_or_ge r 9218868437227405312 with h1 | h1
  · obtain ⟨q, h2, h3⟩ := half_le s h1
    exact ⟨q, h2, by omega⟩
  · obtain rfl : r = 9218868437227405312 := by omega
    exact ⟨_, div_two_inf s, Nat.le_refl _⟩
end Go.Proofs.YbulkdswcDoor
