import Derived.Test.YbulkdswcDoorF4
namespace Go.Proofs.YbulkdswcDoor
open Go Ieee

/-- 0.03 -/
abbrev FST : Nat := 4584304132692975288

theorem two_fin : 0 < two ∧ two < 9218868437227405312 := ⟨by decide, by decide⟩

/-! ### The widening -/
theorem mul_two {d : Nat} (h : d ≤ 9218868437227405312) : ∃ a, D.mul two d = some a ∧ a ≤ 9218868437227405312 := by
  rw [mul_comm']; exact mul_pos' h two_fin.1 two_fin.2

theorem mul_two_mono {d d' a a' : Nat} (hd : d ≤ d') (hd' : d' ≤ 9218868437227405312) (h : D.mul two d = some a) (h' : D.mul two d' = some a') : a ≤ a' := by
  rw [mul_comm'] at h h'
  exact mul_mono hd hd' two_fin.1 two_fin.2 h h'

theorem wide_ge {d hr a0 w0 a w : Nat} (h1 : FST ≤ d) (h2 : d ≤ 9218868437227405312) (hr0 : 0 < hr) (hr1 : hr < 9218868437227405312) (e1 : D.mul two FST = some a0) (e2 : D.mul a0 hr = some w0) (e3 : D.mul two d = some a) (e4 : D.mul a hr = some w) : w0 ≤ w := by
  have h3 := mul_two_mono h1 h2 e1 e3
  obtain ⟨a', h4, h5⟩ := mul_two h2
  rw [e3] at h4; cases h4
  exact mul_mono h3 h5 hr0 hr1 e2 e4

theorem within_last {d x : Nat} (h1 : FST ≤ d) (h2 : d ≤ 9218868437227405312) (e : D.mul two d = some x) : FST ≤ x ∧ x ≤ 9218868437227405312 := by
  obtain ⟨a', h4, h5⟩ := mul_two h2
  rw [e] at h4; cases h4
  refine ⟨?_, h5⟩
  have e0 : D.mul two FST = some 4588807732320345784 := by decide
  have := mul_two_mono h1 h2 e0 e
  exact Nat.le_trans (by decide) this

theorem half_pos {x : Nat} (h : x ≤ 9218868437227405312) : ∃ q, D.div x two = some q ∧ q ≤ 9218868437227405312 := by
  rcases Nat.lt_or_ge x 9218868437227405312 with h1 | h1
  · obtain ⟨q, h2, h3⟩ := div_two false h1
    exact ⟨q, h2, h3.1⟩
  · obtain rfl : x = 9218868437227405312 := by omega
    exact ⟨_, div_two_inf false, Nat.le_refl _⟩

theorem half_mono {x y a b : Nat} (hxy : x ≤ y) (hy : y ≤ 9218868437227405312) (h : D.div x two = some a) (h' : D.div y two = some b) : a ≤ b := by
  rcases Nat.lt_or_ge y 9218868437227405312 with h1 | h1
  · obtain ⟨q, e1, n1⟩ := div_two false (show x < 9218868437227405312 by omega)
    obtain ⟨q', e2, n2⟩ := div_two false h1
    rw [word_false, word_false] at e1 e2
    rw [h] at e1; cases e1
    rw [h'] at e2; cases e2
    exact n1.mono n2 (val_le 199 hxy)
  · obtain rfl : y = 9218868437227405312 := by omega
    have := div_two_inf false
    rw [word_false] at this
    rw [this] at h'; cases h'
    obtain ⟨q, e, hq⟩ := half_pos hxy
    rw [h] at e; cases e
    exact hq

theorem within_mid {x y a b z : Nat} (hx : FST ≤ x) (hx' : x ≤ 9218868437227405312) (hy : FST ≤ y) (hy' : y ≤ 9218868437227405312) (e1 : D.div x two = some a) (e2 : D.div y two = some b) (e3 : D.add a b = some z) : FST ≤ z ∧ z ≤ 9218868437227405312 := by
  have h0 : D.div FST two = some 4579800533065604792 := by decide
  have h1 : D.add 4579800533065604792 4579800533065604792 = some FST := by decide
  obtain ⟨a', f1, f2⟩ := half_pos hx'
  obtain ⟨b', f3, f4⟩ := half_pos hy'
  rw [e1] at f1; cases f1
  rw [e2] at f3; cases f3
  have g1 := half_mono hx hx' h0 e1
  have g2 := half_mono hy hy' h0 e2
  obtain ⟨z', f5, f6⟩ := add_pos' f2 f4
  rw [e3] at f5; cases f5
  exact ⟨add_mono g1 f2 g2 f4 h1 e3, f6⟩

/-! ### x - y, of finite words -/
theorem sub_fin (s t : Bool) {r q : Nat} (hr : r < 9218868437227405312) (hq : q < 9218868437227405312) : ∃ sg R, D.sub (D.word s r) (D.word t q) = some (D.word sg R) ∧ Near 0 (sval s r - sval t q).natAbs R ∧ (0 < sval s r - sval t q → sg = false) := by
  unfold Format.sub
  rw [read_w s (by omega), read_w t (by omega), if_pos hr, if_pos hq]
  simp only [Datum.opposite, Datum.sum]
  obtain ⟨base, hbase⟩ : ∃ base : Nat, base = min (up D r) (up D q) := ⟨_, rfl⟩
  have hmin : min (-1074 + (up D r : Int)) (-1074 + (up D q : Int)) = -1074 + (base : Int) := by omega
  rw [hmin, show (-1074 + (up D r : Int) - (-1074 + (base : Int))).toNat = up D r - base by omega, show (-1074 + (up D q : Int) - (-1074 + (base : Int))).toNat = up D q - base by omega]
  have e1 := signed_val s r base (by omega)
  have e2 := signed_val t q base (by omega)
  have e3 : signed (!t) (mag D q) (up D q - base) = - signed t (mag D q) (up D q - base) := by
    unfold signed; cases t <;> simp
  rw [e3]
  have hp : (0 : Int) < 2 ^ base := Int.pow_pos (by omega)
  generalize signed s (mag D r) (up D r - base) = A at *
  generalize signed t (mag D q) (up D q - base) = B at *
  have e4 : sval s r - sval t q = (A + -B) * 2 ^ base := by rw [← e1, ← e2, Int.add_mul, Int.neg_mul]; rfl
  simp only [Option.map_some, Format.write]
  obtain ⟨R, h1, h2⟩ := near' (if A + -B = 0 then s && !t else decide (A + -B < 0)) (A + -B).natAbs (-1074 + (base : Int)) 0 base (by omega)
  refine ⟨_, R, congrArg some h1, ?_, fun h => ?_⟩
  · have e5 : (sval s r - sval t q).natAbs = (A + -B).natAbs * 2 ^ base := by
      rw [e4, Int.natAbs_mul, Int.natAbs_pow]; rfl
    rw [e5]; exact h2
  · rw [e4, Int.mul_comm] at h
    have : 0 < A + -B := Int.pos_of_mul_pos_right h hp
    rw [if_neg (by omega)]
    simp; omega

/-- a >= b: a - b is a zero or positive. -/
theorem sub_ge (s t : Bool) {r q : Nat} (hr : r < 9218868437227405312) (hq : q < 9218868437227405312) (h : skey t q ≤ skey s r) : ∃ sg R, D.sub (D.word s r) (D.word t q) = some (D.word sg R) ∧ Near 0 (sval s r - sval t q).natAbs R ∧ (sg = false ∨ R = 0) := by
  obtain ⟨sg, R, h1, h2, h3⟩ := sub_fin s t hr hq
  refine ⟨sg, R, h1, h2, ?_⟩
  rcases Int.lt_or_eq_of_le h with h4 | h4
  · have := sval_lt h4
    exact .inl (h3 (by omega))
  · have := sval_eq h4
    exact .inr (h2.2.1 (by omega))

/-! ### x / y, y positive and finite -/
theorem nearest_word' (neg : Bool) (m : Nat) (p : Int) : ∃ r, r ≤ 9218868437227405312 ∧ D.nearest neg m p = D.word neg r := by
  unfold Format.nearest
  split
  · exact ⟨0, by omega, rfl⟩
  · refine ⟨_, ?_, rfl⟩
    rw [D_inf]; exact Nat.min_le_right _ _

theorem div_valid (s : Bool) {r y : Nat} (hr : r ≤ 9218868437227405312) (hy0 : 0 < y) (hy : y < 9218868437227405312) : ∃ sg q, D.div (D.word s r) y = some (D.word sg q) ∧ q ≤ 9218868437227405312 := by
  unfold Format.div
  rw [← word_false y, read_w s (by omega), read_w false (by omega), if_pos hy]
  have hm := mag_pos (f := D) hy0
  by_cases h : r < 9218868437227405312
  · rw [if_pos h]
    simp only [Datum.quotient, show ¬ mag D y = 0 by omega, if_false, Option.map_some, Format.write]
    obtain ⟨q, h1, h2⟩ := nearest_word' (s ^^ false) (2 * (mag D r <<< (D.fractionBits + 2 + (mag D y).log2 - (mag D r).log2) / mag D y) + (mag D r <<< (D.fractionBits + 2 + (mag D y).log2 - (mag D r).log2) % mag D y != 0).toNat) (-1074 + (up D r : Int) - (-1074 + (up D y : Int)) - ((D.fractionBits + 2 + (mag D y).log2 - (mag D r).log2 : Nat) : Int) - 1)
    exact ⟨_, q, congrArg some h2, h1⟩
  · rw [if_neg h, if_pos (show r = 9218868437227405312 by omega)]
    simp only [Datum.quotient, Option.map_some, Format.write, D_inf]
    exact ⟨_, _, rfl, Nat.le_refl _⟩
end Go.Proofs.YbulkdswcDoor
