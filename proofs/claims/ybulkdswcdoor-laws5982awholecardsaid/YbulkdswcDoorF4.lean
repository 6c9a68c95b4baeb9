import Derived.Test.YbulkdswcDoorF3
namespace Go.Proofs.YbulkdswcDoor
open Go Ieee

/-- 2.0 -/
abbrev two : Nat := 4611686018427387904

theorem read_two : D.read two = .number false 4503599627370496 (-51) := by decide

/-- What the model writes, bounded. -/
theorem near (neg : Bool) (m : Nat) (p : Int) (c j : Nat) (hj : (-1074 : Int) - c + j = p) :
    ∃ r, r ≤ 9218868437227405312 ∧ D.nearest neg m p = D.word neg r ∧ (m = 0 → r = 0) ∧ (0 < m → ∃ R, IsR D c (m * 2 ^ j) R ∧ r = min R 9218868437227405312) := by
  rcases Nat.eq_zero_or_pos m with rfl | hm
  · exact ⟨0, by omega, by simp [Format.nearest], fun _ => rfl, fun h => by omega⟩
  · obtain ⟨R, h1, h2⟩ := nearest_isR D neg hm p c j (by rw [D_least]; exact hj)
    rw [D_inf] at h2
    exact ⟨min R 9218868437227405312, Nat.min_le_right _ _, h2, fun h => by omega, fun _ => ⟨R, h1, rfl⟩⟩

/-- r is the bounded rung of V units. -/
def Near (c V r : Nat) : Prop := r ≤ 9218868437227405312 ∧ (V = 0 → r = 0) ∧ (0 < V → ∃ R, IsR D c V R ∧ r = min R 9218868437227405312)

theorem Near.mono {c V V' r r' : Nat} (h : Near c V r) (h' : Near c V' r') (hV : V ≤ V') : r ≤ r' := by
  rcases Nat.eq_zero_or_pos V with h0 | h0
  · rw [h.2.1 h0]; exact Nat.zero_le _
  · obtain ⟨R, h1, rfl⟩ := h.2.2 h0
    obtain ⟨R', h2, rfl⟩ := h'.2.2 (by omega)
    have := h1.mono h2 h0 hV
    omega

theorem Near.val (c : Nat) {r : Nat} (h : r ≤ 9218868437227405312) : Near c (val D c r) r := by
  refine ⟨h, fun h0 => ?_, fun h0 => ⟨r, ?_, by omega⟩⟩
  · rcases Nat.eq_zero_or_pos r with h1 | h1
    · exact h1
    · have := val_pos (f := D) c h1; omega
  · refine isR_val D c ?_
    rcases Nat.eq_zero_or_pos r with h1 | h1
    · rw [h1, val_zero] at h0; omega
    · exact h1

theorem near' (neg : Bool) (m : Nat) (p : Int) (c j : Nat) (hj : (-1074 : Int) - c + j = p) : ∃ r, D.nearest neg m p = D.word neg r ∧ Near c (m * 2 ^ j) r := by
  obtain ⟨r, h1, h2, h3, h4⟩ := near neg m p c j hj
  refine ⟨r, h2, h1, fun h => h3 ?_, fun h => h4 ?_⟩
  · rcases Nat.mul_eq_zero.1 h with h | h
    · exact h
    · have := Nat.two_pow_pos j; omega
  · exact Nat.pos_of_mul_pos_right h

/-! ### x / 2 -/
theorem mag_le (r : Nat) : mag D r < 9007199254740992 := by
  have hb := D_binade
  unfold mag
  split
  · omega
  · have := Nat.mod_lt r (binade_pos D)
    omega

theorem div_two (s : Bool) {r : Nat} (h : r < 9218868437227405312) : ∃ q, D.div (D.word s r) two = some (D.word s q) ∧ Near 200 (val D 199 r) q := by
  unfold Format.div
  rw [read_w s (by omega), if_pos h, read_two, D_fb]
  simp only [Datum.quotient]
  have e1 : (4503599627370496 : Nat).log2 = 52 := by decide
  rw [e1]
  simp only [show ¬ (4503599627370496 : Nat) = 0 by omega, if_false, Option.map_some, Format.write, Bool.xor_false]
  have hl : (mag D r).log2 ≤ 52 := by
    rcases Nat.eq_zero_or_pos (mag D r) with h0 | h0
    · rw [h0]; decide
    · have := (Nat.log2_lt (k := 53) (Nat.ne_of_gt h0)).2 (mag_le r)
      omega
  obtain ⟨more, hmore⟩ : ∃ more, 52 + 2 + 52 - (mag D r).log2 = 52 + more ∧ more ≤ 54 := ⟨54 - (mag D r).log2, by omega, by omega⟩
  rw [hmore.1]
  have e2 : mag D r <<< (52 + more) = mag D r * 2 ^ more * 4503599627370496 := by
    rw [Nat.shiftLeft_eq, Nat.pow_add, show (4503599627370496 : Nat) = 2 ^ 52 by decide, Nat.mul_assoc, Nat.mul_comm (2 ^ more)]
  rw [e2, Nat.mul_div_cancel _ (by omega), Nat.mul_mod_left]
  obtain ⟨q, h1, h2⟩ := near' s (2 * (mag D r * 2 ^ more) + (0 != 0 : Bool).toNat) (-1074 + (up D r : Int) - -51 - (((52 + more : Nat) : Int)) - 1) 200 (up D r + 198 - more) (by omega)
  refine ⟨q, congrArg some h1, ?_⟩
  have e3 : (2 * (mag D r * 2 ^ more) + (0 != 0 : Bool).toNat) * 2 ^ (up D r + 198 - more) = val D 199 r := by
    unfold val
    rw [show (0 != 0 : Bool).toNat = 0 from rfl, Nat.add_zero, show up D r + 199 = 1 + more + (up D r + 198 - more) by omega, Nat.pow_add, Nat.pow_add, Nat.pow_one]
    simp only [Nat.mul_assoc, Nat.mul_left_comm]
  rw [e3] at h2
  exact h2

theorem div_two_inf (s : Bool) : D.div (D.word s 9218868437227405312) two = some (D.word s 9218868437227405312) := by cases s <;> decide

/-! ### x * y, of positive words -/
theorem mul_comm' (x y : Nat) : D.mul x y = D.mul y x := by
  unfold Format.mul
  congr 1
  cases D.read x <;> cases D.read y <;> simp [Datum.product, Nat.mul_comm, Int.add_comm, Bool.xor_comm]

theorem mul_fin {x y : Nat} (hx : x < 9218868437227405312) (hy : y < 9218868437227405312) : ∃ r, D.mul x y = some r ∧ Near 1074 (val D 0 x * val D 0 y) r := by
  unfold Format.mul
  rw [← word_false x, ← word_false y, read_w false (by omega), read_w false (by omega), if_pos hx, if_pos hy]
  simp only [Datum.product, Option.map_some, Format.write, Bool.xor_false]
  obtain ⟨q, h1, h2⟩ := near' false (mag D x * mag D y) (-1074 + (up D x : Int) + (-1074 + (up D y : Int))) 1074 (up D x + up D y) (by omega)
  refine ⟨q, congrArg some h1, ?_⟩
  have e : mag D x * mag D y * 2 ^ (up D x + up D y) = val D 0 x * val D 0 y := by
    unfold val
    rw [Nat.pow_add]
    simp only [Nat.add_zero, Nat.mul_assoc, Nat.mul_left_comm]
  rw [e] at h2
  exact h2

theorem mul_inf {y : Nat} (hy0 : 0 < y) (hy : y < 9218868437227405312) : D.mul 9218868437227405312 y = some 9218868437227405312 := by
  unfold Format.mul
  rw [← word_false y, read_w false (by omega), if_pos hy, ← word_false 9218868437227405312, read_w false (by omega), if_neg (by omega), if_pos rfl]
  have := mag_pos (f := D) hy0
  simp only [Datum.product, show ¬ mag D y = 0 by omega, if_false, Option.map_some, Format.write, D_inf]
  rfl

/-- x * y, y positive and finite: of greater x no less. -/
theorem mul_pos' {x y : Nat} (hx : x ≤ 9218868437227405312) (hy0 : 0 < y) (hy : y < 9218868437227405312) : ∃ r, D.mul x y = some r ∧ r ≤ 9218868437227405312 := by
  rcases Nat.lt_or_ge x 9218868437227405312 with h | h
  · obtain ⟨r, h1, h2⟩ := mul_fin h hy
    exact ⟨r, h1, h2.1⟩
  · obtain rfl : x = 9218868437227405312 := by omega
    exact ⟨_, mul_inf hy0 hy, Nat.le_refl _⟩

theorem mul_mono {x x' y r r' : Nat} (hx : x ≤ x') (hx' : x' ≤ 9218868437227405312) (hy0 : 0 < y) (hy : y < 9218868437227405312) (h : D.mul x y = some r) (h' : D.mul x' y = some r') : r ≤ r' := by
  rcases Nat.lt_or_ge x' 9218868437227405312 with h1 | h1
  · obtain ⟨a, e1, n1⟩ := mul_fin (show x < 9218868437227405312 by omega) hy
    obtain ⟨b, e2, n2⟩ := mul_fin h1 hy
    rw [h] at e1; cases e1
    rw [h'] at e2; cases e2
    exact n1.mono n2 (Nat.mul_le_mul_right _ (val_le 0 hx))
  · obtain rfl : x' = 9218868437227405312 := by omega
    rw [mul_inf hy0 hy] at h'; cases h'
    obtain ⟨a, e1, n1⟩ := mul_pos' hx hy0 hy
    rw [h] at e1; cases e1
    exact n1

/-! ### x + y, of positive words -/
theorem add_fin {x y : Nat} (hx : x < 9218868437227405312) (hy : y < 9218868437227405312) : ∃ r, D.add x y = some r ∧ Near 0 (val D 0 x + val D 0 y) r := by
  unfold Format.add
  rw [← word_false x, ← word_false y, read_w false (by omega), read_w false (by omega), if_pos hx, if_pos hy]
  simp only [Datum.sum]
  obtain ⟨base, hbase⟩ : ∃ base : Nat, base = min (up D x) (up D y) := ⟨_, rfl⟩
  have hmin : min (-1074 + (up D x : Int)) (-1074 + (up D y : Int)) = -1074 + (base : Int) := by omega
  rw [hmin, show (-1074 + (up D x : Int) - (-1074 + (base : Int))).toNat = up D x - base by omega, show (-1074 + (up D y : Int) - (-1074 + (base : Int))).toNat = up D y - base by omega]
  have e : (mag D x <<< (up D x - base) + mag D y <<< (up D y - base)) * 2 ^ base = val D 0 x + val D 0 y := by
    rw [Nat.add_mul, Nat.shiftLeft_eq, Nat.shiftLeft_eq, Nat.mul_assoc, Nat.mul_assoc, ← Nat.pow_add, ← Nat.pow_add, Nat.sub_add_cancel (by omega), Nat.sub_add_cancel (by omega)]
    rfl
  simp only [signed, Bool.false_eq_true, if_false, Option.map_some, Format.write, Bool.and_self]
  generalize mag D x <<< (up D x - base) = A at *
  generalize mag D y <<< (up D y - base) = B at *
  have e2 : (if ((A : Int) + (B : Int)) = 0 then false else decide ((A : Int) + (B : Int) < 0)) = false := by
    split
    · rfl
    · simp; omega
  have e3 : ((A : Int) + (B : Int)).natAbs = A + B := by omega
  rw [e2, e3]
  obtain ⟨q, h1, h2⟩ := near' false (A + B) (-1074 + (base : Int)) 0 base (by omega)
  rw [e] at h2
  exact ⟨q, congrArg some h1, h2⟩

theorem add_inf {x y : Nat} (hx : x ≤ 9218868437227405312) (hy : y ≤ 9218868437227405312) (h : x = 9218868437227405312 ∨ y = 9218868437227405312) : D.add x y = some 9218868437227405312 := by
  unfold Format.add
  rw [← word_false x, ← word_false y, read_w false (by omega), read_w false (by omega)]
  by_cases h1 : x < 9218868437227405312
  · have h2 : y = 9218868437227405312 := by omega
    subst h2
    rw [if_pos h1, if_neg (by omega), if_pos rfl]
    simp only [Datum.sum, Option.map_some, Format.write, D_inf]; rfl
  · obtain rfl : x = 9218868437227405312 := by omega
    by_cases h2 : y < 9218868437227405312
    · rw [if_neg h1, if_pos rfl, if_pos h2]
      simp only [Datum.sum, Option.map_some, Format.write, D_inf]; rfl
    · obtain rfl : y = 9218868437227405312 := by omega
      rw [if_neg h1, if_pos rfl]
      simp only [Datum.sum, if_true, Option.map_some, Format.write, D_inf]; rfl

theorem add_pos' {x y : Nat} (hx : x ≤ 9218868437227405312) (hy : y ≤ 9218868437227405312) : ∃ r, D.add x y = some r ∧ r ≤ 9218868437227405312 := by
  by_cases h : x = 9218868437227405312 ∨ y = 9218868437227405312
  · exact ⟨_, add_inf hx hy h, Nat.le_refl _⟩
  · obtain ⟨r, h1, h2⟩ := add_fin (show x < 9218868437227405312 by omega) (show y < 9218868437227405312 by omega)
    exact ⟨r, h1, h2.1⟩

theorem add_mono {x x' y y' r r' : Nat} (hx : x ≤ x') (hx' : x' ≤ 9218868437227405312) (hy : y ≤ y') (hy' : y' ≤ 9218868437227405312) (h : D.add x y = some r) (h' : D.add x' y' = some r') : r ≤ r' := by
  by_cases h1 : x' = 9218868437227405312 ∨ y' = 9218868437227405312
  · rw [add_inf hx' hy' h1] at h'; cases h'
    obtain ⟨a, e1, n1⟩ := add_pos' (show x ≤ 9218868437227405312 by omega) (show y ≤ 9218868437227405312 by omega)
    rw [h] at e1; cases e1
    exact n1
  · obtain ⟨a, e1, n1⟩ := add_fin (show x < 9218868437227405312 by omega) (show y < 9218868437227405312 by omega)
    obtain ⟨b, e2, n2⟩ := add_fin (show x' < 9218868437227405312 by omega) (show y' < 9218868437227405312 by omega)
    rw [h] at e1; cases e1
    rw [h'] at e2; cases e2
    exact n1.mono n2 (Nat.add_le_add (val_le 0 hx) (val_le 0 hy))
end Go.Proofs.YbulkdswcDoor
