import Derived.Test.YbulkdswcDoorF2
namespace Go.Proofs.YbulkdswcDoor
open Go Ieee

abbrev D : Format := Ieee.double

theorem D_inf : D.infRung = 9218868437227405312 := by decide
theorem D_sgn : D.signWeight = 9223372036854775808 := by decide
theorem D_le : D.binade ≤ D.infRung := by decide
theorem D_least : D.leastPlace = -1074 := by decide
theorem D_fb : D.fractionBits = 52 := rfl
theorem D_binade : D.binade = 4503599627370496 := by decide

theorem read_w (neg : Bool) {r : Nat} (h : r < 9223372036854775808) : D.read (D.word neg r) =
    if r < 9218868437227405312 then .number neg (mag D r) (-1074 + up D r) else if r = 9218868437227405312 then .infinity neg else .nan neg (r - 9218868437227405312) := by
  have := read_word D D_le neg (r := r) (by rw [D_sgn]; exact h)
  rw [D_inf, D_least] at this
  exact this

theorem word_false (r : Nat) : D.word false r = r := rfl

/-- Every word is a sign and a rung. -/
theorem word_of {x : Nat} (h : x < 18446744073709551616) : ∃ neg r, r < 9223372036854775808 ∧ x = D.word neg r := by
  rcases Nat.lt_or_ge x 9223372036854775808 with h1 | h1
  · exact ⟨false, x, h1, rfl⟩
  · refine ⟨true, x - 9223372036854775808, by omega, ?_⟩
    unfold Format.word
    rw [D_sgn]
    simp; omega

/-- What the order looks at. -/
def skey (neg : Bool) (r : Nat) : Int := if neg then -(r : Int) else r

def sval (neg : Bool) (r : Nat) : Int := if neg then -(val D 0 r : Int) else val D 0 r

theorem sval_lt {s t : Bool} {r q : Nat} (h : skey s r < skey t q) : sval s r < sval t q := by
  unfold skey at h
  unfold sval
  have v0 : ∀ r, 0 < r → 0 < val D 0 r := fun r h => val_pos 0 h
  have l := fun (a b : Nat) (h : a < b) => val_lt (f := D) 0 h
  cases s <;> cases t <;> simp at h ⊢
  · exact l _ _ h
  · omega
  · rcases Nat.eq_zero_or_pos r with rfl | h0
    · have : 0 < q := by omega
      have := v0 q this
      omega
    · have := v0 r h0
      omega
  · exact l _ _ h

theorem sval_eq {s t : Bool} {r q : Nat} (h : skey s r = skey t q) : sval s r = sval t q := by
  unfold skey at h
  unfold sval
  cases s <;> cases t <;> simp only [Bool.false_eq_true, if_false, if_true] at h ⊢
  · have : r = q := by omega
    rw [this]
  · have h1 : r = 0 := by omega
    have h2 : q = 0 := by omega
    rw [h1, h2, val_zero]; rfl
  · have h1 : r = 0 := by omega
    have h2 : q = 0 := by omega
    rw [h1, h2, val_zero]; rfl
  · have : r = q := by omega
    rw [this]

theorem cmp_lt {a b : Int} (h : a < b) : compare a b = .lt := by simp [compare, compareOfLessAndEq, h]
theorem cmp_eq {a b : Int} (h : a = b) : compare a b = .eq := by simp [compare, compareOfLessAndEq, h]
theorem cmp_gt {a b : Int} (h : b < a) : compare a b = .gt := by
  have h1 : ¬ a < b := by omega
  have h2 : ¬ a = b := by omega
  simp [compare, compareOfLessAndEq, h1, h2]

theorem compare_of {a b c d : Int} (h1 : a < b → c < d) (h2 : a = b → c = d) (h3 : b < a → d < c) : compare c d = compare a b := by
  rcases Int.lt_trichotomy a b with h | h | h
  · rw [cmp_lt h, cmp_lt (h1 h)]
  · rw [cmp_eq h, cmp_eq (h2 h)]
  · rw [cmp_gt h, cmp_gt (h3 h)]

theorem signed_val (s : Bool) (r base : Nat) (hb : base ≤ up D r) : signed s (mag D r) (up D r - base) * 2 ^ base = sval s r := by
  have e : mag D r <<< (up D r - base) * 2 ^ base = val D 0 r := by
    rw [Nat.shiftLeft_eq, Nat.mul_assoc, ← Nat.pow_add, Nat.sub_add_cancel hb]; rfl
  unfold signed sval
  rw [← e]
  generalize mag D r <<< (up D r - base) = N
  cases s
  · simp
  · simp [Int.neg_mul]

/-- Go's order on words that are no NaN: that of the keys. -/
theorem order_word (s t : Bool) {r q : Nat} (hr : r ≤ 9218868437227405312) (hq : q ≤ 9218868437227405312) : D.order (D.word s r) (D.word t q) = some (compare (skey s r) (skey t q)) := by
  unfold Format.order
  rw [read_w s (by omega), read_w t (by omega)]
  by_cases h1 : r < 9218868437227405312
  · rw [if_pos h1]
    by_cases h2 : q < 9218868437227405312
    · rw [if_pos h2]
      simp only [Datum.order]
      congr 1
      obtain ⟨base, hbase⟩ : ∃ base : Nat, base = min (up D r) (up D q) := ⟨_, rfl⟩
      have hmin : min (-1074 + (up D r : Int)) (-1074 + (up D q : Int)) = -1074 + (base : Int) := by omega
      rw [hmin, show (-1074 + (up D r : Int) - (-1074 + (base : Int))).toNat = up D r - base by omega, show (-1074 + (up D q : Int) - (-1074 + (base : Int))).toNat = up D q - base by omega]
      have e1 := signed_val s r base (by omega)
      have e2 := signed_val t q base (by omega)
      have hp : (0 : Int) < 2 ^ base := Int.pow_pos (by omega)
      generalize signed s (mag D r) (up D r - base) = A at *
      generalize signed t (mag D q) (up D q - base) = B at *
      refine compare_of (fun h => ?_) (fun h => ?_) (fun h => ?_)
      · have := sval_lt h
        rw [← e1, ← e2] at this
        exact Int.lt_of_mul_lt_mul_right this (Int.le_of_lt hp)
      · have := sval_eq h
        rw [← e1, ← e2] at this
        exact Int.eq_of_mul_eq_mul_right (by omega) this
      · have := sval_lt h
        rw [← e1, ← e2] at this
        exact Int.lt_of_mul_lt_mul_right this (Int.le_of_lt hp)
    · rw [if_neg h2, if_pos (show q = 9218868437227405312 by omega)]
      simp only [Datum.order]
      congr 1
      unfold skey
      cases t
      · cases s
        · exact (cmp_lt (by simp; omega)).symm
        · exact (cmp_lt (by simp; omega)).symm
      · cases s
        · exact (cmp_gt (by simp; omega)).symm
        · exact (cmp_gt (by simp; omega)).symm
  · rw [if_neg h1, if_pos (show r = 9218868437227405312 by omega)]
    obtain rfl : r = 9218868437227405312 := by omega
    by_cases h2 : q < 9218868437227405312
    · rw [if_pos h2]
      simp only [Datum.order]
      congr 1
      unfold skey
      cases s
      · cases t
        · exact (cmp_gt (by simp; omega)).symm
        · exact (cmp_gt (by simp; omega)).symm
      · cases t
        · exact (cmp_lt (by simp; omega)).symm
        · exact (cmp_lt (by simp; omega)).symm
    · rw [if_neg h2, if_pos (show q = 9218868437227405312 by omega)]
      obtain rfl : q = 9218868437227405312 := by omega
      cases s <;> cases t <;> decide

theorem order_nan_left {s : Bool} {r y : Nat} (hr : 9218868437227405312 < r) (h : r < 9223372036854775808) : D.order (D.word s r) y = none := by
  unfold Format.order
  rw [read_w s h, if_neg (by omega), if_neg (by omega)]
  cases D.read y <;> rfl

theorem order_nan_right {s : Bool} {r x : Nat} (hr : 9218868437227405312 < r) (h : r < 9223372036854775808) : D.order x (D.word s r) = none := by
  unfold Format.order
  rw [read_w s h, if_neg (by omega), if_neg (by omega)]
  cases D.read x <;> rfl
end Go.Proofs.YbulkdswcDoor
