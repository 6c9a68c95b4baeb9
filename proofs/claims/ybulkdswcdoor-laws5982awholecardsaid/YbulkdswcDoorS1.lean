import Derived.Test.YbulkdswcDoorF5
import Derived.Sort.AssemblyPlain
namespace Go.Proofs.YbulkdswcDoor
open Go Ieee Go.RowKit Go.Sort

abbrev encF : Nat → Value := Value.float .f64

/-- Which floats are NaNs; cmp.Less at float64. -/
def nanF (x : Nat) : Bool := D.order x x != some .eq
def ltF (x y : Nat) : Bool := (nanF x && !nanF y) || D.order x y == some .lt

theorem read_any (x : Nat) : D.read x = D.read (D.word (x / 9223372036854775808 % 2 == 1) (x % 9223372036854775808)) := by
  have hlt : x % 9223372036854775808 < 9223372036854775808 := Nat.mod_lt _ (by omega)
  have h1 : D.word (x / 9223372036854775808 % 2 == 1) (x % 9223372036854775808) % D.signWeight = x % D.signWeight := by
    rw [D_sgn]
    unfold Format.word
    rw [D_sgn]
    split <;> omega
  have h2 : (D.word (x / 9223372036854775808 % 2 == 1) (x % 9223372036854775808) / D.signWeight % 2 == 1) = (x / D.signWeight % 2 == 1) := by
    rw [D_sgn]
    unfold Format.word
    rw [D_sgn]
    cases h : (x / 9223372036854775808 % 2 == 1)
    · simp [Nat.div_eq_of_lt hlt]
    · simp [Nat.add_div_left, Nat.div_eq_of_lt hlt]
  unfold Format.read
  rw [h1, h2]

/-- The order's key: the NaNs first. -/
def fkey (x : Nat) : Int := if 9218868437227405312 < x % 9223372036854775808 then -18446744073709551616 else skey (x / 9223372036854775808 % 2 == 1) (x % 9223372036854775808)

theorem skey_gt (s : Bool) {r : Nat} (h : r ≤ 9218868437227405312) : -18446744073709551616 < skey s r := by
  unfold skey; cases s <;> simp <;> omega

theorem order_any (x y : Nat) : D.order x y = D.order (D.word (x / 9223372036854775808 % 2 == 1) (x % 9223372036854775808)) (D.word (y / 9223372036854775808 % 2 == 1) (y % 9223372036854775808)) := by
  unfold Format.order
  rw [read_any x, read_any y]

theorem nanF_iff (x : Nat) : nanF x = decide (9218868437227405312 < x % 9223372036854775808) := by
  have hlt : x % 9223372036854775808 < 9223372036854775808 := Nat.mod_lt _ (by omega)
  unfold nanF
  rw [order_any]
  by_cases h : 9218868437227405312 < x % 9223372036854775808
  · rw [order_nan_left h hlt]
    simp [h]
  · rw [order_word _ _ (by omega) (by omega), cmp_eq rfl]
    simp [h]

theorem order_fin {x y : Nat} (hx : nanF x = false) (hy : nanF y = false) : D.order x y = some (compare (fkey x) (fkey y)) := by
  rw [nanF_iff] at hx hy
  simp only [decide_eq_false_iff_not] at hx hy
  rw [order_any, order_word _ _ (by omega) (by omega)]
  unfold fkey
  rw [if_neg hx, if_neg hy]

theorem order_nan {x y : Nat} (h : nanF x = true ∨ nanF y = true) : D.order x y = none := by
  have h1 : x % 9223372036854775808 < 9223372036854775808 := Nat.mod_lt _ (by omega)
  have h2 : y % 9223372036854775808 < 9223372036854775808 := Nat.mod_lt _ (by omega)
  rw [nanF_iff, nanF_iff] at h
  simp only [decide_eq_true_eq] at h
  rw [order_any]
  rcases h with h | h
  · exact order_nan_left h h1
  · exact order_nan_right h h2

theorem fkey_nan {x : Nat} (h : nanF x = true) : fkey x = -18446744073709551616 := by
  rw [nanF_iff] at h
  unfold fkey
  rw [if_pos (by simpa using h)]

theorem fkey_gt {x : Nat} (h : nanF x = false) : -18446744073709551616 < fkey x := by
  rw [nanF_iff] at h
  simp only [decide_eq_false_iff_not] at h
  unfold fkey
  rw [if_neg h]
  exact skey_gt _ (by omega)

theorem ltF_eq (x y : Nat) : ltF x y = decide (fkey x < fkey y) := by
  unfold ltF
  cases hx : nanF x <;> cases hy : nanF y
  · rw [order_fin hx hy]
    rcases Int.lt_trichotomy (fkey x) (fkey y) with h | h | h
    · rw [cmp_lt h]; simp [h]
    · rw [cmp_eq h]; simp [h]
    · rw [cmp_gt h]; simp; omega
  · rw [order_nan (.inr hy)]
    have := fkey_nan hy
    have := fkey_gt hx
    simp; omega
  · have := fkey_nan hx
    have := fkey_gt hy
    simp; omega
  · rw [order_nan (.inl hx)]
    have := fkey_nan hx
    have := fkey_nan hy
    simp; omega

theorem swoF : SWO ltF where
  irrefl x := by rw [ltF_eq]; simp
  trans x y z h1 h2 := by rw [ltF_eq] at *; simp at *; omega
  ntrans x y z h1 h2 := by rw [ltF_eq] at *; simp at *; omega

end Go.Proofs.YbulkdswcDoor
