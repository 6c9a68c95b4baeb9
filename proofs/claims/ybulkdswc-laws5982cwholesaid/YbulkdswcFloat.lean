import Derived.Laws.FloatBits
import Derived.Laws.Cover2
namespace Go.Proofs.Ybulkdswc
open Go

theorem order_self (d : Ieee.Datum) (h : d.isNaN = false) : d.order d = some .eq := by
  cases d with
  | number s m i => simp [Ieee.Datum.order, compare, compareOfLessAndEq]
  | infinity s => simp [Ieee.Datum.order, compare, compareOfLessAndEq]
  | nan s t => simp [Ieee.Datum.isNaN] at h

theorem read_word (f : Ieee.Format) (neg : Bool) (r : Nat) (h : r ≤ f.infRung) : (f.read (f.word neg r)).isNaN = false := by
  have hlt : r < f.signWeight := Nat.lt_of_le_of_lt h f.infRung_lt
  have hm : f.word neg r % f.signWeight = r := by
    unfold Ieee.Format.word
    cases neg
    · simp [Nat.mod_eq_of_lt hlt]
    · simp [Nat.mod_eq_of_lt hlt]
  unfold Ieee.Format.read
  rw [hm]
  simp only
  split
  · rfl
  · split
    · rfl
    · split
      · rfl
      · rename_i h1 h2 h3
        omega

theorem nearest_word (f : Ieee.Format) (neg : Bool) (m : Nat) (p : Int) : ∃ r, r ≤ f.infRung ∧ f.nearest neg m p = f.word neg r := by
  unfold Ieee.Format.nearest
  split
  · exact ⟨0, Nat.zero_le _, rfl⟩
  · exact ⟨_, Nat.min_le_right _ _, rfl⟩

/-- A whole number made a float64 equals itself. -/
theorem order_nearest (n : Int) : FloatKind.f64.format.order (FloatKind.f64.nearest n) (FloatKind.f64.nearest n) = some .eq := by
  have : ∃ r, r ≤ Ieee.double.infRung ∧ FloatKind.f64.nearest n = Ieee.double.word (n < 0) r := nearest_word _ _ _ _
  obtain ⟨r, hr, he⟩ := this
  unfold Ieee.Format.order
  refine order_self _ ?_
  rw [he]
  exact read_word _ _ _ hr
end Go.Proofs.Ybulkdswc
