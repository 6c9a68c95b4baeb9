import Derived.Test.YbulkdswcDoorV2
namespace Go.Proofs.YbulkdswcDoor
open Go Ieee Go.RowKit Go.Sort Go.Shelf Go.Lib

theorem read_nan {x : Nat} (h : nanF x = true) : ∃ s p, D.read x = .nan s p := by
  rw [nanF_iff] at h
  simp only [decide_eq_true_eq] at h
  rw [read_any, read_w _ (Nat.mod_lt _ (by omega)), if_neg (by omega), if_neg (by omega)]
  exact ⟨_, _, rfl⟩

theorem div_nan {x y : Nat} (h : nanF x = true) : D.div x y = none := by
  obtain ⟨s, p, e⟩ := read_nan h
  unfold Format.div
  rw [e]
  cases D.read y <;> rfl
theorem sub_nan_right {x y : Nat} (h : nanF y = true) : D.sub x y = none := by
  obtain ⟨s, p, e⟩ := read_nan h
  unfold Format.sub
  rw [e]
  cases D.read x <;> rfl

theorem cut_nan (x y t : Nat) : nanF ((Question.nanBits .f64 x y).cut t) = true ∧ (Question.nanBits .f64 x y).cut t < 18446744073709551616 := by
  have e : (Question.nanBits .f64 x y).cut t = (t % 2) * 2 ^ 63 + 0x7ff0000000000000 + 1 + (t / 2) % (2 ^ 52 - 1) := rfl
  rw [e, nanF_iff]
  simp only [decide_eq_true_eq]
  have h1 : t % 2 < 2 := Nat.mod_lt _ (by omega)
  have h2 : (t / 2) % (2 ^ 52 - 1) < 2 ^ 52 - 1 := Nat.mod_lt _ (by omega)
  generalize t % 2 = p at *
  generalize (t / 2) % (2 ^ 52 - 1) = q at *
  omega

theorem run_div_nan {x y : Nat} (h : D.div x y = none) (w : World) : ∃ r, nanF r = true ∧ r < 18446744073709551616 ∧ (binOp .quo 23 (.float .f64 x) (.float .f64 y)).run Ybad.prog w = .ok (.float .f64 r) { w with drawn := w.drawn + 1 } := by
  have h' : FloatKind.f64.format.div x y = none := h
  refine ⟨_, (cut_nan x y (w.tape w.drawn (.nanBits .f64 x y))).1, (cut_nan x y (w.tape w.drawn (.nanBits .f64 x y))).2, ?_⟩
  simp [binOp, Op.floatArith, h', choose, go_sem]
  rfl
theorem run_sub_nan {x y : Nat} (h : D.sub x y = none) (w : World) : ∃ r, nanF r = true ∧ r < 18446744073709551616 ∧ (binOp .sub 23 (.float .f64 x) (.float .f64 y)).run Ybad.prog w = .ok (.float .f64 r) { w with drawn := w.drawn + 1 } := by
  have h' : FloatKind.f64.format.sub x y = none := h
  refine ⟨_, (cut_nan x y (w.tape w.drawn (.nanBits .f64 x y))).1, (cut_nan x y (w.tape w.drawn (.nanBits .f64 x y))).2, ?_⟩
  simp [binOp, Op.floatArith, h', choose, go_sem]
  rfl
end Go.Proofs.YbulkdswcDoor
