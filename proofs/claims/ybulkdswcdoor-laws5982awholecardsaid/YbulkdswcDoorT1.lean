import Derived.Test.YbulkdswcDoorS14
namespace Go.Proofs.YbulkdswcDoor
open Go Ieee Go.RowKit Go.Sort

attribute [local go_sem] run_store_float

/-! ### The floats' operations as the walk meets them -/
theorem run_mul {x y r : Nat} (h : D.mul x y = some r) (w : World) : (binOp .mul 23 (.float .f64 x) (.float .f64 y)).run Ybad.prog w = .ok (.float .f64 r) w := run_float_arith w .mul 23 .f64 x y r h
theorem run_div {x y r : Nat} (h : D.div x y = some r) (w : World) : (binOp .quo 23 (.float .f64 x) (.float .f64 y)).run Ybad.prog w = .ok (.float .f64 r) w := run_float_arith w .quo 23 .f64 x y r h
theorem run_add {x y r : Nat} (h : D.add x y = some r) (w : World) : (binOp .add 23 (.float .f64 x) (.float .f64 y)).run Ybad.prog w = .ok (.float .f64 r) w := run_float_arith w .add 23 .f64 x y r h
theorem run_sub {x y r : Nat} (h : D.sub x y = some r) (w : World) : (binOp .sub 23 (.float .f64 x) (.float .f64 y)).run Ybad.prog w = .ok (.float .f64 r) w := run_float_arith w .sub 23 .f64 x y r h

/-- 0.1 -/
abbrev c01 : Nat := 4591870180066957722

/-- The mode's test. -/
def modeB (n : Nat) : Nat := (D.mul c01 (floatOfInt .f64 n)).getD 0
def modeF (n : Nat) (c : Int) : Bool := D.order (floatOfInt .f64 c) (modeB n) == some .gt || D.order (floatOfInt .f64 c) (modeB n) == some .eq

theorem floatOfInt_word (z : Int) : ∃ r, r ≤ 9218868437227405312 ∧ floatOfInt .f64 z = D.word (decide (z < 0)) r := nearest_word' _ _ _

theorem mode_mul (n : Nat) : D.mul c01 (floatOfInt .f64 n) = some (modeB n) := by
  obtain ⟨r, hr, e⟩ := floatOfInt_word (n : Int)
  rw [show decide ((n : Int) < 0) = false from decide_eq_false (by omega), word_false] at e
  unfold modeB
  rw [e]
  obtain ⟨q, h1, _⟩ := mul_pos' (x := r) (y := c01) hr (by decide) (by decide)
  rw [mul_comm', h1]
  rfl

/-! ### The clusters in memory -/
structure CM (w : World) (B sb so : Nat) (s : Array Nat) (gp : Option Addr) (g : List Nat) : Prop where
  lt : sb < B
  sc : ∀ k, k < s.size → w.cell? ⟨sb, so + k, none⟩ = some (.float .f64 s[k]!)
  gc : ∀ (i k : Nat), g[i]? = some k → ∃ b off, gp = some ⟨b, off, none⟩ ∧ b < B ∧ w.cell? ⟨b, off + i, none⟩ = some (.int .i64 k)

theorem CM.kept {w w' : World} {B B' sb so : Nat} {s : Array Nat} {gp : Option Addr} {g : List Nat} (h : CM w B sb so s gp g) (hb : Below B w w') (hB : B ≤ B') : CM w' B' sb so s gp g :=
  ⟨Nat.lt_of_lt_of_le h.lt hB, fun k hk => (hb.cell (p := ⟨sb, so + k, none⟩) h.lt).trans (h.sc k hk), fun i k hi => by
    obtain ⟨b, off, e, h1, h2⟩ := h.gc i k hi
    exact ⟨b, off, e, by omega, (hb.cell (p := ⟨b, off + i, none⟩) h1).trans h2⟩⟩

/-- The halves and the half steps. -/
structure Fl (s : Array Nat) (h2 H : Nat → Nat) : Prop where
  div : ∀ k, k < s.size → D.div s[k]! two = some (h2 k)
  sub : ∀ k, k + 1 < s.size → D.sub (h2 (k + 1)) (h2 k) = some (H k)

/-- The value of a clusters. -/
abbrev clv (sb so n cs lo up hr : Nat) (gp : Option Addr) (gn gc : Nat) : Value := .agg #[.slice (some ⟨sb, so, none⟩) n cs, .int .i64 lo, .int .i64 up, .float .f64 hr, .slice gp gn gc]

set_option maxHeartbeats 2000000 in
theorem wide_f {d hr a r : Nat} (h1 : D.mul two d = some a) (h2 : D.mul a hr = some r) (w : World) :
    Calls Ybad.prog 6 #[.float .f64 d, .float .f64 hr] w fun e w' => e = .returned (.float .f64 r) ∧ w' = w := by
  have e1 := run_mul h1
  have e2 := run_mul h2
  clear h1 h2
  go_enter Ybad.func6, Ybad.ntmps6
  go_wp2
  go_ret
  exact ⟨rfl, rfl⟩

set_option maxHeartbeats 2000000 in
theorem half_f {s : Array Nat} {h2 H : Nat → Nat} (F : Fl s h2 H) {w : World} {sb so cs k : Nat} (hc : ∀ k, k < s.size → w.cell? ⟨sb, so + k, none⟩ = some (.float .f64 s[k]!)) (hk : k + 1 < s.size) (hn : s.size ≤ 1048576) :
    Calls Ybad.prog 7 #[.slice (some ⟨sb, so, none⟩) s.size cs, .int .i64 k] w fun e w' => e = .returned (.float .f64 (H k)) ∧ ∃ q, w' = w.drewN q := by
  have c1 := hc k (by omega)
  have c2 := hc (k + 1) hk
  have e1 := run_div (F.div k (by omega))
  have e2 := run_div (F.div (k + 1) hk)
  have e3 := run_sub (F.sub k hk)
  have k0 : (0 : Int) ≤ (k : Int) := by omega
  have k1 : (k : Int) + 1 < (s.size : Int) := by omega
  have n1 : (s.size : Int) ≤ 1048576 := by omega
  have hw : IntKind.i64.wrap ((k : Int) + 1) = (k : Int) + 1 := wrapI (by omega) (by omega)
  clear hc
  generalize s[k]! = x at *
  generalize s[k + 1]! = y at *
  generalize h2 k = p at *
  generalize h2 (k + 1) = q at *
  generalize H k = r at *
  clear F
  go_enter Ybad.func7, Ybad.ntmps7
  go_wp2_with fail
  go_quiet (fail)
  go_wp2
  go_ret
  exact ⟨rfl, _, rfl⟩

set_option maxHeartbeats 2000000 in
theorem mode_f (n : Nat) (c : Int) (w : World) : Calls Ybad.prog 43 #[.int .i64 c, .int .i64 n] w fun e w' => e = .returned (.bool (modeF n c)) ∧ w' = w := by
  have e1 := run_mul (mode_mul n)
  unfold modeF
  generalize modeB n = m at *
  go_enter Ybad.func43, Ybad.ntmps43
  go_wp2
  go_ret
  exact ⟨rfl, rfl⟩

set_option maxHeartbeats 2000000 in
theorem widening_f {sb so n cs lo up hr gn gc d a r : Nat} {gp : Option Addr} (h1 : D.mul two d = some a) (h2 : D.mul a hr = some r) (w : World) :
    Calls Ybad.prog 39 #[clv sb so n cs lo up hr gp gn gc, .float .f64 d] w fun e w' => e = .returned (.float .f64 r) ∧ Below w.heap.size w w' := by
  have e1 := run_mul h1
  have e2 := run_mul h2
  clear h1 h2
  go_enter Ybad.func39, Ybad.ntmps39
  go_wp2
  go_ret
  exact ⟨rfl, (Below.refl _ w).alloc (Nat.le_refl _) _⟩

set_option maxHeartbeats 2000000 in
theorem isMode_f {sb so n cs lo up hr gn gc : Nat} {gp : Option Addr} (c : Int) (w : World) :
    Calls Ybad.prog 42 #[clv sb so n cs lo up hr gp gn gc, .int .i64 c] w fun e w' => e = .returned (.bool (modeF n c)) ∧ Below w.heap.size w w' := by
  have e1 := run_mul (mode_mul n)
  unfold modeF
  generalize modeB n = m at *
  go_enter Ybad.func42, Ybad.ntmps42
  go_wp2
  go_ret
  exact ⟨rfl, (Below.refl _ w).alloc (Nat.le_refl _) _⟩

set_option maxHeartbeats 2000000 in
theorem share_f {sb so n cs lo up hr gn gc h a r : Nat} {gp : Option Addr} (h1 : D.div h hr = some a) (h2 : D.div a two = some r) (w : World) :
    Calls Ybad.prog 19 #[clv sb so n cs lo up hr gp gn gc, .float .f64 h] w fun e w' => e = .returned (.float .f64 r) ∧ Below w.heap.size w w' := by
  have e1 := run_div h1
  have e2 := run_div h2
  clear h1 h2
  go_enter Ybad.func19, Ybad.ntmps19
  go_wp2
  go_ret
  exact ⟨rfl, (Below.refl _ w).alloc (Nat.le_refl _) _⟩
end Go.Proofs.YbulkdswcDoor
