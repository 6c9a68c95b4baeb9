import Derived.Test.YbulkdswcDoorU4
namespace Go.Proofs.YbulkdswcDoor
open Go Ieee Go.RowKit Go.Sort Go.Shelf Go.Lib

/-! ### What departure answers, with no Go in sight -/
def wid (hr d : Nat) : Nat := ((D.mul two d).bind fun a => D.mul a hr).getD 0
def sh (H : Nat → Nat) (hr k : Nat) : Nat := ((D.div (H k) hr).bind fun a => D.div a two).getD 0
def chg (H : Nat → Nat) (hr : Nat) (g : List Nat) : List Nat := FST :: (g.map (sh H hr)).filter fun x => decide (FST < x)
def withinF (x : Nat) : Option Nat → Nat
  | none => (D.mul two x).getD 0
  | some y => ((D.div x two).bind fun a => (D.div y two).bind fun b => D.add a b).getD 0
abbrev NANW : Nat := 9218868437227405313
def byU (v : Nat) (h2 : Nat → Nat) (hr t : Nat) : Nat := ((D.div v two).bind fun a => (D.sub a (h2 t)).bind fun b => D.div b hr).getD NANW
def byD (v : Nat) (h2 : Nat → Nat) (hr t : Nat) : Nat := ((D.div v two).bind fun a => (D.sub (h2 t) a).bind fun b => D.div b hr).getD NANW

def stepD (b x u d : Nat) : Nat := if (D.order b x == some .gt) = true then max d (min b u) else d
def depL (by_ : Nat → Option Nat → Nat) : List Nat → Nat → Nat
  | [], d => d
  | [x], d => stepD (by_ x none) x 9218868437227405312 d
  | x :: y :: r, d => depL by_ (y :: r) (stepD (by_ x (some y)) x y d)

theorem depL_drop {by_ : Nat → Option Nat → Nat} {C : List Nat} {i x d : Nat} (h : C[i]? = some x) : depL by_ (C.drop i) d = depL by_ (C.drop (i + 1)) (stepD (by_ x C[i + 1]?) x (C[i + 1]?.getD 9218868437227405312) d) := by
  obtain ⟨hlt, e1⟩ := List.getElem?_eq_some_iff.1 h
  rw [List.drop_eq_getElem_cons hlt, e1]
  cases h2 : C[i + 1]? with
  | none =>
    have : C.length ≤ i + 1 := List.getElem?_eq_none_iff.1 h2
    rw [List.drop_of_length_le this]
    rfl
  | some k =>
    obtain ⟨hlt2, e2⟩ := List.getElem?_eq_some_iff.1 h2
    rw [List.drop_eq_getElem_cons hlt2, e2]
    rfl

/-- What is asked of the data. -/
structure Dt (s : Array Nat) (h2 H : Nat → Nat) (hr lo up : Nat) (g : List Nat) : Prop where
  n0 : 0 < s.size
  n1 : s.size ≤ 8200
  fl : Fl s h2 H
  gk : ∀ k ∈ g, k + 1 < s.size
  gl : g.length ≤ 8200
  lo : lo ≤ 1048576
  up : up ≤ 1048576
  wide : ∀ d, FST ≤ d → d ≤ 9218868437227405312 → ∃ a, D.mul two d = some a ∧ D.mul a hr = some (wid hr d)
  cmp : ∀ d, FST ≤ d → d ≤ 9218868437227405312 → ∀ k ∈ g, D.order (H k) (wid hr d) ≠ none
  share : ∀ k ∈ g, ∃ a, D.div (H k) hr = some a ∧ D.div a two = some (sh H hr k) ∧ sh H hr k ≤ 9218868437227405312
  ab : ∀ t, t < s.size → ∃ z, D.add s[t]! (wid hr FST) = some z
  be : ∀ t, t < s.size → ∃ z, D.sub s[t]! (wid hr FST) = some z

/-- v, seen from the halves: a NaN, or all is a number. -/
def Vt (n : Nat) (h2 : Nat → Nat) (hr v : Nat) : Prop := nanF v = true ∨ (nanF v = false ∧ ∃ v2, D.div v two = some v2 ∧ ∀ t, t < n → (∃ a, D.sub v2 (h2 t) = some a ∧ D.div a hr = some (byU v h2 hr t) ∧ byU v h2 hr t < 18446744073709551616) ∧ (∃ a, D.sub (h2 t) v2 = some a ∧ D.div a hr = some (byD v h2 hr t) ∧ byD v h2 hr t < 18446744073709551616))

def abv (s : Array Nat) (H : Nat → Nat) (hr up : Nat) (g : List Nat) : Nat := (D.add s[topI s.size H (wid hr FST) up g]! (wid hr FST)).getD 0
def blw (s : Array Nat) (H : Nat → Nat) (hr lo : Nat) (g : List Nat) : Nat := (D.sub s[botI s.size H (wid hr FST) lo g]! (wid hr FST)).getD 0
def inside (v ab be : Nat) : Bool := (D.order v ab == some .lt || D.order v ab == some .eq) && (D.order v be == some .gt || D.order v be == some .eq)
def bey (n : Nat) (h2 H : Nat → Nat) (hr lo up : Nat) (g : List Nat) (v ab x : Nat) (nx : Option Nat) : Nat :=
  if (D.order v ab == some .gt) = true then byU v h2 hr (topI n H (wid hr (withinF x nx)) up g) else byD v h2 hr (botI n H (wid hr (withinF x nx)) lo g)

/-- The answer over the changes C. -/
def depR (s : Array Nat) (h2 H : Nat → Nat) (hr lo up : Nat) (g : List Nat) (v : Nat) (C : List Nat) : Nat :=
  if inside v (abv s H hr up g) (blw s H hr lo g) = true then 0 else depL (bey s.size h2 H hr lo up g v (abv s H hr up g)) C 0

/-- A strictly ascending list of these elements. -/
def Asc (l C : List Nat) : Prop := C.Pairwise (· < ·) ∧ ∀ x, x ∈ C ↔ x ∈ l

theorem within_last_eq {x : Nat} (h : x ≤ 9218868437227405312) : D.mul two x = some (withinF x none) := by
  obtain ⟨a, e, _⟩ := mul_two h
  simp [withinF, e]
theorem within_mid_eq {x y : Nat} (hx : x ≤ 9218868437227405312) (hy : y ≤ 9218868437227405312) : ∃ a b, D.div x two = some a ∧ D.div y two = some b ∧ D.add a b = some (withinF x (some y)) := by
  obtain ⟨a, e1, ha⟩ := half_pos hx
  obtain ⟨b, e2, hb⟩ := half_pos hy
  obtain ⟨z, e3, _⟩ := add_pos' ha hb
  exact ⟨a, b, e1, e2, by simp [withinF, e1, e2, e3]⟩

theorem within_ok {x : Nat} (h1 : FST ≤ x) (h2 : x ≤ 9218868437227405312) (nx : Option Nat) (hn : ∀ y, nx = some y → FST ≤ y ∧ y ≤ 9218868437227405312) : FST ≤ withinF x nx ∧ withinF x nx ≤ 9218868437227405312 := by
  cases nx with
  | none => exact within_last h1 h2 (within_last_eq h2)
  | some y =>
    obtain ⟨hy1, hy2⟩ := hn y rfl
    obtain ⟨a, b, e1, e2, e3⟩ := within_mid_eq h2 hy2
    exact within_mid h1 h2 hy1 hy2 e1 e2 e3

theorem run_minF {x y : Nat} (hx : x ≤ 9218868437227405312) (hy : y ≤ 9218868437227405312) (t : Array TypeId) (r : TypeId) (w : World) : (Builtin.min_ t r #[.float .f64 x, .float .f64 y]).run Ybad.prog w = .ok (.float .f64 (min x y)) w := by
  have ho := order_pos hx hy
  rcases Nat.lt_trichotomy x y with h | h | h
  · rw [cmp_lt (by omega)] at ho
    have ho : FloatKind.f64.format.order x y = some .lt := ho
    rw [Nat.min_eq_left (by omega)]
    simp [Builtin.min_, Builtin.min2, ho, go_sem]
  · subst h
    rw [cmp_eq (by omega)] at ho
    have ho : FloatKind.f64.format.order x x = some .eq := ho
    rw [Nat.min_self]
    simp [Builtin.min_, Builtin.min2, ho, go_sem]
  · rw [cmp_gt (by omega)] at ho
    have ho : FloatKind.f64.format.order x y = some .gt := ho
    rw [Nat.min_eq_right (by omega)]
    simp [Builtin.min_, Builtin.min2, ho, go_sem]
theorem run_maxF {x y : Nat} (hx : x ≤ 9218868437227405312) (hy : y ≤ 9218868437227405312) (t : Array TypeId) (r : TypeId) (w : World) : (Builtin.max_ t r #[.float .f64 x, .float .f64 y]).run Ybad.prog w = .ok (.float .f64 (max x y)) w := by
  have ho := order_pos hx hy
  rcases Nat.lt_trichotomy x y with h | h | h
  · rw [cmp_lt (by omega)] at ho
    have ho : FloatKind.f64.format.order x y = some .lt := ho
    rw [Nat.max_eq_right (by omega)]
    simp [Builtin.max_, Builtin.max2, ho, go_sem]
  · subst h
    rw [cmp_eq (by omega)] at ho
    have ho : FloatKind.f64.format.order x x = some .eq := ho
    rw [Nat.max_self]
    simp [Builtin.max_, Builtin.max2, ho, go_sem]
  · rw [cmp_gt (by omega)] at ho
    have ho : FloatKind.f64.format.order x y = some .gt := ho
    rw [Nat.max_eq_left (by omega)]
    simp [Builtin.max_, Builtin.max2, ho, go_sem]

theorem gt_pos {b x : Nat} (hb : b < 18446744073709551616) (hx : 0 < x) (hx2 : x ≤ 9218868437227405312) (h : (D.order b x == some .gt) = true) : b ≤ 9218868437227405312 ∧ x < b := by
  have hnx : nanF x = false := by rw [nanF_iff, Nat.mod_eq_of_lt (by omega)]; simp; omega
  cases hnb : nanF b with
  | true =>
    have : D.order b x = none := by
      rw [order_any]
      rw [nanF_iff] at hnb
      exact order_nan_left (by simpa using hnb) (Nat.mod_lt _ (by omega))
    rw [this] at h
    cases h
  | false =>
    rw [order_fin hnb hnx, fkey_pos hx2] at h
    have hk : (x : Int) < fkey b := by
      rcases Int.lt_trichotomy (fkey b) (x : Int) with k | k | k
      · rw [cmp_lt k] at h; cases h
      · rw [cmp_eq k] at h; cases h
      · exact k
    rw [nanF_iff] at hnb
    simp only [decide_eq_false_iff_not] at hnb
    unfold fkey at hk
    rw [if_neg hnb] at hk
    unfold skey at hk
    cases hs : (b / 9223372036854775808 % 2 == 1) with
    | true => rw [hs] at hk; simp at hk; omega
    | false =>
      rw [hs] at hk
      simp at hk
      have : b / 9223372036854775808 % 2 ≠ 1 := by simpa using hs
      have hb2 : b < 9223372036854775808 := by omega
      exact ⟨by omega, by omega⟩

/-- What comes of a round's reckoning: the value, or at a NaN some NaN. -/
def BB (v b bb : Nat) : Prop := (bb = b ∧ bb < 18446744073709551616) ∨ (nanF bb = true ∧ nanF b = true ∧ nanF v = true)

theorem BB.gt {v b bb x : Nat} (h : BB v b bb) : (D.order bb x == some .gt) = (D.order b x == some .gt) := by
  rcases h with ⟨rfl, _⟩ | ⟨h1, h2, _⟩
  · rfl
  · rw [order_nan (.inl h1), order_nan (.inl h2)]
theorem BB.eq {v b bb x : Nat} (h : BB v b bb) (hg : (D.order bb x == some .gt) = true) : bb = b ∧ bb < 18446744073709551616 := by
  rcases h with h | ⟨h1, _, _⟩
  · exact h
  · rw [order_nan (.inl h1)] at hg; cases hg
end Go.Proofs.YbulkdswcDoor
