import Derived.Test.YbulkdswcDoorShelf
import Derived.Test.YbulkdswcDoorS14
import Derived.Test.YbulkdswcDoorU3
namespace Go.Proofs.YbulkdswcDoor
open Go Ieee Go.RowKit Go.Sort Go.Shelf Go.Lib

/-! ### Floats that are no less than +0: their order is that of Nat -/
theorem order_pos {x y : Nat} (hx : x ≤ 9218868437227405312) (hy : y ≤ 9218868437227405312) : D.order x y = some (compare (x : Int) (y : Int)) := order_word false false hx hy

theorem pos_gt {x y : Nat} (hx : x ≤ 9218868437227405312) (hy : y ≤ 9218868437227405312) : (D.order x y == some .gt) = decide (y < x) := by
  rw [order_pos hx hy]
  rcases Nat.lt_trichotomy x y with h | h | h
  · rw [cmp_lt (by omega)]; simp; omega
  · rw [cmp_eq (by omega)]; simp; omega
  · rw [cmp_gt (by omega)]; simp; omega
theorem pos_eq {x y : Nat} (hx : x ≤ 9218868437227405312) (hy : y ≤ 9218868437227405312) : (D.order x y == some .eq) = decide (x = y) := by
  rw [order_pos hx hy]
  rcases Nat.lt_trichotomy x y with h | h | h
  · rw [cmp_lt (by omega)]; simp; omega
  · rw [cmp_eq (by omega)]; simp; omega
  · rw [cmp_gt (by omega)]; simp; omega
theorem pos_lt {x y : Nat} (hx : x ≤ 9218868437227405312) (hy : y ≤ 9218868437227405312) : (D.order x y == some .lt) = decide (x < y) := by
  rw [order_pos hx hy]
  rcases Nat.lt_trichotomy x y with h | h | h
  · rw [cmp_lt (by omega)]; simp; omega
  · rw [cmp_eq (by omega)]; simp; omega
  · rw [cmp_gt (by omega)]; simp; omega

theorem fkey_pos {x : Nat} (hx : x ≤ 9218868437227405312) : fkey x = (x : Int) := by
  unfold fkey
  rw [Nat.mod_eq_of_lt (show x < 9223372036854775808 by omega), if_neg (by omega), Nat.div_eq_of_lt (by omega)]
  rfl
theorem ltF_pos {x y : Nat} (hx : x ≤ 9218868437227405312) (hy : y ≤ 9218868437227405312) : ltF x y = decide (x < y) := by
  rw [ltF_eq, fkey_pos hx, fkey_pos hy]
  simp

/-! ### slices.Compact at such floats -/
abbrev PF := Fin (9218868437227405312 + 1)
theorem PF_le (x : PF) : x.1 ≤ 9218868437227405312 := Nat.le_of_lt_succ x.2
abbrev encP (x : PF) : Value := .float .f64 x.1

theorem oneP : OneCell encP := fun _ => rfl
theorem eqlP : EqlAt Ybad.prog 23 encP (fun x y => decide (x = y)) := by
  refine ⟨fun x y w => ?_, fun op a b x y w => (EqlAt.float Ybad.prog 23 .f64).2 op a b x.1 y.1 w⟩
  have := (EqlAt.float Ybad.prog 23 .f64).1 x.1 y.1 w
  have e : (FloatKind.f64.format.order x.1 y.1 == some .eq) = decide (x = y) := (pos_eq (PF_le x) (PF_le y)).trans (decide_eq_decide.2 Fin.ext_iff.symm)
  exact this.trans (congrArg (fun b => Result.ok (Value.bool b) w) e)
theorem neqP : NeqAt Ybad.prog 23 encP (fun x y => decide (x = y)) := by
  refine ⟨fun x y w => ?_, fun op a b x y w => (NeqAt.float Ybad.prog 23 .f64).2 op a b x.1 y.1 w⟩
  have := (NeqAt.float Ybad.prog 23 .f64).1 x.1 y.1 w
  have e : (FloatKind.f64.format.order x.1 y.1 == some .eq) = decide (x = y) := (pos_eq (PF_le x) (PF_le y)).trans (decide_eq_decide.2 Fin.ext_iff.symm)
  exact this.trans (congrArg (fun b => Result.ok (Value.bool !b) w) e)

theorem compact_strict (d : Array PF) (hs : ∀ i j, i < j → j < d.size → d[i]!.1 ≤ d[j]!.1) : ∀ m, m ≤ d.size → (compactUpTo d m).Pairwise (fun a b => a.1 < b.1) ∧ ∀ x, x ∈ compactUpTo d m ↔ ∃ j, j < m ∧ d[j]! = x
  | 0, _ => ⟨by simp [compactUpTo], by simp [compactUpTo]⟩
  | m + 1, hm => by
    obtain ⟨h1, h2⟩ := compact_strict d hs m (by omega)
    rw [compactUpTo_succ]
    cases hk : keeps d m with
    | false =>
      simp only [Bool.false_eq_true, if_false, List.append_nil]
      refine ⟨h1, fun x => ?_⟩
      rw [h2]
      have hm0 : 0 < m ∧ d[m]! = d[m - 1]! := by
        unfold keeps at hk
        simp only [decide_eq_false_iff_not, not_or, Decidable.not_not] at hk
        exact ⟨by omega, hk.2⟩
      constructor
      · rintro ⟨j, hj, e⟩; exact ⟨j, by omega, e⟩
      · rintro ⟨j, hj, e⟩
        by_cases hj2 : j < m
        · exact ⟨j, hj2, e⟩
        · have : j = m := by omega
          subst this
          exact ⟨j - 1, by omega, by rw [← hm0.2]; exact e⟩
    | true =>
      simp only [if_true]
      refine ⟨?_, fun x => ?_⟩
      · rw [List.pairwise_append]
        refine ⟨h1, List.pairwise_singleton _ _, fun a ha b hb => ?_⟩
        rw [List.mem_singleton] at hb
        subst hb
        obtain ⟨j, hj, rfl⟩ := (h2 a).1 ha
        have hne : d[m]! ≠ d[m - 1]! := by
          unfold keeps at hk
          simp only [decide_eq_true_eq] at hk
          rcases hk with h | h
          · omega
          · exact h
        have h3 := hs (m - 1) m (by omega) (by omega)
        have h4 : d[m - 1]!.1 < d[m]!.1 := by
          rcases Nat.lt_or_ge d[m - 1]!.1 d[m]!.1 with h | h
          · exact h
          · exact absurd (Fin.ext (Nat.le_antisymm h h3)) hne
        by_cases hj2 : j = m - 1
        · subst hj2; exact h4
        · exact Nat.lt_of_le_of_lt (hs j (m - 1) (by omega) (by omega)) h4
      · rw [List.mem_append, h2, List.mem_singleton]
        constructor
        · rintro (⟨j, hj, e⟩ | rfl)
          · exact ⟨j, by omega, e⟩
          · exact ⟨m, by omega, rfl⟩
        · rintro ⟨j, hj, e⟩
          by_cases hj2 : j < m
          · exact .inl ⟨j, hj2, e⟩
          · have : j = m := by omega
            subst this
            exact .inr e.symm

def toPF (x : Nat) : PF := ⟨min x 9218868437227405312, Nat.lt_succ_of_le (Nat.min_le_right _ _)⟩
theorem toPF_at (d : Array Nat) (hd : ∀ i, i < d.size → d[i]! ≤ 9218868437227405312) {j : Nat} (hj : j < d.size) : ((d.map toPF)[j]!).1 = d[j]! := by
  have h1 := hd j hj
  rw [getElem!_pos _ j hj] at h1
  rw [getElem!_pos _ j (by simpa using hj), getElem!_pos _ j hj, Array.getElem_map]
  exact Nat.min_eq_left h1

theorem zeroF (w : World) : (zeroValue 23).run Ybad.prog w = .ok (encP ⟨0, by omega⟩) w := by kernel_rfl

theorem compact_f {blk cap : Nat} (d : Array Nat) (hd : ∀ i, i < d.size → d[i]! ≤ 9218868437227405312) (hs : SortedIn ltF 0 d.size d) (w : World) (hH : Holds encF w blk 0 d) (hcap : d.size ≤ cap) (hsz : d.size ≤ 9000) :
    Calls Ybad.prog 21 #[.slice (some ⟨blk, 0, none⟩) d.size cap] w fun e w' => ∃ C : List Nat, e = .returned (.slice (some ⟨blk, 0, none⟩) C.length cap) ∧ C.Pairwise (· < ·) ∧ (∀ x, x ∈ C ↔ ∃ j, j < d.size ∧ d[j]! = x) ∧
      (∀ i x, C[i]? = some x → w'.cell? ⟨blk, i, none⟩ = some (.float .f64 x)) ∧ Below blk w w' ∧ C.length ≤ d.size := by
  have hms : (d.map toPF).size = d.size := Array.size_map
  have hat : ∀ {j}, j < d.size → ((d.map toPF)[j]!).1 = d[j]! := fun hj => toPF_at d hd hj
  have hH2 : Holds encP w blk 0 (d.map toPF) := fun j hj => by
    rw [hms] at hj
    have := hH j hj
    exact ⟨by rw [this.1]; exact congrArg (fun x => some (Value.float .f64 x)) (hat hj).symm, this.2⟩
  have hss : ∀ i j, i < j → j < (d.map toPF).size → ((d.map toPF)[i]!).1 ≤ ((d.map toPF)[j]!).1 := fun i j hij hj => by
    rw [hms] at hj
    rw [hat (by omega), hat hj]
    have := hs i j (Nat.zero_le _) hij hj
    rw [ltF_pos (hd j hj) (hd i (by omega))] at this
    simp only [decide_eq_false_iff_not] at this
    omega
  obtain ⟨h1, h2⟩ := compact_strict (d.map toPF) hss (d.map toPF).size (Nat.le_refl _)
  have hc := Ybad.slices_Compact encP oneP eqlP neqP ⟨0, by omega⟩ zeroF blk 0 cap (d.map toPF) w hH2 (by omega) (by omega)
  have hle : (compactUpTo (d.map toPF) (d.map toPF).size).length ≤ (d.map toPF).size := by
    unfold compactUpTo
    rw [List.length_map]
    exact Nat.le_trans (List.length_filter_le _ _) (by simp)
  rw [hms] at hc
  refine hc.mono ?_
  rw [hms] at h1 h2 hle
  generalize compactUpTo (d.map toPF) d.size = C at *
  rintro e w' ⟨rfl, q, hw'⟩
  refine ⟨C.map Fin.val, by rw [List.length_map], ?_, fun x => ?_, fun i x hx => ?_, ?_, by rw [List.length_map]; exact hle⟩
  · rw [List.pairwise_map]; exact h1
  · rw [List.mem_map]
    constructor
    · rintro ⟨y, hy, rfl⟩
      obtain ⟨j, hj, rfl⟩ := (h2 y).1 hy
      exact ⟨j, hj, (hat hj).symm⟩
    · rintro ⟨j, hj, rfl⟩
      exact ⟨_, (h2 _).2 ⟨j, hj, rfl⟩, hat hj⟩
  · rw [List.getElem?_map] at hx
    obtain ⟨y, hy, rfl⟩ := Option.map_eq_some_iff.1 hx
    have hi := (List.getElem?_eq_some_iff.1 hy).1
    have hsz2 : (C ++ List.replicate (d.size - C.length) (⟨0, by omega⟩ : PF)).toArray.size = (d.map toPF).size := by simp; omega
    have := cell?_putRow encP w blk 0 (d.map toPF) (C ++ List.replicate (d.size - C.length) (⟨0, by omega⟩ : PF)).toArray hH2 hsz2 i (by simp; omega)
    rw [hw', putRow_ahead]
    show (putRow encP w blk 0 _).cell? _ = _
    rw [Nat.zero_add] at this
    rw [this]
    have e2 : (C ++ List.replicate (d.size - C.length) (⟨0, by omega⟩ : PF)).toArray[i]! = y := by
      obtain ⟨_, e⟩ := List.getElem?_eq_some_iff.1 hy
      rw [getElem!_pos _ i (by simp; omega)]
      simp only [List.getElem_toArray]
      rw [List.getElem_append_left hi]
      exact e
    rw [e2]
  · rw [hw', putRow_ahead]
    refine ⟨rfl, rfl, rfl, by simp [Sort.ahead], fun k hk => ?_⟩
    show (putRow encP w blk 0 _).heap[k]? = _
    simp [putRow, mapBlock, Array.getElem?_modify, show blk ≠ k by omega]

/-! ### A list of floats in a row of one's own -/
structure KF (w : World) (l : List Nat) (p : Option Addr) (n c : Nat) (wr : World) : Prop where
  row : wr.ownsRow w.heap.size (23 : Nat) 1 (.slice p n c) n (l.map encF)
  len : l.length = n
  below : Below w.heap.size w wr

theorem KF.at_ {w wr : World} {l : List Nat} {p : Option Addr} {n c : Nat} (h : KF w l p n c wr) {i k : Nat} (hi : l[i]? = some k) : ∃ g, p = some ⟨g, 0, none⟩ ∧ wr.cell? ⟨g, i, none⟩ = some (.float .f64 k) := by
  have hlt := (List.getElem?_eq_some_iff.1 hi).1
  obtain ⟨g, e, _, _, hc⟩ := rowAt h.row (i := i) (by rw [← h.len]; exact hlt)
  exact ⟨g, e, by rw [hc, List.getElem?_map, hi]; rfl⟩

theorem KF.push {w wr : World} {l : List Nat} {p : Option Addr} {n c : Nat} (h : KF w l p n c wr) (hn : n ≤ 9000) (k : Nat) :
    ∃ g c2 w2, (Builtin.append_ #[24, 24] 24 #[.slice p n c, .slice (some ⟨wr.heap.size, 0, none⟩) 1 1]).run Ybad.prog (wr.alloc (.cells #[.float .f64 k] 23)) = .ok (.slice (some ⟨g, 0, none⟩) (n + 1) c2) w2 ∧ KF w (l ++ [k]) (some ⟨g, 0, none⟩) (n + 1) c2 w2 := by
  obtain ⟨g, c2, w2, h1, h2, h3⟩ := append_one (ty := 24) (.float .f64 k) Ybad.underlying24 info23 rfl rfl h.row h.below.size hn
  exact ⟨g, c2, w2, h1, by rw [List.map_append]; exact h2, by simp [h.len], h.below.trans h3⟩

theorem KF.one (w wr : World) (h : Below w.heap.size w wr) (k : Nat) : KF w [k] (some ⟨wr.heap.size, 0, none⟩) 1 1 (wr.alloc (.cells #[.float .f64 k] 23)) := by
  refine ⟨⟨rfl, .inr ⟨wr.heap.size, 1, #[.float .f64 k], rfl, h.size, ?_, Nat.le_refl _, by decide, rfl, rfl⟩⟩, rfl, h.alloc h.size _⟩
  unfold World.alloc; simp

/-- The row, moved on by a callee that turns nothing of it. -/
theorem KF.next {w wr w1 : World} {l : List Nat} {p : Option Addr} {n c : Nat} (h : KF w l p n c wr) (hb : Below wr.heap.size wr w1) : KF w l p n c w1 := by
  refine ⟨⟨h.row.1, ?_⟩, h.len, h.below.trans (hb.mono h.below.size)⟩
  rcases h.row.2 with e | ⟨g, cap, cur, e, hlo, hg, rest⟩
  · exact .inl e
  · exact .inr ⟨g, cap, cur, e, hlo, (hb.block g (Array.getElem?_eq_some_iff.1 hg).1).trans hg, rest⟩

theorem KF.holds {w wr : World} {l : List Nat} {p : Option Addr} {n c : Nat} (h : KF w l p n c wr) (hn : 0 < n) : ∃ g, p = some ⟨g, 0, none⟩ ∧ w.heap.size ≤ g ∧ g < wr.heap.size ∧ n ≤ c ∧ Holds encF wr g 0 l.toArray := by
  rcases id h.row.2 with ⟨_, e⟩ | ⟨g, cap, cur, e, hlo, hg, h1, h2, h3, h4⟩
  · omega
  · cases e
    refine ⟨g, rfl, hlo, (Array.getElem?_eq_some_iff.1 hg).1, h1, fun j hj => ?_⟩
    have hj2 : j < l.length := by simpa using hj
    obtain ⟨g', e', hc⟩ := h.at_ (List.getElem?_eq_getElem hj2)
    cases e'
    refine ⟨?_, by simp [World.frozen?, hg]⟩
    rw [Nat.zero_add, hc, getElem!_pos _ j hj]
    simp
end Go.Proofs.YbulkdswcDoor
