import Derived.Test.YbulkdsyuC2
namespace Go.Proofs.Ybulkdsyu
open Go Go.RowKit

theorem getD_swap (z : Array Int) (i j : Nat) (hi : i < z.size) (hj : j < z.size) (p : Nat) :
    (z.swap i j hi hj).getD p 0 = if p = i then z.getD j 0 else if p = j then z.getD i 0 else z.getD p 0 := by
  simp only [Array.getD_eq_getD_getElem?, Array.getElem?_swap]
  by_cases h1 : p = i
  · subst h1
    by_cases h2 : j = p
    · subst h2; simp [hi]
    · simp [h2, hj]
  · by_cases h2 : p = j
    · subst h2; simp [h1, hi]
    · simp [h1, h2, Ne.symm h1, Ne.symm h2]

/-- Sorted below m. -/
def SortedTo (z : Array Int) (m : Nat) : Prop := ∀ p q, p < q → q < m → z.getD p 0 ≤ z.getD q 0

/-- While one element is being put in its place: it lies at j. -/
structure Putting (z : Array Int) (i j : Nat) : Prop where
  rest : ∀ p q, p < q → q ≤ i → p ≠ j → q ≠ j → z.getD p 0 ≤ z.getD q 0
  above : ∀ q, j < q → q ≤ i → z.getD j 0 ≤ z.getD q 0

theorem Putting.start {z : Array Int} {i : Nat} (h : SortedTo z i) : Putting z i i :=
  ⟨fun p q hpq hq _ hqi => h p q hpq (by omega), fun q hq hqi => by omega⟩

theorem Putting.step {z : Array Int} {i j : Nat} (h : Putting z i (j + 1)) (hj : j + 1 < z.size) (hgt : z.getD (j + 1) 0 < z.getD j 0) : Putting (z.swap (j + 1) j hj (by omega)) i j := by
  refine ⟨fun p q hpq hq hp hq' => ?_, fun q hq hqi => ?_⟩
  · rw [getD_swap, getD_swap]
    by_cases e1 : q = j + 1
    · rw [if_neg (by omega), if_neg hp, if_pos e1]
      exact h.rest p j (by omega) (by omega) (by omega) (by omega)
    · by_cases e2 : p = j + 1
      · rw [if_pos e2, if_neg e1, if_neg hq']
        exact h.rest j q (by omega) hq (by omega) e1
      · rw [if_neg e2, if_neg hp, if_neg e1, if_neg hq']
        exact h.rest p q hpq hq e2 e1
  · rw [getD_swap, getD_swap, if_neg (by omega), if_pos rfl]
    by_cases e1 : q = j + 1
    · rw [if_pos e1]; omega
    · rw [if_neg e1, if_neg (by omega)]
      exact h.above q (by omega) hqi

theorem Putting.done {z : Array Int} {i j : Nat} (h : Putting z i j) (hd : j = 0 ∨ z.getD (j - 1) 0 ≤ z.getD j 0) : SortedTo z (i + 1) := by
  intro p q hpq hq
  by_cases e1 : q = j
  · subst e1
    rcases hd with hd | hd
    · omega
    · by_cases e2 : p = q - 1
      · rw [e2]; exact hd
      · exact Int.le_trans (h.rest p (q - 1) (by omega) (by omega) (by omega) (by omega)) hd
  · by_cases e2 : p = j
    · subst e2; exact h.above q hpq (by omega)
    · exact h.rest p q hpq (by omega) e2 e1

theorem sorted_is {z : Array Int} {xs : List Int} (hp : z.Perm xs.toArray) (hs : SortedTo z z.size) : z.toList = xs.mergeSort (fun x y => decide (x ≤ y)) := by
  have tr : ∀ a b c : Int, decide (a ≤ b) = true → decide (b ≤ c) = true → decide (a ≤ c) = true := fun a b c h1 h2 => by simp only [decide_eq_true_eq] at *; omega
  have to : ∀ a b : Int, (decide (a ≤ b) || decide (b ≤ a)) = true := fun a b => by simp only [Bool.or_eq_true, decide_eq_true_eq]; omega
  refine List.Perm.eq_of_pairwise (le := fun a b => decide (a ≤ b) = true) (fun a b _ _ h1 h2 => ?_) ?_ (List.pairwise_mergeSort tr to xs) (List.Perm.trans (Array.perm_iff_toList_perm.1 hp) (List.mergeSort_perm xs _).symm)
  · simp only [decide_eq_true_eq] at h1 h2; omega
  · rw [List.pairwise_iff_getElem]
    intro p q hp' hq' hpq
    have := hs p q hpq (by simpa using hq')
    simp at hp' hq'
    simp only [Array.getD_eq_getD_getElem?, Array.getElem?_eq_getElem hp', Array.getElem?_eq_getElem hq', Option.getD_some] at this
    simpa using this

theorem run_make3 (n : Nat) (h : n ≤ 4096) (w : World) : (Instr.makeSlice 55 (.int .i64 (n : Int)) (.int .i64 (n : Int))).run Yba.prog w = .ok (.slice (some ⟨w.heap.size, 0, none⟩) n n) (w.alloc (.cells (madeCells #[.int .i64 0] n) 3)) :=
  run_make_row' 55 3 (.int .i64 0) 8 Yba.underlying55 (by kernel_rfl) rfl .i64 .i64 n (by omega) (by omega) w

def encAt (z : Array Int) (i : Nat) : Value := .int .i64 (z.getD i 0)

theorem rowOf (xs : List Int) (w : World) (b off n cap : Nat) (hc : ∀ i, i < n → w.cell? ⟨b, off + i, none⟩ = some (.int .i64 (xs.getD i 0))) (hb : b < w.heap.size) :
    ∃ w1, (Builtin.copy_ #[55, 55] 3 #[.slice (some ⟨w.heap.size, 0, none⟩) n n, .slice (some ⟨b, off, none⟩) n cap]).run Yba.prog (w.alloc (.cells (madeCells #[.int .i64 0] n) 3)) = .ok (goInt (n : Nat)) w1 ∧
      w1.rowIs w.heap.size 3 n (encAt xs.toArray) ∧ Below w.heap.size w w1 := by
  have hg : (w.alloc (.cells (madeCells #[.int .i64 0] n) 3)).heap[w.heap.size]? = some (.cells (madeCells #[.int .i64 0] n) 3 (0, 0)) := World.alloc_heap_new w _
  have hsz : (madeCells #[.int .i64 0] n).size = n := by
    obtain ⟨cur, h1, h2, _⟩ := World.rowIs_made w (.int .i64 0) n 3
    rw [hg] at h1
    simp at h1
    rw [h1]; exact h2
  have hlr : ((List.range n).map (encAt xs.toArray)).length = n := by simp
  have hrun := run_copy_rowK Yba.prog (w.alloc (.cells (madeCells #[.int .i64 0] n) 3)) 55 55 3 3 1 w.heap.size 0 n n ⟨b, off, none⟩ n cap _ 3 ((List.range n).map (encAt xs.toArray)) Yba.underlying55 (by kernel_rfl) hg
    (by rw [hlr]; simp) (fun j v hj => by
      have hjn : j < n := by have := (List.getElem?_eq_some_iff.1 hj).1; rw [hlr] at this; exact this
      rw [List.getElem?_map, List.getElem?_range hjn] at hj
      simp only [Option.map_some, Option.some.injEq] at hj
      subst hj
      have : (w.alloc (.cells (madeCells #[.int .i64 0] n) 3)).cell? ⟨b, off + j, none⟩ = w.cell? ⟨b, off + j, none⟩ := World.cell?_of_block (w := w) (Below.heap_alloc _ _ b hb)
      rw [Addr.add_lit, this, hc j hjn]
      simp [encAt, List.getD_eq_getElem?_getD]) (by rw [hlr, hsz]; omega) (fun v hv => by
      simp at hv
      obtain ⟨j, _, rfl⟩ := hv
      rfl)
  rw [show Nat.min n n = n by simp] at hrun
  exact ⟨_, hrun, rowIs_copied hg hsz, below_setRow ((Below.refl _ w).alloc (Nat.le_refl _) _) (Nat.le_refl _) _⟩

set_option maxHeartbeats 4000000 in
set_option maxRecDepth 100000 in
theorem csorted_at (b off n cap : Nat) (xs : List Int) (hlen : xs.length = n) (hn : n ≤ 4096) (w : World) (hc : ∀ i, i < n → w.cell? ⟨b, off + i, none⟩ = some (.int .i64 (xs.getD i 0))) (hb : b < w.heap.size) :
    Calls Yba.prog 17 #[.slice (some ⟨b, off, none⟩) n cap] w fun e w' => e = .returned (.slice (some ⟨w.heap.size, 0, none⟩) n n) ∧
      w'.rowIs w.heap.size 3 n (fun i => .int .i64 ((xs.mergeSort (fun x y => decide (x ≤ y))).getD i 0)) ∧ Below w.heap.size w w' := by
  have hmk := run_make3 n hn w
  obtain ⟨w1, hcopy, hrow1, hb1⟩ := rowOf xs w b off n cap hc hb
  have HROW : Hid (w1.rowIs w.heap.size 3 n (encAt xs.toArray)) := hrow1
  have HB : Hid (Below w.heap.size w w1) := hb1
  have HL : Hid (xs.length = n) := hlen
  clear hrow1 hb1 hc hb hlen
  have hn1 : (n : Int) ≤ 4096 := by omega
  go_enter Yba.func17, Yba.ntmps17
  go_wp2
  clear hmk hcopy
  go_loopw [4] (fun vi wr => ∃ (i : Nat) (z : Array Int), 1 ≤ i ∧ (i ≤ n ∨ i = 1) ∧ vi = .int .i64 i ∧ z.size = n ∧ z.Perm xs.toArray ∧ SortedTo z i ∧ wr.rowIs w.heap.size 3 n (encAt z) ∧ Below w.heap.size w wr) (fun vi _ => n - (intOf vi).toNat)
  case atStart => exact ⟨1, xs.toArray, Nat.le_refl _, .inr rfl, rfl, by simp [HL.out], Array.Perm.refl _, fun p q h1 h2 => by omega, HROW.out, HB.out⟩
  case round =>
    obtain ⟨i, z, hi1, hi2, rfl, hz, hp, hs, hrow, hbel⟩ := hrel
    have hi0 : (1 : Int) ≤ (i : Int) := by omega
    by_cases hin : i < n
    · have hin1 : (i : Int) < (n : Int) := by omega
      have c0 : wr.cell? ⟨w.heap.size, i, none⟩ = some (.int .i64 (z.getD i 0)) := hrow.cell hin
      obtain ⟨v, hv⟩ : ∃ v, z.getD i 0 = v := ⟨_, rfl⟩
      rw [hv] at c0
      have H : Hid (z.getD i 0 = v ∧ z.size = n ∧ z.Perm xs.toArray ∧ SortedTo z i ∧ wr.rowIs w.heap.size 3 n (encAt z) ∧ Below w.heap.size w wr) := ⟨hv, hz, hp, hs, hrow, hbel⟩
      clear hv hz hp hs hrow hbel
      go_wp2
      clear c0
      obtain ⟨wo, hwo⟩ : ∃ wo : World, wo = wr := ⟨_, rfl⟩
      rw [← hwo] at H
      rw [← hwo]
      clear hwo
      go_loopw [6] (fun vj wr => ∃ (j : Nat) (z : Array Int), j ≤ i ∧ vj = .int .i64 j ∧ z.getD j 0 = v ∧ z.size = n ∧ z.Perm xs.toArray ∧ Putting z i j ∧ (∃ f, (∀ p, p < n → p ≠ j → f p = encAt z p) ∧ wr.rowIs w.heap.size 3 n f) ∧ Below w.heap.size w wr) (fun vj _ => (intOf vj).toNat)
      case atStart =>
        obtain ⟨hv, hz, hp, hs, hrow, hbel⟩ := H.out
        exact ⟨i, z, Nat.le_refl _, rfl, hv, hz, hp, Putting.start hs, ⟨_, fun _ _ _ => rfl, hrow⟩, hbel⟩
      case round =>
        clear H
        obtain ⟨j, z, hji, rfl, hv, hz, hp, hP, ⟨f, hf, hrow⟩, hbel⟩ := hrel
        have hj0 : (0 : Int) ≤ (j : Int) := by omega
        have hj4 : (j : Int) < (n : Int) := by omega
        have fr : ∀ q, wr.frozen? ⟨w.heap.size, q, none⟩ = false := fun q => hrow.frozen q
        by_cases hj : j = 0
        · subst hj
          have cj : wr.cell? ⟨w.heap.size, 0, none⟩ = some (f 0) := hrow.cell (by omega)
          have frj := fr 0
          have FIN : Hid (SortedTo z (i + 1) ∧ z.size = n ∧ z.Perm xs.toArray ∧ (wr.setCell ⟨w.heap.size, 0, none⟩ (.int .i64 v)).rowIs w.heap.size 3 n (encAt z) ∧ Below w.heap.size w (wr.setCell ⟨w.heap.size, 0, none⟩ (.int .i64 v))) := by
            refine ⟨hP.done (.inl rfl), hz, hp, (hrow.set 0 _).congr fun p hpn => ?_, hbel.setCell (Nat.le_refl _) _⟩
            by_cases e : p = 0
            · simp [e, encAt, hv]
            · simp [e]; exact hf p hpn e
          clear hP hp hf hrow hbel fr hv
          go_wp2
          go_roundw
          case rel =>
            go_light
            obtain ⟨f1, f2, f3, f4, f5⟩ := FIN.out
            exact ⟨i + 1, z, by omega, .inl (by omega), by go_num, f2, f3, f1, f4, f5⟩
          case measure => simp [intOf]; omega
        · obtain ⟨j', rfl⟩ : ∃ j', j = j' + 1 := ⟨j - 1, by omega⟩
          have cj : wr.cell? ⟨w.heap.size, j', none⟩ = some (.int .i64 (z.getD j' 0)) := by
            have := hrow.cell (show j' < n by omega)
            rw [hf j' (by omega) (by omega)] at this
            exact this
          have ck : wr.cell? ⟨w.heap.size, j' + 1, none⟩ = some (f (j' + 1)) := hrow.cell (by omega)
          have frj := fr (j' + 1)
          have hjj : (0 : Int) ≤ (j' : Int) := by omega
          by_cases hgt : v < z.getD j' 0
          · have FIN : Hid (∃ z' : Array Int, z'.getD j' 0 = v ∧ z'.size = n ∧ z'.Perm xs.toArray ∧ Putting z' i j' ∧ (∃ f, (∀ p, p < n → p ≠ j' → f p = encAt z' p) ∧ (wr.setCell ⟨w.heap.size, j' + 1, none⟩ (.int .i64 (z.getD j' 0))).rowIs w.heap.size 3 n f) ∧ Below w.heap.size w (wr.setCell ⟨w.heap.size, j' + 1, none⟩ (.int .i64 (z.getD j' 0)))) := by
              refine ⟨z.swap (j' + 1) j' (by omega) (by omega), ?_, by simpa using hz, (Array.swap_perm _ _).trans hp, hP.step (by omega) (by omega), ⟨_, ?_, hrow.set (j' + 1) _⟩, hbel.setCell (Nat.le_refl _) _⟩
              · rw [getD_swap, if_neg (by omega), if_pos rfl, hv]
              · intro p hpn hpj
                simp only [encAt]
                rw [getD_swap]
                by_cases e : p = j' + 1
                · simp [e]
                · rw [if_neg e, if_neg e, if_neg hpj]; exact hf p hpn e
            generalize z.getD j' 0 = u at cj hgt FIN
            clear hP hp hf hrow hbel fr hv hz
            go_wp2
            go_roundw
            case rel =>
              go_light
              obtain ⟨z', f1, f2, f3, f4, f5, f6⟩ := FIN.out
              exact ⟨j', z', by omega, by go_num, f1, f2, f3, f4, f5, f6⟩
            case measure => simp [intOf]
          · have FIN : Hid (SortedTo z (i + 1) ∧ z.size = n ∧ z.Perm xs.toArray ∧ (wr.setCell ⟨w.heap.size, j' + 1, none⟩ (.int .i64 v)).rowIs w.heap.size 3 n (encAt z) ∧ Below w.heap.size w (wr.setCell ⟨w.heap.size, j' + 1, none⟩ (.int .i64 v))) := by
              refine ⟨hP.done (.inr (by rw [hv]; exact Int.not_lt.1 hgt)), hz, hp, (hrow.set (j' + 1) _).congr fun p hpn => ?_, hbel.setCell (Nat.le_refl _) _⟩
              by_cases e : p = j' + 1
              · simp [e, encAt, hv]
              · simp [e]; exact hf p hpn e
            generalize z.getD j' 0 = u at cj hgt
            clear hP hp hf hrow hbel fr hv
            go_wp2
            go_roundw
            case rel =>
              go_light
              obtain ⟨f1, f2, f3, f4, f5⟩ := FIN.out
              exact ⟨i + 1, z, by omega, .inl (by omega), by go_num, f2, f3, f1, f4, f5⟩
            case measure => simp [intOf]; omega
    · have hin1 : ¬ (i : Int) < (n : Int) := by omega
      have FIN : Hid (wr.rowIs w.heap.size 3 n (fun i => .int .i64 ((xs.mergeSort (fun x y => decide (x ≤ y))).getD i 0)) ∧ Below w.heap.size w wr) := by
        refine ⟨?_, hbel⟩
        have hs' : SortedTo z z.size := fun p q h1 h2 => hs p q h1 (by omega)
        rw [← sorted_is hp hs']
        refine hrow.congr fun p hpn => ?_
        simp [encAt, List.getD_eq_getElem?_getD]
      clear hp hs hrow hbel
      go_wp2
      go_ret
      exact ⟨rfl, FIN.out⟩
end Go.Proofs.Ybulkdsyu
