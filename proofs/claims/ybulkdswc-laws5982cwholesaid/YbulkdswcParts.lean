import Derived.Test.YbulkdswcShelf
import Derived.Test.YbulkdswcSearch
import Derived.Test.YbulkdswcFloat
import Derived.Sort.OwnSortedInts
namespace Go.Proofs.Ybulkdswc
open Go Go.RowKit Go.Sort

theorem info29 : (Yba.prog.info? 29).map (fun i => (i.zero, i.size, i.bytes)) = some (some (.agg #[.int .i64 0, .float .f64 0]), 2, 16) := by kernel_rfl

def zrow (n : Nat) : Array Value := madeCells #[.int .i64 0, .float .f64 0] (n * 2)
theorem zrow_size (n : Nat) : (zrow n).size = n * 2 := by simp [zrow, size_madeCells]

theorem run_make29 (n : Nat) (h : n ≤ 1048576) (w : World) : (Instr.makeSlice 26 (.int .i64 (n : Int)) (.int .i64 (n : Int))).run Yba.prog w = .ok (.slice (some ⟨w.heap.size, 0, none⟩) n n) (w.alloc (.cells (zrow n) 29)) := by
  obtain ⟨i0, hi, hz0, hz1, hz2⟩ := info_parts info29
  have hr := run_make (P := Yba.prog) w 26 29 i0 _ Yba.underlying26 hi hz0 .i64 .i64 n n (by omega) (Int.le_refl _) (by rw [hz2]; omega) (by omega)
  simp only [Int.toNat_natCast, hz1] at hr
  exact hr

/-- After k rounds: the first k points are laid. -/
def laidP (s : Nat → Int) (r : Nat → Nat) (k c : Nat) : Value := if c < k * 2 then pts s r c else pts (fun _ => 0) (fun _ => 0) c

theorem zrow_at (s : Nat → Int) (r : Nat → Nat) (n i : Nat) (h : i < n * 2) : (zrow n)[i]? = some (laidP s r 0 i) := by
  simp [zrow, madeCells, h, laidP, pts]
  have : i % 2 < 2 := Nat.mod_lt _ (by decide)
  match hm : i % 2, this with
  | 0, _ => rfl
  | 1, _ => rfl

theorem laid_lo (s : Nat → Int) (r : Nat → Nat) (k c : Nat) (h : c < k * 2) : laidP s r k c = pts s r c := by unfold laidP; rw [if_pos h]
theorem laid_hi (s : Nat → Int) (r : Nat → Nat) (k c : Nat) (h : k * 2 ≤ c) : laidP s r k c = pts (fun _ => 0) (fun _ => 0) c := by unfold laidP; rw [if_neg (by omega)]

theorem row_step {wr : World} {G n k : Nat} {s : Nat → Int} {r : Nat → Nat} (h : wr.rowIs G 29 (n * 2) (laidP s r k)) :
    ((wr.setCell ⟨G, k * 2, none⟩ (.int .i64 (s k))).setCell ⟨G, k * 2 + 1, none⟩ (.float .f64 (r k))).rowIs G 29 (n * 2) (laidP s r (k + 1)) := by
  refine ((h.set _ _).set _ _).congr ?_
  intro i hi
  by_cases h1 : i = k * 2 + 1
  · subst h1; rw [if_pos rfl, laid_lo _ _ _ _ (by omega), pts_odd]
  by_cases h0 : i = k * 2
  · subst h0; rw [if_neg (by omega), if_pos rfl, laid_lo _ _ _ _ (by omega), pts_even]
  rw [if_neg h1, if_neg h0]
  by_cases hlo : i < k * 2
  · rw [laid_lo _ _ _ _ hlo, laid_lo _ _ _ _ (by omega)]
  · rw [laid_hi _ _ _ _ (by omega), laid_hi _ _ _ _ (by omega)]

theorem pts_one (s : Nat → Int) (r : Nat → Nat) (c : Nat) : (pts s r c).oneCell' = true := by
  unfold pts
  split <;> rfl

theorem rowIs_drewN {w : World} {b t n : Nat} {f : Nat → Value} (h : w.rowIs b t n f) (q : Nat) : (w.drewN q).rowIs b t n f := h

/-- What before := make(..); copy(before, h) does. -/
theorem run_copyC {wr : World} {g1 n : Nat} {s : Nat → Int} {r : Nat → Nat} (hrow : wr.rowIs g1 29 (n * 2) (pts s r)) :
    ∃ w3, (Builtin.copy_ #[26, 26] 3 #[.slice (some ⟨wr.heap.size, 0, none⟩) n n, .slice (some ⟨g1, 0, none⟩) n n]).run Yba.prog (wr.alloc (.cells (zrow n) 29)) = .ok (.int .i64 (n : Int)) w3 ∧
      w3.rowIs g1 29 (n * 2) (pts s r) ∧ w3.rowIs wr.heap.size 29 (n * 2) (pts s r) ∧ Below wr.heap.size wr w3 := by
  have h1 : (wr.alloc (.cells (zrow n) 29)).heap[wr.heap.size]? = some (.cells (zrow n) 29 (0, 0)) := heap_alloc_new _ _
  have h2 := hrow.alloc (.cells (zrow n) 29)
  have hlen : ((List.range (n * 2)).map (pts s r)).length = Nat.min n n * 2 := by simp
  have hr := run_copy_rowK Yba.prog (wr.alloc (.cells (zrow n) 29)) 26 26 3 29 2 wr.heap.size 0 n n ⟨g1, 0, none⟩ n n (zrow n) 29 ((List.range (n * 2)).map (pts s r)) Yba.underlying26 (by kernel_rfl) h1 hlen
    (by
      intro j v hj
      have hjl : j < n * 2 := by have := (List.getElem?_eq_some_iff.1 hj).1; simpa using this
      have : v = pts s r j := by simpa [hjl] using hj.symm
      subst this
      have := h2.cell hjl
      rw [Addr.add_lit, Nat.zero_add]
      exact this)
    (by rw [hlen, zrow_size]; simp)
    (by
      intro v hv
      obtain ⟨c, _, rfl⟩ := List.mem_map.1 hv
      exact pts_one _ _ _)
  refine ⟨_, ?_, ?_, rowIs_copied h1 (zrow_size n), ?_⟩
  · rw [hr]; simp [goInt]
  · exact h2.of_block (setRow_other _ _ _ _ (by have := hrow.lt; omega))
  · exact below_setRow ((Below.refl _ _).alloc (Nat.le_refl _) _) (Nat.le_refl _) _

/-- The sorted numbers. -/
def srt (zs : List Int) : List Int := zs.mergeSort fun x y => decide (x ≤ y)

theorem srt_length (zs : List Int) : (srt zs).length = zs.length := by simp [srt]

theorem srt_mono (zs : List Int) (a b : Nat) (h : a ≤ b) (hb : b < zs.length) : (srt zs).getD a 0 ≤ (srt zs).getD b 0 := by
  have hp := List.pairwise_mergeSort (le := fun x y : Int => decide (x ≤ y)) (fun a b c h1 h2 => by simp at h1 h2 ⊢; omega) (fun a b => by simp; omega) zs
  have hl := srt_length zs
  rcases Nat.lt_or_eq_of_le h with hlt | rfl
  · have := List.pairwise_iff_getElem.1 hp a b (by rw [← hl] at hb; exact Nat.lt_trans hlt hb) (by rw [← hl] at hb; exact hb) hlt
    simp only [srt, List.getD_eq_getElem?_getD]
    rw [List.getElem?_eq_getElem (by rw [← hl] at hb; exact Nat.lt_trans hlt hb), List.getElem?_eq_getElem (by rw [← hl] at hb; exact hb)]
    simpa using this
  · exact Int.le_refl _

/-- Behind the sort: the row's cells, and that nothing old has turned. -/
theorem after_sort {w w1 w2 : World} {g cap n q : Nat} {zs : List Int} {cur : Array Value} {os : Array Obj} (hn : zs.length = n) (hbase : w.heap.size ≤ g) (hb : Below w.heap.size w w1)
    (hblk : w1.heap[g]? = some (.cells cur 2 (0, 0))) (h1 : n ≤ cap) (h2 : cap ≤ maxLen) (h3 : cur.size = cap * 1)
    (hw2 : w2 = grow (putRow (Value.int .i64) (Sort.ahead w1 q) g 0 (zs.mergeSort fun x y => decide (x ≤ y)).toArray) os) :
    (∀ j, j < n → w2.cell? ⟨g, j, none⟩ = some (.int .i64 ((srt zs).getD j 0))) ∧ Below w.heap.size w w2 ∧ g < w2.heap.size := by
  have hl : (zs.mergeSort fun x y : Int => decide (x ≤ y)).length = zs.length := by simp
  have ho := ownsRow_sortedI (n := q) (os := os) (ts := zs.mergeSort fun x y : Int => decide (x ≤ y)) hl hbase hblk (by omega) h2 h3
  rw [← hw2] at ho
  have hg := grownBy_sortedI (w := w1) (g := g) (n := q) (os := os) (zs.mergeSort fun x y : Int => decide (x ≤ y)).toArray
  rw [← hw2] at hg
  have hb2 : Below w.heap.size w w2 := hb.grown hg hb.size (fun j hj => by cases hj; exact hbase)
  refine ⟨fun j hj => ?_, hb2, ?_⟩
  · have := ho.cellAt j (by omega)
    rw [this]
    have hjs : j < (srt zs).length := by rw [srt_length]; omega
    show ((srt zs).map (Value.int .i64))[j]? = _
    rw [List.getElem?_map, List.getElem?_eq_getElem hjs]
    simp [List.getD_eq_getElem?_getD, List.getElem?_eq_getElem hjs]
  · have := (Array.getElem?_eq_some_iff.1 hblk).1
    have := hg.size
    omega
end Go.Proofs.Ybulkdswc
