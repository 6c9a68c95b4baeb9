import Derived.Test.YbulkdsyuC4
namespace Go.Proofs.Ybulkdsyu
open Go Go.RowKit Go.Maps Go.WideMaps Go.WideElems

set_option maxHeartbeats 2000000 in
set_option maxRecDepth 100000 in
theorem values_at (v : Value) (w : World) (p : Option Addr) (n cap : Nat) (hv : v = .slice p n cap) :
    Calls Yba.prog 20 #[v] w fun e w' => e = .returned (.func (.func 23) #[] #[.pointer (some ⟨w.heap.size, 0, none⟩)]) ∧ w' = w.alloc (.cells #[v] 55) := by
  subst hv
  go_enter Yba.func20, Yba.ntmps20
  go_wp2
  go_ret
  exact ⟨rfl, rfl⟩

/-- What slices.Sorted(slices.Values(lc)) lays beside the member's change. -/
structure Sorted1 (w : World) (xs : List Int) (pv : Option Addr) (cv : Nat) (w' : World) : Prop where
  row : w'.ownsRow w.heap.size 3 1 (.slice pv xs.length cv) xs.length ((xs.mergeSort (fun x y => decide (x ≤ y))).map encZ)
  nil : Value.slice pv xs.length cv = .slice none 0 0 ↔ xs = []
  below : Below w.heap.size w w'

theorem sorted_here (Bc Gh kk : Nat) (v6 vk : Value) (p : Option Addr) (n cap : Nat) (xs : List Int) (w W : World) (hlen : xs.length = n) (hn : n ≤ 4096) (hx : IntsAt w w.heap.size p n (fun i => xs.getD i 0))
    (lc : Bc < w.heap.size) (lh : Gh < w.heap.size) (c6 : w.cell? ⟨Bc, 6, none⟩ = some v6) (ck : w.cell? ⟨Gh, kk, none⟩ = some vk) (fk : w.frozen? ⟨Gh, kk, none⟩ = false)
    (h1 : W.heap = w.heap.push (.cells #[.slice p n cap] 55 (0, 0))) (h2 : W.os = w.os) (h3 : W.tape = w.tape) (h4 : W.output = w.output) :
    Calls Yba.prog 19 #[.func (.func 23) #[] #[.pointer (some ⟨w.heap.size, 0, none⟩)]] W fun e w' => ∃ pv cv, e = .returned (.slice pv n cv) ∧ w'.cell? ⟨Bc, 6, none⟩ = some v6 ∧ w'.cell? ⟨Gh, kk, none⟩ = some vk ∧ w'.frozen? ⟨Gh, kk, none⟩ = false ∧ Hid (Sorted1 w xs pv cv w') := by
  subst hlen
  have hs : W.heap.size = w.heap.size + 1 := by rw [h1]; simp
  have hb : Below w.heap.size w W := ⟨h2, h3, h4, by omega, fun k hk => by rw [h1, Array.getElem?_push]; simp [Nat.ne_of_lt hk]⟩
  have hbox : W.cell? ⟨w.heap.size, 0, none⟩ = some (.slice p xs.length cap) := by simp [World.cell?, h1]
  refine (sorted_values w.heap.size p xs.length cap xs rfl (by omega) W (by omega) hbox (fun i hi => ?_)).mono ?_
  · obtain ⟨b, off, e, hbl, hc⟩ := hx i hi
    refine ⟨_, e, by show b < _; omega, ?_⟩
    rw [Addr.add_lit]
    exact (hb.cell (p := ⟨b, off + i, none⟩) hbl).trans hc
  · rintro e w' ⟨v, rfl, hrow, hnil, hbel⟩
    obtain ⟨pv, cv, rfl⟩ := ownsRow_form hrow
    have hbw : Below w.heap.size w w' := hb.trans (hbel.mono (by omega))
    refine ⟨pv, cv, rfl, (hbw.cell (p := ⟨Bc, 6, none⟩) lc).trans c6, (hbw.cell (p := ⟨Gh, kk, none⟩) lh).trans ck, ?_, ⟨ownsRow_base_a hrow (by omega), hnil, hbw⟩⟩
    have : w'.frozen? ⟨Gh, kk, none⟩ = w.frozen? ⟨Gh, kk, none⟩ := World.frozen?_of_block (w := w) (hbw.block _ lh)
    rw [this, fk]

/-- A transport.Copy of one message. -/
def copyCells (k : Int × Int) : Array Value := #[.int .i64 k.1, .slice none 0 0, .slice none 0 0, .int .u64 k.2, .int .u64 0, .slice none 0 0, .slice none 0 0, .slice none 0 0, .slice none 0 0]

/-- The places and data of one call of heard. -/
structure HC where
  (Bmem Bc Gh size kk N Gc : Nat)
  (hv cf : Nat → Value)
  p : Option Addr
  (n cap : Nat)
  xs : List Int
  ks0 : List (Int × Int)
  ps0 : List Nat
  ks : List (Int × Int)
  ps : List Nat
  mo : Option Nat

/-- The call's own rows, where they lie before and behind it. -/
structure Own (c : HC) (w : World) : Prop where
  gc : w.rowIs c.Gc 73 c.N (fun i => ptr (c.ps.getD i 0))
  cp : ∀ i, i < c.N → w.heap[c.ps.getD i 0]? = some (.cells (copyCells (c.ks.getD i (0, 0))) 77 (0, 0))

structure Pre (c : HC) (w : World) : Prop where
  own : Own c w
  m : w.cell? ⟨c.Bmem, 67, none⟩ = some (.pointer (some ⟨c.Bc, 0, none⟩))
  ch : w.rowIs c.Bc 89 21 c.cf
  h6 : c.cf 6 = .slice (some ⟨c.Gh, 0, none⟩) c.size c.size
  h8 : c.cf 8 = .map c.mo
  row : w.rowIs c.Gh 55 c.size c.hv
  hk : c.kk < c.size
  hsz : c.size ≤ 16
  len : c.xs.length = c.n
  hn : c.n ≤ 4096
  ints : IntsAt w w.heap.size c.p c.n (fun i => c.xs.getD i 0)
  lks : c.ks.length = c.N
  lps : c.ps.length = c.N
  hN : c.N ≤ 4096
  lps0 : c.ps0.length = c.ks0.length
  lks0 : c.ks0.length ≤ 4096
  wf : ∀ k ∈ c.ks, KWf k
  wf0 : ∀ k ∈ c.ks0, KWf k
  map : (c.mo = none ∧ c.ks0 = [] ∧ c.ps0 = []) ∨ ∃ bm D, c.mo = some bm ∧ w.ownsMap Yba.prog 72 ptrElem bm c.ks0.length D ∧ DictL c.ks0 c.ps0 D

/-- Behind the sort, and behind the making of the map. -/
structure Mid (c : HC) (w : World) (pv : Option Addr) (cv : Nat) (mo' : Option Nat) (W : World) : Prop where
  own : Own c W
  ch : W.rowIs c.Bc 89 21 (fun i => if i = 8 then .map mo' else c.cf i)
  row : W.rowIs c.Gh 55 c.size (fun i => if i = c.kk then .slice pv c.n cv else c.hv i)
  srow : W.ownsRow w.heap.size 3 1 (.slice pv c.n cv) c.n ((c.xs.mergeSort (fun x y => decide (x ≤ y))).map encZ)
  nil : Value.slice pv c.n cv = .slice none 0 0 ↔ c.xs = []
  os : W.os = w.os
  tape : W.tape = w.tape
  output : W.output = w.output
  size : w.heap.size ≤ W.heap.size
  frame : ∀ b, b < w.heap.size → b ≠ c.Gh → b ≠ c.Bc → c.mo ≠ some b → W.heap[b]? = w.heap[b]?
  map : (mo' = none ∧ c.mo = none ∧ c.ks0 = [] ∧ c.ps0 = []) ∨ ∃ bm D, mo' = some bm ∧ (c.mo = some bm ∨ w.heap.size ≤ bm) ∧ W.ownsMap Yba.prog 72 ptrElem bm c.ks0.length D ∧ DictL c.ks0 c.ps0 D

theorem rowIs_ne {w : World} {b b' : Nat} {t t' : TypeId} {n n' : Nat} {f f' : Nat → Value} (h : w.rowIs b t n f) (h' : w.rowIs b' t' n' f') (hne : t ≠ t') : b ≠ b' := by
  rintro rfl
  obtain ⟨cur, e, _⟩ := h
  obtain ⟨cur', e', _⟩ := h'
  rw [e] at e'
  simp at e'
  exact hne e'.2
theorem rowIs_ne_cells {w : World} {b b' : Nat} {t t' : TypeId} {n : Nat} {f : Nat → Value} {cs : Array Value} {fr : Nat × Nat} (h : w.rowIs b t n f) (h' : w.heap[b']? = some (.cells cs t' fr)) (hne : t ≠ t') : b ≠ b' := by
  rintro rfl
  obtain ⟨cur, e, _⟩ := h
  rw [e] at h'
  simp at h'
  exact hne h'.2.1
theorem rowIs_ne_map {w : World} {b b' : Nat} {t : TypeId} {n m : Nat} {f : Nat → Value} {D : DataW Unit} (h : w.rowIs b t n f) (h' : w.ownsMap Yba.prog 72 ptrElem b' m D) : b ≠ b' := by
  rintro rfl
  obtain ⟨cur, e, _⟩ := h
  obtain ⟨es, cl, e', _⟩ := h'
  rw [e] at e'
  simp at e'
theorem cells_ne_map {w : World} {b b' : Nat} {t : TypeId} {m : Nat} {cs : Array Value} {fr : Nat × Nat} {D : DataW Unit} (h : w.heap[b]? = some (.cells cs t fr)) (h' : w.ownsMap Yba.prog 72 ptrElem b' m D) : b ≠ b' := by
  rintro rfl
  obtain ⟨es, cl, e', _⟩ := h'
  rw [h] at e'
  simp at e'
theorem ownsMap_of_block {w w' : World} {b m : Nat} {D : DataW Unit} (h : w.ownsMap Yba.prog 72 ptrElem b m D) (e : w'.heap[b]? = w.heap[b]?) : w'.ownsMap Yba.prog 72 ptrElem b m D := by
  obtain ⟨es, cl, e', r⟩ := h
  exact ⟨es, cl, e.trans e', r⟩
theorem ownsRow_of_block {w w' : World} {B : Nat} {e : TypeId} {sz : Nat} {v : Value} {n : Nat} {xs : List Value} (h : w.ownsRow B e sz v n xs) (hb : ∀ g, v.ownBlock = some g → w'.heap[g]? = w.heap[g]?) : w'.ownsRow B e sz v n xs := by
  refine ⟨h.1, ?_⟩
  rcases h.2 with h1 | ⟨g, cap, cur, hv, h2, h3, h4⟩
  · exact .inl h1
  · exact .inr ⟨g, cap, cur, hv, h2, (hb g (by rw [hv]; rfl)).trans h3, h4⟩

theorem Own.of_blocks {c : HC} {w w' : World} (h : Own c w) (hb : ∀ (b : Nat) (cs : Array Value) (t : TypeId), w.heap[b]? = some (Obj.cells cs t (0, 0)) → t ≠ 55 → t ≠ 89 → w'.heap[b]? = w.heap[b]?) : Own c w' := by
  refine ⟨?_, fun i hi => (hb _ _ _ (h.cp i hi) (by decide) (by decide)).trans (h.cp i hi)⟩
  obtain ⟨cur, e, r⟩ := h.gc
  exact h.gc.of_block (hb _ _ _ e (by decide) (by decide))

theorem Mid.start {c : HC} {w w' : World} {pv : Option Addr} {cv : Nat} (h : Pre c w) (hs : Sorted1 w c.xs pv cv w') : Mid c w pv cv c.mo (w'.setCell ⟨c.Gh, c.kk, none⟩ (.slice pv c.n cv)) := by
  have hB := hs.below
  have blk : ∀ b, b < w.heap.size → b ≠ c.Gh → (w'.setCell ⟨c.Gh, c.kk, none⟩ (.slice pv c.n cv)).heap[b]? = w.heap[b]? := fun b hb hne =>
    (Below.heap_setCell w' ⟨c.Gh, c.kk, none⟩ _ b hne).trans (hB.block b hb)
  have hlt : ∀ {b : Nat} {o : Obj}, w.heap[b]? = some o → b < w.heap.size := fun h => (Array.getElem?_eq_some_iff.1 h).1
  have hsr := hs.row
  rw [h.len] at hsr
  have hnl := hs.nil
  rw [h.len] at hnl
  refine ⟨h.own.of_blocks fun b cs t e n1 n2 => blk b (hlt e) (fun e1 => rowIs_ne_cells h.row e (Ne.symm n1) e1.symm), ?_, ?_, ?_, hnl, hB.os, hB.tape, hB.output, ?_, fun b hb h1 _ _ => blk b hb h1, ?_⟩
  · refine (h.ch.of_block (blk _ h.ch.lt (rowIs_ne h.ch h.row (by decide)))).congr fun i hi => ?_
    by_cases e : i = 8
    · rw [if_pos e, e, h.h8]
    · rw [if_neg e]
  · exact (h.row.of_block (hB.block _ h.row.lt)).set c.kk _
  · refine ownsRow_of_block hsr fun g hg => Below.heap_setCell w' ⟨c.Gh, c.kk, none⟩ _ g ?_
    rintro rfl
    obtain ⟨cur, e⟩ := ownsRow_block hsr hg
    have h1 := h.row.of_block (hB.block _ h.row.lt)
    exact rowIs_ne_cells h1 e (by decide) rfl
  · have := hB.size
    simp [World.setCell]
    exact this
  · rcases h.map with ⟨h1, h2⟩ | ⟨bm, D, h1, h2, h3⟩
    · exact .inl ⟨h1, h1, h2⟩
    · exact .inr ⟨bm, D, h1, .inl h1, ownsMap_of_block h2 (blk _ h2.lt (fun e => rowIs_ne_map h.row h2 e.symm)), h3⟩

theorem Mid.made {c : HC} {w W : World} {pv : Option Addr} {cv : Nat} (h : Mid c w pv cv none W) : Mid c w pv cv (some W.heap.size) ((W.setCell ⟨c.Bc, 8, none⟩ (.map (some W.heap.size))).alloc (.map #[] 0)) := by
  have hsz : (W.setCell ⟨c.Bc, 8, none⟩ (.map (some W.heap.size))).heap.size = W.heap.size := by simp [World.setCell]
  have blk : ∀ b, b < W.heap.size → b ≠ c.Bc → ((W.setCell ⟨c.Bc, 8, none⟩ (.map (some W.heap.size))).alloc (.map #[] 0)).heap[b]? = W.heap[b]? := fun b hb hne =>
    (Below.heap_alloc _ _ b (by rw [hsz]; exact hb)).trans (Below.heap_setCell _ ⟨c.Bc, 8, none⟩ _ b hne)
  have hlt : ∀ {b : Nat} {o : Obj}, W.heap[b]? = some o → b < W.heap.size := fun h => (Array.getElem?_eq_some_iff.1 h).1
  refine ⟨h.own.of_blocks fun b cs t e n1 n2 => blk b (hlt e) (fun e1 => rowIs_ne_cells h.ch e (Ne.symm n2) e1.symm), ?_, h.row.of_block (blk _ h.row.lt (rowIs_ne h.row h.ch (by decide))), ?_, h.nil, h.os, h.tape, h.output, ?_, fun b hb h1 h2 h3 => (blk b (Nat.lt_of_lt_of_le hb h.size) h2).trans (h.frame b hb h1 h2 h3), ?_⟩
  · refine ((h.ch.set 8 _).alloc _).congr fun i hi => ?_
    by_cases e : i = 8
    · simp [e]
    · simp [e]
  · refine ownsRow_of_block h.srow fun g hg => ?_
    obtain ⟨cur, e⟩ := ownsRow_block h.srow hg
    exact blk g (hlt e) (fun e1 => rowIs_ne_cells h.ch e (by decide) e1.symm)
  · have := h.size
    simp only [World.size_alloc, hsz]
    omega
  · rcases h.map with ⟨_, h1, h2, h3⟩ | ⟨bm, D, h1, _⟩
    · refine .inr ⟨W.heap.size, .map [], rfl, .inr h.size, ?_, ?_⟩
      · rw [h2]
        have := World.ownsMap_made (W.setCell ⟨c.Bc, 8, none⟩ (.map (some W.heap.size))) Yba.prog 72 ptrElem
        rw [hsz] at this
        exact this
      · rw [h2, h3]; exact DictL.empty
    · cases h1

/-- What a call of heard leaves. -/
structure Post (c : HC) (w : World) (pv : Option Addr) (cv bm : Nat) (W : World) : Prop where
  own : Own c W
  ch : W.rowIs c.Bc 89 21 (fun i => if i = 8 then .map (some bm) else c.cf i)
  row : W.rowIs c.Gh 55 c.size (fun i => if i = c.kk then .slice pv c.n cv else c.hv i)
  srow : W.ownsRow w.heap.size 3 1 (.slice pv c.n cv) c.n ((c.xs.mergeSort (fun x y => decide (x ≤ y))).map encZ)
  nil : Value.slice pv c.n cv = .slice none 0 0 ↔ c.xs = []
  os : W.os = w.os
  tape : W.tape = w.tape
  output : W.output = w.output
  size : w.heap.size ≤ W.heap.size
  frame : ∀ b, b < w.heap.size → b ≠ c.Gh → b ≠ c.Bc → c.mo ≠ some b → W.heap[b]? = w.heap[b]?
  map : ∃ D, W.ownsMap Yba.prog 72 ptrElem bm (c.ks0.length + c.N) D ∧ DictL (c.ks0 ++ c.ks) (c.ps0 ++ c.ps) D

/-- In the loop over the copies. -/
structure Put (c : HC) (bm : Nat) (W : World) (k : Nat) (wr : World) : Prop where
  grown : W.grownBy wr (some bm)
  map : ∃ D, wr.ownsMap Yba.prog 72 ptrElem bm (c.ks0.length + k) D ∧ DictL (c.ks0 ++ c.ks.take k) (c.ps0 ++ c.ps.take k) D

theorem Mid.post {c : HC} {w W : World} {pv : Option Addr} {cv bm : Nat} {wr : World} (h : Mid c w pv cv (some bm) W) (hpre : Pre c w) (hp : Put c bm W c.N wr) : Post c w pv cv bm wr := by
  obtain ⟨bm', D, e, hloc, hm, hD⟩ : ∃ bm' D, some bm = some bm' ∧ (c.mo = some bm' ∨ w.heap.size ≤ bm') ∧ W.ownsMap Yba.prog 72 ptrElem bm' c.ks0.length D ∧ DictL c.ks0 c.ps0 D := by
    rcases h.map with ⟨h1, _⟩ | h1
    · cases h1
    · exact h1
  cases e
  have hlt : ∀ {b : Nat} {o : Obj}, W.heap[b]? = some o → b < W.heap.size := fun h => (Array.getElem?_eq_some_iff.1 h).1
  have blk : ∀ b, b < W.heap.size → b ≠ bm → wr.heap[b]? = W.heap[b]? := fun b hb hne => hp.grown.block b hb (fun e => hne (by cases e; rfl))
  refine ⟨h.own.of_blocks fun b cs t e n1 n2 => blk b (hlt e) (cells_ne_map e hm), h.ch.of_block (blk _ h.ch.lt (rowIs_ne_map h.ch hm)), h.row.of_block (blk _ h.row.lt (rowIs_ne_map h.row hm)), ?_, h.nil, hp.grown.os.trans h.os, hp.grown.tape.trans h.tape, hp.grown.output.trans h.output,
    Nat.le_trans h.size hp.grown.size, fun b hb h1 h2 h3 => (blk b (Nat.lt_of_lt_of_le hb h.size) ?_).trans (h.frame b hb h1 h2 h3), ?_⟩
  · refine ownsRow_of_block h.srow fun g hg => ?_
    obtain ⟨cur, e⟩ := ownsRow_block h.srow hg
    exact blk g (hlt e) (cells_ne_map e hm)
  · rintro rfl
    rcases hloc with h4 | h4
    · exact h3 h4
    · omega
  · obtain ⟨D', h1, h2⟩ := hp.map
    rw [List.take_of_length_le (Nat.le_of_eq hpre.lks), List.take_of_length_le (Nat.le_of_eq hpre.lps)] at h2
    exact ⟨D', h1, h2⟩

end Go.Proofs.Ybulkdsyu
